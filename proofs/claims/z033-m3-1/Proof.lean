import JvmDerived
import JvmDerived.Pilot.@@N@@Statement
import JvmDerived.Pilot.@@N@@Code
set_option linter.unusedVariables false
set_option linter.unusedSimpArgs false
namespace Jvm.RoadKit
open Sem ClassFile Op Lib Jvm.Stand Jvm.Free Jvm.LawKit
section New
variable {p : Program} {l : Launch} {e : Env} {R : Room} {s : State} {m : MethodId} {args : Array Value} {below : List Frame} {meth : Method} {c : Code} {T : State} {locs : List Loc} {cells slots : Nat}
theorem retI (X : Stand p l e R s m args below meth c T locs cells slots) (hx : p.tables.exec = Jvm.exec) {pc : Nat} {Ls : Array Slot} {z : Int32} {rest : List Value} (hret : meth.sig.returnType = some .int) (hd : decode c.code pc = .ok (.ireturn, 1)) {fs : List Frame}
    (hl : ∀ (f : JFrame) (acts : List Action), f.method = m → f.locked = none → f.entered = [] → (doReturn e (T.setTop f) acts (some (.int z))).1 = T.setFrames fs) : Steps p.tables e below (T.setTop (mkF m pc Ls (.int z :: rest))) (T.setFrames fs) := by
  have hm' : T.vm.method? m = some meth := X.method'
  have hn : narrow .int (.int z) = .int z := rfl
  show Steps p.tables e below (T.setTop { method := m, pc := pc, locals := Ls, stack := _ :: rest, locked := none }) _
  jvm_step X.here [X.here.top, hx, hd, hm', hret, hn]
  first | (intro acts; rw [hl _ acts rfl rfl rfl]) | rw [hl _ _ rfl rfl rfl]
  exact Steps.refl _
end New
end Jvm.RoadKit
namespace Jvm.Pilot.@@N@@
open Jvm Jvm.ClassFile Sem Op Lib Jvm.Free Jvm.Stand Jvm.LawKit Jvm.RoadKit Bundle Jvm.Pilot.@@N@@.Jvm.D
def own_G (tb : Tables) (e : Env) (below : List Frame) (P : State → Outcome → Prop) (st : State) : Prop := ∃ t o, Steps tb e below st t ∧ P t o
theorem own_go {tb : Tables} {e : Env} {below : List Frame} {P : State → Outcome → Prop} {st st' : State} (k : ∀ target, Steps tb e below st' target → Steps tb e below st target) (h : own_G tb e below P st') : own_G tb e below P st := by
  obtain ⟨t, o, h1, h2⟩ := h; exact ⟨t, o, k t h1, h2⟩
theorem own_tr {tb : Tables} {e : Env} {below : List Frame} {P : State → Outcome → Prop} {st st' : State} (k : Steps tb e below st st') (h : own_G tb e below P st') : own_G tb e below P st := by
  obtain ⟨t, o, h1, h2⟩ := h; exact ⟨t, o, k.trans h1, h2⟩
def own_E (below : List Frame) (s : State) (k n : Nat) (Q : Option Value → Heap → List Loc → Prop) (t : State) (o : Outcome) : Prop := t.status = .running ∧ Ended t below o ∧ ∃ v L, o = .returned v ∧ Q v t.heap L ∧ FrameEnd s o t L k n
section OwnRet
variable {p : Program} {l : Launch} {e : Env} {R : Room} {s : State} {m : MethodId} {args : Array Value} {below : List Frame} {meth : Method} {c : Code} {T : State} {locs : List Loc} {cells slots : Nat}
theorem own_retI (X : Stand p l e R s m args below meth c T locs cells slots) (hx : p.tables.exec = Jvm.exec) {pc : Nat} {Ls : Array Slot} {z : Int32} {rest : List Value} (hret : meth.sig.returnType = some .int) (hlk : meth.locks = false) (hd : decode c.code pc = .ok (.ireturn, 1)) {Q : Option Value → Heap → List Loc → Prop} {k n : Nat} (hk : cells ≤ k) (hn : slots ≤ n) {h : Heap} (eT : T.heap = h) (hQ : Q (some (.int z)) h locs) : own_G p.tables e below (own_E below s k n Q) (T.setTop (mkF m pc Ls (.int z :: rest))) := by
  obtain ⟨fs, hr, hrun, hended, hW, hsame⟩ := X.leave (v := some (.int z)) (fun h => by rw [hret] at h; cases h) hlk
  subst eT
  exact ⟨_, _, retI X hx hret hd hr, hrun, hended, _, _, rfl, hQ, ⟨_, rfl⟩, hW, hsame.mono hk hn⟩
theorem own_retN (X : Stand p l e R s m args below meth c T locs cells slots) (hx : p.tables.exec = Jvm.exec) {pc : Nat} {Ls : Array Slot} {z : Int32} {t : FieldType} {rest : List Value} (hret : meth.sig.returnType = some t) (ht : t = .boolean ∨ t = .byte ∨ t = .char ∨ t = .short) (hlk : meth.locks = false) (hd : decode c.code pc = .ok (.ireturn, 1)) {Q : Option Value → Heap → List Loc → Prop} {k n : Nat} (hk : cells ≤ k) (hn : slots ≤ n) {h : Heap} (eT : T.heap = h) (hQ : Q (some (.int (nar t z))) h locs) : own_G p.tables e below (own_E below s k n Q) (T.setTop (mkF m pc Ls (.int z :: rest))) := by
  obtain ⟨fs, hr, hrun, hended, hW, hsame⟩ := X.leave (v := some (.int (nar t z))) (fun h => by rw [hret] at h; cases h) hlk
  subst eT
  exact ⟨_, _, retN X hx hret ht hd hr, hrun, hended, _, _, rfl, hQ, ⟨_, rfl⟩, hW, hsame.mono hk hn⟩
theorem own_retV (X : Stand p l e R s m args below meth c T locs cells slots) (hx : p.tables.exec = Jvm.exec) {pc : Nat} {Ls : Array Slot} (hret : meth.sig.returnType = none) (hlk : meth.locks = false) (hd : decode c.code pc = .ok (.return_, 1)) {Q : Option Value → Heap → List Loc → Prop} {k n : Nat} (hk : cells ≤ k) (hn : slots ≤ n) {h : Heap} (eT : T.heap = h) (hQ : Q none h locs) : own_G p.tables e below (own_E below s k n Q) (T.setTop (mkF m pc Ls [])) := by
  obtain ⟨fs, hr, hrun, hended, hW, hsame⟩ := X.leave (v := none) (fun _ => rfl) hlk
  subst eT
  exact ⟨_, _, X.returnOut hx hret hd hr, hrun, hended, _, _, rfl, hQ, ⟨_, rfl⟩, hW, hsame.mono hk hn⟩
theorem own_retJ (X : Stand p l e R s m args below meth c T locs cells slots) (hx : p.tables.exec = Jvm.exec) {pc : Nat} {Ls : Array Slot} {z : Int64} {rest : List Value} (hret : meth.sig.returnType = some .long) (hlk : meth.locks = false) (hd : decode c.code pc = .ok (.lreturn, 1)) {Q : Option Value → Heap → List Loc → Prop} {k n : Nat} (hk : cells ≤ k) (hn : slots ≤ n) {h : Heap} (eT : T.heap = h) (hQ : Q (some (.long z)) h locs) : own_G p.tables e below (own_E below s k n Q) (T.setTop (mkF m pc Ls (.long z :: rest))) := by
  obtain ⟨fs, hr, hrun, hended, hW, hsame⟩ := X.leave (v := some (.long z)) (fun h => by rw [hret] at h; cases h) hlk
  subst eT
  refine ⟨_, _, ?_, hrun, hended, _, _, rfl, hQ, ⟨_, rfl⟩, hW, hsame.mono hk hn⟩
  jvm_step X.here [X.here.top, hx, hd, X.method', hret, narrow]
  first | (intro acts; rw [hr _ acts rfl rfl rfl]) | rw [hr _ _ rfl rfl rfl]
  exact Steps.refl _
theorem own_retR (X : Stand p l e R s m args below meth c T locs cells slots) (hx : p.tables.exec = Jvm.exec) {pc : Nat} {Ls : Array Slot} {a : Addr} {ty : FieldType} {rest : List Value} (hret : meth.sig.returnType = some ty) (hty : ty.isReference = true) (hlk : meth.locks = false) (hd : decode c.code pc = .ok (.areturn, 1)) {Q : Option Value → Heap → List Loc → Prop} {k n : Nat} (hk : cells ≤ k) (hn : slots ≤ n) {h : Heap} (eT : T.heap = h) (hQ : Q (some (.ref a)) h locs) : own_G p.tables e below (own_E below s k n Q) (T.setTop (mkF m pc Ls (.ref a :: rest))) := by
  obtain ⟨fs, hr, hrun, hended, hW, hsame⟩ := X.leave (v := some (.ref a)) (fun h => by rw [hret] at h; cases h) hlk
  subst eT
  refine ⟨_, _, ?_, hrun, hended, _, _, rfl, hQ, ⟨_, rfl⟩, hW, hsame.mono hk hn⟩
  jvm_step X.here [X.here.top, hx, hd, X.method', hret, Value.isRef, hty]
  first | (intro acts; rw [hr _ acts rfl rfl rfl]) | rw [hr _ _ rfl rfl rfl]
  exact Steps.refl _
end OwnRet
theorem own_selfsel {s : State} {args : Array Value} {y y' : MethodName} (hs : (Cond.selects y.cls y' y').before args s = true) (hyc : y'.cls = y.cls) (hpriv : s.PrivateAt y) (hinst : (Cond.instanceMethod y).before args s = true) (hy : y.cls ≠ "java/lang/invoke/MethodHandle" ∧ y.cls ≠ "java/lang/invoke/VarHandle") : (Cond.selects y.cls y y).before args s = true := by
  obtain ⟨c, r, mm, h1, -, h3, -, mk, h5, h6⟩ := Cond.selects_spec hs
  have h7 := findClass_of_methodNamed h3
  rw [hyc] at h7
  exact selects_self_of_private h7 h5 h6 hpriv hinst hy
theorem own_irem (x y : Int32) : x - (x / y) * y = x % y := by
  have h1 := rng32 (x % y)
  apply Int32.toInt_inj.mp
  rw [Int32.toInt_mod] at h1 ⊢
  rw [Int32.toInt_sub, Int32.toInt_mul, Int32.toInt_div, Int.bmod_mul_bmod, Int.sub_bmod_bmod, show x.toInt - x.toInt.tdiv y.toInt * y.toInt = x.toInt.tmod y.toInt from by rw [Int.tmod_def, Int.mul_comm]]
  exact Int.bmod_eq_of_le_mul_two (by omega) (by omega)
def own_A (Z : State) (h : Heap) (a : Addr) (ty : FieldType) (N : Nat) (f : Nat → Value) : Prop := ∃ c : Cell, Arr Z h a c ty ∧ c.slots.size = N ∧ ∀ j, j < N → c.slots[j]? = some (f j)
def own_upd (f : Nat → Value) (i : Nat) (v : Value) : Nat → Value := fun j => if j = i then v else f j
theorem own_upd_same (f : Nat → Value) (i : Nat) (v : Value) : own_upd f i v i = v := if_pos rfl
theorem own_upd_ne (f : Nat → Value) {i j : Nat} (v : Value) (h : j ≠ i) : own_upd f i v j = f j := if_neg h
theorem own_A.lt {Z : State} {h : Heap} {a : Addr} {ty : FieldType} {N : Nat} {f : Nat → Value} (F : own_A Z h a ty N f) : a < h.size := by obtain ⟨c, A, -⟩ := F; exact A.lt
theorem own_A.ext {Z : State} {h h' : Heap} {a : Addr} {ty : FieldType} {N : Nat} {f : Nat → Value} (F : own_A Z h a ty N f) (E : Ext h h') : own_A Z h' a ty N f := by obtain ⟨c, A, r⟩ := F; exact ⟨c, A.ext E, r⟩
theorem own_A.other {Z : State} {h h' : Heap} {a b : Addr} {sl : Nat} {v : Value} {ty : FieldType} {N : Nat} {f : Nat → Value} (F : own_A Z h b ty N f) (W : Wr h h' a sl v) (q : b ≠ a) : own_A Z h' b ty N f := by obtain ⟨c, A, r⟩ := F; exact ⟨c, A.other W q, r⟩
theorem own_A.keep {Z : State} {h h' : Heap} {a : Addr} {ws : List Addr} {ty : FieldType} {N : Nat} {f : Nat → Value} (F : own_A Z h a ty N f) (K : Keep h h' ws) (q : a ∉ ws) : own_A Z h' a ty N f := by obtain ⟨c, A, r⟩ := F; exact ⟨c, ⟨K.2.1 a c A.1 q, A.2⟩, r⟩
theorem own_A.new {Z : State} {h : Heap} {a : Addr} {k : ClassId} {ty : FieldType} {z : Int32} {N : Nat} (A : Arr Z h a (newA k ty z) ty) (q : z.toNatClampNeg = N) : own_A Z h a ty N (fun _ => defaultValue ty) :=
  ⟨_, A, (sz_new _ _ _).trans q, fun j hj => by rw [← q] at hj; simp [newA, hj]⟩
theorem own_A.set {Z : State} {h h' : Heap} {a : Addr} {ty : FieldType} {N : Nat} {f : Nat → Value} (F : own_A Z h a ty N f) {i : Nat} {v : Value} (W : Wr h h' a i v) : own_A Z h' a ty N (own_upd f i v) := by
  obtain ⟨c, A, S, H⟩ := F
  refine ⟨_, A.same W, by rw [sz_set]; exact S, fun j hj => ?_⟩
  by_cases u : j = i
  · subst u
    rw [own_upd_same]
    simp only [Cell.setSlot]
    exact Array.getElem?_setIfInBounds_self_of_lt (by rw [S]; exact hj)
  · rw [own_upd_ne _ _ u]
    simp only [Cell.setSlot]
    rw [Array.getElem?_setIfInBounds_ne (fun q => u q.symm)]
    exact H j hj
theorem own_A.congr {Z : State} {h : Heap} {a : Addr} {ty : FieldType} {N : Nat} {f g : Nat → Value} (F : own_A Z h a ty N f) (q : ∀ j, j < N → f j = g j) : own_A Z h a ty N g := by
  obtain ⟨c, A, S, H⟩ := F; exact ⟨c, A, S, fun j hj => by rw [← q j hj]; exact H j hj⟩
theorem own_inb {c : Cell} {N : Nat} {j : Int32} (S : c.slots.size = N) (h0 : 0 ≤ j.toInt) (h1 : j.toInt < (N : Int)) : ¬ (j < 0 ∨ c.slots.size ≤ j.toNatClampNeg) := by
  rw [S]
  have e0 : (0 : Int32).toInt = 0 := rfl
  simp only [Int32.lt_iff_toInt_lt, Int32.toNatClampNeg, e0]; omega
theorem own_stI {p : Program} {l : Launch} {e : Env} {R : Room} {s : State} {m : MethodId} {args : Array Value} {below : List Frame} {meth : Method} {c : Code} {T : State} {locs : List Loc} {cells slots : Nat} {Z : State} {h : Heap}
    (X : Stand p l e R s m args below meth c T locs cells slots) (hx : p.tables.exec = Jvm.exec) (hZ : Z.Warmed39 s.vm) (eT : T.heap = h) {a : Addr} {N : Nat} {f : Nat → Value} (A : own_A Z h a .int N f) {j : Int32} {x : Int32} (h0 : 0 ≤ j.toInt) (h1 : j.toInt < (N : Int)) {g : JFrame} (hg : g.method = m) {rest : List Value} (hs : g.stack = .int x :: .int j :: .ref a :: rest) (hd : decode c.code g.pc = .ok (.iastore, 1)) :
    ∃ T' h', Stand p l e R s m args below meth c T' (locs ++ [⟨a, j.toNatClampNeg⟩]) cells slots ∧ T'.heap = h' ∧ Wr h h' a j.toNatClampNeg (.int x) ∧ own_A Z h' a .int N (own_upd f j.toNatClampNeg (.int x)) ∧ ∀ target, Steps p.tables e below (T'.setTop { g with pc := g.pc + 1, stack := rest }) target → Steps p.tables e below (T.setTop g) target := by
  obtain ⟨cl, Ar, S, H⟩ := A
  obtain ⟨T', h', X', e', W, st⟩ := stI X hx hZ eT Ar (own_inb S h0 h1) hg hs hd
  exact ⟨T', h', X', e', W, own_A.set ⟨cl, Ar, S, H⟩ W, st⟩
theorem own_ldI {p : Program} {l : Launch} {e : Env} {R : Room} {s : State} {m : MethodId} {args : Array Value} {below : List Frame} {meth : Method} {c : Code} {T : State} {locs : List Loc} {cells slots : Nat} {Z : State} {h : Heap}
    (X : Stand p l e R s m args below meth c T locs cells slots) (hx : p.tables.exec = Jvm.exec) (hZ : Z.Warmed39 s.vm) (eT : T.heap = h) {a : Addr} {N : Nat} {f : Nat → Value} (A : own_A Z h a .int N f) {j : Int32} {v : Value} (h0 : 0 ≤ j.toInt) (h1 : j.toInt < (N : Int)) (hv : f j.toNatClampNeg = v) {g : JFrame} (hg : g.method = m) {rest : List Value} (hs : g.stack = .int j :: .ref a :: rest) (hd : decode c.code g.pc = .ok (.iaload, 1)) :
    ∀ target, Steps p.tables e below (T.setTop { g with pc := g.pc + 1, stack := v :: rest }) target → Steps p.tables e below (T.setTop g) target := by
  obtain ⟨cl, Ar, S, H⟩ := A
  have hN : j.toNatClampNeg < N := by simp only [Int32.toNatClampNeg]; omega
  exact X.iaload hx (by rw [eT]; exact Ar.1) (State.isArrayOf_alike hZ.alike Ar.2.1) Ar.2.2 (own_inb S h0 h1) (hv ▸ H _ hN) hg hs hd
theorem own_stJ {p : Program} {l : Launch} {e : Env} {R : Room} {s : State} {m : MethodId} {args : Array Value} {below : List Frame} {meth : Method} {c : Code} {T : State} {locs : List Loc} {cells slots : Nat} {Z : State} {h : Heap}
    (X : Stand p l e R s m args below meth c T locs cells slots) (hx : p.tables.exec = Jvm.exec) (hZ : Z.Warmed39 s.vm) (eT : T.heap = h) {a : Addr} {N : Nat} {f : Nat → Value} (A : own_A Z h a .long N f) {j : Int32} {x : Int64} (h0 : 0 ≤ j.toInt) (h1 : j.toInt < (N : Int)) {g : JFrame} (hg : g.method = m) {rest : List Value} (hs : g.stack = .long x :: .int j :: .ref a :: rest) (hd : decode c.code g.pc = .ok (.lastore, 1)) :
    ∃ T' h', Stand p l e R s m args below meth c T' (locs ++ [⟨a, j.toNatClampNeg⟩]) cells slots ∧ T'.heap = h' ∧ Wr h h' a j.toNatClampNeg (.long x) ∧ own_A Z h' a .long N (own_upd f j.toNatClampNeg (.long x)) ∧ ∀ target, Steps p.tables e below (T'.setTop { g with pc := g.pc + 1, stack := rest }) target → Steps p.tables e below (T.setTop g) target := by
  obtain ⟨cl, Ar, S, H⟩ := A
  obtain ⟨T', h', X', e', W, st⟩ := stJ X hx hZ eT Ar (own_inb S h0 h1) hg hs hd
  exact ⟨T', h', X', e', W, own_A.set ⟨cl, Ar, S, H⟩ W, st⟩
theorem own_ldJ {p : Program} {l : Launch} {e : Env} {R : Room} {s : State} {m : MethodId} {args : Array Value} {below : List Frame} {meth : Method} {c : Code} {T : State} {locs : List Loc} {cells slots : Nat} {Z : State} {h : Heap}
    (X : Stand p l e R s m args below meth c T locs cells slots) (hx : p.tables.exec = Jvm.exec) (hZ : Z.Warmed39 s.vm) (eT : T.heap = h) {a : Addr} {N : Nat} {f : Nat → Value} (A : own_A Z h a .long N f) {j : Int32} {v : Value} (h0 : 0 ≤ j.toInt) (h1 : j.toInt < (N : Int)) (hv : f j.toNatClampNeg = v) {g : JFrame} (hg : g.method = m) {rest : List Value} (hs : g.stack = .int j :: .ref a :: rest) (hd : decode c.code g.pc = .ok (.laload, 1)) :
    ∀ target, Steps p.tables e below (T.setTop { g with pc := g.pc + 1, stack := v :: rest }) target → Steps p.tables e below (T.setTop g) target := by
  obtain ⟨cl, Ar, S, H⟩ := A
  have hN : j.toNatClampNeg < N := by simp only [Int32.toNatClampNeg]; omega
  exact X.laload hx (by rw [eT]; exact Ar.1) (State.isArrayOf_alike hZ.alike Ar.2.1) Ar.2.2 (own_inb S h0 h1) (hv ▸ H _ hN) hg hs hd
theorem own_ldB {p : Program} {l : Launch} {e : Env} {R : Room} {s : State} {m : MethodId} {args : Array Value} {below : List Frame} {meth : Method} {c : Code} {T : State} {locs : List Loc} {cells slots : Nat} {Z : State} {h : Heap}
    (X : Stand p l e R s m args below meth c T locs cells slots) (hx : p.tables.exec = Jvm.exec) (hZ : Z.Warmed39 s.vm) (eT : T.heap = h) {a : Addr} {N : Nat} {f : Nat → Value} (A : own_A Z h a .byte N f) {j : Int32} {v : Value} (h0 : 0 ≤ j.toInt) (h1 : j.toInt < (N : Int)) (hv : f j.toNatClampNeg = v) {g : JFrame} (hg : g.method = m) {rest : List Value} (hs : g.stack = .int j :: .ref a :: rest) (hd : decode c.code g.pc = .ok (.baload, 1)) :
    ∀ target, Steps p.tables e below (T.setTop { g with pc := g.pc + 1, stack := v :: rest }) target → Steps p.tables e below (T.setTop g) target := by
  obtain ⟨cl, Ar, S, H⟩ := A
  have hN : j.toNatClampNeg < N := by simp only [Int32.toNatClampNeg]; omega
  exact X.baloadBytes hx (by rw [eT]; exact Ar.1) (State.isArrayOf_alike hZ.alike Ar.2.1) Ar.2.2 (own_inb S h0 h1) (hv ▸ H _ hN) hg hs hd
theorem own_len {p : Program} {l : Launch} {e : Env} {R : Room} {s : State} {m : MethodId} {args : Array Value} {below : List Frame} {meth : Method} {c : Code} {T : State} {locs : List Loc} {cells slots : Nat} {Z : State} {h : Heap}
    (X : Stand p l e R s m args below meth c T locs cells slots) (hx : p.tables.exec = Jvm.exec) (hZ : Z.Warmed39 s.vm) (eT : T.heap = h) {a : Addr} {ty : FieldType} {N : Nat} {f : Nat → Value} (A : own_A Z h a ty N f) {z : Int32} (hz : N.toInt32 = z) {g : JFrame} (hg : g.method = m) {rest : List Value} (hs : g.stack = .ref a :: rest) (hd : decode c.code g.pc = .ok (.arraylength, 1)) :
    ∀ target, Steps p.tables e below (T.setTop { g with pc := g.pc + 1, stack := .int z :: rest }) target → Steps p.tables e below (T.setTop g) target := by
  obtain ⟨cl, Ar, S, H⟩ := A
  subst S hz
  exact X.arraylength hx (by rw [eT]; exact Ar.1) (State.isArrayOf_alike hZ.alike Ar.2.1) hg hs hd
theorem own_ll {x y : Int64} : lcmpW x y < 0 ↔ x.toInt < y.toInt := by rw [lw_lt, Int64.lt_iff_toInt_lt]
theorem own_lg {x y : Int64} : 0 < lcmpW x y ↔ y.toInt < x.toInt := by rw [lw_gt, Int64.lt_iff_toInt_lt]
theorem own_lq {x y : Int64} : lcmpW x y = 0 ↔ x = y := lw_eq x y
theorem own_nll {x y : Int64} (h : ¬ lcmpW x y < 0) : ¬ x.toInt < y.toInt := fun z => h (own_ll.mpr z)
theorem own_nlg {x y : Int64} (h : ¬ 0 < lcmpW x y) : ¬ y.toInt < x.toInt := fun z => h (own_lg.mpr z)
theorem own_nn (x : Int64) : 0 ≤ (x &&& (9223372036854775807 : Int64)).toInt := by
  have h := c_maskL x 9223372036854775807 63 (by decide) (by decide)
  rw [h]
  exact Int.emod_nonneg _ (by decide)
theorem own_addok {x y : Int64} (h0 : 0 ≤ x.toInt) (h1 : 0 ≤ y.toInt) (h2 : x.toInt + y.toInt < 9223372036854775808) : (x + y).toInt = x.toInt + y.toInt := by
  have a := c_ladd x y
  have r := rng64 (x + y)
  omega
theorem own_subok {x y : Int64} (h0 : 0 ≤ y.toInt) (h1 : y.toInt ≤ x.toInt) : (x - y).toInt = x.toInt - y.toInt := by
  have a := c_lsub x y
  have r := rng64 (x - y)
  have r2 := rng64 x
  omega
theorem own_nocarry {x y : Int64} (h0 : 0 ≤ x.toInt) (h1 : 0 ≤ y.toInt) (h2 : x.toInt + y.toInt < 9223372036854775808) : ¬ (lcmpW ((x ^^^ (x + y)) &&& (y ^^^ (x + y))) (0 : Int64) < (0 : Int32)) := by
  intro q
  have q := own_ll.mp q
  have a := own_addok h0 h1 h2
  have b := (c_xorSL x (x + y)).2.2.2 h0 (by omega)
  have d := (c_andSL (x ^^^ (x + y)) (y ^^^ (x + y))).2.1 b
  have z : (0 : Int64).toInt = 0 := rfl
  omega
theorem d1_0 : decode jdk_29_method_66_code 0 = .ok (.lload_n 0, 1) := by decide +kernel
theorem d1_1 : decode jdk_29_method_66_code 1 = .ok (.lload_n 2, 1) := by decide +kernel
theorem d1_2 : decode jdk_29_method_66_code 2 = .ok (.lcmp, 1) := by decide +kernel
theorem d1_3 : decode jdk_29_method_66_code 3 = .ok (.ifCond .lt 7, 3) := by decide +kernel
theorem d1_10 : decode jdk_29_method_66_code 10 = .ok (.lload_n 2, 1) := by decide +kernel
theorem d1_11 : decode jdk_29_method_66_code 11 = .ok (.lreturn, 1) := by decide +kernel
theorem d1_6 : decode jdk_29_method_66_code 6 = .ok (.lload_n 0, 1) := by decide +kernel
theorem d1_7 : decode jdk_29_method_66_code 7 = .ok (.goto 4, 3) := by decide +kernel
theorem ef_max (m : MethodId) (p0 : Int64) (p1 : Int64) : entryFrame m #[(.long p0), (.long p1)] 4 = mkF m 0 #[.val (.long p0), .second, .val (.long p1), .second] [] := by first | (simp [entryFrame, mkF, argsToLocals, Value.category]; done) | rfl
def Q_max (Z : State) (p0 : Int64) (p1 : Int64) (h0 : Heap) (n0 : Nat) (v : Option Value) (h : Heap) (L : List Loc) : Prop := ∃ r : Int64, v = some (.long r) ∧ Fr n0 L ∧ h = h0 ∧ r.toInt = max p0.toInt p1.toInt
set_option maxRecDepth 65536 in
set_option maxHeartbeats 40000000 in
theorem rm_max (l : Launch) (Z : State) (a0 : Array Value) (hw : ∀ d ∈ tables_1, d.before a0 Z = true) (ws : List Jvm.Cond) (p0 : Int64) (p1 : Int64) (h0 : Heap) (n0 : Nat) (Z0 : n0 ≤ h0.size) :
    MetFree l (⟨"java/lang/Math", "max", "(JJ)J"⟩ : MethodName) (head1 (Jvm.Cond.code (⟨"java/lang/Math", "max", "(JJ)J"⟩ : MethodName) jdk_29_method_66_code 4 (some .long) :: ws) ({ frames := 0, cells := 0, slots := 0, locals := 0 } : Room)) (fun a U => a = #[(.long p0), (.long p1)] ∧ Z.Warmed39 U.vm ∧ U.heap = h0) (fun _ _ _ _ _ => True) (fun _ U o U' => ∃ v L, o = .returned v ∧ Q_max Z p0 p1 h0 n0 v U'.heap L ∧ FrameEnd U o U' L ({ frames := 0, cells := 0, slots := 0, locals := 0 } : Room).cells ({ frames := 0, cells := 0, slots := 0, locals := 0 } : Room).slots) := by
  refine MetFree.of_bodySF (Jvm.Free.JP.mathPlain rfl (by decide +kernel)) hisR ?_
  intro p e s m args below meth c s₁ Bd hml0 hP hK
  obtain ⟨rfl, hZ, hh⟩ := hP
  have hx := Bd.exec
  have hby := Bd.bytes
  have hlk := Bd.notSynchronized
  have hml : c.maxLocals = 4 := hml0
  have hown : s.vm.findClass "java/lang/Math" = some m.cls := findClass_of_methodNamed Bd.named
  have hnm := (name_of_methodNamed Bd.named Bd.method).1
  have X0 : Stand p l e ({ frames := 0, cells := 0, slots := 0, locals := 0 } : Room) s m #[(.long p0), (.long p1)] below meth c s₁ [] 0 0 := Stand.of_body Bd
  have e0 : s₁.heap = h0 := by rw [← hh, Bd.state]; rfl
  have N0 := Fr.nil n0
  show own_G p.tables e below (own_E below s ({ frames := 0, cells := 0, slots := 0, locals := 0 } : Room).cells ({ frames := 0, cells := 0, slots := 0, locals := 0 } : Room).slots (Q_max Z p0 p1 h0 n0)) _
  refine own_go (fun _ k => castTop (ef_max m p0 p1) k) ?_
  show own_G p.tables e below _ (s₁.setTop (mkF m 0 #[.val (.long p0), .second, .val (.long p1), .second] []))
  refine own_go (fun _ kt => XS.lloadN X0.here hx rfl (hb hby d1_0) rfl kt) ?_
  show own_G p.tables e below _ (s₁.setTop (mkF m 1 #[.val (.long p0), .second, .val (.long p1), .second] [(.long p0)]))
  refine own_go (fun _ kt => XS.lloadN X0.here hx rfl (hb hby d1_1) rfl kt) ?_
  show own_G p.tables e below _ (s₁.setTop (mkF m 2 #[.val (.long p0), .second, .val (.long p1), .second] [(.long p1), (.long p0)]))
  refine own_go (fun _ kt => XS.lcmp X0.here hx rfl (hb hby d1_2) rfl kt) ?_
  by_cases hc3 : (lcmpW p0 p1) < (0 : Int32)
  · show own_G p.tables e below _ (s₁.setTop (mkF m 3 #[.val (.long p0), .second, .val (.long p1), .second] [(.int (lcmpW p0 p1))]))
    refine own_go (fun _ kt => XS.ifYes X0.here hx rfl (pc0 := 3) (pc' := 10) rfl (hb hby d1_3) rfl ((if0 _ _).trans (tlt (hc3 : (lcmpW p0 p1) < (0 : Int32))).1) (by decide) (by decide) kt) ?_
    show own_G p.tables e below _ (s₁.setTop (mkF m 10 #[.val (.long p0), .second, .val (.long p1), .second] []))
    refine own_go (fun _ kt => XS.lloadN X0.here hx rfl (hb hby d1_10) rfl kt) ?_
    show own_G p.tables e below _ (s₁.setTop (mkF m 11 #[.val (.long p0), .second, .val (.long p1), .second] [(.long p1)]))
    exact own_retJ X0 hx Bd.returns hlk (hb hby d1_11) (Nat.le_of_ble_eq_true rfl) (Nat.le_of_ble_eq_true rfl) e0 ⟨_, rfl, N0, rfl, by have := own_ll.mp hc3; omega⟩
  · show own_G p.tables e below _ (s₁.setTop (mkF m 3 #[.val (.long p0), .second, .val (.long p1), .second] [(.int (lcmpW p0 p1))]))
    refine own_go (fun _ kt => XS.ifNo X0.here hx rfl (hb hby d1_3) rfl ((if0 _ _).trans (flt (hc3 : ¬ ((lcmpW p0 p1) < (0 : Int32)))).1) kt) ?_
    show own_G p.tables e below _ (s₁.setTop (mkF m 6 #[.val (.long p0), .second, .val (.long p1), .second] []))
    refine own_go (fun _ kt => XS.lloadN X0.here hx rfl (hb hby d1_6) rfl kt) ?_
    show own_G p.tables e below _ (s₁.setTop (mkF m 7 #[.val (.long p0), .second, .val (.long p1), .second] [(.long p0)]))
    refine own_go (fun _ kt => XS.goto X0.here hx rfl (pc0 := 7) (pc' := 11) rfl (hb hby d1_7) (by decide) (by decide) kt) ?_
    show own_G p.tables e below _ (s₁.setTop (mkF m 11 #[.val (.long p0), .second, .val (.long p1), .second] [(.long p0)]))
    exact own_retJ X0 hx Bd.returns hlk (hb hby d1_11) (Nat.le_of_ble_eq_true rfl) (Nat.le_of_ble_eq_true rfl) e0 ⟨_, rfl, N0, rfl, by have := own_nll hc3; omega⟩
theorem d2_0 : decode jdk_29_method_70_code 0 = .ok (.lload_n 0, 1) := by decide +kernel
theorem d2_1 : decode jdk_29_method_70_code 1 = .ok (.lload_n 2, 1) := by decide +kernel
theorem d2_2 : decode jdk_29_method_70_code 2 = .ok (.lcmp, 1) := by decide +kernel
theorem d2_3 : decode jdk_29_method_70_code 3 = .ok (.ifCond .gt 7, 3) := by decide +kernel
theorem d2_10 : decode jdk_29_method_70_code 10 = .ok (.lload_n 2, 1) := by decide +kernel
theorem d2_11 : decode jdk_29_method_70_code 11 = .ok (.lreturn, 1) := by decide +kernel
theorem d2_6 : decode jdk_29_method_70_code 6 = .ok (.lload_n 0, 1) := by decide +kernel
theorem d2_7 : decode jdk_29_method_70_code 7 = .ok (.goto 4, 3) := by decide +kernel
theorem ef_min (m : MethodId) (p0 : Int64) (p1 : Int64) : entryFrame m #[(.long p0), (.long p1)] 4 = mkF m 0 #[.val (.long p0), .second, .val (.long p1), .second] [] := by first | (simp [entryFrame, mkF, argsToLocals, Value.category]; done) | rfl
def Q_min (Z : State) (p0 : Int64) (p1 : Int64) (h0 : Heap) (n0 : Nat) (v : Option Value) (h : Heap) (L : List Loc) : Prop := ∃ r : Int64, v = some (.long r) ∧ Fr n0 L ∧ h = h0 ∧ r.toInt = min p0.toInt p1.toInt
set_option maxRecDepth 65536 in
set_option maxHeartbeats 40000000 in
theorem rm_min (l : Launch) (Z : State) (a0 : Array Value) (hw : ∀ d ∈ tables_1, d.before a0 Z = true) (ws : List Jvm.Cond) (p0 : Int64) (p1 : Int64) (h0 : Heap) (n0 : Nat) (Z0 : n0 ≤ h0.size) :
    MetFree l (⟨"java/lang/Math", "min", "(JJ)J"⟩ : MethodName) (head1 (Jvm.Cond.code (⟨"java/lang/Math", "min", "(JJ)J"⟩ : MethodName) jdk_29_method_70_code 4 (some .long) :: ws) ({ frames := 0, cells := 0, slots := 0, locals := 0 } : Room)) (fun a U => a = #[(.long p0), (.long p1)] ∧ Z.Warmed39 U.vm ∧ U.heap = h0) (fun _ _ _ _ _ => True) (fun _ U o U' => ∃ v L, o = .returned v ∧ Q_min Z p0 p1 h0 n0 v U'.heap L ∧ FrameEnd U o U' L ({ frames := 0, cells := 0, slots := 0, locals := 0 } : Room).cells ({ frames := 0, cells := 0, slots := 0, locals := 0 } : Room).slots) := by
  refine MetFree.of_bodySF (Jvm.Free.JP.mathPlain rfl (by decide +kernel)) hisR ?_
  intro p e s m args below meth c s₁ Bd hml0 hP hK
  obtain ⟨rfl, hZ, hh⟩ := hP
  have hx := Bd.exec
  have hby := Bd.bytes
  have hlk := Bd.notSynchronized
  have hml : c.maxLocals = 4 := hml0
  have hown : s.vm.findClass "java/lang/Math" = some m.cls := findClass_of_methodNamed Bd.named
  have hnm := (name_of_methodNamed Bd.named Bd.method).1
  have X0 : Stand p l e ({ frames := 0, cells := 0, slots := 0, locals := 0 } : Room) s m #[(.long p0), (.long p1)] below meth c s₁ [] 0 0 := Stand.of_body Bd
  have e0 : s₁.heap = h0 := by rw [← hh, Bd.state]; rfl
  have N0 := Fr.nil n0
  show own_G p.tables e below (own_E below s ({ frames := 0, cells := 0, slots := 0, locals := 0 } : Room).cells ({ frames := 0, cells := 0, slots := 0, locals := 0 } : Room).slots (Q_min Z p0 p1 h0 n0)) _
  refine own_go (fun _ k => castTop (ef_min m p0 p1) k) ?_
  show own_G p.tables e below _ (s₁.setTop (mkF m 0 #[.val (.long p0), .second, .val (.long p1), .second] []))
  refine own_go (fun _ kt => XS.lloadN X0.here hx rfl (hb hby d2_0) rfl kt) ?_
  show own_G p.tables e below _ (s₁.setTop (mkF m 1 #[.val (.long p0), .second, .val (.long p1), .second] [(.long p0)]))
  refine own_go (fun _ kt => XS.lloadN X0.here hx rfl (hb hby d2_1) rfl kt) ?_
  show own_G p.tables e below _ (s₁.setTop (mkF m 2 #[.val (.long p0), .second, .val (.long p1), .second] [(.long p1), (.long p0)]))
  refine own_go (fun _ kt => XS.lcmp X0.here hx rfl (hb hby d2_2) rfl kt) ?_
  by_cases hc3 : (0 : Int32) < (lcmpW p0 p1)
  · show own_G p.tables e below _ (s₁.setTop (mkF m 3 #[.val (.long p0), .second, .val (.long p1), .second] [(.int (lcmpW p0 p1))]))
    refine own_go (fun _ kt => XS.ifYes X0.here hx rfl (pc0 := 3) (pc' := 10) rfl (hb hby d2_3) rfl ((if0 _ _).trans (tlt (hc3 : (0 : Int32) < (lcmpW p0 p1))).2.2.1) (by decide) (by decide) kt) ?_
    show own_G p.tables e below _ (s₁.setTop (mkF m 10 #[.val (.long p0), .second, .val (.long p1), .second] []))
    refine own_go (fun _ kt => XS.lloadN X0.here hx rfl (hb hby d2_10) rfl kt) ?_
    show own_G p.tables e below _ (s₁.setTop (mkF m 11 #[.val (.long p0), .second, .val (.long p1), .second] [(.long p1)]))
    exact own_retJ X0 hx Bd.returns hlk (hb hby d2_11) (Nat.le_of_ble_eq_true rfl) (Nat.le_of_ble_eq_true rfl) e0 ⟨_, rfl, N0, rfl, by have := own_lg.mp hc3; omega⟩
  · show own_G p.tables e below _ (s₁.setTop (mkF m 3 #[.val (.long p0), .second, .val (.long p1), .second] [(.int (lcmpW p0 p1))]))
    refine own_go (fun _ kt => XS.ifNo X0.here hx rfl (hb hby d2_3) rfl ((if0 _ _).trans (flt (hc3 : ¬ ((0 : Int32) < (lcmpW p0 p1)))).2.2.1) kt) ?_
    show own_G p.tables e below _ (s₁.setTop (mkF m 6 #[.val (.long p0), .second, .val (.long p1), .second] []))
    refine own_go (fun _ kt => XS.lloadN X0.here hx rfl (hb hby d2_6) rfl kt) ?_
    show own_G p.tables e below _ (s₁.setTop (mkF m 7 #[.val (.long p0), .second, .val (.long p1), .second] [(.long p0)]))
    refine own_go (fun _ kt => XS.goto X0.here hx rfl (pc0 := 7) (pc' := 11) rfl (hb hby d2_7) (by decide) (by decide) kt) ?_
    show own_G p.tables e below _ (s₁.setTop (mkF m 11 #[.val (.long p0), .second, .val (.long p1), .second] [(.long p0)]))
    exact own_retJ X0 hx Bd.returns hlk (hb hby d2_11) (Nat.le_of_ble_eq_true rfl) (Nat.le_of_ble_eq_true rfl) e0 ⟨_, rfl, N0, rfl, by have := own_nlg hc3; omega⟩
theorem d4_0 : decode jdk_30_method_1_code 0 = .ok (.aload_n 0, 1) := by decide +kernel
theorem d4_1 : decode jdk_30_method_1_code 1 = .ok (.invokespecial 1, 3) := by decide +kernel
theorem d4_4 : decode jdk_30_method_1_code 4 = .ok (.return_, 1) := by decide +kernel
theorem pn_java_lang_Record : plainName "java/lang/Record" = true := by first | (simp [plainName, overriddenIn]; done) | decide +kernel
theorem ef_rec (m : MethodId) (p0 : Addr) : entryFrame m #[(.ref p0)] 1 = mkF m 0 #[.val (.ref p0)] [] := by first | (simp [entryFrame, mkF, argsToLocals, Value.category]; done) | rfl
def Q_rec (Z : State) (p0 : Addr) (h0 : Heap) (n0 : Nat) (v : Option Value) (h : Heap) (L : List Loc) : Prop := v = none ∧ Fr n0 L ∧ h = h0
set_option maxRecDepth 65536 in
set_option maxHeartbeats 40000000 in
theorem rm_rec (l : Launch) (Z : State) (a0 : Array Value) (hw : ∀ d ∈ tables_1, d.before a0 Z = true) (ws : List Jvm.Cond) (p0 : Addr) (h0 : Heap) (n0 : Nat) (Z0 : n0 ≤ h0.size) :
    MetFree l (⟨"java/lang/Record", "<init>", "()V"⟩ : MethodName) (head1 (Jvm.Cond.code (⟨"java/lang/Record", "<init>", "()V"⟩ : MethodName) jdk_30_method_1_code 1 none :: ws) ({ frames := 1, cells := 0, slots := 0, locals := 12 } : Room)) (fun a U => a = #[(.ref p0)] ∧ Z.Warmed39 U.vm ∧ U.heap = h0) (fun _ _ _ _ _ => True) (fun _ U o U' => ∃ v L, o = .returned v ∧ Q_rec Z p0 h0 n0 v U'.heap L ∧ FrameEnd U o U' L ({ frames := 1, cells := 0, slots := 0, locals := 12 } : Room).cells ({ frames := 1, cells := 0, slots := 0, locals := 12 } : Room).slots) := by
  refine MetFree.of_bodySF (plainFor_of_name pn_java_lang_Record) hisR ?_
  intro p e s m args below meth c s₁ Bd hml0 hP hK
  obtain ⟨rfl, hZ, hh⟩ := hP
  have hx := Bd.exec
  have hby := Bd.bytes
  have hlk := Bd.notSynchronized
  have hml : c.maxLocals = 1 := hml0
  have hown : s.vm.findClass "java/lang/Record" = some m.cls := findClass_of_methodNamed Bd.named
  have hnm := (name_of_methodNamed Bd.named Bd.method).1
  have X0 : Stand p l e ({ frames := 1, cells := 0, slots := 0, locals := 12 } : Room) s m #[(.ref p0)] below meth c s₁ [] 0 0 := Stand.of_body Bd
  have e0 : s₁.heap = h0 := by rw [← hh, Bd.state]; rfl
  have N0 := Fr.nil n0
  show own_G p.tables e below (own_E below s ({ frames := 1, cells := 0, slots := 0, locals := 12 } : Room).cells ({ frames := 1, cells := 0, slots := 0, locals := 12 } : Room).slots (Q_rec Z p0 h0 n0)) _
  refine own_go (fun _ k => castTop (ef_rec m p0) k) ?_
  show own_G p.tables e below _ (s₁.setTop (mkF m 0 #[.val (.ref p0)] []))
  refine own_go (fun _ kt => XS.aloadN X0.here hx rfl (hb hby d4_0) rfl rfl kt) ?_
  show own_G p.tables e below _ (s₁.setTop (mkF m 1 #[.val (.ref p0)] [(.ref p0)]))
  obtain ⟨T1, X1, e1, st1⟩ := initO X0 hx hZ hown (hw _ (List.mem_of_getElem? (i := 19) rfl)) (hw _ (List.mem_of_getElem? (i := 20) rfl)) (hw _ (List.mem_of_getElem? (i := 21) rfl)) e0 (g := (mkF m 1 #[.val (.ref p0)] [(.ref p0)])) rfl (by rw [hml]; rfl) rfl (hb hby d4_1) (by decide) (W := 0) (by show 2 * 0 + _ ≤ _; exact Nat.le_of_eq rfl) (by decide)
  refine own_go st1 ?_
  show own_G p.tables e below _ (T1.setTop (mkF m 4 #[.val (.ref p0)] []))
  exact own_retV X1 hx Bd.returns hlk (hb hby d4_4) (Nat.le_of_ble_eq_true rfl) (Nat.le_of_ble_eq_true rfl) e1 ⟨rfl, N0, rfl⟩
theorem d3_0 : decode prog_20_method_1_code 0 = .ok (.aload_n 0, 1) := by decide +kernel
theorem d3_1 : decode prog_20_method_1_code 1 = .ok (.invokespecial 1, 3) := by decide +kernel
theorem pd___V : parseMethodDescriptor "()V" = some ⟨[], none⟩ := by decide +kernel
theorem d3_4 : decode prog_20_method_1_code 4 = .ok (.lload_n 1, 1) := by decide +kernel
theorem d3_5 : decode prog_20_method_1_code 5 = .ok (.lconst 0, 1) := by decide +kernel
theorem d3_6 : decode prog_20_method_1_code 6 = .ok (.lcmp, 1) := by decide +kernel
theorem d3_7 : decode prog_20_method_1_code 7 = .ok (.ifCond .ge 17, 3) := by decide +kernel
theorem d3_24 : decode prog_20_method_1_code 24 = .ok (.aload_n 0, 1) := by decide +kernel
theorem d3_25 : decode prog_20_method_1_code 25 = .ok (.lload_n 1, 1) := by decide +kernel
theorem d3_26 : decode prog_20_method_1_code 26 = .ok (.putfield 16, 3) := by decide +kernel
theorem d3_29 : decode prog_20_method_1_code 29 = .ok (.return_, 1) := by decide +kernel
theorem pn_com_example_akcept_akcept_input_Amount : plainName "com/example/akcept/akcept/input/Amount" = true := by first | (simp [plainName, overriddenIn]; done) | decide +kernel
theorem ef_init (m : MethodId) (p0 : Addr) (p1 : Int64) : entryFrame m #[(.ref p0), (.long p1)] 3 = mkF m 0 #[.val (.ref p0), .val (.long p1), .second] [] := by first | (simp [entryFrame, mkF, argsToLocals, Value.category]; done) | rfl
def Q_init (Z : State) (p0 : Addr) (p1 : Int64) (u : Value) (h0 : Heap) (n0 : Nat) (v : Option Value) (h : Heap) (L : List Loc) : Prop := v = none ∧ Fr n0 L ∧ Keep h0 h [p0] ∧ Exa Z h p0 "com/example/akcept/akcept/input/Amount" ∧ Fld Z h p0 "com/example/akcept/akcept/input/Amount" "kopecks" "J" (.long p1)
set_option maxRecDepth 65536 in
set_option maxHeartbeats 40000000 in
theorem rm_init (l : Launch) (Z : State) (a0 : Array Value) (hw : ∀ d ∈ tables_1, d.before a0 Z = true) (ws : List Jvm.Cond) (p0 : Addr) (p1 : Int64) (u : Value) (h0 : Heap) (n0 : Nat) (Z0 : n0 ≤ h0.size) (E0 : Exa Z h0 p0 "com/example/akcept/akcept/input/Amount") (F0 : Fld Z h0 p0 "com/example/akcept/akcept/input/Amount" "kopecks" "J" u) (g0 : n0 ≤ p0) (hnn : 0 ≤ p1.toInt) :
    MetFree l (⟨"com/example/akcept/akcept/input/Amount", "<init>", "(J)V"⟩ : MethodName) (head1 (Jvm.Cond.code (⟨"com/example/akcept/akcept/input/Amount", "<init>", "(J)V"⟩ : MethodName) prog_20_method_1_code 3 none :: ws) ({ frames := 2, cells := 0, slots := 0, locals := 24 } : Room)) (fun a U => a = #[(.ref p0), (.long p1)] ∧ Z.Warmed39 U.vm ∧ U.heap = h0) (fun _ _ _ _ _ => True) (fun _ U o U' => ∃ v L, o = .returned v ∧ Q_init Z p0 p1 u h0 n0 v U'.heap L ∧ FrameEnd U o U' L ({ frames := 2, cells := 0, slots := 0, locals := 24 } : Room).cells ({ frames := 2, cells := 0, slots := 0, locals := 24 } : Room).slots) := by
  refine MetFree.of_bodySF (plainFor_of_name pn_com_example_akcept_akcept_input_Amount) hisR ?_
  intro p e s m args below meth c s₁ Bd hml0 hP hK
  obtain ⟨rfl, hZ, hh⟩ := hP
  have hx := Bd.exec
  have hby := Bd.bytes
  have hlk := Bd.notSynchronized
  have hml : c.maxLocals = 3 := hml0
  have hown : s.vm.findClass "com/example/akcept/akcept/input/Amount" = some m.cls := findClass_of_methodNamed Bd.named
  have hnm := (name_of_methodNamed Bd.named Bd.method).1
  have X0 : Stand p l e ({ frames := 2, cells := 0, slots := 0, locals := 24 } : Room) s m #[(.ref p0), (.long p1)] below meth c s₁ [] 0 0 := Stand.of_body Bd
  have e0 : s₁.heap = h0 := by rw [← hh, Bd.state]; rfl
  have N0 := Fr.nil n0
  show own_G p.tables e below (own_E below s ({ frames := 2, cells := 0, slots := 0, locals := 24 } : Room).cells ({ frames := 2, cells := 0, slots := 0, locals := 24 } : Room).slots (Q_init Z p0 p1 u h0 n0)) _
  refine own_go (fun _ k => castTop (ef_init m p0 p1) k) ?_
  show own_G p.tables e below _ (s₁.setTop (mkF m 0 #[.val (.ref p0), .val (.long p1), .second] []))
  refine own_go (fun _ kt => XS.aloadN X0.here hx rfl (hb hby d3_0) rfl rfl kt) ?_
  show own_G p.tables e below _ (s₁.setTop (mkF m 1 #[.val (.ref p0), .val (.long p1), .second] [(.ref p0)]))
  obtain ⟨_, _, ⟨T2, L2, k2, n2⟩, -, X2, ⟨Lc2, hQ2, l2, y2, z2⟩, st2⟩ := X0.specialBack hx (y := (⟨"java/lang/Record", "<init>", "()V"⟩ : MethodName)) rfl hown (mvT hZ (hw _ (List.mem_of_getElem? (i := 14) rfl))) (mvT hZ (hw _ (List.mem_of_getElem? (i := 15) rfl))) (mvT hZ (hw _ (List.mem_of_getElem? (i := 18) rfl))) (by decide) (backOf (W := 0) (rm_rec l Z a0 hw [] p0  h0 n0 Z0 ) hZ (hw _ (List.mem_of_getElem? (i := 18) rfl)) (hw _ (List.mem_of_getElem? (i := 17) rfl)) (by decide) (by decide)) (g := (mkF m 1 #[.val (.ref p0), .val (.long p1), .second] [(.ref p0)])) rfl (by rw [hml]; rfl) (Steps.refl _) (a := p0) (argsL := []) (rest := []) (lenOf pd___V rfl) rfl (by show 2 * 0 + _ ≤ _; exact Nat.le_of_eq rfl) (hb hby d3_1) (fun _ _ => ⟨rfl, e0, (Nat.le_of_ble_eq_true rfl), (Nat.le_of_ble_eq_true rfl)⟩)
  dsimp only [Pt.U, Pt.locs, Pt.cells, Pt.slots] at X2 l2 y2 z2 st2 hQ2
  subst l2 y2 z2
  obtain ⟨rfl, Nq2, eq2⟩ := hQ2
  have N2 := Fr.app N0 Nq2
  refine own_tr st2 ?_
  show own_G p.tables e below _ (T2.setTop (mkF m 4 #[.val (.ref p0), .val (.long p1), .second] []))
  refine own_go (fun _ kt => XS.lloadN X2.here hx rfl (hb hby d3_4) rfl kt) ?_
  show own_G p.tables e below _ (T2.setTop (mkF m 5 #[.val (.ref p0), .val (.long p1), .second] [(.long p1)]))
  refine own_go (fun _ kt => XS.lconst X2.here hx rfl (hb hby d3_5) kt) ?_
  show own_G p.tables e below _ (T2.setTop (mkF m 6 #[.val (.ref p0), .val (.long p1), .second] [(.long (0 : Int64)), (.long p1)]))
  refine own_go (fun _ kt => XS.lcmp X2.here hx rfl (hb hby d3_6) rfl kt) ?_
  show own_G p.tables e below _ (T2.setTop (mkF m 7 #[.val (.ref p0), .val (.long p1), .second] [(.int (lcmpW p1 (0 : Int64)))]))
  refine own_go (fun _ kt => XS.ifYes X2.here hx rfl (pc0 := 7) (pc' := 24) rfl (hb hby d3_7) rfl ((if0 _ _).trans (flt (fun q => by have q := own_ll.mp q; have z : (0 : Int64).toInt = 0 := rfl; omega : ¬ ((lcmpW p1 (0 : Int64)) < (0 : Int32)))).2.1) (by decide) (by decide) kt) ?_
  show own_G p.tables e below _ (T2.setTop (mkF m 24 #[.val (.ref p0), .val (.long p1), .second] []))
  refine own_go (fun _ kt => XS.aloadN X2.here hx rfl (hb hby d3_24) rfl rfl kt) ?_
  show own_G p.tables e below _ (T2.setTop (mkF m 25 #[.val (.ref p0), .val (.long p1), .second] [(.ref p0)]))
  refine own_go (fun _ kt => XS.lloadN X2.here hx rfl (hb hby d3_25) rfl kt) ?_
  show own_G p.tables e below _ (T2.setTop (mkF m 26 #[.val (.ref p0), .val (.long p1), .second] [(.long p1), (.ref p0)]))
  obtain ⟨T3, h3, X3, e3, W3, st3⟩ := putF X2 hx hZ hown (host := "") (Or.inl (hw _ (List.mem_of_getElem? (i := 22) rfl))) Via.refl eq2 F0 E0 (Or.inr ⟨(hw _ (List.mem_of_getElem? (i := 23) rfl)), rfl, hnm⟩) (hw _ (List.mem_of_getElem? (i := 9) rfl)) (ty := .long) (by decide) rfl rfl (g := (mkF m 26 #[.val (.ref p0), .val (.long p1), .second] [(.long p1), (.ref p0)])) rfl rfl (hb hby d3_26)
  refine own_go st3 ?_
  have N3 := Fr.snoc X3 N2 g0
  have Z3 : n0 ≤ h3.size := Nat.le_trans Z0 (Keep.of_wr W3).1
  have K3 : Keep h0 h3 [p0] := (Keep.refl h0 [p0]).wr W3 (Or.inl (List.mem_of_getElem? (i := 0) rfl))
  have Fw3 := Fld.same W3 F0
  have u4 := (E0.wr W3)
  show own_G p.tables e below _ (T3.setTop (mkF m 29 #[.val (.ref p0), .val (.long p1), .second] []))
  exact own_retV X3 hx Bd.returns hlk (hb hby d3_29) (Nat.le_of_ble_eq_true rfl) (Nat.le_of_ble_eq_true rfl) e3 ⟨rfl, N3, K3, u4, Fw3⟩
theorem d7_0 : decode prog_20_method_10_code 0 = .ok (.aload_n 0, 1) := by decide +kernel
theorem d7_1 : decode prog_20_method_10_code 1 = .ok (.getfield 16, 3) := by decide +kernel
theorem d7_4 : decode prog_20_method_10_code 4 = .ok (.lreturn, 1) := by decide +kernel
theorem ef_kop (m : MethodId) (p0 : Addr) : entryFrame m #[(.ref p0)] 1 = mkF m 0 #[.val (.ref p0)] [] := by first | (simp [entryFrame, mkF, argsToLocals, Value.category]; done) | rfl
def Q_kop (Z : State) (p0 : Addr) (x : Int64) (h0 : Heap) (n0 : Nat) (v : Option Value) (h : Heap) (L : List Loc) : Prop := v = some (.long x) ∧ Fr n0 L ∧ h = h0
set_option maxRecDepth 65536 in
set_option maxHeartbeats 40000000 in
theorem rm_kop (l : Launch) (Z : State) (a0 : Array Value) (hw : ∀ d ∈ tables_1, d.before a0 Z = true) (ws : List Jvm.Cond) (p0 : Addr) (x : Int64) (h0 : Heap) (n0 : Nat) (Z0 : n0 ≤ h0.size) (F0 : Fld Z h0 p0 "com/example/akcept/akcept/input/Amount" "kopecks" "J" (.long x)) :
    MetFree l (⟨"com/example/akcept/akcept/input/Amount", "kopecks", "()J"⟩ : MethodName) (head1 (Jvm.Cond.code (⟨"com/example/akcept/akcept/input/Amount", "kopecks", "()J"⟩ : MethodName) prog_20_method_10_code 1 (some .long) :: ws) ({ frames := 0, cells := 0, slots := 0, locals := 0 } : Room)) (fun a U => a = #[(.ref p0)] ∧ Z.Warmed39 U.vm ∧ U.heap = h0) (fun _ _ _ _ _ => True) (fun _ U o U' => ∃ v L, o = .returned v ∧ Q_kop Z p0 x h0 n0 v U'.heap L ∧ FrameEnd U o U' L ({ frames := 0, cells := 0, slots := 0, locals := 0 } : Room).cells ({ frames := 0, cells := 0, slots := 0, locals := 0 } : Room).slots) := by
  refine MetFree.of_bodySF (plainFor_of_name pn_com_example_akcept_akcept_input_Amount) hisR ?_
  intro p e s m args below meth c s₁ Bd hml0 hP hK
  obtain ⟨rfl, hZ, hh⟩ := hP
  have hx := Bd.exec
  have hby := Bd.bytes
  have hlk := Bd.notSynchronized
  have hml : c.maxLocals = 1 := hml0
  have hown : s.vm.findClass "com/example/akcept/akcept/input/Amount" = some m.cls := findClass_of_methodNamed Bd.named
  have hnm := (name_of_methodNamed Bd.named Bd.method).1
  have X0 : Stand p l e ({ frames := 0, cells := 0, slots := 0, locals := 0 } : Room) s m #[(.ref p0)] below meth c s₁ [] 0 0 := Stand.of_body Bd
  have e0 : s₁.heap = h0 := by rw [← hh, Bd.state]; rfl
  have N0 := Fr.nil n0
  show own_G p.tables e below (own_E below s ({ frames := 0, cells := 0, slots := 0, locals := 0 } : Room).cells ({ frames := 0, cells := 0, slots := 0, locals := 0 } : Room).slots (Q_kop Z p0 x h0 n0)) _
  refine own_go (fun _ k => castTop (ef_kop m p0) k) ?_
  show own_G p.tables e below _ (s₁.setTop (mkF m 0 #[.val (.ref p0)] []))
  refine own_go (fun _ kt => XS.aloadN X0.here hx rfl (hb hby d7_0) rfl rfl kt) ?_
  show own_G p.tables e below _ (s₁.setTop (mkF m 1 #[.val (.ref p0)] [(.ref p0)]))
  obtain ⟨T5, X5, e5, st5⟩ := getF X0 hx hZ hown (host := "") (Or.inl (hw _ (List.mem_of_getElem? (i := 22) rfl))) Via.refl e0 F0 (g := (mkF m 1 #[.val (.ref p0)] [(.ref p0)])) rfl rfl (hb hby d7_1)
  refine own_go st5 ?_
  show own_G p.tables e below _ (T5.setTop (mkF m 4 #[.val (.ref p0)] [(.long x)]))
  exact own_retJ X5 hx Bd.returns hlk (hb hby d7_4) (Nat.le_of_ble_eq_true rfl) (Nat.le_of_ble_eq_true rfl) e5 ⟨rfl, N0, rfl⟩
theorem d9_0 : decode jdk_29_method_25_code 0 = .ok (.lload_n 0, 1) := by decide +kernel
theorem d9_1 : decode jdk_29_method_25_code 1 = .ok (.lload_n 2, 1) := by decide +kernel
theorem d9_2 : decode jdk_29_method_25_code 2 = .ok (.ladd, 1) := by decide +kernel
theorem d9_3 : decode jdk_29_method_25_code 3 = .ok (.lstore 4, 2) := by decide +kernel
theorem d9_5 : decode jdk_29_method_25_code 5 = .ok (.lload_n 0, 1) := by decide +kernel
theorem d9_6 : decode jdk_29_method_25_code 6 = .ok (.lload 4, 2) := by decide +kernel
theorem d9_8 : decode jdk_29_method_25_code 8 = .ok (.lxor, 1) := by decide +kernel
theorem d9_9 : decode jdk_29_method_25_code 9 = .ok (.lload_n 2, 1) := by decide +kernel
theorem d9_10 : decode jdk_29_method_25_code 10 = .ok (.lload 4, 2) := by decide +kernel
theorem d9_12 : decode jdk_29_method_25_code 12 = .ok (.lxor, 1) := by decide +kernel
theorem d9_13 : decode jdk_29_method_25_code 13 = .ok (.land, 1) := by decide +kernel
theorem d9_14 : decode jdk_29_method_25_code 14 = .ok (.lconst 0, 1) := by decide +kernel
theorem d9_15 : decode jdk_29_method_25_code 15 = .ok (.lcmp, 1) := by decide +kernel
theorem d9_16 : decode jdk_29_method_25_code 16 = .ok (.ifCond .ge 13, 3) := by decide +kernel
theorem d9_29 : decode jdk_29_method_25_code 29 = .ok (.lload 4, 2) := by decide +kernel
theorem d9_31 : decode jdk_29_method_25_code 31 = .ok (.lreturn, 1) := by decide +kernel
theorem ef_addx (m : MethodId) (p0 : Int64) (p1 : Int64) : entryFrame m #[(.long p0), (.long p1)] 6 = mkF m 0 #[.val (.long p0), .second, .val (.long p1), .second, .unset, .unset] [] := by first | (simp [entryFrame, mkF, argsToLocals, Value.category]; done) | rfl
def Q_addx (Z : State) (p0 : Int64) (p1 : Int64) (h0 : Heap) (n0 : Nat) (v : Option Value) (h : Heap) (L : List Loc) : Prop := v = some (.long (p0 + p1)) ∧ Fr n0 L ∧ h = h0
set_option maxRecDepth 65536 in
set_option maxHeartbeats 40000000 in
theorem rm_addx (l : Launch) (Z : State) (a0 : Array Value) (hw : ∀ d ∈ tables_1, d.before a0 Z = true) (ws : List Jvm.Cond) (p0 : Int64) (p1 : Int64) (h0 : Heap) (n0 : Nat) (Z0 : n0 ≤ h0.size) (h0' : 0 ≤ p0.toInt) (h1 : 0 ≤ p1.toInt) (h2 : p0.toInt + p1.toInt < 9223372036854775808) :
    MetFree l (⟨"java/lang/Math", "addExact", "(JJ)J"⟩ : MethodName) (head1 (Jvm.Cond.code (⟨"java/lang/Math", "addExact", "(JJ)J"⟩ : MethodName) jdk_29_method_25_code 6 (some .long) :: ws) ({ frames := 0, cells := 0, slots := 0, locals := 0 } : Room)) (fun a U => a = #[(.long p0), (.long p1)] ∧ Z.Warmed39 U.vm ∧ U.heap = h0) (fun _ _ _ _ _ => True) (fun _ U o U' => ∃ v L, o = .returned v ∧ Q_addx Z p0 p1 h0 n0 v U'.heap L ∧ FrameEnd U o U' L ({ frames := 0, cells := 0, slots := 0, locals := 0 } : Room).cells ({ frames := 0, cells := 0, slots := 0, locals := 0 } : Room).slots) := by
  refine MetFree.of_bodySF (Jvm.Free.JP.mathPlain rfl (by decide +kernel)) hisR ?_
  intro p e s m args below meth c s₁ Bd hml0 hP hK
  obtain ⟨rfl, hZ, hh⟩ := hP
  have hx := Bd.exec
  have hby := Bd.bytes
  have hlk := Bd.notSynchronized
  have hml : c.maxLocals = 6 := hml0
  have hown : s.vm.findClass "java/lang/Math" = some m.cls := findClass_of_methodNamed Bd.named
  have hnm := (name_of_methodNamed Bd.named Bd.method).1
  have X0 : Stand p l e ({ frames := 0, cells := 0, slots := 0, locals := 0 } : Room) s m #[(.long p0), (.long p1)] below meth c s₁ [] 0 0 := Stand.of_body Bd
  have e0 : s₁.heap = h0 := by rw [← hh, Bd.state]; rfl
  have N0 := Fr.nil n0
  show own_G p.tables e below (own_E below s ({ frames := 0, cells := 0, slots := 0, locals := 0 } : Room).cells ({ frames := 0, cells := 0, slots := 0, locals := 0 } : Room).slots (Q_addx Z p0 p1 h0 n0)) _
  refine own_go (fun _ k => castTop (ef_addx m p0 p1) k) ?_
  show own_G p.tables e below _ (s₁.setTop (mkF m 0 #[.val (.long p0), .second, .val (.long p1), .second, .unset, .unset] []))
  refine own_go (fun _ kt => XS.lloadN X0.here hx rfl (hb hby d9_0) rfl kt) ?_
  show own_G p.tables e below _ (s₁.setTop (mkF m 1 #[.val (.long p0), .second, .val (.long p1), .second, .unset, .unset] [(.long p0)]))
  refine own_go (fun _ kt => XS.lloadN X0.here hx rfl (hb hby d9_1) rfl kt) ?_
  show own_G p.tables e below _ (s₁.setTop (mkF m 2 #[.val (.long p0), .second, .val (.long p1), .second, .unset, .unset] [(.long p1), (.long p0)]))
  refine own_go (fun _ kt => XS.ladd X0.here hx rfl (hb hby d9_2) rfl kt) ?_
  show own_G p.tables e below _ (s₁.setTop (mkF m 3 #[.val (.long p0), .second, .val (.long p1), .second, .unset, .unset] [(.long (p0 + p1))]))
  refine own_go (fun _ kt => XS.lstore X0.here hx rfl (hb hby d9_3) rfl (l' := #[.val (.long p0), .second, .val (.long p1), .second, .val (.long (p0 + p1)), .second]) rfl kt) ?_
  show own_G p.tables e below _ (s₁.setTop (mkF m 5 #[.val (.long p0), .second, .val (.long p1), .second, .val (.long (p0 + p1)), .second] []))
  refine own_go (fun _ kt => XS.lloadN X0.here hx rfl (hb hby d9_5) rfl kt) ?_
  show own_G p.tables e below _ (s₁.setTop (mkF m 6 #[.val (.long p0), .second, .val (.long p1), .second, .val (.long (p0 + p1)), .second] [(.long p0)]))
  refine own_go (fun _ kt => XS.lload X0.here hx rfl (hb hby d9_6) rfl kt) ?_
  show own_G p.tables e below _ (s₁.setTop (mkF m 8 #[.val (.long p0), .second, .val (.long p1), .second, .val (.long (p0 + p1)), .second] [(.long (p0 + p1)), (.long p0)]))
  refine own_go (fun _ kt => XS.lxor X0.here hx rfl (hb hby d9_8) rfl kt) ?_
  show own_G p.tables e below _ (s₁.setTop (mkF m 9 #[.val (.long p0), .second, .val (.long p1), .second, .val (.long (p0 + p1)), .second] [(.long (p0 ^^^ (p0 + p1)))]))
  refine own_go (fun _ kt => XS.lloadN X0.here hx rfl (hb hby d9_9) rfl kt) ?_
  show own_G p.tables e below _ (s₁.setTop (mkF m 10 #[.val (.long p0), .second, .val (.long p1), .second, .val (.long (p0 + p1)), .second] [(.long p1), (.long (p0 ^^^ (p0 + p1)))]))
  refine own_go (fun _ kt => XS.lload X0.here hx rfl (hb hby d9_10) rfl kt) ?_
  show own_G p.tables e below _ (s₁.setTop (mkF m 12 #[.val (.long p0), .second, .val (.long p1), .second, .val (.long (p0 + p1)), .second] [(.long (p0 + p1)), (.long p1), (.long (p0 ^^^ (p0 + p1)))]))
  refine own_go (fun _ kt => XS.lxor X0.here hx rfl (hb hby d9_12) rfl kt) ?_
  show own_G p.tables e below _ (s₁.setTop (mkF m 13 #[.val (.long p0), .second, .val (.long p1), .second, .val (.long (p0 + p1)), .second] [(.long (p1 ^^^ (p0 + p1))), (.long (p0 ^^^ (p0 + p1)))]))
  refine own_go (fun _ kt => XS.land X0.here hx rfl (hb hby d9_13) rfl kt) ?_
  show own_G p.tables e below _ (s₁.setTop (mkF m 14 #[.val (.long p0), .second, .val (.long p1), .second, .val (.long (p0 + p1)), .second] [(.long ((p0 ^^^ (p0 + p1)) &&& (p1 ^^^ (p0 + p1))))]))
  refine own_go (fun _ kt => XS.lconst X0.here hx rfl (hb hby d9_14) kt) ?_
  show own_G p.tables e below _ (s₁.setTop (mkF m 15 #[.val (.long p0), .second, .val (.long p1), .second, .val (.long (p0 + p1)), .second] [(.long (0 : Int64)), (.long ((p0 ^^^ (p0 + p1)) &&& (p1 ^^^ (p0 + p1))))]))
  refine own_go (fun _ kt => XS.lcmp X0.here hx rfl (hb hby d9_15) rfl kt) ?_
  show own_G p.tables e below _ (s₁.setTop (mkF m 16 #[.val (.long p0), .second, .val (.long p1), .second, .val (.long (p0 + p1)), .second] [(.int (lcmpW ((p0 ^^^ (p0 + p1)) &&& (p1 ^^^ (p0 + p1))) (0 : Int64)))]))
  refine own_go (fun _ kt => XS.ifYes X0.here hx rfl (pc0 := 16) (pc' := 29) rfl (hb hby d9_16) rfl ((if0 _ _).trans (flt (own_nocarry h0' h1 h2 : ¬ ((lcmpW ((p0 ^^^ (p0 + p1)) &&& (p1 ^^^ (p0 + p1))) (0 : Int64)) < (0 : Int32)))).2.1) (by decide) (by decide) kt) ?_
  show own_G p.tables e below _ (s₁.setTop (mkF m 29 #[.val (.long p0), .second, .val (.long p1), .second, .val (.long (p0 + p1)), .second] []))
  refine own_go (fun _ kt => XS.lload X0.here hx rfl (hb hby d9_29) rfl kt) ?_
  show own_G p.tables e below _ (s₁.setTop (mkF m 31 #[.val (.long p0), .second, .val (.long p1), .second, .val (.long (p0 + p1)), .second] [(.long (p0 + p1))]))
  exact own_retJ X0 hx Bd.returns hlk (hb hby d9_31) (Nat.le_of_ble_eq_true rfl) (Nat.le_of_ble_eq_true rfl) e0 ⟨rfl, N0, rfl⟩
theorem d6_0 : decode prog_20_method_4_code 0 = .ok (.new 17, 3) := by decide +kernel
theorem d6_3 : decode prog_20_method_4_code 3 = .ok (.dup, 1) := by decide +kernel
theorem d6_4 : decode prog_20_method_4_code 4 = .ok (.aload_n 0, 1) := by decide +kernel
theorem d6_5 : decode prog_20_method_4_code 5 = .ok (.getfield 16, 3) := by decide +kernel
theorem d6_8 : decode prog_20_method_4_code 8 = .ok (.aload_n 1, 1) := by decide +kernel
theorem d6_9 : decode prog_20_method_4_code 9 = .ok (.getfield 16, 3) := by decide +kernel
theorem d6_12 : decode prog_20_method_4_code 12 = .ok (.lsub, 1) := by decide +kernel
theorem d6_13 : decode prog_20_method_4_code 13 = .ok (.invokespecial 64, 3) := by decide +kernel
theorem pd__J_V : parseMethodDescriptor "(J)V" = some ⟨[.long], none⟩ := by decide +kernel
theorem d6_16 : decode prog_20_method_4_code 16 = .ok (.areturn, 1) := by decide +kernel
theorem ef_minus (m : MethodId) (p0 : Addr) (p1 : Addr) : entryFrame m #[(.ref p0), (.ref p1)] 2 = mkF m 0 #[.val (.ref p0), .val (.ref p1)] [] := by first | (simp [entryFrame, mkF, argsToLocals, Value.category]; done) | rfl
def Q_minus (Z : State) (p0 : Addr) (p1 : Addr) (x : Int64) (y : Int64) (h0 : Heap) (n0 : Nat) (v : Option Value) (h : Heap) (L : List Loc) : Prop := ∃ r : Addr, v = some (.ref r) ∧ Fr n0 L ∧ Keep h0 h [] ∧ n0 ≤ r ∧ h0.size ≤ r ∧ Exa Z h r "com/example/akcept/akcept/input/Amount" ∧ Fld Z h r "com/example/akcept/akcept/input/Amount" "kopecks" "J" (.long (x - y))
set_option maxRecDepth 65536 in
set_option maxHeartbeats 40000000 in
theorem rm_minus (l : Launch) (Z : State) (a0 : Array Value) (hw : ∀ d ∈ tables_1, d.before a0 Z = true) (ws : List Jvm.Cond) (p0 : Addr) (p1 : Addr) (x : Int64) (y : Int64) (h0 : Heap) (n0 : Nat) (Z0 : n0 ≤ h0.size) (ne01 : p0 ≠ p1) (F0 : Fld Z h0 p0 "com/example/akcept/akcept/input/Amount" "kopecks" "J" (.long x)) (F1 : Fld Z h0 p1 "com/example/akcept/akcept/input/Amount" "kopecks" "J" (.long y)) (hnn : 0 ≤ (x - y).toInt) :
    MetFree l (⟨"com/example/akcept/akcept/input/Amount", "minus", "(Lcom/example/akcept/akcept/input/Amount;)Lcom/example/akcept/akcept/input/Amount;"⟩ : MethodName) (head1 (Jvm.Cond.code (⟨"com/example/akcept/akcept/input/Amount", "minus", "(Lcom/example/akcept/akcept/input/Amount;)Lcom/example/akcept/akcept/input/Amount;"⟩ : MethodName) prog_20_method_4_code 2 (some (.object "com/example/akcept/akcept/input/Amount")) :: ws) ({ frames := 3, cells := 1, slots := 1, locals := 39 } : Room)) (fun a U => a = #[(.ref p0), (.ref p1)] ∧ Z.Warmed39 U.vm ∧ U.heap = h0) (fun _ _ _ _ _ => True) (fun _ U o U' => ∃ v L, o = .returned v ∧ Q_minus Z p0 p1 x y h0 n0 v U'.heap L ∧ FrameEnd U o U' L ({ frames := 3, cells := 1, slots := 1, locals := 39 } : Room).cells ({ frames := 3, cells := 1, slots := 1, locals := 39 } : Room).slots) := by
  refine MetFree.of_bodySF (plainFor_of_name pn_com_example_akcept_akcept_input_Amount) hisR ?_
  intro p e s m args below meth c s₁ Bd hml0 hP hK
  obtain ⟨rfl, hZ, hh⟩ := hP
  have hx := Bd.exec
  have hby := Bd.bytes
  have hlk := Bd.notSynchronized
  have hml : c.maxLocals = 2 := hml0
  have hown : s.vm.findClass "com/example/akcept/akcept/input/Amount" = some m.cls := findClass_of_methodNamed Bd.named
  have hnm := (name_of_methodNamed Bd.named Bd.method).1
  have X0 : Stand p l e ({ frames := 3, cells := 1, slots := 1, locals := 39 } : Room) s m #[(.ref p0), (.ref p1)] below meth c s₁ [] 0 0 := Stand.of_body Bd
  have e0 : s₁.heap = h0 := by rw [← hh, Bd.state]; rfl
  have N0 := Fr.nil n0
  show own_G p.tables e below (own_E below s ({ frames := 3, cells := 1, slots := 1, locals := 39 } : Room).cells ({ frames := 3, cells := 1, slots := 1, locals := 39 } : Room).slots (Q_minus Z p0 p1 x y h0 n0)) _
  refine own_go (fun _ k => castTop (ef_minus m p0 p1) k) ?_
  show own_G p.tables e below _ (s₁.setTop (mkF m 0 #[.val (.ref p0), .val (.ref p1)] []))
  obtain ⟨T6, h6, X6, e6, E6, A6, D6, -, st6⟩ := newO X0 hx hZ hown (hw _ (List.mem_of_getElem? (i := 29) rfl)) (hw _ (List.mem_of_getElem? (i := 9) rfl)) (hw _ (List.mem_of_getElem? (i := 10) rfl)) e0 (g := (mkF m 0 #[.val (.ref p0), .val (.ref p1)] [])) rfl (hb hby d6_0) (Nat.le_of_ble_eq_true rfl) (Nat.le_of_ble_eq_true rfl)
  obtain ⟨b6, g6⟩ : ∃ z, z = h0.size := ⟨_, rfl⟩
  rw [← g6] at A6 D6 st6
  have ne_p0_b6 : p0 ≠ b6 := Nat.ne_of_lt (Nat.lt_of_lt_of_le F0.lt (Nat.le_of_eq g6.symm))
  have ne_p1_b6 : p1 ≠ b6 := Nat.ne_of_lt (Nat.lt_of_lt_of_le F1.lt (Nat.le_of_eq g6.symm))
  have g_b6 : n0 ≤ b6 := Nat.le_trans Z0 (Nat.le_of_eq g6.symm)
  have sz_b6 : h0.size ≤ b6 := Nat.le_trans (Keep.refl h0 []).1 (Nat.le_of_eq g6.symm)
  refine own_go st6 ?_
  have Z6 : n0 ≤ h6.size := Nat.le_trans Z0 E6.1
  have K6 : Keep h0 h6 [] := (Keep.refl h0 []).ext E6
  have F_kopecks_b6 : Fld Z h6 b6 "com/example/akcept/akcept/input/Amount" "kopecks" "J" (.long (0 : Int64)) := D6 (Or.inr (hw _ (List.mem_of_getElem? (i := 23) rfl))) (ty := .long) (by decide)
  show own_G p.tables e below _ (T6.setTop (mkF m 3 #[.val (.ref p0), .val (.ref p1)] [(.ref b6)]))
  refine own_go (fun _ kt => XS.dup X6.here hx rfl (hb hby d6_3) rfl rfl kt) ?_
  show own_G p.tables e below _ (T6.setTop (mkF m 4 #[.val (.ref p0), .val (.ref p1)] [(.ref b6), (.ref b6)]))
  refine own_go (fun _ kt => XS.aloadN X6.here hx rfl (hb hby d6_4) rfl rfl kt) ?_
  show own_G p.tables e below _ (T6.setTop (mkF m 5 #[.val (.ref p0), .val (.ref p1)] [(.ref p0), (.ref b6), (.ref b6)]))
  have u7 := (F0.ext E6)
  obtain ⟨T8, X8, e8, st8⟩ := getF X6 hx hZ hown (host := "") (Or.inl (hw _ (List.mem_of_getElem? (i := 22) rfl))) Via.refl e6 u7 (g := (mkF m 5 #[.val (.ref p0), .val (.ref p1)] [(.ref p0), (.ref b6), (.ref b6)])) rfl rfl (hb hby d6_5)
  refine own_go st8 ?_
  show own_G p.tables e below _ (T8.setTop (mkF m 8 #[.val (.ref p0), .val (.ref p1)] [(.long x), (.ref b6), (.ref b6)]))
  refine own_go (fun _ kt => XS.aloadN X8.here hx rfl (hb hby d6_8) rfl rfl kt) ?_
  show own_G p.tables e below _ (T8.setTop (mkF m 9 #[.val (.ref p0), .val (.ref p1)] [(.ref p1), (.long x), (.ref b6), (.ref b6)]))
  have u9 := (F1.ext E6)
  obtain ⟨T10, X10, e10, st10⟩ := getF X8 hx hZ hown (host := "") (Or.inl (hw _ (List.mem_of_getElem? (i := 22) rfl))) Via.refl e8 u9 (g := (mkF m 9 #[.val (.ref p0), .val (.ref p1)] [(.ref p1), (.long x), (.ref b6), (.ref b6)])) rfl rfl (hb hby d6_9)
  refine own_go st10 ?_
  show own_G p.tables e below _ (T10.setTop (mkF m 12 #[.val (.ref p0), .val (.ref p1)] [(.long y), (.long x), (.ref b6), (.ref b6)]))
  refine own_go (fun _ kt => XS.lsub X10.here hx rfl (hb hby d6_12) rfl kt) ?_
  show own_G p.tables e below _ (T10.setTop (mkF m 13 #[.val (.ref p0), .val (.ref p1)] [(.long (x - y)), (.ref b6), (.ref b6)]))
  obtain ⟨_, _, ⟨T11, L11, k11, n11⟩, -, X11, ⟨Lc11, hQ11, l11, y11, z11⟩, st11⟩ := X10.specialBack hx (y := (⟨"com/example/akcept/akcept/input/Amount", "<init>", "(J)V"⟩ : MethodName)) rfl hown (mvT hZ (hw _ (List.mem_of_getElem? (i := 30) rfl))) (mvT hZ (hw _ (List.mem_of_getElem? (i := 12) rfl))) (mvT hZ (hw _ (List.mem_of_getElem? (i := 13) rfl))) (by decide) (backOf (W := 1) (rm_init l Z a0 hw [] b6 (x - y) _ h6 n0 Z6 A6 F_kopecks_b6 g_b6 hnn) hZ (hw _ (List.mem_of_getElem? (i := 13) rfl)) (hw _ (List.mem_of_getElem? (i := 10) rfl)) (by decide) (by decide)) (g := (mkF m 13 #[.val (.ref p0), .val (.ref p1)] [(.long (x - y)), (.ref b6), (.ref b6)])) rfl (by rw [hml]; rfl) (Steps.refl _) (a := b6) (argsL := [(.long (x - y))]) (rest := [(.ref b6)]) (lenOf pd__J_V rfl) rfl (by show 2 * 0 + _ ≤ _; exact Nat.le_of_eq rfl) (hb hby d6_13) (fun _ _ => ⟨rfl, e10, (Nat.le_of_ble_eq_true rfl), (Nat.le_of_ble_eq_true rfl)⟩)
  dsimp only [Pt.U, Pt.locs, Pt.cells, Pt.slots] at X11 l11 y11 z11 st11 hQ11
  subst l11 y11 z11
  obtain ⟨rfl, Nq11, Kq11, Eq11, Fq11⟩ := hQ11
  have N11 := Fr.app N0 Nq11
  refine own_tr st11 ?_
  have Z11 : n0 ≤ T11.heap.size := Nat.le_trans Z6 Kq11.1
  have Kc11 : Keep h0 T11.heap [] := K6.trans Kq11 (allS (Or.inr sz_b6) all0)
  show own_G p.tables e below _ (T11.setTop (mkF m 16 #[.val (.ref p0), .val (.ref p1)] [(.ref b6)]))
  exact own_retR X11 hx Bd.returns rfl hlk (hb hby d6_16) (Nat.le_of_ble_eq_true rfl) (Nat.le_of_ble_eq_true rfl) rfl ⟨_, rfl, N11, Kc11, g_b6, sz_b6, Eq11, Fq11⟩
theorem d8_0 : decode prog_20_method_3_code 0 = .ok (.new 17, 3) := by decide +kernel
theorem d8_3 : decode prog_20_method_3_code 3 = .ok (.dup, 1) := by decide +kernel
theorem d8_4 : decode prog_20_method_3_code 4 = .ok (.aload_n 0, 1) := by decide +kernel
theorem d8_5 : decode prog_20_method_3_code 5 = .ok (.getfield 16, 3) := by decide +kernel
theorem d8_8 : decode prog_20_method_3_code 8 = .ok (.aload_n 1, 1) := by decide +kernel
theorem d8_9 : decode prog_20_method_3_code 9 = .ok (.getfield 16, 3) := by decide +kernel
theorem d8_12 : decode prog_20_method_3_code 12 = .ok (.invokestatic 67, 3) := by decide +kernel
theorem pd__JJ_J : parseMethodDescriptor "(JJ)J" = some ⟨[.long, .long], some .long⟩ := by decide +kernel
theorem d8_15 : decode prog_20_method_3_code 15 = .ok (.invokespecial 64, 3) := by decide +kernel
theorem d8_18 : decode prog_20_method_3_code 18 = .ok (.areturn, 1) := by decide +kernel
theorem ef_plus (m : MethodId) (p0 : Addr) (p1 : Addr) : entryFrame m #[(.ref p0), (.ref p1)] 2 = mkF m 0 #[.val (.ref p0), .val (.ref p1)] [] := by first | (simp [entryFrame, mkF, argsToLocals, Value.category]; done) | rfl
def Q_plus (Z : State) (p0 : Addr) (p1 : Addr) (x : Int64) (y : Int64) (h0 : Heap) (n0 : Nat) (v : Option Value) (h : Heap) (L : List Loc) : Prop := ∃ r : Addr, v = some (.ref r) ∧ Fr n0 L ∧ Keep h0 h [] ∧ n0 ≤ r ∧ h0.size ≤ r ∧ Exa Z h r "com/example/akcept/akcept/input/Amount" ∧ Fld Z h r "com/example/akcept/akcept/input/Amount" "kopecks" "J" (.long (x + y))
set_option maxRecDepth 65536 in
set_option maxHeartbeats 40000000 in
theorem rm_plus (l : Launch) (Z : State) (a0 : Array Value) (hw : ∀ d ∈ tables_1, d.before a0 Z = true) (ws : List Jvm.Cond) (p0 : Addr) (p1 : Addr) (x : Int64) (y : Int64) (h0 : Heap) (n0 : Nat) (Z0 : n0 ≤ h0.size) (ne01 : p0 ≠ p1) (F0 : Fld Z h0 p0 "com/example/akcept/akcept/input/Amount" "kopecks" "J" (.long x)) (F1 : Fld Z h0 p1 "com/example/akcept/akcept/input/Amount" "kopecks" "J" (.long y)) (hx0 : 0 ≤ x.toInt) (hy0 : 0 ≤ y.toInt) (hsum : x.toInt + y.toInt < 9223372036854775808) (hnn : 0 ≤ (x + y).toInt) :
    MetFree l (⟨"com/example/akcept/akcept/input/Amount", "plus", "(Lcom/example/akcept/akcept/input/Amount;)Lcom/example/akcept/akcept/input/Amount;"⟩ : MethodName) (head1 (Jvm.Cond.code (⟨"com/example/akcept/akcept/input/Amount", "plus", "(Lcom/example/akcept/akcept/input/Amount;)Lcom/example/akcept/akcept/input/Amount;"⟩ : MethodName) prog_20_method_3_code 2 (some (.object "com/example/akcept/akcept/input/Amount")) :: ws) ({ frames := 3, cells := 1, slots := 1, locals := 39 } : Room)) (fun a U => a = #[(.ref p0), (.ref p1)] ∧ Z.Warmed39 U.vm ∧ U.heap = h0) (fun _ _ _ _ _ => True) (fun _ U o U' => ∃ v L, o = .returned v ∧ Q_plus Z p0 p1 x y h0 n0 v U'.heap L ∧ FrameEnd U o U' L ({ frames := 3, cells := 1, slots := 1, locals := 39 } : Room).cells ({ frames := 3, cells := 1, slots := 1, locals := 39 } : Room).slots) := by
  refine MetFree.of_bodySF (plainFor_of_name pn_com_example_akcept_akcept_input_Amount) hisR ?_
  intro p e s m args below meth c s₁ Bd hml0 hP hK
  obtain ⟨rfl, hZ, hh⟩ := hP
  have hx := Bd.exec
  have hby := Bd.bytes
  have hlk := Bd.notSynchronized
  have hml : c.maxLocals = 2 := hml0
  have hown : s.vm.findClass "com/example/akcept/akcept/input/Amount" = some m.cls := findClass_of_methodNamed Bd.named
  have hnm := (name_of_methodNamed Bd.named Bd.method).1
  have X0 : Stand p l e ({ frames := 3, cells := 1, slots := 1, locals := 39 } : Room) s m #[(.ref p0), (.ref p1)] below meth c s₁ [] 0 0 := Stand.of_body Bd
  have e0 : s₁.heap = h0 := by rw [← hh, Bd.state]; rfl
  have N0 := Fr.nil n0
  show own_G p.tables e below (own_E below s ({ frames := 3, cells := 1, slots := 1, locals := 39 } : Room).cells ({ frames := 3, cells := 1, slots := 1, locals := 39 } : Room).slots (Q_plus Z p0 p1 x y h0 n0)) _
  refine own_go (fun _ k => castTop (ef_plus m p0 p1) k) ?_
  show own_G p.tables e below _ (s₁.setTop (mkF m 0 #[.val (.ref p0), .val (.ref p1)] []))
  obtain ⟨T12, h12, X12, e12, E12, A12, D12, -, st12⟩ := newO X0 hx hZ hown (hw _ (List.mem_of_getElem? (i := 29) rfl)) (hw _ (List.mem_of_getElem? (i := 9) rfl)) (hw _ (List.mem_of_getElem? (i := 10) rfl)) e0 (g := (mkF m 0 #[.val (.ref p0), .val (.ref p1)] [])) rfl (hb hby d8_0) (Nat.le_of_ble_eq_true rfl) (Nat.le_of_ble_eq_true rfl)
  obtain ⟨b12, g12⟩ : ∃ z, z = h0.size := ⟨_, rfl⟩
  rw [← g12] at A12 D12 st12
  have ne_p0_b12 : p0 ≠ b12 := Nat.ne_of_lt (Nat.lt_of_lt_of_le F0.lt (Nat.le_of_eq g12.symm))
  have ne_p1_b12 : p1 ≠ b12 := Nat.ne_of_lt (Nat.lt_of_lt_of_le F1.lt (Nat.le_of_eq g12.symm))
  have g_b12 : n0 ≤ b12 := Nat.le_trans Z0 (Nat.le_of_eq g12.symm)
  have sz_b12 : h0.size ≤ b12 := Nat.le_trans (Keep.refl h0 []).1 (Nat.le_of_eq g12.symm)
  refine own_go st12 ?_
  have Z12 : n0 ≤ h12.size := Nat.le_trans Z0 E12.1
  have K12 : Keep h0 h12 [] := (Keep.refl h0 []).ext E12
  have F_kopecks_b12 : Fld Z h12 b12 "com/example/akcept/akcept/input/Amount" "kopecks" "J" (.long (0 : Int64)) := D12 (Or.inr (hw _ (List.mem_of_getElem? (i := 23) rfl))) (ty := .long) (by decide)
  show own_G p.tables e below _ (T12.setTop (mkF m 3 #[.val (.ref p0), .val (.ref p1)] [(.ref b12)]))
  refine own_go (fun _ kt => XS.dup X12.here hx rfl (hb hby d8_3) rfl rfl kt) ?_
  show own_G p.tables e below _ (T12.setTop (mkF m 4 #[.val (.ref p0), .val (.ref p1)] [(.ref b12), (.ref b12)]))
  refine own_go (fun _ kt => XS.aloadN X12.here hx rfl (hb hby d8_4) rfl rfl kt) ?_
  show own_G p.tables e below _ (T12.setTop (mkF m 5 #[.val (.ref p0), .val (.ref p1)] [(.ref p0), (.ref b12), (.ref b12)]))
  have u13 := (F0.ext E12)
  obtain ⟨T14, X14, e14, st14⟩ := getF X12 hx hZ hown (host := "") (Or.inl (hw _ (List.mem_of_getElem? (i := 22) rfl))) Via.refl e12 u13 (g := (mkF m 5 #[.val (.ref p0), .val (.ref p1)] [(.ref p0), (.ref b12), (.ref b12)])) rfl rfl (hb hby d8_5)
  refine own_go st14 ?_
  show own_G p.tables e below _ (T14.setTop (mkF m 8 #[.val (.ref p0), .val (.ref p1)] [(.long x), (.ref b12), (.ref b12)]))
  refine own_go (fun _ kt => XS.aloadN X14.here hx rfl (hb hby d8_8) rfl rfl kt) ?_
  show own_G p.tables e below _ (T14.setTop (mkF m 9 #[.val (.ref p0), .val (.ref p1)] [(.ref p1), (.long x), (.ref b12), (.ref b12)]))
  have u15 := (F1.ext E12)
  obtain ⟨T16, X16, e16, st16⟩ := getF X14 hx hZ hown (host := "") (Or.inl (hw _ (List.mem_of_getElem? (i := 22) rfl))) Via.refl e14 u15 (g := (mkF m 9 #[.val (.ref p0), .val (.ref p1)] [(.ref p1), (.long x), (.ref b12), (.ref b12)])) rfl rfl (hb hby d8_9)
  refine own_go st16 ?_
  show own_G p.tables e below _ (T16.setTop (mkF m 12 #[.val (.ref p0), .val (.ref p1)] [(.long y), (.long x), (.ref b12), (.ref b12)]))
  obtain ⟨_, _, ⟨T17, L17, k17, n17⟩, -, X17, ⟨Lc17, hQ17, l17, y17, z17⟩, st17⟩ := Jvm.LawKit.callS X16 hx (y := (⟨"java/lang/Math", "addExact", "(JJ)J"⟩ : MethodName)) hown (mvT hZ (hw _ (List.mem_of_getElem? (i := 41) rfl))) (mvT hZ (hw _ (List.mem_of_getElem? (i := 42) rfl))) (mvT hZ (hw _ (List.mem_of_getElem? (i := 3) rfl))) (mvT hZ (hw _ (List.mem_of_getElem? (i := 43) rfl))) (by decide) (backOf (W := 2) (rm_addx l Z a0 hw [] x y  h12 n0 Z12 hx0 hy0 hsum) hZ (hw _ (List.mem_of_getElem? (i := 43) rfl)) (hw _ (List.mem_of_getElem? (i := 3) rfl)) (by decide) (by decide)) (g := (mkF m 12 #[.val (.ref p0), .val (.ref p1)] [(.long y), (.long x), (.ref b12), (.ref b12)])) rfl (by rw [hml]; rfl) (argsL := [(.long x), (.long y)]) (rest := [(.ref b12), (.ref b12)]) (lenOf pd__JJ_J rfl) rfl (by show 2 * 0 + _ ≤ _; exact Nat.le_of_eq rfl) (hb hby d8_12) (fun _ _ => ⟨rfl, e16, (Nat.le_of_ble_eq_true rfl), (Nat.le_of_ble_eq_true rfl)⟩)
  dsimp only [Pt.U, Pt.locs, Pt.cells, Pt.slots] at X17 l17 y17 z17 st17 hQ17
  subst l17 y17 z17
  obtain ⟨rfl, Nq17, eq17⟩ := hQ17
  have N17 := Fr.app N0 Nq17
  refine own_go st17 ?_
  show own_G p.tables e below _ (T17.setTop (mkF m 15 #[.val (.ref p0), .val (.ref p1)] [(.long (x + y)), (.ref b12), (.ref b12)]))
  obtain ⟨_, _, ⟨T18, L18, k18, n18⟩, -, X18, ⟨Lc18, hQ18, l18, y18, z18⟩, st18⟩ := X17.specialBack hx (y := (⟨"com/example/akcept/akcept/input/Amount", "<init>", "(J)V"⟩ : MethodName)) rfl hown (mvT hZ (hw _ (List.mem_of_getElem? (i := 30) rfl))) (mvT hZ (hw _ (List.mem_of_getElem? (i := 12) rfl))) (mvT hZ (hw _ (List.mem_of_getElem? (i := 13) rfl))) (by decide) (backOf (W := 1) (rm_init l Z a0 hw [] b12 (x + y) _ h12 n0 Z12 A12 F_kopecks_b12 g_b12 hnn) hZ (hw _ (List.mem_of_getElem? (i := 13) rfl)) (hw _ (List.mem_of_getElem? (i := 10) rfl)) (by decide) (by decide)) (g := (mkF m 15 #[.val (.ref p0), .val (.ref p1)] [(.long (x + y)), (.ref b12), (.ref b12)])) rfl (by rw [hml]; rfl) (Steps.refl _) (a := b12) (argsL := [(.long (x + y))]) (rest := [(.ref b12)]) (lenOf pd__J_V rfl) rfl (by show 2 * 0 + _ ≤ _; exact Nat.le_of_eq rfl) (hb hby d8_15) (fun _ _ => ⟨rfl, eq17, (Nat.le_of_ble_eq_true rfl), (Nat.le_of_ble_eq_true rfl)⟩)
  dsimp only [Pt.U, Pt.locs, Pt.cells, Pt.slots] at X18 l18 y18 z18 st18 hQ18
  subst l18 y18 z18
  obtain ⟨rfl, Nq18, Kq18, Eq18, Fq18⟩ := hQ18
  have N18 := Fr.app N17 Nq18
  refine own_tr st18 ?_
  have Z18 : n0 ≤ T18.heap.size := Nat.le_trans Z12 Kq18.1
  have Kc18 : Keep h0 T18.heap [] := K12.trans Kq18 (allS (Or.inr sz_b12) all0)
  show own_G p.tables e below _ (T18.setTop (mkF m 18 #[.val (.ref p0), .val (.ref p1)] [(.ref b12)]))
  exact own_retR X18 hx Bd.returns rfl hlk (hb hby d8_18) (Nat.le_of_ble_eq_true rfl) (Nat.le_of_ble_eq_true rfl) rfl ⟨_, rfl, N18, Kc18, g_b12, sz_b12, Eq18, Fq18⟩
theorem pd__Lcom_example_akcept_akcept_input_Amount__Lcom_example_akcept_akcept_input_Amount_ : parseMethodDescriptor "(Lcom/example/akcept/akcept/input/Amount;)Lcom/example/akcept/akcept/input/Amount;" = some ⟨[(.object "com/example/akcept/akcept/input/Amount")], some (.object "com/example/akcept/akcept/input/Amount")⟩ := by decide +kernel
theorem pd___J : parseMethodDescriptor "()J" = some ⟨[], some .long⟩ := by decide +kernel
theorem pn_com_example_akcept_akcept_input_AmountMinusPinLaw : plainName "com/example/akcept/akcept/input/AmountMinusPinLaw" = true := by first | (simp [plainName, overriddenIn]; done) | decide +kernel
theorem ef_law (m : MethodId) (p0 : Int64) (p1 : Int64) (p2 : Int32) : entryFrame m #[(.long p0), (.long p1), (.int p2)] maxLocals = mkF m 0 #[.val (.long p0), .second, .val (.long p1), .second, .val (.int p2), .unset, .unset, .unset, .unset, .unset, .unset, .unset, .unset, .unset, .unset, .unset] [] := by first | (simp [entryFrame, mkF, argsToLocals, Value.category, maxLocals]; done) | rfl
def Q_law (Z : State) (p0 : Int64) (p1 : Int64) (p2 : Int32) (h0 : Heap) (n0 : Nat) (v : Option Value) (h : Heap) (L : List Loc) : Prop := v = some (.int (1 : Int32)) ∧ Fr n0 L
set_option maxRecDepth 65536 in
set_option maxHeartbeats 40000000 in
theorem rm_law (l : Launch) (Z : State) (a0 : Array Value) (hw : ∀ d ∈ tables_1, d.before a0 Z = true) (ws : List Jvm.Cond) (p0 : Int64) (p1 : Int64) (p2 : Int32) (h0 : Heap) (n0 : Nat) (Z0 : n0 ≤ h0.size) :
    MetFree l x (head1 (Jvm.Cond.code x code maxLocals ret :: ws) room_1) (fun a U => a = #[(.long p0), (.long p1), (.int p2)] ∧ Z.Warmed39 U.vm ∧ U.heap = h0) (fun _ _ _ _ _ => True) (fun _ U o U' => ∃ v L, o = .returned v ∧ Q_law Z p0 p1 p2 h0 n0 v U'.heap L ∧ FrameEnd U o U' L room_1.cells room_1.slots) := by
  refine MetFree.of_bodySF (plainFor_of_name pn_com_example_akcept_akcept_input_AmountMinusPinLaw) hisR ?_
  intro p e s m args below meth c s₁ Bd hml0 hP hK
  obtain ⟨rfl, hZ, hh⟩ := hP
  have hx := Bd.exec
  have hby := Bd.bytes
  have hlk := Bd.notSynchronized
  have hml : c.maxLocals = 16 := hml0
  have hown : s.vm.findClass "com/example/akcept/akcept/input/AmountMinusPinLaw" = some m.cls := findClass_of_methodNamed Bd.named
  have hnm := (name_of_methodNamed Bd.named Bd.method).1
  have X0 : Stand p l e room_1 s m #[(.long p0), (.long p1), (.int p2)] below meth c s₁ [] 0 0 := Stand.of_body Bd
  have e0 : s₁.heap = h0 := by rw [← hh, Bd.state]; rfl
  have N0 := Fr.nil n0
  show own_G p.tables e below (own_E below s room_1.cells room_1.slots (Q_law Z p0 p1 p2 h0 n0)) _
  refine own_go (fun _ k => castTop (ef_law m p0 p1 p2) k) ?_
  have j42 : ∀ (T19 : State) (locs19 : List Loc) (h19 : Heap) (a b : Int64), Stand p l e room_1 s m #[(.long p0), (.long p1), (.int p2)] below meth c T19 locs19 0 0 → T19.heap = h19 → Fr n0 locs19 → n0 ≤ h19.size → (0 ≤ a.toInt) → (0 ≤ b.toInt) → own_G p.tables e below (own_E below s room_1.cells room_1.slots (Q_law Z p0 p1 p2 h0 n0)) (T19.setTop (mkF m 42 #[.val (.long p0), .second, .val (.long p1), .second, .val (.int p2), .val (.long a), .second, .val (.long b), .second, .val (.int (p2 &&& (3 : Int32))), .unset, .unset, .unset, .unset, .unset, .unset] [])) := by
    intro T19 locs19 h19 a b X19 e19 N19 Z19 ha hb0
    show own_G p.tables e below _ (T19.setTop (mkF m 42 #[.val (.long p0), .second, .val (.long p1), .second, .val (.int p2), .val (.long a), .second, .val (.long b), .second, .val (.int (p2 &&& (3 : Int32))), .unset, .unset, .unset, .unset, .unset, .unset] []))
    refine own_go (fun _ kt => XS.lload X19.here hx rfl (hb hby at_42) rfl kt) ?_
    show own_G p.tables e below _ (T19.setTop (mkF m 44 #[.val (.long p0), .second, .val (.long p1), .second, .val (.int p2), .val (.long a), .second, .val (.long b), .second, .val (.int (p2 &&& (3 : Int32))), .unset, .unset, .unset, .unset, .unset, .unset] [(.long a)]))
    refine own_go (fun _ kt => XS.lload X19.here hx rfl (hb hby at_44) rfl kt) ?_
    show own_G p.tables e below _ (T19.setTop (mkF m 46 #[.val (.long p0), .second, .val (.long p1), .second, .val (.int p2), .val (.long a), .second, .val (.long b), .second, .val (.int (p2 &&& (3 : Int32))), .unset, .unset, .unset, .unset, .unset, .unset] [(.long b), (.long a)]))
    obtain ⟨_, _, ⟨T20, L20, k20, n20⟩, -, X20, ⟨Lc20, hQ20, l20, y20, z20⟩, st20⟩ := Jvm.LawKit.callS X19 hx (y := (⟨"java/lang/Math", "max", "(JJ)J"⟩ : MethodName)) hown (mvT hZ (hw _ (List.mem_of_getElem? (i := 1) rfl))) (mvT hZ (hw _ (List.mem_of_getElem? (i := 2) rfl))) (mvT hZ (hw _ (List.mem_of_getElem? (i := 3) rfl))) (mvT hZ (hw _ (List.mem_of_getElem? (i := 4) rfl))) (by decide) (backOf (W := 0) (rm_max l Z a0 hw [] a b  h19 n0 Z19 ) hZ (hw _ (List.mem_of_getElem? (i := 4) rfl)) (hw _ (List.mem_of_getElem? (i := 3) rfl)) (by decide) (by decide)) (g := (mkF m 46 #[.val (.long p0), .second, .val (.long p1), .second, .val (.int p2), .val (.long a), .second, .val (.long b), .second, .val (.int (p2 &&& (3 : Int32))), .unset, .unset, .unset, .unset, .unset, .unset] [(.long b), (.long a)])) rfl (by rw [hml]; rfl) (argsL := [(.long a), (.long b)]) (rest := []) (lenOf pd__JJ_J rfl) rfl (by show 2 * 0 + _ ≤ _; exact Nat.le_of_eq rfl) (hb hby at_46) (fun _ _ => ⟨rfl, e19, (Nat.le_of_ble_eq_true rfl), (Nat.le_of_ble_eq_true rfl)⟩)
    dsimp only [Pt.U, Pt.locs, Pt.cells, Pt.slots] at X20 l20 y20 z20 st20 hQ20
    subst l20 y20 z20
    obtain ⟨hi, rfl, Nq20, eq20, hhi⟩ := hQ20
    have N20 := Fr.app N19 Nq20
    refine own_go st20 ?_
    show own_G p.tables e below _ (T20.setTop (mkF m 49 #[.val (.long p0), .second, .val (.long p1), .second, .val (.int p2), .val (.long a), .second, .val (.long b), .second, .val (.int (p2 &&& (3 : Int32))), .unset, .unset, .unset, .unset, .unset, .unset] [(.long hi)]))
    refine own_go (fun _ kt => XS.lstore X20.here hx rfl (hb hby at_49) rfl (l' := #[.val (.long p0), .second, .val (.long p1), .second, .val (.int p2), .val (.long a), .second, .val (.long b), .second, .val (.int (p2 &&& (3 : Int32))), .val (.long hi), .second, .unset, .unset, .unset, .unset]) rfl kt) ?_
    show own_G p.tables e below _ (T20.setTop (mkF m 51 #[.val (.long p0), .second, .val (.long p1), .second, .val (.int p2), .val (.long a), .second, .val (.long b), .second, .val (.int (p2 &&& (3 : Int32))), .val (.long hi), .second, .unset, .unset, .unset, .unset] []))
    refine own_go (fun _ kt => XS.lload X20.here hx rfl (hb hby at_51) rfl kt) ?_
    show own_G p.tables e below _ (T20.setTop (mkF m 53 #[.val (.long p0), .second, .val (.long p1), .second, .val (.int p2), .val (.long a), .second, .val (.long b), .second, .val (.int (p2 &&& (3 : Int32))), .val (.long hi), .second, .unset, .unset, .unset, .unset] [(.long a)]))
    refine own_go (fun _ kt => XS.lload X20.here hx rfl (hb hby at_53) rfl kt) ?_
    show own_G p.tables e below _ (T20.setTop (mkF m 55 #[.val (.long p0), .second, .val (.long p1), .second, .val (.int p2), .val (.long a), .second, .val (.long b), .second, .val (.int (p2 &&& (3 : Int32))), .val (.long hi), .second, .unset, .unset, .unset, .unset] [(.long b), (.long a)]))
    obtain ⟨_, _, ⟨T21, L21, k21, n21⟩, -, X21, ⟨Lc21, hQ21, l21, y21, z21⟩, st21⟩ := Jvm.LawKit.callS X20 hx (y := (⟨"java/lang/Math", "min", "(JJ)J"⟩ : MethodName)) hown (mvT hZ (hw _ (List.mem_of_getElem? (i := 5) rfl))) (mvT hZ (hw _ (List.mem_of_getElem? (i := 6) rfl))) (mvT hZ (hw _ (List.mem_of_getElem? (i := 3) rfl))) (mvT hZ (hw _ (List.mem_of_getElem? (i := 7) rfl))) (by decide) (backOf (W := 0) (rm_min l Z a0 hw [] a b  h19 n0 Z19 ) hZ (hw _ (List.mem_of_getElem? (i := 7) rfl)) (hw _ (List.mem_of_getElem? (i := 3) rfl)) (by decide) (by decide)) (g := (mkF m 55 #[.val (.long p0), .second, .val (.long p1), .second, .val (.int p2), .val (.long a), .second, .val (.long b), .second, .val (.int (p2 &&& (3 : Int32))), .val (.long hi), .second, .unset, .unset, .unset, .unset] [(.long b), (.long a)])) rfl (by rw [hml]; rfl) (argsL := [(.long a), (.long b)]) (rest := []) (lenOf pd__JJ_J rfl) rfl (by show 2 * 0 + _ ≤ _; exact Nat.le_of_eq rfl) (hb hby at_55) (fun _ _ => ⟨rfl, eq20, (Nat.le_of_ble_eq_true rfl), (Nat.le_of_ble_eq_true rfl)⟩)
    dsimp only [Pt.U, Pt.locs, Pt.cells, Pt.slots] at X21 l21 y21 z21 st21 hQ21
    subst l21 y21 z21
    obtain ⟨lo, rfl, Nq21, eq21, hlo⟩ := hQ21
    have N21 := Fr.app N20 Nq21
    refine own_go st21 ?_
    have hnn : 0 ≤ lo.toInt := by omega
    show own_G p.tables e below _ (T21.setTop (mkF m 58 #[.val (.long p0), .second, .val (.long p1), .second, .val (.int p2), .val (.long a), .second, .val (.long b), .second, .val (.int (p2 &&& (3 : Int32))), .val (.long hi), .second, .unset, .unset, .unset, .unset] [(.long lo)]))
    refine own_go (fun _ kt => XS.lstore X21.here hx rfl (hb hby at_58) rfl (l' := #[.val (.long p0), .second, .val (.long p1), .second, .val (.int p2), .val (.long a), .second, .val (.long b), .second, .val (.int (p2 &&& (3 : Int32))), .val (.long hi), .second, .val (.long lo), .second, .unset, .unset]) rfl kt) ?_
    show own_G p.tables e below _ (T21.setTop (mkF m 60 #[.val (.long p0), .second, .val (.long p1), .second, .val (.int p2), .val (.long a), .second, .val (.long b), .second, .val (.int (p2 &&& (3 : Int32))), .val (.long hi), .second, .val (.long lo), .second, .unset, .unset] []))
    obtain ⟨T22, h22, X22, e22, E22, A22, D22, -, st22⟩ := newO X21 hx hZ hown (hw _ (List.mem_of_getElem? (i := 8) rfl)) (hw _ (List.mem_of_getElem? (i := 9) rfl)) (hw _ (List.mem_of_getElem? (i := 10) rfl)) eq21 (g := (mkF m 60 #[.val (.long p0), .second, .val (.long p1), .second, .val (.int p2), .val (.long a), .second, .val (.long b), .second, .val (.int (p2 &&& (3 : Int32))), .val (.long hi), .second, .val (.long lo), .second, .unset, .unset] [])) rfl (hb hby at_60) (Nat.le_of_ble_eq_true rfl) (Nat.le_of_ble_eq_true rfl)
    obtain ⟨b22, g22⟩ : ∃ z, z = h19.size := ⟨_, rfl⟩
    rw [← g22] at A22 D22 st22
    have g_b22 : n0 ≤ b22 := Nat.le_trans Z19 (Nat.le_of_eq g22.symm)
    refine own_go st22 ?_
    have Z22 : n0 ≤ h22.size := Nat.le_trans Z19 E22.1
    have F_kopecks_b22 : Fld Z h22 b22 "com/example/akcept/akcept/input/Amount" "kopecks" "J" (.long (0 : Int64)) := D22 (Or.inr (hw _ (List.mem_of_getElem? (i := 23) rfl))) (ty := .long) (by decide)
    show own_G p.tables e below _ (T22.setTop (mkF m 63 #[.val (.long p0), .second, .val (.long p1), .second, .val (.int p2), .val (.long a), .second, .val (.long b), .second, .val (.int (p2 &&& (3 : Int32))), .val (.long hi), .second, .val (.long lo), .second, .unset, .unset] [(.ref b22)]))
    refine own_go (fun _ kt => XS.dup X22.here hx rfl (hb hby at_63) rfl rfl kt) ?_
    show own_G p.tables e below _ (T22.setTop (mkF m 64 #[.val (.long p0), .second, .val (.long p1), .second, .val (.int p2), .val (.long a), .second, .val (.long b), .second, .val (.int (p2 &&& (3 : Int32))), .val (.long hi), .second, .val (.long lo), .second, .unset, .unset] [(.ref b22), (.ref b22)]))
    refine own_go (fun _ kt => XS.lload X22.here hx rfl (hb hby at_64) rfl kt) ?_
    show own_G p.tables e below _ (T22.setTop (mkF m 66 #[.val (.long p0), .second, .val (.long p1), .second, .val (.int p2), .val (.long a), .second, .val (.long b), .second, .val (.int (p2 &&& (3 : Int32))), .val (.long hi), .second, .val (.long lo), .second, .unset, .unset] [(.long lo), (.ref b22), (.ref b22)]))
    obtain ⟨_, _, ⟨T23, L23, k23, n23⟩, -, X23, ⟨Lc23, hQ23, l23, y23, z23⟩, st23⟩ := X22.specialBack hx (y := (⟨"com/example/akcept/akcept/input/Amount", "<init>", "(J)V"⟩ : MethodName)) rfl hown (mvT hZ (hw _ (List.mem_of_getElem? (i := 11) rfl))) (mvT hZ (hw _ (List.mem_of_getElem? (i := 12) rfl))) (mvT hZ (hw _ (List.mem_of_getElem? (i := 13) rfl))) (by decide) (backOf (W := 1) (rm_init l Z a0 hw [] b22 lo _ h22 n0 Z22 A22 F_kopecks_b22 g_b22 hnn) hZ (hw _ (List.mem_of_getElem? (i := 13) rfl)) (hw _ (List.mem_of_getElem? (i := 10) rfl)) (by decide) (by decide)) (g := (mkF m 66 #[.val (.long p0), .second, .val (.long p1), .second, .val (.int p2), .val (.long a), .second, .val (.long b), .second, .val (.int (p2 &&& (3 : Int32))), .val (.long hi), .second, .val (.long lo), .second, .unset, .unset] [(.long lo), (.ref b22), (.ref b22)])) rfl (by rw [hml]; rfl) (Steps.refl _) (a := b22) (argsL := [(.long lo)]) (rest := [(.ref b22)]) (lenOf pd__J_V rfl) rfl (by show 2 * 0 + _ ≤ _; exact Nat.le_of_eq rfl) (hb hby at_66) (fun _ _ => ⟨rfl, e22, (Nat.le_of_ble_eq_true rfl), (Nat.le_of_ble_eq_true rfl)⟩)
    dsimp only [Pt.U, Pt.locs, Pt.cells, Pt.slots] at X23 l23 y23 z23 st23 hQ23
    subst l23 y23 z23
    obtain ⟨rfl, Nq23, Kq23, Eq23, Fq23⟩ := hQ23
    have N23 := Fr.app N21 Nq23
    refine own_tr st23 ?_
    have Z23 : n0 ≤ T23.heap.size := Nat.le_trans Z22 Kq23.1
    have hnn : 0 ≤ hi.toInt := by omega
    show own_G p.tables e below _ (T23.setTop (mkF m 69 #[.val (.long p0), .second, .val (.long p1), .second, .val (.int p2), .val (.long a), .second, .val (.long b), .second, .val (.int (p2 &&& (3 : Int32))), .val (.long hi), .second, .val (.long lo), .second, .unset, .unset] [(.ref b22)]))
    refine own_go (fun _ kt => XS.astore X23.here hx rfl (hb hby at_69) rfl rfl (l' := #[.val (.long p0), .second, .val (.long p1), .second, .val (.int p2), .val (.long a), .second, .val (.long b), .second, .val (.int (p2 &&& (3 : Int32))), .val (.long hi), .second, .val (.long lo), .second, .val (.ref b22), .unset]) rfl kt) ?_
    show own_G p.tables e below _ (T23.setTop (mkF m 71 #[.val (.long p0), .second, .val (.long p1), .second, .val (.int p2), .val (.long a), .second, .val (.long b), .second, .val (.int (p2 &&& (3 : Int32))), .val (.long hi), .second, .val (.long lo), .second, .val (.ref b22), .unset] []))
    obtain ⟨T24, h24, X24, e24, E24, A24, D24, -, st24⟩ := newO X23 hx hZ hown (hw _ (List.mem_of_getElem? (i := 8) rfl)) (hw _ (List.mem_of_getElem? (i := 9) rfl)) (hw _ (List.mem_of_getElem? (i := 10) rfl)) rfl (g := (mkF m 71 #[.val (.long p0), .second, .val (.long p1), .second, .val (.int p2), .val (.long a), .second, .val (.long b), .second, .val (.int (p2 &&& (3 : Int32))), .val (.long hi), .second, .val (.long lo), .second, .val (.ref b22), .unset] [])) rfl (hb hby at_71) (Nat.le_of_ble_eq_true rfl) (Nat.le_of_ble_eq_true rfl)
    obtain ⟨b24, g24⟩ : ∃ z, z = T23.heap.size := ⟨_, rfl⟩
    rw [← g24] at A24 D24 st24
    have ne_b22_b24 : b22 ≠ b24 := Nat.ne_of_lt (Nat.lt_of_lt_of_le Eq23.lt (Nat.le_of_eq g24.symm))
    have g_b24 : n0 ≤ b24 := Nat.le_trans Z23 (Nat.le_of_eq g24.symm)
    refine own_go st24 ?_
    have Z24 : n0 ≤ h24.size := Nat.le_trans Z23 E24.1
    have F_kopecks_b24 : Fld Z h24 b24 "com/example/akcept/akcept/input/Amount" "kopecks" "J" (.long (0 : Int64)) := D24 (Or.inr (hw _ (List.mem_of_getElem? (i := 23) rfl))) (ty := .long) (by decide)
    show own_G p.tables e below _ (T24.setTop (mkF m 74 #[.val (.long p0), .second, .val (.long p1), .second, .val (.int p2), .val (.long a), .second, .val (.long b), .second, .val (.int (p2 &&& (3 : Int32))), .val (.long hi), .second, .val (.long lo), .second, .val (.ref b22), .unset] [(.ref b24)]))
    refine own_go (fun _ kt => XS.dup X24.here hx rfl (hb hby at_74) rfl rfl kt) ?_
    show own_G p.tables e below _ (T24.setTop (mkF m 75 #[.val (.long p0), .second, .val (.long p1), .second, .val (.int p2), .val (.long a), .second, .val (.long b), .second, .val (.int (p2 &&& (3 : Int32))), .val (.long hi), .second, .val (.long lo), .second, .val (.ref b22), .unset] [(.ref b24), (.ref b24)]))
    refine own_go (fun _ kt => XS.lload X24.here hx rfl (hb hby at_75) rfl kt) ?_
    show own_G p.tables e below _ (T24.setTop (mkF m 77 #[.val (.long p0), .second, .val (.long p1), .second, .val (.int p2), .val (.long a), .second, .val (.long b), .second, .val (.int (p2 &&& (3 : Int32))), .val (.long hi), .second, .val (.long lo), .second, .val (.ref b22), .unset] [(.long hi), (.ref b24), (.ref b24)]))
    obtain ⟨_, _, ⟨T25, L25, k25, n25⟩, -, X25, ⟨Lc25, hQ25, l25, y25, z25⟩, st25⟩ := X24.specialBack hx (y := (⟨"com/example/akcept/akcept/input/Amount", "<init>", "(J)V"⟩ : MethodName)) rfl hown (mvT hZ (hw _ (List.mem_of_getElem? (i := 11) rfl))) (mvT hZ (hw _ (List.mem_of_getElem? (i := 12) rfl))) (mvT hZ (hw _ (List.mem_of_getElem? (i := 13) rfl))) (by decide) (backOf (W := 1) (rm_init l Z a0 hw [] b24 hi _ h24 n0 Z24 A24 F_kopecks_b24 g_b24 hnn) hZ (hw _ (List.mem_of_getElem? (i := 13) rfl)) (hw _ (List.mem_of_getElem? (i := 10) rfl)) (by decide) (by decide)) (g := (mkF m 77 #[.val (.long p0), .second, .val (.long p1), .second, .val (.int p2), .val (.long a), .second, .val (.long b), .second, .val (.int (p2 &&& (3 : Int32))), .val (.long hi), .second, .val (.long lo), .second, .val (.ref b22), .unset] [(.long hi), (.ref b24), (.ref b24)])) rfl (by rw [hml]; rfl) (Steps.refl _) (a := b24) (argsL := [(.long hi)]) (rest := [(.ref b24)]) (lenOf pd__J_V rfl) rfl (by show 2 * 0 + _ ≤ _; exact Nat.le_of_eq rfl) (hb hby at_77) (fun _ _ => ⟨rfl, e24, (Nat.le_of_ble_eq_true rfl), (Nat.le_of_ble_eq_true rfl)⟩)
    dsimp only [Pt.U, Pt.locs, Pt.cells, Pt.slots] at X25 l25 y25 z25 st25 hQ25
    subst l25 y25 z25
    obtain ⟨rfl, Nq25, Kq25, Eq25, Fq25⟩ := hQ25
    have N25 := Fr.app N23 Nq25
    refine own_tr st25 ?_
    have Z25 : n0 ≤ T25.heap.size := Nat.le_trans Z24 Kq25.1
    show own_G p.tables e below _ (T25.setTop (mkF m 80 #[.val (.long p0), .second, .val (.long p1), .second, .val (.int p2), .val (.long a), .second, .val (.long b), .second, .val (.int (p2 &&& (3 : Int32))), .val (.long hi), .second, .val (.long lo), .second, .val (.ref b22), .unset] [(.ref b24)]))
    refine own_go (fun _ kt => XS.aload X25.here hx rfl (hb hby at_80) rfl rfl kt) ?_
    have hsub : (hi - lo).toInt = hi.toInt - lo.toInt := own_subok (by omega) (by omega)
    have rhi := rng64 hi
    have u26 := ((Fq23.ext E24).keep Kq25 (ninS ne_b22_b24 nin0))
    show own_G p.tables e below _ (T25.setTop (mkF m 82 #[.val (.long p0), .second, .val (.long p1), .second, .val (.int p2), .val (.long a), .second, .val (.long b), .second, .val (.int (p2 &&& (3 : Int32))), .val (.long hi), .second, .val (.long lo), .second, .val (.ref b22), .unset] [(.ref b22), (.ref b24)]))
    obtain ⟨cq27, kq27, q27a, q27b, q27c⟩ := isOf hZ rfl Eq25
    obtain ⟨_, _, ⟨T27, L27, k27, n27⟩, -, X27, ⟨Lc27, hQ27, l27, y27, z27⟩, st27⟩ := X25.virtualBack hx (y := (⟨"com/example/akcept/akcept/input/Amount", "minus", "(Lcom/example/akcept/akcept/input/Amount;)Lcom/example/akcept/akcept/input/Amount;"⟩ : MethodName)) (z := (⟨"com/example/akcept/akcept/input/Amount", "minus", "(Lcom/example/akcept/akcept/input/Amount;)Lcom/example/akcept/akcept/input/Amount;"⟩ : MethodName)) hown (mvT hZ (hw _ (List.mem_of_getElem? (i := 24) rfl))) (mvT hZ (hw _ (List.mem_of_getElem? (i := 25) rfl))) (notFace_of_selects (args := #[]) (mvT hZ (hw _ (List.mem_of_getElem? (i := 27) rfl)))) (mvT hZ (hw _ (List.mem_of_getElem? (i := 27) rfl))) (mvT hZ (hw _ (List.mem_of_getElem? (i := 26) rfl))) (by decide) (backOf (W := 0) (rm_minus l Z a0 hw [] b24 b22 hi lo T25.heap n0 Z25 (Ne.symm ne_b22_b24) Fq25 u26 (by omega)) hZ (hw _ (List.mem_of_getElem? (i := 28) rfl)) (hw _ (List.mem_of_getElem? (i := 10) rfl)) (by decide) (by decide)) q27a q27c (g := (mkF m 82 #[.val (.long p0), .second, .val (.long p1), .second, .val (.int p2), .val (.long a), .second, .val (.long b), .second, .val (.int (p2 &&& (3 : Int32))), .val (.long hi), .second, .val (.long lo), .second, .val (.ref b22), .unset] [(.ref b22), (.ref b24)])) rfl (by rw [hml]; rfl) (Steps.refl _) (argsL := [(.ref b22)]) (rest := []) (lenOf pd__Lcom_example_akcept_akcept_input_Amount__Lcom_example_akcept_akcept_input_Amount_ rfl) rfl (by show 2 * 0 + _ ≤ _; exact Nat.le_of_eq rfl) (hb hby at_82) (fun _ _ => ⟨rfl, rfl, (Nat.le_of_ble_eq_true rfl), (Nat.le_of_ble_eq_true rfl)⟩)
    dsimp only [Pt.U, Pt.locs, Pt.cells, Pt.slots] at X27 l27 y27 z27 st27 hQ27
    subst l27 y27 z27
    obtain ⟨r, rfl, Nq27, Kq27, gr, szr, Er, Fr'⟩ := hQ27
    have N27 := Fr.app N25 Nq27
    refine own_tr st27 ?_
    have Z27 : n0 ≤ T27.heap.size := Nat.le_trans Z25 Kq27.1
    have ne_r : r ≠ b22 := Nat.ne_of_gt (Nat.lt_of_lt_of_le u26.lt szr)
    show own_G p.tables e below _ (T27.setTop (mkF m 85 #[.val (.long p0), .second, .val (.long p1), .second, .val (.int p2), .val (.long a), .second, .val (.long b), .second, .val (.int (p2 &&& (3 : Int32))), .val (.long hi), .second, .val (.long lo), .second, .val (.ref b22), .unset] [(.ref r)]))
    refine own_go (fun _ kt => XS.astore X27.here hx rfl (hb hby at_85) rfl rfl (l' := #[.val (.long p0), .second, .val (.long p1), .second, .val (.int p2), .val (.long a), .second, .val (.long b), .second, .val (.int (p2 &&& (3 : Int32))), .val (.long hi), .second, .val (.long lo), .second, .val (.ref b22), .val (.ref r)]) rfl kt) ?_
    show own_G p.tables e below _ (T27.setTop (mkF m 87 #[.val (.long p0), .second, .val (.long p1), .second, .val (.int p2), .val (.long a), .second, .val (.long b), .second, .val (.int (p2 &&& (3 : Int32))), .val (.long hi), .second, .val (.long lo), .second, .val (.ref b22), .val (.ref r)] []))
    refine own_go (fun _ kt => XS.aload X27.here hx rfl (hb hby at_87) rfl rfl kt) ?_
    show own_G p.tables e below _ (T27.setTop (mkF m 89 #[.val (.long p0), .second, .val (.long p1), .second, .val (.int p2), .val (.long a), .second, .val (.long b), .second, .val (.int (p2 &&& (3 : Int32))), .val (.long hi), .second, .val (.long lo), .second, .val (.ref b22), .val (.ref r)] [(.ref r)]))
    obtain ⟨cq28, kq28, q28a, q28b, q28c⟩ := isOf hZ rfl Er
    obtain ⟨_, _, ⟨T28, L28, k28, n28⟩, -, X28, ⟨Lc28, hQ28, l28, y28, z28⟩, st28⟩ := X27.virtualBack hx (y := (⟨"com/example/akcept/akcept/input/Amount", "kopecks", "()J"⟩ : MethodName)) (z := (⟨"com/example/akcept/akcept/input/Amount", "kopecks", "()J"⟩ : MethodName)) hown (mvT hZ (hw _ (List.mem_of_getElem? (i := 31) rfl))) (mvT hZ (hw _ (List.mem_of_getElem? (i := 32) rfl))) (notFace_of_selects (args := #[]) (mvT hZ (hw _ (List.mem_of_getElem? (i := 34) rfl)))) (mvT hZ (hw _ (List.mem_of_getElem? (i := 34) rfl))) (mvT hZ (hw _ (List.mem_of_getElem? (i := 33) rfl))) (by decide) (backOf (W := 0) (rm_kop l Z a0 hw [] r _ T27.heap n0 Z27 Fr') hZ (hw _ (List.mem_of_getElem? (i := 35) rfl)) (hw _ (List.mem_of_getElem? (i := 10) rfl)) (by decide) (by decide)) q28a q28c (g := (mkF m 89 #[.val (.long p0), .second, .val (.long p1), .second, .val (.int p2), .val (.long a), .second, .val (.long b), .second, .val (.int (p2 &&& (3 : Int32))), .val (.long hi), .second, .val (.long lo), .second, .val (.ref b22), .val (.ref r)] [(.ref r)])) rfl (by rw [hml]; rfl) (Steps.refl _) (argsL := []) (rest := []) (lenOf pd___J rfl) rfl (by show 2 * 0 + _ ≤ _; exact Nat.le_of_eq rfl) (hb hby at_89) (fun _ _ => ⟨rfl, rfl, (Nat.le_of_ble_eq_true rfl), (Nat.le_of_ble_eq_true rfl)⟩)
    dsimp only [Pt.U, Pt.locs, Pt.cells, Pt.slots] at X28 l28 y28 z28 st28 hQ28
    subst l28 y28 z28
    obtain ⟨rfl, Nq28, eq28⟩ := hQ28
    have N28 := Fr.app N27 Nq28
    refine own_tr st28 ?_
    show own_G p.tables e below _ (T28.setTop (mkF m 92 #[.val (.long p0), .second, .val (.long p1), .second, .val (.int p2), .val (.long a), .second, .val (.long b), .second, .val (.int (p2 &&& (3 : Int32))), .val (.long hi), .second, .val (.long lo), .second, .val (.ref b22), .val (.ref r)] [(.long (hi - lo))]))
    refine own_go (fun _ kt => XS.lload X28.here hx rfl (hb hby at_92) rfl kt) ?_
    show own_G p.tables e below _ (T28.setTop (mkF m 94 #[.val (.long p0), .second, .val (.long p1), .second, .val (.int p2), .val (.long a), .second, .val (.long b), .second, .val (.int (p2 &&& (3 : Int32))), .val (.long hi), .second, .val (.long lo), .second, .val (.ref b22), .val (.ref r)] [(.long hi), (.long (hi - lo))]))
    refine own_go (fun _ kt => XS.lload X28.here hx rfl (hb hby at_94) rfl kt) ?_
    show own_G p.tables e below _ (T28.setTop (mkF m 96 #[.val (.long p0), .second, .val (.long p1), .second, .val (.int p2), .val (.long a), .second, .val (.long b), .second, .val (.int (p2 &&& (3 : Int32))), .val (.long hi), .second, .val (.long lo), .second, .val (.ref b22), .val (.ref r)] [(.long lo), (.long hi), (.long (hi - lo))]))
    refine own_go (fun _ kt => XS.lsub X28.here hx rfl (hb hby at_96) rfl kt) ?_
    show own_G p.tables e below _ (T28.setTop (mkF m 97 #[.val (.long p0), .second, .val (.long p1), .second, .val (.int p2), .val (.long a), .second, .val (.long b), .second, .val (.int (p2 &&& (3 : Int32))), .val (.long hi), .second, .val (.long lo), .second, .val (.ref b22), .val (.ref r)] [(.long (hi - lo)), (.long (hi - lo))]))
    refine own_go (fun _ kt => XS.lcmp X28.here hx rfl (hb hby at_97) rfl kt) ?_
    show own_G p.tables e below _ (T28.setTop (mkF m 98 #[.val (.long p0), .second, .val (.long p1), .second, .val (.int p2), .val (.long a), .second, .val (.long b), .second, .val (.int (p2 &&& (3 : Int32))), .val (.long hi), .second, .val (.long lo), .second, .val (.ref b22), .val (.ref r)] [(.int (lcmpW (hi - lo) (hi - lo)))]))
    refine own_go (fun _ kt => XS.ifNo X28.here hx rfl (hb hby at_98) rfl ((if0 _ _).trans (teq (own_lq.mpr rfl : (lcmpW (hi - lo) (hi - lo)) = (0 : Int32))).2) kt) ?_
    show own_G p.tables e below _ (T28.setTop (mkF m 101 #[.val (.long p0), .second, .val (.long p1), .second, .val (.int p2), .val (.long a), .second, .val (.long b), .second, .val (.int (p2 &&& (3 : Int32))), .val (.long hi), .second, .val (.long lo), .second, .val (.ref b22), .val (.ref r)] []))
    refine own_go (fun _ kt => XS.aload X28.here hx rfl (hb hby at_101) rfl rfl kt) ?_
    show own_G p.tables e below _ (T28.setTop (mkF m 103 #[.val (.long p0), .second, .val (.long p1), .second, .val (.int p2), .val (.long a), .second, .val (.long b), .second, .val (.int (p2 &&& (3 : Int32))), .val (.long hi), .second, .val (.long lo), .second, .val (.ref b22), .val (.ref r)] [(.ref r)]))
    refine own_go (fun _ kt => XS.aload X28.here hx rfl (hb hby at_103) rfl rfl kt) ?_
    have hadd : (hi - lo + lo).toInt = (hi - lo).toInt + lo.toInt := own_addok (by omega) (by omega) (by omega)
    have u29 := (u26.keep Kq27 nin0)
    show own_G p.tables e below _ (T28.setTop (mkF m 105 #[.val (.long p0), .second, .val (.long p1), .second, .val (.int p2), .val (.long a), .second, .val (.long b), .second, .val (.int (p2 &&& (3 : Int32))), .val (.long hi), .second, .val (.long lo), .second, .val (.ref b22), .val (.ref r)] [(.ref b22), (.ref r)]))
    obtain ⟨cq30, kq30, q30a, q30b, q30c⟩ := isOf hZ eq28 Er
    obtain ⟨_, _, ⟨T30, L30, k30, n30⟩, -, X30, ⟨Lc30, hQ30, l30, y30, z30⟩, st30⟩ := X28.virtualBack hx (y := (⟨"com/example/akcept/akcept/input/Amount", "plus", "(Lcom/example/akcept/akcept/input/Amount;)Lcom/example/akcept/akcept/input/Amount;"⟩ : MethodName)) (z := (⟨"com/example/akcept/akcept/input/Amount", "plus", "(Lcom/example/akcept/akcept/input/Amount;)Lcom/example/akcept/akcept/input/Amount;"⟩ : MethodName)) hown (mvT hZ (hw _ (List.mem_of_getElem? (i := 36) rfl))) (mvT hZ (hw _ (List.mem_of_getElem? (i := 37) rfl))) (notFace_of_selects (args := #[]) (mvT hZ (hw _ (List.mem_of_getElem? (i := 39) rfl)))) (mvT hZ (hw _ (List.mem_of_getElem? (i := 39) rfl))) (mvT hZ (hw _ (List.mem_of_getElem? (i := 38) rfl))) (by decide) (backOf (W := 0) (rm_plus l Z a0 hw [] r b22 _ _ T27.heap n0 Z27 ne_r Fr' u29 (by omega) (by omega) (by omega) (by omega)) hZ (hw _ (List.mem_of_getElem? (i := 40) rfl)) (hw _ (List.mem_of_getElem? (i := 10) rfl)) (by decide) (by decide)) q30a q30c (g := (mkF m 105 #[.val (.long p0), .second, .val (.long p1), .second, .val (.int p2), .val (.long a), .second, .val (.long b), .second, .val (.int (p2 &&& (3 : Int32))), .val (.long hi), .second, .val (.long lo), .second, .val (.ref b22), .val (.ref r)] [(.ref b22), (.ref r)])) rfl (by rw [hml]; rfl) (Steps.refl _) (argsL := [(.ref b22)]) (rest := []) (lenOf pd__Lcom_example_akcept_akcept_input_Amount__Lcom_example_akcept_akcept_input_Amount_ rfl) rfl (by show 2 * 0 + _ ≤ _; exact Nat.le_of_eq rfl) (hb hby at_105) (fun _ _ => ⟨rfl, eq28, (Nat.le_of_ble_eq_true rfl), (Nat.le_of_ble_eq_true rfl)⟩)
    dsimp only [Pt.U, Pt.locs, Pt.cells, Pt.slots] at X30 l30 y30 z30 st30 hQ30
    subst l30 y30 z30
    obtain ⟨r2, rfl, Nq30, Kq30, gr2, szr2, Er2, Fr2⟩ := hQ30
    have N30 := Fr.app N28 Nq30
    refine own_tr st30 ?_
    have Z30 : n0 ≤ T30.heap.size := Nat.le_trans Z27 Kq30.1
    show own_G p.tables e below _ (T30.setTop (mkF m 108 #[.val (.long p0), .second, .val (.long p1), .second, .val (.int p2), .val (.long a), .second, .val (.long b), .second, .val (.int (p2 &&& (3 : Int32))), .val (.long hi), .second, .val (.long lo), .second, .val (.ref b22), .val (.ref r)] [(.ref r2)]))
    obtain ⟨cq31, kq31, q31a, q31b, q31c⟩ := isOf hZ rfl Er2
    obtain ⟨_, _, ⟨T31, L31, k31, n31⟩, -, X31, ⟨Lc31, hQ31, l31, y31, z31⟩, st31⟩ := X30.virtualBack hx (y := (⟨"com/example/akcept/akcept/input/Amount", "kopecks", "()J"⟩ : MethodName)) (z := (⟨"com/example/akcept/akcept/input/Amount", "kopecks", "()J"⟩ : MethodName)) hown (mvT hZ (hw _ (List.mem_of_getElem? (i := 31) rfl))) (mvT hZ (hw _ (List.mem_of_getElem? (i := 32) rfl))) (notFace_of_selects (args := #[]) (mvT hZ (hw _ (List.mem_of_getElem? (i := 34) rfl)))) (mvT hZ (hw _ (List.mem_of_getElem? (i := 34) rfl))) (mvT hZ (hw _ (List.mem_of_getElem? (i := 33) rfl))) (by decide) (backOf (W := 0) (rm_kop l Z a0 hw [] r2 _ T30.heap n0 Z30 Fr2) hZ (hw _ (List.mem_of_getElem? (i := 35) rfl)) (hw _ (List.mem_of_getElem? (i := 10) rfl)) (by decide) (by decide)) q31a q31c (g := (mkF m 108 #[.val (.long p0), .second, .val (.long p1), .second, .val (.int p2), .val (.long a), .second, .val (.long b), .second, .val (.int (p2 &&& (3 : Int32))), .val (.long hi), .second, .val (.long lo), .second, .val (.ref b22), .val (.ref r)] [(.ref r2)])) rfl (by rw [hml]; rfl) (Steps.refl _) (argsL := []) (rest := []) (lenOf pd___J rfl) rfl (by show 2 * 0 + _ ≤ _; exact Nat.le_of_eq rfl) (hb hby at_108) (fun _ _ => ⟨rfl, rfl, (Nat.le_of_ble_eq_true rfl), (Nat.le_of_ble_eq_true rfl)⟩)
    dsimp only [Pt.U, Pt.locs, Pt.cells, Pt.slots] at X31 l31 y31 z31 st31 hQ31
    subst l31 y31 z31
    obtain ⟨rfl, Nq31, eq31⟩ := hQ31
    have N31 := Fr.app N30 Nq31
    refine own_tr st31 ?_
    show own_G p.tables e below _ (T31.setTop (mkF m 111 #[.val (.long p0), .second, .val (.long p1), .second, .val (.int p2), .val (.long a), .second, .val (.long b), .second, .val (.int (p2 &&& (3 : Int32))), .val (.long hi), .second, .val (.long lo), .second, .val (.ref b22), .val (.ref r)] [(.long (hi - lo + lo))]))
    refine own_go (fun _ kt => XS.lload X31.here hx rfl (hb hby at_111) rfl kt) ?_
    show own_G p.tables e below _ (T31.setTop (mkF m 113 #[.val (.long p0), .second, .val (.long p1), .second, .val (.int p2), .val (.long a), .second, .val (.long b), .second, .val (.int (p2 &&& (3 : Int32))), .val (.long hi), .second, .val (.long lo), .second, .val (.ref b22), .val (.ref r)] [(.long hi), (.long (hi - lo + lo))]))
    refine own_go (fun _ kt => XS.lcmp X31.here hx rfl (hb hby at_113) rfl kt) ?_
    show own_G p.tables e below _ (T31.setTop (mkF m 114 #[.val (.long p0), .second, .val (.long p1), .second, .val (.int p2), .val (.long a), .second, .val (.long b), .second, .val (.int (p2 &&& (3 : Int32))), .val (.long hi), .second, .val (.long lo), .second, .val (.ref b22), .val (.ref r)] [(.int (lcmpW (hi - lo + lo) hi))]))
    refine own_go (fun _ kt => XS.ifNo X31.here hx rfl (hb hby at_114) rfl ((if0 _ _).trans (teq (own_lq.mpr (by apply Int64.toInt_inj.mp; omega) : (lcmpW (hi - lo + lo) hi) = (0 : Int32))).2) kt) ?_
    show own_G p.tables e below _ (T31.setTop (mkF m 117 #[.val (.long p0), .second, .val (.long p1), .second, .val (.int p2), .val (.long a), .second, .val (.long b), .second, .val (.int (p2 &&& (3 : Int32))), .val (.long hi), .second, .val (.long lo), .second, .val (.ref b22), .val (.ref r)] []))
    refine own_go (fun _ kt => XS.iconst X31.here hx rfl (hb hby at_117) kt) ?_
    show own_G p.tables e below _ (T31.setTop (mkF m 118 #[.val (.long p0), .second, .val (.long p1), .second, .val (.int p2), .val (.long a), .second, .val (.long b), .second, .val (.int (p2 &&& (3 : Int32))), .val (.long hi), .second, .val (.long lo), .second, .val (.ref b22), .val (.ref r)] [(.int (1 : Int32))]))
    refine own_go (fun _ kt => XS.goto X31.here hx rfl (pc0 := 118) (pc' := 122) rfl (hb hby at_118) (by decide) (by decide) kt) ?_
    show own_G p.tables e below _ (T31.setTop (mkF m 122 #[.val (.long p0), .second, .val (.long p1), .second, .val (.int p2), .val (.long a), .second, .val (.long b), .second, .val (.int (p2 &&& (3 : Int32))), .val (.long hi), .second, .val (.long lo), .second, .val (.ref b22), .val (.ref r)] [(.int (1 : Int32))]))
    exact own_retN X31 hx (t := .boolean) Bd.returns (by simp) hlk (hb hby at_122) (Nat.le_of_ble_eq_true rfl) (Nat.le_of_ble_eq_true rfl) eq31 ⟨rfl, N31⟩
  show own_G p.tables e below _ (s₁.setTop (mkF m 0 #[.val (.long p0), .second, .val (.long p1), .second, .val (.int p2), .unset, .unset, .unset, .unset, .unset, .unset, .unset, .unset, .unset, .unset, .unset] []))
  refine own_go (fun _ kt => XS.lloadN X0.here hx rfl (hb hby at_0) rfl kt) ?_
  show own_G p.tables e below _ (s₁.setTop (mkF m 1 #[.val (.long p0), .second, .val (.long p1), .second, .val (.int p2), .unset, .unset, .unset, .unset, .unset, .unset, .unset, .unset, .unset, .unset, .unset] [(.long p0)]))
  refine own_go (X0.ldc2Long hx hown (mvT hZ (hw _ (List.mem_of_getElem? (i := 0) rfl))) (g := (mkF m 1 #[.val (.long p0), .second, .val (.long p1), .second, .val (.int p2), .unset, .unset, .unset, .unset, .unset, .unset, .unset, .unset, .unset, .unset, .unset] [(.long p0)])) rfl (hb hby at_1)) ?_
  show own_G p.tables e below _ (s₁.setTop (mkF m 4 #[.val (.long p0), .second, .val (.long p1), .second, .val (.int p2), .unset, .unset, .unset, .unset, .unset, .unset, .unset, .unset, .unset, .unset, .unset] [(.long (9223372036854775807 : Int64)), (.long p0)]))
  refine own_go (fun _ kt => XS.land X0.here hx rfl (hb hby at_4) rfl kt) ?_
  show own_G p.tables e below _ (s₁.setTop (mkF m 5 #[.val (.long p0), .second, .val (.long p1), .second, .val (.int p2), .unset, .unset, .unset, .unset, .unset, .unset, .unset, .unset, .unset, .unset, .unset] [(.long (p0 &&& (9223372036854775807 : Int64)))]))
  refine own_go (fun _ kt => XS.lstore X0.here hx rfl (hb hby at_5) rfl (l' := #[.val (.long p0), .second, .val (.long p1), .second, .val (.int p2), .val (.long (p0 &&& (9223372036854775807 : Int64))), .second, .unset, .unset, .unset, .unset, .unset, .unset, .unset, .unset, .unset]) rfl kt) ?_
  show own_G p.tables e below _ (s₁.setTop (mkF m 7 #[.val (.long p0), .second, .val (.long p1), .second, .val (.int p2), .val (.long (p0 &&& (9223372036854775807 : Int64))), .second, .unset, .unset, .unset, .unset, .unset, .unset, .unset, .unset, .unset] []))
  refine own_go (fun _ kt => XS.lloadN X0.here hx rfl (hb hby at_7) rfl kt) ?_
  show own_G p.tables e below _ (s₁.setTop (mkF m 8 #[.val (.long p0), .second, .val (.long p1), .second, .val (.int p2), .val (.long (p0 &&& (9223372036854775807 : Int64))), .second, .unset, .unset, .unset, .unset, .unset, .unset, .unset, .unset, .unset] [(.long p1)]))
  refine own_go (X0.ldc2Long hx hown (mvT hZ (hw _ (List.mem_of_getElem? (i := 0) rfl))) (g := (mkF m 8 #[.val (.long p0), .second, .val (.long p1), .second, .val (.int p2), .val (.long (p0 &&& (9223372036854775807 : Int64))), .second, .unset, .unset, .unset, .unset, .unset, .unset, .unset, .unset, .unset] [(.long p1)])) rfl (hb hby at_8)) ?_
  show own_G p.tables e below _ (s₁.setTop (mkF m 11 #[.val (.long p0), .second, .val (.long p1), .second, .val (.int p2), .val (.long (p0 &&& (9223372036854775807 : Int64))), .second, .unset, .unset, .unset, .unset, .unset, .unset, .unset, .unset, .unset] [(.long (9223372036854775807 : Int64)), (.long p1)]))
  refine own_go (fun _ kt => XS.land X0.here hx rfl (hb hby at_11) rfl kt) ?_
  show own_G p.tables e below _ (s₁.setTop (mkF m 12 #[.val (.long p0), .second, .val (.long p1), .second, .val (.int p2), .val (.long (p0 &&& (9223372036854775807 : Int64))), .second, .unset, .unset, .unset, .unset, .unset, .unset, .unset, .unset, .unset] [(.long (p1 &&& (9223372036854775807 : Int64)))]))
  refine own_go (fun _ kt => XS.lstore X0.here hx rfl (hb hby at_12) rfl (l' := #[.val (.long p0), .second, .val (.long p1), .second, .val (.int p2), .val (.long (p0 &&& (9223372036854775807 : Int64))), .second, .val (.long (p1 &&& (9223372036854775807 : Int64))), .second, .unset, .unset, .unset, .unset, .unset, .unset, .unset]) rfl kt) ?_
  show own_G p.tables e below _ (s₁.setTop (mkF m 14 #[.val (.long p0), .second, .val (.long p1), .second, .val (.int p2), .val (.long (p0 &&& (9223372036854775807 : Int64))), .second, .val (.long (p1 &&& (9223372036854775807 : Int64))), .second, .unset, .unset, .unset, .unset, .unset, .unset, .unset] []))
  refine own_go (fun _ kt => XS.iload X0.here hx rfl (hb hby at_14) rfl kt) ?_
  show own_G p.tables e below _ (s₁.setTop (mkF m 16 #[.val (.long p0), .second, .val (.long p1), .second, .val (.int p2), .val (.long (p0 &&& (9223372036854775807 : Int64))), .second, .val (.long (p1 &&& (9223372036854775807 : Int64))), .second, .unset, .unset, .unset, .unset, .unset, .unset, .unset] [(.int p2)]))
  refine own_go (fun _ kt => XS.iconst X0.here hx rfl (hb hby at_16) kt) ?_
  show own_G p.tables e below _ (s₁.setTop (mkF m 17 #[.val (.long p0), .second, .val (.long p1), .second, .val (.int p2), .val (.long (p0 &&& (9223372036854775807 : Int64))), .second, .val (.long (p1 &&& (9223372036854775807 : Int64))), .second, .unset, .unset, .unset, .unset, .unset, .unset, .unset] [(.int (3 : Int32)), (.int p2)]))
  refine own_go (fun _ kt => XS.iand X0.here hx rfl (hb hby at_17) rfl kt) ?_
  show own_G p.tables e below _ (s₁.setTop (mkF m 18 #[.val (.long p0), .second, .val (.long p1), .second, .val (.int p2), .val (.long (p0 &&& (9223372036854775807 : Int64))), .second, .val (.long (p1 &&& (9223372036854775807 : Int64))), .second, .unset, .unset, .unset, .unset, .unset, .unset, .unset] [(.int (p2 &&& (3 : Int32)))]))
  refine own_go (fun _ kt => XS.istore X0.here hx rfl (hb hby at_18) rfl (l' := #[.val (.long p0), .second, .val (.long p1), .second, .val (.int p2), .val (.long (p0 &&& (9223372036854775807 : Int64))), .second, .val (.long (p1 &&& (9223372036854775807 : Int64))), .second, .val (.int (p2 &&& (3 : Int32))), .unset, .unset, .unset, .unset, .unset, .unset]) rfl kt) ?_
  show own_G p.tables e below _ (s₁.setTop (mkF m 20 #[.val (.long p0), .second, .val (.long p1), .second, .val (.int p2), .val (.long (p0 &&& (9223372036854775807 : Int64))), .second, .val (.long (p1 &&& (9223372036854775807 : Int64))), .second, .val (.int (p2 &&& (3 : Int32))), .unset, .unset, .unset, .unset, .unset, .unset] []))
  refine own_go (fun _ kt => XS.iload X0.here hx rfl (hb hby at_20) rfl kt) ?_
  show own_G p.tables e below _ (s₁.setTop (mkF m 22 #[.val (.long p0), .second, .val (.long p1), .second, .val (.int p2), .val (.long (p0 &&& (9223372036854775807 : Int64))), .second, .val (.long (p1 &&& (9223372036854775807 : Int64))), .second, .val (.int (p2 &&& (3 : Int32))), .unset, .unset, .unset, .unset, .unset, .unset] [(.int (p2 &&& (3 : Int32)))]))
  refine own_go (fun _ kt => XS.iconst X0.here hx rfl (hb hby at_22) kt) ?_
  by_cases hc23 : (p2 &&& (3 : Int32)) = (1 : Int32)
  · show own_G p.tables e below _ (s₁.setTop (mkF m 23 #[.val (.long p0), .second, .val (.long p1), .second, .val (.int p2), .val (.long (p0 &&& (9223372036854775807 : Int64))), .second, .val (.long (p1 &&& (9223372036854775807 : Int64))), .second, .val (.int (p2 &&& (3 : Int32))), .unset, .unset, .unset, .unset, .unset, .unset] [(.int (1 : Int32)), (.int (p2 &&& (3 : Int32)))]))
    refine own_go (fun _ kt => XS.icmpNo X0.here hx rfl (hb hby at_23) rfl (teq (hc23 : (p2 &&& (3 : Int32)) = (1 : Int32))).2 kt) ?_
    show own_G p.tables e below _ (s₁.setTop (mkF m 26 #[.val (.long p0), .second, .val (.long p1), .second, .val (.int p2), .val (.long (p0 &&& (9223372036854775807 : Int64))), .second, .val (.long (p1 &&& (9223372036854775807 : Int64))), .second, .val (.int (p2 &&& (3 : Int32))), .unset, .unset, .unset, .unset, .unset, .unset] []))
    refine own_go (fun _ kt => XS.lload X0.here hx rfl (hb hby at_26) rfl kt) ?_
    show own_G p.tables e below _ (s₁.setTop (mkF m 28 #[.val (.long p0), .second, .val (.long p1), .second, .val (.int p2), .val (.long (p0 &&& (9223372036854775807 : Int64))), .second, .val (.long (p1 &&& (9223372036854775807 : Int64))), .second, .val (.int (p2 &&& (3 : Int32))), .unset, .unset, .unset, .unset, .unset, .unset] [(.long (p0 &&& (9223372036854775807 : Int64)))]))
    refine own_go (fun _ kt => XS.lstore X0.here hx rfl (hb hby at_28) rfl (l' := #[.val (.long p0), .second, .val (.long p1), .second, .val (.int p2), .val (.long (p0 &&& (9223372036854775807 : Int64))), .second, .val (.long (p0 &&& (9223372036854775807 : Int64))), .second, .val (.int (p2 &&& (3 : Int32))), .unset, .unset, .unset, .unset, .unset, .unset]) rfl kt) ?_
    show own_G p.tables e below _ (s₁.setTop (mkF m 30 #[.val (.long p0), .second, .val (.long p1), .second, .val (.int p2), .val (.long (p0 &&& (9223372036854775807 : Int64))), .second, .val (.long (p0 &&& (9223372036854775807 : Int64))), .second, .val (.int (p2 &&& (3 : Int32))), .unset, .unset, .unset, .unset, .unset, .unset] []))
    refine own_go (fun _ kt => XS.goto X0.here hx rfl (pc0 := 30) (pc' := 42) rfl (hb hby at_30) (by decide) (by decide) kt) ?_
    show own_G p.tables e below _ (s₁.setTop (mkF m 42 #[.val (.long p0), .second, .val (.long p1), .second, .val (.int p2), .val (.long (p0 &&& (9223372036854775807 : Int64))), .second, .val (.long (p0 &&& (9223372036854775807 : Int64))), .second, .val (.int (p2 &&& (3 : Int32))), .unset, .unset, .unset, .unset, .unset, .unset] []))
    exact j42 _ _ _ (p0 &&& (9223372036854775807 : Int64)) (p0 &&& (9223372036854775807 : Int64)) X0 e0 N0 Z0 (own_nn _) (own_nn _)
  · show own_G p.tables e below _ (s₁.setTop (mkF m 23 #[.val (.long p0), .second, .val (.long p1), .second, .val (.int p2), .val (.long (p0 &&& (9223372036854775807 : Int64))), .second, .val (.long (p1 &&& (9223372036854775807 : Int64))), .second, .val (.int (p2 &&& (3 : Int32))), .unset, .unset, .unset, .unset, .unset, .unset] [(.int (1 : Int32)), (.int (p2 &&& (3 : Int32)))]))
    refine own_go (fun _ kt => XS.icmpYes X0.here hx rfl (pc0 := 23) (pc' := 33) rfl (hb hby at_23) rfl (feq (hc23 : ¬ ((p2 &&& (3 : Int32)) = (1 : Int32)))).2 (by decide) (by decide) kt) ?_
    show own_G p.tables e below _ (s₁.setTop (mkF m 33 #[.val (.long p0), .second, .val (.long p1), .second, .val (.int p2), .val (.long (p0 &&& (9223372036854775807 : Int64))), .second, .val (.long (p1 &&& (9223372036854775807 : Int64))), .second, .val (.int (p2 &&& (3 : Int32))), .unset, .unset, .unset, .unset, .unset, .unset] []))
    refine own_go (fun _ kt => XS.iload X0.here hx rfl (hb hby at_33) rfl kt) ?_
    show own_G p.tables e below _ (s₁.setTop (mkF m 35 #[.val (.long p0), .second, .val (.long p1), .second, .val (.int p2), .val (.long (p0 &&& (9223372036854775807 : Int64))), .second, .val (.long (p1 &&& (9223372036854775807 : Int64))), .second, .val (.int (p2 &&& (3 : Int32))), .unset, .unset, .unset, .unset, .unset, .unset] [(.int (p2 &&& (3 : Int32)))]))
    refine own_go (fun _ kt => XS.iconst X0.here hx rfl (hb hby at_35) kt) ?_
    by_cases hc36 : (p2 &&& (3 : Int32)) = (2 : Int32)
    · show own_G p.tables e below _ (s₁.setTop (mkF m 36 #[.val (.long p0), .second, .val (.long p1), .second, .val (.int p2), .val (.long (p0 &&& (9223372036854775807 : Int64))), .second, .val (.long (p1 &&& (9223372036854775807 : Int64))), .second, .val (.int (p2 &&& (3 : Int32))), .unset, .unset, .unset, .unset, .unset, .unset] [(.int (2 : Int32)), (.int (p2 &&& (3 : Int32)))]))
      refine own_go (fun _ kt => XS.icmpNo X0.here hx rfl (hb hby at_36) rfl (teq (hc36 : (p2 &&& (3 : Int32)) = (2 : Int32))).2 kt) ?_
      show own_G p.tables e below _ (s₁.setTop (mkF m 39 #[.val (.long p0), .second, .val (.long p1), .second, .val (.int p2), .val (.long (p0 &&& (9223372036854775807 : Int64))), .second, .val (.long (p1 &&& (9223372036854775807 : Int64))), .second, .val (.int (p2 &&& (3 : Int32))), .unset, .unset, .unset, .unset, .unset, .unset] []))
      refine own_go (fun _ kt => XS.lconst X0.here hx rfl (hb hby at_39) kt) ?_
      show own_G p.tables e below _ (s₁.setTop (mkF m 40 #[.val (.long p0), .second, .val (.long p1), .second, .val (.int p2), .val (.long (p0 &&& (9223372036854775807 : Int64))), .second, .val (.long (p1 &&& (9223372036854775807 : Int64))), .second, .val (.int (p2 &&& (3 : Int32))), .unset, .unset, .unset, .unset, .unset, .unset] [(.long (0 : Int64))]))
      refine own_go (fun _ kt => XS.lstore X0.here hx rfl (hb hby at_40) rfl (l' := #[.val (.long p0), .second, .val (.long p1), .second, .val (.int p2), .val (.long (p0 &&& (9223372036854775807 : Int64))), .second, .val (.long (0 : Int64)), .second, .val (.int (p2 &&& (3 : Int32))), .unset, .unset, .unset, .unset, .unset, .unset]) rfl kt) ?_
      show own_G p.tables e below _ (s₁.setTop (mkF m 42 #[.val (.long p0), .second, .val (.long p1), .second, .val (.int p2), .val (.long (p0 &&& (9223372036854775807 : Int64))), .second, .val (.long (0 : Int64)), .second, .val (.int (p2 &&& (3 : Int32))), .unset, .unset, .unset, .unset, .unset, .unset] []))
      exact j42 _ _ _ (p0 &&& (9223372036854775807 : Int64)) (0 : Int64) X0 e0 N0 Z0 (own_nn _) (by decide)
    · show own_G p.tables e below _ (s₁.setTop (mkF m 36 #[.val (.long p0), .second, .val (.long p1), .second, .val (.int p2), .val (.long (p0 &&& (9223372036854775807 : Int64))), .second, .val (.long (p1 &&& (9223372036854775807 : Int64))), .second, .val (.int (p2 &&& (3 : Int32))), .unset, .unset, .unset, .unset, .unset, .unset] [(.int (2 : Int32)), (.int (p2 &&& (3 : Int32)))]))
      refine own_go (fun _ kt => XS.icmpYes X0.here hx rfl (pc0 := 36) (pc' := 42) rfl (hb hby at_36) rfl (feq (hc36 : ¬ ((p2 &&& (3 : Int32)) = (2 : Int32)))).2 (by decide) (by decide) kt) ?_
      show own_G p.tables e below _ (s₁.setTop (mkF m 42 #[.val (.long p0), .second, .val (.long p1), .second, .val (.int p2), .val (.long (p0 &&& (9223372036854775807 : Int64))), .second, .val (.long (p1 &&& (9223372036854775807 : Int64))), .second, .val (.int (p2 &&& (3 : Int32))), .unset, .unset, .unset, .unset, .unset, .unset] []))
      exact j42 _ _ _ (p0 &&& (9223372036854775807 : Int64)) (p1 &&& (9223372036854775807 : Int64)) X0 e0 N0 Z0 (own_nn _) (own_nn _)
set_option maxRecDepth 65536 in
set_option maxHeartbeats 40000000 in
theorem comes_1 {Post : Tables → Env → Array Value → State → Outcome → State → Prop} (hpost : ∀ tb e args s v u, (limb_1_1.after args s (.returned v) u = true ∧ limb_1_2.after args s (.returned v) u = true ∧ True) → FrameEnd s (.returned v) u (Jvm.fieldLocs frame_1_writes args s ++ Jvm.arrayLocs frame_1_arrays args s ++ Jvm.staticLocs frame_1_statics s) 16 128 → Post tb e args s (.returned v) u) :
    ArmFor flags0 classFile x code maxLocals ret World_1 tables_1 room_1 Calls_1 rest_1 Pre_1 Post := by
  intro l hfl _ _ p e ha hc hk s m args below hf hA hF happ hP
  obtain ⟨hcalls, hrest, hpre⟩ := hP
  obtain ⟨-, -, -, hnamed, -, -, -, hat⟩ := (Spec.applies_iff hf).mp happ
  obtain ⟨hg, hn⟩ := and_e (Cond.before_iff.mp (show (Jvm.Cond.and given_1 narrow_1).before args s = true from hpre))
  obtain ⟨a0, b0⟩ := and_e hg
  obtain ⟨a1, b1⟩ := and_e b0
  obtain ⟨a2, b2⟩ := and_e b1
  obtain ⟨w0, w1, w2, rfl⟩ : ∃ w0 w1 w2 : Value, args = #[w0, w1, w2] := by
    have hs : args.size = 3 := by simpa [Cond.value, given_1] using a0
    obtain ⟨L⟩ := args
    match L, hs with
    | [w0, w1, w2], _ => exact ⟨w0, w1, w2, rfl⟩
  have hw := fun d (hd : d ∈ tables_1) => atoms_spec (ws := Jvm.Cond.code x code maxLocals ret :: tables_1) hat d (List.mem_cons_of_mem _ hd)
  obtain ⟨i0, ei0⟩ := isL_v a1
  obtain rfl : w0 = (.long i0) := Option.some.inj ei0
  obtain ⟨i1, ei1⟩ := isL_v a2
  obtain rfl : w1 = (.long i1) := Option.some.inj ei1
  obtain ⟨i2, ei2⟩ := is_v b2
  obtain rfl : w2 = (.int i2) := Option.some.inj ei2
  obtain ⟨n, o, h1, h2, h3, _, L, rfl, ⟨rfl, N⟩, hq⟩ := rm_law l s _ hw tables_1 i0 i1 i2 s.heap s.heap.size (Nat.le_refl _) p e ha hc hk s m _ below hf ((Spec.applies_iff_loose hf).mp happ).1 ⟨rfl, State.Warmed39.refl s, rfl⟩ trivial
  refine ⟨n, _, h1, h2, h3, hpost _ _ _ _ _ _ ⟨Cond.after_iff.mpr rfl, Cond.after_iff.mpr (eq_i res_at (Term.int_eval (1)) rfl), trivial⟩ ⟨hq.1, hq.2.1, (hq.2.2.sift fun y hy => Or.inr (N y hy)).mono (by decide) (by decide)⟩⟩
theorem main_1_1 : Claimed_1_1 := comes_1 fun _ _ _ _ _ _ h hF => ⟨h.1, hF⟩
theorem main_1_2 : Claimed_1_2 := comes_1 fun _ _ _ _ _ _ h hF => ⟨h.2.1, hF⟩
end Jvm.Pilot.@@N@@
namespace Jvm.Pilot.@@N@@
open Jvm Jvm.ClassFile Sem Op Lib Jvm.Free Jvm.Stand Jvm.Pilot.@@N@@.Jvm.D
/-! MADE BY PROGRAM (witnessworld.py) out of the Statement's table words and the real class files: 12 classes; the members and pool entries that the words name. The judged class is class 1, her method 1. -/
namespace start1
open Jvm.ClassFile
def u (s : String) : CpInfo := .utf8 (stringToUtf16 s)
/-- a pool by its gaps: so many unusable entries, then the entry; so many at the end -/
def gap : Nat → List CpInfo → List CpInfo
  | 0, r => r
  | n + 1, r => .unusable :: gap n r
def poolList (es : List (Nat × CpInfo)) (last : Nat) : List CpInfo := es.foldr (fun e r => gap e.1 (e.2 :: r)) (gap last [])
def pool (es : List (Nat × CpInfo)) (last : Nat) : Array CpInfo := ⟨poolList es last⟩
def fileOf (pool : Array CpInfo) (this : Nat) (attrs : Array Attribute := #[]) (ms : Array MethodInfo := #[]) (fl : Nat := 33) (sup : Nat := 0) (ifs : Array Nat := #[]) (fds : Array FieldInfo := #[]) : ClassFile where
  minorVersion := 0
  majorVersion := 65
  constantPool := pool
  accessFlags := fl
  thisClass := this
  superClass := sup
  interfaces := ifs
  fields := fds
  methods := ms
  attributes := attrs
def plain (name : String) (sup : Option ClassId) : Class where
  name := name
  kind := .ordinary
  loader := none
  accessFlags := 33
  super := sup
  interfaces := #[]
  cf := none
  fields := #[]
  methods := #[]
  instanceTypes := #[]
  staticTypes := #[]
  resolved := #[]
  callSites := []
  init := .initialized
  statics := none
  mirror := none

def pool0 : Array CpInfo := pool [(5, u "<init>"), (0, u "()V"), (1, .class_ 10), (1, u "java/lang/Object")] 113

def k0c0 : Code := { maxStack := 0, maxLocals := 1, code := object_method_1_code, exceptionTable := #[], attributes := #[] }
def k0m0 : Method := { name := "<init>", desc := "()V", sig := { parameters := [], returnType := none }, accessFlags := 1, code := some k0c0 }
/-- java/lang/Object -/
def k0 : Class := { plain "java/lang/Object" none with
  accessFlags := 33
  interfaces := #[]
  cf := some (fileOf pool0 8 #[] #[{ accessFlags := 1, nameIndex := 5, descriptorIndex := 6, attributes := #[] }] 33 0 #[] #[])
  fields := #[]
  methods := #[k0m0]
  instanceTypes := #[]
  staticTypes := #[]
  resolved := Array.replicate 124 none
  statics := none }

def pool1 : Array CpInfo := pool [(2, .class_ 4), (1, u "java/lang/Object"), (0, u "<init>"), (0, u "()V"), (2, .long 9223372036854775807), (1, .methodref 12 13), (0, .class_ 14), (0, .nameAndType 15 16), (0, u "java/lang/Math"), (0, u "max"), (0, u "(JJ)J"), (0, .methodref 12 18), (0, .nameAndType 19 16), (0, u "min"), (0, .class_ 21), (0, u "com/example/akcept/akcept/input/Amount"), (0, .methodref 20 23), (0, .nameAndType 5 24), (0, u "(J)V"), (0, .methodref 20 26), (0, .nameAndType 27 28), (0, u "minus"), (0, u "(Lcom/example/akcept/akcept/input/Amount;)Lcom/example/akcept/akcept/input/Amount;"), (0, .methodref 20 30), (0, .nameAndType 31 32), (0, u "kopecks"), (0, u "()J"), (0, .methodref 20 34), (0, .nameAndType 35 28), (0, u "plus"), (0, .class_ 37), (0, u "com/example/akcept/akcept/input/AmountMinusPinLaw"), (2, u "law"), (0, u "(JJI)Z")] 3

def k1m0 : Method := { name := "<init>", desc := "()V", sig := { parameters := [], returnType := none }, accessFlags := 1, code := none }
def k1c1 : Code := { maxStack := 6, maxLocals := 16, code := code, exceptionTable := #[], attributes := #[] }
def k1m1 : Method := { name := "law", desc := "(JJI)Z", sig := { parameters := [.long, .long, .int], returnType := some .boolean }, accessFlags := 9, code := some k1c1 }
/-- com/example/akcept/akcept/input/AmountMinusPinLaw -/
def k1 : Class := { plain "com/example/akcept/akcept/input/AmountMinusPinLaw" (some 0) with
  accessFlags := 49
  interfaces := #[]
  cf := some (fileOf pool1 36 #[] #[{ accessFlags := 1, nameIndex := 5, descriptorIndex := 6, attributes := #[] }, { accessFlags := 9, nameIndex := 40, descriptorIndex := 41, attributes := #[] }] 49 2 #[] #[])
  fields := #[]
  methods := #[k1m0, k1m1]
  instanceTypes := #[]
  staticTypes := #[]
  resolved := Array.replicate 45 none
  statics := none }

def pool2 : Array CpInfo := pool [(1, .class_ 2), (0, u "java/lang/Math"), (1, .class_ 6), (1, u "java/lang/Object"), (0, u "<init>"), (0, u "()V"), (89, .class_ 100), (1, u "java/lang/Math$RandomNumberGeneratorHolder"), (20, u "(JJ)J"), (50, u "negativeZeroFloatBits"), (0, u "J"), (2, u "negativeZeroDoubleBits"), (21, u "max"), (2, u "min"), (43, u "$assertionsDisabled"), (0, u "Z"), (91, u "twoToTheDoubleScaleDown"), (0, u "D"), (4, u "twoToTheDoubleScaleUp"), (9, u "E"), (3, u "PI"), (2, u "TAU"), (2, u "DEGREES_TO_RADIANS"), (0, u "RADIANS_TO_DEGREES"), (27, u "addExact")] 66

def k2m0 : Method := { name := "<init>", desc := "()V", sig := { parameters := [], returnType := none }, accessFlags := 2, code := none }
def k2c1 : Code := { maxStack := 6, maxLocals := 6, code := jdk_29_method_25_code, exceptionTable := #[], attributes := #[] }
def k2m1 : Method := { name := "addExact", desc := "(JJ)J", sig := { parameters := [.long, .long], returnType := some .long }, accessFlags := 9, code := some k2c1 }
def k2c2 : Code := { maxStack := 4, maxLocals := 4, code := jdk_29_method_66_code, exceptionTable := #[], attributes := #[] }
def k2m2 : Method := { name := "max", desc := "(JJ)J", sig := { parameters := [.long, .long], returnType := some .long }, accessFlags := 9, code := some k2c2 }
def k2c3 : Code := { maxStack := 4, maxLocals := 4, code := jdk_29_method_70_code, exceptionTable := #[], attributes := #[] }
def k2m3 : Method := { name := "min", desc := "(JJ)J", sig := { parameters := [.long, .long], returnType := some .long }, accessFlags := 9, code := some k2c3 }
/-- java/lang/Math -/
def k2 : Class := { plain "java/lang/Math" (some 0) with
  accessFlags := 49
  interfaces := #[]
  cf := some (fileOf pool2 1 #[.nestMembers #[98]] #[{ accessFlags := 2, nameIndex := 7, descriptorIndex := 8, attributes := #[] }, { accessFlags := 9, nameIndex := 393, descriptorIndex := 121, attributes := #[] }, { accessFlags := 9, nameIndex := 198, descriptorIndex := 121, attributes := #[] }, { accessFlags := 9, nameIndex := 201, descriptorIndex := 121, attributes := #[] }] 49 4 #[] #[{ accessFlags := 25, nameIndex := 354, descriptorIndex := 339, attributes := #[] }, { accessFlags := 25, nameIndex := 358, descriptorIndex := 339, attributes := #[] }, { accessFlags := 25, nameIndex := 361, descriptorIndex := 339, attributes := #[] }, { accessFlags := 26, nameIndex := 364, descriptorIndex := 339, attributes := #[] }, { accessFlags := 26, nameIndex := 365, descriptorIndex := 339, attributes := #[] }, { accessFlags := 26, nameIndex := 172, descriptorIndex := 173, attributes := #[] }, { accessFlags := 26, nameIndex := 176, descriptorIndex := 173, attributes := #[] }, { accessFlags := 8, nameIndex := 344, descriptorIndex := 339, attributes := #[] }, { accessFlags := 8, nameIndex := 338, descriptorIndex := 339, attributes := #[] }, { accessFlags := 4120, nameIndex := 245, descriptorIndex := 246, attributes := #[] }])
  fields := #[{ name := "E", type := .double, accessFlags := 25, slot := 0, constantValue := 0 }, { name := "PI", type := .double, accessFlags := 25, slot := 1, constantValue := 0 }, { name := "TAU", type := .double, accessFlags := 25, slot := 2, constantValue := 0 }, { name := "DEGREES_TO_RADIANS", type := .double, accessFlags := 26, slot := 3, constantValue := 0 }, { name := "RADIANS_TO_DEGREES", type := .double, accessFlags := 26, slot := 4, constantValue := 0 }, { name := "negativeZeroFloatBits", type := .long, accessFlags := 26, slot := 5, constantValue := 0 }, { name := "negativeZeroDoubleBits", type := .long, accessFlags := 26, slot := 6, constantValue := 0 }, { name := "twoToTheDoubleScaleUp", type := .double, accessFlags := 8, slot := 7, constantValue := 0 }, { name := "twoToTheDoubleScaleDown", type := .double, accessFlags := 8, slot := 8, constantValue := 0 }, { name := "$assertionsDisabled", type := .boolean, accessFlags := 4120, slot := 9, constantValue := 0 }]
  methods := #[k2m0, k2m1, k2m2, k2m3]
  instanceTypes := #[]
  staticTypes := #[.double, .double, .double, .double, .double, .long, .long, .double, .double, .boolean]
  resolved := Array.replicate 460 none
  statics := none }

def pool3 : Array CpInfo := pool [(1, .methodref 2 3), (0, .class_ 4), (0, .nameAndType 5 6), (0, u "java/lang/Object"), (0, u "<init>"), (0, u "()V"), (0, .class_ 8), (0, u "java/lang/Record")] 13

def k3c0 : Code := { maxStack := 1, maxLocals := 1, code := jdk_30_method_1_code, exceptionTable := #[], attributes := #[] }
def k3m0 : Method := { name := "<init>", desc := "()V", sig := { parameters := [], returnType := none }, accessFlags := 4, code := some k3c0 }
/-- java/lang/Record -/
def k3 : Class := { plain "java/lang/Record" (some 0) with
  accessFlags := 1057
  interfaces := #[]
  cf := some (fileOf pool3 7 #[] #[{ accessFlags := 4, nameIndex := 5, descriptorIndex := 6, attributes := #[] }] 1057 2 #[] #[])
  fields := #[]
  methods := #[k3m0]
  instanceTypes := #[]
  staticTypes := #[]
  resolved := Array.replicate 22 none
  statics := none }

def pool4 : Array CpInfo := pool [(1, .class_ 2), (0, u "java/lang/Comparable"), (0, .class_ 4), (0, u "java/lang/Object")] 7

/-- java/lang/Comparable -/
def k4 : Class := { plain "java/lang/Comparable" (some 0) with
  accessFlags := 1537
  interfaces := #[]
  cf := some (fileOf pool4 1 #[] #[] 1537 3 #[] #[])
  fields := #[]
  methods := #[]
  instanceTypes := #[]
  staticTypes := #[]
  resolved := Array.replicate 12 none
  statics := none }

def pool5 : Array CpInfo := pool [(1, .methodref 2 3), (0, .class_ 4), (0, .nameAndType 5 6), (0, u "java/lang/Record"), (0, u "<init>"), (0, u "()V"), (9, .fieldref 17 18), (0, .class_ 19), (0, .nameAndType 20 21), (0, u "com/example/akcept/akcept/input/Amount"), (0, u "kopecks"), (0, u "J"), (2, u "DECIMAL"), (0, u "Ljava/util/regex/Pattern;"), (38, .methodref 17 65), (0, .nameAndType 5 66), (0, u "(J)V"), (0, .methodref 68 69), (0, .class_ 70), (0, .nameAndType 71 72), (0, u "java/lang/Math"), (0, u "addExact"), (0, u "(JJ)J"), (29, u "ZERO"), (0, u "Lcom/example/akcept/akcept/input/Amount;"), (6, .class_ 111), (0, u "java/lang/Comparable"), (0, u "CURRENCY"), (0, u "Ljava/lang/String;"), (3, u "MAX_INTEGER_DIGITS"), (0, u "I"), (7, u "plus"), (0, u "(Lcom/example/akcept/akcept/input/Amount;)Lcom/example/akcept/akcept/input/Amount;"), (0, u "minus"), (5, u "()J")] 35

def k5c0 : Code := { maxStack := 4, maxLocals := 3, code := prog_20_method_1_code, exceptionTable := #[], attributes := #[] }
def k5m0 : Method := { name := "<init>", desc := "(J)V", sig := { parameters := [.long], returnType := none }, accessFlags := 1, code := some k5c0 }
def k5c1 : Code := { maxStack := 6, maxLocals := 2, code := prog_20_method_3_code, exceptionTable := #[], attributes := #[] }
def k5m1 : Method := { name := "plus", desc := "(Lcom/example/akcept/akcept/input/Amount;)Lcom/example/akcept/akcept/input/Amount;", sig := { parameters := [(.object "com/example/akcept/akcept/input/Amount")], returnType := some (.object "com/example/akcept/akcept/input/Amount") }, accessFlags := 1, code := some k5c1 }
def k5c2 : Code := { maxStack := 6, maxLocals := 2, code := prog_20_method_4_code, exceptionTable := #[], attributes := #[] }
def k5m2 : Method := { name := "minus", desc := "(Lcom/example/akcept/akcept/input/Amount;)Lcom/example/akcept/akcept/input/Amount;", sig := { parameters := [(.object "com/example/akcept/akcept/input/Amount")], returnType := some (.object "com/example/akcept/akcept/input/Amount") }, accessFlags := 1, code := some k5c2 }
def k5c3 : Code := { maxStack := 2, maxLocals := 1, code := prog_20_method_10_code, exceptionTable := #[], attributes := #[] }
def k5m3 : Method := { name := "kopecks", desc := "()J", sig := { parameters := [], returnType := some .long }, accessFlags := 1, code := some k5c3 }
/-- com/example/akcept/akcept/input/Amount -/
def k5 : Class := { plain "com/example/akcept/akcept/input/Amount" (some 3) with
  accessFlags := 49
  interfaces := #[4]
  cf := some (fileOf pool5 17 #[] #[{ accessFlags := 1, nameIndex := 5, descriptorIndex := 66, attributes := #[] }, { accessFlags := 1, nameIndex := 126, descriptorIndex := 127, attributes := #[] }, { accessFlags := 1, nameIndex := 128, descriptorIndex := 127, attributes := #[] }, { accessFlags := 1, nameIndex := 20, descriptorIndex := 134, attributes := #[] }] 49 2 #[110] #[{ accessFlags := 18, nameIndex := 20, descriptorIndex := 21, attributes := #[] }, { accessFlags := 25, nameIndex := 112, descriptorIndex := 113, attributes := #[] }, { accessFlags := 25, nameIndex := 102, descriptorIndex := 103, attributes := #[] }, { accessFlags := 24, nameIndex := 117, descriptorIndex := 118, attributes := #[] }, { accessFlags := 26, nameIndex := 24, descriptorIndex := 25, attributes := #[] }])
  fields := #[{ name := "kopecks", type := .long, accessFlags := 18, slot := 0, constantValue := 0 }, { name := "CURRENCY", type := (.object "java/lang/String"), accessFlags := 25, slot := 0, constantValue := 0 }, { name := "ZERO", type := (.object "com/example/akcept/akcept/input/Amount"), accessFlags := 25, slot := 1, constantValue := 0 }, { name := "MAX_INTEGER_DIGITS", type := .int, accessFlags := 24, slot := 2, constantValue := 0 }, { name := "DECIMAL", type := (.object "java/util/regex/Pattern"), accessFlags := 26, slot := 3, constantValue := 0 }]
  methods := #[k5m0, k5m1, k5m2, k5m3]
  instanceTypes := #[.long]
  staticTypes := #[(.object "java/lang/String"), (.object "com/example/akcept/akcept/input/Amount"), .int, (.object "java/util/regex/Pattern")]
  resolved := Array.replicate 170 none
  statics := none }

def pool6 : Array CpInfo := pool [(1, u "java/lang/Cloneable"), (0, .class_ 1), (0, u "java/lang/Object"), (0, .class_ 3)] 3

/-- java/lang/Cloneable -/
def k6 : Class := { plain "java/lang/Cloneable" (some 0) with
  accessFlags := 1537
  interfaces := #[]
  cf := some (fileOf pool6 2 #[] #[] 1537 4 #[] #[])
  fields := #[]
  methods := #[]
  instanceTypes := #[]
  staticTypes := #[]
  resolved := Array.replicate 8 none
  statics := none }

def pool7 : Array CpInfo := pool [(1, u "java/io/Serializable"), (0, .class_ 1), (0, u "java/lang/Object"), (0, .class_ 3)] 3

/-- java/io/Serializable -/
def k7 : Class := { plain "java/io/Serializable" (some 0) with
  accessFlags := 1537
  interfaces := #[]
  cf := some (fileOf pool7 2 #[] #[] 1537 4 #[] #[])
  fields := #[]
  methods := #[]
  instanceTypes := #[]
  staticTypes := #[]
  resolved := Array.replicate 8 none
  statics := none }

/-- the primitive byte -/
def k8 : Class := { plain "byte" none with kind := .primitive 'B', accessFlags := 0x411 }
/-- [B -/
def k9 : Class := { plain "[B" (some 0) with kind := .array 8 .byte, interfaces := #[6, 7], accessFlags := 1041 }

/-- the primitive int -/
def k10 : Class := { plain "int" none with kind := .primitive 'I', accessFlags := 0x411 }
/-- [I -/
def k11 : Class := { plain "[I" (some 0) with kind := .array 10 .int, interfaces := #[6, 7], accessFlags := 1041 }

def heap : Heap := #[]
def classes : Array Class := #[k0, k1, k2, k3, k4, k5, k6, k7, k8, k9, k10, k11]
def interned : List (Array UInt16 × Addr) := []
def slotsUsed : Nat := 0
def theMethod : MethodId := ⟨1, 1⟩
def args0 : Array Value := #[.long 5, .long 6, .int 7]
def aboutOver (below : List Frame) : State where
  vm := { classes := classes, interned := interned.toArray }
  heap := heap
  slotsUsed := slotsUsed
  threads := #[{ frames := .invoking theMethod args0 :: below }]
def below0 : List Frame := [.native { method := ⟨0, 0⟩, args := #[] }]
def about1 : State := aboutOver below0
def p0 : Program := .bare "" "" ""
def e0 : Env := launch0.env 0 0 0
theorem w_frames : about1.frames = Frame.invoking theMethod args0 :: below0 := rfl
set_option maxRecDepth 65536 in
theorem w_args : argsFit about1.vm theMethod args0 = true := by decide +kernel
set_option maxRecDepth 65536 in
theorem w_heap : heapFits about1 = true := by decide +kernel
set_option maxRecDepth 65536 in
theorem w_runnable : about1.curStatus? = some .runnable := by decide +kernel
set_option maxRecDepth 65536 in
theorem w_alone : about1.alone = true := by decide +kernel
set_option maxRecDepth 65536 in
theorem w_named : about1.methodNamed? x = some theMethod := by decide +kernel
set_option maxRecDepth 65536 in
theorem w_hears : about1.hears theMethod below0 = true := by decide +kernel
set_option maxRecDepth 65536 in
theorem w_ripe : about1.ripe theMethod args0 below0 = true := by decide +kernel
theorem w_running : about1.status = .running := rfl
set_option maxRecDepth 65536 in
theorem w_room : about1.hasRoom e0.platform room_1 = true :=
  launch0.hasRoom_least _ room_1 (by decide +kernel) (by decide +kernel) (by decide +kernel) (by decide +kernel) (by decide +kernel) (by decide +kernel)
theorem allAtoms_all (ts : List Jvm.Cond) (a : Array Jvm.Value) (st : Jvm.State) : (allAtoms ts).before a st = ts.all (fun c => c.before a st) := by
  induction ts with
  | nil => rfl
  | cons c t ih =>
    show (Jvm.Cond.and c (allAtoms t)).before a st = _
    rw [Jvm.Cond.before_and, ih, List.all_cons]
def words1 : List Jvm.Cond := Jvm.Cond.code x code maxLocals ret :: tables_1
/-- a 'code' word, met by the world's own term for the bytes: nothing is compared byte by byte -/
theorem code_word {y : MethodName} {bytes : ByteArray} {mx : Nat} {rt : Option FieldType} {a : Array Value} {s : State} {m : MethodId} {meth : Method} {c : Code} (h1 : s.methodNamed? y = some m) (h2 : s.vm.method? m = some meth) (h3 : meth.code = some c) (h4 : c.code = bytes)
    (h5 : (c.maxLocals == mx && c.exceptionTable.isEmpty && decide (c.maxStack ≤ mostOperands) && decide (meth.sig.returnType = rt) && !meth.locks && decide (parseMethodDescriptor y.desc = some meth.sig)) = true) : (Jvm.Cond.code y bytes mx rt).before a s = true := by
  simp only [Bool.and_eq_true, beq_iff_eq, Bool.not_eq_true', decide_eq_true_eq] at h5
  obtain ⟨⟨⟨⟨⟨g1, g2⟩, g3⟩, g4⟩, g5⟩, g6⟩ := h5
  simp [Cond.before, Cond.holds, Cond.value, h1, h2, h3, h4, g1, g2, g3, g4, g5, g6]
def isCode : Jvm.Cond → Bool
  | .code _ _ _ _ => true
  | _ => false
theorem all_split {L : List Jvm.Cond} {P : Jvm.Cond → Bool} (h1 : L.all (fun c => isCode c || P c) = true) (h2 : ∀ c ∈ L.filter isCode, P c = true) : L.all P = true := by
  refine List.all_eq_true.mpr fun c hc => ?_
  have h := List.all_eq_true.mp h1 c hc
  rcases Bool.eq_false_or_eq_true (isCode c) with hi | hi
  · exact h2 c (List.mem_filter.mpr ⟨hc, hi⟩)
  · simpa [hi] using h
set_option maxRecDepth 65536 in
theorem w_c0 : (Jvm.Cond.code x code maxLocals ret).before args0 about1 = true := code_word (m := ⟨1, 1⟩) (meth := k1m1) (c := k1c1) (by decide +kernel) rfl rfl rfl (by decide +kernel)
set_option maxRecDepth 65536 in
theorem w_c1 : (Jvm.Cond.code ({ cls := "java/lang/Math", name := "max", desc := "(JJ)J" } : Jvm.MethodName) jdk_29_method_66_code (4 : Nat) (Option.some Jvm.ClassFile.FieldType.long)).before args0 about1 = true := code_word (m := ⟨2, 2⟩) (meth := k2m2) (c := k2c2) (by decide +kernel) rfl rfl rfl (by decide +kernel)
set_option maxRecDepth 65536 in
theorem w_c2 : (Jvm.Cond.code ({ cls := "java/lang/Math", name := "min", desc := "(JJ)J" } : Jvm.MethodName) jdk_29_method_70_code (4 : Nat) (Option.some Jvm.ClassFile.FieldType.long)).before args0 about1 = true := code_word (m := ⟨2, 3⟩) (meth := k2m3) (c := k2c3) (by decide +kernel) rfl rfl rfl (by decide +kernel)
set_option maxRecDepth 65536 in
theorem w_c3 : (Jvm.Cond.code ({ cls := "com/example/akcept/akcept/input/Amount", name := "<init>", desc := "(J)V" } : Jvm.MethodName) prog_20_method_1_code (3 : Nat) (Option.none : Option Jvm.ClassFile.FieldType)).before args0 about1 = true := code_word (m := ⟨5, 0⟩) (meth := k5m0) (c := k5c0) (by decide +kernel) rfl rfl rfl (by decide +kernel)
set_option maxRecDepth 65536 in
theorem w_c4 : (Jvm.Cond.code ({ cls := "java/lang/Record", name := "<init>", desc := "()V" } : Jvm.MethodName) jdk_30_method_1_code (1 : Nat) (Option.none : Option Jvm.ClassFile.FieldType)).before args0 about1 = true := code_word (m := ⟨3, 0⟩) (meth := k3m0) (c := k3c0) (by decide +kernel) rfl rfl rfl (by decide +kernel)
set_option maxRecDepth 65536 in
theorem w_c5 : (Jvm.Cond.code ({ cls := "java/lang/Object", name := "<init>", desc := "()V" } : Jvm.MethodName) object_method_1_code (1 : Nat) (Option.none : Option Jvm.ClassFile.FieldType)).before args0 about1 = true := code_word (m := ⟨0, 0⟩) (meth := k0m0) (c := k0c0) (by decide +kernel) rfl rfl rfl (by decide +kernel)
set_option maxRecDepth 65536 in
theorem w_c6 : (Jvm.Cond.code ({ cls := "com/example/akcept/akcept/input/Amount", name := "minus", desc := "(Lcom/example/akcept/akcept/input/Amount;)Lcom/example/akcept/akcept/input/Amount;" } : Jvm.MethodName) prog_20_method_4_code (2 : Nat) (Option.some (Jvm.ClassFile.FieldType.object "com/example/akcept/akcept/input/Amount"))).before args0 about1 = true := code_word (m := ⟨5, 2⟩) (meth := k5m2) (c := k5c2) (by decide +kernel) rfl rfl rfl (by decide +kernel)
set_option maxRecDepth 65536 in
theorem w_c7 : (Jvm.Cond.code ({ cls := "com/example/akcept/akcept/input/Amount", name := "kopecks", desc := "()J" } : Jvm.MethodName) prog_20_method_10_code (1 : Nat) (Option.some Jvm.ClassFile.FieldType.long)).before args0 about1 = true := code_word (m := ⟨5, 3⟩) (meth := k5m3) (c := k5c3) (by decide +kernel) rfl rfl rfl (by decide +kernel)
set_option maxRecDepth 65536 in
theorem w_c8 : (Jvm.Cond.code ({ cls := "com/example/akcept/akcept/input/Amount", name := "plus", desc := "(Lcom/example/akcept/akcept/input/Amount;)Lcom/example/akcept/akcept/input/Amount;" } : Jvm.MethodName) prog_20_method_3_code (2 : Nat) (Option.some (Jvm.ClassFile.FieldType.object "com/example/akcept/akcept/input/Amount"))).before args0 about1 = true := code_word (m := ⟨5, 1⟩) (meth := k5m1) (c := k5c1) (by decide +kernel) rfl rfl rfl (by decide +kernel)
set_option maxRecDepth 65536 in
theorem w_c9 : (Jvm.Cond.code ({ cls := "java/lang/Math", name := "addExact", desc := "(JJ)J" } : Jvm.MethodName) jdk_29_method_25_code (6 : Nat) (Option.some Jvm.ClassFile.FieldType.long)).before args0 about1 = true := code_word (m := ⟨2, 1⟩) (meth := k2m1) (c := k2c1) (by decide +kernel) rfl rfl rfl (by decide +kernel)
def codes1 : List Jvm.Cond := [Jvm.Cond.code x code maxLocals ret, Jvm.Cond.code ({ cls := "java/lang/Math", name := "max", desc := "(JJ)J" } : Jvm.MethodName) jdk_29_method_66_code (4 : Nat) (Option.some Jvm.ClassFile.FieldType.long), Jvm.Cond.code ({ cls := "java/lang/Math", name := "min", desc := "(JJ)J" } : Jvm.MethodName) jdk_29_method_70_code (4 : Nat) (Option.some Jvm.ClassFile.FieldType.long), Jvm.Cond.code ({ cls := "com/example/akcept/akcept/input/Amount", name := "<init>", desc := "(J)V" } : Jvm.MethodName) prog_20_method_1_code (3 : Nat) (Option.none : Option Jvm.ClassFile.FieldType), Jvm.Cond.code ({ cls := "java/lang/Record", name := "<init>", desc := "()V" } : Jvm.MethodName) jdk_30_method_1_code (1 : Nat) (Option.none : Option Jvm.ClassFile.FieldType), Jvm.Cond.code ({ cls := "java/lang/Object", name := "<init>", desc := "()V" } : Jvm.MethodName) object_method_1_code (1 : Nat) (Option.none : Option Jvm.ClassFile.FieldType), Jvm.Cond.code ({ cls := "com/example/akcept/akcept/input/Amount", name := "minus", desc := "(Lcom/example/akcept/akcept/input/Amount;)Lcom/example/akcept/akcept/input/Amount;" } : Jvm.MethodName) prog_20_method_4_code (2 : Nat) (Option.some (Jvm.ClassFile.FieldType.object "com/example/akcept/akcept/input/Amount")), Jvm.Cond.code ({ cls := "com/example/akcept/akcept/input/Amount", name := "kopecks", desc := "()J" } : Jvm.MethodName) prog_20_method_10_code (1 : Nat) (Option.some Jvm.ClassFile.FieldType.long), Jvm.Cond.code ({ cls := "com/example/akcept/akcept/input/Amount", name := "plus", desc := "(Lcom/example/akcept/akcept/input/Amount;)Lcom/example/akcept/akcept/input/Amount;" } : Jvm.MethodName) prog_20_method_3_code (2 : Nat) (Option.some (Jvm.ClassFile.FieldType.object "com/example/akcept/akcept/input/Amount")), Jvm.Cond.code ({ cls := "java/lang/Math", name := "addExact", desc := "(JJ)J" } : Jvm.MethodName) jdk_29_method_25_code (6 : Nat) (Option.some Jvm.ClassFile.FieldType.long)]
set_option maxRecDepth 65536 in
theorem codes_eq : words1.filter isCode = codes1 := rfl
theorem w_codes : ∀ c ∈ words1.filter isCode, c.before args0 about1 = true := by
  rw [codes_eq]
  intro c hc
  simp only [codes1, List.mem_cons, List.not_mem_nil, or_false] at hc
  rcases hc with rfl | rfl | rfl | rfl | rfl | rfl | rfl | rfl | rfl | rfl
  · exact w_c0
  · exact w_c1
  · exact w_c2
  · exact w_c3
  · exact w_c4
  · exact w_c5
  · exact w_c6
  · exact w_c7
  · exact w_c8
  · exact w_c9
set_option maxRecDepth 65536 in
theorem w_t1 : (words1.take 24).all (fun c => isCode c || c.before args0 about1) = true := by decide +kernel
set_option maxRecDepth 65536 in
theorem w_t2 : (words1.drop 24).all (fun c => isCode c || c.before args0 about1) = true := by decide +kernel
theorem w_tables : (allAtoms (Jvm.Cond.code x code maxLocals ret :: tables_1)).before args0 about1 = true := by
  rw [allAtoms_all]
  show words1.all (fun c => c.before args0 about1) = true
  refine all_split ?_ w_codes
  rw [← List.take_append_drop 24 words1, List.all_append, w_t1, w_t2]
  rfl
set_option maxRecDepth 65536 in
theorem w_case : (Jvm.Cond.and given_1 narrow_1).before args0 about1 = true := by decide +kernel
theorem w_applies : (headSpec (Jvm.Cond.code x code maxLocals ret :: tables_1) room_1).applies x e0.platform about1 = true :=
  (Spec.applies_iff w_frames).mpr ⟨w_running, w_runnable, w_alone, w_named, w_hears, w_ripe, w_room, w_tables⟩
theorem atStart : AtStart classFile x code maxLocals ret World_1 tables_1 room_1 Calls_1 rest_1 Pre_1 launch0 p0 e0 about1 theMethod args0 below0 :=
  ⟨lists_1, trivial, launch0.admits_env _ _ _, launch0.least_env, fairChoices_fair.cas, fairChoices_fair.clock, w_frames, w_args, w_heap, w_applies, trivial, trivial, w_case⟩
end start1
theorem witness_1 : WitnessClaimed_1 := ⟨start1.p0, start1.e0, start1.about1, start1.theMethod, start1.args0, start1.below0, start1.atStart⟩
end Jvm.Pilot.@@N@@
