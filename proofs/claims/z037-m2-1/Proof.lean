import JvmDerived
import JvmDerived.Pilot.@@N@@Statement
import JvmDerived.Pilot.@@N@@Code
set_option linter.unusedVariables false
set_option linter.unusedSimpArgs false
namespace Jvm.RoadKit
open Sem ClassFile Op Lib Jvm.Stand Jvm.Free Jvm.LawKit
section New
variable {p : Program} {l : Launch} {e : Env} {R : Room} {s : State} {m : MethodId} {args : Array Value} {below : List Frame} {meth : Method} {c : Code} {T : State} {locs : List Loc} {cells slots : Nat}
theorem retI (X : Stand p l e R s m args below meth c T locs cells slots) (hx : p.tables.exec = Jvm.exec) {pc : Nat} {Ls : Array Slot} {z : Int32} {rest : List Value} (hret : meth.sig.returnType = some .int) (hd : decode c.code pc = .ok (.ireturn, 1)) {fs : List Frame}
    (hl : ∀ (f : JFrame) (acts : List Action), f.method = m → f.locked = none → f.entered = [] → (doReturn e (T.setTop f) acts (some (.int z))).1 = T.setFrames fs) : Steps p.tables e below (T.setTop (mkF m pc Ls (.int z :: rest))) (T.setFrames fs) := by
  have hm' : T.vm.method? m = some meth := X.method'
  have hn : narrow .int (.int z) = .int z := rfl
  show Steps p.tables e below (T.setTop { method := m, pc := pc, locals := Ls, stack := _ :: rest, locked := none }) _
  jvm_step X.here [X.here.top, hx, hd, hm', hret, hn]
  first | (intro acts; rw [hl _ acts rfl rfl rfl]) | rw [hl _ _ rfl rfl rfl]
  exact Steps.refl _
end New
end Jvm.RoadKit
namespace Jvm.Pilot.@@N@@
open Jvm Jvm.ClassFile Sem Op Lib Jvm.Free Jvm.Stand Jvm.LawKit Jvm.RoadKit Bundle Jvm.Pilot.@@N@@.Jvm.D
def own_G (tb : Tables) (e : Env) (below : List Frame) (P : State → Outcome → Prop) (st : State) : Prop := ∃ t o, Steps tb e below st t ∧ P t o
theorem own_go {tb : Tables} {e : Env} {below : List Frame} {P : State → Outcome → Prop} {st st' : State} (k : ∀ target, Steps tb e below st' target → Steps tb e below st target) (h : own_G tb e below P st') : own_G tb e below P st := by
  obtain ⟨t, o, h1, h2⟩ := h; exact ⟨t, o, k t h1, h2⟩
theorem own_tr {tb : Tables} {e : Env} {below : List Frame} {P : State → Outcome → Prop} {st st' : State} (k : Steps tb e below st st') (h : own_G tb e below P st') : own_G tb e below P st := by
  obtain ⟨t, o, h1, h2⟩ := h; exact ⟨t, o, k.trans h1, h2⟩
def own_E (below : List Frame) (s : State) (k n : Nat) (Q : Option Value → Heap → List Loc → Prop) (t : State) (o : Outcome) : Prop := t.status = .running ∧ Ended t below o ∧ ∃ v L, o = .returned v ∧ Q v t.heap L ∧ FrameEnd s o t L k n
section OwnRet
variable {p : Program} {l : Launch} {e : Env} {R : Room} {s : State} {m : MethodId} {args : Array Value} {below : List Frame} {meth : Method} {c : Code} {T : State} {locs : List Loc} {cells slots : Nat}
theorem own_retI (X : Stand p l e R s m args below meth c T locs cells slots) (hx : p.tables.exec = Jvm.exec) {pc : Nat} {Ls : Array Slot} {z : Int32} {rest : List Value} (hret : meth.sig.returnType = some .int) (hlk : meth.locks = false) (hd : decode c.code pc = .ok (.ireturn, 1)) {Q : Option Value → Heap → List Loc → Prop} {k n : Nat} (hk : cells ≤ k) (hn : slots ≤ n) {h : Heap} (eT : T.heap = h) (hQ : Q (some (.int z)) h locs) : own_G p.tables e below (own_E below s k n Q) (T.setTop (mkF m pc Ls (.int z :: rest))) := by
  obtain ⟨fs, hr, hrun, hended, hW, hsame⟩ := X.leave (v := some (.int z)) (fun h => by rw [hret] at h; cases h) hlk
  subst eT
  exact ⟨_, _, retI X hx hret hd hr, hrun, hended, _, _, rfl, hQ, ⟨_, rfl⟩, hW, hsame.mono hk hn⟩
theorem own_retN (X : Stand p l e R s m args below meth c T locs cells slots) (hx : p.tables.exec = Jvm.exec) {pc : Nat} {Ls : Array Slot} {z : Int32} {t : FieldType} {rest : List Value} (hret : meth.sig.returnType = some t) (ht : t = .boolean ∨ t = .byte ∨ t = .char ∨ t = .short) (hlk : meth.locks = false) (hd : decode c.code pc = .ok (.ireturn, 1)) {Q : Option Value → Heap → List Loc → Prop} {k n : Nat} (hk : cells ≤ k) (hn : slots ≤ n) {h : Heap} (eT : T.heap = h) (hQ : Q (some (.int (nar t z))) h locs) : own_G p.tables e below (own_E below s k n Q) (T.setTop (mkF m pc Ls (.int z :: rest))) := by
  obtain ⟨fs, hr, hrun, hended, hW, hsame⟩ := X.leave (v := some (.int (nar t z))) (fun h => by rw [hret] at h; cases h) hlk
  subst eT
  exact ⟨_, _, retN X hx hret ht hd hr, hrun, hended, _, _, rfl, hQ, ⟨_, rfl⟩, hW, hsame.mono hk hn⟩
theorem own_retV (X : Stand p l e R s m args below meth c T locs cells slots) (hx : p.tables.exec = Jvm.exec) {pc : Nat} {Ls : Array Slot} (hret : meth.sig.returnType = none) (hlk : meth.locks = false) (hd : decode c.code pc = .ok (.return_, 1)) {Q : Option Value → Heap → List Loc → Prop} {k n : Nat} (hk : cells ≤ k) (hn : slots ≤ n) {h : Heap} (eT : T.heap = h) (hQ : Q none h locs) : own_G p.tables e below (own_E below s k n Q) (T.setTop (mkF m pc Ls [])) := by
  obtain ⟨fs, hr, hrun, hended, hW, hsame⟩ := X.leave (v := none) (fun _ => rfl) hlk
  subst eT
  exact ⟨_, _, X.returnOut hx hret hd hr, hrun, hended, _, _, rfl, hQ, ⟨_, rfl⟩, hW, hsame.mono hk hn⟩
theorem own_retJ (X : Stand p l e R s m args below meth c T locs cells slots) (hx : p.tables.exec = Jvm.exec) {pc : Nat} {Ls : Array Slot} {z : Int64} {rest : List Value} (hret : meth.sig.returnType = some .long) (hlk : meth.locks = false) (hd : decode c.code pc = .ok (.lreturn, 1)) {Q : Option Value → Heap → List Loc → Prop} {k n : Nat} (hk : cells ≤ k) (hn : slots ≤ n) {h : Heap} (eT : T.heap = h) (hQ : Q (some (.long z)) h locs) : own_G p.tables e below (own_E below s k n Q) (T.setTop (mkF m pc Ls (.long z :: rest))) := by
  obtain ⟨fs, hr, hrun, hended, hW, hsame⟩ := X.leave (v := some (.long z)) (fun h => by rw [hret] at h; cases h) hlk
  subst eT
  refine ⟨_, _, ?_, hrun, hended, _, _, rfl, hQ, ⟨_, rfl⟩, hW, hsame.mono hk hn⟩
  jvm_step X.here [X.here.top, hx, hd, X.method', hret, narrow]
  first | (intro acts; rw [hr _ acts rfl rfl rfl]) | rw [hr _ _ rfl rfl rfl]
  exact Steps.refl _
theorem own_retR (X : Stand p l e R s m args below meth c T locs cells slots) (hx : p.tables.exec = Jvm.exec) {pc : Nat} {Ls : Array Slot} {a : Addr} {ty : FieldType} {rest : List Value} (hret : meth.sig.returnType = some ty) (hty : ty.isReference = true) (hlk : meth.locks = false) (hd : decode c.code pc = .ok (.areturn, 1)) {Q : Option Value → Heap → List Loc → Prop} {k n : Nat} (hk : cells ≤ k) (hn : slots ≤ n) {h : Heap} (eT : T.heap = h) (hQ : Q (some (.ref a)) h locs) : own_G p.tables e below (own_E below s k n Q) (T.setTop (mkF m pc Ls (.ref a :: rest))) := by
  obtain ⟨fs, hr, hrun, hended, hW, hsame⟩ := X.leave (v := some (.ref a)) (fun h => by rw [hret] at h; cases h) hlk
  subst eT
  refine ⟨_, _, ?_, hrun, hended, _, _, rfl, hQ, ⟨_, rfl⟩, hW, hsame.mono hk hn⟩
  jvm_step X.here [X.here.top, hx, hd, X.method', hret, Value.isRef, hty]
  first | (intro acts; rw [hr _ acts rfl rfl rfl]) | rw [hr _ _ rfl rfl rfl]
  exact Steps.refl _
end OwnRet
theorem own_selfsel {s : State} {args : Array Value} {y y' : MethodName} (hs : (Cond.selects y.cls y' y').before args s = true) (hyc : y'.cls = y.cls) (hpriv : s.PrivateAt y) (hinst : (Cond.instanceMethod y).before args s = true) (hy : y.cls ≠ "java/lang/invoke/MethodHandle" ∧ y.cls ≠ "java/lang/invoke/VarHandle") : (Cond.selects y.cls y y).before args s = true := by
  obtain ⟨c, r, mm, h1, -, h3, -, mk, h5, h6⟩ := Cond.selects_spec hs
  have h7 := findClass_of_methodNamed h3
  rw [hyc] at h7
  exact selects_self_of_private h7 h5 h6 hpriv hinst hy
theorem own_irem (x y : Int32) : x - (x / y) * y = x % y := by
  have h1 := rng32 (x % y)
  apply Int32.toInt_inj.mp
  rw [Int32.toInt_mod] at h1 ⊢
  rw [Int32.toInt_sub, Int32.toInt_mul, Int32.toInt_div, Int.bmod_mul_bmod, Int.sub_bmod_bmod, show x.toInt - x.toInt.tdiv y.toInt * y.toInt = x.toInt.tmod y.toInt from by rw [Int.tmod_def, Int.mul_comm]]
  exact Int.bmod_eq_of_le_mul_two (by omega) (by omega)
def own_A (Z : State) (h : Heap) (a : Addr) (ty : FieldType) (N : Nat) (f : Nat → Value) : Prop := ∃ c : Cell, Arr Z h a c ty ∧ c.slots.size = N ∧ ∀ j, j < N → c.slots[j]? = some (f j)
def own_upd (f : Nat → Value) (i : Nat) (v : Value) : Nat → Value := fun j => if j = i then v else f j
theorem own_upd_same (f : Nat → Value) (i : Nat) (v : Value) : own_upd f i v i = v := if_pos rfl
theorem own_upd_ne (f : Nat → Value) {i j : Nat} (v : Value) (h : j ≠ i) : own_upd f i v j = f j := if_neg h
theorem own_A.lt {Z : State} {h : Heap} {a : Addr} {ty : FieldType} {N : Nat} {f : Nat → Value} (F : own_A Z h a ty N f) : a < h.size := by obtain ⟨c, A, -⟩ := F; exact A.lt
theorem own_A.ext {Z : State} {h h' : Heap} {a : Addr} {ty : FieldType} {N : Nat} {f : Nat → Value} (F : own_A Z h a ty N f) (E : Ext h h') : own_A Z h' a ty N f := by obtain ⟨c, A, r⟩ := F; exact ⟨c, A.ext E, r⟩
theorem own_A.other {Z : State} {h h' : Heap} {a b : Addr} {sl : Nat} {v : Value} {ty : FieldType} {N : Nat} {f : Nat → Value} (F : own_A Z h b ty N f) (W : Wr h h' a sl v) (q : b ≠ a) : own_A Z h' b ty N f := by obtain ⟨c, A, r⟩ := F; exact ⟨c, A.other W q, r⟩
theorem own_A.keep {Z : State} {h h' : Heap} {a : Addr} {ws : List Addr} {ty : FieldType} {N : Nat} {f : Nat → Value} (F : own_A Z h a ty N f) (K : Keep h h' ws) (q : a ∉ ws) : own_A Z h' a ty N f := by obtain ⟨c, A, r⟩ := F; exact ⟨c, ⟨K.2.1 a c A.1 q, A.2⟩, r⟩
theorem own_A.new {Z : State} {h : Heap} {a : Addr} {k : ClassId} {ty : FieldType} {z : Int32} {N : Nat} (A : Arr Z h a (newA k ty z) ty) (q : z.toNatClampNeg = N) : own_A Z h a ty N (fun _ => defaultValue ty) :=
  ⟨_, A, (sz_new _ _ _).trans q, fun j hj => by rw [← q] at hj; simp [newA, hj]⟩
theorem own_A.set {Z : State} {h h' : Heap} {a : Addr} {ty : FieldType} {N : Nat} {f : Nat → Value} (F : own_A Z h a ty N f) {i : Nat} {v : Value} (W : Wr h h' a i v) : own_A Z h' a ty N (own_upd f i v) := by
  obtain ⟨c, A, S, H⟩ := F
  refine ⟨_, A.same W, by rw [sz_set]; exact S, fun j hj => ?_⟩
  by_cases u : j = i
  · subst u
    rw [own_upd_same]
    simp only [Cell.setSlot]
    exact Array.getElem?_setIfInBounds_self_of_lt (by rw [S]; exact hj)
  · rw [own_upd_ne _ _ u]
    simp only [Cell.setSlot]
    rw [Array.getElem?_setIfInBounds_ne (fun q => u q.symm)]
    exact H j hj
theorem own_A.congr {Z : State} {h : Heap} {a : Addr} {ty : FieldType} {N : Nat} {f g : Nat → Value} (F : own_A Z h a ty N f) (q : ∀ j, j < N → f j = g j) : own_A Z h a ty N g := by
  obtain ⟨c, A, S, H⟩ := F; exact ⟨c, A, S, fun j hj => by rw [← q j hj]; exact H j hj⟩
theorem own_inb {c : Cell} {N : Nat} {j : Int32} (S : c.slots.size = N) (h0 : 0 ≤ j.toInt) (h1 : j.toInt < (N : Int)) : ¬ (j < 0 ∨ c.slots.size ≤ j.toNatClampNeg) := by
  rw [S]
  have e0 : (0 : Int32).toInt = 0 := rfl
  simp only [Int32.lt_iff_toInt_lt, Int32.toNatClampNeg, e0]; omega
theorem own_stI {p : Program} {l : Launch} {e : Env} {R : Room} {s : State} {m : MethodId} {args : Array Value} {below : List Frame} {meth : Method} {c : Code} {T : State} {locs : List Loc} {cells slots : Nat} {Z : State} {h : Heap}
    (X : Stand p l e R s m args below meth c T locs cells slots) (hx : p.tables.exec = Jvm.exec) (hZ : Z.Warmed39 s.vm) (eT : T.heap = h) {a : Addr} {N : Nat} {f : Nat → Value} (A : own_A Z h a .int N f) {j : Int32} {x : Int32} (h0 : 0 ≤ j.toInt) (h1 : j.toInt < (N : Int)) {g : JFrame} (hg : g.method = m) {rest : List Value} (hs : g.stack = .int x :: .int j :: .ref a :: rest) (hd : decode c.code g.pc = .ok (.iastore, 1)) :
    ∃ T' h', Stand p l e R s m args below meth c T' (locs ++ [⟨a, j.toNatClampNeg⟩]) cells slots ∧ T'.heap = h' ∧ Wr h h' a j.toNatClampNeg (.int x) ∧ own_A Z h' a .int N (own_upd f j.toNatClampNeg (.int x)) ∧ ∀ target, Steps p.tables e below (T'.setTop { g with pc := g.pc + 1, stack := rest }) target → Steps p.tables e below (T.setTop g) target := by
  obtain ⟨cl, Ar, S, H⟩ := A
  obtain ⟨T', h', X', e', W, st⟩ := stI X hx hZ eT Ar (own_inb S h0 h1) hg hs hd
  exact ⟨T', h', X', e', W, own_A.set ⟨cl, Ar, S, H⟩ W, st⟩
theorem own_ldI {p : Program} {l : Launch} {e : Env} {R : Room} {s : State} {m : MethodId} {args : Array Value} {below : List Frame} {meth : Method} {c : Code} {T : State} {locs : List Loc} {cells slots : Nat} {Z : State} {h : Heap}
    (X : Stand p l e R s m args below meth c T locs cells slots) (hx : p.tables.exec = Jvm.exec) (hZ : Z.Warmed39 s.vm) (eT : T.heap = h) {a : Addr} {N : Nat} {f : Nat → Value} (A : own_A Z h a .int N f) {j : Int32} {v : Value} (h0 : 0 ≤ j.toInt) (h1 : j.toInt < (N : Int)) (hv : f j.toNatClampNeg = v) {g : JFrame} (hg : g.method = m) {rest : List Value} (hs : g.stack = .int j :: .ref a :: rest) (hd : decode c.code g.pc = .ok (.iaload, 1)) :
    ∀ target, Steps p.tables e below (T.setTop { g with pc := g.pc + 1, stack := v :: rest }) target → Steps p.tables e below (T.setTop g) target := by
  obtain ⟨cl, Ar, S, H⟩ := A
  have hN : j.toNatClampNeg < N := by simp only [Int32.toNatClampNeg]; omega
  exact X.iaload hx (by rw [eT]; exact Ar.1) (State.isArrayOf_alike hZ.alike Ar.2.1) Ar.2.2 (own_inb S h0 h1) (hv ▸ H _ hN) hg hs hd
theorem own_stJ {p : Program} {l : Launch} {e : Env} {R : Room} {s : State} {m : MethodId} {args : Array Value} {below : List Frame} {meth : Method} {c : Code} {T : State} {locs : List Loc} {cells slots : Nat} {Z : State} {h : Heap}
    (X : Stand p l e R s m args below meth c T locs cells slots) (hx : p.tables.exec = Jvm.exec) (hZ : Z.Warmed39 s.vm) (eT : T.heap = h) {a : Addr} {N : Nat} {f : Nat → Value} (A : own_A Z h a .long N f) {j : Int32} {x : Int64} (h0 : 0 ≤ j.toInt) (h1 : j.toInt < (N : Int)) {g : JFrame} (hg : g.method = m) {rest : List Value} (hs : g.stack = .long x :: .int j :: .ref a :: rest) (hd : decode c.code g.pc = .ok (.lastore, 1)) :
    ∃ T' h', Stand p l e R s m args below meth c T' (locs ++ [⟨a, j.toNatClampNeg⟩]) cells slots ∧ T'.heap = h' ∧ Wr h h' a j.toNatClampNeg (.long x) ∧ own_A Z h' a .long N (own_upd f j.toNatClampNeg (.long x)) ∧ ∀ target, Steps p.tables e below (T'.setTop { g with pc := g.pc + 1, stack := rest }) target → Steps p.tables e below (T.setTop g) target := by
  obtain ⟨cl, Ar, S, H⟩ := A
  obtain ⟨T', h', X', e', W, st⟩ := stJ X hx hZ eT Ar (own_inb S h0 h1) hg hs hd
  exact ⟨T', h', X', e', W, own_A.set ⟨cl, Ar, S, H⟩ W, st⟩
theorem own_ldJ {p : Program} {l : Launch} {e : Env} {R : Room} {s : State} {m : MethodId} {args : Array Value} {below : List Frame} {meth : Method} {c : Code} {T : State} {locs : List Loc} {cells slots : Nat} {Z : State} {h : Heap}
    (X : Stand p l e R s m args below meth c T locs cells slots) (hx : p.tables.exec = Jvm.exec) (hZ : Z.Warmed39 s.vm) (eT : T.heap = h) {a : Addr} {N : Nat} {f : Nat → Value} (A : own_A Z h a .long N f) {j : Int32} {v : Value} (h0 : 0 ≤ j.toInt) (h1 : j.toInt < (N : Int)) (hv : f j.toNatClampNeg = v) {g : JFrame} (hg : g.method = m) {rest : List Value} (hs : g.stack = .int j :: .ref a :: rest) (hd : decode c.code g.pc = .ok (.laload, 1)) :
    ∀ target, Steps p.tables e below (T.setTop { g with pc := g.pc + 1, stack := v :: rest }) target → Steps p.tables e below (T.setTop g) target := by
  obtain ⟨cl, Ar, S, H⟩ := A
  have hN : j.toNatClampNeg < N := by simp only [Int32.toNatClampNeg]; omega
  exact X.laload hx (by rw [eT]; exact Ar.1) (State.isArrayOf_alike hZ.alike Ar.2.1) Ar.2.2 (own_inb S h0 h1) (hv ▸ H _ hN) hg hs hd
theorem own_ldB {p : Program} {l : Launch} {e : Env} {R : Room} {s : State} {m : MethodId} {args : Array Value} {below : List Frame} {meth : Method} {c : Code} {T : State} {locs : List Loc} {cells slots : Nat} {Z : State} {h : Heap}
    (X : Stand p l e R s m args below meth c T locs cells slots) (hx : p.tables.exec = Jvm.exec) (hZ : Z.Warmed39 s.vm) (eT : T.heap = h) {a : Addr} {N : Nat} {f : Nat → Value} (A : own_A Z h a .byte N f) {j : Int32} {v : Value} (h0 : 0 ≤ j.toInt) (h1 : j.toInt < (N : Int)) (hv : f j.toNatClampNeg = v) {g : JFrame} (hg : g.method = m) {rest : List Value} (hs : g.stack = .int j :: .ref a :: rest) (hd : decode c.code g.pc = .ok (.baload, 1)) :
    ∀ target, Steps p.tables e below (T.setTop { g with pc := g.pc + 1, stack := v :: rest }) target → Steps p.tables e below (T.setTop g) target := by
  obtain ⟨cl, Ar, S, H⟩ := A
  have hN : j.toNatClampNeg < N := by simp only [Int32.toNatClampNeg]; omega
  exact X.baloadBytes hx (by rw [eT]; exact Ar.1) (State.isArrayOf_alike hZ.alike Ar.2.1) Ar.2.2 (own_inb S h0 h1) (hv ▸ H _ hN) hg hs hd
theorem own_len {p : Program} {l : Launch} {e : Env} {R : Room} {s : State} {m : MethodId} {args : Array Value} {below : List Frame} {meth : Method} {c : Code} {T : State} {locs : List Loc} {cells slots : Nat} {Z : State} {h : Heap}
    (X : Stand p l e R s m args below meth c T locs cells slots) (hx : p.tables.exec = Jvm.exec) (hZ : Z.Warmed39 s.vm) (eT : T.heap = h) {a : Addr} {ty : FieldType} {N : Nat} {f : Nat → Value} (A : own_A Z h a ty N f) {z : Int32} (hz : N.toInt32 = z) {g : JFrame} (hg : g.method = m) {rest : List Value} (hs : g.stack = .ref a :: rest) (hd : decode c.code g.pc = .ok (.arraylength, 1)) :
    ∀ target, Steps p.tables e below (T.setTop { g with pc := g.pc + 1, stack := .int z :: rest }) target → Steps p.tables e below (T.setTop g) target := by
  obtain ⟨cl, Ar, S, H⟩ := A
  subst S hz
  exact X.arraylength hx (by rw [eT]; exact Ar.1) (State.isArrayOf_alike hZ.alike Ar.2.1) hg hs hd
theorem own_ll {x y : Int64} : lcmpW x y < 0 ↔ x.toInt < y.toInt := by rw [lw_lt, Int64.lt_iff_toInt_lt]
theorem own_lg {x y : Int64} : 0 < lcmpW x y ↔ y.toInt < x.toInt := by rw [lw_gt, Int64.lt_iff_toInt_lt]
theorem own_lq {x y : Int64} : lcmpW x y = 0 ↔ x = y := lw_eq x y
theorem own_nll {x y : Int64} (h : ¬ lcmpW x y < 0) : ¬ x.toInt < y.toInt := fun z => h (own_ll.mpr z)
theorem own_nlg {x y : Int64} (h : ¬ 0 < lcmpW x y) : ¬ y.toInt < x.toInt := fun z => h (own_lg.mpr z)
def own_updI (f : Nat → Int32) (i : Nat) (v : Int32) : Nat → Int32 := fun j => if j = i then v else f j
theorem own_upd_int (f : Nat → Int32) (i : Nat) (v : Int32) : own_upd (fun j => .int (f j)) i (.int v) = fun j => .int (own_updI f i v j) := by
  funext j; simp only [own_upd, own_updI]; split <;> rfl
/-- the place: its six fields, its three arrays of four, all made since the law began -/
def own_P (Z : State) (h : Heap) (n0 : Nat) (b wl wc wa : Addr) (ln cl ad ps cr xm : Int32) (f g k : Nat → Int32) : Prop :=
  Exa Z h b "polytsia/marcxml/Place" ∧ Fld Z h b "polytsia/marcxml/Place" "line" "I" (.int ln) ∧ Fld Z h b "polytsia/marcxml/Place" "column" "I" (.int cl) ∧ Fld Z h b "polytsia/marcxml/Place" "added" "I" (.int ad) ∧ Fld Z h b "polytsia/marcxml/Place" "puts" "I" (.int ps) ∧ Fld Z h b "polytsia/marcxml/Place" "afterCarriageReturn" "Z" (.int cr) ∧ Fld Z h b "polytsia/marcxml/Place" "xml11" "Z" (.int xm) ∧
  Fld Z h b "polytsia/marcxml/Place" "putLine" "[I" (.ref wl) ∧ Fld Z h b "polytsia/marcxml/Place" "putColumn" "[I" (.ref wc) ∧ Fld Z h b "polytsia/marcxml/Place" "putAdded" "[I" (.ref wa) ∧ own_A Z h wl .int 4 (fun j => .int (f j)) ∧ own_A Z h wc .int 4 (fun j => .int (g j)) ∧ own_A Z h wa .int 4 (fun j => .int (k j)) ∧
  b ≠ wl ∧ b ≠ wc ∧ b ≠ wa ∧ wl ≠ wc ∧ wl ≠ wa ∧ wc ≠ wa ∧ n0 ≤ b ∧ n0 ≤ wl ∧ n0 ≤ wc ∧ n0 ≤ wa
theorem own_rem4 {x : Int32} (h : 0 ≤ x.toInt) : 0 ≤ (x % (4 : Int32)).toInt ∧ (x % (4 : Int32)).toInt < ((4 : Nat) : Int) ∧ (x % (4 : Int32)).toInt = x.toInt % 4 := by
  have a := (c_irem x 4 4 rfl).1 h
  omega
theorem d1_0 : decode prog_43_method_1_code 0 = .ok (.aload_n 0, 1) := by decide +kernel
theorem d1_1 : decode prog_43_method_1_code 1 = .ok (.invokespecial 1, 3) := by decide +kernel
theorem d1_4 : decode prog_43_method_1_code 4 = .ok (.aload_n 0, 1) := by decide +kernel
theorem d1_5 : decode prog_43_method_1_code 5 = .ok (.iconst 1, 1) := by decide +kernel
theorem d1_6 : decode prog_43_method_1_code 6 = .ok (.putfield 7, 3) := by decide +kernel
theorem d1_9 : decode prog_43_method_1_code 9 = .ok (.aload_n 0, 1) := by decide +kernel
theorem d1_10 : decode prog_43_method_1_code 10 = .ok (.iconst 1, 1) := by decide +kernel
theorem d1_11 : decode prog_43_method_1_code 11 = .ok (.putfield 13, 3) := by decide +kernel
theorem d1_14 : decode prog_43_method_1_code 14 = .ok (.aload_n 0, 1) := by decide +kernel
theorem d1_15 : decode prog_43_method_1_code 15 = .ok (.iconst 4, 1) := by decide +kernel
theorem d1_16 : decode prog_43_method_1_code 16 = .ok (.newarray .int, 2) := by decide +kernel
theorem d1_18 : decode prog_43_method_1_code 18 = .ok (.putfield 16, 3) := by decide +kernel
theorem d1_21 : decode prog_43_method_1_code 21 = .ok (.aload_n 0, 1) := by decide +kernel
theorem d1_22 : decode prog_43_method_1_code 22 = .ok (.iconst 4, 1) := by decide +kernel
theorem d1_23 : decode prog_43_method_1_code 23 = .ok (.newarray .int, 2) := by decide +kernel
theorem d1_25 : decode prog_43_method_1_code 25 = .ok (.putfield 20, 3) := by decide +kernel
theorem d1_28 : decode prog_43_method_1_code 28 = .ok (.aload_n 0, 1) := by decide +kernel
theorem d1_29 : decode prog_43_method_1_code 29 = .ok (.iconst 4, 1) := by decide +kernel
theorem d1_30 : decode prog_43_method_1_code 30 = .ok (.newarray .int, 2) := by decide +kernel
theorem d1_32 : decode prog_43_method_1_code 32 = .ok (.putfield 23, 3) := by decide +kernel
theorem d1_35 : decode prog_43_method_1_code 35 = .ok (.return_, 1) := by decide +kernel
theorem pn_polytsia_marcxml_Place : plainName "polytsia/marcxml/Place" = true := by first | (simp [plainName, overriddenIn]; done) | decide +kernel
theorem ef_init (m : MethodId) (p0 : Addr) : entryFrame m #[(.ref p0)] 1 = mkF m 0 #[.val (.ref p0)] [] := by first | (simp [entryFrame, mkF, argsToLocals, Value.category]; done) | rfl
def Q_init (Z : State) (p0 : Addr) (h0 : Heap) (n0 : Nat) (v : Option Value) (h : Heap) (L : List Loc) : Prop := v = none ∧ Fr n0 L ∧ n0 ≤ h.size ∧ ∃ wl wc wa, own_P Z h n0 p0 wl wc wa 1 1 0 0 0 0 (fun _ => 0) (fun _ => 0) (fun _ => 0)
set_option maxRecDepth 65536 in
set_option maxHeartbeats 40000000 in
theorem rm_init (l : Launch) (Z : State) (a0 : Array Value) (hw : ∀ d ∈ tables_1, d.before a0 Z = true) (ws : List Jvm.Cond) (p0 : Addr) (h0 : Heap) (n0 : Nat) (Z0 : n0 ≤ h0.size) (E0 : Exa Z h0 p0 "polytsia/marcxml/Place") (g0 : n0 ≤ p0) (F_ln : Fld Z h0 p0 "polytsia/marcxml/Place" "line" "I" (.int (0 : Int32))) (F_cl : Fld Z h0 p0 "polytsia/marcxml/Place" "column" "I" (.int (0 : Int32))) (F_ad : Fld Z h0 p0 "polytsia/marcxml/Place" "added" "I" (.int (0 : Int32))) (F_ps : Fld Z h0 p0 "polytsia/marcxml/Place" "puts" "I" (.int (0 : Int32))) (F_cr : Fld Z h0 p0 "polytsia/marcxml/Place" "afterCarriageReturn" "Z" (.int (0 : Int32))) (F_xm : Fld Z h0 p0 "polytsia/marcxml/Place" "xml11" "Z" (.int (0 : Int32))) (F_wl : Fld Z h0 p0 "polytsia/marcxml/Place" "putLine" "[I" .null) (F_wc : Fld Z h0 p0 "polytsia/marcxml/Place" "putColumn" "[I" .null) (F_wa : Fld Z h0 p0 "polytsia/marcxml/Place" "putAdded" "[I" .null) :
    MetFree l (⟨"polytsia/marcxml/Place", "<init>", "()V"⟩ : MethodName) (head1 (Jvm.Cond.code (⟨"polytsia/marcxml/Place", "<init>", "()V"⟩ : MethodName) prog_43_method_1_code 1 none :: ws) ({ frames := 1, cells := 3, slots := 12, locals := 12 } : Room)) (fun a U => a = #[(.ref p0)] ∧ Z.Warmed39 U.vm ∧ U.heap = h0) (fun _ _ _ _ _ => True) (fun _ U o U' => ∃ v L, o = .returned v ∧ Q_init Z p0 h0 n0 v U'.heap L ∧ FrameEnd U o U' L ({ frames := 1, cells := 3, slots := 12, locals := 12 } : Room).cells ({ frames := 1, cells := 3, slots := 12, locals := 12 } : Room).slots) := by
  refine MetFree.of_bodySF (plainFor_of_name pn_polytsia_marcxml_Place) hisR ?_
  intro p e s m args below meth kc s₁ Bd hml0 hP hK
  obtain ⟨rfl, hZ, hh⟩ := hP
  have hx := Bd.exec
  have hby := Bd.bytes
  have hlk := Bd.notSynchronized
  have hml : kc.maxLocals = 1 := hml0
  have hown : s.vm.findClass "polytsia/marcxml/Place" = some m.cls := findClass_of_methodNamed Bd.named
  have hnm := (name_of_methodNamed Bd.named Bd.method).1
  have X0 : Stand p l e ({ frames := 1, cells := 3, slots := 12, locals := 12 } : Room) s m #[(.ref p0)] below meth kc s₁ [] 0 0 := Stand.of_body Bd
  have e0 : s₁.heap = h0 := by rw [← hh, Bd.state]; rfl
  have N0 := Fr.nil n0
  show own_G p.tables e below (own_E below s ({ frames := 1, cells := 3, slots := 12, locals := 12 } : Room).cells ({ frames := 1, cells := 3, slots := 12, locals := 12 } : Room).slots (Q_init Z p0 h0 n0)) _
  refine own_go (fun _ k => castTop (ef_init m p0) k) ?_
  show own_G p.tables e below _ (s₁.setTop (mkF m 0 #[.val (.ref p0)] []))
  refine own_go (fun _ kt => XS.aloadN X0.here hx rfl (hb hby d1_0) rfl rfl kt) ?_
  show own_G p.tables e below _ (s₁.setTop (mkF m 1 #[.val (.ref p0)] [(.ref p0)]))
  obtain ⟨T1, X1, e1, st1⟩ := initO X0 hx hZ hown (hw _ (List.mem_of_getElem? (i := 7) rfl)) (hw _ (List.mem_of_getElem? (i := 8) rfl)) (hw _ (List.mem_of_getElem? (i := 9) rfl)) e0 (g := (mkF m 1 #[.val (.ref p0)] [(.ref p0)])) rfl (by rw [hml]; rfl) rfl (hb hby d1_1) (by decide) (W := 0) (by show 2 * 0 + _ ≤ _; exact Nat.le_of_eq rfl) (by decide)
  refine own_go st1 ?_
  show own_G p.tables e below _ (T1.setTop (mkF m 4 #[.val (.ref p0)] []))
  refine own_go (fun _ kt => XS.aloadN X1.here hx rfl (hb hby d1_4) rfl rfl kt) ?_
  show own_G p.tables e below _ (T1.setTop (mkF m 5 #[.val (.ref p0)] [(.ref p0)]))
  refine own_go (fun _ kt => XS.iconst X1.here hx rfl (hb hby d1_5) kt) ?_
  show own_G p.tables e below _ (T1.setTop (mkF m 6 #[.val (.ref p0)] [(.int (1 : Int32)), (.ref p0)]))
  obtain ⟨T2, h2, X2, e2, W2, st2⟩ := putF X1 hx hZ hown (host := "") (Or.inl (hw _ (List.mem_of_getElem? (i := 10) rfl))) Via.refl e1 F_ln E0 (Or.inl (hw _ (List.mem_of_getElem? (i := 11) rfl))) (hw _ (List.mem_of_getElem? (i := 2) rfl)) (ty := .int) (by decide) rfl rfl (g := (mkF m 6 #[.val (.ref p0)] [(.int (1 : Int32)), (.ref p0)])) rfl rfl (hb hby d1_6)
  refine own_go st2 ?_
  have N2 := Fr.snoc X2 N0 g0
  have Z2 : n0 ≤ h2.size := Nat.le_trans Z0 (Keep.of_wr W2).1
  have Fw2 := Fld.same W2 F_ln
  show own_G p.tables e below _ (T2.setTop (mkF m 9 #[.val (.ref p0)] []))
  refine own_go (fun _ kt => XS.aloadN X2.here hx rfl (hb hby d1_9) rfl rfl kt) ?_
  show own_G p.tables e below _ (T2.setTop (mkF m 10 #[.val (.ref p0)] [(.ref p0)]))
  refine own_go (fun _ kt => XS.iconst X2.here hx rfl (hb hby d1_10) kt) ?_
  show own_G p.tables e below _ (T2.setTop (mkF m 11 #[.val (.ref p0)] [(.int (1 : Int32)), (.ref p0)]))
  have u3 := (F_cl.other W2 (Or.inr (slot_ne (Or.inl (hw _ (List.mem_of_getElem? (i := 13) rfl))) (Or.inl (hw _ (List.mem_of_getElem? (i := 11) rfl))) (by decide) (t := .int) (t' := .int) (by decide) (by decide))))
  have u4 := (E0.wr W2)
  obtain ⟨T5, h5, X5, e5, W5, st5⟩ := putF X2 hx hZ hown (host := "") (Or.inl (hw _ (List.mem_of_getElem? (i := 12) rfl))) Via.refl e2 u3 u4 (Or.inl (hw _ (List.mem_of_getElem? (i := 13) rfl))) (hw _ (List.mem_of_getElem? (i := 2) rfl)) (ty := .int) (by decide) rfl rfl (g := (mkF m 11 #[.val (.ref p0)] [(.int (1 : Int32)), (.ref p0)])) rfl rfl (hb hby d1_11)
  refine own_go st5 ?_
  have N5 := Fr.snoc X5 N2 g0
  have Z5 : n0 ≤ h5.size := Nat.le_trans Z2 (Keep.of_wr W5).1
  have Fw5 := Fld.same W5 u3
  show own_G p.tables e below _ (T5.setTop (mkF m 14 #[.val (.ref p0)] []))
  refine own_go (fun _ kt => XS.aloadN X5.here hx rfl (hb hby d1_14) rfl rfl kt) ?_
  show own_G p.tables e below _ (T5.setTop (mkF m 15 #[.val (.ref p0)] [(.ref p0)]))
  refine own_go (fun _ kt => XS.iconst X5.here hx rfl (hb hby d1_15) kt) ?_
  show own_G p.tables e below _ (T5.setTop (mkF m 16 #[.val (.ref p0)] [(.int (4 : Int32)), (.ref p0)]))
  obtain ⟨T6, h6, k6, X6, e6, E6, A6, st6⟩ := newP X5 hx hZ (hw _ (List.mem_of_getElem? (i := 14) rfl)) e5 (g := (mkF m 16 #[.val (.ref p0)] [(.int (4 : Int32)), (.ref p0)])) rfl (hb hby d1_16) rfl (by decide) (cap := 4) (by decide) (by decide) (Nat.le_of_ble_eq_true rfl) (Nat.le_of_ble_eq_true rfl)
  obtain ⟨b6, g6⟩ : ∃ z, z = h5.size := ⟨_, rfl⟩
  rw [← g6] at A6 st6
  have u7 := (u4.wr W5)
  have ne_p0_b6 : p0 ≠ b6 := Nat.ne_of_lt (Nat.lt_of_lt_of_le u7.lt (Nat.le_of_eq g6.symm))
  have g_b6 : n0 ≤ b6 := Nat.le_trans Z5 (Nat.le_of_eq g6.symm)
  refine own_go st6 ?_
  have Z6 : n0 ≤ h6.size := Nat.le_trans Z5 E6.1
  have V6 := own_A.new A6 (N := 4) (by decide)
  show own_G p.tables e below _ (T6.setTop (mkF m 18 #[.val (.ref p0)] [(.ref b6), (.ref p0)]))
  have u8 := (((F_wl.other W2 (Or.inr (slot_ne (Or.inr (hw _ (List.mem_of_getElem? (i := 16) rfl))) (Or.inl (hw _ (List.mem_of_getElem? (i := 11) rfl))) (by decide) (t := (.array .int)) (t' := .int) (by decide) (by decide)))).other W5 (Or.inr (slot_ne (Or.inr (hw _ (List.mem_of_getElem? (i := 16) rfl))) (Or.inl (hw _ (List.mem_of_getElem? (i := 13) rfl))) (by decide) (t := (.array .int)) (t' := .int) (by decide) (by decide)))).ext E6)
  have u9 := (u7.ext E6)
  obtain ⟨T10, h10, X10, e10, W10, st10⟩ := putF X6 hx hZ hown (host := "") (Or.inl (hw _ (List.mem_of_getElem? (i := 15) rfl))) Via.refl e6 u8 u9 (Or.inr ⟨(hw _ (List.mem_of_getElem? (i := 16) rfl)), rfl, hnm⟩) (hw _ (List.mem_of_getElem? (i := 2) rfl)) (ty := (.array .int)) (by decide) rfl rfl (g := (mkF m 18 #[.val (.ref p0)] [(.ref b6), (.ref p0)])) rfl rfl (hb hby d1_18)
  refine own_go st10 ?_
  have N10 := Fr.snoc X10 N5 g0
  have Z10 : n0 ≤ h10.size := Nat.le_trans Z6 (Keep.of_wr W10).1
  have Fw10 := Fld.same W10 u8
  show own_G p.tables e below _ (T10.setTop (mkF m 21 #[.val (.ref p0)] []))
  refine own_go (fun _ kt => XS.aloadN X10.here hx rfl (hb hby d1_21) rfl rfl kt) ?_
  show own_G p.tables e below _ (T10.setTop (mkF m 22 #[.val (.ref p0)] [(.ref p0)]))
  refine own_go (fun _ kt => XS.iconst X10.here hx rfl (hb hby d1_22) kt) ?_
  show own_G p.tables e below _ (T10.setTop (mkF m 23 #[.val (.ref p0)] [(.int (4 : Int32)), (.ref p0)]))
  obtain ⟨T11, h11, k11, X11, e11, E11, A11, st11⟩ := newP X10 hx hZ (hw _ (List.mem_of_getElem? (i := 14) rfl)) e10 (g := (mkF m 23 #[.val (.ref p0)] [(.int (4 : Int32)), (.ref p0)])) rfl (hb hby d1_23) rfl (by decide) (cap := 4) (by decide) (by decide) (Nat.le_of_ble_eq_true rfl) (Nat.le_of_ble_eq_true rfl)
  obtain ⟨b11, g11⟩ : ∃ z, z = h10.size := ⟨_, rfl⟩
  rw [← g11] at A11 st11
  have u12 := (V6.other W10 (Ne.symm ne_p0_b6))
  have ne_b6_b11 : b6 ≠ b11 := Nat.ne_of_lt (Nat.lt_of_lt_of_le u12.lt (Nat.le_of_eq g11.symm))
  have u13 := (u9.wr W10)
  have ne_p0_b11 : p0 ≠ b11 := Nat.ne_of_lt (Nat.lt_of_lt_of_le u13.lt (Nat.le_of_eq g11.symm))
  have g_b11 : n0 ≤ b11 := Nat.le_trans Z10 (Nat.le_of_eq g11.symm)
  refine own_go st11 ?_
  have Z11 : n0 ≤ h11.size := Nat.le_trans Z10 E11.1
  have V11 := own_A.new A11 (N := 4) (by decide)
  show own_G p.tables e below _ (T11.setTop (mkF m 25 #[.val (.ref p0)] [(.ref b11), (.ref p0)]))
  have u14 := (((((F_wc.other W2 (Or.inr (slot_ne (Or.inr (hw _ (List.mem_of_getElem? (i := 18) rfl))) (Or.inl (hw _ (List.mem_of_getElem? (i := 11) rfl))) (by decide) (t := (.array .int)) (t' := .int) (by decide) (by decide)))).other W5 (Or.inr (slot_ne (Or.inr (hw _ (List.mem_of_getElem? (i := 18) rfl))) (Or.inl (hw _ (List.mem_of_getElem? (i := 13) rfl))) (by decide) (t := (.array .int)) (t' := .int) (by decide) (by decide)))).ext E6).other W10 (Or.inr (slot_ne (Or.inr (hw _ (List.mem_of_getElem? (i := 18) rfl))) (Or.inr (hw _ (List.mem_of_getElem? (i := 16) rfl))) (by decide) (t := (.array .int)) (t' := (.array .int)) (by decide) (by decide)))).ext E11)
  have u15 := (u13.ext E11)
  obtain ⟨T16, h16, X16, e16, W16, st16⟩ := putF X11 hx hZ hown (host := "") (Or.inl (hw _ (List.mem_of_getElem? (i := 17) rfl))) Via.refl e11 u14 u15 (Or.inr ⟨(hw _ (List.mem_of_getElem? (i := 18) rfl)), rfl, hnm⟩) (hw _ (List.mem_of_getElem? (i := 2) rfl)) (ty := (.array .int)) (by decide) rfl rfl (g := (mkF m 25 #[.val (.ref p0)] [(.ref b11), (.ref p0)])) rfl rfl (hb hby d1_25)
  refine own_go st16 ?_
  have N16 := Fr.snoc X16 N10 g0
  have Z16 : n0 ≤ h16.size := Nat.le_trans Z11 (Keep.of_wr W16).1
  have Fw16 := Fld.same W16 u14
  show own_G p.tables e below _ (T16.setTop (mkF m 28 #[.val (.ref p0)] []))
  refine own_go (fun _ kt => XS.aloadN X16.here hx rfl (hb hby d1_28) rfl rfl kt) ?_
  show own_G p.tables e below _ (T16.setTop (mkF m 29 #[.val (.ref p0)] [(.ref p0)]))
  refine own_go (fun _ kt => XS.iconst X16.here hx rfl (hb hby d1_29) kt) ?_
  show own_G p.tables e below _ (T16.setTop (mkF m 30 #[.val (.ref p0)] [(.int (4 : Int32)), (.ref p0)]))
  obtain ⟨T17, h17, k17, X17, e17, E17, A17, st17⟩ := newP X16 hx hZ (hw _ (List.mem_of_getElem? (i := 14) rfl)) e16 (g := (mkF m 30 #[.val (.ref p0)] [(.int (4 : Int32)), (.ref p0)])) rfl (hb hby d1_30) rfl (by decide) (cap := 4) (by decide) (by decide) (Nat.le_of_ble_eq_true rfl) (Nat.le_of_ble_eq_true rfl)
  obtain ⟨b17, g17⟩ : ∃ z, z = h16.size := ⟨_, rfl⟩
  rw [← g17] at A17 st17
  have u18 := (V11.other W16 (Ne.symm ne_p0_b11))
  have ne_b11_b17 : b11 ≠ b17 := Nat.ne_of_lt (Nat.lt_of_lt_of_le u18.lt (Nat.le_of_eq g17.symm))
  have u19 := ((u12.ext E11).other W16 (Ne.symm ne_p0_b6))
  have ne_b6_b17 : b6 ≠ b17 := Nat.ne_of_lt (Nat.lt_of_lt_of_le u19.lt (Nat.le_of_eq g17.symm))
  have u20 := (u15.wr W16)
  have ne_p0_b17 : p0 ≠ b17 := Nat.ne_of_lt (Nat.lt_of_lt_of_le u20.lt (Nat.le_of_eq g17.symm))
  have g_b17 : n0 ≤ b17 := Nat.le_trans Z16 (Nat.le_of_eq g17.symm)
  refine own_go st17 ?_
  have Z17 : n0 ≤ h17.size := Nat.le_trans Z16 E17.1
  have V17 := own_A.new A17 (N := 4) (by decide)
  show own_G p.tables e below _ (T17.setTop (mkF m 32 #[.val (.ref p0)] [(.ref b17), (.ref p0)]))
  have u21 := (((((((F_wa.other W2 (Or.inr (slot_ne (Or.inr (hw _ (List.mem_of_getElem? (i := 20) rfl))) (Or.inl (hw _ (List.mem_of_getElem? (i := 11) rfl))) (by decide) (t := (.array .int)) (t' := .int) (by decide) (by decide)))).other W5 (Or.inr (slot_ne (Or.inr (hw _ (List.mem_of_getElem? (i := 20) rfl))) (Or.inl (hw _ (List.mem_of_getElem? (i := 13) rfl))) (by decide) (t := (.array .int)) (t' := .int) (by decide) (by decide)))).ext E6).other W10 (Or.inr (slot_ne (Or.inr (hw _ (List.mem_of_getElem? (i := 20) rfl))) (Or.inr (hw _ (List.mem_of_getElem? (i := 16) rfl))) (by decide) (t := (.array .int)) (t' := (.array .int)) (by decide) (by decide)))).ext E11).other W16 (Or.inr (slot_ne (Or.inr (hw _ (List.mem_of_getElem? (i := 20) rfl))) (Or.inr (hw _ (List.mem_of_getElem? (i := 18) rfl))) (by decide) (t := (.array .int)) (t' := (.array .int)) (by decide) (by decide)))).ext E17)
  have u22 := (u20.ext E17)
  obtain ⟨T23, h23, X23, e23, W23, st23⟩ := putF X17 hx hZ hown (host := "") (Or.inl (hw _ (List.mem_of_getElem? (i := 19) rfl))) Via.refl e17 u21 u22 (Or.inr ⟨(hw _ (List.mem_of_getElem? (i := 20) rfl)), rfl, hnm⟩) (hw _ (List.mem_of_getElem? (i := 2) rfl)) (ty := (.array .int)) (by decide) rfl rfl (g := (mkF m 32 #[.val (.ref p0)] [(.ref b17), (.ref p0)])) rfl rfl (hb hby d1_32)
  refine own_go st23 ?_
  have N23 := Fr.snoc X23 N16 g0
  have Z23 : n0 ≤ h23.size := Nat.le_trans Z17 (Keep.of_wr W23).1
  have Fw23 := Fld.same W23 u21
  have u24 := (u22.wr W23)
  have u25 := (((((((Fw2.other W5 (Or.inr (slot_ne (Or.inl (hw _ (List.mem_of_getElem? (i := 11) rfl))) (Or.inl (hw _ (List.mem_of_getElem? (i := 13) rfl))) (by decide) (t := .int) (t' := .int) (by decide) (by decide)))).ext E6).other W10 (Or.inr (slot_ne (Or.inl (hw _ (List.mem_of_getElem? (i := 11) rfl))) (Or.inr (hw _ (List.mem_of_getElem? (i := 16) rfl))) (by decide) (t := .int) (t' := (.array .int)) (by decide) (by decide)))).ext E11).other W16 (Or.inr (slot_ne (Or.inl (hw _ (List.mem_of_getElem? (i := 11) rfl))) (Or.inr (hw _ (List.mem_of_getElem? (i := 18) rfl))) (by decide) (t := .int) (t' := (.array .int)) (by decide) (by decide)))).ext E17).other W23 (Or.inr (slot_ne (Or.inl (hw _ (List.mem_of_getElem? (i := 11) rfl))) (Or.inr (hw _ (List.mem_of_getElem? (i := 20) rfl))) (by decide) (t := .int) (t' := (.array .int)) (by decide) (by decide))))
  have u26 := ((((((Fw5.ext E6).other W10 (Or.inr (slot_ne (Or.inl (hw _ (List.mem_of_getElem? (i := 13) rfl))) (Or.inr (hw _ (List.mem_of_getElem? (i := 16) rfl))) (by decide) (t := .int) (t' := (.array .int)) (by decide) (by decide)))).ext E11).other W16 (Or.inr (slot_ne (Or.inl (hw _ (List.mem_of_getElem? (i := 13) rfl))) (Or.inr (hw _ (List.mem_of_getElem? (i := 18) rfl))) (by decide) (t := .int) (t' := (.array .int)) (by decide) (by decide)))).ext E17).other W23 (Or.inr (slot_ne (Or.inl (hw _ (List.mem_of_getElem? (i := 13) rfl))) (Or.inr (hw _ (List.mem_of_getElem? (i := 20) rfl))) (by decide) (t := .int) (t' := (.array .int)) (by decide) (by decide))))
  have u27 := ((((((((F_ad.other W2 (Or.inr (slot_ne (Or.inl (hw _ (List.mem_of_getElem? (i := 27) rfl))) (Or.inl (hw _ (List.mem_of_getElem? (i := 11) rfl))) (by decide) (t := .int) (t' := .int) (by decide) (by decide)))).other W5 (Or.inr (slot_ne (Or.inl (hw _ (List.mem_of_getElem? (i := 27) rfl))) (Or.inl (hw _ (List.mem_of_getElem? (i := 13) rfl))) (by decide) (t := .int) (t' := .int) (by decide) (by decide)))).ext E6).other W10 (Or.inr (slot_ne (Or.inl (hw _ (List.mem_of_getElem? (i := 27) rfl))) (Or.inr (hw _ (List.mem_of_getElem? (i := 16) rfl))) (by decide) (t := .int) (t' := (.array .int)) (by decide) (by decide)))).ext E11).other W16 (Or.inr (slot_ne (Or.inl (hw _ (List.mem_of_getElem? (i := 27) rfl))) (Or.inr (hw _ (List.mem_of_getElem? (i := 18) rfl))) (by decide) (t := .int) (t' := (.array .int)) (by decide) (by decide)))).ext E17).other W23 (Or.inr (slot_ne (Or.inl (hw _ (List.mem_of_getElem? (i := 27) rfl))) (Or.inr (hw _ (List.mem_of_getElem? (i := 20) rfl))) (by decide) (t := .int) (t' := (.array .int)) (by decide) (by decide))))
  have u28 := ((((((((F_ps.other W2 (Or.inr (slot_ne (Or.inl (hw _ (List.mem_of_getElem? (i := 29) rfl))) (Or.inl (hw _ (List.mem_of_getElem? (i := 11) rfl))) (by decide) (t := .int) (t' := .int) (by decide) (by decide)))).other W5 (Or.inr (slot_ne (Or.inl (hw _ (List.mem_of_getElem? (i := 29) rfl))) (Or.inl (hw _ (List.mem_of_getElem? (i := 13) rfl))) (by decide) (t := .int) (t' := .int) (by decide) (by decide)))).ext E6).other W10 (Or.inr (slot_ne (Or.inl (hw _ (List.mem_of_getElem? (i := 29) rfl))) (Or.inr (hw _ (List.mem_of_getElem? (i := 16) rfl))) (by decide) (t := .int) (t' := (.array .int)) (by decide) (by decide)))).ext E11).other W16 (Or.inr (slot_ne (Or.inl (hw _ (List.mem_of_getElem? (i := 29) rfl))) (Or.inr (hw _ (List.mem_of_getElem? (i := 18) rfl))) (by decide) (t := .int) (t' := (.array .int)) (by decide) (by decide)))).ext E17).other W23 (Or.inr (slot_ne (Or.inl (hw _ (List.mem_of_getElem? (i := 29) rfl))) (Or.inr (hw _ (List.mem_of_getElem? (i := 20) rfl))) (by decide) (t := .int) (t' := (.array .int)) (by decide) (by decide))))
  have u29 := ((((((((F_cr.other W2 (Or.inr (slot_ne (Or.inl (hw _ (List.mem_of_getElem? (i := 36) rfl))) (Or.inl (hw _ (List.mem_of_getElem? (i := 11) rfl))) (by decide) (t := .boolean) (t' := .int) (by decide) (by decide)))).other W5 (Or.inr (slot_ne (Or.inl (hw _ (List.mem_of_getElem? (i := 36) rfl))) (Or.inl (hw _ (List.mem_of_getElem? (i := 13) rfl))) (by decide) (t := .boolean) (t' := .int) (by decide) (by decide)))).ext E6).other W10 (Or.inr (slot_ne (Or.inl (hw _ (List.mem_of_getElem? (i := 36) rfl))) (Or.inr (hw _ (List.mem_of_getElem? (i := 16) rfl))) (by decide) (t := .boolean) (t' := (.array .int)) (by decide) (by decide)))).ext E11).other W16 (Or.inr (slot_ne (Or.inl (hw _ (List.mem_of_getElem? (i := 36) rfl))) (Or.inr (hw _ (List.mem_of_getElem? (i := 18) rfl))) (by decide) (t := .boolean) (t' := (.array .int)) (by decide) (by decide)))).ext E17).other W23 (Or.inr (slot_ne (Or.inl (hw _ (List.mem_of_getElem? (i := 36) rfl))) (Or.inr (hw _ (List.mem_of_getElem? (i := 20) rfl))) (by decide) (t := .boolean) (t' := (.array .int)) (by decide) (by decide))))
  have u30 := ((((((((F_xm.other W2 (Or.inr (slot_ne (Or.inl (hw _ (List.mem_of_getElem? (i := 43) rfl))) (Or.inl (hw _ (List.mem_of_getElem? (i := 11) rfl))) (by decide) (t := .boolean) (t' := .int) (by decide) (by decide)))).other W5 (Or.inr (slot_ne (Or.inl (hw _ (List.mem_of_getElem? (i := 43) rfl))) (Or.inl (hw _ (List.mem_of_getElem? (i := 13) rfl))) (by decide) (t := .boolean) (t' := .int) (by decide) (by decide)))).ext E6).other W10 (Or.inr (slot_ne (Or.inl (hw _ (List.mem_of_getElem? (i := 43) rfl))) (Or.inr (hw _ (List.mem_of_getElem? (i := 16) rfl))) (by decide) (t := .boolean) (t' := (.array .int)) (by decide) (by decide)))).ext E11).other W16 (Or.inr (slot_ne (Or.inl (hw _ (List.mem_of_getElem? (i := 43) rfl))) (Or.inr (hw _ (List.mem_of_getElem? (i := 18) rfl))) (by decide) (t := .boolean) (t' := (.array .int)) (by decide) (by decide)))).ext E17).other W23 (Or.inr (slot_ne (Or.inl (hw _ (List.mem_of_getElem? (i := 43) rfl))) (Or.inr (hw _ (List.mem_of_getElem? (i := 20) rfl))) (by decide) (t := .boolean) (t' := (.array .int)) (by decide) (by decide))))
  have u31 := ((((Fw10.ext E11).other W16 (Or.inr (slot_ne (Or.inr (hw _ (List.mem_of_getElem? (i := 16) rfl))) (Or.inr (hw _ (List.mem_of_getElem? (i := 18) rfl))) (by decide) (t := (.array .int)) (t' := (.array .int)) (by decide) (by decide)))).ext E17).other W23 (Or.inr (slot_ne (Or.inr (hw _ (List.mem_of_getElem? (i := 16) rfl))) (Or.inr (hw _ (List.mem_of_getElem? (i := 20) rfl))) (by decide) (t := (.array .int)) (t' := (.array .int)) (by decide) (by decide))))
  have u32 := ((Fw16.ext E17).other W23 (Or.inr (slot_ne (Or.inr (hw _ (List.mem_of_getElem? (i := 18) rfl))) (Or.inr (hw _ (List.mem_of_getElem? (i := 20) rfl))) (by decide) (t := (.array .int)) (t' := (.array .int)) (by decide) (by decide))))
  have u33 := ((u19.ext E17).other W23 (Ne.symm ne_p0_b6))
  have u34 := ((u18.ext E17).other W23 (Ne.symm ne_p0_b11))
  have u35 := (V17.other W23 (Ne.symm ne_p0_b17))
  show own_G p.tables e below _ (T23.setTop (mkF m 35 #[.val (.ref p0)] []))
  exact own_retV X23 hx Bd.returns hlk (hb hby d1_35) (Nat.le_of_ble_eq_true rfl) (Nat.le_of_ble_eq_true rfl) e23 ⟨rfl, N23, Z23, _, _, _, ⟨u24, u25, u26, u27, u28, u29, u30, u31, u32, Fw23, u33, u34, u35, ne_p0_b6, ne_p0_b11, ne_p0_b17, ne_b6_b11, ne_b6_b17, ne_b11_b17, g0, g_b6, g_b11, g_b17⟩⟩
theorem d3_0 : decode prog_43_method_8_code 0 = .ok (.aload_n 0, 1) := by decide +kernel
theorem d3_1 : decode prog_43_method_8_code 1 = .ok (.dup, 1) := by decide +kernel
theorem d3_2 : decode prog_43_method_8_code 2 = .ok (.getfield 13, 3) := by decide +kernel
theorem d3_5 : decode prog_43_method_8_code 5 = .ok (.iload_n 1, 1) := by decide +kernel
theorem d3_6 : decode prog_43_method_8_code 6 = .ok (.iadd, 1) := by decide +kernel
theorem d3_7 : decode prog_43_method_8_code 7 = .ok (.putfield 13, 3) := by decide +kernel
theorem d3_10 : decode prog_43_method_8_code 10 = .ok (.aload_n 0, 1) := by decide +kernel
theorem d3_11 : decode prog_43_method_8_code 11 = .ok (.dup, 1) := by decide +kernel
theorem d3_12 : decode prog_43_method_8_code 12 = .ok (.getfield 40, 3) := by decide +kernel
theorem d3_15 : decode prog_43_method_8_code 15 = .ok (.iload_n 1, 1) := by decide +kernel
theorem d3_16 : decode prog_43_method_8_code 16 = .ok (.iadd, 1) := by decide +kernel
theorem d3_17 : decode prog_43_method_8_code 17 = .ok (.putfield 40, 3) := by decide +kernel
theorem d3_20 : decode prog_43_method_8_code 20 = .ok (.aload_n 0, 1) := by decide +kernel
theorem d3_21 : decode prog_43_method_8_code 21 = .ok (.dup, 1) := by decide +kernel
theorem d3_22 : decode prog_43_method_8_code 22 = .ok (.getfield 43, 3) := by decide +kernel
theorem d3_25 : decode prog_43_method_8_code 25 = .ok (.dup_x1, 1) := by decide +kernel
theorem d3_26 : decode prog_43_method_8_code 26 = .ok (.iconst 1, 1) := by decide +kernel
theorem d3_27 : decode prog_43_method_8_code 27 = .ok (.iadd, 1) := by decide +kernel
theorem d3_28 : decode prog_43_method_8_code 28 = .ok (.putfield 43, 3) := by decide +kernel
theorem d3_31 : decode prog_43_method_8_code 31 = .ok (.iconst 4, 1) := by decide +kernel
theorem d3_32 : decode prog_43_method_8_code 32 = .ok (.irem, 1) := by decide +kernel
theorem d3_33 : decode prog_43_method_8_code 33 = .ok (.istore_n 2, 1) := by decide +kernel
theorem d3_34 : decode prog_43_method_8_code 34 = .ok (.aload_n 0, 1) := by decide +kernel
theorem d3_35 : decode prog_43_method_8_code 35 = .ok (.getfield 16, 3) := by decide +kernel
theorem d3_38 : decode prog_43_method_8_code 38 = .ok (.iload_n 2, 1) := by decide +kernel
theorem d3_39 : decode prog_43_method_8_code 39 = .ok (.aload_n 0, 1) := by decide +kernel
theorem d3_40 : decode prog_43_method_8_code 40 = .ok (.getfield 7, 3) := by decide +kernel
theorem d3_43 : decode prog_43_method_8_code 43 = .ok (.iastore, 1) := by decide +kernel
theorem d3_44 : decode prog_43_method_8_code 44 = .ok (.aload_n 0, 1) := by decide +kernel
theorem d3_45 : decode prog_43_method_8_code 45 = .ok (.getfield 20, 3) := by decide +kernel
theorem d3_48 : decode prog_43_method_8_code 48 = .ok (.iload_n 2, 1) := by decide +kernel
theorem d3_49 : decode prog_43_method_8_code 49 = .ok (.aload_n 0, 1) := by decide +kernel
theorem d3_50 : decode prog_43_method_8_code 50 = .ok (.getfield 13, 3) := by decide +kernel
theorem d3_53 : decode prog_43_method_8_code 53 = .ok (.iastore, 1) := by decide +kernel
theorem d3_54 : decode prog_43_method_8_code 54 = .ok (.aload_n 0, 1) := by decide +kernel
theorem d3_55 : decode prog_43_method_8_code 55 = .ok (.getfield 23, 3) := by decide +kernel
theorem d3_58 : decode prog_43_method_8_code 58 = .ok (.iload_n 2, 1) := by decide +kernel
theorem d3_59 : decode prog_43_method_8_code 59 = .ok (.aload_n 0, 1) := by decide +kernel
theorem d3_60 : decode prog_43_method_8_code 60 = .ok (.getfield 40, 3) := by decide +kernel
theorem d3_63 : decode prog_43_method_8_code 63 = .ok (.iastore, 1) := by decide +kernel
theorem d3_64 : decode prog_43_method_8_code 64 = .ok (.return_, 1) := by decide +kernel
theorem ef_put (m : MethodId) (p0 : Addr) (p1 : Int32) : entryFrame m #[(.ref p0), (.int p1)] 3 = mkF m 0 #[.val (.ref p0), .val (.int p1), .unset] [] := by first | (simp [entryFrame, mkF, argsToLocals, Value.category]; done) | rfl
def Q_put (Z : State) (p0 : Addr) (p1 : Int32) (wl : Addr) (wc : Addr) (wa : Addr) (ln : Int32) (cl : Int32) (ad : Int32) (ps : Int32) (cr : Int32) (xm : Int32) (f : Nat → Int32) (g : Nat → Int32) (k : Nat → Int32) (h0 : Heap) (n0 : Nat) (v : Option Value) (h : Heap) (L : List Loc) : Prop := v = none ∧ Fr n0 L ∧ n0 ≤ h.size ∧ own_P Z h n0 p0 wl wc wa ln (cl + p1) (ad + p1) (ps + 1) cr xm (own_updI f (ps % (4 : Int32)).toNatClampNeg ln) (own_updI g (ps % (4 : Int32)).toNatClampNeg (cl + p1)) (own_updI k (ps % (4 : Int32)).toNatClampNeg (ad + p1))
set_option maxRecDepth 65536 in
set_option maxHeartbeats 40000000 in
theorem rm_put (l : Launch) (Z : State) (a0 : Array Value) (hw : ∀ d ∈ tables_1, d.before a0 Z = true) (ws : List Jvm.Cond) (p0 : Addr) (p1 : Int32) (wl : Addr) (wc : Addr) (wa : Addr) (ln : Int32) (cl : Int32) (ad : Int32) (ps : Int32) (cr : Int32) (xm : Int32) (f : Nat → Int32) (g : Nat → Int32) (k : Nat → Int32) (h0 : Heap) (n0 : Nat) (Z0 : n0 ≤ h0.size) (P : own_P Z h0 n0 p0 wl wc wa ln cl ad ps cr xm f g k) (hps : 0 ≤ ps.toInt) :
    MetFree l (⟨"polytsia/marcxml/Place", "put", "(I)V"⟩ : MethodName) (head1 (Jvm.Cond.code (⟨"polytsia/marcxml/Place", "put", "(I)V"⟩ : MethodName) prog_43_method_8_code 3 none :: ws) ({ frames := 0, cells := 0, slots := 0, locals := 0 } : Room)) (fun a U => a = #[(.ref p0), (.int p1)] ∧ Z.Warmed39 U.vm ∧ U.heap = h0) (fun _ _ _ _ _ => True) (fun _ U o U' => ∃ v L, o = .returned v ∧ Q_put Z p0 p1 wl wc wa ln cl ad ps cr xm f g k h0 n0 v U'.heap L ∧ FrameEnd U o U' L ({ frames := 0, cells := 0, slots := 0, locals := 0 } : Room).cells ({ frames := 0, cells := 0, slots := 0, locals := 0 } : Room).slots) := by
  refine MetFree.of_bodySF (plainFor_of_name pn_polytsia_marcxml_Place) hisR ?_
  intro p e s m args below meth kc s₁ Bd hml0 hP hK
  obtain ⟨rfl, hZ, hh⟩ := hP
  have hx := Bd.exec
  have hby := Bd.bytes
  have hlk := Bd.notSynchronized
  have hml : kc.maxLocals = 3 := hml0
  have hown : s.vm.findClass "polytsia/marcxml/Place" = some m.cls := findClass_of_methodNamed Bd.named
  have hnm := (name_of_methodNamed Bd.named Bd.method).1
  have X0 : Stand p l e ({ frames := 0, cells := 0, slots := 0, locals := 0 } : Room) s m #[(.ref p0), (.int p1)] below meth kc s₁ [] 0 0 := Stand.of_body Bd
  have e0 : s₁.heap = h0 := by rw [← hh, Bd.state]; rfl
  have N0 := Fr.nil n0
  show own_G p.tables e below (own_E below s ({ frames := 0, cells := 0, slots := 0, locals := 0 } : Room).cells ({ frames := 0, cells := 0, slots := 0, locals := 0 } : Room).slots (Q_put Z p0 p1 wl wc wa ln cl ad ps cr xm f g k h0 n0)) _
  refine own_go (fun _ k => castTop (ef_put m p0 p1) k) ?_
  obtain ⟨E_, F_ln, F_cl, F_ad, F_ps, F_cr, F_xm, F_wl, F_wc, F_wa, V_l, V_c, V_a, nb1, nb2, nb3, n12, n13, n23, gb, gl, gc, ga⟩ := P
  have hi := own_rem4 hps
  show own_G p.tables e below _ (s₁.setTop (mkF m 0 #[.val (.ref p0), .val (.int p1), .unset] []))
  refine own_go (fun _ kt => XS.aloadN X0.here hx rfl (hb hby d3_0) rfl rfl kt) ?_
  show own_G p.tables e below _ (s₁.setTop (mkF m 1 #[.val (.ref p0), .val (.int p1), .unset] [(.ref p0)]))
  refine own_go (fun _ kt => XS.dup X0.here hx rfl (hb hby d3_1) rfl rfl kt) ?_
  show own_G p.tables e below _ (s₁.setTop (mkF m 2 #[.val (.ref p0), .val (.int p1), .unset] [(.ref p0), (.ref p0)]))
  obtain ⟨T36, X36, e36, st36⟩ := getF X0 hx hZ hown (host := "") (Or.inl (hw _ (List.mem_of_getElem? (i := 12) rfl))) Via.refl e0 F_cl (g := (mkF m 2 #[.val (.ref p0), .val (.int p1), .unset] [(.ref p0), (.ref p0)])) rfl rfl (hb hby d3_2)
  refine own_go st36 ?_
  show own_G p.tables e below _ (T36.setTop (mkF m 5 #[.val (.ref p0), .val (.int p1), .unset] [(.int cl), (.ref p0)]))
  refine own_go (fun _ kt => XS.iloadN X36.here hx rfl (hb hby d3_5) rfl kt) ?_
  show own_G p.tables e below _ (T36.setTop (mkF m 6 #[.val (.ref p0), .val (.int p1), .unset] [(.int p1), (.int cl), (.ref p0)]))
  refine own_go (fun _ kt => XS.iadd X36.here hx rfl (hb hby d3_6) rfl kt) ?_
  show own_G p.tables e below _ (T36.setTop (mkF m 7 #[.val (.ref p0), .val (.int p1), .unset] [(.int (cl + p1)), (.ref p0)]))
  obtain ⟨T37, h37, X37, e37, W37, st37⟩ := putF X36 hx hZ hown (host := "") (Or.inl (hw _ (List.mem_of_getElem? (i := 12) rfl))) Via.refl e36 F_cl E_ (Or.inl (hw _ (List.mem_of_getElem? (i := 13) rfl))) (hw _ (List.mem_of_getElem? (i := 2) rfl)) (ty := .int) (by decide) rfl rfl (g := (mkF m 7 #[.val (.ref p0), .val (.int p1), .unset] [(.int (cl + p1)), (.ref p0)])) rfl rfl (hb hby d3_7)
  refine own_go st37 ?_
  have N37 := Fr.snoc X37 N0 gb
  have Z37 : n0 ≤ h37.size := Nat.le_trans Z0 (Keep.of_wr W37).1
  have Fw37 := Fld.same W37 F_cl
  show own_G p.tables e below _ (T37.setTop (mkF m 10 #[.val (.ref p0), .val (.int p1), .unset] []))
  refine own_go (fun _ kt => XS.aloadN X37.here hx rfl (hb hby d3_10) rfl rfl kt) ?_
  show own_G p.tables e below _ (T37.setTop (mkF m 11 #[.val (.ref p0), .val (.int p1), .unset] [(.ref p0)]))
  refine own_go (fun _ kt => XS.dup X37.here hx rfl (hb hby d3_11) rfl rfl kt) ?_
  show own_G p.tables e below _ (T37.setTop (mkF m 12 #[.val (.ref p0), .val (.int p1), .unset] [(.ref p0), (.ref p0)]))
  have u38 := (F_ad.other W37 (Or.inr (slot_ne (Or.inl (hw _ (List.mem_of_getElem? (i := 27) rfl))) (Or.inl (hw _ (List.mem_of_getElem? (i := 13) rfl))) (by decide) (t := .int) (t' := .int) (by decide) (by decide))))
  obtain ⟨T39, X39, e39, st39⟩ := getF X37 hx hZ hown (host := "") (Or.inl (hw _ (List.mem_of_getElem? (i := 26) rfl))) Via.refl e37 u38 (g := (mkF m 12 #[.val (.ref p0), .val (.int p1), .unset] [(.ref p0), (.ref p0)])) rfl rfl (hb hby d3_12)
  refine own_go st39 ?_
  show own_G p.tables e below _ (T39.setTop (mkF m 15 #[.val (.ref p0), .val (.int p1), .unset] [(.int ad), (.ref p0)]))
  refine own_go (fun _ kt => XS.iloadN X39.here hx rfl (hb hby d3_15) rfl kt) ?_
  show own_G p.tables e below _ (T39.setTop (mkF m 16 #[.val (.ref p0), .val (.int p1), .unset] [(.int p1), (.int ad), (.ref p0)]))
  refine own_go (fun _ kt => XS.iadd X39.here hx rfl (hb hby d3_16) rfl kt) ?_
  show own_G p.tables e below _ (T39.setTop (mkF m 17 #[.val (.ref p0), .val (.int p1), .unset] [(.int (ad + p1)), (.ref p0)]))
  have u40 := (E_.wr W37)
  obtain ⟨T41, h41, X41, e41, W41, st41⟩ := putF X39 hx hZ hown (host := "") (Or.inl (hw _ (List.mem_of_getElem? (i := 26) rfl))) Via.refl e39 u38 u40 (Or.inl (hw _ (List.mem_of_getElem? (i := 27) rfl))) (hw _ (List.mem_of_getElem? (i := 2) rfl)) (ty := .int) (by decide) rfl rfl (g := (mkF m 17 #[.val (.ref p0), .val (.int p1), .unset] [(.int (ad + p1)), (.ref p0)])) rfl rfl (hb hby d3_17)
  refine own_go st41 ?_
  have N41 := Fr.snoc X41 N37 gb
  have Z41 : n0 ≤ h41.size := Nat.le_trans Z37 (Keep.of_wr W41).1
  have Fw41 := Fld.same W41 u38
  show own_G p.tables e below _ (T41.setTop (mkF m 20 #[.val (.ref p0), .val (.int p1), .unset] []))
  refine own_go (fun _ kt => XS.aloadN X41.here hx rfl (hb hby d3_20) rfl rfl kt) ?_
  show own_G p.tables e below _ (T41.setTop (mkF m 21 #[.val (.ref p0), .val (.int p1), .unset] [(.ref p0)]))
  refine own_go (fun _ kt => XS.dup X41.here hx rfl (hb hby d3_21) rfl rfl kt) ?_
  show own_G p.tables e below _ (T41.setTop (mkF m 22 #[.val (.ref p0), .val (.int p1), .unset] [(.ref p0), (.ref p0)]))
  have u42 := ((F_ps.other W37 (Or.inr (slot_ne (Or.inl (hw _ (List.mem_of_getElem? (i := 29) rfl))) (Or.inl (hw _ (List.mem_of_getElem? (i := 13) rfl))) (by decide) (t := .int) (t' := .int) (by decide) (by decide)))).other W41 (Or.inr (slot_ne (Or.inl (hw _ (List.mem_of_getElem? (i := 29) rfl))) (Or.inl (hw _ (List.mem_of_getElem? (i := 27) rfl))) (by decide) (t := .int) (t' := .int) (by decide) (by decide))))
  obtain ⟨T43, X43, e43, st43⟩ := getF X41 hx hZ hown (host := "") (Or.inl (hw _ (List.mem_of_getElem? (i := 28) rfl))) Via.refl e41 u42 (g := (mkF m 22 #[.val (.ref p0), .val (.int p1), .unset] [(.ref p0), (.ref p0)])) rfl rfl (hb hby d3_22)
  refine own_go st43 ?_
  show own_G p.tables e below _ (T43.setTop (mkF m 25 #[.val (.ref p0), .val (.int p1), .unset] [(.int ps), (.ref p0)]))
  refine own_go (fun _ kt => XS.dupX1 X43.here hx rfl (hb hby d3_25) rfl rfl rfl kt) ?_
  show own_G p.tables e below _ (T43.setTop (mkF m 26 #[.val (.ref p0), .val (.int p1), .unset] [(.int ps), (.ref p0), (.int ps)]))
  refine own_go (fun _ kt => XS.iconst X43.here hx rfl (hb hby d3_26) kt) ?_
  show own_G p.tables e below _ (T43.setTop (mkF m 27 #[.val (.ref p0), .val (.int p1), .unset] [(.int (1 : Int32)), (.int ps), (.ref p0), (.int ps)]))
  refine own_go (fun _ kt => XS.iadd X43.here hx rfl (hb hby d3_27) rfl kt) ?_
  show own_G p.tables e below _ (T43.setTop (mkF m 28 #[.val (.ref p0), .val (.int p1), .unset] [(.int (ps + (1 : Int32))), (.ref p0), (.int ps)]))
  have u44 := (u40.wr W41)
  obtain ⟨T45, h45, X45, e45, W45, st45⟩ := putF X43 hx hZ hown (host := "") (Or.inl (hw _ (List.mem_of_getElem? (i := 28) rfl))) Via.refl e43 u42 u44 (Or.inl (hw _ (List.mem_of_getElem? (i := 29) rfl))) (hw _ (List.mem_of_getElem? (i := 2) rfl)) (ty := .int) (by decide) rfl rfl (g := (mkF m 28 #[.val (.ref p0), .val (.int p1), .unset] [(.int (ps + (1 : Int32))), (.ref p0), (.int ps)])) rfl rfl (hb hby d3_28)
  refine own_go st45 ?_
  have N45 := Fr.snoc X45 N41 gb
  have Z45 : n0 ≤ h45.size := Nat.le_trans Z41 (Keep.of_wr W45).1
  have Fw45 := Fld.same W45 u42
  show own_G p.tables e below _ (T45.setTop (mkF m 31 #[.val (.ref p0), .val (.int p1), .unset] [(.int ps)]))
  refine own_go (fun _ kt => XS.iconst X45.here hx rfl (hb hby d3_31) kt) ?_
  show own_G p.tables e below _ (T45.setTop (mkF m 32 #[.val (.ref p0), .val (.int p1), .unset] [(.int (4 : Int32)), (.int ps)]))
  refine own_go (fun _ kt => XS.irem X45.here hx rfl (hb hby d3_32) rfl (by decide) kt) ?_
  rw [own_irem]
  show own_G p.tables e below _ (T45.setTop (mkF m 33 #[.val (.ref p0), .val (.int p1), .unset] [(.int (ps % (4 : Int32)))]))
  refine own_go (fun _ kt => XS.istoreN X45.here hx rfl (hb hby d3_33) rfl (l' := #[.val (.ref p0), .val (.int p1), .val (.int (ps % (4 : Int32)))]) rfl kt) ?_
  show own_G p.tables e below _ (T45.setTop (mkF m 34 #[.val (.ref p0), .val (.int p1), .val (.int (ps % (4 : Int32)))] []))
  refine own_go (fun _ kt => XS.aloadN X45.here hx rfl (hb hby d3_34) rfl rfl kt) ?_
  show own_G p.tables e below _ (T45.setTop (mkF m 35 #[.val (.ref p0), .val (.int p1), .val (.int (ps % (4 : Int32)))] [(.ref p0)]))
  have u46 := (((F_wl.other W37 (Or.inr (slot_ne (Or.inr (hw _ (List.mem_of_getElem? (i := 16) rfl))) (Or.inl (hw _ (List.mem_of_getElem? (i := 13) rfl))) (by decide) (t := (.array .int)) (t' := .int) (by decide) (by decide)))).other W41 (Or.inr (slot_ne (Or.inr (hw _ (List.mem_of_getElem? (i := 16) rfl))) (Or.inl (hw _ (List.mem_of_getElem? (i := 27) rfl))) (by decide) (t := (.array .int)) (t' := .int) (by decide) (by decide)))).other W45 (Or.inr (slot_ne (Or.inr (hw _ (List.mem_of_getElem? (i := 16) rfl))) (Or.inl (hw _ (List.mem_of_getElem? (i := 29) rfl))) (by decide) (t := (.array .int)) (t' := .int) (by decide) (by decide))))
  obtain ⟨T47, X47, e47, st47⟩ := getF X45 hx hZ hown (host := "") (Or.inl (hw _ (List.mem_of_getElem? (i := 15) rfl))) Via.refl e45 u46 (g := (mkF m 35 #[.val (.ref p0), .val (.int p1), .val (.int (ps % (4 : Int32)))] [(.ref p0)])) rfl rfl (hb hby d3_35)
  refine own_go st47 ?_
  show own_G p.tables e below _ (T47.setTop (mkF m 38 #[.val (.ref p0), .val (.int p1), .val (.int (ps % (4 : Int32)))] [(.ref wl)]))
  refine own_go (fun _ kt => XS.iloadN X47.here hx rfl (hb hby d3_38) rfl kt) ?_
  show own_G p.tables e below _ (T47.setTop (mkF m 39 #[.val (.ref p0), .val (.int p1), .val (.int (ps % (4 : Int32)))] [(.int (ps % (4 : Int32))), (.ref wl)]))
  refine own_go (fun _ kt => XS.aloadN X47.here hx rfl (hb hby d3_39) rfl rfl kt) ?_
  show own_G p.tables e below _ (T47.setTop (mkF m 40 #[.val (.ref p0), .val (.int p1), .val (.int (ps % (4 : Int32)))] [(.ref p0), (.int (ps % (4 : Int32))), (.ref wl)]))
  have u48 := (((F_ln.other W37 (Or.inr (slot_ne (Or.inl (hw _ (List.mem_of_getElem? (i := 11) rfl))) (Or.inl (hw _ (List.mem_of_getElem? (i := 13) rfl))) (by decide) (t := .int) (t' := .int) (by decide) (by decide)))).other W41 (Or.inr (slot_ne (Or.inl (hw _ (List.mem_of_getElem? (i := 11) rfl))) (Or.inl (hw _ (List.mem_of_getElem? (i := 27) rfl))) (by decide) (t := .int) (t' := .int) (by decide) (by decide)))).other W45 (Or.inr (slot_ne (Or.inl (hw _ (List.mem_of_getElem? (i := 11) rfl))) (Or.inl (hw _ (List.mem_of_getElem? (i := 29) rfl))) (by decide) (t := .int) (t' := .int) (by decide) (by decide))))
  obtain ⟨T49, X49, e49, st49⟩ := getF X47 hx hZ hown (host := "") (Or.inl (hw _ (List.mem_of_getElem? (i := 10) rfl))) Via.refl e47 u48 (g := (mkF m 40 #[.val (.ref p0), .val (.int p1), .val (.int (ps % (4 : Int32)))] [(.ref p0), (.int (ps % (4 : Int32))), (.ref wl)])) rfl rfl (hb hby d3_40)
  refine own_go st49 ?_
  show own_G p.tables e below _ (T49.setTop (mkF m 43 #[.val (.ref p0), .val (.int p1), .val (.int (ps % (4 : Int32)))] [(.int ln), (.int (ps % (4 : Int32))), (.ref wl)]))
  have u50 := (((V_l.other W37 (Ne.symm nb1)).other W41 (Ne.symm nb1)).other W45 (Ne.symm nb1))
  obtain ⟨T51, h51, X51, e51, W51, V51, st51⟩ := own_stI X49 hx hZ e49 u50 (j := (ps % (4 : Int32))) hi.1 hi.2.1 (g := (mkF m 43 #[.val (.ref p0), .val (.int p1), .val (.int (ps % (4 : Int32)))] [(.int ln), (.int (ps % (4 : Int32))), (.ref wl)])) rfl rfl (hb hby d3_43)
  refine own_go st51 ?_
  have N51 := Fr.snoc X51 N45 gl
  have Z51 : n0 ≤ h51.size := Nat.le_trans Z45 (Keep.of_wr W51).1
  rw [own_upd_int] at V51
  show own_G p.tables e below _ (T51.setTop (mkF m 44 #[.val (.ref p0), .val (.int p1), .val (.int (ps % (4 : Int32)))] []))
  refine own_go (fun _ kt => XS.aloadN X51.here hx rfl (hb hby d3_44) rfl rfl kt) ?_
  show own_G p.tables e below _ (T51.setTop (mkF m 45 #[.val (.ref p0), .val (.int p1), .val (.int (ps % (4 : Int32)))] [(.ref p0)]))
  have u52 := ((((F_wc.other W37 (Or.inr (slot_ne (Or.inr (hw _ (List.mem_of_getElem? (i := 18) rfl))) (Or.inl (hw _ (List.mem_of_getElem? (i := 13) rfl))) (by decide) (t := (.array .int)) (t' := .int) (by decide) (by decide)))).other W41 (Or.inr (slot_ne (Or.inr (hw _ (List.mem_of_getElem? (i := 18) rfl))) (Or.inl (hw _ (List.mem_of_getElem? (i := 27) rfl))) (by decide) (t := (.array .int)) (t' := .int) (by decide) (by decide)))).other W45 (Or.inr (slot_ne (Or.inr (hw _ (List.mem_of_getElem? (i := 18) rfl))) (Or.inl (hw _ (List.mem_of_getElem? (i := 29) rfl))) (by decide) (t := (.array .int)) (t' := .int) (by decide) (by decide)))).other W51 (Or.inl nb1))
  obtain ⟨T53, X53, e53, st53⟩ := getF X51 hx hZ hown (host := "") (Or.inl (hw _ (List.mem_of_getElem? (i := 17) rfl))) Via.refl e51 u52 (g := (mkF m 45 #[.val (.ref p0), .val (.int p1), .val (.int (ps % (4 : Int32)))] [(.ref p0)])) rfl rfl (hb hby d3_45)
  refine own_go st53 ?_
  show own_G p.tables e below _ (T53.setTop (mkF m 48 #[.val (.ref p0), .val (.int p1), .val (.int (ps % (4 : Int32)))] [(.ref wc)]))
  refine own_go (fun _ kt => XS.iloadN X53.here hx rfl (hb hby d3_48) rfl kt) ?_
  show own_G p.tables e below _ (T53.setTop (mkF m 49 #[.val (.ref p0), .val (.int p1), .val (.int (ps % (4 : Int32)))] [(.int (ps % (4 : Int32))), (.ref wc)]))
  refine own_go (fun _ kt => XS.aloadN X53.here hx rfl (hb hby d3_49) rfl rfl kt) ?_
  show own_G p.tables e below _ (T53.setTop (mkF m 50 #[.val (.ref p0), .val (.int p1), .val (.int (ps % (4 : Int32)))] [(.ref p0), (.int (ps % (4 : Int32))), (.ref wc)]))
  have u54 := (((Fw37.other W41 (Or.inr (slot_ne (Or.inl (hw _ (List.mem_of_getElem? (i := 13) rfl))) (Or.inl (hw _ (List.mem_of_getElem? (i := 27) rfl))) (by decide) (t := .int) (t' := .int) (by decide) (by decide)))).other W45 (Or.inr (slot_ne (Or.inl (hw _ (List.mem_of_getElem? (i := 13) rfl))) (Or.inl (hw _ (List.mem_of_getElem? (i := 29) rfl))) (by decide) (t := .int) (t' := .int) (by decide) (by decide)))).other W51 (Or.inl nb1))
  obtain ⟨T55, X55, e55, st55⟩ := getF X53 hx hZ hown (host := "") (Or.inl (hw _ (List.mem_of_getElem? (i := 12) rfl))) Via.refl e53 u54 (g := (mkF m 50 #[.val (.ref p0), .val (.int p1), .val (.int (ps % (4 : Int32)))] [(.ref p0), (.int (ps % (4 : Int32))), (.ref wc)])) rfl rfl (hb hby d3_50)
  refine own_go st55 ?_
  show own_G p.tables e below _ (T55.setTop (mkF m 53 #[.val (.ref p0), .val (.int p1), .val (.int (ps % (4 : Int32)))] [(.int (cl + p1)), (.int (ps % (4 : Int32))), (.ref wc)]))
  have u56 := ((((V_c.other W37 (Ne.symm nb2)).other W41 (Ne.symm nb2)).other W45 (Ne.symm nb2)).other W51 (Ne.symm n12))
  obtain ⟨T57, h57, X57, e57, W57, V57, st57⟩ := own_stI X55 hx hZ e55 u56 (j := (ps % (4 : Int32))) hi.1 hi.2.1 (g := (mkF m 53 #[.val (.ref p0), .val (.int p1), .val (.int (ps % (4 : Int32)))] [(.int (cl + p1)), (.int (ps % (4 : Int32))), (.ref wc)])) rfl rfl (hb hby d3_53)
  refine own_go st57 ?_
  have N57 := Fr.snoc X57 N51 gc
  have Z57 : n0 ≤ h57.size := Nat.le_trans Z51 (Keep.of_wr W57).1
  rw [own_upd_int] at V57
  show own_G p.tables e below _ (T57.setTop (mkF m 54 #[.val (.ref p0), .val (.int p1), .val (.int (ps % (4 : Int32)))] []))
  refine own_go (fun _ kt => XS.aloadN X57.here hx rfl (hb hby d3_54) rfl rfl kt) ?_
  show own_G p.tables e below _ (T57.setTop (mkF m 55 #[.val (.ref p0), .val (.int p1), .val (.int (ps % (4 : Int32)))] [(.ref p0)]))
  have u58 := (((((F_wa.other W37 (Or.inr (slot_ne (Or.inr (hw _ (List.mem_of_getElem? (i := 20) rfl))) (Or.inl (hw _ (List.mem_of_getElem? (i := 13) rfl))) (by decide) (t := (.array .int)) (t' := .int) (by decide) (by decide)))).other W41 (Or.inr (slot_ne (Or.inr (hw _ (List.mem_of_getElem? (i := 20) rfl))) (Or.inl (hw _ (List.mem_of_getElem? (i := 27) rfl))) (by decide) (t := (.array .int)) (t' := .int) (by decide) (by decide)))).other W45 (Or.inr (slot_ne (Or.inr (hw _ (List.mem_of_getElem? (i := 20) rfl))) (Or.inl (hw _ (List.mem_of_getElem? (i := 29) rfl))) (by decide) (t := (.array .int)) (t' := .int) (by decide) (by decide)))).other W51 (Or.inl nb1)).other W57 (Or.inl nb2))
  obtain ⟨T59, X59, e59, st59⟩ := getF X57 hx hZ hown (host := "") (Or.inl (hw _ (List.mem_of_getElem? (i := 19) rfl))) Via.refl e57 u58 (g := (mkF m 55 #[.val (.ref p0), .val (.int p1), .val (.int (ps % (4 : Int32)))] [(.ref p0)])) rfl rfl (hb hby d3_55)
  refine own_go st59 ?_
  show own_G p.tables e below _ (T59.setTop (mkF m 58 #[.val (.ref p0), .val (.int p1), .val (.int (ps % (4 : Int32)))] [(.ref wa)]))
  refine own_go (fun _ kt => XS.iloadN X59.here hx rfl (hb hby d3_58) rfl kt) ?_
  show own_G p.tables e below _ (T59.setTop (mkF m 59 #[.val (.ref p0), .val (.int p1), .val (.int (ps % (4 : Int32)))] [(.int (ps % (4 : Int32))), (.ref wa)]))
  refine own_go (fun _ kt => XS.aloadN X59.here hx rfl (hb hby d3_59) rfl rfl kt) ?_
  show own_G p.tables e below _ (T59.setTop (mkF m 60 #[.val (.ref p0), .val (.int p1), .val (.int (ps % (4 : Int32)))] [(.ref p0), (.int (ps % (4 : Int32))), (.ref wa)]))
  have u60 := (((Fw41.other W45 (Or.inr (slot_ne (Or.inl (hw _ (List.mem_of_getElem? (i := 27) rfl))) (Or.inl (hw _ (List.mem_of_getElem? (i := 29) rfl))) (by decide) (t := .int) (t' := .int) (by decide) (by decide)))).other W51 (Or.inl nb1)).other W57 (Or.inl nb2))
  obtain ⟨T61, X61, e61, st61⟩ := getF X59 hx hZ hown (host := "") (Or.inl (hw _ (List.mem_of_getElem? (i := 26) rfl))) Via.refl e59 u60 (g := (mkF m 60 #[.val (.ref p0), .val (.int p1), .val (.int (ps % (4 : Int32)))] [(.ref p0), (.int (ps % (4 : Int32))), (.ref wa)])) rfl rfl (hb hby d3_60)
  refine own_go st61 ?_
  show own_G p.tables e below _ (T61.setTop (mkF m 63 #[.val (.ref p0), .val (.int p1), .val (.int (ps % (4 : Int32)))] [(.int (ad + p1)), (.int (ps % (4 : Int32))), (.ref wa)]))
  have u62 := (((((V_a.other W37 (Ne.symm nb3)).other W41 (Ne.symm nb3)).other W45 (Ne.symm nb3)).other W51 (Ne.symm n13)).other W57 (Ne.symm n23))
  obtain ⟨T63, h63, X63, e63, W63, V63, st63⟩ := own_stI X61 hx hZ e61 u62 (j := (ps % (4 : Int32))) hi.1 hi.2.1 (g := (mkF m 63 #[.val (.ref p0), .val (.int p1), .val (.int (ps % (4 : Int32)))] [(.int (ad + p1)), (.int (ps % (4 : Int32))), (.ref wa)])) rfl rfl (hb hby d3_63)
  refine own_go st63 ?_
  have N63 := Fr.snoc X63 N57 ga
  have Z63 : n0 ≤ h63.size := Nat.le_trans Z57 (Keep.of_wr W63).1
  rw [own_upd_int] at V63
  have u64 := ((((u44.wr W45).wr W51).wr W57).wr W63)
  have u65 := (((u48.other W51 (Or.inl nb1)).other W57 (Or.inl nb2)).other W63 (Or.inl nb3))
  have u66 := ((u54.other W57 (Or.inl nb2)).other W63 (Or.inl nb3))
  have u67 := (u60.other W63 (Or.inl nb3))
  have u68 := (((Fw45.other W51 (Or.inl nb1)).other W57 (Or.inl nb2)).other W63 (Or.inl nb3))
  have u69 := ((((((F_cr.other W37 (Or.inr (slot_ne (Or.inl (hw _ (List.mem_of_getElem? (i := 36) rfl))) (Or.inl (hw _ (List.mem_of_getElem? (i := 13) rfl))) (by decide) (t := .boolean) (t' := .int) (by decide) (by decide)))).other W41 (Or.inr (slot_ne (Or.inl (hw _ (List.mem_of_getElem? (i := 36) rfl))) (Or.inl (hw _ (List.mem_of_getElem? (i := 27) rfl))) (by decide) (t := .boolean) (t' := .int) (by decide) (by decide)))).other W45 (Or.inr (slot_ne (Or.inl (hw _ (List.mem_of_getElem? (i := 36) rfl))) (Or.inl (hw _ (List.mem_of_getElem? (i := 29) rfl))) (by decide) (t := .boolean) (t' := .int) (by decide) (by decide)))).other W51 (Or.inl nb1)).other W57 (Or.inl nb2)).other W63 (Or.inl nb3))
  have u70 := ((((((F_xm.other W37 (Or.inr (slot_ne (Or.inl (hw _ (List.mem_of_getElem? (i := 43) rfl))) (Or.inl (hw _ (List.mem_of_getElem? (i := 13) rfl))) (by decide) (t := .boolean) (t' := .int) (by decide) (by decide)))).other W41 (Or.inr (slot_ne (Or.inl (hw _ (List.mem_of_getElem? (i := 43) rfl))) (Or.inl (hw _ (List.mem_of_getElem? (i := 27) rfl))) (by decide) (t := .boolean) (t' := .int) (by decide) (by decide)))).other W45 (Or.inr (slot_ne (Or.inl (hw _ (List.mem_of_getElem? (i := 43) rfl))) (Or.inl (hw _ (List.mem_of_getElem? (i := 29) rfl))) (by decide) (t := .boolean) (t' := .int) (by decide) (by decide)))).other W51 (Or.inl nb1)).other W57 (Or.inl nb2)).other W63 (Or.inl nb3))
  have u71 := (((u46.other W51 (Or.inl nb1)).other W57 (Or.inl nb2)).other W63 (Or.inl nb3))
  have u72 := ((u52.other W57 (Or.inl nb2)).other W63 (Or.inl nb3))
  have u73 := (u58.other W63 (Or.inl nb3))
  have u74 := ((V51.other W57 n12).other W63 n13)
  have u75 := (V57.other W63 n23)
  show own_G p.tables e below _ (T63.setTop (mkF m 64 #[.val (.ref p0), .val (.int p1), .val (.int (ps % (4 : Int32)))] []))
  exact own_retV X63 hx Bd.returns hlk (hb hby d3_64) (Nat.le_of_ble_eq_true rfl) (Nat.le_of_ble_eq_true rfl) e63 ⟨rfl, N63, Z63, ⟨u64, u65, u66, u67, u68, u69, u70, u71, u72, u73, u74, u75, V63, nb1, nb2, nb3, n12, n13, n23, gb, gl, gc, ga⟩⟩
theorem d4_0 : decode prog_43_method_7_code 0 = .ok (.aload_n 0, 1) := by decide +kernel
theorem d4_1 : decode prog_43_method_7_code 1 = .ok (.dup, 1) := by decide +kernel
theorem d4_2 : decode prog_43_method_7_code 2 = .ok (.getfield 13, 3) := by decide +kernel
theorem d4_5 : decode prog_43_method_7_code 5 = .ok (.iload_n 1, 1) := by decide +kernel
theorem d4_6 : decode prog_43_method_7_code 6 = .ok (.iadd, 1) := by decide +kernel
theorem d4_7 : decode prog_43_method_7_code 7 = .ok (.putfield 13, 3) := by decide +kernel
theorem d4_10 : decode prog_43_method_7_code 10 = .ok (.aload_n 0, 1) := by decide +kernel
theorem d4_11 : decode prog_43_method_7_code 11 = .ok (.iconst 0, 1) := by decide +kernel
theorem d4_12 : decode prog_43_method_7_code 12 = .ok (.putfield 34, 3) := by decide +kernel
theorem d4_15 : decode prog_43_method_7_code 15 = .ok (.return_, 1) := by decide +kernel
theorem ef_pass1 (m : MethodId) (p0 : Addr) (p1 : Int32) : entryFrame m #[(.ref p0), (.int p1)] 2 = mkF m 0 #[.val (.ref p0), .val (.int p1)] [] := by first | (simp [entryFrame, mkF, argsToLocals, Value.category]; done) | rfl
def Q_pass1 (Z : State) (p0 : Addr) (p1 : Int32) (wl : Addr) (wc : Addr) (wa : Addr) (ln : Int32) (cl : Int32) (ad : Int32) (ps : Int32) (cr : Int32) (xm : Int32) (f : Nat → Int32) (g : Nat → Int32) (k : Nat → Int32) (h0 : Heap) (n0 : Nat) (v : Option Value) (h : Heap) (L : List Loc) : Prop := v = none ∧ Fr n0 L ∧ n0 ≤ h.size ∧ own_P Z h n0 p0 wl wc wa ln (cl + p1) ad ps 0 xm f g k
set_option maxRecDepth 65536 in
set_option maxHeartbeats 40000000 in
theorem rm_pass1 (l : Launch) (Z : State) (a0 : Array Value) (hw : ∀ d ∈ tables_1, d.before a0 Z = true) (ws : List Jvm.Cond) (p0 : Addr) (p1 : Int32) (wl : Addr) (wc : Addr) (wa : Addr) (ln : Int32) (cl : Int32) (ad : Int32) (ps : Int32) (cr : Int32) (xm : Int32) (f : Nat → Int32) (g : Nat → Int32) (k : Nat → Int32) (h0 : Heap) (n0 : Nat) (Z0 : n0 ≤ h0.size) (P : own_P Z h0 n0 p0 wl wc wa ln cl ad ps cr xm f g k) :
    MetFree l (⟨"polytsia/marcxml/Place", "pass", "(I)V"⟩ : MethodName) (head1 (Jvm.Cond.code (⟨"polytsia/marcxml/Place", "pass", "(I)V"⟩ : MethodName) prog_43_method_7_code 2 none :: ws) ({ frames := 0, cells := 0, slots := 0, locals := 0 } : Room)) (fun a U => a = #[(.ref p0), (.int p1)] ∧ Z.Warmed39 U.vm ∧ U.heap = h0) (fun _ _ _ _ _ => True) (fun _ U o U' => ∃ v L, o = .returned v ∧ Q_pass1 Z p0 p1 wl wc wa ln cl ad ps cr xm f g k h0 n0 v U'.heap L ∧ FrameEnd U o U' L ({ frames := 0, cells := 0, slots := 0, locals := 0 } : Room).cells ({ frames := 0, cells := 0, slots := 0, locals := 0 } : Room).slots) := by
  refine MetFree.of_bodySF (plainFor_of_name pn_polytsia_marcxml_Place) hisR ?_
  intro p e s m args below meth kc s₁ Bd hml0 hP hK
  obtain ⟨rfl, hZ, hh⟩ := hP
  have hx := Bd.exec
  have hby := Bd.bytes
  have hlk := Bd.notSynchronized
  have hml : kc.maxLocals = 2 := hml0
  have hown : s.vm.findClass "polytsia/marcxml/Place" = some m.cls := findClass_of_methodNamed Bd.named
  have hnm := (name_of_methodNamed Bd.named Bd.method).1
  have X0 : Stand p l e ({ frames := 0, cells := 0, slots := 0, locals := 0 } : Room) s m #[(.ref p0), (.int p1)] below meth kc s₁ [] 0 0 := Stand.of_body Bd
  have e0 : s₁.heap = h0 := by rw [← hh, Bd.state]; rfl
  have N0 := Fr.nil n0
  show own_G p.tables e below (own_E below s ({ frames := 0, cells := 0, slots := 0, locals := 0 } : Room).cells ({ frames := 0, cells := 0, slots := 0, locals := 0 } : Room).slots (Q_pass1 Z p0 p1 wl wc wa ln cl ad ps cr xm f g k h0 n0)) _
  refine own_go (fun _ k => castTop (ef_pass1 m p0 p1) k) ?_
  obtain ⟨E_, F_ln, F_cl, F_ad, F_ps, F_cr, F_xm, F_wl, F_wc, F_wa, V_l, V_c, V_a, nb1, nb2, nb3, n12, n13, n23, gb, gl, gc, ga⟩ := P
  show own_G p.tables e below _ (s₁.setTop (mkF m 0 #[.val (.ref p0), .val (.int p1)] []))
  refine own_go (fun _ kt => XS.aloadN X0.here hx rfl (hb hby d4_0) rfl rfl kt) ?_
  show own_G p.tables e below _ (s₁.setTop (mkF m 1 #[.val (.ref p0), .val (.int p1)] [(.ref p0)]))
  refine own_go (fun _ kt => XS.dup X0.here hx rfl (hb hby d4_1) rfl rfl kt) ?_
  show own_G p.tables e below _ (s₁.setTop (mkF m 2 #[.val (.ref p0), .val (.int p1)] [(.ref p0), (.ref p0)]))
  obtain ⟨T76, X76, e76, st76⟩ := getF X0 hx hZ hown (host := "") (Or.inl (hw _ (List.mem_of_getElem? (i := 12) rfl))) Via.refl e0 F_cl (g := (mkF m 2 #[.val (.ref p0), .val (.int p1)] [(.ref p0), (.ref p0)])) rfl rfl (hb hby d4_2)
  refine own_go st76 ?_
  show own_G p.tables e below _ (T76.setTop (mkF m 5 #[.val (.ref p0), .val (.int p1)] [(.int cl), (.ref p0)]))
  refine own_go (fun _ kt => XS.iloadN X76.here hx rfl (hb hby d4_5) rfl kt) ?_
  show own_G p.tables e below _ (T76.setTop (mkF m 6 #[.val (.ref p0), .val (.int p1)] [(.int p1), (.int cl), (.ref p0)]))
  refine own_go (fun _ kt => XS.iadd X76.here hx rfl (hb hby d4_6) rfl kt) ?_
  show own_G p.tables e below _ (T76.setTop (mkF m 7 #[.val (.ref p0), .val (.int p1)] [(.int (cl + p1)), (.ref p0)]))
  obtain ⟨T77, h77, X77, e77, W77, st77⟩ := putF X76 hx hZ hown (host := "") (Or.inl (hw _ (List.mem_of_getElem? (i := 12) rfl))) Via.refl e76 F_cl E_ (Or.inl (hw _ (List.mem_of_getElem? (i := 13) rfl))) (hw _ (List.mem_of_getElem? (i := 2) rfl)) (ty := .int) (by decide) rfl rfl (g := (mkF m 7 #[.val (.ref p0), .val (.int p1)] [(.int (cl + p1)), (.ref p0)])) rfl rfl (hb hby d4_7)
  refine own_go st77 ?_
  have N77 := Fr.snoc X77 N0 gb
  have Z77 : n0 ≤ h77.size := Nat.le_trans Z0 (Keep.of_wr W77).1
  have Fw77 := Fld.same W77 F_cl
  show own_G p.tables e below _ (T77.setTop (mkF m 10 #[.val (.ref p0), .val (.int p1)] []))
  refine own_go (fun _ kt => XS.aloadN X77.here hx rfl (hb hby d4_10) rfl rfl kt) ?_
  show own_G p.tables e below _ (T77.setTop (mkF m 11 #[.val (.ref p0), .val (.int p1)] [(.ref p0)]))
  refine own_go (fun _ kt => XS.iconst X77.here hx rfl (hb hby d4_11) kt) ?_
  show own_G p.tables e below _ (T77.setTop (mkF m 12 #[.val (.ref p0), .val (.int p1)] [(.int (0 : Int32)), (.ref p0)]))
  have u78 := (F_cr.other W77 (Or.inr (slot_ne (Or.inl (hw _ (List.mem_of_getElem? (i := 36) rfl))) (Or.inl (hw _ (List.mem_of_getElem? (i := 13) rfl))) (by decide) (t := .boolean) (t' := .int) (by decide) (by decide))))
  have u79 := (E_.wr W77)
  obtain ⟨T80, h80, X80, e80, W80, st80⟩ := putFN X77 hx hZ hown (hw _ (List.mem_of_getElem? (i := 35) rfl)) Via.refl e77 u78 u79 (Or.inl (hw _ (List.mem_of_getElem? (i := 36) rfl))) (hw _ (List.mem_of_getElem? (i := 2) rfl)) (ty := .boolean) (v' := (.int (0 : Int32))) (by decide) rfl rfl (g := (mkF m 12 #[.val (.ref p0), .val (.int p1)] [(.int (0 : Int32)), (.ref p0)])) rfl rfl (hb hby d4_12)
  refine own_go st80 ?_
  have N80 := Fr.snoc X80 N77 gb
  have Z80 : n0 ≤ h80.size := Nat.le_trans Z77 (Keep.of_wr W80).1
  have Fw80 := Fld.same W80 u78
  have u81 := (u79.wr W80)
  have u82 := ((F_ln.other W77 (Or.inr (slot_ne (Or.inl (hw _ (List.mem_of_getElem? (i := 11) rfl))) (Or.inl (hw _ (List.mem_of_getElem? (i := 13) rfl))) (by decide) (t := .int) (t' := .int) (by decide) (by decide)))).other W80 (Or.inr (slot_ne (Or.inl (hw _ (List.mem_of_getElem? (i := 11) rfl))) (Or.inl (hw _ (List.mem_of_getElem? (i := 36) rfl))) (by decide) (t := .int) (t' := .boolean) (by decide) (by decide))))
  have u83 := (Fw77.other W80 (Or.inr (slot_ne (Or.inl (hw _ (List.mem_of_getElem? (i := 13) rfl))) (Or.inl (hw _ (List.mem_of_getElem? (i := 36) rfl))) (by decide) (t := .int) (t' := .boolean) (by decide) (by decide))))
  have u84 := ((F_ad.other W77 (Or.inr (slot_ne (Or.inl (hw _ (List.mem_of_getElem? (i := 27) rfl))) (Or.inl (hw _ (List.mem_of_getElem? (i := 13) rfl))) (by decide) (t := .int) (t' := .int) (by decide) (by decide)))).other W80 (Or.inr (slot_ne (Or.inl (hw _ (List.mem_of_getElem? (i := 27) rfl))) (Or.inl (hw _ (List.mem_of_getElem? (i := 36) rfl))) (by decide) (t := .int) (t' := .boolean) (by decide) (by decide))))
  have u85 := ((F_ps.other W77 (Or.inr (slot_ne (Or.inl (hw _ (List.mem_of_getElem? (i := 29) rfl))) (Or.inl (hw _ (List.mem_of_getElem? (i := 13) rfl))) (by decide) (t := .int) (t' := .int) (by decide) (by decide)))).other W80 (Or.inr (slot_ne (Or.inl (hw _ (List.mem_of_getElem? (i := 29) rfl))) (Or.inl (hw _ (List.mem_of_getElem? (i := 36) rfl))) (by decide) (t := .int) (t' := .boolean) (by decide) (by decide))))
  have u86 := ((F_xm.other W77 (Or.inr (slot_ne (Or.inl (hw _ (List.mem_of_getElem? (i := 43) rfl))) (Or.inl (hw _ (List.mem_of_getElem? (i := 13) rfl))) (by decide) (t := .boolean) (t' := .int) (by decide) (by decide)))).other W80 (Or.inr (slot_ne (Or.inl (hw _ (List.mem_of_getElem? (i := 43) rfl))) (Or.inl (hw _ (List.mem_of_getElem? (i := 36) rfl))) (by decide) (t := .boolean) (t' := .boolean) (by decide) (by decide))))
  have u87 := ((F_wl.other W77 (Or.inr (slot_ne (Or.inr (hw _ (List.mem_of_getElem? (i := 16) rfl))) (Or.inl (hw _ (List.mem_of_getElem? (i := 13) rfl))) (by decide) (t := (.array .int)) (t' := .int) (by decide) (by decide)))).other W80 (Or.inr (slot_ne (Or.inr (hw _ (List.mem_of_getElem? (i := 16) rfl))) (Or.inl (hw _ (List.mem_of_getElem? (i := 36) rfl))) (by decide) (t := (.array .int)) (t' := .boolean) (by decide) (by decide))))
  have u88 := ((F_wc.other W77 (Or.inr (slot_ne (Or.inr (hw _ (List.mem_of_getElem? (i := 18) rfl))) (Or.inl (hw _ (List.mem_of_getElem? (i := 13) rfl))) (by decide) (t := (.array .int)) (t' := .int) (by decide) (by decide)))).other W80 (Or.inr (slot_ne (Or.inr (hw _ (List.mem_of_getElem? (i := 18) rfl))) (Or.inl (hw _ (List.mem_of_getElem? (i := 36) rfl))) (by decide) (t := (.array .int)) (t' := .boolean) (by decide) (by decide))))
  have u89 := ((F_wa.other W77 (Or.inr (slot_ne (Or.inr (hw _ (List.mem_of_getElem? (i := 20) rfl))) (Or.inl (hw _ (List.mem_of_getElem? (i := 13) rfl))) (by decide) (t := (.array .int)) (t' := .int) (by decide) (by decide)))).other W80 (Or.inr (slot_ne (Or.inr (hw _ (List.mem_of_getElem? (i := 20) rfl))) (Or.inl (hw _ (List.mem_of_getElem? (i := 36) rfl))) (by decide) (t := (.array .int)) (t' := .boolean) (by decide) (by decide))))
  have u90 := ((V_l.other W77 (Ne.symm nb1)).other W80 (Ne.symm nb1))
  have u91 := ((V_c.other W77 (Ne.symm nb2)).other W80 (Ne.symm nb2))
  have u92 := ((V_a.other W77 (Ne.symm nb3)).other W80 (Ne.symm nb3))
  show own_G p.tables e below _ (T80.setTop (mkF m 15 #[.val (.ref p0), .val (.int p1)] []))
  exact own_retV X80 hx Bd.returns hlk (hb hby d4_15) (Nat.le_of_ble_eq_true rfl) (Nat.le_of_ble_eq_true rfl) e80 ⟨rfl, N80, Z80, ⟨u81, u82, u83, u84, u85, Fw80, u86, u87, u88, u89, u90, u91, u92, nb1, nb2, nb3, n12, n13, n23, gb, gl, gc, ga⟩⟩
theorem d6_0 : decode prog_43_method_12_code 0 = .ok (.aload_n 0, 1) := by decide +kernel
theorem d6_1 : decode prog_43_method_12_code 1 = .ok (.dup, 1) := by decide +kernel
theorem d6_2 : decode prog_43_method_12_code 2 = .ok (.getfield 7, 3) := by decide +kernel
theorem d6_5 : decode prog_43_method_12_code 5 = .ok (.iconst 1, 1) := by decide +kernel
theorem d6_6 : decode prog_43_method_12_code 6 = .ok (.iadd, 1) := by decide +kernel
theorem d6_7 : decode prog_43_method_12_code 7 = .ok (.putfield 7, 3) := by decide +kernel
theorem d6_10 : decode prog_43_method_12_code 10 = .ok (.aload_n 0, 1) := by decide +kernel
theorem d6_11 : decode prog_43_method_12_code 11 = .ok (.iconst 1, 1) := by decide +kernel
theorem d6_12 : decode prog_43_method_12_code 12 = .ok (.putfield 13, 3) := by decide +kernel
theorem d6_15 : decode prog_43_method_12_code 15 = .ok (.aload_n 0, 1) := by decide +kernel
theorem d6_16 : decode prog_43_method_12_code 16 = .ok (.iconst 0, 1) := by decide +kernel
theorem d6_17 : decode prog_43_method_12_code 17 = .ok (.putfield 40, 3) := by decide +kernel
theorem d6_20 : decode prog_43_method_12_code 20 = .ok (.return_, 1) := by decide +kernel
theorem ef_nl (m : MethodId) (p0 : Addr) : entryFrame m #[(.ref p0)] 1 = mkF m 0 #[.val (.ref p0)] [] := by first | (simp [entryFrame, mkF, argsToLocals, Value.category]; done) | rfl
def Q_nl (Z : State) (p0 : Addr) (wl : Addr) (wc : Addr) (wa : Addr) (ln : Int32) (cl : Int32) (ad : Int32) (ps : Int32) (cr : Int32) (xm : Int32) (f : Nat → Int32) (g : Nat → Int32) (k : Nat → Int32) (h0 : Heap) (n0 : Nat) (v : Option Value) (h : Heap) (L : List Loc) : Prop := v = none ∧ Fr n0 L ∧ n0 ≤ h.size ∧ own_P Z h n0 p0 wl wc wa (ln + 1) 1 0 ps cr xm f g k
set_option maxRecDepth 65536 in
set_option maxHeartbeats 40000000 in
theorem rm_nl (l : Launch) (Z : State) (a0 : Array Value) (hw : ∀ d ∈ tables_1, d.before a0 Z = true) (ws : List Jvm.Cond) (p0 : Addr) (wl : Addr) (wc : Addr) (wa : Addr) (ln : Int32) (cl : Int32) (ad : Int32) (ps : Int32) (cr : Int32) (xm : Int32) (f : Nat → Int32) (g : Nat → Int32) (k : Nat → Int32) (h0 : Heap) (n0 : Nat) (Z0 : n0 ≤ h0.size) (P : own_P Z h0 n0 p0 wl wc wa ln cl ad ps cr xm f g k) :
    MetFree l (⟨"polytsia/marcxml/Place", "newLine", "()V"⟩ : MethodName) (head1 (Jvm.Cond.code (⟨"polytsia/marcxml/Place", "newLine", "()V"⟩ : MethodName) prog_43_method_12_code 1 none :: ws) ({ frames := 0, cells := 0, slots := 0, locals := 0 } : Room)) (fun a U => a = #[(.ref p0)] ∧ Z.Warmed39 U.vm ∧ U.heap = h0) (fun _ _ _ _ _ => True) (fun _ U o U' => ∃ v L, o = .returned v ∧ Q_nl Z p0 wl wc wa ln cl ad ps cr xm f g k h0 n0 v U'.heap L ∧ FrameEnd U o U' L ({ frames := 0, cells := 0, slots := 0, locals := 0 } : Room).cells ({ frames := 0, cells := 0, slots := 0, locals := 0 } : Room).slots) := by
  refine MetFree.of_bodySF (plainFor_of_name pn_polytsia_marcxml_Place) hisR ?_
  intro p e s m args below meth kc s₁ Bd hml0 hP hK
  obtain ⟨rfl, hZ, hh⟩ := hP
  have hx := Bd.exec
  have hby := Bd.bytes
  have hlk := Bd.notSynchronized
  have hml : kc.maxLocals = 1 := hml0
  have hown : s.vm.findClass "polytsia/marcxml/Place" = some m.cls := findClass_of_methodNamed Bd.named
  have hnm := (name_of_methodNamed Bd.named Bd.method).1
  have X0 : Stand p l e ({ frames := 0, cells := 0, slots := 0, locals := 0 } : Room) s m #[(.ref p0)] below meth kc s₁ [] 0 0 := Stand.of_body Bd
  have e0 : s₁.heap = h0 := by rw [← hh, Bd.state]; rfl
  have N0 := Fr.nil n0
  show own_G p.tables e below (own_E below s ({ frames := 0, cells := 0, slots := 0, locals := 0 } : Room).cells ({ frames := 0, cells := 0, slots := 0, locals := 0 } : Room).slots (Q_nl Z p0 wl wc wa ln cl ad ps cr xm f g k h0 n0)) _
  refine own_go (fun _ k => castTop (ef_nl m p0) k) ?_
  obtain ⟨E_, F_ln, F_cl, F_ad, F_ps, F_cr, F_xm, F_wl, F_wc, F_wa, V_l, V_c, V_a, nb1, nb2, nb3, n12, n13, n23, gb, gl, gc, ga⟩ := P
  show own_G p.tables e below _ (s₁.setTop (mkF m 0 #[.val (.ref p0)] []))
  refine own_go (fun _ kt => XS.aloadN X0.here hx rfl (hb hby d6_0) rfl rfl kt) ?_
  show own_G p.tables e below _ (s₁.setTop (mkF m 1 #[.val (.ref p0)] [(.ref p0)]))
  refine own_go (fun _ kt => XS.dup X0.here hx rfl (hb hby d6_1) rfl rfl kt) ?_
  show own_G p.tables e below _ (s₁.setTop (mkF m 2 #[.val (.ref p0)] [(.ref p0), (.ref p0)]))
  obtain ⟨T93, X93, e93, st93⟩ := getF X0 hx hZ hown (host := "") (Or.inl (hw _ (List.mem_of_getElem? (i := 10) rfl))) Via.refl e0 F_ln (g := (mkF m 2 #[.val (.ref p0)] [(.ref p0), (.ref p0)])) rfl rfl (hb hby d6_2)
  refine own_go st93 ?_
  show own_G p.tables e below _ (T93.setTop (mkF m 5 #[.val (.ref p0)] [(.int ln), (.ref p0)]))
  refine own_go (fun _ kt => XS.iconst X93.here hx rfl (hb hby d6_5) kt) ?_
  show own_G p.tables e below _ (T93.setTop (mkF m 6 #[.val (.ref p0)] [(.int (1 : Int32)), (.int ln), (.ref p0)]))
  refine own_go (fun _ kt => XS.iadd X93.here hx rfl (hb hby d6_6) rfl kt) ?_
  show own_G p.tables e below _ (T93.setTop (mkF m 7 #[.val (.ref p0)] [(.int (ln + (1 : Int32))), (.ref p0)]))
  obtain ⟨T94, h94, X94, e94, W94, st94⟩ := putF X93 hx hZ hown (host := "") (Or.inl (hw _ (List.mem_of_getElem? (i := 10) rfl))) Via.refl e93 F_ln E_ (Or.inl (hw _ (List.mem_of_getElem? (i := 11) rfl))) (hw _ (List.mem_of_getElem? (i := 2) rfl)) (ty := .int) (by decide) rfl rfl (g := (mkF m 7 #[.val (.ref p0)] [(.int (ln + (1 : Int32))), (.ref p0)])) rfl rfl (hb hby d6_7)
  refine own_go st94 ?_
  have N94 := Fr.snoc X94 N0 gb
  have Z94 : n0 ≤ h94.size := Nat.le_trans Z0 (Keep.of_wr W94).1
  have Fw94 := Fld.same W94 F_ln
  show own_G p.tables e below _ (T94.setTop (mkF m 10 #[.val (.ref p0)] []))
  refine own_go (fun _ kt => XS.aloadN X94.here hx rfl (hb hby d6_10) rfl rfl kt) ?_
  show own_G p.tables e below _ (T94.setTop (mkF m 11 #[.val (.ref p0)] [(.ref p0)]))
  refine own_go (fun _ kt => XS.iconst X94.here hx rfl (hb hby d6_11) kt) ?_
  show own_G p.tables e below _ (T94.setTop (mkF m 12 #[.val (.ref p0)] [(.int (1 : Int32)), (.ref p0)]))
  have u95 := (F_cl.other W94 (Or.inr (slot_ne (Or.inl (hw _ (List.mem_of_getElem? (i := 13) rfl))) (Or.inl (hw _ (List.mem_of_getElem? (i := 11) rfl))) (by decide) (t := .int) (t' := .int) (by decide) (by decide))))
  have u96 := (E_.wr W94)
  obtain ⟨T97, h97, X97, e97, W97, st97⟩ := putF X94 hx hZ hown (host := "") (Or.inl (hw _ (List.mem_of_getElem? (i := 12) rfl))) Via.refl e94 u95 u96 (Or.inl (hw _ (List.mem_of_getElem? (i := 13) rfl))) (hw _ (List.mem_of_getElem? (i := 2) rfl)) (ty := .int) (by decide) rfl rfl (g := (mkF m 12 #[.val (.ref p0)] [(.int (1 : Int32)), (.ref p0)])) rfl rfl (hb hby d6_12)
  refine own_go st97 ?_
  have N97 := Fr.snoc X97 N94 gb
  have Z97 : n0 ≤ h97.size := Nat.le_trans Z94 (Keep.of_wr W97).1
  have Fw97 := Fld.same W97 u95
  show own_G p.tables e below _ (T97.setTop (mkF m 15 #[.val (.ref p0)] []))
  refine own_go (fun _ kt => XS.aloadN X97.here hx rfl (hb hby d6_15) rfl rfl kt) ?_
  show own_G p.tables e below _ (T97.setTop (mkF m 16 #[.val (.ref p0)] [(.ref p0)]))
  refine own_go (fun _ kt => XS.iconst X97.here hx rfl (hb hby d6_16) kt) ?_
  show own_G p.tables e below _ (T97.setTop (mkF m 17 #[.val (.ref p0)] [(.int (0 : Int32)), (.ref p0)]))
  have u98 := ((F_ad.other W94 (Or.inr (slot_ne (Or.inl (hw _ (List.mem_of_getElem? (i := 27) rfl))) (Or.inl (hw _ (List.mem_of_getElem? (i := 11) rfl))) (by decide) (t := .int) (t' := .int) (by decide) (by decide)))).other W97 (Or.inr (slot_ne (Or.inl (hw _ (List.mem_of_getElem? (i := 27) rfl))) (Or.inl (hw _ (List.mem_of_getElem? (i := 13) rfl))) (by decide) (t := .int) (t' := .int) (by decide) (by decide))))
  have u99 := (u96.wr W97)
  obtain ⟨T100, h100, X100, e100, W100, st100⟩ := putF X97 hx hZ hown (host := "") (Or.inl (hw _ (List.mem_of_getElem? (i := 26) rfl))) Via.refl e97 u98 u99 (Or.inl (hw _ (List.mem_of_getElem? (i := 27) rfl))) (hw _ (List.mem_of_getElem? (i := 2) rfl)) (ty := .int) (by decide) rfl rfl (g := (mkF m 17 #[.val (.ref p0)] [(.int (0 : Int32)), (.ref p0)])) rfl rfl (hb hby d6_17)
  refine own_go st100 ?_
  have N100 := Fr.snoc X100 N97 gb
  have Z100 : n0 ≤ h100.size := Nat.le_trans Z97 (Keep.of_wr W100).1
  have Fw100 := Fld.same W100 u98
  have u101 := (u99.wr W100)
  have u102 := ((Fw94.other W97 (Or.inr (slot_ne (Or.inl (hw _ (List.mem_of_getElem? (i := 11) rfl))) (Or.inl (hw _ (List.mem_of_getElem? (i := 13) rfl))) (by decide) (t := .int) (t' := .int) (by decide) (by decide)))).other W100 (Or.inr (slot_ne (Or.inl (hw _ (List.mem_of_getElem? (i := 11) rfl))) (Or.inl (hw _ (List.mem_of_getElem? (i := 27) rfl))) (by decide) (t := .int) (t' := .int) (by decide) (by decide))))
  have u103 := (Fw97.other W100 (Or.inr (slot_ne (Or.inl (hw _ (List.mem_of_getElem? (i := 13) rfl))) (Or.inl (hw _ (List.mem_of_getElem? (i := 27) rfl))) (by decide) (t := .int) (t' := .int) (by decide) (by decide))))
  have u104 := (((F_ps.other W94 (Or.inr (slot_ne (Or.inl (hw _ (List.mem_of_getElem? (i := 29) rfl))) (Or.inl (hw _ (List.mem_of_getElem? (i := 11) rfl))) (by decide) (t := .int) (t' := .int) (by decide) (by decide)))).other W97 (Or.inr (slot_ne (Or.inl (hw _ (List.mem_of_getElem? (i := 29) rfl))) (Or.inl (hw _ (List.mem_of_getElem? (i := 13) rfl))) (by decide) (t := .int) (t' := .int) (by decide) (by decide)))).other W100 (Or.inr (slot_ne (Or.inl (hw _ (List.mem_of_getElem? (i := 29) rfl))) (Or.inl (hw _ (List.mem_of_getElem? (i := 27) rfl))) (by decide) (t := .int) (t' := .int) (by decide) (by decide))))
  have u105 := (((F_cr.other W94 (Or.inr (slot_ne (Or.inl (hw _ (List.mem_of_getElem? (i := 36) rfl))) (Or.inl (hw _ (List.mem_of_getElem? (i := 11) rfl))) (by decide) (t := .boolean) (t' := .int) (by decide) (by decide)))).other W97 (Or.inr (slot_ne (Or.inl (hw _ (List.mem_of_getElem? (i := 36) rfl))) (Or.inl (hw _ (List.mem_of_getElem? (i := 13) rfl))) (by decide) (t := .boolean) (t' := .int) (by decide) (by decide)))).other W100 (Or.inr (slot_ne (Or.inl (hw _ (List.mem_of_getElem? (i := 36) rfl))) (Or.inl (hw _ (List.mem_of_getElem? (i := 27) rfl))) (by decide) (t := .boolean) (t' := .int) (by decide) (by decide))))
  have u106 := (((F_xm.other W94 (Or.inr (slot_ne (Or.inl (hw _ (List.mem_of_getElem? (i := 43) rfl))) (Or.inl (hw _ (List.mem_of_getElem? (i := 11) rfl))) (by decide) (t := .boolean) (t' := .int) (by decide) (by decide)))).other W97 (Or.inr (slot_ne (Or.inl (hw _ (List.mem_of_getElem? (i := 43) rfl))) (Or.inl (hw _ (List.mem_of_getElem? (i := 13) rfl))) (by decide) (t := .boolean) (t' := .int) (by decide) (by decide)))).other W100 (Or.inr (slot_ne (Or.inl (hw _ (List.mem_of_getElem? (i := 43) rfl))) (Or.inl (hw _ (List.mem_of_getElem? (i := 27) rfl))) (by decide) (t := .boolean) (t' := .int) (by decide) (by decide))))
  have u107 := (((F_wl.other W94 (Or.inr (slot_ne (Or.inr (hw _ (List.mem_of_getElem? (i := 16) rfl))) (Or.inl (hw _ (List.mem_of_getElem? (i := 11) rfl))) (by decide) (t := (.array .int)) (t' := .int) (by decide) (by decide)))).other W97 (Or.inr (slot_ne (Or.inr (hw _ (List.mem_of_getElem? (i := 16) rfl))) (Or.inl (hw _ (List.mem_of_getElem? (i := 13) rfl))) (by decide) (t := (.array .int)) (t' := .int) (by decide) (by decide)))).other W100 (Or.inr (slot_ne (Or.inr (hw _ (List.mem_of_getElem? (i := 16) rfl))) (Or.inl (hw _ (List.mem_of_getElem? (i := 27) rfl))) (by decide) (t := (.array .int)) (t' := .int) (by decide) (by decide))))
  have u108 := (((F_wc.other W94 (Or.inr (slot_ne (Or.inr (hw _ (List.mem_of_getElem? (i := 18) rfl))) (Or.inl (hw _ (List.mem_of_getElem? (i := 11) rfl))) (by decide) (t := (.array .int)) (t' := .int) (by decide) (by decide)))).other W97 (Or.inr (slot_ne (Or.inr (hw _ (List.mem_of_getElem? (i := 18) rfl))) (Or.inl (hw _ (List.mem_of_getElem? (i := 13) rfl))) (by decide) (t := (.array .int)) (t' := .int) (by decide) (by decide)))).other W100 (Or.inr (slot_ne (Or.inr (hw _ (List.mem_of_getElem? (i := 18) rfl))) (Or.inl (hw _ (List.mem_of_getElem? (i := 27) rfl))) (by decide) (t := (.array .int)) (t' := .int) (by decide) (by decide))))
  have u109 := (((F_wa.other W94 (Or.inr (slot_ne (Or.inr (hw _ (List.mem_of_getElem? (i := 20) rfl))) (Or.inl (hw _ (List.mem_of_getElem? (i := 11) rfl))) (by decide) (t := (.array .int)) (t' := .int) (by decide) (by decide)))).other W97 (Or.inr (slot_ne (Or.inr (hw _ (List.mem_of_getElem? (i := 20) rfl))) (Or.inl (hw _ (List.mem_of_getElem? (i := 13) rfl))) (by decide) (t := (.array .int)) (t' := .int) (by decide) (by decide)))).other W100 (Or.inr (slot_ne (Or.inr (hw _ (List.mem_of_getElem? (i := 20) rfl))) (Or.inl (hw _ (List.mem_of_getElem? (i := 27) rfl))) (by decide) (t := (.array .int)) (t' := .int) (by decide) (by decide))))
  have u110 := (((V_l.other W94 (Ne.symm nb1)).other W97 (Ne.symm nb1)).other W100 (Ne.symm nb1))
  have u111 := (((V_c.other W94 (Ne.symm nb2)).other W97 (Ne.symm nb2)).other W100 (Ne.symm nb2))
  have u112 := (((V_a.other W94 (Ne.symm nb3)).other W97 (Ne.symm nb3)).other W100 (Ne.symm nb3))
  show own_G p.tables e below _ (T100.setTop (mkF m 20 #[.val (.ref p0)] []))
  exact own_retV X100 hx Bd.returns hlk (hb hby d6_20) (Nat.le_of_ble_eq_true rfl) (Nat.le_of_ble_eq_true rfl) e100 ⟨rfl, N100, Z100, ⟨u101, u102, u103, Fw100, u104, u105, u106, u107, u108, u109, u110, u111, u112, nb1, nb2, nb3, n12, n13, n23, gb, gl, gc, ga⟩⟩
theorem d5_0 : decode prog_43_method_6_code 0 = .ok (.aload_n 0, 1) := by decide +kernel
theorem d5_1 : decode prog_43_method_6_code 1 = .ok (.getfield 34, 3) := by decide +kernel
theorem d5_4 : decode prog_43_method_6_code 4 = .ok (.istore_n 3, 1) := by decide +kernel
theorem d5_5 : decode prog_43_method_6_code 5 = .ok (.aload_n 0, 1) := by decide +kernel
theorem d5_6 : decode prog_43_method_6_code 6 = .ok (.iload_n 1, 1) := by decide +kernel
theorem d5_7 : decode prog_43_method_6_code 7 = .ok (.bipush 13, 2) := by decide +kernel
theorem d5_9 : decode prog_43_method_6_code 9 = .ok (.if_icmp .ne 7, 3) := by decide +kernel
theorem d5_16 : decode prog_43_method_6_code 16 = .ok (.iconst 0, 1) := by decide +kernel
theorem d5_17 : decode prog_43_method_6_code 17 = .ok (.putfield 34, 3) := by decide +kernel
theorem d5_20 : decode prog_43_method_6_code 20 = .ok (.iload_n 1, 1) := by decide +kernel
theorem d5_21 : decode prog_43_method_6_code 21 = .ok (.bipush 13, 2) := by decide +kernel
theorem d5_23 : decode prog_43_method_6_code 23 = .ok (.if_icmp .eq 17, 3) := by decide +kernel
theorem d5_26 : decode prog_43_method_6_code 26 = .ok (.aload_n 0, 1) := by decide +kernel
theorem d5_27 : decode prog_43_method_6_code 27 = .ok (.getfield 30, 3) := by decide +kernel
theorem d5_30 : decode prog_43_method_6_code 30 = .ok (.ifCond .eq 17, 3) := by decide +kernel
theorem d5_47 : decode prog_43_method_6_code 47 = .ok (.iload_n 1, 1) := by decide +kernel
theorem d5_48 : decode prog_43_method_6_code 48 = .ok (.bipush 10, 2) := by decide +kernel
theorem d5_50 : decode prog_43_method_6_code 50 = .ok (.if_icmp .eq 17, 3) := by decide +kernel
theorem d5_67 : decode prog_43_method_6_code 67 = .ok (.iload_n 3, 1) := by decide +kernel
theorem d5_68 : decode prog_43_method_6_code 68 = .ok (.ifCond .ne 20, 3) := by decide +kernel
theorem d5_71 : decode prog_43_method_6_code 71 = .ok (.aload_n 0, 1) := by decide +kernel
theorem d5_72 : decode prog_43_method_6_code 72 = .ok (.invokevirtual 37, 3) := by decide +kernel
theorem pd___V : parseMethodDescriptor "()V" = some ⟨[], none⟩ := by decide +kernel
theorem d5_75 : decode prog_43_method_6_code 75 = .ok (.goto 13, 3) := by decide +kernel
theorem d5_88 : decode prog_43_method_6_code 88 = .ok (.return_, 1) := by decide +kernel
theorem ef_pass2 (m : MethodId) (p0 : Addr) (p1 : Int32) (p2 : Int32) : entryFrame m #[(.ref p0), (.int p1), (.int p2)] 4 = mkF m 0 #[.val (.ref p0), .val (.int p1), .val (.int p2), .unset] [] := by first | (simp [entryFrame, mkF, argsToLocals, Value.category]; done) | rfl
def Q_pass2 (Z : State) (p0 : Addr) (p1 : Int32) (p2 : Int32) (wl : Addr) (wc : Addr) (wa : Addr) (ln : Int32) (cl : Int32) (ad : Int32) (ps : Int32) (cr : Int32) (xm : Int32) (f : Nat → Int32) (g : Nat → Int32) (k : Nat → Int32) (h0 : Heap) (n0 : Nat) (v : Option Value) (h : Heap) (L : List Loc) : Prop := v = none ∧ Fr n0 L ∧ n0 ≤ h.size ∧ own_P Z h n0 p0 wl wc wa (ln + 1) 1 0 ps 0 0 f g k
set_option maxRecDepth 65536 in
set_option maxHeartbeats 40000000 in
theorem rm_pass2 (l : Launch) (Z : State) (a0 : Array Value) (hw : ∀ d ∈ tables_1, d.before a0 Z = true) (ws : List Jvm.Cond) (p0 : Addr) (p1 : Int32) (p2 : Int32) (wl : Addr) (wc : Addr) (wa : Addr) (ln : Int32) (cl : Int32) (ad : Int32) (ps : Int32) (cr : Int32) (xm : Int32) (f : Nat → Int32) (g : Nat → Int32) (k : Nat → Int32) (h0 : Heap) (n0 : Nat) (Z0 : n0 ≤ h0.size) (P : own_P Z h0 n0 p0 wl wc wa ln cl ad ps cr xm f g k) (hcode : (10 : Int32) = p1) (hcr : (0 : Int32) = cr) (hxm : (0 : Int32) = xm) :
    MetFree l (⟨"polytsia/marcxml/Place", "pass", "(II)V"⟩ : MethodName) (head1 (Jvm.Cond.code (⟨"polytsia/marcxml/Place", "pass", "(II)V"⟩ : MethodName) prog_43_method_6_code 4 none :: ws) ({ frames := 1, cells := 0, slots := 0, locals := 12 } : Room)) (fun a U => a = #[(.ref p0), (.int p1), (.int p2)] ∧ Z.Warmed39 U.vm ∧ U.heap = h0) (fun _ _ _ _ _ => True) (fun _ U o U' => ∃ v L, o = .returned v ∧ Q_pass2 Z p0 p1 p2 wl wc wa ln cl ad ps cr xm f g k h0 n0 v U'.heap L ∧ FrameEnd U o U' L ({ frames := 1, cells := 0, slots := 0, locals := 12 } : Room).cells ({ frames := 1, cells := 0, slots := 0, locals := 12 } : Room).slots) := by
  refine MetFree.of_bodySF (plainFor_of_name pn_polytsia_marcxml_Place) hisR ?_
  intro p e s m args below meth kc s₁ Bd hml0 hP hK
  obtain ⟨rfl, hZ, hh⟩ := hP
  have hx := Bd.exec
  have hby := Bd.bytes
  have hlk := Bd.notSynchronized
  have hml : kc.maxLocals = 4 := hml0
  have hown : s.vm.findClass "polytsia/marcxml/Place" = some m.cls := findClass_of_methodNamed Bd.named
  have hnm := (name_of_methodNamed Bd.named Bd.method).1
  have X0 : Stand p l e ({ frames := 1, cells := 0, slots := 0, locals := 12 } : Room) s m #[(.ref p0), (.int p1), (.int p2)] below meth kc s₁ [] 0 0 := Stand.of_body Bd
  have e0 : s₁.heap = h0 := by rw [← hh, Bd.state]; rfl
  have N0 := Fr.nil n0
  show own_G p.tables e below (own_E below s ({ frames := 1, cells := 0, slots := 0, locals := 12 } : Room).cells ({ frames := 1, cells := 0, slots := 0, locals := 12 } : Room).slots (Q_pass2 Z p0 p1 p2 wl wc wa ln cl ad ps cr xm f g k h0 n0)) _
  refine own_go (fun _ k => castTop (ef_pass2 m p0 p1 p2) k) ?_
  subst hcode hcr hxm
  obtain ⟨E_, F_ln, F_cl, F_ad, F_ps, F_cr, F_xm, F_wl, F_wc, F_wa, V_l, V_c, V_a, nb1, nb2, nb3, n12, n13, n23, gb, gl, gc, ga⟩ := P
  show own_G p.tables e below _ (s₁.setTop (mkF m 0 #[.val (.ref p0), .val (.int (10 : Int32)), .val (.int p2), .unset] []))
  refine own_go (fun _ kt => XS.aloadN X0.here hx rfl (hb hby d5_0) rfl rfl kt) ?_
  show own_G p.tables e below _ (s₁.setTop (mkF m 1 #[.val (.ref p0), .val (.int (10 : Int32)), .val (.int p2), .unset] [(.ref p0)]))
  obtain ⟨T113, X113, e113, st113⟩ := getF X0 hx hZ hown (host := "") (Or.inl (hw _ (List.mem_of_getElem? (i := 35) rfl))) Via.refl e0 F_cr (g := (mkF m 1 #[.val (.ref p0), .val (.int (10 : Int32)), .val (.int p2), .unset] [(.ref p0)])) rfl rfl (hb hby d5_1)
  refine own_go st113 ?_
  show own_G p.tables e below _ (T113.setTop (mkF m 4 #[.val (.ref p0), .val (.int (10 : Int32)), .val (.int p2), .unset] [(.int (0 : Int32))]))
  refine own_go (fun _ kt => XS.istoreN X113.here hx rfl (hb hby d5_4) rfl (l' := #[.val (.ref p0), .val (.int (10 : Int32)), .val (.int p2), .val (.int (0 : Int32))]) rfl kt) ?_
  show own_G p.tables e below _ (T113.setTop (mkF m 5 #[.val (.ref p0), .val (.int (10 : Int32)), .val (.int p2), .val (.int (0 : Int32))] []))
  refine own_go (fun _ kt => XS.aloadN X113.here hx rfl (hb hby d5_5) rfl rfl kt) ?_
  show own_G p.tables e below _ (T113.setTop (mkF m 6 #[.val (.ref p0), .val (.int (10 : Int32)), .val (.int p2), .val (.int (0 : Int32))] [(.ref p0)]))
  refine own_go (fun _ kt => XS.iloadN X113.here hx rfl (hb hby d5_6) rfl kt) ?_
  show own_G p.tables e below _ (T113.setTop (mkF m 7 #[.val (.ref p0), .val (.int (10 : Int32)), .val (.int p2), .val (.int (0 : Int32))] [(.int (10 : Int32)), (.ref p0)]))
  refine own_go (fun _ kt => XS.bipush X113.here hx rfl (hb hby d5_7) kt) ?_
  show own_G p.tables e below _ (T113.setTop (mkF m 9 #[.val (.ref p0), .val (.int (10 : Int32)), .val (.int p2), .val (.int (0 : Int32))] [(.int (13 : Int32)), (.int (10 : Int32)), (.ref p0)]))
  refine own_go (fun _ kt => XS.icmpYes X113.here hx rfl (pc0 := 9) (pc' := 16) rfl (hb hby d5_9) rfl (feq (by decide : ¬ ((10 : Int32) = (13 : Int32)))).2 (by decide) (by decide) kt) ?_
  show own_G p.tables e below _ (T113.setTop (mkF m 16 #[.val (.ref p0), .val (.int (10 : Int32)), .val (.int p2), .val (.int (0 : Int32))] [(.ref p0)]))
  refine own_go (fun _ kt => XS.iconst X113.here hx rfl (hb hby d5_16) kt) ?_
  show own_G p.tables e below _ (T113.setTop (mkF m 17 #[.val (.ref p0), .val (.int (10 : Int32)), .val (.int p2), .val (.int (0 : Int32))] [(.int (0 : Int32)), (.ref p0)]))
  obtain ⟨T114, h114, X114, e114, W114, st114⟩ := putFN X113 hx hZ hown (hw _ (List.mem_of_getElem? (i := 35) rfl)) Via.refl e113 F_cr E_ (Or.inl (hw _ (List.mem_of_getElem? (i := 36) rfl))) (hw _ (List.mem_of_getElem? (i := 2) rfl)) (ty := .boolean) (v' := (.int (0 : Int32))) (by decide) rfl rfl (g := (mkF m 17 #[.val (.ref p0), .val (.int (10 : Int32)), .val (.int p2), .val (.int (0 : Int32))] [(.int (0 : Int32)), (.ref p0)])) rfl rfl (hb hby d5_17)
  refine own_go st114 ?_
  have N114 := Fr.snoc X114 N0 gb
  have Z114 : n0 ≤ h114.size := Nat.le_trans Z0 (Keep.of_wr W114).1
  have Fw114 := Fld.same W114 F_cr
  show own_G p.tables e below _ (T114.setTop (mkF m 20 #[.val (.ref p0), .val (.int (10 : Int32)), .val (.int p2), .val (.int (0 : Int32))] []))
  refine own_go (fun _ kt => XS.iloadN X114.here hx rfl (hb hby d5_20) rfl kt) ?_
  show own_G p.tables e below _ (T114.setTop (mkF m 21 #[.val (.ref p0), .val (.int (10 : Int32)), .val (.int p2), .val (.int (0 : Int32))] [(.int (10 : Int32))]))
  refine own_go (fun _ kt => XS.bipush X114.here hx rfl (hb hby d5_21) kt) ?_
  show own_G p.tables e below _ (T114.setTop (mkF m 23 #[.val (.ref p0), .val (.int (10 : Int32)), .val (.int p2), .val (.int (0 : Int32))] [(.int (13 : Int32)), (.int (10 : Int32))]))
  refine own_go (fun _ kt => XS.icmpNo X114.here hx rfl (hb hby d5_23) rfl (feq (by decide : ¬ ((10 : Int32) = (13 : Int32)))).1 kt) ?_
  show own_G p.tables e below _ (T114.setTop (mkF m 26 #[.val (.ref p0), .val (.int (10 : Int32)), .val (.int p2), .val (.int (0 : Int32))] []))
  refine own_go (fun _ kt => XS.aloadN X114.here hx rfl (hb hby d5_26) rfl rfl kt) ?_
  show own_G p.tables e below _ (T114.setTop (mkF m 27 #[.val (.ref p0), .val (.int (10 : Int32)), .val (.int p2), .val (.int (0 : Int32))] [(.ref p0)]))
  have u115 := (F_xm.other W114 (Or.inr (slot_ne (Or.inl (hw _ (List.mem_of_getElem? (i := 43) rfl))) (Or.inl (hw _ (List.mem_of_getElem? (i := 36) rfl))) (by decide) (t := .boolean) (t' := .boolean) (by decide) (by decide))))
  obtain ⟨T116, X116, e116, st116⟩ := getF X114 hx hZ hown (host := "") (Or.inl (hw _ (List.mem_of_getElem? (i := 42) rfl))) Via.refl e114 u115 (g := (mkF m 27 #[.val (.ref p0), .val (.int (10 : Int32)), .val (.int p2), .val (.int (0 : Int32))] [(.ref p0)])) rfl rfl (hb hby d5_27)
  refine own_go st116 ?_
  show own_G p.tables e below _ (T116.setTop (mkF m 30 #[.val (.ref p0), .val (.int (10 : Int32)), .val (.int p2), .val (.int (0 : Int32))] [(.int (0 : Int32))]))
  refine own_go (fun _ kt => XS.ifYes X116.here hx rfl (pc0 := 30) (pc' := 47) rfl (hb hby d5_30) rfl ((if0 _ _).trans (teq (rfl : (0 : Int32) = (0 : Int32))).1) (by decide) (by decide) kt) ?_
  show own_G p.tables e below _ (T116.setTop (mkF m 47 #[.val (.ref p0), .val (.int (10 : Int32)), .val (.int p2), .val (.int (0 : Int32))] []))
  refine own_go (fun _ kt => XS.iloadN X116.here hx rfl (hb hby d5_47) rfl kt) ?_
  show own_G p.tables e below _ (T116.setTop (mkF m 48 #[.val (.ref p0), .val (.int (10 : Int32)), .val (.int p2), .val (.int (0 : Int32))] [(.int (10 : Int32))]))
  refine own_go (fun _ kt => XS.bipush X116.here hx rfl (hb hby d5_48) kt) ?_
  show own_G p.tables e below _ (T116.setTop (mkF m 50 #[.val (.ref p0), .val (.int (10 : Int32)), .val (.int p2), .val (.int (0 : Int32))] [(.int (10 : Int32)), (.int (10 : Int32))]))
  refine own_go (fun _ kt => XS.icmpYes X116.here hx rfl (pc0 := 50) (pc' := 67) rfl (hb hby d5_50) rfl (teq (rfl : (10 : Int32) = (10 : Int32))).1 (by decide) (by decide) kt) ?_
  show own_G p.tables e below _ (T116.setTop (mkF m 67 #[.val (.ref p0), .val (.int (10 : Int32)), .val (.int p2), .val (.int (0 : Int32))] []))
  refine own_go (fun _ kt => XS.iloadN X116.here hx rfl (hb hby d5_67) rfl kt) ?_
  show own_G p.tables e below _ (T116.setTop (mkF m 68 #[.val (.ref p0), .val (.int (10 : Int32)), .val (.int p2), .val (.int (0 : Int32))] [(.int (0 : Int32))]))
  refine own_go (fun _ kt => XS.ifNo X116.here hx rfl (hb hby d5_68) rfl ((if0 _ _).trans (teq (rfl : (0 : Int32) = (0 : Int32))).2) kt) ?_
  show own_G p.tables e below _ (T116.setTop (mkF m 71 #[.val (.ref p0), .val (.int (10 : Int32)), .val (.int p2), .val (.int (0 : Int32))] []))
  refine own_go (fun _ kt => XS.aloadN X116.here hx rfl (hb hby d5_71) rfl rfl kt) ?_
  have u117 := (E_.wr W114)
  have u118 := (F_ln.other W114 (Or.inr (slot_ne (Or.inl (hw _ (List.mem_of_getElem? (i := 11) rfl))) (Or.inl (hw _ (List.mem_of_getElem? (i := 36) rfl))) (by decide) (t := .int) (t' := .boolean) (by decide) (by decide))))
  have u119 := (F_cl.other W114 (Or.inr (slot_ne (Or.inl (hw _ (List.mem_of_getElem? (i := 13) rfl))) (Or.inl (hw _ (List.mem_of_getElem? (i := 36) rfl))) (by decide) (t := .int) (t' := .boolean) (by decide) (by decide))))
  have u120 := (F_ad.other W114 (Or.inr (slot_ne (Or.inl (hw _ (List.mem_of_getElem? (i := 27) rfl))) (Or.inl (hw _ (List.mem_of_getElem? (i := 36) rfl))) (by decide) (t := .int) (t' := .boolean) (by decide) (by decide))))
  have u121 := (F_ps.other W114 (Or.inr (slot_ne (Or.inl (hw _ (List.mem_of_getElem? (i := 29) rfl))) (Or.inl (hw _ (List.mem_of_getElem? (i := 36) rfl))) (by decide) (t := .int) (t' := .boolean) (by decide) (by decide))))
  have u122 := (F_wl.other W114 (Or.inr (slot_ne (Or.inr (hw _ (List.mem_of_getElem? (i := 16) rfl))) (Or.inl (hw _ (List.mem_of_getElem? (i := 36) rfl))) (by decide) (t := (.array .int)) (t' := .boolean) (by decide) (by decide))))
  have u123 := (F_wc.other W114 (Or.inr (slot_ne (Or.inr (hw _ (List.mem_of_getElem? (i := 18) rfl))) (Or.inl (hw _ (List.mem_of_getElem? (i := 36) rfl))) (by decide) (t := (.array .int)) (t' := .boolean) (by decide) (by decide))))
  have u124 := (F_wa.other W114 (Or.inr (slot_ne (Or.inr (hw _ (List.mem_of_getElem? (i := 20) rfl))) (Or.inl (hw _ (List.mem_of_getElem? (i := 36) rfl))) (by decide) (t := (.array .int)) (t' := .boolean) (by decide) (by decide))))
  have u125 := (V_l.other W114 (Ne.symm nb1))
  have u126 := (V_c.other W114 (Ne.symm nb2))
  have u127 := (V_a.other W114 (Ne.symm nb3))
  show own_G p.tables e below _ (T116.setTop (mkF m 72 #[.val (.ref p0), .val (.int (10 : Int32)), .val (.int p2), .val (.int (0 : Int32))] [(.ref p0)]))
  obtain ⟨cq128, q128, q128'⟩ := u117.cell
  obtain ⟨_, _, ⟨T128, L128, k128, n128⟩, -, X128, ⟨Lc128, hQ128, l128, y128, z128⟩, st128⟩ := X116.privateBack hx (y := (⟨"polytsia/marcxml/Place", "newLine", "()V"⟩ : MethodName)) hown (mvT hZ (hw _ (List.mem_of_getElem? (i := 44) rfl))) (mvT hZ (hw _ (List.mem_of_getElem? (i := 45) rfl))) (own_selfsel (y := (⟨"polytsia/marcxml/Place", "newLine", "()V"⟩ : MethodName)) (mvT hZ (hw _ (List.mem_of_getElem? (i := 24) rfl))) rfl (Cond.privateMethod_at (mvP hZ (hw _ (List.mem_of_getElem? (i := 46) rfl)) (args := #[]))) (mvT hZ (hw _ (List.mem_of_getElem? (i := 45) rfl))) (by decide)) (Cond.privateMethod_at (mvP hZ (hw _ (List.mem_of_getElem? (i := 46) rfl)) (args := #[]))) (mvT hZ (hw _ (List.mem_of_getElem? (i := 47) rfl))) (by decide) (backOf (W := 0) (rm_nl l Z a0 hw [] p0 wl wc wa ln cl ad ps 0 0 f g k h114 n0 Z114 ⟨u117, u118, u119, u120, u121, Fw114, u115, u122, u123, u124, u125, u126, u127, nb1, nb2, nb3, n12, n13, n23, gb, gl, gc, ga⟩) hZ (hw _ (List.mem_of_getElem? (i := 47) rfl)) (hw _ (List.mem_of_getElem? (i := 3) rfl)) (by decide) (by decide)) (g := (mkF m 72 #[.val (.ref p0), .val (.int (10 : Int32)), .val (.int p2), .val (.int (0 : Int32))] [(.ref p0)])) rfl (by rw [hml]; rfl) (Steps.refl _) (a := p0) (by rw [e116]; exact q128) q128' (argsL := []) (rest := []) (lenOf pd___V rfl) rfl (by show 2 * 0 + _ ≤ _; exact Nat.le_of_eq rfl) (hb hby d5_72) (fun _ _ => ⟨rfl, e116, (Nat.le_of_ble_eq_true rfl), (Nat.le_of_ble_eq_true rfl)⟩)
  dsimp only [Pt.U, Pt.locs, Pt.cells, Pt.slots] at X128 l128 y128 z128 st128 hQ128
  subst l128 y128 z128
  obtain ⟨rfl, Nq128, Zq128, Pq128⟩ := hQ128
  have N128 := Fr.app N114 Nq128
  refine own_tr st128 ?_
  show own_G p.tables e below _ (T128.setTop (mkF m 75 #[.val (.ref p0), .val (.int (10 : Int32)), .val (.int p2), .val (.int (0 : Int32))] []))
  refine own_go (fun _ kt => XS.goto X128.here hx rfl (pc0 := 75) (pc' := 88) rfl (hb hby d5_75) (by decide) (by decide) kt) ?_
  show own_G p.tables e below _ (T128.setTop (mkF m 88 #[.val (.ref p0), .val (.int (10 : Int32)), .val (.int p2), .val (.int (0 : Int32))] []))
  exact own_retV X128 hx Bd.returns hlk (hb hby d5_88) (Nat.le_of_ble_eq_true rfl) (Nat.le_of_ble_eq_true rfl) rfl ⟨rfl, N128, Zq128, Pq128⟩
theorem d7_0 : decode prog_43_method_10_code 0 = .ok (.aload_n 0, 1) := by decide +kernel
theorem d7_1 : decode prog_43_method_10_code 1 = .ok (.getfield 13, 3) := by decide +kernel
theorem d7_4 : decode prog_43_method_10_code 4 = .ok (.aload_n 0, 1) := by decide +kernel
theorem d7_5 : decode prog_43_method_10_code 5 = .ok (.getfield 40, 3) := by decide +kernel
theorem d7_8 : decode prog_43_method_10_code 8 = .ok (.isub, 1) := by decide +kernel
theorem d7_9 : decode prog_43_method_10_code 9 = .ok (.ireturn, 1) := by decide +kernel
theorem ef_dc0 (m : MethodId) (p0 : Addr) : entryFrame m #[(.ref p0)] 1 = mkF m 0 #[.val (.ref p0)] [] := by first | (simp [entryFrame, mkF, argsToLocals, Value.category]; done) | rfl
def Q_dc0 (Z : State) (p0 : Addr) (wl : Addr) (wc : Addr) (wa : Addr) (ln : Int32) (cl : Int32) (ad : Int32) (ps : Int32) (cr : Int32) (xm : Int32) (f : Nat → Int32) (g : Nat → Int32) (k : Nat → Int32) (h0 : Heap) (n0 : Nat) (v : Option Value) (h : Heap) (L : List Loc) : Prop := v = some (.int (cl - ad)) ∧ Fr n0 L ∧ h = h0
set_option maxRecDepth 65536 in
set_option maxHeartbeats 40000000 in
theorem rm_dc0 (l : Launch) (Z : State) (a0 : Array Value) (hw : ∀ d ∈ tables_1, d.before a0 Z = true) (ws : List Jvm.Cond) (p0 : Addr) (wl : Addr) (wc : Addr) (wa : Addr) (ln : Int32) (cl : Int32) (ad : Int32) (ps : Int32) (cr : Int32) (xm : Int32) (f : Nat → Int32) (g : Nat → Int32) (k : Nat → Int32) (h0 : Heap) (n0 : Nat) (Z0 : n0 ≤ h0.size) (P : own_P Z h0 n0 p0 wl wc wa ln cl ad ps cr xm f g k) :
    MetFree l (⟨"polytsia/marcxml/Place", "documentColumn", "()I"⟩ : MethodName) (head1 (Jvm.Cond.code (⟨"polytsia/marcxml/Place", "documentColumn", "()I"⟩ : MethodName) prog_43_method_10_code 1 (some .int) :: ws) ({ frames := 0, cells := 0, slots := 0, locals := 0 } : Room)) (fun a U => a = #[(.ref p0)] ∧ Z.Warmed39 U.vm ∧ U.heap = h0) (fun _ _ _ _ _ => True) (fun _ U o U' => ∃ v L, o = .returned v ∧ Q_dc0 Z p0 wl wc wa ln cl ad ps cr xm f g k h0 n0 v U'.heap L ∧ FrameEnd U o U' L ({ frames := 0, cells := 0, slots := 0, locals := 0 } : Room).cells ({ frames := 0, cells := 0, slots := 0, locals := 0 } : Room).slots) := by
  refine MetFree.of_bodySF (plainFor_of_name pn_polytsia_marcxml_Place) hisR ?_
  intro p e s m args below meth kc s₁ Bd hml0 hP hK
  obtain ⟨rfl, hZ, hh⟩ := hP
  have hx := Bd.exec
  have hby := Bd.bytes
  have hlk := Bd.notSynchronized
  have hml : kc.maxLocals = 1 := hml0
  have hown : s.vm.findClass "polytsia/marcxml/Place" = some m.cls := findClass_of_methodNamed Bd.named
  have hnm := (name_of_methodNamed Bd.named Bd.method).1
  have X0 : Stand p l e ({ frames := 0, cells := 0, slots := 0, locals := 0 } : Room) s m #[(.ref p0)] below meth kc s₁ [] 0 0 := Stand.of_body Bd
  have e0 : s₁.heap = h0 := by rw [← hh, Bd.state]; rfl
  have N0 := Fr.nil n0
  show own_G p.tables e below (own_E below s ({ frames := 0, cells := 0, slots := 0, locals := 0 } : Room).cells ({ frames := 0, cells := 0, slots := 0, locals := 0 } : Room).slots (Q_dc0 Z p0 wl wc wa ln cl ad ps cr xm f g k h0 n0)) _
  refine own_go (fun _ k => castTop (ef_dc0 m p0) k) ?_
  obtain ⟨E_, F_ln, F_cl, F_ad, F_ps, F_cr, F_xm, F_wl, F_wc, F_wa, V_l, V_c, V_a, nb1, nb2, nb3, n12, n13, n23, gb, gl, gc, ga⟩ := P
  show own_G p.tables e below _ (s₁.setTop (mkF m 0 #[.val (.ref p0)] []))
  refine own_go (fun _ kt => XS.aloadN X0.here hx rfl (hb hby d7_0) rfl rfl kt) ?_
  show own_G p.tables e below _ (s₁.setTop (mkF m 1 #[.val (.ref p0)] [(.ref p0)]))
  obtain ⟨T129, X129, e129, st129⟩ := getF X0 hx hZ hown (host := "") (Or.inl (hw _ (List.mem_of_getElem? (i := 12) rfl))) Via.refl e0 F_cl (g := (mkF m 1 #[.val (.ref p0)] [(.ref p0)])) rfl rfl (hb hby d7_1)
  refine own_go st129 ?_
  show own_G p.tables e below _ (T129.setTop (mkF m 4 #[.val (.ref p0)] [(.int cl)]))
  refine own_go (fun _ kt => XS.aloadN X129.here hx rfl (hb hby d7_4) rfl rfl kt) ?_
  show own_G p.tables e below _ (T129.setTop (mkF m 5 #[.val (.ref p0)] [(.ref p0), (.int cl)]))
  obtain ⟨T130, X130, e130, st130⟩ := getF X129 hx hZ hown (host := "") (Or.inl (hw _ (List.mem_of_getElem? (i := 26) rfl))) Via.refl e129 F_ad (g := (mkF m 5 #[.val (.ref p0)] [(.ref p0), (.int cl)])) rfl rfl (hb hby d7_5)
  refine own_go st130 ?_
  show own_G p.tables e below _ (T130.setTop (mkF m 8 #[.val (.ref p0)] [(.int ad), (.int cl)]))
  refine own_go (fun _ kt => XS.isub X130.here hx rfl (hb hby d7_8) rfl kt) ?_
  show own_G p.tables e below _ (T130.setTop (mkF m 9 #[.val (.ref p0)] [(.int (cl - ad))]))
  exact own_retI X130 hx Bd.returns hlk (hb hby d7_9) (Nat.le_of_ble_eq_true rfl) (Nat.le_of_ble_eq_true rfl) e130 ⟨rfl, N0, rfl⟩
theorem own_one (i : Nat) : Int32.ofNat i + (1 : Int32) = Int32.ofNat (i + 1) := (Int32.ofNat_add i 1).symm
theorem own_nat {i : Nat} (h : i < 2147483648) : (Int32.ofNat i).toInt = i := Int32.toInt_ofNat_of_lt (by omega)
theorem own_clamp {i : Nat} (h : i < 2147483648) : (Int32.ofNat i).toNatClampNeg = i := by simp only [Int32.toNatClampNeg, own_nat h]; omega
/-- what the loop of documentColumn holds behind i turns -/
def own_scan (f g k : Nat → Int32) (ln q : Int32) : Nat → Int32 × Int32
  | 0 => (0, 0)
  | i + 1 => if f i = ln ∧ ¬ (q < g i) ∧ (own_scan f g k ln q i).1 < g i then (g i, k i) else own_scan f g k ln q i
theorem own_scan_yes {f g k : Nat → Int32} {ln q : Int32} {i : Nat} (h1 : f i = ln) (h2 : ¬ (q < g i)) (h3 : (own_scan f g k ln q i).1 < g i) : own_scan f g k ln q (i + 1) = (g i, k i) := if_pos ⟨h1, h2, h3⟩
theorem own_scan_no {f g k : Nat → Int32} {ln q : Int32} {i : Nat} (h : ¬ (f i = ln ∧ ¬ (q < g i) ∧ (own_scan f g k ln q i).1 < g i)) : own_scan f g k ln q (i + 1) = own_scan f g k ln q i := if_neg h
theorem d9_0 : decode jdk_29_method_69_code 0 = .ok (.iload_n 0, 1) := by decide +kernel
theorem d9_1 : decode jdk_29_method_69_code 1 = .ok (.iload_n 1, 1) := by decide +kernel
theorem d9_2 : decode jdk_29_method_69_code 2 = .ok (.if_icmp .gt 7, 3) := by decide +kernel
theorem d9_9 : decode jdk_29_method_69_code 9 = .ok (.iload_n 1, 1) := by decide +kernel
theorem d9_10 : decode jdk_29_method_69_code 10 = .ok (.ireturn, 1) := by decide +kernel
theorem d9_5 : decode jdk_29_method_69_code 5 = .ok (.iload_n 0, 1) := by decide +kernel
theorem d9_6 : decode jdk_29_method_69_code 6 = .ok (.goto 4, 3) := by decide +kernel
theorem ef_minI (m : MethodId) (p0 : Int32) (p1 : Int32) : entryFrame m #[(.int p0), (.int p1)] 2 = mkF m 0 #[.val (.int p0), .val (.int p1)] [] := by first | (simp [entryFrame, mkF, argsToLocals, Value.category]; done) | rfl
def Q_minI (Z : State) (p0 : Int32) (p1 : Int32) (h0 : Heap) (n0 : Nat) (v : Option Value) (h : Heap) (L : List Loc) : Prop := ∃ r : Int32, v = some (.int r) ∧ Fr n0 L ∧ h = h0 ∧ r.toInt = min p0.toInt p1.toInt
set_option maxRecDepth 65536 in
set_option maxHeartbeats 40000000 in
theorem rm_minI (l : Launch) (Z : State) (a0 : Array Value) (hw : ∀ d ∈ tables_1, d.before a0 Z = true) (ws : List Jvm.Cond) (p0 : Int32) (p1 : Int32) (h0 : Heap) (n0 : Nat) (Z0 : n0 ≤ h0.size) :
    MetFree l (⟨"java/lang/Math", "min", "(II)I"⟩ : MethodName) (head1 (Jvm.Cond.code (⟨"java/lang/Math", "min", "(II)I"⟩ : MethodName) jdk_29_method_69_code 2 (some .int) :: ws) ({ frames := 0, cells := 0, slots := 0, locals := 0 } : Room)) (fun a U => a = #[(.int p0), (.int p1)] ∧ Z.Warmed39 U.vm ∧ U.heap = h0) (fun _ _ _ _ _ => True) (fun _ U o U' => ∃ v L, o = .returned v ∧ Q_minI Z p0 p1 h0 n0 v U'.heap L ∧ FrameEnd U o U' L ({ frames := 0, cells := 0, slots := 0, locals := 0 } : Room).cells ({ frames := 0, cells := 0, slots := 0, locals := 0 } : Room).slots) := by
  refine MetFree.of_bodySF (Jvm.Free.JP.mathPlain rfl (by decide +kernel)) hisR ?_
  intro p e s m args below meth kc s₁ Bd hml0 hP hK
  obtain ⟨rfl, hZ, hh⟩ := hP
  have hx := Bd.exec
  have hby := Bd.bytes
  have hlk := Bd.notSynchronized
  have hml : kc.maxLocals = 2 := hml0
  have hown : s.vm.findClass "java/lang/Math" = some m.cls := findClass_of_methodNamed Bd.named
  have hnm := (name_of_methodNamed Bd.named Bd.method).1
  have X0 : Stand p l e ({ frames := 0, cells := 0, slots := 0, locals := 0 } : Room) s m #[(.int p0), (.int p1)] below meth kc s₁ [] 0 0 := Stand.of_body Bd
  have e0 : s₁.heap = h0 := by rw [← hh, Bd.state]; rfl
  have N0 := Fr.nil n0
  show own_G p.tables e below (own_E below s ({ frames := 0, cells := 0, slots := 0, locals := 0 } : Room).cells ({ frames := 0, cells := 0, slots := 0, locals := 0 } : Room).slots (Q_minI Z p0 p1 h0 n0)) _
  refine own_go (fun _ k => castTop (ef_minI m p0 p1) k) ?_
  show own_G p.tables e below _ (s₁.setTop (mkF m 0 #[.val (.int p0), .val (.int p1)] []))
  refine own_go (fun _ kt => XS.iloadN X0.here hx rfl (hb hby d9_0) rfl kt) ?_
  show own_G p.tables e below _ (s₁.setTop (mkF m 1 #[.val (.int p0), .val (.int p1)] [(.int p0)]))
  refine own_go (fun _ kt => XS.iloadN X0.here hx rfl (hb hby d9_1) rfl kt) ?_
  by_cases hc2 : p1 < p0
  · show own_G p.tables e below _ (s₁.setTop (mkF m 2 #[.val (.int p0), .val (.int p1)] [(.int p1), (.int p0)]))
    refine own_go (fun _ kt => XS.icmpYes X0.here hx rfl (pc0 := 2) (pc' := 9) rfl (hb hby d9_2) rfl (tlt (hc2 : p1 < p0)).2.2.1 (by decide) (by decide) kt) ?_
    show own_G p.tables e below _ (s₁.setTop (mkF m 9 #[.val (.int p0), .val (.int p1)] []))
    refine own_go (fun _ kt => XS.iloadN X0.here hx rfl (hb hby d9_9) rfl kt) ?_
    show own_G p.tables e below _ (s₁.setTop (mkF m 10 #[.val (.int p0), .val (.int p1)] [(.int p1)]))
    exact own_retI X0 hx Bd.returns hlk (hb hby d9_10) (Nat.le_of_ble_eq_true rfl) (Nat.le_of_ble_eq_true rfl) e0 ⟨_, rfl, N0, rfl, by rw [Int32.lt_iff_toInt_lt] at hc2; omega⟩
  · show own_G p.tables e below _ (s₁.setTop (mkF m 2 #[.val (.int p0), .val (.int p1)] [(.int p1), (.int p0)]))
    refine own_go (fun _ kt => XS.icmpNo X0.here hx rfl (hb hby d9_2) rfl (flt (hc2 : ¬ (p1 < p0))).2.2.1 kt) ?_
    show own_G p.tables e below _ (s₁.setTop (mkF m 5 #[.val (.int p0), .val (.int p1)] []))
    refine own_go (fun _ kt => XS.iloadN X0.here hx rfl (hb hby d9_5) rfl kt) ?_
    show own_G p.tables e below _ (s₁.setTop (mkF m 6 #[.val (.int p0), .val (.int p1)] [(.int p0)]))
    refine own_go (fun _ kt => XS.goto X0.here hx rfl (pc0 := 6) (pc' := 10) rfl (hb hby d9_6) (by decide) (by decide) kt) ?_
    show own_G p.tables e below _ (s₁.setTop (mkF m 10 #[.val (.int p0), .val (.int p1)] [(.int p0)]))
    exact own_retI X0 hx Bd.returns hlk (hb hby d9_10) (Nat.le_of_ble_eq_true rfl) (Nat.le_of_ble_eq_true rfl) e0 ⟨_, rfl, N0, rfl, by rw [Int32.lt_iff_toInt_lt] at hc2; omega⟩
theorem d8_8 : decode prog_43_method_11_code 8 = .ok (.iload 5, 2) := by decide +kernel
theorem d8_10 : decode prog_43_method_11_code 10 = .ok (.aload_n 0, 1) := by decide +kernel
theorem d8_11 : decode prog_43_method_11_code 11 = .ok (.getfield 43, 3) := by decide +kernel
theorem d8_14 : decode prog_43_method_11_code 14 = .ok (.iconst 4, 1) := by decide +kernel
theorem d8_15 : decode prog_43_method_11_code 15 = .ok (.invokestatic 46, 3) := by decide +kernel
theorem pd__II_I : parseMethodDescriptor "(II)I" = some ⟨[.int, .int], some .int⟩ := by decide +kernel
theorem d8_18 : decode prog_43_method_11_code 18 = .ok (.if_icmp .ge 59, 3) := by decide +kernel
theorem d8_77 : decode prog_43_method_11_code 77 = .ok (.iload_n 2, 1) := by decide +kernel
theorem d8_78 : decode prog_43_method_11_code 78 = .ok (.iload 4, 2) := by decide +kernel
theorem d8_80 : decode prog_43_method_11_code 80 = .ok (.isub, 1) := by decide +kernel
theorem d8_81 : decode prog_43_method_11_code 81 = .ok (.ireturn, 1) := by decide +kernel
theorem d8_21 : decode prog_43_method_11_code 21 = .ok (.aload_n 0, 1) := by decide +kernel
theorem d8_22 : decode prog_43_method_11_code 22 = .ok (.getfield 16, 3) := by decide +kernel
theorem d8_25 : decode prog_43_method_11_code 25 = .ok (.iload 5, 2) := by decide +kernel
theorem d8_27 : decode prog_43_method_11_code 27 = .ok (.iaload, 1) := by decide +kernel
theorem d8_28 : decode prog_43_method_11_code 28 = .ok (.iload_n 1, 1) := by decide +kernel
theorem d8_29 : decode prog_43_method_11_code 29 = .ok (.if_icmp .ne 42, 3) := by decide +kernel
theorem d8_32 : decode prog_43_method_11_code 32 = .ok (.aload_n 0, 1) := by decide +kernel
theorem d8_33 : decode prog_43_method_11_code 33 = .ok (.getfield 20, 3) := by decide +kernel
theorem d8_36 : decode prog_43_method_11_code 36 = .ok (.iload 5, 2) := by decide +kernel
theorem d8_38 : decode prog_43_method_11_code 38 = .ok (.iaload, 1) := by decide +kernel
theorem d8_39 : decode prog_43_method_11_code 39 = .ok (.iload_n 2, 1) := by decide +kernel
theorem d8_40 : decode prog_43_method_11_code 40 = .ok (.if_icmp .gt 31, 3) := by decide +kernel
theorem d8_71 : decode prog_43_method_11_code 71 = .ok (.iinc 5 1, 3) := by decide +kernel
theorem d8_74 : decode prog_43_method_11_code 74 = .ok (.goto (-66), 3) := by decide +kernel
theorem d8_43 : decode prog_43_method_11_code 43 = .ok (.aload_n 0, 1) := by decide +kernel
theorem d8_44 : decode prog_43_method_11_code 44 = .ok (.getfield 20, 3) := by decide +kernel
theorem d8_47 : decode prog_43_method_11_code 47 = .ok (.iload 5, 2) := by decide +kernel
theorem d8_49 : decode prog_43_method_11_code 49 = .ok (.iaload, 1) := by decide +kernel
theorem d8_50 : decode prog_43_method_11_code 50 = .ok (.iload_n 3, 1) := by decide +kernel
theorem d8_51 : decode prog_43_method_11_code 51 = .ok (.if_icmp .le 20, 3) := by decide +kernel
theorem d8_54 : decode prog_43_method_11_code 54 = .ok (.aload_n 0, 1) := by decide +kernel
theorem d8_55 : decode prog_43_method_11_code 55 = .ok (.getfield 20, 3) := by decide +kernel
theorem d8_58 : decode prog_43_method_11_code 58 = .ok (.iload 5, 2) := by decide +kernel
theorem d8_60 : decode prog_43_method_11_code 60 = .ok (.iaload, 1) := by decide +kernel
theorem d8_61 : decode prog_43_method_11_code 61 = .ok (.istore_n 3, 1) := by decide +kernel
theorem d8_62 : decode prog_43_method_11_code 62 = .ok (.aload_n 0, 1) := by decide +kernel
theorem d8_63 : decode prog_43_method_11_code 63 = .ok (.getfield 23, 3) := by decide +kernel
theorem d8_66 : decode prog_43_method_11_code 66 = .ok (.iload 5, 2) := by decide +kernel
theorem d8_68 : decode prog_43_method_11_code 68 = .ok (.iaload, 1) := by decide +kernel
theorem d8_69 : decode prog_43_method_11_code 69 = .ok (.istore 4, 2) := by decide +kernel
theorem d8_0 : decode prog_43_method_11_code 0 = .ok (.iconst 0, 1) := by decide +kernel
theorem d8_1 : decode prog_43_method_11_code 1 = .ok (.istore_n 3, 1) := by decide +kernel
theorem d8_2 : decode prog_43_method_11_code 2 = .ok (.iconst 0, 1) := by decide +kernel
theorem d8_3 : decode prog_43_method_11_code 3 = .ok (.istore 4, 2) := by decide +kernel
theorem d8_5 : decode prog_43_method_11_code 5 = .ok (.iconst 0, 1) := by decide +kernel
theorem d8_6 : decode prog_43_method_11_code 6 = .ok (.istore 5, 2) := by decide +kernel
theorem ef_dc2 (m : MethodId) (p0 : Addr) (p1 : Int32) (p2 : Int32) : entryFrame m #[(.ref p0), (.int p1), (.int p2)] 6 = mkF m 0 #[.val (.ref p0), .val (.int p1), .val (.int p2), .unset, .unset, .unset] [] := by first | (simp [entryFrame, mkF, argsToLocals, Value.category]; done) | rfl
def Q_dc2 (Z : State) (p0 : Addr) (p1 : Int32) (p2 : Int32) (wl : Addr) (wc : Addr) (wa : Addr) (ln : Int32) (cl : Int32) (ad : Int32) (ps : Int32) (cr : Int32) (xm : Int32) (f : Nat → Int32) (g : Nat → Int32) (k : Nat → Int32) (n : Nat) (h0 : Heap) (n0 : Nat) (v : Option Value) (h : Heap) (L : List Loc) : Prop := v = some (.int (p2 - (own_scan f g k p1 p2 n).2)) ∧ Fr n0 L ∧ h = h0
set_option maxRecDepth 65536 in
set_option maxHeartbeats 40000000 in
theorem rm_dc2 (l : Launch) (Z : State) (a0 : Array Value) (hw : ∀ d ∈ tables_1, d.before a0 Z = true) (ws : List Jvm.Cond) (p0 : Addr) (p1 : Int32) (p2 : Int32) (wl : Addr) (wc : Addr) (wa : Addr) (ln : Int32) (cl : Int32) (ad : Int32) (ps : Int32) (cr : Int32) (xm : Int32) (f : Nat → Int32) (g : Nat → Int32) (k : Nat → Int32) (n : Nat) (h0 : Heap) (n0 : Nat) (Z0 : n0 ≤ h0.size) (P : own_P Z h0 n0 p0 wl wc wa ln cl ad ps cr xm f g k) (hn : (n : Int) = min ps.toInt 4) :
    MetFree l (⟨"polytsia/marcxml/Place", "documentColumn", "(II)I"⟩ : MethodName) (head1 (Jvm.Cond.code (⟨"polytsia/marcxml/Place", "documentColumn", "(II)I"⟩ : MethodName) prog_43_method_11_code 6 (some .int) :: ws) ({ frames := 1, cells := 0, slots := 0, locals := 14 } : Room)) (fun a U => a = #[(.ref p0), (.int p1), (.int p2)] ∧ Z.Warmed39 U.vm ∧ U.heap = h0) (fun _ _ _ _ _ => True) (fun _ U o U' => ∃ v L, o = .returned v ∧ Q_dc2 Z p0 p1 p2 wl wc wa ln cl ad ps cr xm f g k n h0 n0 v U'.heap L ∧ FrameEnd U o U' L ({ frames := 1, cells := 0, slots := 0, locals := 14 } : Room).cells ({ frames := 1, cells := 0, slots := 0, locals := 14 } : Room).slots) := by
  refine MetFree.of_bodySF (plainFor_of_name pn_polytsia_marcxml_Place) hisR ?_
  intro p e s m args below meth kc s₁ Bd hml0 hP hK
  obtain ⟨rfl, hZ, hh⟩ := hP
  have hx := Bd.exec
  have hby := Bd.bytes
  have hlk := Bd.notSynchronized
  have hml : kc.maxLocals = 6 := hml0
  have hown : s.vm.findClass "polytsia/marcxml/Place" = some m.cls := findClass_of_methodNamed Bd.named
  have hnm := (name_of_methodNamed Bd.named Bd.method).1
  have X0 : Stand p l e ({ frames := 1, cells := 0, slots := 0, locals := 14 } : Room) s m #[(.ref p0), (.int p1), (.int p2)] below meth kc s₁ [] 0 0 := Stand.of_body Bd
  have e0 : s₁.heap = h0 := by rw [← hh, Bd.state]; rfl
  have N0 := Fr.nil n0
  show own_G p.tables e below (own_E below s ({ frames := 1, cells := 0, slots := 0, locals := 14 } : Room).cells ({ frames := 1, cells := 0, slots := 0, locals := 14 } : Room).slots (Q_dc2 Z p0 p1 p2 wl wc wa ln cl ad ps cr xm f g k n h0 n0)) _
  refine own_go (fun _ k => castTop (ef_dc2 m p0 p1 p2) k) ?_
  obtain ⟨E_, F_ln, F_cl, F_ad, F_ps, F_cr, F_xm, F_wl, F_wc, F_wa, V_l, V_c, V_a, nb1, nb2, nb3, n12, n13, n23, gb, gl, gc, ga⟩ := P
  have loop : ∀ (kk i : Nat) (T9 : State) (locs : List Loc), i + kk = n → Stand p l e ({ frames := 1, cells := 0, slots := 0, locals := 14 } : Room) s m #[(.ref p0), (.int p1), (.int p2)] below meth kc T9 locs 0 0 → T9.heap = h0 → Fr n0 locs → own_G p.tables e below (own_E below s ({ frames := 1, cells := 0, slots := 0, locals := 14 } : Room).cells ({ frames := 1, cells := 0, slots := 0, locals := 14 } : Room).slots (Q_dc2 Z p0 p1 p2 wl wc wa ln cl ad ps cr xm f g k n h0 n0)) (T9.setTop (mkF m 8 #[.val (.ref p0), .val (.int p1), .val (.int p2), .val (.int (own_scan f g k p1 p2 i).1), .val (.int (own_scan f g k p1 p2 i).2), .val (.int (Int32.ofNat i))] [])) := by
    intro kk
    induction kk with
    | zero =>
      intro i T9 locs hi X9 e9 N9
      have hin : i = n := by omega
      subst hin
      have hi0 := own_nat (i := i) (by omega)
      show own_G p.tables e below _ (T9.setTop (mkF m 8 #[.val (.ref p0), .val (.int p1), .val (.int p2), .val (.int (own_scan f g k p1 p2 i).1), .val (.int (own_scan f g k p1 p2 i).2), .val (.int (Int32.ofNat i))] []))
      refine own_go (fun _ kt => XS.iload X9.here hx rfl (hb hby d8_8) rfl kt) ?_
      show own_G p.tables e below _ (T9.setTop (mkF m 10 #[.val (.ref p0), .val (.int p1), .val (.int p2), .val (.int (own_scan f g k p1 p2 i).1), .val (.int (own_scan f g k p1 p2 i).2), .val (.int (Int32.ofNat i))] [(.int (Int32.ofNat i))]))
      refine own_go (fun _ kt => XS.aloadN X9.here hx rfl (hb hby d8_10) rfl rfl kt) ?_
      show own_G p.tables e below _ (T9.setTop (mkF m 11 #[.val (.ref p0), .val (.int p1), .val (.int p2), .val (.int (own_scan f g k p1 p2 i).1), .val (.int (own_scan f g k p1 p2 i).2), .val (.int (Int32.ofNat i))] [(.ref p0), (.int (Int32.ofNat i))]))
      obtain ⟨T131, X131, e131, st131⟩ := getF X9 hx hZ hown (host := "") (Or.inl (hw _ (List.mem_of_getElem? (i := 28) rfl))) Via.refl e9 F_ps (g := (mkF m 11 #[.val (.ref p0), .val (.int p1), .val (.int p2), .val (.int (own_scan f g k p1 p2 i).1), .val (.int (own_scan f g k p1 p2 i).2), .val (.int (Int32.ofNat i))] [(.ref p0), (.int (Int32.ofNat i))])) rfl rfl (hb hby d8_11)
      refine own_go st131 ?_
      show own_G p.tables e below _ (T131.setTop (mkF m 14 #[.val (.ref p0), .val (.int p1), .val (.int p2), .val (.int (own_scan f g k p1 p2 i).1), .val (.int (own_scan f g k p1 p2 i).2), .val (.int (Int32.ofNat i))] [(.int ps), (.int (Int32.ofNat i))]))
      refine own_go (fun _ kt => XS.iconst X131.here hx rfl (hb hby d8_14) kt) ?_
      show own_G p.tables e below _ (T131.setTop (mkF m 15 #[.val (.ref p0), .val (.int p1), .val (.int p2), .val (.int (own_scan f g k p1 p2 i).1), .val (.int (own_scan f g k p1 p2 i).2), .val (.int (Int32.ofNat i))] [(.int (4 : Int32)), (.int ps), (.int (Int32.ofNat i))]))
      obtain ⟨_, _, ⟨T132, L132, k132, n132⟩, -, X132, ⟨Lc132, hQ132, l132, y132, z132⟩, st132⟩ := Jvm.LawKit.callS X131 hx (y := (⟨"java/lang/Math", "min", "(II)I"⟩ : MethodName)) hown (mvT hZ (hw _ (List.mem_of_getElem? (i := 58) rfl))) (mvT hZ (hw _ (List.mem_of_getElem? (i := 59) rfl))) (mvT hZ (hw _ (List.mem_of_getElem? (i := 60) rfl))) (mvT hZ (hw _ (List.mem_of_getElem? (i := 61) rfl))) (by decide) (backOf (W := 1) (rm_minI l Z a0 hw [] ps (4 : Int32)  h0 n0 Z0 ) hZ (hw _ (List.mem_of_getElem? (i := 61) rfl)) (hw _ (List.mem_of_getElem? (i := 60) rfl)) (by decide) (by decide)) (g := (mkF m 15 #[.val (.ref p0), .val (.int p1), .val (.int p2), .val (.int (own_scan f g k p1 p2 i).1), .val (.int (own_scan f g k p1 p2 i).2), .val (.int (Int32.ofNat i))] [(.int (4 : Int32)), (.int ps), (.int (Int32.ofNat i))])) rfl (by rw [hml]; rfl) (argsL := [(.int ps), (.int (4 : Int32))]) (rest := [(.int (Int32.ofNat i))]) (lenOf pd__II_I rfl) rfl (by show 2 * 0 + _ ≤ _; exact Nat.le_of_eq rfl) (hb hby d8_15) (fun _ _ => ⟨rfl, e131, (Nat.le_of_ble_eq_true rfl), (Nat.le_of_ble_eq_true rfl)⟩)
      dsimp only [Pt.U, Pt.locs, Pt.cells, Pt.slots] at X132 l132 y132 z132 st132 hQ132
      subst l132 y132 z132
      obtain ⟨r, rfl, Nq132, eq132, hr⟩ := hQ132
      have N132 := Fr.app N9 Nq132
      refine own_go st132 ?_
      have h4 : (4 : Int32).toInt = 4 := rfl
      show own_G p.tables e below _ (T132.setTop (mkF m 18 #[.val (.ref p0), .val (.int p1), .val (.int p2), .val (.int (own_scan f g k p1 p2 i).1), .val (.int (own_scan f g k p1 p2 i).2), .val (.int (Int32.ofNat i))] [(.int r), (.int (Int32.ofNat i))]))
      refine own_go (fun _ kt => XS.icmpYes X132.here hx rfl (pc0 := 18) (pc' := 77) rfl (hb hby d8_18) rfl (flt (by rw [Int32.lt_iff_toInt_lt]; omega : ¬ ((Int32.ofNat i) < r))).2.1 (by decide) (by decide) kt) ?_
      show own_G p.tables e below _ (T132.setTop (mkF m 77 #[.val (.ref p0), .val (.int p1), .val (.int p2), .val (.int (own_scan f g k p1 p2 i).1), .val (.int (own_scan f g k p1 p2 i).2), .val (.int (Int32.ofNat i))] []))
      refine own_go (fun _ kt => XS.iloadN X132.here hx rfl (hb hby d8_77) rfl kt) ?_
      show own_G p.tables e below _ (T132.setTop (mkF m 78 #[.val (.ref p0), .val (.int p1), .val (.int p2), .val (.int (own_scan f g k p1 p2 i).1), .val (.int (own_scan f g k p1 p2 i).2), .val (.int (Int32.ofNat i))] [(.int p2)]))
      refine own_go (fun _ kt => XS.iload X132.here hx rfl (hb hby d8_78) rfl kt) ?_
      show own_G p.tables e below _ (T132.setTop (mkF m 80 #[.val (.ref p0), .val (.int p1), .val (.int p2), .val (.int (own_scan f g k p1 p2 i).1), .val (.int (own_scan f g k p1 p2 i).2), .val (.int (Int32.ofNat i))] [(.int (own_scan f g k p1 p2 i).2), (.int p2)]))
      refine own_go (fun _ kt => XS.isub X132.here hx rfl (hb hby d8_80) rfl kt) ?_
      show own_G p.tables e below _ (T132.setTop (mkF m 81 #[.val (.ref p0), .val (.int p1), .val (.int p2), .val (.int (own_scan f g k p1 p2 i).1), .val (.int (own_scan f g k p1 p2 i).2), .val (.int (Int32.ofNat i))] [(.int (p2 - (own_scan f g k p1 p2 i).2))]))
      exact own_retI X132 hx Bd.returns hlk (hb hby d8_81) (Nat.le_of_ble_eq_true rfl) (Nat.le_of_ble_eq_true rfl) eq132 ⟨rfl, N132, rfl⟩
    | succ kk ih =>
      intro i T9 locs hi X9 e9 N9
      have hi0 := own_nat (i := i) (by omega)
      have hni := own_clamp (i := i) (by omega)
      have hib : 0 ≤ (Int32.ofNat i).toInt ∧ (Int32.ofNat i).toInt < ((4 : Nat) : Int) := by omega
      show own_G p.tables e below _ (T9.setTop (mkF m 8 #[.val (.ref p0), .val (.int p1), .val (.int p2), .val (.int (own_scan f g k p1 p2 i).1), .val (.int (own_scan f g k p1 p2 i).2), .val (.int (Int32.ofNat i))] []))
      refine own_go (fun _ kt => XS.iload X9.here hx rfl (hb hby d8_8) rfl kt) ?_
      show own_G p.tables e below _ (T9.setTop (mkF m 10 #[.val (.ref p0), .val (.int p1), .val (.int p2), .val (.int (own_scan f g k p1 p2 i).1), .val (.int (own_scan f g k p1 p2 i).2), .val (.int (Int32.ofNat i))] [(.int (Int32.ofNat i))]))
      refine own_go (fun _ kt => XS.aloadN X9.here hx rfl (hb hby d8_10) rfl rfl kt) ?_
      show own_G p.tables e below _ (T9.setTop (mkF m 11 #[.val (.ref p0), .val (.int p1), .val (.int p2), .val (.int (own_scan f g k p1 p2 i).1), .val (.int (own_scan f g k p1 p2 i).2), .val (.int (Int32.ofNat i))] [(.ref p0), (.int (Int32.ofNat i))]))
      obtain ⟨T133, X133, e133, st133⟩ := getF X9 hx hZ hown (host := "") (Or.inl (hw _ (List.mem_of_getElem? (i := 28) rfl))) Via.refl e9 F_ps (g := (mkF m 11 #[.val (.ref p0), .val (.int p1), .val (.int p2), .val (.int (own_scan f g k p1 p2 i).1), .val (.int (own_scan f g k p1 p2 i).2), .val (.int (Int32.ofNat i))] [(.ref p0), (.int (Int32.ofNat i))])) rfl rfl (hb hby d8_11)
      refine own_go st133 ?_
      show own_G p.tables e below _ (T133.setTop (mkF m 14 #[.val (.ref p0), .val (.int p1), .val (.int p2), .val (.int (own_scan f g k p1 p2 i).1), .val (.int (own_scan f g k p1 p2 i).2), .val (.int (Int32.ofNat i))] [(.int ps), (.int (Int32.ofNat i))]))
      refine own_go (fun _ kt => XS.iconst X133.here hx rfl (hb hby d8_14) kt) ?_
      show own_G p.tables e below _ (T133.setTop (mkF m 15 #[.val (.ref p0), .val (.int p1), .val (.int p2), .val (.int (own_scan f g k p1 p2 i).1), .val (.int (own_scan f g k p1 p2 i).2), .val (.int (Int32.ofNat i))] [(.int (4 : Int32)), (.int ps), (.int (Int32.ofNat i))]))
      obtain ⟨_, _, ⟨T134, L134, k134, n134⟩, -, X134, ⟨Lc134, hQ134, l134, y134, z134⟩, st134⟩ := Jvm.LawKit.callS X133 hx (y := (⟨"java/lang/Math", "min", "(II)I"⟩ : MethodName)) hown (mvT hZ (hw _ (List.mem_of_getElem? (i := 58) rfl))) (mvT hZ (hw _ (List.mem_of_getElem? (i := 59) rfl))) (mvT hZ (hw _ (List.mem_of_getElem? (i := 60) rfl))) (mvT hZ (hw _ (List.mem_of_getElem? (i := 61) rfl))) (by decide) (backOf (W := 1) (rm_minI l Z a0 hw [] ps (4 : Int32)  h0 n0 Z0 ) hZ (hw _ (List.mem_of_getElem? (i := 61) rfl)) (hw _ (List.mem_of_getElem? (i := 60) rfl)) (by decide) (by decide)) (g := (mkF m 15 #[.val (.ref p0), .val (.int p1), .val (.int p2), .val (.int (own_scan f g k p1 p2 i).1), .val (.int (own_scan f g k p1 p2 i).2), .val (.int (Int32.ofNat i))] [(.int (4 : Int32)), (.int ps), (.int (Int32.ofNat i))])) rfl (by rw [hml]; rfl) (argsL := [(.int ps), (.int (4 : Int32))]) (rest := [(.int (Int32.ofNat i))]) (lenOf pd__II_I rfl) rfl (by show 2 * 0 + _ ≤ _; exact Nat.le_of_eq rfl) (hb hby d8_15) (fun _ _ => ⟨rfl, e133, (Nat.le_of_ble_eq_true rfl), (Nat.le_of_ble_eq_true rfl)⟩)
      dsimp only [Pt.U, Pt.locs, Pt.cells, Pt.slots] at X134 l134 y134 z134 st134 hQ134
      subst l134 y134 z134
      obtain ⟨r, rfl, Nq134, eq134, hr⟩ := hQ134
      have N134 := Fr.app N9 Nq134
      refine own_go st134 ?_
      have h4 : (4 : Int32).toInt = 4 := rfl
      show own_G p.tables e below _ (T134.setTop (mkF m 18 #[.val (.ref p0), .val (.int p1), .val (.int p2), .val (.int (own_scan f g k p1 p2 i).1), .val (.int (own_scan f g k p1 p2 i).2), .val (.int (Int32.ofNat i))] [(.int r), (.int (Int32.ofNat i))]))
      refine own_go (fun _ kt => XS.icmpNo X134.here hx rfl (hb hby d8_18) rfl (tlt (by rw [Int32.lt_iff_toInt_lt]; omega : (Int32.ofNat i) < r)).2.1 kt) ?_
      show own_G p.tables e below _ (T134.setTop (mkF m 21 #[.val (.ref p0), .val (.int p1), .val (.int p2), .val (.int (own_scan f g k p1 p2 i).1), .val (.int (own_scan f g k p1 p2 i).2), .val (.int (Int32.ofNat i))] []))
      refine own_go (fun _ kt => XS.aloadN X134.here hx rfl (hb hby d8_21) rfl rfl kt) ?_
      show own_G p.tables e below _ (T134.setTop (mkF m 22 #[.val (.ref p0), .val (.int p1), .val (.int p2), .val (.int (own_scan f g k p1 p2 i).1), .val (.int (own_scan f g k p1 p2 i).2), .val (.int (Int32.ofNat i))] [(.ref p0)]))
      obtain ⟨T135, X135, e135, st135⟩ := getF X134 hx hZ hown (host := "") (Or.inl (hw _ (List.mem_of_getElem? (i := 15) rfl))) Via.refl eq134 F_wl (g := (mkF m 22 #[.val (.ref p0), .val (.int p1), .val (.int p2), .val (.int (own_scan f g k p1 p2 i).1), .val (.int (own_scan f g k p1 p2 i).2), .val (.int (Int32.ofNat i))] [(.ref p0)])) rfl rfl (hb hby d8_22)
      refine own_go st135 ?_
      show own_G p.tables e below _ (T135.setTop (mkF m 25 #[.val (.ref p0), .val (.int p1), .val (.int p2), .val (.int (own_scan f g k p1 p2 i).1), .val (.int (own_scan f g k p1 p2 i).2), .val (.int (Int32.ofNat i))] [(.ref wl)]))
      refine own_go (fun _ kt => XS.iload X135.here hx rfl (hb hby d8_25) rfl kt) ?_
      show own_G p.tables e below _ (T135.setTop (mkF m 27 #[.val (.ref p0), .val (.int p1), .val (.int p2), .val (.int (own_scan f g k p1 p2 i).1), .val (.int (own_scan f g k p1 p2 i).2), .val (.int (Int32.ofNat i))] [(.int (Int32.ofNat i)), (.ref wl)]))
      refine own_go (own_ldI X135 hx hZ e135 V_l (j := (Int32.ofNat i)) (v := (.int (f i))) hib.1 hib.2 (congrArg (fun j => Value.int (f j)) hni) (g := (mkF m 27 #[.val (.ref p0), .val (.int p1), .val (.int p2), .val (.int (own_scan f g k p1 p2 i).1), .val (.int (own_scan f g k p1 p2 i).2), .val (.int (Int32.ofNat i))] [(.int (Int32.ofNat i)), (.ref wl)])) rfl rfl (hb hby d8_27)) ?_
      show own_G p.tables e below _ (T135.setTop (mkF m 28 #[.val (.ref p0), .val (.int p1), .val (.int p2), .val (.int (own_scan f g k p1 p2 i).1), .val (.int (own_scan f g k p1 p2 i).2), .val (.int (Int32.ofNat i))] [(.int (f i))]))
      refine own_go (fun _ kt => XS.iloadN X135.here hx rfl (hb hby d8_28) rfl kt) ?_
      by_cases h1 : (f i) = p1
      · show own_G p.tables e below _ (T135.setTop (mkF m 29 #[.val (.ref p0), .val (.int p1), .val (.int p2), .val (.int (own_scan f g k p1 p2 i).1), .val (.int (own_scan f g k p1 p2 i).2), .val (.int (Int32.ofNat i))] [(.int p1), (.int (f i))]))
        refine own_go (fun _ kt => XS.icmpNo X135.here hx rfl (hb hby d8_29) rfl (teq (h1 : (f i) = p1)).2 kt) ?_
        show own_G p.tables e below _ (T135.setTop (mkF m 32 #[.val (.ref p0), .val (.int p1), .val (.int p2), .val (.int (own_scan f g k p1 p2 i).1), .val (.int (own_scan f g k p1 p2 i).2), .val (.int (Int32.ofNat i))] []))
        refine own_go (fun _ kt => XS.aloadN X135.here hx rfl (hb hby d8_32) rfl rfl kt) ?_
        show own_G p.tables e below _ (T135.setTop (mkF m 33 #[.val (.ref p0), .val (.int p1), .val (.int p2), .val (.int (own_scan f g k p1 p2 i).1), .val (.int (own_scan f g k p1 p2 i).2), .val (.int (Int32.ofNat i))] [(.ref p0)]))
        obtain ⟨T136, X136, e136, st136⟩ := getF X135 hx hZ hown (host := "") (Or.inl (hw _ (List.mem_of_getElem? (i := 17) rfl))) Via.refl e135 F_wc (g := (mkF m 33 #[.val (.ref p0), .val (.int p1), .val (.int p2), .val (.int (own_scan f g k p1 p2 i).1), .val (.int (own_scan f g k p1 p2 i).2), .val (.int (Int32.ofNat i))] [(.ref p0)])) rfl rfl (hb hby d8_33)
        refine own_go st136 ?_
        show own_G p.tables e below _ (T136.setTop (mkF m 36 #[.val (.ref p0), .val (.int p1), .val (.int p2), .val (.int (own_scan f g k p1 p2 i).1), .val (.int (own_scan f g k p1 p2 i).2), .val (.int (Int32.ofNat i))] [(.ref wc)]))
        refine own_go (fun _ kt => XS.iload X136.here hx rfl (hb hby d8_36) rfl kt) ?_
        show own_G p.tables e below _ (T136.setTop (mkF m 38 #[.val (.ref p0), .val (.int p1), .val (.int p2), .val (.int (own_scan f g k p1 p2 i).1), .val (.int (own_scan f g k p1 p2 i).2), .val (.int (Int32.ofNat i))] [(.int (Int32.ofNat i)), (.ref wc)]))
        refine own_go (own_ldI X136 hx hZ e136 V_c (j := (Int32.ofNat i)) (v := (.int (g i))) hib.1 hib.2 (congrArg (fun j => Value.int (g j)) hni) (g := (mkF m 38 #[.val (.ref p0), .val (.int p1), .val (.int p2), .val (.int (own_scan f g k p1 p2 i).1), .val (.int (own_scan f g k p1 p2 i).2), .val (.int (Int32.ofNat i))] [(.int (Int32.ofNat i)), (.ref wc)])) rfl rfl (hb hby d8_38)) ?_
        show own_G p.tables e below _ (T136.setTop (mkF m 39 #[.val (.ref p0), .val (.int p1), .val (.int p2), .val (.int (own_scan f g k p1 p2 i).1), .val (.int (own_scan f g k p1 p2 i).2), .val (.int (Int32.ofNat i))] [(.int (g i))]))
        refine own_go (fun _ kt => XS.iloadN X136.here hx rfl (hb hby d8_39) rfl kt) ?_
        by_cases h2 : p2 < (g i)
        · show own_G p.tables e below _ (T136.setTop (mkF m 40 #[.val (.ref p0), .val (.int p1), .val (.int p2), .val (.int (own_scan f g k p1 p2 i).1), .val (.int (own_scan f g k p1 p2 i).2), .val (.int (Int32.ofNat i))] [(.int p2), (.int (g i))]))
          refine own_go (fun _ kt => XS.icmpYes X136.here hx rfl (pc0 := 40) (pc' := 71) rfl (hb hby d8_40) rfl (tlt (h2 : p2 < (g i))).2.2.1 (by decide) (by decide) kt) ?_
          show own_G p.tables e below _ (T136.setTop (mkF m 71 #[.val (.ref p0), .val (.int p1), .val (.int p2), .val (.int (own_scan f g k p1 p2 i).1), .val (.int (own_scan f g k p1 p2 i).2), .val (.int (Int32.ofNat i))] []))
          refine own_go (fun _ kt => XS.iinc X136.here hx rfl (hb hby d8_71) rfl (l' := #[.val (.ref p0), .val (.int p1), .val (.int p2), .val (.int (own_scan f g k p1 p2 i).1), .val (.int (own_scan f g k p1 p2 i).2), .val (.int ((Int32.ofNat i) + (1 : Int32)))]) rfl kt) ?_
          show own_G p.tables e below _ (T136.setTop (mkF m 74 #[.val (.ref p0), .val (.int p1), .val (.int p2), .val (.int (own_scan f g k p1 p2 i).1), .val (.int (own_scan f g k p1 p2 i).2), .val (.int ((Int32.ofNat i) + (1 : Int32)))] []))
          refine own_go (fun _ kt => XS.goto X136.here hx rfl (pc0 := 74) (pc' := 8) rfl (hb hby d8_74) (by decide) (by decide) kt) ?_
          have qq := ih (i + 1) _ _ (by omega) X136 e136 N134
          rw [own_scan_no (fun z => z.2.1 h2)] at qq
          rw [← own_one] at qq
          exact qq
        · show own_G p.tables e below _ (T136.setTop (mkF m 40 #[.val (.ref p0), .val (.int p1), .val (.int p2), .val (.int (own_scan f g k p1 p2 i).1), .val (.int (own_scan f g k p1 p2 i).2), .val (.int (Int32.ofNat i))] [(.int p2), (.int (g i))]))
          refine own_go (fun _ kt => XS.icmpNo X136.here hx rfl (hb hby d8_40) rfl (flt (h2 : ¬ (p2 < (g i)))).2.2.1 kt) ?_
          show own_G p.tables e below _ (T136.setTop (mkF m 43 #[.val (.ref p0), .val (.int p1), .val (.int p2), .val (.int (own_scan f g k p1 p2 i).1), .val (.int (own_scan f g k p1 p2 i).2), .val (.int (Int32.ofNat i))] []))
          refine own_go (fun _ kt => XS.aloadN X136.here hx rfl (hb hby d8_43) rfl rfl kt) ?_
          show own_G p.tables e below _ (T136.setTop (mkF m 44 #[.val (.ref p0), .val (.int p1), .val (.int p2), .val (.int (own_scan f g k p1 p2 i).1), .val (.int (own_scan f g k p1 p2 i).2), .val (.int (Int32.ofNat i))] [(.ref p0)]))
          obtain ⟨T137, X137, e137, st137⟩ := getF X136 hx hZ hown (host := "") (Or.inl (hw _ (List.mem_of_getElem? (i := 17) rfl))) Via.refl e136 F_wc (g := (mkF m 44 #[.val (.ref p0), .val (.int p1), .val (.int p2), .val (.int (own_scan f g k p1 p2 i).1), .val (.int (own_scan f g k p1 p2 i).2), .val (.int (Int32.ofNat i))] [(.ref p0)])) rfl rfl (hb hby d8_44)
          refine own_go st137 ?_
          show own_G p.tables e below _ (T137.setTop (mkF m 47 #[.val (.ref p0), .val (.int p1), .val (.int p2), .val (.int (own_scan f g k p1 p2 i).1), .val (.int (own_scan f g k p1 p2 i).2), .val (.int (Int32.ofNat i))] [(.ref wc)]))
          refine own_go (fun _ kt => XS.iload X137.here hx rfl (hb hby d8_47) rfl kt) ?_
          show own_G p.tables e below _ (T137.setTop (mkF m 49 #[.val (.ref p0), .val (.int p1), .val (.int p2), .val (.int (own_scan f g k p1 p2 i).1), .val (.int (own_scan f g k p1 p2 i).2), .val (.int (Int32.ofNat i))] [(.int (Int32.ofNat i)), (.ref wc)]))
          refine own_go (own_ldI X137 hx hZ e137 V_c (j := (Int32.ofNat i)) (v := (.int (g i))) hib.1 hib.2 (congrArg (fun j => Value.int (g j)) hni) (g := (mkF m 49 #[.val (.ref p0), .val (.int p1), .val (.int p2), .val (.int (own_scan f g k p1 p2 i).1), .val (.int (own_scan f g k p1 p2 i).2), .val (.int (Int32.ofNat i))] [(.int (Int32.ofNat i)), (.ref wc)])) rfl rfl (hb hby d8_49)) ?_
          show own_G p.tables e below _ (T137.setTop (mkF m 50 #[.val (.ref p0), .val (.int p1), .val (.int p2), .val (.int (own_scan f g k p1 p2 i).1), .val (.int (own_scan f g k p1 p2 i).2), .val (.int (Int32.ofNat i))] [(.int (g i))]))
          refine own_go (fun _ kt => XS.iloadN X137.here hx rfl (hb hby d8_50) rfl kt) ?_
          by_cases h3 : (own_scan f g k p1 p2 i).1 < (g i)
          · show own_G p.tables e below _ (T137.setTop (mkF m 51 #[.val (.ref p0), .val (.int p1), .val (.int p2), .val (.int (own_scan f g k p1 p2 i).1), .val (.int (own_scan f g k p1 p2 i).2), .val (.int (Int32.ofNat i))] [(.int (own_scan f g k p1 p2 i).1), (.int (g i))]))
            refine own_go (fun _ kt => XS.icmpNo X137.here hx rfl (hb hby d8_51) rfl (tlt (h3 : (own_scan f g k p1 p2 i).1 < (g i))).2.2.2 kt) ?_
            show own_G p.tables e below _ (T137.setTop (mkF m 54 #[.val (.ref p0), .val (.int p1), .val (.int p2), .val (.int (own_scan f g k p1 p2 i).1), .val (.int (own_scan f g k p1 p2 i).2), .val (.int (Int32.ofNat i))] []))
            refine own_go (fun _ kt => XS.aloadN X137.here hx rfl (hb hby d8_54) rfl rfl kt) ?_
            show own_G p.tables e below _ (T137.setTop (mkF m 55 #[.val (.ref p0), .val (.int p1), .val (.int p2), .val (.int (own_scan f g k p1 p2 i).1), .val (.int (own_scan f g k p1 p2 i).2), .val (.int (Int32.ofNat i))] [(.ref p0)]))
            obtain ⟨T138, X138, e138, st138⟩ := getF X137 hx hZ hown (host := "") (Or.inl (hw _ (List.mem_of_getElem? (i := 17) rfl))) Via.refl e137 F_wc (g := (mkF m 55 #[.val (.ref p0), .val (.int p1), .val (.int p2), .val (.int (own_scan f g k p1 p2 i).1), .val (.int (own_scan f g k p1 p2 i).2), .val (.int (Int32.ofNat i))] [(.ref p0)])) rfl rfl (hb hby d8_55)
            refine own_go st138 ?_
            show own_G p.tables e below _ (T138.setTop (mkF m 58 #[.val (.ref p0), .val (.int p1), .val (.int p2), .val (.int (own_scan f g k p1 p2 i).1), .val (.int (own_scan f g k p1 p2 i).2), .val (.int (Int32.ofNat i))] [(.ref wc)]))
            refine own_go (fun _ kt => XS.iload X138.here hx rfl (hb hby d8_58) rfl kt) ?_
            show own_G p.tables e below _ (T138.setTop (mkF m 60 #[.val (.ref p0), .val (.int p1), .val (.int p2), .val (.int (own_scan f g k p1 p2 i).1), .val (.int (own_scan f g k p1 p2 i).2), .val (.int (Int32.ofNat i))] [(.int (Int32.ofNat i)), (.ref wc)]))
            refine own_go (own_ldI X138 hx hZ e138 V_c (j := (Int32.ofNat i)) (v := (.int (g i))) hib.1 hib.2 (congrArg (fun j => Value.int (g j)) hni) (g := (mkF m 60 #[.val (.ref p0), .val (.int p1), .val (.int p2), .val (.int (own_scan f g k p1 p2 i).1), .val (.int (own_scan f g k p1 p2 i).2), .val (.int (Int32.ofNat i))] [(.int (Int32.ofNat i)), (.ref wc)])) rfl rfl (hb hby d8_60)) ?_
            show own_G p.tables e below _ (T138.setTop (mkF m 61 #[.val (.ref p0), .val (.int p1), .val (.int p2), .val (.int (own_scan f g k p1 p2 i).1), .val (.int (own_scan f g k p1 p2 i).2), .val (.int (Int32.ofNat i))] [(.int (g i))]))
            refine own_go (fun _ kt => XS.istoreN X138.here hx rfl (hb hby d8_61) rfl (l' := #[.val (.ref p0), .val (.int p1), .val (.int p2), .val (.int (g i)), .val (.int (own_scan f g k p1 p2 i).2), .val (.int (Int32.ofNat i))]) rfl kt) ?_
            show own_G p.tables e below _ (T138.setTop (mkF m 62 #[.val (.ref p0), .val (.int p1), .val (.int p2), .val (.int (g i)), .val (.int (own_scan f g k p1 p2 i).2), .val (.int (Int32.ofNat i))] []))
            refine own_go (fun _ kt => XS.aloadN X138.here hx rfl (hb hby d8_62) rfl rfl kt) ?_
            show own_G p.tables e below _ (T138.setTop (mkF m 63 #[.val (.ref p0), .val (.int p1), .val (.int p2), .val (.int (g i)), .val (.int (own_scan f g k p1 p2 i).2), .val (.int (Int32.ofNat i))] [(.ref p0)]))
            obtain ⟨T139, X139, e139, st139⟩ := getF X138 hx hZ hown (host := "") (Or.inl (hw _ (List.mem_of_getElem? (i := 19) rfl))) Via.refl e138 F_wa (g := (mkF m 63 #[.val (.ref p0), .val (.int p1), .val (.int p2), .val (.int (g i)), .val (.int (own_scan f g k p1 p2 i).2), .val (.int (Int32.ofNat i))] [(.ref p0)])) rfl rfl (hb hby d8_63)
            refine own_go st139 ?_
            show own_G p.tables e below _ (T139.setTop (mkF m 66 #[.val (.ref p0), .val (.int p1), .val (.int p2), .val (.int (g i)), .val (.int (own_scan f g k p1 p2 i).2), .val (.int (Int32.ofNat i))] [(.ref wa)]))
            refine own_go (fun _ kt => XS.iload X139.here hx rfl (hb hby d8_66) rfl kt) ?_
            show own_G p.tables e below _ (T139.setTop (mkF m 68 #[.val (.ref p0), .val (.int p1), .val (.int p2), .val (.int (g i)), .val (.int (own_scan f g k p1 p2 i).2), .val (.int (Int32.ofNat i))] [(.int (Int32.ofNat i)), (.ref wa)]))
            refine own_go (own_ldI X139 hx hZ e139 V_a (j := (Int32.ofNat i)) (v := (.int (k i))) hib.1 hib.2 (congrArg (fun j => Value.int (k j)) hni) (g := (mkF m 68 #[.val (.ref p0), .val (.int p1), .val (.int p2), .val (.int (g i)), .val (.int (own_scan f g k p1 p2 i).2), .val (.int (Int32.ofNat i))] [(.int (Int32.ofNat i)), (.ref wa)])) rfl rfl (hb hby d8_68)) ?_
            show own_G p.tables e below _ (T139.setTop (mkF m 69 #[.val (.ref p0), .val (.int p1), .val (.int p2), .val (.int (g i)), .val (.int (own_scan f g k p1 p2 i).2), .val (.int (Int32.ofNat i))] [(.int (k i))]))
            refine own_go (fun _ kt => XS.istore X139.here hx rfl (hb hby d8_69) rfl (l' := #[.val (.ref p0), .val (.int p1), .val (.int p2), .val (.int (g i)), .val (.int (k i)), .val (.int (Int32.ofNat i))]) rfl kt) ?_
            show own_G p.tables e below _ (T139.setTop (mkF m 71 #[.val (.ref p0), .val (.int p1), .val (.int p2), .val (.int (g i)), .val (.int (k i)), .val (.int (Int32.ofNat i))] []))
            refine own_go (fun _ kt => XS.iinc X139.here hx rfl (hb hby d8_71) rfl (l' := #[.val (.ref p0), .val (.int p1), .val (.int p2), .val (.int (g i)), .val (.int (k i)), .val (.int ((Int32.ofNat i) + (1 : Int32)))]) rfl kt) ?_
            show own_G p.tables e below _ (T139.setTop (mkF m 74 #[.val (.ref p0), .val (.int p1), .val (.int p2), .val (.int (g i)), .val (.int (k i)), .val (.int ((Int32.ofNat i) + (1 : Int32)))] []))
            refine own_go (fun _ kt => XS.goto X139.here hx rfl (pc0 := 74) (pc' := 8) rfl (hb hby d8_74) (by decide) (by decide) kt) ?_
            have qq := ih (i + 1) _ _ (by omega) X139 e139 N134
            rw [own_scan_yes h1 h2 h3] at qq
            rw [← own_one] at qq
            exact qq
          · show own_G p.tables e below _ (T137.setTop (mkF m 51 #[.val (.ref p0), .val (.int p1), .val (.int p2), .val (.int (own_scan f g k p1 p2 i).1), .val (.int (own_scan f g k p1 p2 i).2), .val (.int (Int32.ofNat i))] [(.int (own_scan f g k p1 p2 i).1), (.int (g i))]))
            refine own_go (fun _ kt => XS.icmpYes X137.here hx rfl (pc0 := 51) (pc' := 71) rfl (hb hby d8_51) rfl (flt (h3 : ¬ ((own_scan f g k p1 p2 i).1 < (g i)))).2.2.2 (by decide) (by decide) kt) ?_
            show own_G p.tables e below _ (T137.setTop (mkF m 71 #[.val (.ref p0), .val (.int p1), .val (.int p2), .val (.int (own_scan f g k p1 p2 i).1), .val (.int (own_scan f g k p1 p2 i).2), .val (.int (Int32.ofNat i))] []))
            refine own_go (fun _ kt => XS.iinc X137.here hx rfl (hb hby d8_71) rfl (l' := #[.val (.ref p0), .val (.int p1), .val (.int p2), .val (.int (own_scan f g k p1 p2 i).1), .val (.int (own_scan f g k p1 p2 i).2), .val (.int ((Int32.ofNat i) + (1 : Int32)))]) rfl kt) ?_
            show own_G p.tables e below _ (T137.setTop (mkF m 74 #[.val (.ref p0), .val (.int p1), .val (.int p2), .val (.int (own_scan f g k p1 p2 i).1), .val (.int (own_scan f g k p1 p2 i).2), .val (.int ((Int32.ofNat i) + (1 : Int32)))] []))
            refine own_go (fun _ kt => XS.goto X137.here hx rfl (pc0 := 74) (pc' := 8) rfl (hb hby d8_74) (by decide) (by decide) kt) ?_
            have qq := ih (i + 1) _ _ (by omega) X137 e137 N134
            rw [own_scan_no (fun z => h3 z.2.2)] at qq
            rw [← own_one] at qq
            exact qq
      · show own_G p.tables e below _ (T135.setTop (mkF m 29 #[.val (.ref p0), .val (.int p1), .val (.int p2), .val (.int (own_scan f g k p1 p2 i).1), .val (.int (own_scan f g k p1 p2 i).2), .val (.int (Int32.ofNat i))] [(.int p1), (.int (f i))]))
        refine own_go (fun _ kt => XS.icmpYes X135.here hx rfl (pc0 := 29) (pc' := 71) rfl (hb hby d8_29) rfl (feq (h1 : ¬ ((f i) = p1))).2 (by decide) (by decide) kt) ?_
        show own_G p.tables e below _ (T135.setTop (mkF m 71 #[.val (.ref p0), .val (.int p1), .val (.int p2), .val (.int (own_scan f g k p1 p2 i).1), .val (.int (own_scan f g k p1 p2 i).2), .val (.int (Int32.ofNat i))] []))
        refine own_go (fun _ kt => XS.iinc X135.here hx rfl (hb hby d8_71) rfl (l' := #[.val (.ref p0), .val (.int p1), .val (.int p2), .val (.int (own_scan f g k p1 p2 i).1), .val (.int (own_scan f g k p1 p2 i).2), .val (.int ((Int32.ofNat i) + (1 : Int32)))]) rfl kt) ?_
        show own_G p.tables e below _ (T135.setTop (mkF m 74 #[.val (.ref p0), .val (.int p1), .val (.int p2), .val (.int (own_scan f g k p1 p2 i).1), .val (.int (own_scan f g k p1 p2 i).2), .val (.int ((Int32.ofNat i) + (1 : Int32)))] []))
        refine own_go (fun _ kt => XS.goto X135.here hx rfl (pc0 := 74) (pc' := 8) rfl (hb hby d8_74) (by decide) (by decide) kt) ?_
        have qq := ih (i + 1) _ _ (by omega) X135 e135 N134
        rw [own_scan_no (fun z => h1 z.1)] at qq
        rw [← own_one] at qq
        exact qq
  show own_G p.tables e below _ (s₁.setTop (mkF m 0 #[.val (.ref p0), .val (.int p1), .val (.int p2), .unset, .unset, .unset] []))
  refine own_go (fun _ kt => XS.iconst X0.here hx rfl (hb hby d8_0) kt) ?_
  show own_G p.tables e below _ (s₁.setTop (mkF m 1 #[.val (.ref p0), .val (.int p1), .val (.int p2), .unset, .unset, .unset] [(.int (0 : Int32))]))
  refine own_go (fun _ kt => XS.istoreN X0.here hx rfl (hb hby d8_1) rfl (l' := #[.val (.ref p0), .val (.int p1), .val (.int p2), .val (.int (0 : Int32)), .unset, .unset]) rfl kt) ?_
  show own_G p.tables e below _ (s₁.setTop (mkF m 2 #[.val (.ref p0), .val (.int p1), .val (.int p2), .val (.int (0 : Int32)), .unset, .unset] []))
  refine own_go (fun _ kt => XS.iconst X0.here hx rfl (hb hby d8_2) kt) ?_
  show own_G p.tables e below _ (s₁.setTop (mkF m 3 #[.val (.ref p0), .val (.int p1), .val (.int p2), .val (.int (0 : Int32)), .unset, .unset] [(.int (0 : Int32))]))
  refine own_go (fun _ kt => XS.istore X0.here hx rfl (hb hby d8_3) rfl (l' := #[.val (.ref p0), .val (.int p1), .val (.int p2), .val (.int (0 : Int32)), .val (.int (0 : Int32)), .unset]) rfl kt) ?_
  show own_G p.tables e below _ (s₁.setTop (mkF m 5 #[.val (.ref p0), .val (.int p1), .val (.int p2), .val (.int (0 : Int32)), .val (.int (0 : Int32)), .unset] []))
  refine own_go (fun _ kt => XS.iconst X0.here hx rfl (hb hby d8_5) kt) ?_
  show own_G p.tables e below _ (s₁.setTop (mkF m 6 #[.val (.ref p0), .val (.int p1), .val (.int p2), .val (.int (0 : Int32)), .val (.int (0 : Int32)), .unset] [(.int (0 : Int32))]))
  refine own_go (fun _ kt => XS.istore X0.here hx rfl (hb hby d8_6) rfl (l' := #[.val (.ref p0), .val (.int p1), .val (.int p2), .val (.int (0 : Int32)), .val (.int (0 : Int32)), .val (.int (0 : Int32))]) rfl kt) ?_
  exact loop n 0 _ _ (by omega) X0 e0 N0
theorem own_addI {x y : Int32} (h : -2147483648 ≤ x.toInt + y.toInt ∧ x.toInt + y.toInt < 2147483648) : (x + y).toInt = x.toInt + y.toInt := by
  have a := c_iadd x y
  have r := rng32 (x + y)
  omega
theorem own_mask (x : Int32) : 0 ≤ (x &&& (65535 : Int32)).toInt ∧ (x &&& (65535 : Int32)).toInt < 65536 := by
  have h := c_mask x 65535 16 (by decide) (by decide)
  omega
def own_ans (lq q ln c1 c2 a1 a2 : Int32) : Int32 := if lq = ln ∧ ¬ (q < c2) then a2 else if lq = 1 ∧ ¬ (q < c1) then a1 else 0
theorem own_two {f g k : Nat → Int32} {lq q ln c1 c2 a1 a2 : Int32} (f0 : f 0 = 1) (g0 : g 0 = c1) (k0 : k 0 = a1) (f1 : f 1 = ln) (g1 : g 1 = c2) (k1 : k 1 = a2) (hc1 : 0 < c1.toInt) (hc2 : 0 < c2.toInt) (h : ln = 1 → c1.toInt ≤ c2.toInt ∧ (c1 = c2 → a1 = a2)) :
    (own_scan f g k lq q 2).2 = own_ans lq q ln c1 c2 a1 a2 := by
  have z : (0 : Int32).toInt = 0 := rfl
  have p1 : (0 : Int32) < c1 := by rw [Int32.lt_iff_toInt_lt]; omega
  have p2 : (0 : Int32) < c2 := by rw [Int32.lt_iff_toInt_lt]; omega
  simp only [own_scan, f0, g0, k0, f1, g1, k1, own_ans]
  by_cases e1 : lq = 1
  · subst e1
    by_cases e2 : ln = 1
    · subst e2
      obtain ⟨h3, h4⟩ := h rfl
      by_cases q1 : q < c1
      · have q2 : q < c2 := by rw [Int32.lt_iff_toInt_lt] at q1 ⊢; omega
        simp [q1, q2]
      · by_cases q2 : q < c2
        · simp [q1, q2, p1]
        · by_cases q3 : c1 < c2
          · simp [q1, q2, p1, q3]
          · have e3 : c1 = c2 := by rw [Int32.lt_iff_toInt_lt] at q3; apply Int32.toInt_inj.mp; omega
            simp [q1, q2, p1, q3, h4 e3]
    · have e3 : ¬ ((1 : Int32) = ln) := fun e => e2 e.symm
      by_cases q1 : q < c1
      · simp [q1, e2, e3]
      · simp [q1, e2, e3, p1]
  · have e4 : ¬ ((1 : Int32) = lq) := fun e => e1 e.symm
    by_cases e2 : lq = ln
    · subst e2
      by_cases q2 : q < c2
      · simp [e1, e4, q2]
      · simp [e1, e4, q2, p2]
    · have e3 : ¬ (ln = lq) := fun e => e2 e.symm
      simp [e1, e2, e3, e4]
theorem own_four {f g k : Nat → Int32} {lq q ln c1 c2 a1 a2 : Int32} (f0 : f 0 = ln) (g0 : g 0 = c2) (k0 : k 0 = a2) (f1 : f 1 = 1) (g1 : g 1 = 1) (k1 : k 1 = 0) (f2 : f 2 = 1) (g2 : g 2 = 1) (k2 : k 2 = 0) (f3 : f 3 = 1) (g3 : g 3 = c1) (k3 : k 3 = a1)
    (hc1 : 0 < c1.toInt) (hc2 : 0 < c2.toInt) (h : ln = 1 → c1.toInt ≤ c2.toInt ∧ (c1 = c2 → a1 = a2)) (ha : c1 = 1 → a1 = 0) :
    (own_scan f g k lq q 4).2 = own_ans lq q ln c1 c2 a1 a2 := by
  have z : (0 : Int32).toInt = 0 := rfl
  have z1 : (1 : Int32).toInt = 1 := rfl
  have p0 : (0 : Int32) < 1 := by decide
  have p1 : (0 : Int32) < c1 := by rw [Int32.lt_iff_toInt_lt]; omega
  have p2 : (0 : Int32) < c2 := by rw [Int32.lt_iff_toInt_lt]; omega
  have pc : ¬ (c2 < 1) := by rw [Int32.lt_iff_toInt_lt]; omega
  have ir : ∀ x : Int32, ¬ (x < x) := fun x => by rw [Int32.lt_iff_toInt_lt]; omega
  simp only [own_scan, f0, g0, k0, f1, g1, k1, f2, g2, k2, f3, g3, k3, own_ans]
  by_cases e1 : lq = 1
  · subst e1
    by_cases e2 : ln = 1
    · subst e2
      obtain ⟨h3, h4⟩ := h rfl
      by_cases q2 : q < c2
      · by_cases q1 : q < c1
        · by_cases q3 : q < 1
          · simp [q1, q2, q3]
          · simp [q1, q2, q3, p0, ir]
        · have q3 : ¬ (q < 1) := by rw [Int32.lt_iff_toInt_lt] at q1 ⊢; omega
          by_cases q4 : 1 < c1
          · simp [q1, q2, q3, p0, ir, q4]
          · have e3 : c1 = 1 := by rw [Int32.lt_iff_toInt_lt] at q4; apply Int32.toInt_inj.mp; omega
            simp [q1, q2, q3, p0, ir, q4, ha e3]
      · have q1 : ¬ (q < c1) := by rw [Int32.lt_iff_toInt_lt] at q2 ⊢; omega
        have q3 : ¬ (q < 1) := by rw [Int32.lt_iff_toInt_lt] at q2 ⊢; omega
        have q4 : ¬ (c2 < c1) := by rw [Int32.lt_iff_toInt_lt]; omega
        simp [q1, q2, q3, p2, pc, q4]
    · have e3 : ¬ ((1 : Int32) = ln) := fun e => e2 e.symm
      by_cases q1 : q < c1
      · by_cases q3 : q < 1
        · simp [q1, q3, e2, e3]
        · simp [q1, q3, e2, e3, p0, ir]
      · have q3 : ¬ (q < 1) := by rw [Int32.lt_iff_toInt_lt] at q1 ⊢; omega
        by_cases q4 : 1 < c1
        · simp [q1, q3, e2, e3, p0, ir, q4]
        · have e5 : c1 = 1 := by rw [Int32.lt_iff_toInt_lt] at q4; apply Int32.toInt_inj.mp; omega
          simp [q1, q3, e2, e3, p0, ir, q4, ha e5]
  · have e4 : ¬ ((1 : Int32) = lq) := fun e => e1 e.symm
    by_cases e2 : lq = ln
    · subst e2
      by_cases q2 : q < c2
      · simp [e1, e4, q2]
      · simp [e1, e4, q2, p2]
    · have e3 : ¬ (ln = lq) := fun e => e2 e.symm
      simp [e1, e2, e3, e4]
/-- the arrays behind both puts, whichever places they took -/
theorem own_both {f g k : Nat → Int32} {ps lq q ln c1 c2 a1 a2 : Int32} {n : Nat} (hn : (n : Int) = min (ps + 1 + 1).toInt 4)
    (hps : ps = 0 ∨ (ps = 3 ∧ f 0 = 1 ∧ f 1 = 1 ∧ f 2 = 1 ∧ g 0 = 1 ∧ g 1 = 1 ∧ g 2 = 1 ∧ k 0 = 0 ∧ k 1 = 0 ∧ k 2 = 0))
    (hc1 : 0 < c1.toInt) (hc2 : 0 < c2.toInt) (h : ln = 1 → c1.toInt ≤ c2.toInt ∧ (c1 = c2 → a1 = a2)) (ha : c1 = 1 → a1 = 0) :
    (own_scan (own_updI (own_updI f (ps % (4 : Int32)).toNatClampNeg 1) ((ps + 1) % (4 : Int32)).toNatClampNeg ln) (own_updI (own_updI g (ps % (4 : Int32)).toNatClampNeg c1) ((ps + 1) % (4 : Int32)).toNatClampNeg c2) (own_updI (own_updI k (ps % (4 : Int32)).toNatClampNeg a1) ((ps + 1) % (4 : Int32)).toNatClampNeg a2) lq q n).2 = own_ans lq q ln c1 c2 a1 a2 := by
  rcases hps with rfl | ⟨rfl, f0, f1, f2, g0, g1, g2, k0, k1, k2⟩
  · have e0 : ((0 : Int32) % (4 : Int32)).toNatClampNeg = 0 := by decide
    have e1 : (((0 : Int32) + 1) % (4 : Int32)).toNatClampNeg = 1 := by decide
    have e2 : ((0 : Int32) + 1 + 1).toInt = 2 := by decide
    have e3 : n = 2 := by omega
    rw [e0, e1, e3]
    exact own_two (by simp [own_updI]) (by simp [own_updI]) (by simp [own_updI]) (by simp [own_updI]) (by simp [own_updI]) (by simp [own_updI]) hc1 hc2 h
  · have e0 : ((3 : Int32) % (4 : Int32)).toNatClampNeg = 3 := by decide
    have e1 : (((3 : Int32) + 1) % (4 : Int32)).toNatClampNeg = 0 := by decide
    have e2 : ((3 : Int32) + 1 + 1).toInt = 5 := by decide
    have e3 : n = 4 := by omega
    rw [e0, e1, e3]
    exact own_four (by simp [own_updI]) (by simp [own_updI]) (by simp [own_updI]) (by simp [own_updI, f1]) (by simp [own_updI, g1]) (by simp [own_updI, k1]) (by simp [own_updI, f2]) (by simp [own_updI, g2]) (by simp [own_updI, k2]) (by simp [own_updI]) (by simp [own_updI]) (by simp [own_updI]) hc1 hc2 h ha
theorem own_here (x a b c d : Int32) : x + a + c = x + a + b + c + d - (0 + b + d) := by
  rw [Int32.zero_add]
  apply Int32.toBitVec_inj.mp
  simp only [Int32.toBitVec_add, Int32.toBitVec_sub]
  generalize x.toBitVec = x, a.toBitVec = a, b.toBitVec = b, c.toBitVec = c, d.toBitVec = d
  apply BitVec.eq_of_toNat_eq
  simp only [BitVec.toNat_add, BitVec.toNat_sub]
  omega
theorem own_here2 (x c d : Int32) : x + c = x + c + d - (0 + d) := by
  rw [Int32.zero_add, Int32.add_sub_cancel]
theorem pd__I_V : parseMethodDescriptor "(I)V" = some ⟨[.int], none⟩ := by decide +kernel
theorem pd___I : parseMethodDescriptor "()I" = some ⟨[], some .int⟩ := by decide +kernel
theorem pd__II_V : parseMethodDescriptor "(II)V" = some ⟨[.int, .int], none⟩ := by decide +kernel
theorem pn_polytsia_marcxml_PlacePutPinLaw : plainName "polytsia/marcxml/PlacePutPinLaw" = true := by first | (simp [plainName, overriddenIn]; done) | decide +kernel
theorem ef_law (m : MethodId) (p0 : Int32) (p1 : Int32) (p2 : Int32) (p3 : Int32) (p4 : Int32) (p5 : Int32) : entryFrame m #[(.int p0), (.int p1), (.int p2), (.int p3), (.int p4), (.int p5)] maxLocals = mkF m 0 #[.val (.int p0), .val (.int p1), .val (.int p2), .val (.int p3), .val (.int p4), .val (.int p5), .unset, .unset, .unset, .unset, .unset, .unset, .unset, .unset, .unset, .unset, .unset, .unset, .unset, .unset] [] := by first | (simp [entryFrame, mkF, argsToLocals, Value.category, maxLocals]; done) | rfl
def Q_law (Z : State) (p0 : Int32) (p1 : Int32) (p2 : Int32) (p3 : Int32) (p4 : Int32) (p5 : Int32) (h0 : Heap) (n0 : Nat) (v : Option Value) (h : Heap) (L : List Loc) : Prop := v = some (.int (1 : Int32)) ∧ Fr n0 L
set_option maxRecDepth 65536 in
set_option maxHeartbeats 40000000 in
theorem rm_law (l : Launch) (Z : State) (a0 : Array Value) (hw : ∀ d ∈ tables_1, d.before a0 Z = true) (ws : List Jvm.Cond) (p0 : Int32) (p1 : Int32) (p2 : Int32) (p3 : Int32) (p4 : Int32) (p5 : Int32) (h0 : Heap) (n0 : Nat) (Z0 : n0 ≤ h0.size) :
    MetFree l x (head1 (Jvm.Cond.code x code maxLocals ret :: ws) room_1) (fun a U => a = #[(.int p0), (.int p1), (.int p2), (.int p3), (.int p4), (.int p5)] ∧ Z.Warmed39 U.vm ∧ U.heap = h0) (fun _ _ _ _ _ => True) (fun _ U o U' => ∃ v L, o = .returned v ∧ Q_law Z p0 p1 p2 p3 p4 p5 h0 n0 v U'.heap L ∧ FrameEnd U o U' L room_1.cells room_1.slots) := by
  refine MetFree.of_bodySF (plainFor_of_name pn_polytsia_marcxml_PlacePutPinLaw) hisR ?_
  intro p e s m args below meth kc s₁ Bd hml0 hP hK
  obtain ⟨rfl, hZ, hh⟩ := hP
  have hx := Bd.exec
  have hby := Bd.bytes
  have hlk := Bd.notSynchronized
  have hml : kc.maxLocals = 20 := hml0
  have hown : s.vm.findClass "polytsia/marcxml/PlacePutPinLaw" = some m.cls := findClass_of_methodNamed Bd.named
  have hnm := (name_of_methodNamed Bd.named Bd.method).1
  have X0 : Stand p l e room_1 s m #[(.int p0), (.int p1), (.int p2), (.int p3), (.int p4), (.int p5)] below meth kc s₁ [] 0 0 := Stand.of_body Bd
  have e0 : s₁.heap = h0 := by rw [← hh, Bd.state]; rfl
  have N0 := Fr.nil n0
  show own_G p.tables e below (own_E below s room_1.cells room_1.slots (Q_law Z p0 p1 p2 p3 p4 p5 h0 n0)) _
  refine own_go (fun _ k => castTop (ef_law m p0 p1 p2 p3 p4 p5) k) ?_
  have j24 : ∀ (T140 : State) (locs140 : List Loc) (h140 : Heap) (pa pb pc pd : Int32), Stand p l e room_1 s m #[(.int p0), (.int p1), (.int p2), (.int p3), (.int p4), (.int p5)] below meth kc T140 locs140 0 0 → T140.heap = h140 → Fr n0 locs140 → n0 ≤ h140.size → (0 ≤ pa.toInt ∧ pa.toInt < 65536) → (0 ≤ pb.toInt ∧ pb.toInt < 65536) → (0 ≤ pc.toInt ∧ pc.toInt < 65536) → (0 ≤ pd.toInt ∧ pd.toInt < 65536) → own_G p.tables e below (own_E below s room_1.cells room_1.slots (Q_law Z p0 p1 p2 p3 p4 p5 h0 n0)) (T140.setTop (mkF m 24 #[.val (.int p0), .val (.int p1), .val (.int p2), .val (.int p3), .val (.int p4), .val (.int p5), .val (.int pa), .val (.int pb), .val (.int pc), .val (.int pd), .unset, .unset, .unset, .unset, .unset, .unset, .unset, .unset, .unset, .unset] [])) := by
    intro T140 locs140 h140 pa pb pc pd X140 e140 N140 Z140 ba bb bc bd
    have z1 : (1 : Int32).toInt = 1 := rfl
    have z0 : (0 : Int32).toInt = 0 := rfl
    have j38 : ∀ (T141 : State) (locs141 : List Loc) (h141 : Heap) (w10 : Int32), Stand p l e room_1 s m #[(.int p0), (.int p1), (.int p2), (.int p3), (.int p4), (.int p5)] below meth kc T141 locs141 0 0 → T141.heap = h141 → Fr n0 locs141 → n0 ≤ h141.size → own_G p.tables e below (own_E below s room_1.cells room_1.slots (Q_law Z p0 p1 p2 p3 p4 p5 h0 n0)) (T141.setTop (mkF m 38 #[.val (.int p0), .val (.int p1), .val (.int p2), .val (.int p3), .val (.int p4), .val (.int p5), .val (.int pa), .val (.int pb), .val (.int pc), .val (.int pd), .val (.int w10), .unset, .unset, .unset, .unset, .unset, .unset, .unset, .unset, .unset] [])) := by
      intro T141 locs141 h141 w10 X141 e141 N141 Z141 
      have j52 : ∀ (T142 : State) (locs142 : List Loc) (h142 : Heap) (n11 : Int32), Stand p l e room_1 s m #[(.int p0), (.int p1), (.int p2), (.int p3), (.int p4), (.int p5)] below meth kc T142 locs142 0 0 → T142.heap = h142 → Fr n0 locs142 → n0 ≤ h142.size → own_G p.tables e below (own_E below s room_1.cells room_1.slots (Q_law Z p0 p1 p2 p3 p4 p5 h0 n0)) (T142.setTop (mkF m 52 #[.val (.int p0), .val (.int p1), .val (.int p2), .val (.int p3), .val (.int p4), .val (.int p5), .val (.int pa), .val (.int pb), .val (.int pc), .val (.int pd), .val (.int w10), .val (.int n11), .unset, .unset, .unset, .unset, .unset, .unset, .unset, .unset] [])) := by
        intro T142 locs142 h142 n11 X142 e142 N142 Z142 
        show own_G p.tables e below _ (T142.setTop (mkF m 52 #[.val (.int p0), .val (.int p1), .val (.int p2), .val (.int p3), .val (.int p4), .val (.int p5), .val (.int pa), .val (.int pb), .val (.int pc), .val (.int pd), .val (.int w10), .val (.int n11), .unset, .unset, .unset, .unset, .unset, .unset, .unset, .unset] []))
        refine own_go (fun _ kt => XS.iload X142.here hx rfl (hb hby at_52) rfl kt) ?_
        show own_G p.tables e below _ (T142.setTop (mkF m 54 #[.val (.int p0), .val (.int p1), .val (.int p2), .val (.int p3), .val (.int p4), .val (.int p5), .val (.int pa), .val (.int pb), .val (.int pc), .val (.int pd), .val (.int w10), .val (.int n11), .unset, .unset, .unset, .unset, .unset, .unset, .unset, .unset] [(.int p5)]))
        refine own_go (fun _ kt => XS.iconst X142.here hx rfl (hb hby at_54) kt) ?_
        show own_G p.tables e below _ (T142.setTop (mkF m 55 #[.val (.int p0), .val (.int p1), .val (.int p2), .val (.int p3), .val (.int p4), .val (.int p5), .val (.int pa), .val (.int pb), .val (.int pc), .val (.int pd), .val (.int w10), .val (.int n11), .unset, .unset, .unset, .unset, .unset, .unset, .unset, .unset] [(.int (2 : Int32)), (.int p5)]))
        refine own_go (fun _ kt => XS.ishr X142.here hx rfl (hb hby at_55) rfl kt) ?_
        show own_G p.tables e below _ (T142.setTop (mkF m 56 #[.val (.int p0), .val (.int p1), .val (.int p2), .val (.int p3), .val (.int p4), .val (.int p5), .val (.int pa), .val (.int pb), .val (.int pc), .val (.int pd), .val (.int w10), .val (.int n11), .unset, .unset, .unset, .unset, .unset, .unset, .unset, .unset] [(.int (p5 >>> ((2 : Int32) &&& 31)))]))
        refine own_go (fun _ kt => XS.iconst X142.here hx rfl (hb hby at_56) kt) ?_
        show own_G p.tables e below _ (T142.setTop (mkF m 57 #[.val (.int p0), .val (.int p1), .val (.int p2), .val (.int p3), .val (.int p4), .val (.int p5), .val (.int pa), .val (.int pb), .val (.int pc), .val (.int pd), .val (.int w10), .val (.int n11), .unset, .unset, .unset, .unset, .unset, .unset, .unset, .unset] [(.int (3 : Int32)), (.int (p5 >>> ((2 : Int32) &&& 31)))]))
        refine own_go (fun _ kt => XS.iand X142.here hx rfl (hb hby at_57) rfl kt) ?_
        show own_G p.tables e below _ (T142.setTop (mkF m 58 #[.val (.int p0), .val (.int p1), .val (.int p2), .val (.int p3), .val (.int p4), .val (.int p5), .val (.int pa), .val (.int pb), .val (.int pc), .val (.int pd), .val (.int w10), .val (.int n11), .unset, .unset, .unset, .unset, .unset, .unset, .unset, .unset] [(.int ((p5 >>> ((2 : Int32) &&& 31)) &&& (3 : Int32)))]))
        refine own_go (fun _ kt => XS.istore X142.here hx rfl (hb hby at_58) rfl (l' := #[.val (.int p0), .val (.int p1), .val (.int p2), .val (.int p3), .val (.int p4), .val (.int p5), .val (.int pa), .val (.int pb), .val (.int pc), .val (.int pd), .val (.int w10), .val (.int n11), .val (.int ((p5 >>> ((2 : Int32) &&& 31)) &&& (3 : Int32))), .unset, .unset, .unset, .unset, .unset, .unset, .unset]) rfl kt) ?_
        show own_G p.tables e below _ (T142.setTop (mkF m 60 #[.val (.int p0), .val (.int p1), .val (.int p2), .val (.int p3), .val (.int p4), .val (.int p5), .val (.int pa), .val (.int pb), .val (.int pc), .val (.int pd), .val (.int w10), .val (.int n11), .val (.int ((p5 >>> ((2 : Int32) &&& 31)) &&& (3 : Int32))), .unset, .unset, .unset, .unset, .unset, .unset, .unset] []))
        generalize ((p5 >>> ((2 : Int32) &&& 31)) &&& (3 : Int32)) = lq
        show own_G p.tables e below _ (T142.setTop (mkF m 60 #[.val (.int p0), .val (.int p1), .val (.int p2), .val (.int p3), .val (.int p4), .val (.int p5), .val (.int pa), .val (.int pb), .val (.int pc), .val (.int pd), .val (.int w10), .val (.int n11), .val (.int lq), .unset, .unset, .unset, .unset, .unset, .unset, .unset] []))
        obtain ⟨T143, h143, X143, e143, E143, A143, D143, -, st143⟩ := newO X142 hx hZ hown (hw _ (List.mem_of_getElem? (i := 1) rfl)) (hw _ (List.mem_of_getElem? (i := 2) rfl)) (hw _ (List.mem_of_getElem? (i := 3) rfl)) e142 (g := (mkF m 60 #[.val (.int p0), .val (.int p1), .val (.int p2), .val (.int p3), .val (.int p4), .val (.int p5), .val (.int pa), .val (.int pb), .val (.int pc), .val (.int pd), .val (.int w10), .val (.int n11), .val (.int lq), .unset, .unset, .unset, .unset, .unset, .unset, .unset] [])) rfl (hb hby at_60) (Nat.le_of_ble_eq_true rfl) (Nat.le_of_ble_eq_true rfl)
        obtain ⟨b143, g143⟩ : ∃ z, z = h142.size := ⟨_, rfl⟩
        rw [← g143] at A143 D143 st143
        have g_b143 : n0 ≤ b143 := Nat.le_trans Z142 (Nat.le_of_eq g143.symm)
        refine own_go st143 ?_
        have Z143 : n0 ≤ h143.size := Nat.le_trans Z142 E143.1
        have F_line_b143 : Fld Z h143 b143 "polytsia/marcxml/Place" "line" "I" (.int (0 : Int32)) := D143 (Or.inl (hw _ (List.mem_of_getElem? (i := 11) rfl))) (ty := .int) (by decide)
        have F_column_b143 : Fld Z h143 b143 "polytsia/marcxml/Place" "column" "I" (.int (0 : Int32)) := D143 (Or.inl (hw _ (List.mem_of_getElem? (i := 13) rfl))) (ty := .int) (by decide)
        have F_putLine_b143 : Fld Z h143 b143 "polytsia/marcxml/Place" "putLine" "[I" .null := D143 (Or.inr (hw _ (List.mem_of_getElem? (i := 16) rfl))) (ty := (.array .int)) (by decide)
        have F_putColumn_b143 : Fld Z h143 b143 "polytsia/marcxml/Place" "putColumn" "[I" .null := D143 (Or.inr (hw _ (List.mem_of_getElem? (i := 18) rfl))) (ty := (.array .int)) (by decide)
        have F_putAdded_b143 : Fld Z h143 b143 "polytsia/marcxml/Place" "putAdded" "[I" .null := D143 (Or.inr (hw _ (List.mem_of_getElem? (i := 20) rfl))) (ty := (.array .int)) (by decide)
        have F_added_b143 : Fld Z h143 b143 "polytsia/marcxml/Place" "added" "I" (.int (0 : Int32)) := D143 (Or.inl (hw _ (List.mem_of_getElem? (i := 27) rfl))) (ty := .int) (by decide)
        have F_puts_b143 : Fld Z h143 b143 "polytsia/marcxml/Place" "puts" "I" (.int (0 : Int32)) := D143 (Or.inl (hw _ (List.mem_of_getElem? (i := 29) rfl))) (ty := .int) (by decide)
        have F_afterCarriageReturn_b143 : Fld Z h143 b143 "polytsia/marcxml/Place" "afterCarriageReturn" "Z" (.int (0 : Int32)) := D143 (Or.inl (hw _ (List.mem_of_getElem? (i := 36) rfl))) (ty := .boolean) (by decide)
        have F_xml11_b143 : Fld Z h143 b143 "polytsia/marcxml/Place" "xml11" "Z" (.int (0 : Int32)) := D143 (Or.inl (hw _ (List.mem_of_getElem? (i := 43) rfl))) (ty := .boolean) (by decide)
        show own_G p.tables e below _ (T143.setTop (mkF m 63 #[.val (.int p0), .val (.int p1), .val (.int p2), .val (.int p3), .val (.int p4), .val (.int p5), .val (.int pa), .val (.int pb), .val (.int pc), .val (.int pd), .val (.int w10), .val (.int n11), .val (.int lq), .unset, .unset, .unset, .unset, .unset, .unset, .unset] [(.ref b143)]))
        refine own_go (fun _ kt => XS.dup X143.here hx rfl (hb hby at_63) rfl rfl kt) ?_
        show own_G p.tables e below _ (T143.setTop (mkF m 64 #[.val (.int p0), .val (.int p1), .val (.int p2), .val (.int p3), .val (.int p4), .val (.int p5), .val (.int pa), .val (.int pb), .val (.int pc), .val (.int pd), .val (.int w10), .val (.int n11), .val (.int lq), .unset, .unset, .unset, .unset, .unset, .unset, .unset] [(.ref b143), (.ref b143)]))
        obtain ⟨_, _, ⟨T144, L144, k144, n144⟩, -, X144, ⟨Lc144, hQ144, l144, y144, z144⟩, st144⟩ := X143.specialBack hx (y := (⟨"polytsia/marcxml/Place", "<init>", "()V"⟩ : MethodName)) rfl hown (mvT hZ (hw _ (List.mem_of_getElem? (i := 4) rfl))) (mvT hZ (hw _ (List.mem_of_getElem? (i := 5) rfl))) (mvT hZ (hw _ (List.mem_of_getElem? (i := 6) rfl))) (by decide) (backOf (W := 1) (rm_init l Z a0 hw [] b143  h143 n0 Z143 A143 g_b143 F_line_b143 F_column_b143 F_added_b143 F_puts_b143 F_afterCarriageReturn_b143 F_xml11_b143 F_putLine_b143 F_putColumn_b143 F_putAdded_b143) hZ (hw _ (List.mem_of_getElem? (i := 6) rfl)) (hw _ (List.mem_of_getElem? (i := 3) rfl)) (by decide) (by decide)) (g := (mkF m 64 #[.val (.int p0), .val (.int p1), .val (.int p2), .val (.int p3), .val (.int p4), .val (.int p5), .val (.int pa), .val (.int pb), .val (.int pc), .val (.int pd), .val (.int w10), .val (.int n11), .val (.int lq), .unset, .unset, .unset, .unset, .unset, .unset, .unset] [(.ref b143), (.ref b143)])) rfl (by rw [hml]; rfl) (Steps.refl _) (a := b143) (argsL := []) (rest := [(.ref b143)]) (lenOf pd___V rfl) rfl (by show 2 * 0 + _ ≤ _; exact Nat.le_of_eq rfl) (hb hby at_64) (fun _ _ => ⟨rfl, e143, (Nat.le_of_ble_eq_true rfl), (Nat.le_of_ble_eq_true rfl)⟩)
        dsimp only [Pt.U, Pt.locs, Pt.cells, Pt.slots] at X144 l144 y144 z144 st144 hQ144
        subst l144 y144 z144
        obtain ⟨rfl, Nq144, Zq144, wl, wc, wa, P0⟩ := hQ144
        have N144 := Fr.app N142 Nq144
        refine own_tr st144 ?_
        show own_G p.tables e below _ (T144.setTop (mkF m 67 #[.val (.int p0), .val (.int p1), .val (.int p2), .val (.int p3), .val (.int p4), .val (.int p5), .val (.int pa), .val (.int pb), .val (.int pc), .val (.int pd), .val (.int w10), .val (.int n11), .val (.int lq), .unset, .unset, .unset, .unset, .unset, .unset, .unset] [(.ref b143)]))
        refine own_go (fun _ kt => XS.astore X144.here hx rfl (hb hby at_67) rfl rfl (l' := #[.val (.int p0), .val (.int p1), .val (.int p2), .val (.int p3), .val (.int p4), .val (.int p5), .val (.int pa), .val (.int pb), .val (.int pc), .val (.int pd), .val (.int w10), .val (.int n11), .val (.int lq), .val (.ref b143), .unset, .unset, .unset, .unset, .unset, .unset]) rfl kt) ?_
        have j92 : ∀ (T145 : State) (locs145 : List Loc) (h145 : Heap) (ps : Int32) (f g k : Nat → Int32), Stand p l e room_1 s m #[(.int p0), (.int p1), (.int p2), (.int p3), (.int p4), (.int p5)] below meth kc T145 locs145 4 21 → T145.heap = h145 → Fr n0 locs145 → n0 ≤ h145.size → (own_P Z h145 n0 b143 wl wc wa 1 1 0 ps 0 0 f g k) → (ps = 0 ∨ (ps = 3 ∧ f 0 = 1 ∧ f 1 = 1 ∧ f 2 = 1 ∧ g 0 = 1 ∧ g 1 = 1 ∧ g 2 = 1 ∧ k 0 = 0 ∧ k 1 = 0 ∧ k 2 = 0)) → own_G p.tables e below (own_E below s room_1.cells room_1.slots (Q_law Z p0 p1 p2 p3 p4 p5 h0 n0)) (T145.setTop (mkF m 92 #[.val (.int p0), .val (.int p1), .val (.int p2), .val (.int p3), .val (.int p4), .val (.int p5), .val (.int pa), .val (.int pb), .val (.int pc), .val (.int pd), .val (.int w10), .val (.int n11), .val (.int lq), .val (.ref b143), .unset, .unset, .unset, .unset, .unset, .unset] [])) := by
          intro T145 locs145 h145 ps f g k X145 e145 N145 Z145 P hps
          have hp0 : 0 ≤ ps.toInt ∧ ps.toInt < 10 := by rcases hps with rfl | ⟨rfl, -⟩ <;> decide
          show own_G p.tables e below _ (T145.setTop (mkF m 92 #[.val (.int p0), .val (.int p1), .val (.int p2), .val (.int p3), .val (.int p4), .val (.int p5), .val (.int pa), .val (.int pb), .val (.int pc), .val (.int pd), .val (.int w10), .val (.int n11), .val (.int lq), .val (.ref b143), .unset, .unset, .unset, .unset, .unset, .unset] []))
          refine own_go (fun _ kt => XS.aload X145.here hx rfl (hb hby at_92) rfl rfl kt) ?_
          show own_G p.tables e below _ (T145.setTop (mkF m 94 #[.val (.int p0), .val (.int p1), .val (.int p2), .val (.int p3), .val (.int p4), .val (.int p5), .val (.int pa), .val (.int pb), .val (.int pc), .val (.int pd), .val (.int w10), .val (.int n11), .val (.int lq), .val (.ref b143), .unset, .unset, .unset, .unset, .unset, .unset] [(.ref b143)]))
          refine own_go (fun _ kt => XS.iload X145.here hx rfl (hb hby at_94) rfl kt) ?_
          show own_G p.tables e below _ (T145.setTop (mkF m 96 #[.val (.int p0), .val (.int p1), .val (.int p2), .val (.int p3), .val (.int p4), .val (.int p5), .val (.int pa), .val (.int pb), .val (.int pc), .val (.int pd), .val (.int w10), .val (.int n11), .val (.int lq), .val (.ref b143), .unset, .unset, .unset, .unset, .unset, .unset] [(.int pa), (.ref b143)]))
          obtain ⟨cq146, kq146, q146a, q146b, q146c⟩ := isOf hZ e145 P.1
          obtain ⟨_, _, ⟨T146, L146, k146, n146⟩, -, X146, ⟨Lc146, hQ146, l146, y146, z146⟩, st146⟩ := X145.virtualBack hx (y := (⟨"polytsia/marcxml/Place", "pass", "(I)V"⟩ : MethodName)) (z := (⟨"polytsia/marcxml/Place", "pass", "(I)V"⟩ : MethodName)) hown (mvT hZ (hw _ (List.mem_of_getElem? (i := 30) rfl))) (mvT hZ (hw _ (List.mem_of_getElem? (i := 31) rfl))) (notFace_of_selects (args := #[]) (mvT hZ (hw _ (List.mem_of_getElem? (i := 33) rfl)))) (mvT hZ (hw _ (List.mem_of_getElem? (i := 33) rfl))) (mvT hZ (hw _ (List.mem_of_getElem? (i := 32) rfl))) (by decide) (backOf (W := 0) (rm_pass1 l Z a0 hw [] b143 pa _ _ _ _ _ _ _ _ _ _ _ _ h145 n0 Z145 P) hZ (hw _ (List.mem_of_getElem? (i := 34) rfl)) (hw _ (List.mem_of_getElem? (i := 3) rfl)) (by decide) (by decide)) q146a q146c (g := (mkF m 96 #[.val (.int p0), .val (.int p1), .val (.int p2), .val (.int p3), .val (.int p4), .val (.int p5), .val (.int pa), .val (.int pb), .val (.int pc), .val (.int pd), .val (.int w10), .val (.int n11), .val (.int lq), .val (.ref b143), .unset, .unset, .unset, .unset, .unset, .unset] [(.int pa), (.ref b143)])) rfl (by rw [hml]; rfl) (Steps.refl _) (argsL := [(.int pa)]) (rest := []) (lenOf pd__I_V rfl) rfl (by show 2 * 0 + _ ≤ _; exact Nat.le_of_eq rfl) (hb hby at_96) (fun _ _ => ⟨rfl, e145, (Nat.le_of_ble_eq_true rfl), (Nat.le_of_ble_eq_true rfl)⟩)
          dsimp only [Pt.U, Pt.locs, Pt.cells, Pt.slots] at X146 l146 y146 z146 st146 hQ146
          subst l146 y146 z146
          obtain ⟨rfl, Nq146, Zq146, P1⟩ := hQ146
          have N146 := Fr.app N145 Nq146
          refine own_tr st146 ?_
          show own_G p.tables e below _ (T146.setTop (mkF m 99 #[.val (.int p0), .val (.int p1), .val (.int p2), .val (.int p3), .val (.int p4), .val (.int p5), .val (.int pa), .val (.int pb), .val (.int pc), .val (.int pd), .val (.int w10), .val (.int n11), .val (.int lq), .val (.ref b143), .unset, .unset, .unset, .unset, .unset, .unset] []))
          refine own_go (fun _ kt => XS.aload X146.here hx rfl (hb hby at_99) rfl rfl kt) ?_
          show own_G p.tables e below _ (T146.setTop (mkF m 101 #[.val (.int p0), .val (.int p1), .val (.int p2), .val (.int p3), .val (.int p4), .val (.int p5), .val (.int pa), .val (.int pb), .val (.int pc), .val (.int pd), .val (.int w10), .val (.int n11), .val (.int lq), .val (.ref b143), .unset, .unset, .unset, .unset, .unset, .unset] [(.ref b143)]))
          refine own_go (fun _ kt => XS.iload X146.here hx rfl (hb hby at_101) rfl kt) ?_
          show own_G p.tables e below _ (T146.setTop (mkF m 103 #[.val (.int p0), .val (.int p1), .val (.int p2), .val (.int p3), .val (.int p4), .val (.int p5), .val (.int pa), .val (.int pb), .val (.int pc), .val (.int pd), .val (.int w10), .val (.int n11), .val (.int lq), .val (.ref b143), .unset, .unset, .unset, .unset, .unset, .unset] [(.int pb), (.ref b143)]))
          obtain ⟨cq147, kq147, q147a, q147b, q147c⟩ := isOf hZ rfl P1.1
          obtain ⟨_, _, ⟨T147, L147, k147, n147⟩, -, X147, ⟨Lc147, hQ147, l147, y147, z147⟩, st147⟩ := X146.virtualBack hx (y := (⟨"polytsia/marcxml/Place", "put", "(I)V"⟩ : MethodName)) (z := (⟨"polytsia/marcxml/Place", "put", "(I)V"⟩ : MethodName)) hown (mvT hZ (hw _ (List.mem_of_getElem? (i := 21) rfl))) (mvT hZ (hw _ (List.mem_of_getElem? (i := 22) rfl))) (notFace_of_selects (args := #[]) (mvT hZ (hw _ (List.mem_of_getElem? (i := 24) rfl)))) (mvT hZ (hw _ (List.mem_of_getElem? (i := 24) rfl))) (mvT hZ (hw _ (List.mem_of_getElem? (i := 23) rfl))) (by decide) (backOf (W := 0) (rm_put l Z a0 hw [] b143 pb _ _ _ _ _ _ _ _ _ _ _ _ T146.heap n0 Zq146 P1 hp0.1) hZ (hw _ (List.mem_of_getElem? (i := 25) rfl)) (hw _ (List.mem_of_getElem? (i := 3) rfl)) (by decide) (by decide)) q147a q147c (g := (mkF m 103 #[.val (.int p0), .val (.int p1), .val (.int p2), .val (.int p3), .val (.int p4), .val (.int p5), .val (.int pa), .val (.int pb), .val (.int pc), .val (.int pd), .val (.int w10), .val (.int n11), .val (.int lq), .val (.ref b143), .unset, .unset, .unset, .unset, .unset, .unset] [(.int pb), (.ref b143)])) rfl (by rw [hml]; rfl) (Steps.refl _) (argsL := [(.int pb)]) (rest := []) (lenOf pd__I_V rfl) rfl (by show 2 * 0 + _ ≤ _; exact Nat.le_of_eq rfl) (hb hby at_103) (fun _ _ => ⟨rfl, rfl, (Nat.le_of_ble_eq_true rfl), (Nat.le_of_ble_eq_true rfl)⟩)
          dsimp only [Pt.U, Pt.locs, Pt.cells, Pt.slots] at X147 l147 y147 z147 st147 hQ147
          subst l147 y147 z147
          obtain ⟨rfl, Nq147, Zq147, P2⟩ := hQ147
          have N147 := Fr.app N146 Nq147
          refine own_tr st147 ?_
          have j119 : ∀ (T148 : State) (locs148 : List Loc) (h148 : Heap) (ln cl ad : Int32), Stand p l e room_1 s m #[(.int p0), (.int p1), (.int p2), (.int p3), (.int p4), (.int p5)] below meth kc T148 locs148 4 21 → T148.heap = h148 → Fr n0 locs148 → n0 ≤ h148.size → (own_P Z h148 n0 b143 wl wc wa ln cl ad (ps + 1) 0 0 (own_updI f (ps % (4 : Int32)).toNatClampNeg 1) (own_updI g (ps % (4 : Int32)).toNatClampNeg ((1 : Int32) + pa + pb)) (own_updI k (ps % (4 : Int32)).toNatClampNeg (0 + pb))) → ((n11 = 0 ∧ ln = 1 ∧ cl = ((1 : Int32) + pa + pb) ∧ ad = 0 + pb) ∨ (¬ n11 = 0 ∧ ln = 1 + 1 ∧ cl = 1 ∧ ad = 0)) → own_G p.tables e below (own_E below s room_1.cells room_1.slots (Q_law Z p0 p1 p2 p3 p4 p5 h0 n0)) (T148.setTop (mkF m 119 #[.val (.int p0), .val (.int p1), .val (.int p2), .val (.int p3), .val (.int p4), .val (.int p5), .val (.int pa), .val (.int pb), .val (.int pc), .val (.int pd), .val (.int w10), .val (.int n11), .val (.int lq), .val (.ref b143), .unset, .unset, .unset, .unset, .unset, .unset] [])) := by
            intro T148 locs148 h148 ln cl ad X148 e148 N148 Z148 P hl
            have hp1 : (ps + 1).toInt = ps.toInt + 1 := by rw [own_addI (by omega)]; omega
            show own_G p.tables e below _ (T148.setTop (mkF m 119 #[.val (.int p0), .val (.int p1), .val (.int p2), .val (.int p3), .val (.int p4), .val (.int p5), .val (.int pa), .val (.int pb), .val (.int pc), .val (.int pd), .val (.int w10), .val (.int n11), .val (.int lq), .val (.ref b143), .unset, .unset, .unset, .unset, .unset, .unset] []))
            refine own_go (fun _ kt => XS.aload X148.here hx rfl (hb hby at_119) rfl rfl kt) ?_
            show own_G p.tables e below _ (T148.setTop (mkF m 121 #[.val (.int p0), .val (.int p1), .val (.int p2), .val (.int p3), .val (.int p4), .val (.int p5), .val (.int pa), .val (.int pb), .val (.int pc), .val (.int pd), .val (.int w10), .val (.int n11), .val (.int lq), .val (.ref b143), .unset, .unset, .unset, .unset, .unset, .unset] [(.ref b143)]))
            refine own_go (fun _ kt => XS.iload X148.here hx rfl (hb hby at_121) rfl kt) ?_
            show own_G p.tables e below _ (T148.setTop (mkF m 123 #[.val (.int p0), .val (.int p1), .val (.int p2), .val (.int p3), .val (.int p4), .val (.int p5), .val (.int pa), .val (.int pb), .val (.int pc), .val (.int pd), .val (.int w10), .val (.int n11), .val (.int lq), .val (.ref b143), .unset, .unset, .unset, .unset, .unset, .unset] [(.int pc), (.ref b143)]))
            obtain ⟨cq149, kq149, q149a, q149b, q149c⟩ := isOf hZ e148 P.1
            obtain ⟨_, _, ⟨T149, L149, k149, n149⟩, -, X149, ⟨Lc149, hQ149, l149, y149, z149⟩, st149⟩ := X148.virtualBack hx (y := (⟨"polytsia/marcxml/Place", "pass", "(I)V"⟩ : MethodName)) (z := (⟨"polytsia/marcxml/Place", "pass", "(I)V"⟩ : MethodName)) hown (mvT hZ (hw _ (List.mem_of_getElem? (i := 30) rfl))) (mvT hZ (hw _ (List.mem_of_getElem? (i := 31) rfl))) (notFace_of_selects (args := #[]) (mvT hZ (hw _ (List.mem_of_getElem? (i := 33) rfl)))) (mvT hZ (hw _ (List.mem_of_getElem? (i := 33) rfl))) (mvT hZ (hw _ (List.mem_of_getElem? (i := 32) rfl))) (by decide) (backOf (W := 0) (rm_pass1 l Z a0 hw [] b143 pc _ _ _ _ _ _ _ _ _ _ _ _ h148 n0 Z148 P) hZ (hw _ (List.mem_of_getElem? (i := 34) rfl)) (hw _ (List.mem_of_getElem? (i := 3) rfl)) (by decide) (by decide)) q149a q149c (g := (mkF m 123 #[.val (.int p0), .val (.int p1), .val (.int p2), .val (.int p3), .val (.int p4), .val (.int p5), .val (.int pa), .val (.int pb), .val (.int pc), .val (.int pd), .val (.int w10), .val (.int n11), .val (.int lq), .val (.ref b143), .unset, .unset, .unset, .unset, .unset, .unset] [(.int pc), (.ref b143)])) rfl (by rw [hml]; rfl) (Steps.refl _) (argsL := [(.int pc)]) (rest := []) (lenOf pd__I_V rfl) rfl (by show 2 * 0 + _ ≤ _; exact Nat.le_of_eq rfl) (hb hby at_123) (fun _ _ => ⟨rfl, e148, (Nat.le_of_ble_eq_true rfl), (Nat.le_of_ble_eq_true rfl)⟩)
            dsimp only [Pt.U, Pt.locs, Pt.cells, Pt.slots] at X149 l149 y149 z149 st149 hQ149
            subst l149 y149 z149
            obtain ⟨rfl, Nq149, Zq149, P3⟩ := hQ149
            have N149 := Fr.app N148 Nq149
            refine own_tr st149 ?_
            show own_G p.tables e below _ (T149.setTop (mkF m 126 #[.val (.int p0), .val (.int p1), .val (.int p2), .val (.int p3), .val (.int p4), .val (.int p5), .val (.int pa), .val (.int pb), .val (.int pc), .val (.int pd), .val (.int w10), .val (.int n11), .val (.int lq), .val (.ref b143), .unset, .unset, .unset, .unset, .unset, .unset] []))
            refine own_go (fun _ kt => XS.aload X149.here hx rfl (hb hby at_126) rfl rfl kt) ?_
            show own_G p.tables e below _ (T149.setTop (mkF m 128 #[.val (.int p0), .val (.int p1), .val (.int p2), .val (.int p3), .val (.int p4), .val (.int p5), .val (.int pa), .val (.int pb), .val (.int pc), .val (.int pd), .val (.int w10), .val (.int n11), .val (.int lq), .val (.ref b143), .unset, .unset, .unset, .unset, .unset, .unset] [(.ref b143)]))
            refine own_go (fun _ kt => XS.iload X149.here hx rfl (hb hby at_128) rfl kt) ?_
            show own_G p.tables e below _ (T149.setTop (mkF m 130 #[.val (.int p0), .val (.int p1), .val (.int p2), .val (.int p3), .val (.int p4), .val (.int p5), .val (.int pa), .val (.int pb), .val (.int pc), .val (.int pd), .val (.int w10), .val (.int n11), .val (.int lq), .val (.ref b143), .unset, .unset, .unset, .unset, .unset, .unset] [(.int pd), (.ref b143)]))
            obtain ⟨cq150, kq150, q150a, q150b, q150c⟩ := isOf hZ rfl P3.1
            obtain ⟨_, _, ⟨T150, L150, k150, n150⟩, -, X150, ⟨Lc150, hQ150, l150, y150, z150⟩, st150⟩ := X149.virtualBack hx (y := (⟨"polytsia/marcxml/Place", "put", "(I)V"⟩ : MethodName)) (z := (⟨"polytsia/marcxml/Place", "put", "(I)V"⟩ : MethodName)) hown (mvT hZ (hw _ (List.mem_of_getElem? (i := 21) rfl))) (mvT hZ (hw _ (List.mem_of_getElem? (i := 22) rfl))) (notFace_of_selects (args := #[]) (mvT hZ (hw _ (List.mem_of_getElem? (i := 24) rfl)))) (mvT hZ (hw _ (List.mem_of_getElem? (i := 24) rfl))) (mvT hZ (hw _ (List.mem_of_getElem? (i := 23) rfl))) (by decide) (backOf (W := 0) (rm_put l Z a0 hw [] b143 pd _ _ _ _ _ _ _ _ _ _ _ _ T149.heap n0 Zq149 P3 (by omega)) hZ (hw _ (List.mem_of_getElem? (i := 25) rfl)) (hw _ (List.mem_of_getElem? (i := 3) rfl)) (by decide) (by decide)) q150a q150c (g := (mkF m 130 #[.val (.int p0), .val (.int p1), .val (.int p2), .val (.int p3), .val (.int p4), .val (.int p5), .val (.int pa), .val (.int pb), .val (.int pc), .val (.int pd), .val (.int w10), .val (.int n11), .val (.int lq), .val (.ref b143), .unset, .unset, .unset, .unset, .unset, .unset] [(.int pd), (.ref b143)])) rfl (by rw [hml]; rfl) (Steps.refl _) (argsL := [(.int pd)]) (rest := []) (lenOf pd__I_V rfl) rfl (by show 2 * 0 + _ ≤ _; exact Nat.le_of_eq rfl) (hb hby at_130) (fun _ _ => ⟨rfl, rfl, (Nat.le_of_ble_eq_true rfl), (Nat.le_of_ble_eq_true rfl)⟩)
            dsimp only [Pt.U, Pt.locs, Pt.cells, Pt.slots] at X150 l150 y150 z150 st150 hQ150
            subst l150 y150 z150
            obtain ⟨rfl, Nq150, Zq150, P4⟩ := hQ150
            have N150 := Fr.app N149 Nq150
            refine own_tr st150 ?_
            show own_G p.tables e below _ (T150.setTop (mkF m 133 #[.val (.int p0), .val (.int p1), .val (.int p2), .val (.int p3), .val (.int p4), .val (.int p5), .val (.int pa), .val (.int pb), .val (.int pc), .val (.int pd), .val (.int w10), .val (.int n11), .val (.int lq), .val (.ref b143), .unset, .unset, .unset, .unset, .unset, .unset] []))
            refine own_go (fun _ kt => XS.iconst X150.here hx rfl (hb hby at_133) kt) ?_
            show own_G p.tables e below _ (T150.setTop (mkF m 134 #[.val (.int p0), .val (.int p1), .val (.int p2), .val (.int p3), .val (.int p4), .val (.int p5), .val (.int pa), .val (.int pb), .val (.int pc), .val (.int pd), .val (.int w10), .val (.int n11), .val (.int lq), .val (.ref b143), .unset, .unset, .unset, .unset, .unset, .unset] [(.int (1 : Int32))]))
            refine own_go (fun _ kt => XS.iload X150.here hx rfl (hb hby at_134) rfl kt) ?_
            show own_G p.tables e below _ (T150.setTop (mkF m 136 #[.val (.int p0), .val (.int p1), .val (.int p2), .val (.int p3), .val (.int p4), .val (.int p5), .val (.int pa), .val (.int pb), .val (.int pc), .val (.int pd), .val (.int w10), .val (.int n11), .val (.int lq), .val (.ref b143), .unset, .unset, .unset, .unset, .unset, .unset] [(.int pa), (.int (1 : Int32))]))
            refine own_go (fun _ kt => XS.iadd X150.here hx rfl (hb hby at_136) rfl kt) ?_
            show own_G p.tables e below _ (T150.setTop (mkF m 137 #[.val (.int p0), .val (.int p1), .val (.int p2), .val (.int p3), .val (.int p4), .val (.int p5), .val (.int pa), .val (.int pb), .val (.int pc), .val (.int pd), .val (.int w10), .val (.int n11), .val (.int lq), .val (.ref b143), .unset, .unset, .unset, .unset, .unset, .unset] [(.int ((1 : Int32) + pa))]))
            refine own_go (fun _ kt => XS.iload X150.here hx rfl (hb hby at_137) rfl kt) ?_
            show own_G p.tables e below _ (T150.setTop (mkF m 139 #[.val (.int p0), .val (.int p1), .val (.int p2), .val (.int p3), .val (.int p4), .val (.int p5), .val (.int pa), .val (.int pb), .val (.int pc), .val (.int pd), .val (.int w10), .val (.int n11), .val (.int lq), .val (.ref b143), .unset, .unset, .unset, .unset, .unset, .unset] [(.int pb), (.int ((1 : Int32) + pa))]))
            refine own_go (fun _ kt => XS.iadd X150.here hx rfl (hb hby at_139) rfl kt) ?_
            show own_G p.tables e below _ (T150.setTop (mkF m 140 #[.val (.int p0), .val (.int p1), .val (.int p2), .val (.int p3), .val (.int p4), .val (.int p5), .val (.int pa), .val (.int pb), .val (.int pc), .val (.int pd), .val (.int w10), .val (.int n11), .val (.int lq), .val (.ref b143), .unset, .unset, .unset, .unset, .unset, .unset] [(.int (((1 : Int32) + pa) + pb))]))
            refine own_go (fun _ kt => XS.istore X150.here hx rfl (hb hby at_140) rfl (l' := #[.val (.int p0), .val (.int p1), .val (.int p2), .val (.int p3), .val (.int p4), .val (.int p5), .val (.int pa), .val (.int pb), .val (.int pc), .val (.int pd), .val (.int w10), .val (.int n11), .val (.int lq), .val (.ref b143), .val (.int (((1 : Int32) + pa) + pb)), .unset, .unset, .unset, .unset, .unset]) rfl kt) ?_
            have j201 : ∀ (T151 : State) (locs151 : List Loc) (h151 : Heap) (l2 c2 a2 hr : Int32), Stand p l e room_1 s m #[(.int p0), (.int p1), (.int p2), (.int p3), (.int p4), (.int p5)] below meth kc T151 locs151 4 21 → T151.heap = h151 → Fr n0 locs151 → n0 ≤ h151.size → (own_P Z h151 n0 b143 wl wc wa ln (cl + pc + pd) (ad + pd) (ps + 1 + 1) 0 0 (own_updI (own_updI f (ps % (4 : Int32)).toNatClampNeg 1) ((ps + 1) % (4 : Int32)).toNatClampNeg ln) (own_updI (own_updI g (ps % (4 : Int32)).toNatClampNeg ((1 : Int32) + pa + pb)) ((ps + 1) % (4 : Int32)).toNatClampNeg (cl + pc + pd)) (own_updI (own_updI k (ps % (4 : Int32)).toNatClampNeg (0 + pb)) ((ps + 1) % (4 : Int32)).toNatClampNeg (ad + pd))) → (l2 = ln) → (c2 = cl + pc + pd) → (a2 = ad + pd) → (hr = cl + pc + pd - (ad + pd)) → own_G p.tables e below (own_E below s room_1.cells room_1.slots (Q_law Z p0 p1 p2 p3 p4 p5 h0 n0)) (T151.setTop (mkF m 201 #[.val (.int p0), .val (.int p1), .val (.int p2), .val (.int p3), .val (.int p4), .val (.int p5), .val (.int pa), .val (.int pb), .val (.int pc), .val (.int pd), .val (.int w10), .val (.int n11), .val (.int lq), .val (.ref b143), .val (.int (((1 : Int32) + pa) + pb)), .val (.int l2), .val (.int c2), .val (.int a2), .val (.int hr), .unset] [])) := by
              intro T151 locs151 h151 l2 c2 a2 hr X151 e151 N151 Z151 P q1 q2 q3 q4
              have hp2 : (ps + 1 + 1).toInt = ps.toInt + 2 := by rw [own_addI (by omega)]; omega
              obtain ⟨n, hn⟩ : ∃ n : Nat, (n : Int) = min (ps + 1 + 1).toInt 4 := ⟨(min (ps + 1 + 1).toInt 4).toNat, by omega⟩
              have v1 : ((1 : Int32) + pa).toInt = 1 + pa.toInt := by rw [own_addI (by omega)]; omega
              have v2 : ((1 : Int32) + pa + pb).toInt = 1 + pa.toInt + pb.toInt := by rw [own_addI (by omega)]; omega
              have v0 : ((0 : Int32) + pb) = pb := Int32.zero_add pb
              have v3 : (cl + pc).toInt = cl.toInt + pc.toInt := by rcases hl with ⟨-, -, rfl, -⟩ | ⟨-, -, rfl, -⟩ <;> (rw [own_addI (by omega)])
              have v4 : (cl + pc + pd).toInt = cl.toInt + pc.toInt + pd.toInt := by rw [own_addI (by rw [v3]; rcases hl with ⟨-, -, rfl, -⟩ | ⟨-, -, rfl, -⟩ <;> omega), v3]
              have hb1 : 0 < ((1 : Int32) + pa + pb).toInt := by omega
              have hb2 : 0 < (cl + pc + pd).toInt := by rw [v4]; rcases hl with ⟨-, -, rfl, -⟩ | ⟨-, -, rfl, -⟩ <;> omega
              have hb3 : ln = 1 → ((1 : Int32) + pa + pb).toInt ≤ (cl + pc + pd).toInt ∧ (((1 : Int32) + pa + pb) = cl + pc + pd → (0 + pb) = ad + pd) := by
                intro hln
                rcases hl with ⟨-, -, rfl, rfl⟩ | ⟨-, rfl, -, -⟩
                · refine ⟨by omega, fun e => ?_⟩
                  have e' := congrArg Int32.toInt e
                  rw [v4] at e'
                  have ed : pd = 0 := by apply Int32.toInt_inj.mp; omega
                  rw [ed, Int32.add_zero]
                · exact absurd hln (by decide)
              have hb4 : ((1 : Int32) + pa + pb) = 1 → (0 + pb) = 0 := fun e => by have e' := congrArg Int32.toInt e; rw [v0]; apply Int32.toInt_inj.mp; omega
              have sc := own_both (lq := lq) (q := p4) hn hps hb1 hb2 hb3 hb4
              have j252 : ∀ (T152 : State) (locs152 : List Loc) (h152 : Heap) (ex : Int32), Stand p l e room_1 s m #[(.int p0), (.int p1), (.int p2), (.int p3), (.int p4), (.int p5)] below meth kc T152 locs152 4 21 → T152.heap = h152 → Fr n0 locs152 → n0 ≤ h152.size → (own_P Z h152 n0 b143 wl wc wa ln (cl + pc + pd) (ad + pd) (ps + 1 + 1) 0 0 (own_updI (own_updI f (ps % (4 : Int32)).toNatClampNeg 1) ((ps + 1) % (4 : Int32)).toNatClampNeg ln) (own_updI (own_updI g (ps % (4 : Int32)).toNatClampNeg ((1 : Int32) + pa + pb)) ((ps + 1) % (4 : Int32)).toNatClampNeg (cl + pc + pd)) (own_updI (own_updI k (ps % (4 : Int32)).toNatClampNeg (0 + pb)) ((ps + 1) % (4 : Int32)).toNatClampNeg (ad + pd))) → (ex = p4 - own_ans lq p4 ln ((1 : Int32) + pa + pb) (cl + pc + pd) (0 + pb) (ad + pd)) → own_G p.tables e below (own_E below s room_1.cells room_1.slots (Q_law Z p0 p1 p2 p3 p4 p5 h0 n0)) (T152.setTop (mkF m 252 #[.val (.int p0), .val (.int p1), .val (.int p2), .val (.int p3), .val (.int p4), .val (.int p5), .val (.int pa), .val (.int pb), .val (.int pc), .val (.int pd), .val (.int w10), .val (.int n11), .val (.int lq), .val (.ref b143), .val (.int (((1 : Int32) + pa) + pb)), .val (.int l2), .val (.int c2), .val (.int a2), .val (.int hr), .val (.int ex)] [])) := by
                intro T152 locs152 h152 ex X152 e152 N152 Z152 P hex
                show own_G p.tables e below _ (T152.setTop (mkF m 252 #[.val (.int p0), .val (.int p1), .val (.int p2), .val (.int p3), .val (.int p4), .val (.int p5), .val (.int pa), .val (.int pb), .val (.int pc), .val (.int pd), .val (.int w10), .val (.int n11), .val (.int lq), .val (.ref b143), .val (.int (((1 : Int32) + pa) + pb)), .val (.int l2), .val (.int c2), .val (.int a2), .val (.int hr), .val (.int ex)] []))
                refine own_go (fun _ kt => XS.aload X152.here hx rfl (hb hby at_252) rfl rfl kt) ?_
                show own_G p.tables e below _ (T152.setTop (mkF m 254 #[.val (.int p0), .val (.int p1), .val (.int p2), .val (.int p3), .val (.int p4), .val (.int p5), .val (.int pa), .val (.int pb), .val (.int pc), .val (.int pd), .val (.int w10), .val (.int n11), .val (.int lq), .val (.ref b143), .val (.int (((1 : Int32) + pa) + pb)), .val (.int l2), .val (.int c2), .val (.int a2), .val (.int hr), .val (.int ex)] [(.ref b143)]))
                obtain ⟨cq153, kq153, q153a, q153b, q153c⟩ := isOf hZ e152 P.1
                obtain ⟨_, _, ⟨T153, L153, k153, n153⟩, -, X153, ⟨Lc153, hQ153, l153, y153, z153⟩, st153⟩ := X152.virtualBack hx (y := (⟨"polytsia/marcxml/Place", "documentColumn", "()I"⟩ : MethodName)) (z := (⟨"polytsia/marcxml/Place", "documentColumn", "()I"⟩ : MethodName)) hown (mvT hZ (hw _ (List.mem_of_getElem? (i := 48) rfl))) (mvT hZ (hw _ (List.mem_of_getElem? (i := 49) rfl))) (notFace_of_selects (args := #[]) (mvT hZ (hw _ (List.mem_of_getElem? (i := 51) rfl)))) (mvT hZ (hw _ (List.mem_of_getElem? (i := 51) rfl))) (mvT hZ (hw _ (List.mem_of_getElem? (i := 50) rfl))) (by decide) (backOf (W := 0) (rm_dc0 l Z a0 hw [] b143 _ _ _ _ _ _ _ _ _ _ _ _ h152 n0 Z152 P) hZ (hw _ (List.mem_of_getElem? (i := 52) rfl)) (hw _ (List.mem_of_getElem? (i := 3) rfl)) (by decide) (by decide)) q153a q153c (g := (mkF m 254 #[.val (.int p0), .val (.int p1), .val (.int p2), .val (.int p3), .val (.int p4), .val (.int p5), .val (.int pa), .val (.int pb), .val (.int pc), .val (.int pd), .val (.int w10), .val (.int n11), .val (.int lq), .val (.ref b143), .val (.int (((1 : Int32) + pa) + pb)), .val (.int l2), .val (.int c2), .val (.int a2), .val (.int hr), .val (.int ex)] [(.ref b143)])) rfl (by rw [hml]; rfl) (Steps.refl _) (argsL := []) (rest := []) (lenOf pd___I rfl) rfl (by show 2 * 0 + _ ≤ _; exact Nat.le_of_eq rfl) (hb hby at_254) (fun _ _ => ⟨rfl, e152, (Nat.le_of_ble_eq_true rfl), (Nat.le_of_ble_eq_true rfl)⟩)
                dsimp only [Pt.U, Pt.locs, Pt.cells, Pt.slots] at X153 l153 y153 z153 st153 hQ153
                subst l153 y153 z153
                obtain ⟨rfl, Nq153, eq153⟩ := hQ153
                have N153 := Fr.app N152 Nq153
                refine own_tr st153 ?_
                show own_G p.tables e below _ (T153.setTop (mkF m 257 #[.val (.int p0), .val (.int p1), .val (.int p2), .val (.int p3), .val (.int p4), .val (.int p5), .val (.int pa), .val (.int pb), .val (.int pc), .val (.int pd), .val (.int w10), .val (.int n11), .val (.int lq), .val (.ref b143), .val (.int (((1 : Int32) + pa) + pb)), .val (.int l2), .val (.int c2), .val (.int a2), .val (.int hr), .val (.int ex)] [(.int (cl + pc + pd - (ad + pd)))]))
                refine own_go (fun _ kt => XS.iload X153.here hx rfl (hb hby at_257) rfl kt) ?_
                show own_G p.tables e below _ (T153.setTop (mkF m 259 #[.val (.int p0), .val (.int p1), .val (.int p2), .val (.int p3), .val (.int p4), .val (.int p5), .val (.int pa), .val (.int pb), .val (.int pc), .val (.int pd), .val (.int w10), .val (.int n11), .val (.int lq), .val (.ref b143), .val (.int (((1 : Int32) + pa) + pb)), .val (.int l2), .val (.int c2), .val (.int a2), .val (.int hr), .val (.int ex)] [(.int hr), (.int (cl + pc + pd - (ad + pd)))]))
                refine own_go (fun _ kt => XS.icmpNo X153.here hx rfl (hb hby at_259) rfl (teq (q4.symm : (cl + pc + pd - (ad + pd)) = hr)).2 kt) ?_
                show own_G p.tables e below _ (T153.setTop (mkF m 262 #[.val (.int p0), .val (.int p1), .val (.int p2), .val (.int p3), .val (.int p4), .val (.int p5), .val (.int pa), .val (.int pb), .val (.int pc), .val (.int pd), .val (.int w10), .val (.int n11), .val (.int lq), .val (.ref b143), .val (.int (((1 : Int32) + pa) + pb)), .val (.int l2), .val (.int c2), .val (.int a2), .val (.int hr), .val (.int ex)] []))
                refine own_go (fun _ kt => XS.aload X153.here hx rfl (hb hby at_262) rfl rfl kt) ?_
                show own_G p.tables e below _ (T153.setTop (mkF m 264 #[.val (.int p0), .val (.int p1), .val (.int p2), .val (.int p3), .val (.int p4), .val (.int p5), .val (.int pa), .val (.int pb), .val (.int pc), .val (.int pd), .val (.int w10), .val (.int n11), .val (.int lq), .val (.ref b143), .val (.int (((1 : Int32) + pa) + pb)), .val (.int l2), .val (.int c2), .val (.int a2), .val (.int hr), .val (.int ex)] [(.ref b143)]))
                refine own_go (fun _ kt => XS.iload X153.here hx rfl (hb hby at_264) rfl kt) ?_
                show own_G p.tables e below _ (T153.setTop (mkF m 266 #[.val (.int p0), .val (.int p1), .val (.int p2), .val (.int p3), .val (.int p4), .val (.int p5), .val (.int pa), .val (.int pb), .val (.int pc), .val (.int pd), .val (.int w10), .val (.int n11), .val (.int lq), .val (.ref b143), .val (.int (((1 : Int32) + pa) + pb)), .val (.int l2), .val (.int c2), .val (.int a2), .val (.int hr), .val (.int ex)] [(.int lq), (.ref b143)]))
                refine own_go (fun _ kt => XS.iload X153.here hx rfl (hb hby at_266) rfl kt) ?_
                show own_G p.tables e below _ (T153.setTop (mkF m 268 #[.val (.int p0), .val (.int p1), .val (.int p2), .val (.int p3), .val (.int p4), .val (.int p5), .val (.int pa), .val (.int pb), .val (.int pc), .val (.int pd), .val (.int w10), .val (.int n11), .val (.int lq), .val (.ref b143), .val (.int (((1 : Int32) + pa) + pb)), .val (.int l2), .val (.int c2), .val (.int a2), .val (.int hr), .val (.int ex)] [(.int p4), (.int lq), (.ref b143)]))
                obtain ⟨cq154, kq154, q154a, q154b, q154c⟩ := isOf hZ eq153 P.1
                obtain ⟨_, _, ⟨T154, L154, k154, n154⟩, -, X154, ⟨Lc154, hQ154, l154, y154, z154⟩, st154⟩ := X153.virtualBack hx (y := (⟨"polytsia/marcxml/Place", "documentColumn", "(II)I"⟩ : MethodName)) (z := (⟨"polytsia/marcxml/Place", "documentColumn", "(II)I"⟩ : MethodName)) hown (mvT hZ (hw _ (List.mem_of_getElem? (i := 53) rfl))) (mvT hZ (hw _ (List.mem_of_getElem? (i := 54) rfl))) (notFace_of_selects (args := #[]) (mvT hZ (hw _ (List.mem_of_getElem? (i := 56) rfl)))) (mvT hZ (hw _ (List.mem_of_getElem? (i := 56) rfl))) (mvT hZ (hw _ (List.mem_of_getElem? (i := 55) rfl))) (by decide) (backOf (W := 0) (rm_dc2 l Z a0 hw [] b143 lq p4 _ _ _ _ _ _ _ _ _ _ _ _ n h152 n0 Z152 P hn) hZ (hw _ (List.mem_of_getElem? (i := 57) rfl)) (hw _ (List.mem_of_getElem? (i := 3) rfl)) (by decide) (by decide)) q154a q154c (g := (mkF m 268 #[.val (.int p0), .val (.int p1), .val (.int p2), .val (.int p3), .val (.int p4), .val (.int p5), .val (.int pa), .val (.int pb), .val (.int pc), .val (.int pd), .val (.int w10), .val (.int n11), .val (.int lq), .val (.ref b143), .val (.int (((1 : Int32) + pa) + pb)), .val (.int l2), .val (.int c2), .val (.int a2), .val (.int hr), .val (.int ex)] [(.int p4), (.int lq), (.ref b143)])) rfl (by rw [hml]; rfl) (Steps.refl _) (argsL := [(.int lq), (.int p4)]) (rest := []) (lenOf pd__II_I rfl) rfl (by show 2 * 0 + _ ≤ _; exact Nat.le_of_eq rfl) (hb hby at_268) (fun _ _ => ⟨rfl, eq153, (Nat.le_of_ble_eq_true rfl), (Nat.le_of_ble_eq_true rfl)⟩)
                dsimp only [Pt.U, Pt.locs, Pt.cells, Pt.slots] at X154 l154 y154 z154 st154 hQ154
                subst l154 y154 z154
                obtain ⟨rfl, Nq154, eq154⟩ := hQ154
                have N154 := Fr.app N153 Nq154
                refine own_tr st154 ?_
                show own_G p.tables e below _ (T154.setTop (mkF m 271 #[.val (.int p0), .val (.int p1), .val (.int p2), .val (.int p3), .val (.int p4), .val (.int p5), .val (.int pa), .val (.int pb), .val (.int pc), .val (.int pd), .val (.int w10), .val (.int n11), .val (.int lq), .val (.ref b143), .val (.int (((1 : Int32) + pa) + pb)), .val (.int l2), .val (.int c2), .val (.int a2), .val (.int hr), .val (.int ex)] [(.int (p4 - (own_scan (own_updI (own_updI f (ps % (4 : Int32)).toNatClampNeg 1) ((ps + 1) % (4 : Int32)).toNatClampNeg ln) (own_updI (own_updI g (ps % (4 : Int32)).toNatClampNeg ((1 : Int32) + pa + pb)) ((ps + 1) % (4 : Int32)).toNatClampNeg (cl + pc + pd)) (own_updI (own_updI k (ps % (4 : Int32)).toNatClampNeg (0 + pb)) ((ps + 1) % (4 : Int32)).toNatClampNeg (ad + pd)) lq p4 n).2))]))
                refine own_go (fun _ kt => XS.iload X154.here hx rfl (hb hby at_271) rfl kt) ?_
                show own_G p.tables e below _ (T154.setTop (mkF m 273 #[.val (.int p0), .val (.int p1), .val (.int p2), .val (.int p3), .val (.int p4), .val (.int p5), .val (.int pa), .val (.int pb), .val (.int pc), .val (.int pd), .val (.int w10), .val (.int n11), .val (.int lq), .val (.ref b143), .val (.int (((1 : Int32) + pa) + pb)), .val (.int l2), .val (.int c2), .val (.int a2), .val (.int hr), .val (.int ex)] [(.int ex), (.int (p4 - (own_scan (own_updI (own_updI f (ps % (4 : Int32)).toNatClampNeg 1) ((ps + 1) % (4 : Int32)).toNatClampNeg ln) (own_updI (own_updI g (ps % (4 : Int32)).toNatClampNeg ((1 : Int32) + pa + pb)) ((ps + 1) % (4 : Int32)).toNatClampNeg (cl + pc + pd)) (own_updI (own_updI k (ps % (4 : Int32)).toNatClampNeg (0 + pb)) ((ps + 1) % (4 : Int32)).toNatClampNeg (ad + pd)) lq p4 n).2))]))
                refine own_go (fun _ kt => XS.icmpNo X154.here hx rfl (hb hby at_273) rfl (teq (by rw [sc]; exact hex.symm : (p4 - (own_scan (own_updI (own_updI f (ps % (4 : Int32)).toNatClampNeg 1) ((ps + 1) % (4 : Int32)).toNatClampNeg ln) (own_updI (own_updI g (ps % (4 : Int32)).toNatClampNeg ((1 : Int32) + pa + pb)) ((ps + 1) % (4 : Int32)).toNatClampNeg (cl + pc + pd)) (own_updI (own_updI k (ps % (4 : Int32)).toNatClampNeg (0 + pb)) ((ps + 1) % (4 : Int32)).toNatClampNeg (ad + pd)) lq p4 n).2) = ex)).2 kt) ?_
                show own_G p.tables e below _ (T154.setTop (mkF m 276 #[.val (.int p0), .val (.int p1), .val (.int p2), .val (.int p3), .val (.int p4), .val (.int p5), .val (.int pa), .val (.int pb), .val (.int pc), .val (.int pd), .val (.int w10), .val (.int n11), .val (.int lq), .val (.ref b143), .val (.int (((1 : Int32) + pa) + pb)), .val (.int l2), .val (.int c2), .val (.int a2), .val (.int hr), .val (.int ex)] []))
                refine own_go (fun _ kt => XS.iconst X154.here hx rfl (hb hby at_276) kt) ?_
                show own_G p.tables e below _ (T154.setTop (mkF m 277 #[.val (.int p0), .val (.int p1), .val (.int p2), .val (.int p3), .val (.int p4), .val (.int p5), .val (.int pa), .val (.int pb), .val (.int pc), .val (.int pd), .val (.int w10), .val (.int n11), .val (.int lq), .val (.ref b143), .val (.int (((1 : Int32) + pa) + pb)), .val (.int l2), .val (.int c2), .val (.int a2), .val (.int hr), .val (.int ex)] [(.int (1 : Int32))]))
                refine own_go (fun _ kt => XS.goto X154.here hx rfl (pc0 := 277) (pc' := 281) rfl (hb hby at_277) (by decide) (by decide) kt) ?_
                show own_G p.tables e below _ (T154.setTop (mkF m 281 #[.val (.int p0), .val (.int p1), .val (.int p2), .val (.int p3), .val (.int p4), .val (.int p5), .val (.int pa), .val (.int pb), .val (.int pc), .val (.int pd), .val (.int w10), .val (.int n11), .val (.int lq), .val (.ref b143), .val (.int (((1 : Int32) + pa) + pb)), .val (.int l2), .val (.int c2), .val (.int a2), .val (.int hr), .val (.int ex)] [(.int (1 : Int32))]))
                exact own_retN X154 hx (t := .boolean) Bd.returns (by simp) hlk (hb hby at_281) (Nat.le_of_ble_eq_true rfl) (Nat.le_of_ble_eq_true rfl) eq154 ⟨rfl, N154⟩
              show own_G p.tables e below _ (T151.setTop (mkF m 201 #[.val (.int p0), .val (.int p1), .val (.int p2), .val (.int p3), .val (.int p4), .val (.int p5), .val (.int pa), .val (.int pb), .val (.int pc), .val (.int pd), .val (.int w10), .val (.int n11), .val (.int lq), .val (.ref b143), .val (.int (((1 : Int32) + pa) + pb)), .val (.int l2), .val (.int c2), .val (.int a2), .val (.int hr), .unset] []))
              refine own_go (fun _ kt => XS.iload X151.here hx rfl (hb hby at_201) rfl kt) ?_
              show own_G p.tables e below _ (T151.setTop (mkF m 203 #[.val (.int p0), .val (.int p1), .val (.int p2), .val (.int p3), .val (.int p4), .val (.int p5), .val (.int pa), .val (.int pb), .val (.int pc), .val (.int pd), .val (.int w10), .val (.int n11), .val (.int lq), .val (.ref b143), .val (.int (((1 : Int32) + pa) + pb)), .val (.int l2), .val (.int c2), .val (.int a2), .val (.int hr), .unset] [(.int lq)]))
              refine own_go (fun _ kt => XS.iload X151.here hx rfl (hb hby at_203) rfl kt) ?_
              by_cases k1 : lq = l2
              · show own_G p.tables e below _ (T151.setTop (mkF m 205 #[.val (.int p0), .val (.int p1), .val (.int p2), .val (.int p3), .val (.int p4), .val (.int p5), .val (.int pa), .val (.int pb), .val (.int pc), .val (.int pd), .val (.int w10), .val (.int n11), .val (.int lq), .val (.ref b143), .val (.int (((1 : Int32) + pa) + pb)), .val (.int l2), .val (.int c2), .val (.int a2), .val (.int hr), .unset] [(.int l2), (.int lq)]))
                refine own_go (fun _ kt => XS.icmpNo X151.here hx rfl (hb hby at_205) rfl (teq (k1 : lq = l2)).2 kt) ?_
                show own_G p.tables e below _ (T151.setTop (mkF m 208 #[.val (.int p0), .val (.int p1), .val (.int p2), .val (.int p3), .val (.int p4), .val (.int p5), .val (.int pa), .val (.int pb), .val (.int pc), .val (.int pd), .val (.int w10), .val (.int n11), .val (.int lq), .val (.ref b143), .val (.int (((1 : Int32) + pa) + pb)), .val (.int l2), .val (.int c2), .val (.int a2), .val (.int hr), .unset] []))
                refine own_go (fun _ kt => XS.iload X151.here hx rfl (hb hby at_208) rfl kt) ?_
                show own_G p.tables e below _ (T151.setTop (mkF m 210 #[.val (.int p0), .val (.int p1), .val (.int p2), .val (.int p3), .val (.int p4), .val (.int p5), .val (.int pa), .val (.int pb), .val (.int pc), .val (.int pd), .val (.int w10), .val (.int n11), .val (.int lq), .val (.ref b143), .val (.int (((1 : Int32) + pa) + pb)), .val (.int l2), .val (.int c2), .val (.int a2), .val (.int hr), .unset] [(.int p4)]))
                refine own_go (fun _ kt => XS.iload X151.here hx rfl (hb hby at_210) rfl kt) ?_
                by_cases k2 : p4 < c2
                · show own_G p.tables e below _ (T151.setTop (mkF m 212 #[.val (.int p0), .val (.int p1), .val (.int p2), .val (.int p3), .val (.int p4), .val (.int p5), .val (.int pa), .val (.int pb), .val (.int pc), .val (.int pd), .val (.int w10), .val (.int n11), .val (.int lq), .val (.ref b143), .val (.int (((1 : Int32) + pa) + pb)), .val (.int l2), .val (.int c2), .val (.int a2), .val (.int hr), .unset] [(.int c2), (.int p4)]))
                  refine own_go (fun _ kt => XS.icmpYes X151.here hx rfl (pc0 := 212) (pc' := 225) rfl (hb hby at_212) rfl (tlt (k2 : p4 < c2)).1 (by decide) (by decide) kt) ?_
                  show own_G p.tables e below _ (T151.setTop (mkF m 225 #[.val (.int p0), .val (.int p1), .val (.int p2), .val (.int p3), .val (.int p4), .val (.int p5), .val (.int pa), .val (.int pb), .val (.int pc), .val (.int pd), .val (.int w10), .val (.int n11), .val (.int lq), .val (.ref b143), .val (.int (((1 : Int32) + pa) + pb)), .val (.int l2), .val (.int c2), .val (.int a2), .val (.int hr), .unset] []))
                  refine own_go (fun _ kt => XS.iload X151.here hx rfl (hb hby at_225) rfl kt) ?_
                  show own_G p.tables e below _ (T151.setTop (mkF m 227 #[.val (.int p0), .val (.int p1), .val (.int p2), .val (.int p3), .val (.int p4), .val (.int p5), .val (.int pa), .val (.int pb), .val (.int pc), .val (.int pd), .val (.int w10), .val (.int n11), .val (.int lq), .val (.ref b143), .val (.int (((1 : Int32) + pa) + pb)), .val (.int l2), .val (.int c2), .val (.int a2), .val (.int hr), .unset] [(.int lq)]))
                  refine own_go (fun _ kt => XS.iconst X151.here hx rfl (hb hby at_227) kt) ?_
                  by_cases k3 : lq = (1 : Int32)
                  · show own_G p.tables e below _ (T151.setTop (mkF m 228 #[.val (.int p0), .val (.int p1), .val (.int p2), .val (.int p3), .val (.int p4), .val (.int p5), .val (.int pa), .val (.int pb), .val (.int pc), .val (.int pd), .val (.int w10), .val (.int n11), .val (.int lq), .val (.ref b143), .val (.int (((1 : Int32) + pa) + pb)), .val (.int l2), .val (.int c2), .val (.int a2), .val (.int hr), .unset] [(.int (1 : Int32)), (.int lq)]))
                    refine own_go (fun _ kt => XS.icmpNo X151.here hx rfl (hb hby at_228) rfl (teq (k3 : lq = (1 : Int32))).2 kt) ?_
                    show own_G p.tables e below _ (T151.setTop (mkF m 231 #[.val (.int p0), .val (.int p1), .val (.int p2), .val (.int p3), .val (.int p4), .val (.int p5), .val (.int pa), .val (.int pb), .val (.int pc), .val (.int pd), .val (.int w10), .val (.int n11), .val (.int lq), .val (.ref b143), .val (.int (((1 : Int32) + pa) + pb)), .val (.int l2), .val (.int c2), .val (.int a2), .val (.int hr), .unset] []))
                    refine own_go (fun _ kt => XS.iload X151.here hx rfl (hb hby at_231) rfl kt) ?_
                    show own_G p.tables e below _ (T151.setTop (mkF m 233 #[.val (.int p0), .val (.int p1), .val (.int p2), .val (.int p3), .val (.int p4), .val (.int p5), .val (.int pa), .val (.int pb), .val (.int pc), .val (.int pd), .val (.int w10), .val (.int n11), .val (.int lq), .val (.ref b143), .val (.int (((1 : Int32) + pa) + pb)), .val (.int l2), .val (.int c2), .val (.int a2), .val (.int hr), .unset] [(.int p4)]))
                    refine own_go (fun _ kt => XS.iload X151.here hx rfl (hb hby at_233) rfl kt) ?_
                    by_cases k4 : p4 < (((1 : Int32) + pa) + pb)
                    · show own_G p.tables e below _ (T151.setTop (mkF m 235 #[.val (.int p0), .val (.int p1), .val (.int p2), .val (.int p3), .val (.int p4), .val (.int p5), .val (.int pa), .val (.int pb), .val (.int pc), .val (.int pd), .val (.int w10), .val (.int n11), .val (.int lq), .val (.ref b143), .val (.int (((1 : Int32) + pa) + pb)), .val (.int l2), .val (.int c2), .val (.int a2), .val (.int hr), .unset] [(.int (((1 : Int32) + pa) + pb)), (.int p4)]))
                      refine own_go (fun _ kt => XS.icmpYes X151.here hx rfl (pc0 := 235) (pc' := 248) rfl (hb hby at_235) rfl (tlt (k4 : p4 < (((1 : Int32) + pa) + pb))).1 (by decide) (by decide) kt) ?_
                      show own_G p.tables e below _ (T151.setTop (mkF m 248 #[.val (.int p0), .val (.int p1), .val (.int p2), .val (.int p3), .val (.int p4), .val (.int p5), .val (.int pa), .val (.int pb), .val (.int pc), .val (.int pd), .val (.int w10), .val (.int n11), .val (.int lq), .val (.ref b143), .val (.int (((1 : Int32) + pa) + pb)), .val (.int l2), .val (.int c2), .val (.int a2), .val (.int hr), .unset] []))
                      refine own_go (fun _ kt => XS.iload X151.here hx rfl (hb hby at_248) rfl kt) ?_
                      show own_G p.tables e below _ (T151.setTop (mkF m 250 #[.val (.int p0), .val (.int p1), .val (.int p2), .val (.int p3), .val (.int p4), .val (.int p5), .val (.int pa), .val (.int pb), .val (.int pc), .val (.int pd), .val (.int w10), .val (.int n11), .val (.int lq), .val (.ref b143), .val (.int (((1 : Int32) + pa) + pb)), .val (.int l2), .val (.int c2), .val (.int a2), .val (.int hr), .unset] [(.int p4)]))
                      refine own_go (fun _ kt => XS.istore X151.here hx rfl (hb hby at_250) rfl (l' := #[.val (.int p0), .val (.int p1), .val (.int p2), .val (.int p3), .val (.int p4), .val (.int p5), .val (.int pa), .val (.int pb), .val (.int pc), .val (.int pd), .val (.int w10), .val (.int n11), .val (.int lq), .val (.ref b143), .val (.int (((1 : Int32) + pa) + pb)), .val (.int l2), .val (.int c2), .val (.int a2), .val (.int hr), .val (.int p4)]) rfl kt) ?_
                      show own_G p.tables e below _ (T151.setTop (mkF m 252 #[.val (.int p0), .val (.int p1), .val (.int p2), .val (.int p3), .val (.int p4), .val (.int p5), .val (.int pa), .val (.int pb), .val (.int pc), .val (.int pd), .val (.int w10), .val (.int n11), .val (.int lq), .val (.ref b143), .val (.int (((1 : Int32) + pa) + pb)), .val (.int l2), .val (.int c2), .val (.int a2), .val (.int hr), .val (.int p4)] []))
                      exact j252 _ _ _ p4 X151 e151 N151 Z151 P (by rw [own_ans, if_neg (fun z => z.2 (q2 ▸ k2)), if_neg (fun z => z.2 k4), Int32.sub_zero])
                    · show own_G p.tables e below _ (T151.setTop (mkF m 235 #[.val (.int p0), .val (.int p1), .val (.int p2), .val (.int p3), .val (.int p4), .val (.int p5), .val (.int pa), .val (.int pb), .val (.int pc), .val (.int pd), .val (.int w10), .val (.int n11), .val (.int lq), .val (.ref b143), .val (.int (((1 : Int32) + pa) + pb)), .val (.int l2), .val (.int c2), .val (.int a2), .val (.int hr), .unset] [(.int (((1 : Int32) + pa) + pb)), (.int p4)]))
                      refine own_go (fun _ kt => XS.icmpNo X151.here hx rfl (hb hby at_235) rfl (flt (k4 : ¬ (p4 < (((1 : Int32) + pa) + pb)))).1 kt) ?_
                      show own_G p.tables e below _ (T151.setTop (mkF m 238 #[.val (.int p0), .val (.int p1), .val (.int p2), .val (.int p3), .val (.int p4), .val (.int p5), .val (.int pa), .val (.int pb), .val (.int pc), .val (.int pd), .val (.int w10), .val (.int n11), .val (.int lq), .val (.ref b143), .val (.int (((1 : Int32) + pa) + pb)), .val (.int l2), .val (.int c2), .val (.int a2), .val (.int hr), .unset] []))
                      refine own_go (fun _ kt => XS.iload X151.here hx rfl (hb hby at_238) rfl kt) ?_
                      show own_G p.tables e below _ (T151.setTop (mkF m 240 #[.val (.int p0), .val (.int p1), .val (.int p2), .val (.int p3), .val (.int p4), .val (.int p5), .val (.int pa), .val (.int pb), .val (.int pc), .val (.int pd), .val (.int w10), .val (.int n11), .val (.int lq), .val (.ref b143), .val (.int (((1 : Int32) + pa) + pb)), .val (.int l2), .val (.int c2), .val (.int a2), .val (.int hr), .unset] [(.int p4)]))
                      refine own_go (fun _ kt => XS.iload X151.here hx rfl (hb hby at_240) rfl kt) ?_
                      show own_G p.tables e below _ (T151.setTop (mkF m 242 #[.val (.int p0), .val (.int p1), .val (.int p2), .val (.int p3), .val (.int p4), .val (.int p5), .val (.int pa), .val (.int pb), .val (.int pc), .val (.int pd), .val (.int w10), .val (.int n11), .val (.int lq), .val (.ref b143), .val (.int (((1 : Int32) + pa) + pb)), .val (.int l2), .val (.int c2), .val (.int a2), .val (.int hr), .unset] [(.int pb), (.int p4)]))
                      refine own_go (fun _ kt => XS.isub X151.here hx rfl (hb hby at_242) rfl kt) ?_
                      show own_G p.tables e below _ (T151.setTop (mkF m 243 #[.val (.int p0), .val (.int p1), .val (.int p2), .val (.int p3), .val (.int p4), .val (.int p5), .val (.int pa), .val (.int pb), .val (.int pc), .val (.int pd), .val (.int w10), .val (.int n11), .val (.int lq), .val (.ref b143), .val (.int (((1 : Int32) + pa) + pb)), .val (.int l2), .val (.int c2), .val (.int a2), .val (.int hr), .unset] [(.int (p4 - pb))]))
                      refine own_go (fun _ kt => XS.istore X151.here hx rfl (hb hby at_243) rfl (l' := #[.val (.int p0), .val (.int p1), .val (.int p2), .val (.int p3), .val (.int p4), .val (.int p5), .val (.int pa), .val (.int pb), .val (.int pc), .val (.int pd), .val (.int w10), .val (.int n11), .val (.int lq), .val (.ref b143), .val (.int (((1 : Int32) + pa) + pb)), .val (.int l2), .val (.int c2), .val (.int a2), .val (.int hr), .val (.int (p4 - pb))]) rfl kt) ?_
                      show own_G p.tables e below _ (T151.setTop (mkF m 245 #[.val (.int p0), .val (.int p1), .val (.int p2), .val (.int p3), .val (.int p4), .val (.int p5), .val (.int pa), .val (.int pb), .val (.int pc), .val (.int pd), .val (.int w10), .val (.int n11), .val (.int lq), .val (.ref b143), .val (.int (((1 : Int32) + pa) + pb)), .val (.int l2), .val (.int c2), .val (.int a2), .val (.int hr), .val (.int (p4 - pb))] []))
                      refine own_go (fun _ kt => XS.goto X151.here hx rfl (pc0 := 245) (pc' := 252) rfl (hb hby at_245) (by decide) (by decide) kt) ?_
                      show own_G p.tables e below _ (T151.setTop (mkF m 252 #[.val (.int p0), .val (.int p1), .val (.int p2), .val (.int p3), .val (.int p4), .val (.int p5), .val (.int pa), .val (.int pb), .val (.int pc), .val (.int pd), .val (.int w10), .val (.int n11), .val (.int lq), .val (.ref b143), .val (.int (((1 : Int32) + pa) + pb)), .val (.int l2), .val (.int c2), .val (.int a2), .val (.int hr), .val (.int (p4 - pb))] []))
                      exact j252 _ _ _ (p4 - pb) X151 e151 N151 Z151 P (by rw [own_ans, if_neg (fun z => z.2 (q2 ▸ k2)), if_pos ⟨k3, k4⟩, v0])
                  · show own_G p.tables e below _ (T151.setTop (mkF m 228 #[.val (.int p0), .val (.int p1), .val (.int p2), .val (.int p3), .val (.int p4), .val (.int p5), .val (.int pa), .val (.int pb), .val (.int pc), .val (.int pd), .val (.int w10), .val (.int n11), .val (.int lq), .val (.ref b143), .val (.int (((1 : Int32) + pa) + pb)), .val (.int l2), .val (.int c2), .val (.int a2), .val (.int hr), .unset] [(.int (1 : Int32)), (.int lq)]))
                    refine own_go (fun _ kt => XS.icmpYes X151.here hx rfl (pc0 := 228) (pc' := 248) rfl (hb hby at_228) rfl (feq (k3 : ¬ (lq = (1 : Int32)))).2 (by decide) (by decide) kt) ?_
                    show own_G p.tables e below _ (T151.setTop (mkF m 248 #[.val (.int p0), .val (.int p1), .val (.int p2), .val (.int p3), .val (.int p4), .val (.int p5), .val (.int pa), .val (.int pb), .val (.int pc), .val (.int pd), .val (.int w10), .val (.int n11), .val (.int lq), .val (.ref b143), .val (.int (((1 : Int32) + pa) + pb)), .val (.int l2), .val (.int c2), .val (.int a2), .val (.int hr), .unset] []))
                    refine own_go (fun _ kt => XS.iload X151.here hx rfl (hb hby at_248) rfl kt) ?_
                    show own_G p.tables e below _ (T151.setTop (mkF m 250 #[.val (.int p0), .val (.int p1), .val (.int p2), .val (.int p3), .val (.int p4), .val (.int p5), .val (.int pa), .val (.int pb), .val (.int pc), .val (.int pd), .val (.int w10), .val (.int n11), .val (.int lq), .val (.ref b143), .val (.int (((1 : Int32) + pa) + pb)), .val (.int l2), .val (.int c2), .val (.int a2), .val (.int hr), .unset] [(.int p4)]))
                    refine own_go (fun _ kt => XS.istore X151.here hx rfl (hb hby at_250) rfl (l' := #[.val (.int p0), .val (.int p1), .val (.int p2), .val (.int p3), .val (.int p4), .val (.int p5), .val (.int pa), .val (.int pb), .val (.int pc), .val (.int pd), .val (.int w10), .val (.int n11), .val (.int lq), .val (.ref b143), .val (.int (((1 : Int32) + pa) + pb)), .val (.int l2), .val (.int c2), .val (.int a2), .val (.int hr), .val (.int p4)]) rfl kt) ?_
                    show own_G p.tables e below _ (T151.setTop (mkF m 252 #[.val (.int p0), .val (.int p1), .val (.int p2), .val (.int p3), .val (.int p4), .val (.int p5), .val (.int pa), .val (.int pb), .val (.int pc), .val (.int pd), .val (.int w10), .val (.int n11), .val (.int lq), .val (.ref b143), .val (.int (((1 : Int32) + pa) + pb)), .val (.int l2), .val (.int c2), .val (.int a2), .val (.int hr), .val (.int p4)] []))
                    exact j252 _ _ _ p4 X151 e151 N151 Z151 P (by rw [own_ans, if_neg (fun z => z.2 (q2 ▸ k2)), if_neg (fun z => k3 z.1), Int32.sub_zero])
                · show own_G p.tables e below _ (T151.setTop (mkF m 212 #[.val (.int p0), .val (.int p1), .val (.int p2), .val (.int p3), .val (.int p4), .val (.int p5), .val (.int pa), .val (.int pb), .val (.int pc), .val (.int pd), .val (.int w10), .val (.int n11), .val (.int lq), .val (.ref b143), .val (.int (((1 : Int32) + pa) + pb)), .val (.int l2), .val (.int c2), .val (.int a2), .val (.int hr), .unset] [(.int c2), (.int p4)]))
                  refine own_go (fun _ kt => XS.icmpNo X151.here hx rfl (hb hby at_212) rfl (flt (k2 : ¬ (p4 < c2))).1 kt) ?_
                  show own_G p.tables e below _ (T151.setTop (mkF m 215 #[.val (.int p0), .val (.int p1), .val (.int p2), .val (.int p3), .val (.int p4), .val (.int p5), .val (.int pa), .val (.int pb), .val (.int pc), .val (.int pd), .val (.int w10), .val (.int n11), .val (.int lq), .val (.ref b143), .val (.int (((1 : Int32) + pa) + pb)), .val (.int l2), .val (.int c2), .val (.int a2), .val (.int hr), .unset] []))
                  refine own_go (fun _ kt => XS.iload X151.here hx rfl (hb hby at_215) rfl kt) ?_
                  show own_G p.tables e below _ (T151.setTop (mkF m 217 #[.val (.int p0), .val (.int p1), .val (.int p2), .val (.int p3), .val (.int p4), .val (.int p5), .val (.int pa), .val (.int pb), .val (.int pc), .val (.int pd), .val (.int w10), .val (.int n11), .val (.int lq), .val (.ref b143), .val (.int (((1 : Int32) + pa) + pb)), .val (.int l2), .val (.int c2), .val (.int a2), .val (.int hr), .unset] [(.int p4)]))
                  refine own_go (fun _ kt => XS.iload X151.here hx rfl (hb hby at_217) rfl kt) ?_
                  show own_G p.tables e below _ (T151.setTop (mkF m 219 #[.val (.int p0), .val (.int p1), .val (.int p2), .val (.int p3), .val (.int p4), .val (.int p5), .val (.int pa), .val (.int pb), .val (.int pc), .val (.int pd), .val (.int w10), .val (.int n11), .val (.int lq), .val (.ref b143), .val (.int (((1 : Int32) + pa) + pb)), .val (.int l2), .val (.int c2), .val (.int a2), .val (.int hr), .unset] [(.int a2), (.int p4)]))
                  refine own_go (fun _ kt => XS.isub X151.here hx rfl (hb hby at_219) rfl kt) ?_
                  show own_G p.tables e below _ (T151.setTop (mkF m 220 #[.val (.int p0), .val (.int p1), .val (.int p2), .val (.int p3), .val (.int p4), .val (.int p5), .val (.int pa), .val (.int pb), .val (.int pc), .val (.int pd), .val (.int w10), .val (.int n11), .val (.int lq), .val (.ref b143), .val (.int (((1 : Int32) + pa) + pb)), .val (.int l2), .val (.int c2), .val (.int a2), .val (.int hr), .unset] [(.int (p4 - a2))]))
                  refine own_go (fun _ kt => XS.istore X151.here hx rfl (hb hby at_220) rfl (l' := #[.val (.int p0), .val (.int p1), .val (.int p2), .val (.int p3), .val (.int p4), .val (.int p5), .val (.int pa), .val (.int pb), .val (.int pc), .val (.int pd), .val (.int w10), .val (.int n11), .val (.int lq), .val (.ref b143), .val (.int (((1 : Int32) + pa) + pb)), .val (.int l2), .val (.int c2), .val (.int a2), .val (.int hr), .val (.int (p4 - a2))]) rfl kt) ?_
                  show own_G p.tables e below _ (T151.setTop (mkF m 222 #[.val (.int p0), .val (.int p1), .val (.int p2), .val (.int p3), .val (.int p4), .val (.int p5), .val (.int pa), .val (.int pb), .val (.int pc), .val (.int pd), .val (.int w10), .val (.int n11), .val (.int lq), .val (.ref b143), .val (.int (((1 : Int32) + pa) + pb)), .val (.int l2), .val (.int c2), .val (.int a2), .val (.int hr), .val (.int (p4 - a2))] []))
                  refine own_go (fun _ kt => XS.goto X151.here hx rfl (pc0 := 222) (pc' := 252) rfl (hb hby at_222) (by decide) (by decide) kt) ?_
                  show own_G p.tables e below _ (T151.setTop (mkF m 252 #[.val (.int p0), .val (.int p1), .val (.int p2), .val (.int p3), .val (.int p4), .val (.int p5), .val (.int pa), .val (.int pb), .val (.int pc), .val (.int pd), .val (.int w10), .val (.int n11), .val (.int lq), .val (.ref b143), .val (.int (((1 : Int32) + pa) + pb)), .val (.int l2), .val (.int c2), .val (.int a2), .val (.int hr), .val (.int (p4 - a2))] []))
                  exact j252 _ _ _ (p4 - a2) X151 e151 N151 Z151 P (by rw [own_ans, if_pos ⟨q1 ▸ k1, q2 ▸ k2⟩, q3])
              · show own_G p.tables e below _ (T151.setTop (mkF m 205 #[.val (.int p0), .val (.int p1), .val (.int p2), .val (.int p3), .val (.int p4), .val (.int p5), .val (.int pa), .val (.int pb), .val (.int pc), .val (.int pd), .val (.int w10), .val (.int n11), .val (.int lq), .val (.ref b143), .val (.int (((1 : Int32) + pa) + pb)), .val (.int l2), .val (.int c2), .val (.int a2), .val (.int hr), .unset] [(.int l2), (.int lq)]))
                refine own_go (fun _ kt => XS.icmpYes X151.here hx rfl (pc0 := 205) (pc' := 225) rfl (hb hby at_205) rfl (feq (k1 : ¬ (lq = l2))).2 (by decide) (by decide) kt) ?_
                show own_G p.tables e below _ (T151.setTop (mkF m 225 #[.val (.int p0), .val (.int p1), .val (.int p2), .val (.int p3), .val (.int p4), .val (.int p5), .val (.int pa), .val (.int pb), .val (.int pc), .val (.int pd), .val (.int w10), .val (.int n11), .val (.int lq), .val (.ref b143), .val (.int (((1 : Int32) + pa) + pb)), .val (.int l2), .val (.int c2), .val (.int a2), .val (.int hr), .unset] []))
                refine own_go (fun _ kt => XS.iload X151.here hx rfl (hb hby at_225) rfl kt) ?_
                show own_G p.tables e below _ (T151.setTop (mkF m 227 #[.val (.int p0), .val (.int p1), .val (.int p2), .val (.int p3), .val (.int p4), .val (.int p5), .val (.int pa), .val (.int pb), .val (.int pc), .val (.int pd), .val (.int w10), .val (.int n11), .val (.int lq), .val (.ref b143), .val (.int (((1 : Int32) + pa) + pb)), .val (.int l2), .val (.int c2), .val (.int a2), .val (.int hr), .unset] [(.int lq)]))
                refine own_go (fun _ kt => XS.iconst X151.here hx rfl (hb hby at_227) kt) ?_
                by_cases k3 : lq = (1 : Int32)
                · show own_G p.tables e below _ (T151.setTop (mkF m 228 #[.val (.int p0), .val (.int p1), .val (.int p2), .val (.int p3), .val (.int p4), .val (.int p5), .val (.int pa), .val (.int pb), .val (.int pc), .val (.int pd), .val (.int w10), .val (.int n11), .val (.int lq), .val (.ref b143), .val (.int (((1 : Int32) + pa) + pb)), .val (.int l2), .val (.int c2), .val (.int a2), .val (.int hr), .unset] [(.int (1 : Int32)), (.int lq)]))
                  refine own_go (fun _ kt => XS.icmpNo X151.here hx rfl (hb hby at_228) rfl (teq (k3 : lq = (1 : Int32))).2 kt) ?_
                  show own_G p.tables e below _ (T151.setTop (mkF m 231 #[.val (.int p0), .val (.int p1), .val (.int p2), .val (.int p3), .val (.int p4), .val (.int p5), .val (.int pa), .val (.int pb), .val (.int pc), .val (.int pd), .val (.int w10), .val (.int n11), .val (.int lq), .val (.ref b143), .val (.int (((1 : Int32) + pa) + pb)), .val (.int l2), .val (.int c2), .val (.int a2), .val (.int hr), .unset] []))
                  refine own_go (fun _ kt => XS.iload X151.here hx rfl (hb hby at_231) rfl kt) ?_
                  show own_G p.tables e below _ (T151.setTop (mkF m 233 #[.val (.int p0), .val (.int p1), .val (.int p2), .val (.int p3), .val (.int p4), .val (.int p5), .val (.int pa), .val (.int pb), .val (.int pc), .val (.int pd), .val (.int w10), .val (.int n11), .val (.int lq), .val (.ref b143), .val (.int (((1 : Int32) + pa) + pb)), .val (.int l2), .val (.int c2), .val (.int a2), .val (.int hr), .unset] [(.int p4)]))
                  refine own_go (fun _ kt => XS.iload X151.here hx rfl (hb hby at_233) rfl kt) ?_
                  by_cases k4 : p4 < (((1 : Int32) + pa) + pb)
                  · show own_G p.tables e below _ (T151.setTop (mkF m 235 #[.val (.int p0), .val (.int p1), .val (.int p2), .val (.int p3), .val (.int p4), .val (.int p5), .val (.int pa), .val (.int pb), .val (.int pc), .val (.int pd), .val (.int w10), .val (.int n11), .val (.int lq), .val (.ref b143), .val (.int (((1 : Int32) + pa) + pb)), .val (.int l2), .val (.int c2), .val (.int a2), .val (.int hr), .unset] [(.int (((1 : Int32) + pa) + pb)), (.int p4)]))
                    refine own_go (fun _ kt => XS.icmpYes X151.here hx rfl (pc0 := 235) (pc' := 248) rfl (hb hby at_235) rfl (tlt (k4 : p4 < (((1 : Int32) + pa) + pb))).1 (by decide) (by decide) kt) ?_
                    show own_G p.tables e below _ (T151.setTop (mkF m 248 #[.val (.int p0), .val (.int p1), .val (.int p2), .val (.int p3), .val (.int p4), .val (.int p5), .val (.int pa), .val (.int pb), .val (.int pc), .val (.int pd), .val (.int w10), .val (.int n11), .val (.int lq), .val (.ref b143), .val (.int (((1 : Int32) + pa) + pb)), .val (.int l2), .val (.int c2), .val (.int a2), .val (.int hr), .unset] []))
                    refine own_go (fun _ kt => XS.iload X151.here hx rfl (hb hby at_248) rfl kt) ?_
                    show own_G p.tables e below _ (T151.setTop (mkF m 250 #[.val (.int p0), .val (.int p1), .val (.int p2), .val (.int p3), .val (.int p4), .val (.int p5), .val (.int pa), .val (.int pb), .val (.int pc), .val (.int pd), .val (.int w10), .val (.int n11), .val (.int lq), .val (.ref b143), .val (.int (((1 : Int32) + pa) + pb)), .val (.int l2), .val (.int c2), .val (.int a2), .val (.int hr), .unset] [(.int p4)]))
                    refine own_go (fun _ kt => XS.istore X151.here hx rfl (hb hby at_250) rfl (l' := #[.val (.int p0), .val (.int p1), .val (.int p2), .val (.int p3), .val (.int p4), .val (.int p5), .val (.int pa), .val (.int pb), .val (.int pc), .val (.int pd), .val (.int w10), .val (.int n11), .val (.int lq), .val (.ref b143), .val (.int (((1 : Int32) + pa) + pb)), .val (.int l2), .val (.int c2), .val (.int a2), .val (.int hr), .val (.int p4)]) rfl kt) ?_
                    show own_G p.tables e below _ (T151.setTop (mkF m 252 #[.val (.int p0), .val (.int p1), .val (.int p2), .val (.int p3), .val (.int p4), .val (.int p5), .val (.int pa), .val (.int pb), .val (.int pc), .val (.int pd), .val (.int w10), .val (.int n11), .val (.int lq), .val (.ref b143), .val (.int (((1 : Int32) + pa) + pb)), .val (.int l2), .val (.int c2), .val (.int a2), .val (.int hr), .val (.int p4)] []))
                    exact j252 _ _ _ p4 X151 e151 N151 Z151 P (by rw [own_ans, if_neg (fun z => k1 (z.1.trans q1.symm)), if_neg (fun z => z.2 k4), Int32.sub_zero])
                  · show own_G p.tables e below _ (T151.setTop (mkF m 235 #[.val (.int p0), .val (.int p1), .val (.int p2), .val (.int p3), .val (.int p4), .val (.int p5), .val (.int pa), .val (.int pb), .val (.int pc), .val (.int pd), .val (.int w10), .val (.int n11), .val (.int lq), .val (.ref b143), .val (.int (((1 : Int32) + pa) + pb)), .val (.int l2), .val (.int c2), .val (.int a2), .val (.int hr), .unset] [(.int (((1 : Int32) + pa) + pb)), (.int p4)]))
                    refine own_go (fun _ kt => XS.icmpNo X151.here hx rfl (hb hby at_235) rfl (flt (k4 : ¬ (p4 < (((1 : Int32) + pa) + pb)))).1 kt) ?_
                    show own_G p.tables e below _ (T151.setTop (mkF m 238 #[.val (.int p0), .val (.int p1), .val (.int p2), .val (.int p3), .val (.int p4), .val (.int p5), .val (.int pa), .val (.int pb), .val (.int pc), .val (.int pd), .val (.int w10), .val (.int n11), .val (.int lq), .val (.ref b143), .val (.int (((1 : Int32) + pa) + pb)), .val (.int l2), .val (.int c2), .val (.int a2), .val (.int hr), .unset] []))
                    refine own_go (fun _ kt => XS.iload X151.here hx rfl (hb hby at_238) rfl kt) ?_
                    show own_G p.tables e below _ (T151.setTop (mkF m 240 #[.val (.int p0), .val (.int p1), .val (.int p2), .val (.int p3), .val (.int p4), .val (.int p5), .val (.int pa), .val (.int pb), .val (.int pc), .val (.int pd), .val (.int w10), .val (.int n11), .val (.int lq), .val (.ref b143), .val (.int (((1 : Int32) + pa) + pb)), .val (.int l2), .val (.int c2), .val (.int a2), .val (.int hr), .unset] [(.int p4)]))
                    refine own_go (fun _ kt => XS.iload X151.here hx rfl (hb hby at_240) rfl kt) ?_
                    show own_G p.tables e below _ (T151.setTop (mkF m 242 #[.val (.int p0), .val (.int p1), .val (.int p2), .val (.int p3), .val (.int p4), .val (.int p5), .val (.int pa), .val (.int pb), .val (.int pc), .val (.int pd), .val (.int w10), .val (.int n11), .val (.int lq), .val (.ref b143), .val (.int (((1 : Int32) + pa) + pb)), .val (.int l2), .val (.int c2), .val (.int a2), .val (.int hr), .unset] [(.int pb), (.int p4)]))
                    refine own_go (fun _ kt => XS.isub X151.here hx rfl (hb hby at_242) rfl kt) ?_
                    show own_G p.tables e below _ (T151.setTop (mkF m 243 #[.val (.int p0), .val (.int p1), .val (.int p2), .val (.int p3), .val (.int p4), .val (.int p5), .val (.int pa), .val (.int pb), .val (.int pc), .val (.int pd), .val (.int w10), .val (.int n11), .val (.int lq), .val (.ref b143), .val (.int (((1 : Int32) + pa) + pb)), .val (.int l2), .val (.int c2), .val (.int a2), .val (.int hr), .unset] [(.int (p4 - pb))]))
                    refine own_go (fun _ kt => XS.istore X151.here hx rfl (hb hby at_243) rfl (l' := #[.val (.int p0), .val (.int p1), .val (.int p2), .val (.int p3), .val (.int p4), .val (.int p5), .val (.int pa), .val (.int pb), .val (.int pc), .val (.int pd), .val (.int w10), .val (.int n11), .val (.int lq), .val (.ref b143), .val (.int (((1 : Int32) + pa) + pb)), .val (.int l2), .val (.int c2), .val (.int a2), .val (.int hr), .val (.int (p4 - pb))]) rfl kt) ?_
                    show own_G p.tables e below _ (T151.setTop (mkF m 245 #[.val (.int p0), .val (.int p1), .val (.int p2), .val (.int p3), .val (.int p4), .val (.int p5), .val (.int pa), .val (.int pb), .val (.int pc), .val (.int pd), .val (.int w10), .val (.int n11), .val (.int lq), .val (.ref b143), .val (.int (((1 : Int32) + pa) + pb)), .val (.int l2), .val (.int c2), .val (.int a2), .val (.int hr), .val (.int (p4 - pb))] []))
                    refine own_go (fun _ kt => XS.goto X151.here hx rfl (pc0 := 245) (pc' := 252) rfl (hb hby at_245) (by decide) (by decide) kt) ?_
                    show own_G p.tables e below _ (T151.setTop (mkF m 252 #[.val (.int p0), .val (.int p1), .val (.int p2), .val (.int p3), .val (.int p4), .val (.int p5), .val (.int pa), .val (.int pb), .val (.int pc), .val (.int pd), .val (.int w10), .val (.int n11), .val (.int lq), .val (.ref b143), .val (.int (((1 : Int32) + pa) + pb)), .val (.int l2), .val (.int c2), .val (.int a2), .val (.int hr), .val (.int (p4 - pb))] []))
                    exact j252 _ _ _ (p4 - pb) X151 e151 N151 Z151 P (by rw [own_ans, if_neg (fun z => k1 (z.1.trans q1.symm)), if_pos ⟨k3, k4⟩, v0])
                · show own_G p.tables e below _ (T151.setTop (mkF m 228 #[.val (.int p0), .val (.int p1), .val (.int p2), .val (.int p3), .val (.int p4), .val (.int p5), .val (.int pa), .val (.int pb), .val (.int pc), .val (.int pd), .val (.int w10), .val (.int n11), .val (.int lq), .val (.ref b143), .val (.int (((1 : Int32) + pa) + pb)), .val (.int l2), .val (.int c2), .val (.int a2), .val (.int hr), .unset] [(.int (1 : Int32)), (.int lq)]))
                  refine own_go (fun _ kt => XS.icmpYes X151.here hx rfl (pc0 := 228) (pc' := 248) rfl (hb hby at_228) rfl (feq (k3 : ¬ (lq = (1 : Int32)))).2 (by decide) (by decide) kt) ?_
                  show own_G p.tables e below _ (T151.setTop (mkF m 248 #[.val (.int p0), .val (.int p1), .val (.int p2), .val (.int p3), .val (.int p4), .val (.int p5), .val (.int pa), .val (.int pb), .val (.int pc), .val (.int pd), .val (.int w10), .val (.int n11), .val (.int lq), .val (.ref b143), .val (.int (((1 : Int32) + pa) + pb)), .val (.int l2), .val (.int c2), .val (.int a2), .val (.int hr), .unset] []))
                  refine own_go (fun _ kt => XS.iload X151.here hx rfl (hb hby at_248) rfl kt) ?_
                  show own_G p.tables e below _ (T151.setTop (mkF m 250 #[.val (.int p0), .val (.int p1), .val (.int p2), .val (.int p3), .val (.int p4), .val (.int p5), .val (.int pa), .val (.int pb), .val (.int pc), .val (.int pd), .val (.int w10), .val (.int n11), .val (.int lq), .val (.ref b143), .val (.int (((1 : Int32) + pa) + pb)), .val (.int l2), .val (.int c2), .val (.int a2), .val (.int hr), .unset] [(.int p4)]))
                  refine own_go (fun _ kt => XS.istore X151.here hx rfl (hb hby at_250) rfl (l' := #[.val (.int p0), .val (.int p1), .val (.int p2), .val (.int p3), .val (.int p4), .val (.int p5), .val (.int pa), .val (.int pb), .val (.int pc), .val (.int pd), .val (.int w10), .val (.int n11), .val (.int lq), .val (.ref b143), .val (.int (((1 : Int32) + pa) + pb)), .val (.int l2), .val (.int c2), .val (.int a2), .val (.int hr), .val (.int p4)]) rfl kt) ?_
                  show own_G p.tables e below _ (T151.setTop (mkF m 252 #[.val (.int p0), .val (.int p1), .val (.int p2), .val (.int p3), .val (.int p4), .val (.int p5), .val (.int pa), .val (.int pb), .val (.int pc), .val (.int pd), .val (.int w10), .val (.int n11), .val (.int lq), .val (.ref b143), .val (.int (((1 : Int32) + pa) + pb)), .val (.int l2), .val (.int c2), .val (.int a2), .val (.int hr), .val (.int p4)] []))
                  exact j252 _ _ _ p4 X151 e151 N151 Z151 P (by rw [own_ans, if_neg (fun z => k1 (z.1.trans q1.symm)), if_neg (fun z => k3 z.1), Int32.sub_zero])
            show own_G p.tables e below _ (T150.setTop (mkF m 142 #[.val (.int p0), .val (.int p1), .val (.int p2), .val (.int p3), .val (.int p4), .val (.int p5), .val (.int pa), .val (.int pb), .val (.int pc), .val (.int pd), .val (.int w10), .val (.int n11), .val (.int lq), .val (.ref b143), .val (.int (((1 : Int32) + pa) + pb)), .unset, .unset, .unset, .unset, .unset] []))
            refine own_go (fun _ kt => XS.iload X150.here hx rfl (hb hby at_142) rfl kt) ?_
            by_cases k0 : n11 = (0 : Int32)
            · show own_G p.tables e below _ (T150.setTop (mkF m 144 #[.val (.int p0), .val (.int p1), .val (.int p2), .val (.int p3), .val (.int p4), .val (.int p5), .val (.int pa), .val (.int pb), .val (.int pc), .val (.int pd), .val (.int w10), .val (.int n11), .val (.int lq), .val (.ref b143), .val (.int (((1 : Int32) + pa) + pb)), .unset, .unset, .unset, .unset, .unset] [(.int n11)]))
              refine own_go (fun _ kt => XS.ifYes X150.here hx rfl (pc0 := 144) (pc' := 172) rfl (hb hby at_144) rfl ((if0 _ _).trans (teq (k0 : n11 = (0 : Int32))).1) (by decide) (by decide) kt) ?_
              show own_G p.tables e below _ (T150.setTop (mkF m 172 #[.val (.int p0), .val (.int p1), .val (.int p2), .val (.int p3), .val (.int p4), .val (.int p5), .val (.int pa), .val (.int pb), .val (.int pc), .val (.int pd), .val (.int w10), .val (.int n11), .val (.int lq), .val (.ref b143), .val (.int (((1 : Int32) + pa) + pb)), .unset, .unset, .unset, .unset, .unset] []))
              refine own_go (fun _ kt => XS.iconst X150.here hx rfl (hb hby at_172) kt) ?_
              show own_G p.tables e below _ (T150.setTop (mkF m 173 #[.val (.int p0), .val (.int p1), .val (.int p2), .val (.int p3), .val (.int p4), .val (.int p5), .val (.int pa), .val (.int pb), .val (.int pc), .val (.int pd), .val (.int w10), .val (.int n11), .val (.int lq), .val (.ref b143), .val (.int (((1 : Int32) + pa) + pb)), .unset, .unset, .unset, .unset, .unset] [(.int (1 : Int32))]))
              refine own_go (fun _ kt => XS.istore X150.here hx rfl (hb hby at_173) rfl (l' := #[.val (.int p0), .val (.int p1), .val (.int p2), .val (.int p3), .val (.int p4), .val (.int p5), .val (.int pa), .val (.int pb), .val (.int pc), .val (.int pd), .val (.int w10), .val (.int n11), .val (.int lq), .val (.ref b143), .val (.int (((1 : Int32) + pa) + pb)), .val (.int (1 : Int32)), .unset, .unset, .unset, .unset]) rfl kt) ?_
              show own_G p.tables e below _ (T150.setTop (mkF m 175 #[.val (.int p0), .val (.int p1), .val (.int p2), .val (.int p3), .val (.int p4), .val (.int p5), .val (.int pa), .val (.int pb), .val (.int pc), .val (.int pd), .val (.int w10), .val (.int n11), .val (.int lq), .val (.ref b143), .val (.int (((1 : Int32) + pa) + pb)), .val (.int (1 : Int32)), .unset, .unset, .unset, .unset] []))
              refine own_go (fun _ kt => XS.iload X150.here hx rfl (hb hby at_175) rfl kt) ?_
              show own_G p.tables e below _ (T150.setTop (mkF m 177 #[.val (.int p0), .val (.int p1), .val (.int p2), .val (.int p3), .val (.int p4), .val (.int p5), .val (.int pa), .val (.int pb), .val (.int pc), .val (.int pd), .val (.int w10), .val (.int n11), .val (.int lq), .val (.ref b143), .val (.int (((1 : Int32) + pa) + pb)), .val (.int (1 : Int32)), .unset, .unset, .unset, .unset] [(.int (((1 : Int32) + pa) + pb))]))
              refine own_go (fun _ kt => XS.iload X150.here hx rfl (hb hby at_177) rfl kt) ?_
              show own_G p.tables e below _ (T150.setTop (mkF m 179 #[.val (.int p0), .val (.int p1), .val (.int p2), .val (.int p3), .val (.int p4), .val (.int p5), .val (.int pa), .val (.int pb), .val (.int pc), .val (.int pd), .val (.int w10), .val (.int n11), .val (.int lq), .val (.ref b143), .val (.int (((1 : Int32) + pa) + pb)), .val (.int (1 : Int32)), .unset, .unset, .unset, .unset] [(.int pc), (.int (((1 : Int32) + pa) + pb))]))
              refine own_go (fun _ kt => XS.iadd X150.here hx rfl (hb hby at_179) rfl kt) ?_
              show own_G p.tables e below _ (T150.setTop (mkF m 180 #[.val (.int p0), .val (.int p1), .val (.int p2), .val (.int p3), .val (.int p4), .val (.int p5), .val (.int pa), .val (.int pb), .val (.int pc), .val (.int pd), .val (.int w10), .val (.int n11), .val (.int lq), .val (.ref b143), .val (.int (((1 : Int32) + pa) + pb)), .val (.int (1 : Int32)), .unset, .unset, .unset, .unset] [(.int ((((1 : Int32) + pa) + pb) + pc))]))
              refine own_go (fun _ kt => XS.iload X150.here hx rfl (hb hby at_180) rfl kt) ?_
              show own_G p.tables e below _ (T150.setTop (mkF m 182 #[.val (.int p0), .val (.int p1), .val (.int p2), .val (.int p3), .val (.int p4), .val (.int p5), .val (.int pa), .val (.int pb), .val (.int pc), .val (.int pd), .val (.int w10), .val (.int n11), .val (.int lq), .val (.ref b143), .val (.int (((1 : Int32) + pa) + pb)), .val (.int (1 : Int32)), .unset, .unset, .unset, .unset] [(.int pd), (.int ((((1 : Int32) + pa) + pb) + pc))]))
              refine own_go (fun _ kt => XS.iadd X150.here hx rfl (hb hby at_182) rfl kt) ?_
              show own_G p.tables e below _ (T150.setTop (mkF m 183 #[.val (.int p0), .val (.int p1), .val (.int p2), .val (.int p3), .val (.int p4), .val (.int p5), .val (.int pa), .val (.int pb), .val (.int pc), .val (.int pd), .val (.int w10), .val (.int n11), .val (.int lq), .val (.ref b143), .val (.int (((1 : Int32) + pa) + pb)), .val (.int (1 : Int32)), .unset, .unset, .unset, .unset] [(.int (((((1 : Int32) + pa) + pb) + pc) + pd))]))
              refine own_go (fun _ kt => XS.istore X150.here hx rfl (hb hby at_183) rfl (l' := #[.val (.int p0), .val (.int p1), .val (.int p2), .val (.int p3), .val (.int p4), .val (.int p5), .val (.int pa), .val (.int pb), .val (.int pc), .val (.int pd), .val (.int w10), .val (.int n11), .val (.int lq), .val (.ref b143), .val (.int (((1 : Int32) + pa) + pb)), .val (.int (1 : Int32)), .val (.int (((((1 : Int32) + pa) + pb) + pc) + pd)), .unset, .unset, .unset]) rfl kt) ?_
              show own_G p.tables e below _ (T150.setTop (mkF m 185 #[.val (.int p0), .val (.int p1), .val (.int p2), .val (.int p3), .val (.int p4), .val (.int p5), .val (.int pa), .val (.int pb), .val (.int pc), .val (.int pd), .val (.int w10), .val (.int n11), .val (.int lq), .val (.ref b143), .val (.int (((1 : Int32) + pa) + pb)), .val (.int (1 : Int32)), .val (.int (((((1 : Int32) + pa) + pb) + pc) + pd)), .unset, .unset, .unset] []))
              refine own_go (fun _ kt => XS.iload X150.here hx rfl (hb hby at_185) rfl kt) ?_
              show own_G p.tables e below _ (T150.setTop (mkF m 187 #[.val (.int p0), .val (.int p1), .val (.int p2), .val (.int p3), .val (.int p4), .val (.int p5), .val (.int pa), .val (.int pb), .val (.int pc), .val (.int pd), .val (.int w10), .val (.int n11), .val (.int lq), .val (.ref b143), .val (.int (((1 : Int32) + pa) + pb)), .val (.int (1 : Int32)), .val (.int (((((1 : Int32) + pa) + pb) + pc) + pd)), .unset, .unset, .unset] [(.int pb)]))
              refine own_go (fun _ kt => XS.iload X150.here hx rfl (hb hby at_187) rfl kt) ?_
              show own_G p.tables e below _ (T150.setTop (mkF m 189 #[.val (.int p0), .val (.int p1), .val (.int p2), .val (.int p3), .val (.int p4), .val (.int p5), .val (.int pa), .val (.int pb), .val (.int pc), .val (.int pd), .val (.int w10), .val (.int n11), .val (.int lq), .val (.ref b143), .val (.int (((1 : Int32) + pa) + pb)), .val (.int (1 : Int32)), .val (.int (((((1 : Int32) + pa) + pb) + pc) + pd)), .unset, .unset, .unset] [(.int pd), (.int pb)]))
              refine own_go (fun _ kt => XS.iadd X150.here hx rfl (hb hby at_189) rfl kt) ?_
              show own_G p.tables e below _ (T150.setTop (mkF m 190 #[.val (.int p0), .val (.int p1), .val (.int p2), .val (.int p3), .val (.int p4), .val (.int p5), .val (.int pa), .val (.int pb), .val (.int pc), .val (.int pd), .val (.int w10), .val (.int n11), .val (.int lq), .val (.ref b143), .val (.int (((1 : Int32) + pa) + pb)), .val (.int (1 : Int32)), .val (.int (((((1 : Int32) + pa) + pb) + pc) + pd)), .unset, .unset, .unset] [(.int (pb + pd))]))
              refine own_go (fun _ kt => XS.istore X150.here hx rfl (hb hby at_190) rfl (l' := #[.val (.int p0), .val (.int p1), .val (.int p2), .val (.int p3), .val (.int p4), .val (.int p5), .val (.int pa), .val (.int pb), .val (.int pc), .val (.int pd), .val (.int w10), .val (.int n11), .val (.int lq), .val (.ref b143), .val (.int (((1 : Int32) + pa) + pb)), .val (.int (1 : Int32)), .val (.int (((((1 : Int32) + pa) + pb) + pc) + pd)), .val (.int (pb + pd)), .unset, .unset]) rfl kt) ?_
              show own_G p.tables e below _ (T150.setTop (mkF m 192 #[.val (.int p0), .val (.int p1), .val (.int p2), .val (.int p3), .val (.int p4), .val (.int p5), .val (.int pa), .val (.int pb), .val (.int pc), .val (.int pd), .val (.int w10), .val (.int n11), .val (.int lq), .val (.ref b143), .val (.int (((1 : Int32) + pa) + pb)), .val (.int (1 : Int32)), .val (.int (((((1 : Int32) + pa) + pb) + pc) + pd)), .val (.int (pb + pd)), .unset, .unset] []))
              refine own_go (fun _ kt => XS.iconst X150.here hx rfl (hb hby at_192) kt) ?_
              show own_G p.tables e below _ (T150.setTop (mkF m 193 #[.val (.int p0), .val (.int p1), .val (.int p2), .val (.int p3), .val (.int p4), .val (.int p5), .val (.int pa), .val (.int pb), .val (.int pc), .val (.int pd), .val (.int w10), .val (.int n11), .val (.int lq), .val (.ref b143), .val (.int (((1 : Int32) + pa) + pb)), .val (.int (1 : Int32)), .val (.int (((((1 : Int32) + pa) + pb) + pc) + pd)), .val (.int (pb + pd)), .unset, .unset] [(.int (1 : Int32))]))
              refine own_go (fun _ kt => XS.iload X150.here hx rfl (hb hby at_193) rfl kt) ?_
              show own_G p.tables e below _ (T150.setTop (mkF m 195 #[.val (.int p0), .val (.int p1), .val (.int p2), .val (.int p3), .val (.int p4), .val (.int p5), .val (.int pa), .val (.int pb), .val (.int pc), .val (.int pd), .val (.int w10), .val (.int n11), .val (.int lq), .val (.ref b143), .val (.int (((1 : Int32) + pa) + pb)), .val (.int (1 : Int32)), .val (.int (((((1 : Int32) + pa) + pb) + pc) + pd)), .val (.int (pb + pd)), .unset, .unset] [(.int pa), (.int (1 : Int32))]))
              refine own_go (fun _ kt => XS.iadd X150.here hx rfl (hb hby at_195) rfl kt) ?_
              show own_G p.tables e below _ (T150.setTop (mkF m 196 #[.val (.int p0), .val (.int p1), .val (.int p2), .val (.int p3), .val (.int p4), .val (.int p5), .val (.int pa), .val (.int pb), .val (.int pc), .val (.int pd), .val (.int w10), .val (.int n11), .val (.int lq), .val (.ref b143), .val (.int (((1 : Int32) + pa) + pb)), .val (.int (1 : Int32)), .val (.int (((((1 : Int32) + pa) + pb) + pc) + pd)), .val (.int (pb + pd)), .unset, .unset] [(.int ((1 : Int32) + pa))]))
              refine own_go (fun _ kt => XS.iload X150.here hx rfl (hb hby at_196) rfl kt) ?_
              show own_G p.tables e below _ (T150.setTop (mkF m 198 #[.val (.int p0), .val (.int p1), .val (.int p2), .val (.int p3), .val (.int p4), .val (.int p5), .val (.int pa), .val (.int pb), .val (.int pc), .val (.int pd), .val (.int w10), .val (.int n11), .val (.int lq), .val (.ref b143), .val (.int (((1 : Int32) + pa) + pb)), .val (.int (1 : Int32)), .val (.int (((((1 : Int32) + pa) + pb) + pc) + pd)), .val (.int (pb + pd)), .unset, .unset] [(.int pc), (.int ((1 : Int32) + pa))]))
              refine own_go (fun _ kt => XS.iadd X150.here hx rfl (hb hby at_198) rfl kt) ?_
              show own_G p.tables e below _ (T150.setTop (mkF m 199 #[.val (.int p0), .val (.int p1), .val (.int p2), .val (.int p3), .val (.int p4), .val (.int p5), .val (.int pa), .val (.int pb), .val (.int pc), .val (.int pd), .val (.int w10), .val (.int n11), .val (.int lq), .val (.ref b143), .val (.int (((1 : Int32) + pa) + pb)), .val (.int (1 : Int32)), .val (.int (((((1 : Int32) + pa) + pb) + pc) + pd)), .val (.int (pb + pd)), .unset, .unset] [(.int (((1 : Int32) + pa) + pc))]))
              refine own_go (fun _ kt => XS.istore X150.here hx rfl (hb hby at_199) rfl (l' := #[.val (.int p0), .val (.int p1), .val (.int p2), .val (.int p3), .val (.int p4), .val (.int p5), .val (.int pa), .val (.int pb), .val (.int pc), .val (.int pd), .val (.int w10), .val (.int n11), .val (.int lq), .val (.ref b143), .val (.int (((1 : Int32) + pa) + pb)), .val (.int (1 : Int32)), .val (.int (((((1 : Int32) + pa) + pb) + pc) + pd)), .val (.int (pb + pd)), .val (.int (((1 : Int32) + pa) + pc)), .unset]) rfl kt) ?_
              obtain ⟨-, rfl, rfl, rfl⟩ : n11 = 0 ∧ ln = 1 ∧ cl = ((1 : Int32) + pa + pb) ∧ ad = 0 + pb := by
                rcases hl with hl | hl
                · exact hl
                · exact absurd k0 hl.1
              show own_G p.tables e below _ (T150.setTop (mkF m 201 #[.val (.int p0), .val (.int p1), .val (.int p2), .val (.int p3), .val (.int p4), .val (.int p5), .val (.int pa), .val (.int pb), .val (.int pc), .val (.int pd), .val (.int w10), .val (.int n11), .val (.int lq), .val (.ref b143), .val (.int (((1 : Int32) + pa) + pb)), .val (.int (1 : Int32)), .val (.int (((((1 : Int32) + pa) + pb) + pc) + pd)), .val (.int (pb + pd)), .val (.int (((1 : Int32) + pa) + pc)), .unset] []))
              exact j201 _ _ _ _ _ _ _ X150 rfl N150 Zq150 P4 rfl rfl (by rw [Int32.zero_add]) (own_here _ _ _ _ _)
            · show own_G p.tables e below _ (T150.setTop (mkF m 144 #[.val (.int p0), .val (.int p1), .val (.int p2), .val (.int p3), .val (.int p4), .val (.int p5), .val (.int pa), .val (.int pb), .val (.int pc), .val (.int pd), .val (.int w10), .val (.int n11), .val (.int lq), .val (.ref b143), .val (.int (((1 : Int32) + pa) + pb)), .unset, .unset, .unset, .unset, .unset] [(.int n11)]))
              refine own_go (fun _ kt => XS.ifNo X150.here hx rfl (hb hby at_144) rfl ((if0 _ _).trans (feq (k0 : ¬ (n11 = (0 : Int32)))).1) kt) ?_
              show own_G p.tables e below _ (T150.setTop (mkF m 147 #[.val (.int p0), .val (.int p1), .val (.int p2), .val (.int p3), .val (.int p4), .val (.int p5), .val (.int pa), .val (.int pb), .val (.int pc), .val (.int pd), .val (.int w10), .val (.int n11), .val (.int lq), .val (.ref b143), .val (.int (((1 : Int32) + pa) + pb)), .unset, .unset, .unset, .unset, .unset] []))
              refine own_go (fun _ kt => XS.iconst X150.here hx rfl (hb hby at_147) kt) ?_
              show own_G p.tables e below _ (T150.setTop (mkF m 148 #[.val (.int p0), .val (.int p1), .val (.int p2), .val (.int p3), .val (.int p4), .val (.int p5), .val (.int pa), .val (.int pb), .val (.int pc), .val (.int pd), .val (.int w10), .val (.int n11), .val (.int lq), .val (.ref b143), .val (.int (((1 : Int32) + pa) + pb)), .unset, .unset, .unset, .unset, .unset] [(.int (2 : Int32))]))
              refine own_go (fun _ kt => XS.istore X150.here hx rfl (hb hby at_148) rfl (l' := #[.val (.int p0), .val (.int p1), .val (.int p2), .val (.int p3), .val (.int p4), .val (.int p5), .val (.int pa), .val (.int pb), .val (.int pc), .val (.int pd), .val (.int w10), .val (.int n11), .val (.int lq), .val (.ref b143), .val (.int (((1 : Int32) + pa) + pb)), .val (.int (2 : Int32)), .unset, .unset, .unset, .unset]) rfl kt) ?_
              show own_G p.tables e below _ (T150.setTop (mkF m 150 #[.val (.int p0), .val (.int p1), .val (.int p2), .val (.int p3), .val (.int p4), .val (.int p5), .val (.int pa), .val (.int pb), .val (.int pc), .val (.int pd), .val (.int w10), .val (.int n11), .val (.int lq), .val (.ref b143), .val (.int (((1 : Int32) + pa) + pb)), .val (.int (2 : Int32)), .unset, .unset, .unset, .unset] []))
              refine own_go (fun _ kt => XS.iconst X150.here hx rfl (hb hby at_150) kt) ?_
              show own_G p.tables e below _ (T150.setTop (mkF m 151 #[.val (.int p0), .val (.int p1), .val (.int p2), .val (.int p3), .val (.int p4), .val (.int p5), .val (.int pa), .val (.int pb), .val (.int pc), .val (.int pd), .val (.int w10), .val (.int n11), .val (.int lq), .val (.ref b143), .val (.int (((1 : Int32) + pa) + pb)), .val (.int (2 : Int32)), .unset, .unset, .unset, .unset] [(.int (1 : Int32))]))
              refine own_go (fun _ kt => XS.iload X150.here hx rfl (hb hby at_151) rfl kt) ?_
              show own_G p.tables e below _ (T150.setTop (mkF m 153 #[.val (.int p0), .val (.int p1), .val (.int p2), .val (.int p3), .val (.int p4), .val (.int p5), .val (.int pa), .val (.int pb), .val (.int pc), .val (.int pd), .val (.int w10), .val (.int n11), .val (.int lq), .val (.ref b143), .val (.int (((1 : Int32) + pa) + pb)), .val (.int (2 : Int32)), .unset, .unset, .unset, .unset] [(.int pc), (.int (1 : Int32))]))
              refine own_go (fun _ kt => XS.iadd X150.here hx rfl (hb hby at_153) rfl kt) ?_
              show own_G p.tables e below _ (T150.setTop (mkF m 154 #[.val (.int p0), .val (.int p1), .val (.int p2), .val (.int p3), .val (.int p4), .val (.int p5), .val (.int pa), .val (.int pb), .val (.int pc), .val (.int pd), .val (.int w10), .val (.int n11), .val (.int lq), .val (.ref b143), .val (.int (((1 : Int32) + pa) + pb)), .val (.int (2 : Int32)), .unset, .unset, .unset, .unset] [(.int ((1 : Int32) + pc))]))
              refine own_go (fun _ kt => XS.iload X150.here hx rfl (hb hby at_154) rfl kt) ?_
              show own_G p.tables e below _ (T150.setTop (mkF m 156 #[.val (.int p0), .val (.int p1), .val (.int p2), .val (.int p3), .val (.int p4), .val (.int p5), .val (.int pa), .val (.int pb), .val (.int pc), .val (.int pd), .val (.int w10), .val (.int n11), .val (.int lq), .val (.ref b143), .val (.int (((1 : Int32) + pa) + pb)), .val (.int (2 : Int32)), .unset, .unset, .unset, .unset] [(.int pd), (.int ((1 : Int32) + pc))]))
              refine own_go (fun _ kt => XS.iadd X150.here hx rfl (hb hby at_156) rfl kt) ?_
              show own_G p.tables e below _ (T150.setTop (mkF m 157 #[.val (.int p0), .val (.int p1), .val (.int p2), .val (.int p3), .val (.int p4), .val (.int p5), .val (.int pa), .val (.int pb), .val (.int pc), .val (.int pd), .val (.int w10), .val (.int n11), .val (.int lq), .val (.ref b143), .val (.int (((1 : Int32) + pa) + pb)), .val (.int (2 : Int32)), .unset, .unset, .unset, .unset] [(.int (((1 : Int32) + pc) + pd))]))
              refine own_go (fun _ kt => XS.istore X150.here hx rfl (hb hby at_157) rfl (l' := #[.val (.int p0), .val (.int p1), .val (.int p2), .val (.int p3), .val (.int p4), .val (.int p5), .val (.int pa), .val (.int pb), .val (.int pc), .val (.int pd), .val (.int w10), .val (.int n11), .val (.int lq), .val (.ref b143), .val (.int (((1 : Int32) + pa) + pb)), .val (.int (2 : Int32)), .val (.int (((1 : Int32) + pc) + pd)), .unset, .unset, .unset]) rfl kt) ?_
              show own_G p.tables e below _ (T150.setTop (mkF m 159 #[.val (.int p0), .val (.int p1), .val (.int p2), .val (.int p3), .val (.int p4), .val (.int p5), .val (.int pa), .val (.int pb), .val (.int pc), .val (.int pd), .val (.int w10), .val (.int n11), .val (.int lq), .val (.ref b143), .val (.int (((1 : Int32) + pa) + pb)), .val (.int (2 : Int32)), .val (.int (((1 : Int32) + pc) + pd)), .unset, .unset, .unset] []))
              refine own_go (fun _ kt => XS.iload X150.here hx rfl (hb hby at_159) rfl kt) ?_
              show own_G p.tables e below _ (T150.setTop (mkF m 161 #[.val (.int p0), .val (.int p1), .val (.int p2), .val (.int p3), .val (.int p4), .val (.int p5), .val (.int pa), .val (.int pb), .val (.int pc), .val (.int pd), .val (.int w10), .val (.int n11), .val (.int lq), .val (.ref b143), .val (.int (((1 : Int32) + pa) + pb)), .val (.int (2 : Int32)), .val (.int (((1 : Int32) + pc) + pd)), .unset, .unset, .unset] [(.int pd)]))
              refine own_go (fun _ kt => XS.istore X150.here hx rfl (hb hby at_161) rfl (l' := #[.val (.int p0), .val (.int p1), .val (.int p2), .val (.int p3), .val (.int p4), .val (.int p5), .val (.int pa), .val (.int pb), .val (.int pc), .val (.int pd), .val (.int w10), .val (.int n11), .val (.int lq), .val (.ref b143), .val (.int (((1 : Int32) + pa) + pb)), .val (.int (2 : Int32)), .val (.int (((1 : Int32) + pc) + pd)), .val (.int pd), .unset, .unset]) rfl kt) ?_
              show own_G p.tables e below _ (T150.setTop (mkF m 163 #[.val (.int p0), .val (.int p1), .val (.int p2), .val (.int p3), .val (.int p4), .val (.int p5), .val (.int pa), .val (.int pb), .val (.int pc), .val (.int pd), .val (.int w10), .val (.int n11), .val (.int lq), .val (.ref b143), .val (.int (((1 : Int32) + pa) + pb)), .val (.int (2 : Int32)), .val (.int (((1 : Int32) + pc) + pd)), .val (.int pd), .unset, .unset] []))
              refine own_go (fun _ kt => XS.iconst X150.here hx rfl (hb hby at_163) kt) ?_
              show own_G p.tables e below _ (T150.setTop (mkF m 164 #[.val (.int p0), .val (.int p1), .val (.int p2), .val (.int p3), .val (.int p4), .val (.int p5), .val (.int pa), .val (.int pb), .val (.int pc), .val (.int pd), .val (.int w10), .val (.int n11), .val (.int lq), .val (.ref b143), .val (.int (((1 : Int32) + pa) + pb)), .val (.int (2 : Int32)), .val (.int (((1 : Int32) + pc) + pd)), .val (.int pd), .unset, .unset] [(.int (1 : Int32))]))
              refine own_go (fun _ kt => XS.iload X150.here hx rfl (hb hby at_164) rfl kt) ?_
              show own_G p.tables e below _ (T150.setTop (mkF m 166 #[.val (.int p0), .val (.int p1), .val (.int p2), .val (.int p3), .val (.int p4), .val (.int p5), .val (.int pa), .val (.int pb), .val (.int pc), .val (.int pd), .val (.int w10), .val (.int n11), .val (.int lq), .val (.ref b143), .val (.int (((1 : Int32) + pa) + pb)), .val (.int (2 : Int32)), .val (.int (((1 : Int32) + pc) + pd)), .val (.int pd), .unset, .unset] [(.int pc), (.int (1 : Int32))]))
              refine own_go (fun _ kt => XS.iadd X150.here hx rfl (hb hby at_166) rfl kt) ?_
              show own_G p.tables e below _ (T150.setTop (mkF m 167 #[.val (.int p0), .val (.int p1), .val (.int p2), .val (.int p3), .val (.int p4), .val (.int p5), .val (.int pa), .val (.int pb), .val (.int pc), .val (.int pd), .val (.int w10), .val (.int n11), .val (.int lq), .val (.ref b143), .val (.int (((1 : Int32) + pa) + pb)), .val (.int (2 : Int32)), .val (.int (((1 : Int32) + pc) + pd)), .val (.int pd), .unset, .unset] [(.int ((1 : Int32) + pc))]))
              refine own_go (fun _ kt => XS.istore X150.here hx rfl (hb hby at_167) rfl (l' := #[.val (.int p0), .val (.int p1), .val (.int p2), .val (.int p3), .val (.int p4), .val (.int p5), .val (.int pa), .val (.int pb), .val (.int pc), .val (.int pd), .val (.int w10), .val (.int n11), .val (.int lq), .val (.ref b143), .val (.int (((1 : Int32) + pa) + pb)), .val (.int (2 : Int32)), .val (.int (((1 : Int32) + pc) + pd)), .val (.int pd), .val (.int ((1 : Int32) + pc)), .unset]) rfl kt) ?_
              show own_G p.tables e below _ (T150.setTop (mkF m 169 #[.val (.int p0), .val (.int p1), .val (.int p2), .val (.int p3), .val (.int p4), .val (.int p5), .val (.int pa), .val (.int pb), .val (.int pc), .val (.int pd), .val (.int w10), .val (.int n11), .val (.int lq), .val (.ref b143), .val (.int (((1 : Int32) + pa) + pb)), .val (.int (2 : Int32)), .val (.int (((1 : Int32) + pc) + pd)), .val (.int pd), .val (.int ((1 : Int32) + pc)), .unset] []))
              refine own_go (fun _ kt => XS.goto X150.here hx rfl (pc0 := 169) (pc' := 201) rfl (hb hby at_169) (by decide) (by decide) kt) ?_
              obtain ⟨-, rfl, rfl, rfl⟩ : ¬ n11 = 0 ∧ ln = 1 + 1 ∧ cl = 1 ∧ ad = 0 := by
                rcases hl with hl | hl
                · exact absurd hl.1 k0
                · exact hl
              show own_G p.tables e below _ (T150.setTop (mkF m 201 #[.val (.int p0), .val (.int p1), .val (.int p2), .val (.int p3), .val (.int p4), .val (.int p5), .val (.int pa), .val (.int pb), .val (.int pc), .val (.int pd), .val (.int w10), .val (.int n11), .val (.int lq), .val (.ref b143), .val (.int (((1 : Int32) + pa) + pb)), .val (.int (2 : Int32)), .val (.int (((1 : Int32) + pc) + pd)), .val (.int pd), .val (.int ((1 : Int32) + pc)), .unset] []))
              exact j201 _ _ _ _ _ _ _ X150 rfl N150 Zq150 P4 (by decide) rfl (Int32.zero_add _).symm (own_here2 _ _ _)
          show own_G p.tables e below _ (T147.setTop (mkF m 106 #[.val (.int p0), .val (.int p1), .val (.int p2), .val (.int p3), .val (.int p4), .val (.int p5), .val (.int pa), .val (.int pb), .val (.int pc), .val (.int pd), .val (.int w10), .val (.int n11), .val (.int lq), .val (.ref b143), .unset, .unset, .unset, .unset, .unset, .unset] []))
          refine own_go (fun _ kt => XS.iload X147.here hx rfl (hb hby at_106) rfl kt) ?_
          by_cases k9 : n11 = (0 : Int32)
          · show own_G p.tables e below _ (T147.setTop (mkF m 108 #[.val (.int p0), .val (.int p1), .val (.int p2), .val (.int p3), .val (.int p4), .val (.int p5), .val (.int pa), .val (.int pb), .val (.int pc), .val (.int pd), .val (.int w10), .val (.int n11), .val (.int lq), .val (.ref b143), .unset, .unset, .unset, .unset, .unset, .unset] [(.int n11)]))
            refine own_go (fun _ kt => XS.ifYes X147.here hx rfl (pc0 := 108) (pc' := 119) rfl (hb hby at_108) rfl ((if0 _ _).trans (teq (k9 : n11 = (0 : Int32))).1) (by decide) (by decide) kt) ?_
            show own_G p.tables e below _ (T147.setTop (mkF m 119 #[.val (.int p0), .val (.int p1), .val (.int p2), .val (.int p3), .val (.int p4), .val (.int p5), .val (.int pa), .val (.int pb), .val (.int pc), .val (.int pd), .val (.int w10), .val (.int n11), .val (.int lq), .val (.ref b143), .unset, .unset, .unset, .unset, .unset, .unset] []))
            exact j119 _ _ _ 1 ((1 : Int32) + pa + pb) (0 + pb) X147 rfl N147 Zq147 P2 (Or.inl ⟨k9, rfl, rfl, rfl⟩)
          · show own_G p.tables e below _ (T147.setTop (mkF m 108 #[.val (.int p0), .val (.int p1), .val (.int p2), .val (.int p3), .val (.int p4), .val (.int p5), .val (.int pa), .val (.int pb), .val (.int pc), .val (.int pd), .val (.int w10), .val (.int n11), .val (.int lq), .val (.ref b143), .unset, .unset, .unset, .unset, .unset, .unset] [(.int n11)]))
            refine own_go (fun _ kt => XS.ifNo X147.here hx rfl (hb hby at_108) rfl ((if0 _ _).trans (feq (k9 : ¬ (n11 = (0 : Int32)))).1) kt) ?_
            show own_G p.tables e below _ (T147.setTop (mkF m 111 #[.val (.int p0), .val (.int p1), .val (.int p2), .val (.int p3), .val (.int p4), .val (.int p5), .val (.int pa), .val (.int pb), .val (.int pc), .val (.int pd), .val (.int w10), .val (.int n11), .val (.int lq), .val (.ref b143), .unset, .unset, .unset, .unset, .unset, .unset] []))
            refine own_go (fun _ kt => XS.aload X147.here hx rfl (hb hby at_111) rfl rfl kt) ?_
            show own_G p.tables e below _ (T147.setTop (mkF m 113 #[.val (.int p0), .val (.int p1), .val (.int p2), .val (.int p3), .val (.int p4), .val (.int p5), .val (.int pa), .val (.int pb), .val (.int pc), .val (.int pd), .val (.int w10), .val (.int n11), .val (.int lq), .val (.ref b143), .unset, .unset, .unset, .unset, .unset, .unset] [(.ref b143)]))
            refine own_go (fun _ kt => XS.bipush X147.here hx rfl (hb hby at_113) kt) ?_
            show own_G p.tables e below _ (T147.setTop (mkF m 115 #[.val (.int p0), .val (.int p1), .val (.int p2), .val (.int p3), .val (.int p4), .val (.int p5), .val (.int pa), .val (.int pb), .val (.int pc), .val (.int pd), .val (.int w10), .val (.int n11), .val (.int lq), .val (.ref b143), .unset, .unset, .unset, .unset, .unset, .unset] [(.int (10 : Int32)), (.ref b143)]))
            refine own_go (fun _ kt => XS.iconst X147.here hx rfl (hb hby at_115) kt) ?_
            show own_G p.tables e below _ (T147.setTop (mkF m 116 #[.val (.int p0), .val (.int p1), .val (.int p2), .val (.int p3), .val (.int p4), .val (.int p5), .val (.int pa), .val (.int pb), .val (.int pc), .val (.int pd), .val (.int w10), .val (.int n11), .val (.int lq), .val (.ref b143), .unset, .unset, .unset, .unset, .unset, .unset] [(.int (1 : Int32)), (.int (10 : Int32)), (.ref b143)]))
            obtain ⟨cq155, kq155, q155a, q155b, q155c⟩ := isOf hZ rfl P2.1
            obtain ⟨_, _, ⟨T155, L155, k155, n155⟩, -, X155, ⟨Lc155, hQ155, l155, y155, z155⟩, st155⟩ := X147.virtualBack hx (y := (⟨"polytsia/marcxml/Place", "pass", "(II)V"⟩ : MethodName)) (z := (⟨"polytsia/marcxml/Place", "pass", "(II)V"⟩ : MethodName)) hown (mvT hZ (hw _ (List.mem_of_getElem? (i := 37) rfl))) (mvT hZ (hw _ (List.mem_of_getElem? (i := 38) rfl))) (notFace_of_selects (args := #[]) (mvT hZ (hw _ (List.mem_of_getElem? (i := 40) rfl)))) (mvT hZ (hw _ (List.mem_of_getElem? (i := 40) rfl))) (mvT hZ (hw _ (List.mem_of_getElem? (i := 39) rfl))) (by decide) (backOf (W := 0) (rm_pass2 l Z a0 hw [] b143 (10 : Int32) (1 : Int32) _ _ _ _ _ _ _ _ _ _ _ _ T147.heap n0 Zq147 P2 rfl rfl rfl) hZ (hw _ (List.mem_of_getElem? (i := 41) rfl)) (hw _ (List.mem_of_getElem? (i := 3) rfl)) (by decide) (by decide)) q155a q155c (g := (mkF m 116 #[.val (.int p0), .val (.int p1), .val (.int p2), .val (.int p3), .val (.int p4), .val (.int p5), .val (.int pa), .val (.int pb), .val (.int pc), .val (.int pd), .val (.int w10), .val (.int n11), .val (.int lq), .val (.ref b143), .unset, .unset, .unset, .unset, .unset, .unset] [(.int (1 : Int32)), (.int (10 : Int32)), (.ref b143)])) rfl (by rw [hml]; rfl) (Steps.refl _) (argsL := [(.int (10 : Int32)), (.int (1 : Int32))]) (rest := []) (lenOf pd__II_V rfl) rfl (by show 2 * 0 + _ ≤ _; exact Nat.le_of_eq rfl) (hb hby at_116) (fun _ _ => ⟨rfl, rfl, (Nat.le_of_ble_eq_true rfl), (Nat.le_of_ble_eq_true rfl)⟩)
            dsimp only [Pt.U, Pt.locs, Pt.cells, Pt.slots] at X155 l155 y155 z155 st155 hQ155
            subst l155 y155 z155
            obtain ⟨rfl, Nq155, Zq155, P5⟩ := hQ155
            have N155 := Fr.app N147 Nq155
            refine own_tr st155 ?_
            show own_G p.tables e below _ (T155.setTop (mkF m 119 #[.val (.int p0), .val (.int p1), .val (.int p2), .val (.int p3), .val (.int p4), .val (.int p5), .val (.int pa), .val (.int pb), .val (.int pc), .val (.int pd), .val (.int w10), .val (.int n11), .val (.int lq), .val (.ref b143), .unset, .unset, .unset, .unset, .unset, .unset] []))
            exact j119 _ _ _ _ _ _ X155 rfl N155 Zq155 P5 (Or.inr ⟨k9, rfl, rfl, rfl⟩)
        show own_G p.tables e below _ (T144.setTop (mkF m 69 #[.val (.int p0), .val (.int p1), .val (.int p2), .val (.int p3), .val (.int p4), .val (.int p5), .val (.int pa), .val (.int pb), .val (.int pc), .val (.int pd), .val (.int w10), .val (.int n11), .val (.int lq), .val (.ref b143), .unset, .unset, .unset, .unset, .unset, .unset] []))
        refine own_go (fun _ kt => XS.iload X144.here hx rfl (hb hby at_69) rfl kt) ?_
        by_cases k8 : w10 = (0 : Int32)
        · show own_G p.tables e below _ (T144.setTop (mkF m 71 #[.val (.int p0), .val (.int p1), .val (.int p2), .val (.int p3), .val (.int p4), .val (.int p5), .val (.int pa), .val (.int pb), .val (.int pc), .val (.int pd), .val (.int w10), .val (.int n11), .val (.int lq), .val (.ref b143), .unset, .unset, .unset, .unset, .unset, .unset] [(.int w10)]))
          refine own_go (fun _ kt => XS.ifYes X144.here hx rfl (pc0 := 71) (pc' := 92) rfl (hb hby at_71) rfl ((if0 _ _).trans (teq (k8 : w10 = (0 : Int32))).1) (by decide) (by decide) kt) ?_
          show own_G p.tables e below _ (T144.setTop (mkF m 92 #[.val (.int p0), .val (.int p1), .val (.int p2), .val (.int p3), .val (.int p4), .val (.int p5), .val (.int pa), .val (.int pb), .val (.int pc), .val (.int pd), .val (.int w10), .val (.int n11), .val (.int lq), .val (.ref b143), .unset, .unset, .unset, .unset, .unset, .unset] []))
          exact j92 _ _ _ 0 _ _ _ X144 rfl N144 Zq144 P0 (Or.inl rfl)
        · show own_G p.tables e below _ (T144.setTop (mkF m 71 #[.val (.int p0), .val (.int p1), .val (.int p2), .val (.int p3), .val (.int p4), .val (.int p5), .val (.int pa), .val (.int pb), .val (.int pc), .val (.int pd), .val (.int w10), .val (.int n11), .val (.int lq), .val (.ref b143), .unset, .unset, .unset, .unset, .unset, .unset] [(.int w10)]))
          refine own_go (fun _ kt => XS.ifNo X144.here hx rfl (hb hby at_71) rfl ((if0 _ _).trans (feq (k8 : ¬ (w10 = (0 : Int32)))).1) kt) ?_
          show own_G p.tables e below _ (T144.setTop (mkF m 74 #[.val (.int p0), .val (.int p1), .val (.int p2), .val (.int p3), .val (.int p4), .val (.int p5), .val (.int pa), .val (.int pb), .val (.int pc), .val (.int pd), .val (.int w10), .val (.int n11), .val (.int lq), .val (.ref b143), .unset, .unset, .unset, .unset, .unset, .unset] []))
          refine own_go (fun _ kt => XS.aload X144.here hx rfl (hb hby at_74) rfl rfl kt) ?_
          show own_G p.tables e below _ (T144.setTop (mkF m 76 #[.val (.int p0), .val (.int p1), .val (.int p2), .val (.int p3), .val (.int p4), .val (.int p5), .val (.int pa), .val (.int pb), .val (.int pc), .val (.int pd), .val (.int w10), .val (.int n11), .val (.int lq), .val (.ref b143), .unset, .unset, .unset, .unset, .unset, .unset] [(.ref b143)]))
          refine own_go (fun _ kt => XS.iconst X144.here hx rfl (hb hby at_76) kt) ?_
          show own_G p.tables e below _ (T144.setTop (mkF m 77 #[.val (.int p0), .val (.int p1), .val (.int p2), .val (.int p3), .val (.int p4), .val (.int p5), .val (.int pa), .val (.int pb), .val (.int pc), .val (.int pd), .val (.int w10), .val (.int n11), .val (.int lq), .val (.ref b143), .unset, .unset, .unset, .unset, .unset, .unset] [(.int (0 : Int32)), (.ref b143)]))
          obtain ⟨cq156, kq156, q156a, q156b, q156c⟩ := isOf hZ rfl P0.1
          obtain ⟨_, _, ⟨T156, L156, k156, n156⟩, -, X156, ⟨Lc156, hQ156, l156, y156, z156⟩, st156⟩ := X144.virtualBack hx (y := (⟨"polytsia/marcxml/Place", "put", "(I)V"⟩ : MethodName)) (z := (⟨"polytsia/marcxml/Place", "put", "(I)V"⟩ : MethodName)) hown (mvT hZ (hw _ (List.mem_of_getElem? (i := 21) rfl))) (mvT hZ (hw _ (List.mem_of_getElem? (i := 22) rfl))) (notFace_of_selects (args := #[]) (mvT hZ (hw _ (List.mem_of_getElem? (i := 24) rfl)))) (mvT hZ (hw _ (List.mem_of_getElem? (i := 24) rfl))) (mvT hZ (hw _ (List.mem_of_getElem? (i := 23) rfl))) (by decide) (backOf (W := 0) (rm_put l Z a0 hw [] b143 (0 : Int32) _ _ _ _ _ _ _ _ _ _ _ _ T144.heap n0 Zq144 P0 (by decide)) hZ (hw _ (List.mem_of_getElem? (i := 25) rfl)) (hw _ (List.mem_of_getElem? (i := 3) rfl)) (by decide) (by decide)) q156a q156c (g := (mkF m 77 #[.val (.int p0), .val (.int p1), .val (.int p2), .val (.int p3), .val (.int p4), .val (.int p5), .val (.int pa), .val (.int pb), .val (.int pc), .val (.int pd), .val (.int w10), .val (.int n11), .val (.int lq), .val (.ref b143), .unset, .unset, .unset, .unset, .unset, .unset] [(.int (0 : Int32)), (.ref b143)])) rfl (by rw [hml]; rfl) (Steps.refl _) (argsL := [(.int (0 : Int32))]) (rest := []) (lenOf pd__I_V rfl) rfl (by show 2 * 0 + _ ≤ _; exact Nat.le_of_eq rfl) (hb hby at_77) (fun _ _ => ⟨rfl, rfl, (Nat.le_of_ble_eq_true rfl), (Nat.le_of_ble_eq_true rfl)⟩)
          dsimp only [Pt.U, Pt.locs, Pt.cells, Pt.slots] at X156 l156 y156 z156 st156 hQ156
          subst l156 y156 z156
          obtain ⟨rfl, Nq156, Zq156, PP0⟩ := hQ156
          have N156 := Fr.app N144 Nq156
          refine own_tr st156 ?_
          show own_G p.tables e below _ (T156.setTop (mkF m 80 #[.val (.int p0), .val (.int p1), .val (.int p2), .val (.int p3), .val (.int p4), .val (.int p5), .val (.int pa), .val (.int pb), .val (.int pc), .val (.int pd), .val (.int w10), .val (.int n11), .val (.int lq), .val (.ref b143), .unset, .unset, .unset, .unset, .unset, .unset] []))
          refine own_go (fun _ kt => XS.aload X156.here hx rfl (hb hby at_80) rfl rfl kt) ?_
          show own_G p.tables e below _ (T156.setTop (mkF m 82 #[.val (.int p0), .val (.int p1), .val (.int p2), .val (.int p3), .val (.int p4), .val (.int p5), .val (.int pa), .val (.int pb), .val (.int pc), .val (.int pd), .val (.int w10), .val (.int n11), .val (.int lq), .val (.ref b143), .unset, .unset, .unset, .unset, .unset, .unset] [(.ref b143)]))
          refine own_go (fun _ kt => XS.iconst X156.here hx rfl (hb hby at_82) kt) ?_
          show own_G p.tables e below _ (T156.setTop (mkF m 83 #[.val (.int p0), .val (.int p1), .val (.int p2), .val (.int p3), .val (.int p4), .val (.int p5), .val (.int pa), .val (.int pb), .val (.int pc), .val (.int pd), .val (.int w10), .val (.int n11), .val (.int lq), .val (.ref b143), .unset, .unset, .unset, .unset, .unset, .unset] [(.int (0 : Int32)), (.ref b143)]))
          obtain ⟨cq157, kq157, q157a, q157b, q157c⟩ := isOf hZ rfl PP0.1
          obtain ⟨_, _, ⟨T157, L157, k157, n157⟩, -, X157, ⟨Lc157, hQ157, l157, y157, z157⟩, st157⟩ := X156.virtualBack hx (y := (⟨"polytsia/marcxml/Place", "put", "(I)V"⟩ : MethodName)) (z := (⟨"polytsia/marcxml/Place", "put", "(I)V"⟩ : MethodName)) hown (mvT hZ (hw _ (List.mem_of_getElem? (i := 21) rfl))) (mvT hZ (hw _ (List.mem_of_getElem? (i := 22) rfl))) (notFace_of_selects (args := #[]) (mvT hZ (hw _ (List.mem_of_getElem? (i := 24) rfl)))) (mvT hZ (hw _ (List.mem_of_getElem? (i := 24) rfl))) (mvT hZ (hw _ (List.mem_of_getElem? (i := 23) rfl))) (by decide) (backOf (W := 0) (rm_put l Z a0 hw [] b143 (0 : Int32) _ _ _ _ _ _ _ _ _ _ _ _ T156.heap n0 Zq156 PP0 (by decide)) hZ (hw _ (List.mem_of_getElem? (i := 25) rfl)) (hw _ (List.mem_of_getElem? (i := 3) rfl)) (by decide) (by decide)) q157a q157c (g := (mkF m 83 #[.val (.int p0), .val (.int p1), .val (.int p2), .val (.int p3), .val (.int p4), .val (.int p5), .val (.int pa), .val (.int pb), .val (.int pc), .val (.int pd), .val (.int w10), .val (.int n11), .val (.int lq), .val (.ref b143), .unset, .unset, .unset, .unset, .unset, .unset] [(.int (0 : Int32)), (.ref b143)])) rfl (by rw [hml]; rfl) (Steps.refl _) (argsL := [(.int (0 : Int32))]) (rest := []) (lenOf pd__I_V rfl) rfl (by show 2 * 0 + _ ≤ _; exact Nat.le_of_eq rfl) (hb hby at_83) (fun _ _ => ⟨rfl, rfl, (Nat.le_of_ble_eq_true rfl), (Nat.le_of_ble_eq_true rfl)⟩)
          dsimp only [Pt.U, Pt.locs, Pt.cells, Pt.slots] at X157 l157 y157 z157 st157 hQ157
          subst l157 y157 z157
          obtain ⟨rfl, Nq157, Zq157, PP1⟩ := hQ157
          have N157 := Fr.app N156 Nq157
          refine own_tr st157 ?_
          show own_G p.tables e below _ (T157.setTop (mkF m 86 #[.val (.int p0), .val (.int p1), .val (.int p2), .val (.int p3), .val (.int p4), .val (.int p5), .val (.int pa), .val (.int pb), .val (.int pc), .val (.int pd), .val (.int w10), .val (.int n11), .val (.int lq), .val (.ref b143), .unset, .unset, .unset, .unset, .unset, .unset] []))
          refine own_go (fun _ kt => XS.aload X157.here hx rfl (hb hby at_86) rfl rfl kt) ?_
          show own_G p.tables e below _ (T157.setTop (mkF m 88 #[.val (.int p0), .val (.int p1), .val (.int p2), .val (.int p3), .val (.int p4), .val (.int p5), .val (.int pa), .val (.int pb), .val (.int pc), .val (.int pd), .val (.int w10), .val (.int n11), .val (.int lq), .val (.ref b143), .unset, .unset, .unset, .unset, .unset, .unset] [(.ref b143)]))
          refine own_go (fun _ kt => XS.iconst X157.here hx rfl (hb hby at_88) kt) ?_
          show own_G p.tables e below _ (T157.setTop (mkF m 89 #[.val (.int p0), .val (.int p1), .val (.int p2), .val (.int p3), .val (.int p4), .val (.int p5), .val (.int pa), .val (.int pb), .val (.int pc), .val (.int pd), .val (.int w10), .val (.int n11), .val (.int lq), .val (.ref b143), .unset, .unset, .unset, .unset, .unset, .unset] [(.int (0 : Int32)), (.ref b143)]))
          obtain ⟨cq158, kq158, q158a, q158b, q158c⟩ := isOf hZ rfl PP1.1
          obtain ⟨_, _, ⟨T158, L158, k158, n158⟩, -, X158, ⟨Lc158, hQ158, l158, y158, z158⟩, st158⟩ := X157.virtualBack hx (y := (⟨"polytsia/marcxml/Place", "put", "(I)V"⟩ : MethodName)) (z := (⟨"polytsia/marcxml/Place", "put", "(I)V"⟩ : MethodName)) hown (mvT hZ (hw _ (List.mem_of_getElem? (i := 21) rfl))) (mvT hZ (hw _ (List.mem_of_getElem? (i := 22) rfl))) (notFace_of_selects (args := #[]) (mvT hZ (hw _ (List.mem_of_getElem? (i := 24) rfl)))) (mvT hZ (hw _ (List.mem_of_getElem? (i := 24) rfl))) (mvT hZ (hw _ (List.mem_of_getElem? (i := 23) rfl))) (by decide) (backOf (W := 0) (rm_put l Z a0 hw [] b143 (0 : Int32) _ _ _ _ _ _ _ _ _ _ _ _ T157.heap n0 Zq157 PP1 (by decide)) hZ (hw _ (List.mem_of_getElem? (i := 25) rfl)) (hw _ (List.mem_of_getElem? (i := 3) rfl)) (by decide) (by decide)) q158a q158c (g := (mkF m 89 #[.val (.int p0), .val (.int p1), .val (.int p2), .val (.int p3), .val (.int p4), .val (.int p5), .val (.int pa), .val (.int pb), .val (.int pc), .val (.int pd), .val (.int w10), .val (.int n11), .val (.int lq), .val (.ref b143), .unset, .unset, .unset, .unset, .unset, .unset] [(.int (0 : Int32)), (.ref b143)])) rfl (by rw [hml]; rfl) (Steps.refl _) (argsL := [(.int (0 : Int32))]) (rest := []) (lenOf pd__I_V rfl) rfl (by show 2 * 0 + _ ≤ _; exact Nat.le_of_eq rfl) (hb hby at_89) (fun _ _ => ⟨rfl, rfl, (Nat.le_of_ble_eq_true rfl), (Nat.le_of_ble_eq_true rfl)⟩)
          dsimp only [Pt.U, Pt.locs, Pt.cells, Pt.slots] at X158 l158 y158 z158 st158 hQ158
          subst l158 y158 z158
          obtain ⟨rfl, Nq158, Zq158, PP2⟩ := hQ158
          have N158 := Fr.app N157 Nq158
          refine own_tr st158 ?_
          have s1 : ((1 : Int32) + 0) = 1 := by decide
          have s0 : ((0 : Int32) + 0) = 0 := by decide
          have s3 : ((0 : Int32) + 1 + 1 + 1) = 3 := by decide
          rw [s1, s1, s1, s0, s0, s0, s3] at PP2
          show own_G p.tables e below _ (T158.setTop (mkF m 92 #[.val (.int p0), .val (.int p1), .val (.int p2), .val (.int p3), .val (.int p4), .val (.int p5), .val (.int pa), .val (.int pb), .val (.int pc), .val (.int pd), .val (.int w10), .val (.int n11), .val (.int lq), .val (.ref b143), .unset, .unset, .unset, .unset, .unset, .unset] []))
          exact j92 _ _ _ 3 _ _ _ X158 rfl N158 Zq158 PP2 (Or.inr ⟨rfl, by decide, by decide, by decide, by decide, by decide, by decide, by decide, by decide, by decide⟩)
      show own_G p.tables e below _ (T141.setTop (mkF m 38 #[.val (.int p0), .val (.int p1), .val (.int p2), .val (.int p3), .val (.int p4), .val (.int p5), .val (.int pa), .val (.int pb), .val (.int pc), .val (.int pd), .val (.int w10), .unset, .unset, .unset, .unset, .unset, .unset, .unset, .unset, .unset] []))
      refine own_go (fun _ kt => XS.iload X141.here hx rfl (hb hby at_38) rfl kt) ?_
      show own_G p.tables e below _ (T141.setTop (mkF m 40 #[.val (.int p0), .val (.int p1), .val (.int p2), .val (.int p3), .val (.int p4), .val (.int p5), .val (.int pa), .val (.int pb), .val (.int pc), .val (.int pd), .val (.int w10), .unset, .unset, .unset, .unset, .unset, .unset, .unset, .unset, .unset] [(.int p5)]))
      refine own_go (fun _ kt => XS.iconst X141.here hx rfl (hb hby at_40) kt) ?_
      show own_G p.tables e below _ (T141.setTop (mkF m 41 #[.val (.int p0), .val (.int p1), .val (.int p2), .val (.int p3), .val (.int p4), .val (.int p5), .val (.int pa), .val (.int pb), .val (.int pc), .val (.int pd), .val (.int w10), .unset, .unset, .unset, .unset, .unset, .unset, .unset, .unset, .unset] [(.int (2 : Int32)), (.int p5)]))
      refine own_go (fun _ kt => XS.iand X141.here hx rfl (hb hby at_41) rfl kt) ?_
      by_cases k7 : (p5 &&& (2 : Int32)) = (0 : Int32)
      · show own_G p.tables e below _ (T141.setTop (mkF m 42 #[.val (.int p0), .val (.int p1), .val (.int p2), .val (.int p3), .val (.int p4), .val (.int p5), .val (.int pa), .val (.int pb), .val (.int pc), .val (.int pd), .val (.int w10), .unset, .unset, .unset, .unset, .unset, .unset, .unset, .unset, .unset] [(.int (p5 &&& (2 : Int32)))]))
        refine own_go (fun _ kt => XS.ifYes X141.here hx rfl (pc0 := 42) (pc' := 49) rfl (hb hby at_42) rfl ((if0 _ _).trans (teq (k7 : (p5 &&& (2 : Int32)) = (0 : Int32))).1) (by decide) (by decide) kt) ?_
        show own_G p.tables e below _ (T141.setTop (mkF m 49 #[.val (.int p0), .val (.int p1), .val (.int p2), .val (.int p3), .val (.int p4), .val (.int p5), .val (.int pa), .val (.int pb), .val (.int pc), .val (.int pd), .val (.int w10), .unset, .unset, .unset, .unset, .unset, .unset, .unset, .unset, .unset] []))
        refine own_go (fun _ kt => XS.iconst X141.here hx rfl (hb hby at_49) kt) ?_
        show own_G p.tables e below _ (T141.setTop (mkF m 50 #[.val (.int p0), .val (.int p1), .val (.int p2), .val (.int p3), .val (.int p4), .val (.int p5), .val (.int pa), .val (.int pb), .val (.int pc), .val (.int pd), .val (.int w10), .unset, .unset, .unset, .unset, .unset, .unset, .unset, .unset, .unset] [(.int (0 : Int32))]))
        refine own_go (fun _ kt => XS.istore X141.here hx rfl (hb hby at_50) rfl (l' := #[.val (.int p0), .val (.int p1), .val (.int p2), .val (.int p3), .val (.int p4), .val (.int p5), .val (.int pa), .val (.int pb), .val (.int pc), .val (.int pd), .val (.int w10), .val (.int (0 : Int32)), .unset, .unset, .unset, .unset, .unset, .unset, .unset, .unset]) rfl kt) ?_
        show own_G p.tables e below _ (T141.setTop (mkF m 52 #[.val (.int p0), .val (.int p1), .val (.int p2), .val (.int p3), .val (.int p4), .val (.int p5), .val (.int pa), .val (.int pb), .val (.int pc), .val (.int pd), .val (.int w10), .val (.int (0 : Int32)), .unset, .unset, .unset, .unset, .unset, .unset, .unset, .unset] []))
        exact j52 _ _ _ 0 X141 e141 N141 Z141 
      · show own_G p.tables e below _ (T141.setTop (mkF m 42 #[.val (.int p0), .val (.int p1), .val (.int p2), .val (.int p3), .val (.int p4), .val (.int p5), .val (.int pa), .val (.int pb), .val (.int pc), .val (.int pd), .val (.int w10), .unset, .unset, .unset, .unset, .unset, .unset, .unset, .unset, .unset] [(.int (p5 &&& (2 : Int32)))]))
        refine own_go (fun _ kt => XS.ifNo X141.here hx rfl (hb hby at_42) rfl ((if0 _ _).trans (feq (k7 : ¬ ((p5 &&& (2 : Int32)) = (0 : Int32)))).1) kt) ?_
        show own_G p.tables e below _ (T141.setTop (mkF m 45 #[.val (.int p0), .val (.int p1), .val (.int p2), .val (.int p3), .val (.int p4), .val (.int p5), .val (.int pa), .val (.int pb), .val (.int pc), .val (.int pd), .val (.int w10), .unset, .unset, .unset, .unset, .unset, .unset, .unset, .unset, .unset] []))
        refine own_go (fun _ kt => XS.iconst X141.here hx rfl (hb hby at_45) kt) ?_
        show own_G p.tables e below _ (T141.setTop (mkF m 46 #[.val (.int p0), .val (.int p1), .val (.int p2), .val (.int p3), .val (.int p4), .val (.int p5), .val (.int pa), .val (.int pb), .val (.int pc), .val (.int pd), .val (.int w10), .unset, .unset, .unset, .unset, .unset, .unset, .unset, .unset, .unset] [(.int (1 : Int32))]))
        refine own_go (fun _ kt => XS.goto X141.here hx rfl (pc0 := 46) (pc' := 50) rfl (hb hby at_46) (by decide) (by decide) kt) ?_
        show own_G p.tables e below _ (T141.setTop (mkF m 50 #[.val (.int p0), .val (.int p1), .val (.int p2), .val (.int p3), .val (.int p4), .val (.int p5), .val (.int pa), .val (.int pb), .val (.int pc), .val (.int pd), .val (.int w10), .unset, .unset, .unset, .unset, .unset, .unset, .unset, .unset, .unset] [(.int (1 : Int32))]))
        refine own_go (fun _ kt => XS.istore X141.here hx rfl (hb hby at_50) rfl (l' := #[.val (.int p0), .val (.int p1), .val (.int p2), .val (.int p3), .val (.int p4), .val (.int p5), .val (.int pa), .val (.int pb), .val (.int pc), .val (.int pd), .val (.int w10), .val (.int (1 : Int32)), .unset, .unset, .unset, .unset, .unset, .unset, .unset, .unset]) rfl kt) ?_
        show own_G p.tables e below _ (T141.setTop (mkF m 52 #[.val (.int p0), .val (.int p1), .val (.int p2), .val (.int p3), .val (.int p4), .val (.int p5), .val (.int pa), .val (.int pb), .val (.int pc), .val (.int pd), .val (.int w10), .val (.int (1 : Int32)), .unset, .unset, .unset, .unset, .unset, .unset, .unset, .unset] []))
        exact j52 _ _ _ 1 X141 e141 N141 Z141 
    show own_G p.tables e below _ (T140.setTop (mkF m 24 #[.val (.int p0), .val (.int p1), .val (.int p2), .val (.int p3), .val (.int p4), .val (.int p5), .val (.int pa), .val (.int pb), .val (.int pc), .val (.int pd), .unset, .unset, .unset, .unset, .unset, .unset, .unset, .unset, .unset, .unset] []))
    refine own_go (fun _ kt => XS.iload X140.here hx rfl (hb hby at_24) rfl kt) ?_
    show own_G p.tables e below _ (T140.setTop (mkF m 26 #[.val (.int p0), .val (.int p1), .val (.int p2), .val (.int p3), .val (.int p4), .val (.int p5), .val (.int pa), .val (.int pb), .val (.int pc), .val (.int pd), .unset, .unset, .unset, .unset, .unset, .unset, .unset, .unset, .unset, .unset] [(.int p5)]))
    refine own_go (fun _ kt => XS.iconst X140.here hx rfl (hb hby at_26) kt) ?_
    show own_G p.tables e below _ (T140.setTop (mkF m 27 #[.val (.int p0), .val (.int p1), .val (.int p2), .val (.int p3), .val (.int p4), .val (.int p5), .val (.int pa), .val (.int pb), .val (.int pc), .val (.int pd), .unset, .unset, .unset, .unset, .unset, .unset, .unset, .unset, .unset, .unset] [(.int (1 : Int32)), (.int p5)]))
    refine own_go (fun _ kt => XS.iand X140.here hx rfl (hb hby at_27) rfl kt) ?_
    by_cases k6 : (p5 &&& (1 : Int32)) = (0 : Int32)
    · show own_G p.tables e below _ (T140.setTop (mkF m 28 #[.val (.int p0), .val (.int p1), .val (.int p2), .val (.int p3), .val (.int p4), .val (.int p5), .val (.int pa), .val (.int pb), .val (.int pc), .val (.int pd), .unset, .unset, .unset, .unset, .unset, .unset, .unset, .unset, .unset, .unset] [(.int (p5 &&& (1 : Int32)))]))
      refine own_go (fun _ kt => XS.ifYes X140.here hx rfl (pc0 := 28) (pc' := 35) rfl (hb hby at_28) rfl ((if0 _ _).trans (teq (k6 : (p5 &&& (1 : Int32)) = (0 : Int32))).1) (by decide) (by decide) kt) ?_
      show own_G p.tables e below _ (T140.setTop (mkF m 35 #[.val (.int p0), .val (.int p1), .val (.int p2), .val (.int p3), .val (.int p4), .val (.int p5), .val (.int pa), .val (.int pb), .val (.int pc), .val (.int pd), .unset, .unset, .unset, .unset, .unset, .unset, .unset, .unset, .unset, .unset] []))
      refine own_go (fun _ kt => XS.iconst X140.here hx rfl (hb hby at_35) kt) ?_
      show own_G p.tables e below _ (T140.setTop (mkF m 36 #[.val (.int p0), .val (.int p1), .val (.int p2), .val (.int p3), .val (.int p4), .val (.int p5), .val (.int pa), .val (.int pb), .val (.int pc), .val (.int pd), .unset, .unset, .unset, .unset, .unset, .unset, .unset, .unset, .unset, .unset] [(.int (0 : Int32))]))
      refine own_go (fun _ kt => XS.istore X140.here hx rfl (hb hby at_36) rfl (l' := #[.val (.int p0), .val (.int p1), .val (.int p2), .val (.int p3), .val (.int p4), .val (.int p5), .val (.int pa), .val (.int pb), .val (.int pc), .val (.int pd), .val (.int (0 : Int32)), .unset, .unset, .unset, .unset, .unset, .unset, .unset, .unset, .unset]) rfl kt) ?_
      show own_G p.tables e below _ (T140.setTop (mkF m 38 #[.val (.int p0), .val (.int p1), .val (.int p2), .val (.int p3), .val (.int p4), .val (.int p5), .val (.int pa), .val (.int pb), .val (.int pc), .val (.int pd), .val (.int (0 : Int32)), .unset, .unset, .unset, .unset, .unset, .unset, .unset, .unset, .unset] []))
      exact j38 _ _ _ 0 X140 e140 N140 Z140 
    · show own_G p.tables e below _ (T140.setTop (mkF m 28 #[.val (.int p0), .val (.int p1), .val (.int p2), .val (.int p3), .val (.int p4), .val (.int p5), .val (.int pa), .val (.int pb), .val (.int pc), .val (.int pd), .unset, .unset, .unset, .unset, .unset, .unset, .unset, .unset, .unset, .unset] [(.int (p5 &&& (1 : Int32)))]))
      refine own_go (fun _ kt => XS.ifNo X140.here hx rfl (hb hby at_28) rfl ((if0 _ _).trans (feq (k6 : ¬ ((p5 &&& (1 : Int32)) = (0 : Int32)))).1) kt) ?_
      show own_G p.tables e below _ (T140.setTop (mkF m 31 #[.val (.int p0), .val (.int p1), .val (.int p2), .val (.int p3), .val (.int p4), .val (.int p5), .val (.int pa), .val (.int pb), .val (.int pc), .val (.int pd), .unset, .unset, .unset, .unset, .unset, .unset, .unset, .unset, .unset, .unset] []))
      refine own_go (fun _ kt => XS.iconst X140.here hx rfl (hb hby at_31) kt) ?_
      show own_G p.tables e below _ (T140.setTop (mkF m 32 #[.val (.int p0), .val (.int p1), .val (.int p2), .val (.int p3), .val (.int p4), .val (.int p5), .val (.int pa), .val (.int pb), .val (.int pc), .val (.int pd), .unset, .unset, .unset, .unset, .unset, .unset, .unset, .unset, .unset, .unset] [(.int (1 : Int32))]))
      refine own_go (fun _ kt => XS.goto X140.here hx rfl (pc0 := 32) (pc' := 36) rfl (hb hby at_32) (by decide) (by decide) kt) ?_
      show own_G p.tables e below _ (T140.setTop (mkF m 36 #[.val (.int p0), .val (.int p1), .val (.int p2), .val (.int p3), .val (.int p4), .val (.int p5), .val (.int pa), .val (.int pb), .val (.int pc), .val (.int pd), .unset, .unset, .unset, .unset, .unset, .unset, .unset, .unset, .unset, .unset] [(.int (1 : Int32))]))
      refine own_go (fun _ kt => XS.istore X140.here hx rfl (hb hby at_36) rfl (l' := #[.val (.int p0), .val (.int p1), .val (.int p2), .val (.int p3), .val (.int p4), .val (.int p5), .val (.int pa), .val (.int pb), .val (.int pc), .val (.int pd), .val (.int (1 : Int32)), .unset, .unset, .unset, .unset, .unset, .unset, .unset, .unset, .unset]) rfl kt) ?_
      show own_G p.tables e below _ (T140.setTop (mkF m 38 #[.val (.int p0), .val (.int p1), .val (.int p2), .val (.int p3), .val (.int p4), .val (.int p5), .val (.int pa), .val (.int pb), .val (.int pc), .val (.int pd), .val (.int (1 : Int32)), .unset, .unset, .unset, .unset, .unset, .unset, .unset, .unset, .unset] []))
      exact j38 _ _ _ 1 X140 e140 N140 Z140 
  show own_G p.tables e below _ (s₁.setTop (mkF m 0 #[.val (.int p0), .val (.int p1), .val (.int p2), .val (.int p3), .val (.int p4), .val (.int p5), .unset, .unset, .unset, .unset, .unset, .unset, .unset, .unset, .unset, .unset, .unset, .unset, .unset, .unset] []))
  refine own_go (fun _ kt => XS.iloadN X0.here hx rfl (hb hby at_0) rfl kt) ?_
  show own_G p.tables e below _ (s₁.setTop (mkF m 1 #[.val (.int p0), .val (.int p1), .val (.int p2), .val (.int p3), .val (.int p4), .val (.int p5), .unset, .unset, .unset, .unset, .unset, .unset, .unset, .unset, .unset, .unset, .unset, .unset, .unset, .unset] [(.int p0)]))
  refine own_go (X0.ldcInt hx hown (mvT hZ (hw _ (List.mem_of_getElem? (i := 0) rfl))) (g := (mkF m 1 #[.val (.int p0), .val (.int p1), .val (.int p2), .val (.int p3), .val (.int p4), .val (.int p5), .unset, .unset, .unset, .unset, .unset, .unset, .unset, .unset, .unset, .unset, .unset, .unset, .unset, .unset] [(.int p0)])) rfl (hb hby at_1)) ?_
  show own_G p.tables e below _ (s₁.setTop (mkF m 3 #[.val (.int p0), .val (.int p1), .val (.int p2), .val (.int p3), .val (.int p4), .val (.int p5), .unset, .unset, .unset, .unset, .unset, .unset, .unset, .unset, .unset, .unset, .unset, .unset, .unset, .unset] [(.int (65535 : Int32)), (.int p0)]))
  refine own_go (fun _ kt => XS.iand X0.here hx rfl (hb hby at_3) rfl kt) ?_
  show own_G p.tables e below _ (s₁.setTop (mkF m 4 #[.val (.int p0), .val (.int p1), .val (.int p2), .val (.int p3), .val (.int p4), .val (.int p5), .unset, .unset, .unset, .unset, .unset, .unset, .unset, .unset, .unset, .unset, .unset, .unset, .unset, .unset] [(.int (p0 &&& (65535 : Int32)))]))
  refine own_go (fun _ kt => XS.istore X0.here hx rfl (hb hby at_4) rfl (l' := #[.val (.int p0), .val (.int p1), .val (.int p2), .val (.int p3), .val (.int p4), .val (.int p5), .val (.int (p0 &&& (65535 : Int32))), .unset, .unset, .unset, .unset, .unset, .unset, .unset, .unset, .unset, .unset, .unset, .unset, .unset]) rfl kt) ?_
  show own_G p.tables e below _ (s₁.setTop (mkF m 6 #[.val (.int p0), .val (.int p1), .val (.int p2), .val (.int p3), .val (.int p4), .val (.int p5), .val (.int (p0 &&& (65535 : Int32))), .unset, .unset, .unset, .unset, .unset, .unset, .unset, .unset, .unset, .unset, .unset, .unset, .unset] []))
  refine own_go (fun _ kt => XS.iloadN X0.here hx rfl (hb hby at_6) rfl kt) ?_
  show own_G p.tables e below _ (s₁.setTop (mkF m 7 #[.val (.int p0), .val (.int p1), .val (.int p2), .val (.int p3), .val (.int p4), .val (.int p5), .val (.int (p0 &&& (65535 : Int32))), .unset, .unset, .unset, .unset, .unset, .unset, .unset, .unset, .unset, .unset, .unset, .unset, .unset] [(.int p1)]))
  refine own_go (X0.ldcInt hx hown (mvT hZ (hw _ (List.mem_of_getElem? (i := 0) rfl))) (g := (mkF m 7 #[.val (.int p0), .val (.int p1), .val (.int p2), .val (.int p3), .val (.int p4), .val (.int p5), .val (.int (p0 &&& (65535 : Int32))), .unset, .unset, .unset, .unset, .unset, .unset, .unset, .unset, .unset, .unset, .unset, .unset, .unset] [(.int p1)])) rfl (hb hby at_7)) ?_
  show own_G p.tables e below _ (s₁.setTop (mkF m 9 #[.val (.int p0), .val (.int p1), .val (.int p2), .val (.int p3), .val (.int p4), .val (.int p5), .val (.int (p0 &&& (65535 : Int32))), .unset, .unset, .unset, .unset, .unset, .unset, .unset, .unset, .unset, .unset, .unset, .unset, .unset] [(.int (65535 : Int32)), (.int p1)]))
  refine own_go (fun _ kt => XS.iand X0.here hx rfl (hb hby at_9) rfl kt) ?_
  show own_G p.tables e below _ (s₁.setTop (mkF m 10 #[.val (.int p0), .val (.int p1), .val (.int p2), .val (.int p3), .val (.int p4), .val (.int p5), .val (.int (p0 &&& (65535 : Int32))), .unset, .unset, .unset, .unset, .unset, .unset, .unset, .unset, .unset, .unset, .unset, .unset, .unset] [(.int (p1 &&& (65535 : Int32)))]))
  refine own_go (fun _ kt => XS.istore X0.here hx rfl (hb hby at_10) rfl (l' := #[.val (.int p0), .val (.int p1), .val (.int p2), .val (.int p3), .val (.int p4), .val (.int p5), .val (.int (p0 &&& (65535 : Int32))), .val (.int (p1 &&& (65535 : Int32))), .unset, .unset, .unset, .unset, .unset, .unset, .unset, .unset, .unset, .unset, .unset, .unset]) rfl kt) ?_
  show own_G p.tables e below _ (s₁.setTop (mkF m 12 #[.val (.int p0), .val (.int p1), .val (.int p2), .val (.int p3), .val (.int p4), .val (.int p5), .val (.int (p0 &&& (65535 : Int32))), .val (.int (p1 &&& (65535 : Int32))), .unset, .unset, .unset, .unset, .unset, .unset, .unset, .unset, .unset, .unset, .unset, .unset] []))
  refine own_go (fun _ kt => XS.iloadN X0.here hx rfl (hb hby at_12) rfl kt) ?_
  show own_G p.tables e below _ (s₁.setTop (mkF m 13 #[.val (.int p0), .val (.int p1), .val (.int p2), .val (.int p3), .val (.int p4), .val (.int p5), .val (.int (p0 &&& (65535 : Int32))), .val (.int (p1 &&& (65535 : Int32))), .unset, .unset, .unset, .unset, .unset, .unset, .unset, .unset, .unset, .unset, .unset, .unset] [(.int p2)]))
  refine own_go (X0.ldcInt hx hown (mvT hZ (hw _ (List.mem_of_getElem? (i := 0) rfl))) (g := (mkF m 13 #[.val (.int p0), .val (.int p1), .val (.int p2), .val (.int p3), .val (.int p4), .val (.int p5), .val (.int (p0 &&& (65535 : Int32))), .val (.int (p1 &&& (65535 : Int32))), .unset, .unset, .unset, .unset, .unset, .unset, .unset, .unset, .unset, .unset, .unset, .unset] [(.int p2)])) rfl (hb hby at_13)) ?_
  show own_G p.tables e below _ (s₁.setTop (mkF m 15 #[.val (.int p0), .val (.int p1), .val (.int p2), .val (.int p3), .val (.int p4), .val (.int p5), .val (.int (p0 &&& (65535 : Int32))), .val (.int (p1 &&& (65535 : Int32))), .unset, .unset, .unset, .unset, .unset, .unset, .unset, .unset, .unset, .unset, .unset, .unset] [(.int (65535 : Int32)), (.int p2)]))
  refine own_go (fun _ kt => XS.iand X0.here hx rfl (hb hby at_15) rfl kt) ?_
  show own_G p.tables e below _ (s₁.setTop (mkF m 16 #[.val (.int p0), .val (.int p1), .val (.int p2), .val (.int p3), .val (.int p4), .val (.int p5), .val (.int (p0 &&& (65535 : Int32))), .val (.int (p1 &&& (65535 : Int32))), .unset, .unset, .unset, .unset, .unset, .unset, .unset, .unset, .unset, .unset, .unset, .unset] [(.int (p2 &&& (65535 : Int32)))]))
  refine own_go (fun _ kt => XS.istore X0.here hx rfl (hb hby at_16) rfl (l' := #[.val (.int p0), .val (.int p1), .val (.int p2), .val (.int p3), .val (.int p4), .val (.int p5), .val (.int (p0 &&& (65535 : Int32))), .val (.int (p1 &&& (65535 : Int32))), .val (.int (p2 &&& (65535 : Int32))), .unset, .unset, .unset, .unset, .unset, .unset, .unset, .unset, .unset, .unset, .unset]) rfl kt) ?_
  show own_G p.tables e below _ (s₁.setTop (mkF m 18 #[.val (.int p0), .val (.int p1), .val (.int p2), .val (.int p3), .val (.int p4), .val (.int p5), .val (.int (p0 &&& (65535 : Int32))), .val (.int (p1 &&& (65535 : Int32))), .val (.int (p2 &&& (65535 : Int32))), .unset, .unset, .unset, .unset, .unset, .unset, .unset, .unset, .unset, .unset, .unset] []))
  refine own_go (fun _ kt => XS.iloadN X0.here hx rfl (hb hby at_18) rfl kt) ?_
  show own_G p.tables e below _ (s₁.setTop (mkF m 19 #[.val (.int p0), .val (.int p1), .val (.int p2), .val (.int p3), .val (.int p4), .val (.int p5), .val (.int (p0 &&& (65535 : Int32))), .val (.int (p1 &&& (65535 : Int32))), .val (.int (p2 &&& (65535 : Int32))), .unset, .unset, .unset, .unset, .unset, .unset, .unset, .unset, .unset, .unset, .unset] [(.int p3)]))
  refine own_go (X0.ldcInt hx hown (mvT hZ (hw _ (List.mem_of_getElem? (i := 0) rfl))) (g := (mkF m 19 #[.val (.int p0), .val (.int p1), .val (.int p2), .val (.int p3), .val (.int p4), .val (.int p5), .val (.int (p0 &&& (65535 : Int32))), .val (.int (p1 &&& (65535 : Int32))), .val (.int (p2 &&& (65535 : Int32))), .unset, .unset, .unset, .unset, .unset, .unset, .unset, .unset, .unset, .unset, .unset] [(.int p3)])) rfl (hb hby at_19)) ?_
  show own_G p.tables e below _ (s₁.setTop (mkF m 21 #[.val (.int p0), .val (.int p1), .val (.int p2), .val (.int p3), .val (.int p4), .val (.int p5), .val (.int (p0 &&& (65535 : Int32))), .val (.int (p1 &&& (65535 : Int32))), .val (.int (p2 &&& (65535 : Int32))), .unset, .unset, .unset, .unset, .unset, .unset, .unset, .unset, .unset, .unset, .unset] [(.int (65535 : Int32)), (.int p3)]))
  refine own_go (fun _ kt => XS.iand X0.here hx rfl (hb hby at_21) rfl kt) ?_
  show own_G p.tables e below _ (s₁.setTop (mkF m 22 #[.val (.int p0), .val (.int p1), .val (.int p2), .val (.int p3), .val (.int p4), .val (.int p5), .val (.int (p0 &&& (65535 : Int32))), .val (.int (p1 &&& (65535 : Int32))), .val (.int (p2 &&& (65535 : Int32))), .unset, .unset, .unset, .unset, .unset, .unset, .unset, .unset, .unset, .unset, .unset] [(.int (p3 &&& (65535 : Int32)))]))
  refine own_go (fun _ kt => XS.istore X0.here hx rfl (hb hby at_22) rfl (l' := #[.val (.int p0), .val (.int p1), .val (.int p2), .val (.int p3), .val (.int p4), .val (.int p5), .val (.int (p0 &&& (65535 : Int32))), .val (.int (p1 &&& (65535 : Int32))), .val (.int (p2 &&& (65535 : Int32))), .val (.int (p3 &&& (65535 : Int32))), .unset, .unset, .unset, .unset, .unset, .unset, .unset, .unset, .unset, .unset]) rfl kt) ?_
  show own_G p.tables e below _ (s₁.setTop (mkF m 24 #[.val (.int p0), .val (.int p1), .val (.int p2), .val (.int p3), .val (.int p4), .val (.int p5), .val (.int (p0 &&& (65535 : Int32))), .val (.int (p1 &&& (65535 : Int32))), .val (.int (p2 &&& (65535 : Int32))), .val (.int (p3 &&& (65535 : Int32))), .unset, .unset, .unset, .unset, .unset, .unset, .unset, .unset, .unset, .unset] []))
  exact j24 _ _ _ _ _ _ _ X0 e0 N0 Z0 (own_mask _) (own_mask _) (own_mask _) (own_mask _)
set_option maxRecDepth 65536 in
set_option maxHeartbeats 40000000 in
theorem comes_1 {Post : Tables → Env → Array Value → State → Outcome → State → Prop} (hpost : ∀ tb e args s v u, (limb_1_1.after args s (.returned v) u = true ∧ limb_1_2.after args s (.returned v) u = true ∧ True) → FrameEnd s (.returned v) u (Jvm.fieldLocs frame_1_writes args s ++ Jvm.arrayLocs frame_1_arrays args s ++ Jvm.staticLocs frame_1_statics s) 16 128 → Post tb e args s (.returned v) u) :
    ArmFor flags0 classFile x code maxLocals ret World_1 tables_1 room_1 Calls_1 rest_1 Pre_1 Post := by
  intro l hfl _ _ p e ha hc hk s m args below hf hA hF happ hP
  obtain ⟨hcalls, hrest, hpre⟩ := hP
  obtain ⟨-, -, -, hnamed, -, -, -, hat⟩ := (Spec.applies_iff hf).mp happ
  obtain ⟨hg, hn⟩ := and_e (Cond.before_iff.mp (show (Jvm.Cond.and given_1 narrow_1).before args s = true from hpre))
  obtain ⟨a0, b0⟩ := and_e hg
  obtain ⟨a1, b1⟩ := and_e b0
  obtain ⟨a2, b2⟩ := and_e b1
  obtain ⟨a3, b3⟩ := and_e b2
  obtain ⟨a4, b4⟩ := and_e b3
  obtain ⟨a5, b5⟩ := and_e b4
  obtain ⟨w0, w1, w2, w3, w4, w5, rfl⟩ : ∃ w0 w1 w2 w3 w4 w5 : Value, args = #[w0, w1, w2, w3, w4, w5] := by
    have hs : args.size = 6 := by simpa [Cond.value, given_1] using a0
    obtain ⟨L⟩ := args
    match L, hs with
    | [w0, w1, w2, w3, w4, w5], _ => exact ⟨w0, w1, w2, w3, w4, w5, rfl⟩
  have hw := fun d (hd : d ∈ tables_1) => atoms_spec (ws := Jvm.Cond.code x code maxLocals ret :: tables_1) hat d (List.mem_cons_of_mem _ hd)
  obtain ⟨i0, ei0⟩ := is_v a1
  obtain rfl : w0 = (.int i0) := Option.some.inj ei0
  obtain ⟨i1, ei1⟩ := is_v a2
  obtain rfl : w1 = (.int i1) := Option.some.inj ei1
  obtain ⟨i2, ei2⟩ := is_v a3
  obtain rfl : w2 = (.int i2) := Option.some.inj ei2
  obtain ⟨i3, ei3⟩ := is_v a4
  obtain rfl : w3 = (.int i3) := Option.some.inj ei3
  obtain ⟨i4, ei4⟩ := is_v a5
  obtain rfl : w4 = (.int i4) := Option.some.inj ei4
  obtain ⟨i5, ei5⟩ := is_v b5
  obtain rfl : w5 = (.int i5) := Option.some.inj ei5
  obtain ⟨n, o, h1, h2, h3, _, L, rfl, ⟨rfl, N⟩, hq⟩ := rm_law l s _ hw tables_1 i0 i1 i2 i3 i4 i5 s.heap s.heap.size (Nat.le_refl _) p e ha hc hk s m _ below hf ((Spec.applies_iff_loose hf).mp happ).1 ⟨rfl, State.Warmed39.refl s, rfl⟩ trivial
  refine ⟨n, _, h1, h2, h3, hpost _ _ _ _ _ _ ⟨Cond.after_iff.mpr rfl, Cond.after_iff.mpr (eq_i res_at (Term.int_eval (1)) rfl), trivial⟩ ⟨hq.1, hq.2.1, (hq.2.2.sift fun y hy => Or.inr (N y hy)).mono (by decide) (by decide)⟩⟩
theorem main_1_1 : Claimed_1_1 := comes_1 fun _ _ _ _ _ _ h hF => ⟨h.1, hF⟩
theorem main_1_2 : Claimed_1_2 := comes_1 fun _ _ _ _ _ _ h hF => ⟨h.2.1, hF⟩
end Jvm.Pilot.@@N@@
namespace Jvm.Pilot.@@N@@
open Jvm Jvm.ClassFile Sem Op Lib Jvm.Free Jvm.Stand Jvm.Pilot.@@N@@.Jvm.D
/-! MADE BY PROGRAM (witnessworld.py) out of the Statement's table words and the real class files: 10 classes; the members and pool entries that the words name. The judged class is class 1, her method 1. -/
namespace start1
open Jvm.ClassFile
def u (s : String) : CpInfo := .utf8 (stringToUtf16 s)
/-- a pool by its gaps: so many unusable entries, then the entry; so many at the end -/
def gap : Nat → List CpInfo → List CpInfo
  | 0, r => r
  | n + 1, r => .unusable :: gap n r
def poolList (es : List (Nat × CpInfo)) (last : Nat) : List CpInfo := es.foldr (fun e r => gap e.1 (e.2 :: r)) (gap last [])
def pool (es : List (Nat × CpInfo)) (last : Nat) : Array CpInfo := ⟨poolList es last⟩
def fileOf (pool : Array CpInfo) (this : Nat) (attrs : Array Attribute := #[]) (ms : Array MethodInfo := #[]) (fl : Nat := 33) (sup : Nat := 0) (ifs : Array Nat := #[]) (fds : Array FieldInfo := #[]) : ClassFile where
  minorVersion := 0
  majorVersion := 65
  constantPool := pool
  accessFlags := fl
  thisClass := this
  superClass := sup
  interfaces := ifs
  fields := fds
  methods := ms
  attributes := attrs
def plain (name : String) (sup : Option ClassId) : Class where
  name := name
  kind := .ordinary
  loader := none
  accessFlags := 33
  super := sup
  interfaces := #[]
  cf := none
  fields := #[]
  methods := #[]
  instanceTypes := #[]
  staticTypes := #[]
  resolved := #[]
  callSites := []
  init := .initialized
  statics := none
  mirror := none

def pool0 : Array CpInfo := pool [(5, u "<init>"), (0, u "()V"), (1, .class_ 10), (1, u "java/lang/Object")] 113

def k0c0 : Code := { maxStack := 0, maxLocals := 1, code := object_method_1_code, exceptionTable := #[], attributes := #[] }
def k0m0 : Method := { name := "<init>", desc := "()V", sig := { parameters := [], returnType := none }, accessFlags := 1, code := some k0c0 }
/-- java/lang/Object -/
def k0 : Class := { plain "java/lang/Object" none with
  accessFlags := 33
  interfaces := #[]
  cf := some (fileOf pool0 8 #[] #[{ accessFlags := 1, nameIndex := 5, descriptorIndex := 6, attributes := #[] }] 33 0 #[] #[])
  fields := #[]
  methods := #[k0m0]
  instanceTypes := #[]
  staticTypes := #[]
  resolved := Array.replicate 124 none
  statics := none }

def pool1 : Array CpInfo := pool [(2, .class_ 4), (0, .nameAndType 5 6), (0, u "java/lang/Object"), (0, u "<init>"), (0, u "()V"), (0, .integer 65535), (0, .class_ 9), (0, u "polytsia/marcxml/Place"), (0, .methodref 8 3), (0, .methodref 8 12), (0, .nameAndType 13 14), (0, u "put"), (0, u "(I)V"), (0, .methodref 8 16), (0, .nameAndType 17 14), (0, u "pass"), (0, .methodref 8 19), (0, .nameAndType 17 20), (0, u "(II)V"), (0, .methodref 8 22), (0, .nameAndType 23 24), (0, u "documentColumn"), (0, u "()I"), (0, .methodref 8 26), (0, .nameAndType 23 27), (0, u "(II)I"), (0, .class_ 29), (0, u "polytsia/marcxml/PlacePutPinLaw"), (2, u "law"), (0, u "(IIIIII)Z")] 3

def k1m0 : Method := { name := "<init>", desc := "()V", sig := { parameters := [], returnType := none }, accessFlags := 1, code := none }
def k1c1 : Code := { maxStack := 3, maxLocals := 20, code := code, exceptionTable := #[], attributes := #[] }
def k1m1 : Method := { name := "law", desc := "(IIIIII)Z", sig := { parameters := [.int, .int, .int, .int, .int, .int], returnType := some .boolean }, accessFlags := 9, code := some k1c1 }
/-- polytsia/marcxml/PlacePutPinLaw -/
def k1 : Class := { plain "polytsia/marcxml/PlacePutPinLaw" (some 0) with
  accessFlags := 49
  interfaces := #[]
  cf := some (fileOf pool1 28 #[] #[{ accessFlags := 1, nameIndex := 5, descriptorIndex := 6, attributes := #[] }, { accessFlags := 9, nameIndex := 32, descriptorIndex := 33, attributes := #[] }] 49 2 #[] #[])
  fields := #[]
  methods := #[k1m0, k1m1]
  instanceTypes := #[]
  staticTypes := #[]
  resolved := Array.replicate 37 none
  statics := none }

def pool2 : Array CpInfo := pool [(1, .methodref 2 3), (0, .class_ 4), (0, .nameAndType 5 6), (0, u "java/lang/Object"), (0, u "<init>"), (0, u "()V"), (0, .fieldref 8 9), (0, .class_ 10), (0, .nameAndType 11 12), (0, u "polytsia/marcxml/Place"), (0, u "line"), (0, u "I"), (0, .fieldref 8 14), (0, .nameAndType 15 12), (0, u "column"), (0, .fieldref 8 17), (0, .nameAndType 18 19), (0, u "putLine"), (0, u "[I"), (0, .fieldref 8 21), (0, .nameAndType 22 19), (0, u "putColumn"), (0, .fieldref 8 24), (0, .nameAndType 25 19), (0, u "putAdded"), (4, .fieldref 8 31), (0, .nameAndType 32 33), (0, u "xml11"), (0, u "Z"), (0, .fieldref 8 35), (0, .nameAndType 36 33), (0, u "afterCarriageReturn"), (0, .methodref 8 38), (0, .nameAndType 39 6), (0, u "newLine"), (0, .fieldref 8 41), (0, .nameAndType 42 12), (0, u "added"), (0, .fieldref 8 44), (0, .nameAndType 45 12), (0, u "puts"), (0, .methodref 47 48), (0, .class_ 49), (0, .nameAndType 50 51), (0, u "java/lang/Math"), (0, u "min"), (0, u "(II)I"), (0, u "PUTS"), (11, u "pass"), (0, u "(II)V"), (0, u "(I)V"), (0, u "put"), (0, u "()I"), (0, u "documentColumn")] 17

def k2c0 : Code := { maxStack := 2, maxLocals := 1, code := prog_43_method_1_code, exceptionTable := #[], attributes := #[] }
def k2m0 : Method := { name := "<init>", desc := "()V", sig := { parameters := [], returnType := none }, accessFlags := 0, code := some k2c0 }
def k2c1 : Code := { maxStack := 3, maxLocals := 4, code := prog_43_method_6_code, exceptionTable := #[], attributes := #[] }
def k2m1 : Method := { name := "pass", desc := "(II)V", sig := { parameters := [.int, .int], returnType := none }, accessFlags := 0, code := some k2c1 }
def k2c2 : Code := { maxStack := 3, maxLocals := 2, code := prog_43_method_7_code, exceptionTable := #[], attributes := #[] }
def k2m2 : Method := { name := "pass", desc := "(I)V", sig := { parameters := [.int], returnType := none }, accessFlags := 0, code := some k2c2 }
def k2c3 : Code := { maxStack := 4, maxLocals := 3, code := prog_43_method_8_code, exceptionTable := #[], attributes := #[] }
def k2m3 : Method := { name := "put", desc := "(I)V", sig := { parameters := [.int], returnType := none }, accessFlags := 0, code := some k2c3 }
def k2c4 : Code := { maxStack := 2, maxLocals := 1, code := prog_43_method_10_code, exceptionTable := #[], attributes := #[] }
def k2m4 : Method := { name := "documentColumn", desc := "()I", sig := { parameters := [], returnType := some .int }, accessFlags := 0, code := some k2c4 }
def k2c5 : Code := { maxStack := 3, maxLocals := 6, code := prog_43_method_11_code, exceptionTable := #[], attributes := #[] }
def k2m5 : Method := { name := "documentColumn", desc := "(II)I", sig := { parameters := [.int, .int], returnType := some .int }, accessFlags := 0, code := some k2c5 }
def k2c6 : Code := { maxStack := 3, maxLocals := 1, code := prog_43_method_12_code, exceptionTable := #[], attributes := #[] }
def k2m6 : Method := { name := "newLine", desc := "()V", sig := { parameters := [], returnType := none }, accessFlags := 2, code := some k2c6 }
/-- polytsia/marcxml/Place -/
def k2 : Class := { plain "polytsia/marcxml/Place" (some 0) with
  accessFlags := 48
  interfaces := #[]
  cf := some (fileOf pool2 8 #[] #[{ accessFlags := 0, nameIndex := 5, descriptorIndex := 6, attributes := #[] }, { accessFlags := 0, nameIndex := 64, descriptorIndex := 65, attributes := #[] }, { accessFlags := 0, nameIndex := 64, descriptorIndex := 66, attributes := #[] }, { accessFlags := 0, nameIndex := 67, descriptorIndex := 66, attributes := #[] }, { accessFlags := 0, nameIndex := 69, descriptorIndex := 68, attributes := #[] }, { accessFlags := 0, nameIndex := 69, descriptorIndex := 51, attributes := #[] }, { accessFlags := 2, nameIndex := 39, descriptorIndex := 6, attributes := #[] }] 48 2 #[] #[{ accessFlags := 26, nameIndex := 52, descriptorIndex := 12, attributes := #[] }, { accessFlags := 2, nameIndex := 11, descriptorIndex := 12, attributes := #[] }, { accessFlags := 2, nameIndex := 15, descriptorIndex := 12, attributes := #[] }, { accessFlags := 2, nameIndex := 42, descriptorIndex := 12, attributes := #[] }, { accessFlags := 2, nameIndex := 36, descriptorIndex := 33, attributes := #[] }, { accessFlags := 2, nameIndex := 32, descriptorIndex := 33, attributes := #[] }, { accessFlags := 18, nameIndex := 18, descriptorIndex := 19, attributes := #[] }, { accessFlags := 18, nameIndex := 22, descriptorIndex := 19, attributes := #[] }, { accessFlags := 18, nameIndex := 25, descriptorIndex := 19, attributes := #[] }, { accessFlags := 2, nameIndex := 45, descriptorIndex := 12, attributes := #[] }])
  fields := #[{ name := "PUTS", type := .int, accessFlags := 26, slot := 0, constantValue := 0 }, { name := "line", type := .int, accessFlags := 2, slot := 0, constantValue := 0 }, { name := "column", type := .int, accessFlags := 2, slot := 1, constantValue := 0 }, { name := "added", type := .int, accessFlags := 2, slot := 2, constantValue := 0 }, { name := "afterCarriageReturn", type := .boolean, accessFlags := 2, slot := 3, constantValue := 0 }, { name := "xml11", type := .boolean, accessFlags := 2, slot := 4, constantValue := 0 }, { name := "putLine", type := (.array .int), accessFlags := 18, slot := 5, constantValue := 0 }, { name := "putColumn", type := (.array .int), accessFlags := 18, slot := 6, constantValue := 0 }, { name := "putAdded", type := (.array .int), accessFlags := 18, slot := 7, constantValue := 0 }, { name := "puts", type := .int, accessFlags := 2, slot := 8, constantValue := 0 }]
  methods := #[k2m0, k2m1, k2m2, k2m3, k2m4, k2m5, k2m6]
  instanceTypes := #[.int, .int, .int, .boolean, .boolean, (.array .int), (.array .int), (.array .int), .int]
  staticTypes := #[.int]
  resolved := Array.replicate 87 none
  statics := none }

def pool3 : Array CpInfo := pool [(1, .class_ 2), (0, u "java/lang/Math"), (1, .class_ 6), (1, u "java/lang/Object"), (0, u "<init>"), (0, u "()V"), (89, .class_ 100), (1, u "java/lang/Math$RandomNumberGeneratorHolder"), (71, u "negativeZeroFloatBits"), (0, u "J"), (2, u "negativeZeroDoubleBits"), (24, u "min"), (43, u "$assertionsDisabled"), (0, u "Z"), (88, u "(II)I"), (2, u "twoToTheDoubleScaleDown"), (0, u "D"), (4, u "twoToTheDoubleScaleUp"), (9, u "E"), (3, u "PI"), (2, u "TAU"), (2, u "DEGREES_TO_RADIANS"), (0, u "RADIANS_TO_DEGREES")] 94

def k3m0 : Method := { name := "<init>", desc := "()V", sig := { parameters := [], returnType := none }, accessFlags := 2, code := none }
def k3c1 : Code := { maxStack := 2, maxLocals := 2, code := jdk_29_method_69_code, exceptionTable := #[], attributes := #[] }
def k3m1 : Method := { name := "min", desc := "(II)I", sig := { parameters := [.int, .int], returnType := some .int }, accessFlags := 9, code := some k3c1 }
/-- java/lang/Math -/
def k3 : Class := { plain "java/lang/Math" (some 0) with
  accessFlags := 49
  interfaces := #[]
  cf := some (fileOf pool3 1 #[.nestMembers #[98]] #[{ accessFlags := 2, nameIndex := 7, descriptorIndex := 8, attributes := #[] }, { accessFlags := 9, nameIndex := 201, descriptorIndex := 335, attributes := #[] }] 49 4 #[] #[{ accessFlags := 25, nameIndex := 354, descriptorIndex := 339, attributes := #[] }, { accessFlags := 25, nameIndex := 358, descriptorIndex := 339, attributes := #[] }, { accessFlags := 25, nameIndex := 361, descriptorIndex := 339, attributes := #[] }, { accessFlags := 26, nameIndex := 364, descriptorIndex := 339, attributes := #[] }, { accessFlags := 26, nameIndex := 365, descriptorIndex := 339, attributes := #[] }, { accessFlags := 26, nameIndex := 172, descriptorIndex := 173, attributes := #[] }, { accessFlags := 26, nameIndex := 176, descriptorIndex := 173, attributes := #[] }, { accessFlags := 8, nameIndex := 344, descriptorIndex := 339, attributes := #[] }, { accessFlags := 8, nameIndex := 338, descriptorIndex := 339, attributes := #[] }, { accessFlags := 4120, nameIndex := 245, descriptorIndex := 246, attributes := #[] }])
  fields := #[{ name := "E", type := .double, accessFlags := 25, slot := 0, constantValue := 0 }, { name := "PI", type := .double, accessFlags := 25, slot := 1, constantValue := 0 }, { name := "TAU", type := .double, accessFlags := 25, slot := 2, constantValue := 0 }, { name := "DEGREES_TO_RADIANS", type := .double, accessFlags := 26, slot := 3, constantValue := 0 }, { name := "RADIANS_TO_DEGREES", type := .double, accessFlags := 26, slot := 4, constantValue := 0 }, { name := "negativeZeroFloatBits", type := .long, accessFlags := 26, slot := 5, constantValue := 0 }, { name := "negativeZeroDoubleBits", type := .long, accessFlags := 26, slot := 6, constantValue := 0 }, { name := "twoToTheDoubleScaleUp", type := .double, accessFlags := 8, slot := 7, constantValue := 0 }, { name := "twoToTheDoubleScaleDown", type := .double, accessFlags := 8, slot := 8, constantValue := 0 }, { name := "$assertionsDisabled", type := .boolean, accessFlags := 4120, slot := 9, constantValue := 0 }]
  methods := #[k3m0, k3m1]
  instanceTypes := #[]
  staticTypes := #[.double, .double, .double, .double, .double, .long, .long, .double, .double, .boolean]
  resolved := Array.replicate 460 none
  statics := none }

def pool4 : Array CpInfo := pool [(1, u "java/lang/Cloneable"), (0, .class_ 1), (0, u "java/lang/Object"), (0, .class_ 3)] 3

/-- java/lang/Cloneable -/
def k4 : Class := { plain "java/lang/Cloneable" (some 0) with
  accessFlags := 1537
  interfaces := #[]
  cf := some (fileOf pool4 2 #[] #[] 1537 4 #[] #[])
  fields := #[]
  methods := #[]
  instanceTypes := #[]
  staticTypes := #[]
  resolved := Array.replicate 8 none
  statics := none }

def pool5 : Array CpInfo := pool [(1, u "java/io/Serializable"), (0, .class_ 1), (0, u "java/lang/Object"), (0, .class_ 3)] 3

/-- java/io/Serializable -/
def k5 : Class := { plain "java/io/Serializable" (some 0) with
  accessFlags := 1537
  interfaces := #[]
  cf := some (fileOf pool5 2 #[] #[] 1537 4 #[] #[])
  fields := #[]
  methods := #[]
  instanceTypes := #[]
  staticTypes := #[]
  resolved := Array.replicate 8 none
  statics := none }

/-- the primitive byte -/
def k6 : Class := { plain "byte" none with kind := .primitive 'B', accessFlags := 0x411 }
/-- [B -/
def k7 : Class := { plain "[B" (some 0) with kind := .array 6 .byte, interfaces := #[4, 5], accessFlags := 1041 }

/-- the primitive int -/
def k8 : Class := { plain "int" none with kind := .primitive 'I', accessFlags := 0x411 }
/-- [I -/
def k9 : Class := { plain "[I" (some 0) with kind := .array 8 .int, interfaces := #[4, 5], accessFlags := 1041 }

def heap : Heap := #[]
def classes : Array Class := #[k0, k1, k2, k3, k4, k5, k6, k7, k8, k9]
def interned : List (Array UInt16 × Addr) := []
def slotsUsed : Nat := 0
def theMethod : MethodId := ⟨1, 1⟩
def args0 : Array Value := #[.int 5, .int 6, .int 7, .int 8, .int 9, .int 3]
def aboutOver (below : List Frame) : State where
  vm := { classes := classes, interned := interned.toArray }
  heap := heap
  slotsUsed := slotsUsed
  threads := #[{ frames := .invoking theMethod args0 :: below }]
def below0 : List Frame := [.native { method := ⟨0, 0⟩, args := #[] }]
def about1 : State := aboutOver below0
def p0 : Program := .bare "" "" ""
def e0 : Env := launch0.env 0 0 0
theorem w_frames : about1.frames = Frame.invoking theMethod args0 :: below0 := rfl
set_option maxRecDepth 65536 in
theorem w_args : argsFit about1.vm theMethod args0 = true := by decide +kernel
set_option maxRecDepth 65536 in
theorem w_heap : heapFits about1 = true := by decide +kernel
set_option maxRecDepth 65536 in
theorem w_runnable : about1.curStatus? = some .runnable := by decide +kernel
set_option maxRecDepth 65536 in
theorem w_alone : about1.alone = true := by decide +kernel
set_option maxRecDepth 65536 in
theorem w_named : about1.methodNamed? x = some theMethod := by decide +kernel
set_option maxRecDepth 65536 in
theorem w_hears : about1.hears theMethod below0 = true := by decide +kernel
set_option maxRecDepth 65536 in
theorem w_ripe : about1.ripe theMethod args0 below0 = true := by decide +kernel
theorem w_running : about1.status = .running := rfl
set_option maxRecDepth 65536 in
theorem w_room : about1.hasRoom e0.platform room_1 = true :=
  launch0.hasRoom_least _ room_1 (by decide +kernel) (by decide +kernel) (by decide +kernel) (by decide +kernel) (by decide +kernel) (by decide +kernel)
theorem allAtoms_all (ts : List Jvm.Cond) (a : Array Jvm.Value) (st : Jvm.State) : (allAtoms ts).before a st = ts.all (fun c => c.before a st) := by
  induction ts with
  | nil => rfl
  | cons c t ih =>
    show (Jvm.Cond.and c (allAtoms t)).before a st = _
    rw [Jvm.Cond.before_and, ih, List.all_cons]
def words1 : List Jvm.Cond := Jvm.Cond.code x code maxLocals ret :: tables_1
/-- a 'code' word, met by the world's own term for the bytes: nothing is compared byte by byte -/
theorem code_word {y : MethodName} {bytes : ByteArray} {mx : Nat} {rt : Option FieldType} {a : Array Value} {s : State} {m : MethodId} {meth : Method} {c : Code} (h1 : s.methodNamed? y = some m) (h2 : s.vm.method? m = some meth) (h3 : meth.code = some c) (h4 : c.code = bytes)
    (h5 : (c.maxLocals == mx && c.exceptionTable.isEmpty && decide (c.maxStack ≤ mostOperands) && decide (meth.sig.returnType = rt) && !meth.locks && decide (parseMethodDescriptor y.desc = some meth.sig)) = true) : (Jvm.Cond.code y bytes mx rt).before a s = true := by
  simp only [Bool.and_eq_true, beq_iff_eq, Bool.not_eq_true', decide_eq_true_eq] at h5
  obtain ⟨⟨⟨⟨⟨g1, g2⟩, g3⟩, g4⟩, g5⟩, g6⟩ := h5
  simp [Cond.before, Cond.holds, Cond.value, h1, h2, h3, h4, g1, g2, g3, g4, g5, g6]
def isCode : Jvm.Cond → Bool
  | .code _ _ _ _ => true
  | _ => false
theorem all_split {L : List Jvm.Cond} {P : Jvm.Cond → Bool} (h1 : L.all (fun c => isCode c || P c) = true) (h2 : ∀ c ∈ L.filter isCode, P c = true) : L.all P = true := by
  refine List.all_eq_true.mpr fun c hc => ?_
  have h := List.all_eq_true.mp h1 c hc
  rcases Bool.eq_false_or_eq_true (isCode c) with hi | hi
  · exact h2 c (List.mem_filter.mpr ⟨hc, hi⟩)
  · simpa [hi] using h
set_option maxRecDepth 65536 in
theorem w_c0 : (Jvm.Cond.code x code maxLocals ret).before args0 about1 = true := code_word (m := ⟨1, 1⟩) (meth := k1m1) (c := k1c1) (by decide +kernel) rfl rfl rfl (by decide +kernel)
set_option maxRecDepth 65536 in
theorem w_c1 : (Jvm.Cond.code ({ cls := "polytsia/marcxml/Place", name := "<init>", desc := "()V" } : Jvm.MethodName) prog_43_method_1_code (1 : Nat) (Option.none : Option Jvm.ClassFile.FieldType)).before args0 about1 = true := code_word (m := ⟨2, 0⟩) (meth := k2m0) (c := k2c0) (by decide +kernel) rfl rfl rfl (by decide +kernel)
set_option maxRecDepth 65536 in
theorem w_c2 : (Jvm.Cond.code ({ cls := "java/lang/Object", name := "<init>", desc := "()V" } : Jvm.MethodName) object_method_1_code (1 : Nat) (Option.none : Option Jvm.ClassFile.FieldType)).before args0 about1 = true := code_word (m := ⟨0, 0⟩) (meth := k0m0) (c := k0c0) (by decide +kernel) rfl rfl rfl (by decide +kernel)
set_option maxRecDepth 65536 in
theorem w_c3 : (Jvm.Cond.code ({ cls := "polytsia/marcxml/Place", name := "put", desc := "(I)V" } : Jvm.MethodName) prog_43_method_8_code (3 : Nat) (Option.none : Option Jvm.ClassFile.FieldType)).before args0 about1 = true := code_word (m := ⟨2, 3⟩) (meth := k2m3) (c := k2c3) (by decide +kernel) rfl rfl rfl (by decide +kernel)
set_option maxRecDepth 65536 in
theorem w_c4 : (Jvm.Cond.code ({ cls := "polytsia/marcxml/Place", name := "pass", desc := "(I)V" } : Jvm.MethodName) prog_43_method_7_code (2 : Nat) (Option.none : Option Jvm.ClassFile.FieldType)).before args0 about1 = true := code_word (m := ⟨2, 2⟩) (meth := k2m2) (c := k2c2) (by decide +kernel) rfl rfl rfl (by decide +kernel)
set_option maxRecDepth 65536 in
theorem w_c5 : (Jvm.Cond.code ({ cls := "polytsia/marcxml/Place", name := "pass", desc := "(II)V" } : Jvm.MethodName) prog_43_method_6_code (4 : Nat) (Option.none : Option Jvm.ClassFile.FieldType)).before args0 about1 = true := code_word (m := ⟨2, 1⟩) (meth := k2m1) (c := k2c1) (by decide +kernel) rfl rfl rfl (by decide +kernel)
set_option maxRecDepth 65536 in
theorem w_c6 : (Jvm.Cond.code ({ cls := "polytsia/marcxml/Place", name := "newLine", desc := "()V" } : Jvm.MethodName) prog_43_method_12_code (1 : Nat) (Option.none : Option Jvm.ClassFile.FieldType)).before args0 about1 = true := code_word (m := ⟨2, 6⟩) (meth := k2m6) (c := k2c6) (by decide +kernel) rfl rfl rfl (by decide +kernel)
set_option maxRecDepth 65536 in
theorem w_c7 : (Jvm.Cond.code ({ cls := "polytsia/marcxml/Place", name := "documentColumn", desc := "()I" } : Jvm.MethodName) prog_43_method_10_code (1 : Nat) (Option.some Jvm.ClassFile.FieldType.int)).before args0 about1 = true := code_word (m := ⟨2, 4⟩) (meth := k2m4) (c := k2c4) (by decide +kernel) rfl rfl rfl (by decide +kernel)
set_option maxRecDepth 65536 in
theorem w_c8 : (Jvm.Cond.code ({ cls := "polytsia/marcxml/Place", name := "documentColumn", desc := "(II)I" } : Jvm.MethodName) prog_43_method_11_code (6 : Nat) (Option.some Jvm.ClassFile.FieldType.int)).before args0 about1 = true := code_word (m := ⟨2, 5⟩) (meth := k2m5) (c := k2c5) (by decide +kernel) rfl rfl rfl (by decide +kernel)
set_option maxRecDepth 65536 in
theorem w_c9 : (Jvm.Cond.code ({ cls := "java/lang/Math", name := "min", desc := "(II)I" } : Jvm.MethodName) jdk_29_method_69_code (2 : Nat) (Option.some Jvm.ClassFile.FieldType.int)).before args0 about1 = true := code_word (m := ⟨3, 1⟩) (meth := k3m1) (c := k3c1) (by decide +kernel) rfl rfl rfl (by decide +kernel)
def codes1 : List Jvm.Cond := [Jvm.Cond.code x code maxLocals ret, Jvm.Cond.code ({ cls := "polytsia/marcxml/Place", name := "<init>", desc := "()V" } : Jvm.MethodName) prog_43_method_1_code (1 : Nat) (Option.none : Option Jvm.ClassFile.FieldType), Jvm.Cond.code ({ cls := "java/lang/Object", name := "<init>", desc := "()V" } : Jvm.MethodName) object_method_1_code (1 : Nat) (Option.none : Option Jvm.ClassFile.FieldType), Jvm.Cond.code ({ cls := "polytsia/marcxml/Place", name := "put", desc := "(I)V" } : Jvm.MethodName) prog_43_method_8_code (3 : Nat) (Option.none : Option Jvm.ClassFile.FieldType), Jvm.Cond.code ({ cls := "polytsia/marcxml/Place", name := "pass", desc := "(I)V" } : Jvm.MethodName) prog_43_method_7_code (2 : Nat) (Option.none : Option Jvm.ClassFile.FieldType), Jvm.Cond.code ({ cls := "polytsia/marcxml/Place", name := "pass", desc := "(II)V" } : Jvm.MethodName) prog_43_method_6_code (4 : Nat) (Option.none : Option Jvm.ClassFile.FieldType), Jvm.Cond.code ({ cls := "polytsia/marcxml/Place", name := "newLine", desc := "()V" } : Jvm.MethodName) prog_43_method_12_code (1 : Nat) (Option.none : Option Jvm.ClassFile.FieldType), Jvm.Cond.code ({ cls := "polytsia/marcxml/Place", name := "documentColumn", desc := "()I" } : Jvm.MethodName) prog_43_method_10_code (1 : Nat) (Option.some Jvm.ClassFile.FieldType.int), Jvm.Cond.code ({ cls := "polytsia/marcxml/Place", name := "documentColumn", desc := "(II)I" } : Jvm.MethodName) prog_43_method_11_code (6 : Nat) (Option.some Jvm.ClassFile.FieldType.int), Jvm.Cond.code ({ cls := "java/lang/Math", name := "min", desc := "(II)I" } : Jvm.MethodName) jdk_29_method_69_code (2 : Nat) (Option.some Jvm.ClassFile.FieldType.int)]
set_option maxRecDepth 65536 in
theorem codes_eq : words1.filter isCode = codes1 := rfl
theorem w_codes : ∀ c ∈ words1.filter isCode, c.before args0 about1 = true := by
  rw [codes_eq]
  intro c hc
  simp only [codes1, List.mem_cons, List.not_mem_nil, or_false] at hc
  rcases hc with rfl | rfl | rfl | rfl | rfl | rfl | rfl | rfl | rfl | rfl
  · exact w_c0
  · exact w_c1
  · exact w_c2
  · exact w_c3
  · exact w_c4
  · exact w_c5
  · exact w_c6
  · exact w_c7
  · exact w_c8
  · exact w_c9
set_option maxRecDepth 65536 in
theorem w_t1 : (words1.take 24).all (fun c => isCode c || c.before args0 about1) = true := by decide +kernel
set_option maxRecDepth 65536 in
theorem w_t2 : ((words1.drop 24).take 24).all (fun c => isCode c || c.before args0 about1) = true := by decide +kernel
set_option maxRecDepth 65536 in
theorem w_t3 : ((words1.drop 24).drop 24).all (fun c => isCode c || c.before args0 about1) = true := by decide +kernel
theorem w_tables : (allAtoms (Jvm.Cond.code x code maxLocals ret :: tables_1)).before args0 about1 = true := by
  rw [allAtoms_all]
  show words1.all (fun c => c.before args0 about1) = true
  refine all_split ?_ w_codes
  rw [← List.take_append_drop 24 words1, List.all_append, w_t1, ← List.take_append_drop 24 (words1.drop 24), List.all_append, w_t2, w_t3]
  rfl
set_option maxRecDepth 65536 in
theorem w_case : (Jvm.Cond.and given_1 narrow_1).before args0 about1 = true := by decide +kernel
theorem w_applies : (headSpec (Jvm.Cond.code x code maxLocals ret :: tables_1) room_1).applies x e0.platform about1 = true :=
  (Spec.applies_iff w_frames).mpr ⟨w_running, w_runnable, w_alone, w_named, w_hears, w_ripe, w_room, w_tables⟩
theorem atStart : AtStart classFile x code maxLocals ret World_1 tables_1 room_1 Calls_1 rest_1 Pre_1 launch0 p0 e0 about1 theMethod args0 below0 :=
  ⟨lists_1, trivial, launch0.admits_env _ _ _, launch0.least_env, fairChoices_fair.cas, fairChoices_fair.clock, w_frames, w_args, w_heap, w_applies, trivial, trivial, w_case⟩
end start1
theorem witness_1 : WitnessClaimed_1 := ⟨start1.p0, start1.e0, start1.about1, start1.theMethod, start1.args0, start1.below0, start1.atStart⟩
end Jvm.Pilot.@@N@@
