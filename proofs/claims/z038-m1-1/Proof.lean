import JvmDerived
import JvmDerived.Pilot.@@N@@Statement
import JvmDerived.Pilot.@@N@@Code
set_option linter.unusedVariables false
set_option linter.unusedSimpArgs false
namespace Jvm.RoadKit
open Sem ClassFile Op Lib Jvm.Stand Jvm.Free Jvm.LawKit
section New
variable {p : Program} {l : Launch} {e : Env} {R : Room} {s : State} {m : MethodId} {args : Array Value} {below : List Frame} {meth : Method} {c : Code} {T : State} {locs : List Loc} {cells slots : Nat}
theorem retI (X : Stand p l e R s m args below meth c T locs cells slots) (hx : p.tables.exec = Jvm.exec) {pc : Nat} {Ls : Array Slot} {z : Int32} {rest : List Value} (hret : meth.sig.returnType = some .int) (hd : decode c.code pc = .ok (.ireturn, 1)) {fs : List Frame}
    (hl : ∀ (f : JFrame) (acts : List Action), f.method = m → f.locked = none → f.entered = [] → (doReturn e (T.setTop f) acts (some (.int z))).1 = T.setFrames fs) : Steps p.tables e below (T.setTop (mkF m pc Ls (.int z :: rest))) (T.setFrames fs) := by
  have hm' : T.vm.method? m = some meth := X.method'
  have hn : narrow .int (.int z) = .int z := rfl
  show Steps p.tables e below (T.setTop { method := m, pc := pc, locals := Ls, stack := _ :: rest, locked := none }) _
  jvm_step X.here [X.here.top, hx, hd, hm', hret, hn]
  first | (intro acts; rw [hl _ acts rfl rfl rfl]) | rw [hl _ _ rfl rfl rfl]
  exact Steps.refl _
end New
end Jvm.RoadKit
namespace Jvm.Pilot.@@N@@
open Jvm Jvm.ClassFile Sem Op Lib Jvm.Free Jvm.Stand Jvm.LawKit Jvm.RoadKit Bundle Jvm.Pilot.@@N@@.Jvm.D
def own_G (tb : Tables) (e : Env) (below : List Frame) (P : State → Outcome → Prop) (st : State) : Prop := ∃ t o, Steps tb e below st t ∧ P t o
theorem own_go {tb : Tables} {e : Env} {below : List Frame} {P : State → Outcome → Prop} {st st' : State} (k : ∀ target, Steps tb e below st' target → Steps tb e below st target) (h : own_G tb e below P st') : own_G tb e below P st := by
  obtain ⟨t, o, h1, h2⟩ := h; exact ⟨t, o, k t h1, h2⟩
theorem own_tr {tb : Tables} {e : Env} {below : List Frame} {P : State → Outcome → Prop} {st st' : State} (k : Steps tb e below st st') (h : own_G tb e below P st') : own_G tb e below P st := by
  obtain ⟨t, o, h1, h2⟩ := h; exact ⟨t, o, k.trans h1, h2⟩
def own_E (below : List Frame) (s : State) (k n : Nat) (Q : Option Value → Heap → List Loc → Prop) (t : State) (o : Outcome) : Prop := t.status = .running ∧ Ended t below o ∧ ∃ v L, o = .returned v ∧ Q v t.heap L ∧ FrameEnd s o t L k n
section OwnRet
variable {p : Program} {l : Launch} {e : Env} {R : Room} {s : State} {m : MethodId} {args : Array Value} {below : List Frame} {meth : Method} {c : Code} {T : State} {locs : List Loc} {cells slots : Nat}
theorem own_retI (X : Stand p l e R s m args below meth c T locs cells slots) (hx : p.tables.exec = Jvm.exec) {pc : Nat} {Ls : Array Slot} {z : Int32} {rest : List Value} (hret : meth.sig.returnType = some .int) (hlk : meth.locks = false) (hd : decode c.code pc = .ok (.ireturn, 1)) {Q : Option Value → Heap → List Loc → Prop} {k n : Nat} (hk : cells ≤ k) (hn : slots ≤ n) {h : Heap} (eT : T.heap = h) (hQ : Q (some (.int z)) h locs) : own_G p.tables e below (own_E below s k n Q) (T.setTop (mkF m pc Ls (.int z :: rest))) := by
  obtain ⟨fs, hr, hrun, hended, hW, hsame⟩ := X.leave (v := some (.int z)) (fun h => by rw [hret] at h; cases h) hlk
  subst eT
  exact ⟨_, _, retI X hx hret hd hr, hrun, hended, _, _, rfl, hQ, ⟨_, rfl⟩, hW, hsame.mono hk hn⟩
theorem own_retN (X : Stand p l e R s m args below meth c T locs cells slots) (hx : p.tables.exec = Jvm.exec) {pc : Nat} {Ls : Array Slot} {z : Int32} {t : FieldType} {rest : List Value} (hret : meth.sig.returnType = some t) (ht : t = .boolean ∨ t = .byte ∨ t = .char ∨ t = .short) (hlk : meth.locks = false) (hd : decode c.code pc = .ok (.ireturn, 1)) {Q : Option Value → Heap → List Loc → Prop} {k n : Nat} (hk : cells ≤ k) (hn : slots ≤ n) {h : Heap} (eT : T.heap = h) (hQ : Q (some (.int (nar t z))) h locs) : own_G p.tables e below (own_E below s k n Q) (T.setTop (mkF m pc Ls (.int z :: rest))) := by
  obtain ⟨fs, hr, hrun, hended, hW, hsame⟩ := X.leave (v := some (.int (nar t z))) (fun h => by rw [hret] at h; cases h) hlk
  subst eT
  exact ⟨_, _, retN X hx hret ht hd hr, hrun, hended, _, _, rfl, hQ, ⟨_, rfl⟩, hW, hsame.mono hk hn⟩
theorem own_retV (X : Stand p l e R s m args below meth c T locs cells slots) (hx : p.tables.exec = Jvm.exec) {pc : Nat} {Ls : Array Slot} (hret : meth.sig.returnType = none) (hlk : meth.locks = false) (hd : decode c.code pc = .ok (.return_, 1)) {Q : Option Value → Heap → List Loc → Prop} {k n : Nat} (hk : cells ≤ k) (hn : slots ≤ n) {h : Heap} (eT : T.heap = h) (hQ : Q none h locs) : own_G p.tables e below (own_E below s k n Q) (T.setTop (mkF m pc Ls [])) := by
  obtain ⟨fs, hr, hrun, hended, hW, hsame⟩ := X.leave (v := none) (fun _ => rfl) hlk
  subst eT
  exact ⟨_, _, X.returnOut hx hret hd hr, hrun, hended, _, _, rfl, hQ, ⟨_, rfl⟩, hW, hsame.mono hk hn⟩
theorem own_retJ (X : Stand p l e R s m args below meth c T locs cells slots) (hx : p.tables.exec = Jvm.exec) {pc : Nat} {Ls : Array Slot} {z : Int64} {rest : List Value} (hret : meth.sig.returnType = some .long) (hlk : meth.locks = false) (hd : decode c.code pc = .ok (.lreturn, 1)) {Q : Option Value → Heap → List Loc → Prop} {k n : Nat} (hk : cells ≤ k) (hn : slots ≤ n) {h : Heap} (eT : T.heap = h) (hQ : Q (some (.long z)) h locs) : own_G p.tables e below (own_E below s k n Q) (T.setTop (mkF m pc Ls (.long z :: rest))) := by
  obtain ⟨fs, hr, hrun, hended, hW, hsame⟩ := X.leave (v := some (.long z)) (fun h => by rw [hret] at h; cases h) hlk
  subst eT
  refine ⟨_, _, ?_, hrun, hended, _, _, rfl, hQ, ⟨_, rfl⟩, hW, hsame.mono hk hn⟩
  jvm_step X.here [X.here.top, hx, hd, X.method', hret, narrow]
  first | (intro acts; rw [hr _ acts rfl rfl rfl]) | rw [hr _ _ rfl rfl rfl]
  exact Steps.refl _
theorem own_retR (X : Stand p l e R s m args below meth c T locs cells slots) (hx : p.tables.exec = Jvm.exec) {pc : Nat} {Ls : Array Slot} {a : Addr} {ty : FieldType} {rest : List Value} (hret : meth.sig.returnType = some ty) (hty : ty.isReference = true) (hlk : meth.locks = false) (hd : decode c.code pc = .ok (.areturn, 1)) {Q : Option Value → Heap → List Loc → Prop} {k n : Nat} (hk : cells ≤ k) (hn : slots ≤ n) {h : Heap} (eT : T.heap = h) (hQ : Q (some (.ref a)) h locs) : own_G p.tables e below (own_E below s k n Q) (T.setTop (mkF m pc Ls (.ref a :: rest))) := by
  obtain ⟨fs, hr, hrun, hended, hW, hsame⟩ := X.leave (v := some (.ref a)) (fun h => by rw [hret] at h; cases h) hlk
  subst eT
  refine ⟨_, _, ?_, hrun, hended, _, _, rfl, hQ, ⟨_, rfl⟩, hW, hsame.mono hk hn⟩
  jvm_step X.here [X.here.top, hx, hd, X.method', hret, Value.isRef, hty]
  first | (intro acts; rw [hr _ acts rfl rfl rfl]) | rw [hr _ _ rfl rfl rfl]
  exact Steps.refl _
end OwnRet
theorem own_selfsel {s : State} {args : Array Value} {y y' : MethodName} (hs : (Cond.selects y.cls y' y').before args s = true) (hyc : y'.cls = y.cls) (hpriv : s.PrivateAt y) (hinst : (Cond.instanceMethod y).before args s = true) (hy : y.cls ≠ "java/lang/invoke/MethodHandle" ∧ y.cls ≠ "java/lang/invoke/VarHandle") : (Cond.selects y.cls y y).before args s = true := by
  obtain ⟨c, r, mm, h1, -, h3, -, mk, h5, h6⟩ := Cond.selects_spec hs
  have h7 := findClass_of_methodNamed h3
  rw [hyc] at h7
  exact selects_self_of_private h7 h5 h6 hpriv hinst hy
theorem own_irem (x y : Int32) : x - (x / y) * y = x % y := by
  have h1 := rng32 (x % y)
  apply Int32.toInt_inj.mp
  rw [Int32.toInt_mod] at h1 ⊢
  rw [Int32.toInt_sub, Int32.toInt_mul, Int32.toInt_div, Int.bmod_mul_bmod, Int.sub_bmod_bmod, show x.toInt - x.toInt.tdiv y.toInt * y.toInt = x.toInt.tmod y.toInt from by rw [Int.tmod_def, Int.mul_comm]]
  exact Int.bmod_eq_of_le_mul_two (by omega) (by omega)
def own_A (Z : State) (h : Heap) (a : Addr) (ty : FieldType) (N : Nat) (f : Nat → Value) : Prop := ∃ c : Cell, Arr Z h a c ty ∧ c.slots.size = N ∧ ∀ j, j < N → c.slots[j]? = some (f j)
def own_upd (f : Nat → Value) (i : Nat) (v : Value) : Nat → Value := fun j => if j = i then v else f j
theorem own_upd_same (f : Nat → Value) (i : Nat) (v : Value) : own_upd f i v i = v := if_pos rfl
theorem own_upd_ne (f : Nat → Value) {i j : Nat} (v : Value) (h : j ≠ i) : own_upd f i v j = f j := if_neg h
theorem own_A.lt {Z : State} {h : Heap} {a : Addr} {ty : FieldType} {N : Nat} {f : Nat → Value} (F : own_A Z h a ty N f) : a < h.size := by obtain ⟨c, A, -⟩ := F; exact A.lt
theorem own_A.ext {Z : State} {h h' : Heap} {a : Addr} {ty : FieldType} {N : Nat} {f : Nat → Value} (F : own_A Z h a ty N f) (E : Ext h h') : own_A Z h' a ty N f := by obtain ⟨c, A, r⟩ := F; exact ⟨c, A.ext E, r⟩
theorem own_A.other {Z : State} {h h' : Heap} {a b : Addr} {sl : Nat} {v : Value} {ty : FieldType} {N : Nat} {f : Nat → Value} (F : own_A Z h b ty N f) (W : Wr h h' a sl v) (q : b ≠ a) : own_A Z h' b ty N f := by obtain ⟨c, A, r⟩ := F; exact ⟨c, A.other W q, r⟩
theorem own_A.keep {Z : State} {h h' : Heap} {a : Addr} {ws : List Addr} {ty : FieldType} {N : Nat} {f : Nat → Value} (F : own_A Z h a ty N f) (K : Keep h h' ws) (q : a ∉ ws) : own_A Z h' a ty N f := by obtain ⟨c, A, r⟩ := F; exact ⟨c, ⟨K.2.1 a c A.1 q, A.2⟩, r⟩
theorem own_A.new {Z : State} {h : Heap} {a : Addr} {k : ClassId} {ty : FieldType} {z : Int32} {N : Nat} (A : Arr Z h a (newA k ty z) ty) (q : z.toNatClampNeg = N) : own_A Z h a ty N (fun _ => defaultValue ty) :=
  ⟨_, A, (sz_new _ _ _).trans q, fun j hj => by rw [← q] at hj; simp [newA, hj]⟩
theorem own_A.set {Z : State} {h h' : Heap} {a : Addr} {ty : FieldType} {N : Nat} {f : Nat → Value} (F : own_A Z h a ty N f) {i : Nat} {v : Value} (W : Wr h h' a i v) : own_A Z h' a ty N (own_upd f i v) := by
  obtain ⟨c, A, S, H⟩ := F
  refine ⟨_, A.same W, by rw [sz_set]; exact S, fun j hj => ?_⟩
  by_cases u : j = i
  · subst u
    rw [own_upd_same]
    simp only [Cell.setSlot]
    exact Array.getElem?_setIfInBounds_self_of_lt (by rw [S]; exact hj)
  · rw [own_upd_ne _ _ u]
    simp only [Cell.setSlot]
    rw [Array.getElem?_setIfInBounds_ne (fun q => u q.symm)]
    exact H j hj
theorem own_A.congr {Z : State} {h : Heap} {a : Addr} {ty : FieldType} {N : Nat} {f g : Nat → Value} (F : own_A Z h a ty N f) (q : ∀ j, j < N → f j = g j) : own_A Z h a ty N g := by
  obtain ⟨c, A, S, H⟩ := F; exact ⟨c, A, S, fun j hj => by rw [← q j hj]; exact H j hj⟩
theorem own_inb {c : Cell} {N : Nat} {j : Int32} (S : c.slots.size = N) (h0 : 0 ≤ j.toInt) (h1 : j.toInt < (N : Int)) : ¬ (j < 0 ∨ c.slots.size ≤ j.toNatClampNeg) := by
  rw [S]
  have e0 : (0 : Int32).toInt = 0 := rfl
  simp only [Int32.lt_iff_toInt_lt, Int32.toNatClampNeg, e0]; omega
theorem own_stI {p : Program} {l : Launch} {e : Env} {R : Room} {s : State} {m : MethodId} {args : Array Value} {below : List Frame} {meth : Method} {c : Code} {T : State} {locs : List Loc} {cells slots : Nat} {Z : State} {h : Heap}
    (X : Stand p l e R s m args below meth c T locs cells slots) (hx : p.tables.exec = Jvm.exec) (hZ : Z.Warmed39 s.vm) (eT : T.heap = h) {a : Addr} {N : Nat} {f : Nat → Value} (A : own_A Z h a .int N f) {j : Int32} {x : Int32} (h0 : 0 ≤ j.toInt) (h1 : j.toInt < (N : Int)) {g : JFrame} (hg : g.method = m) {rest : List Value} (hs : g.stack = .int x :: .int j :: .ref a :: rest) (hd : decode c.code g.pc = .ok (.iastore, 1)) :
    ∃ T' h', Stand p l e R s m args below meth c T' (locs ++ [⟨a, j.toNatClampNeg⟩]) cells slots ∧ T'.heap = h' ∧ Wr h h' a j.toNatClampNeg (.int x) ∧ own_A Z h' a .int N (own_upd f j.toNatClampNeg (.int x)) ∧ ∀ target, Steps p.tables e below (T'.setTop { g with pc := g.pc + 1, stack := rest }) target → Steps p.tables e below (T.setTop g) target := by
  obtain ⟨cl, Ar, S, H⟩ := A
  obtain ⟨T', h', X', e', W, st⟩ := stI X hx hZ eT Ar (own_inb S h0 h1) hg hs hd
  exact ⟨T', h', X', e', W, own_A.set ⟨cl, Ar, S, H⟩ W, st⟩
theorem own_ldI {p : Program} {l : Launch} {e : Env} {R : Room} {s : State} {m : MethodId} {args : Array Value} {below : List Frame} {meth : Method} {c : Code} {T : State} {locs : List Loc} {cells slots : Nat} {Z : State} {h : Heap}
    (X : Stand p l e R s m args below meth c T locs cells slots) (hx : p.tables.exec = Jvm.exec) (hZ : Z.Warmed39 s.vm) (eT : T.heap = h) {a : Addr} {N : Nat} {f : Nat → Value} (A : own_A Z h a .int N f) {j : Int32} {v : Value} (h0 : 0 ≤ j.toInt) (h1 : j.toInt < (N : Int)) (hv : f j.toNatClampNeg = v) {g : JFrame} (hg : g.method = m) {rest : List Value} (hs : g.stack = .int j :: .ref a :: rest) (hd : decode c.code g.pc = .ok (.iaload, 1)) :
    ∀ target, Steps p.tables e below (T.setTop { g with pc := g.pc + 1, stack := v :: rest }) target → Steps p.tables e below (T.setTop g) target := by
  obtain ⟨cl, Ar, S, H⟩ := A
  have hN : j.toNatClampNeg < N := by simp only [Int32.toNatClampNeg]; omega
  exact X.iaload hx (by rw [eT]; exact Ar.1) (State.isArrayOf_alike hZ.alike Ar.2.1) Ar.2.2 (own_inb S h0 h1) (hv ▸ H _ hN) hg hs hd
theorem own_stJ {p : Program} {l : Launch} {e : Env} {R : Room} {s : State} {m : MethodId} {args : Array Value} {below : List Frame} {meth : Method} {c : Code} {T : State} {locs : List Loc} {cells slots : Nat} {Z : State} {h : Heap}
    (X : Stand p l e R s m args below meth c T locs cells slots) (hx : p.tables.exec = Jvm.exec) (hZ : Z.Warmed39 s.vm) (eT : T.heap = h) {a : Addr} {N : Nat} {f : Nat → Value} (A : own_A Z h a .long N f) {j : Int32} {x : Int64} (h0 : 0 ≤ j.toInt) (h1 : j.toInt < (N : Int)) {g : JFrame} (hg : g.method = m) {rest : List Value} (hs : g.stack = .long x :: .int j :: .ref a :: rest) (hd : decode c.code g.pc = .ok (.lastore, 1)) :
    ∃ T' h', Stand p l e R s m args below meth c T' (locs ++ [⟨a, j.toNatClampNeg⟩]) cells slots ∧ T'.heap = h' ∧ Wr h h' a j.toNatClampNeg (.long x) ∧ own_A Z h' a .long N (own_upd f j.toNatClampNeg (.long x)) ∧ ∀ target, Steps p.tables e below (T'.setTop { g with pc := g.pc + 1, stack := rest }) target → Steps p.tables e below (T.setTop g) target := by
  obtain ⟨cl, Ar, S, H⟩ := A
  obtain ⟨T', h', X', e', W, st⟩ := stJ X hx hZ eT Ar (own_inb S h0 h1) hg hs hd
  exact ⟨T', h', X', e', W, own_A.set ⟨cl, Ar, S, H⟩ W, st⟩
theorem own_ldJ {p : Program} {l : Launch} {e : Env} {R : Room} {s : State} {m : MethodId} {args : Array Value} {below : List Frame} {meth : Method} {c : Code} {T : State} {locs : List Loc} {cells slots : Nat} {Z : State} {h : Heap}
    (X : Stand p l e R s m args below meth c T locs cells slots) (hx : p.tables.exec = Jvm.exec) (hZ : Z.Warmed39 s.vm) (eT : T.heap = h) {a : Addr} {N : Nat} {f : Nat → Value} (A : own_A Z h a .long N f) {j : Int32} {v : Value} (h0 : 0 ≤ j.toInt) (h1 : j.toInt < (N : Int)) (hv : f j.toNatClampNeg = v) {g : JFrame} (hg : g.method = m) {rest : List Value} (hs : g.stack = .int j :: .ref a :: rest) (hd : decode c.code g.pc = .ok (.laload, 1)) :
    ∀ target, Steps p.tables e below (T.setTop { g with pc := g.pc + 1, stack := v :: rest }) target → Steps p.tables e below (T.setTop g) target := by
  obtain ⟨cl, Ar, S, H⟩ := A
  have hN : j.toNatClampNeg < N := by simp only [Int32.toNatClampNeg]; omega
  exact X.laload hx (by rw [eT]; exact Ar.1) (State.isArrayOf_alike hZ.alike Ar.2.1) Ar.2.2 (own_inb S h0 h1) (hv ▸ H _ hN) hg hs hd
theorem own_ldB {p : Program} {l : Launch} {e : Env} {R : Room} {s : State} {m : MethodId} {args : Array Value} {below : List Frame} {meth : Method} {c : Code} {T : State} {locs : List Loc} {cells slots : Nat} {Z : State} {h : Heap}
    (X : Stand p l e R s m args below meth c T locs cells slots) (hx : p.tables.exec = Jvm.exec) (hZ : Z.Warmed39 s.vm) (eT : T.heap = h) {a : Addr} {N : Nat} {f : Nat → Value} (A : own_A Z h a .byte N f) {j : Int32} {v : Value} (h0 : 0 ≤ j.toInt) (h1 : j.toInt < (N : Int)) (hv : f j.toNatClampNeg = v) {g : JFrame} (hg : g.method = m) {rest : List Value} (hs : g.stack = .int j :: .ref a :: rest) (hd : decode c.code g.pc = .ok (.baload, 1)) :
    ∀ target, Steps p.tables e below (T.setTop { g with pc := g.pc + 1, stack := v :: rest }) target → Steps p.tables e below (T.setTop g) target := by
  obtain ⟨cl, Ar, S, H⟩ := A
  have hN : j.toNatClampNeg < N := by simp only [Int32.toNatClampNeg]; omega
  exact X.baloadBytes hx (by rw [eT]; exact Ar.1) (State.isArrayOf_alike hZ.alike Ar.2.1) Ar.2.2 (own_inb S h0 h1) (hv ▸ H _ hN) hg hs hd
theorem own_len {p : Program} {l : Launch} {e : Env} {R : Room} {s : State} {m : MethodId} {args : Array Value} {below : List Frame} {meth : Method} {c : Code} {T : State} {locs : List Loc} {cells slots : Nat} {Z : State} {h : Heap}
    (X : Stand p l e R s m args below meth c T locs cells slots) (hx : p.tables.exec = Jvm.exec) (hZ : Z.Warmed39 s.vm) (eT : T.heap = h) {a : Addr} {ty : FieldType} {N : Nat} {f : Nat → Value} (A : own_A Z h a ty N f) {z : Int32} (hz : N.toInt32 = z) {g : JFrame} (hg : g.method = m) {rest : List Value} (hs : g.stack = .ref a :: rest) (hd : decode c.code g.pc = .ok (.arraylength, 1)) :
    ∀ target, Steps p.tables e below (T.setTop { g with pc := g.pc + 1, stack := .int z :: rest }) target → Steps p.tables e below (T.setTop g) target := by
  obtain ⟨cl, Ar, S, H⟩ := A
  subst S hz
  exact X.arraylength hx (by rw [eT]; exact Ar.1) (State.isArrayOf_alike hZ.alike Ar.2.1) hg hs hd
theorem own_ll {x y : Int64} : lcmpW x y < 0 ↔ x.toInt < y.toInt := by rw [lw_lt, Int64.lt_iff_toInt_lt]
theorem own_lg {x y : Int64} : 0 < lcmpW x y ↔ y.toInt < x.toInt := by rw [lw_gt, Int64.lt_iff_toInt_lt]
theorem own_lq {x y : Int64} : lcmpW x y = 0 ↔ x = y := lw_eq x y
theorem own_nll {x y : Int64} (h : ¬ lcmpW x y < 0) : ¬ x.toInt < y.toInt := fun z => h (own_ll.mpr z)
theorem own_nlg {x y : Int64} (h : ¬ 0 < lcmpW x y) : ¬ y.toInt < x.toInt := fun z => h (own_lg.mpr z)
def own_EW (below : List Frame) (s : State) (k n : Nat) (Q : Option Value → Heap → List Loc → Prop) (t : State) (o : Outcome) : Prop := t.status = .running ∧ Ended t below o ∧ ∃ v L, o = .returned v ∧ Q v t.heap L ∧ ReturnedEndW s o t L k n
section OwnRetW
variable {p : Program} {l : Launch} {e : Env} {R : Room} {s : State} {vm₁ : Vm} {m : MethodId} {args : Array Value} {below : List Frame} {meth : Method} {c : Code} {T : State} {locs : List Loc} {cells slots : Nat}
theorem own_retVW (X : Stand p l e R (s.setVm vm₁) m args below meth c T locs cells slots) (hx : p.tables.exec = Jvm.exec) {pc : Nat} {Ls : Array Slot} (hret : meth.sig.returnType = none) (hlk : meth.locks = false) (hd : decode c.code pc = .ok (.return_, 1)) {Q : Option Value → Heap → List Loc → Prop} {n₁ : Nat} (hS : s.Since vm₁ n₁) {h : Heap} (hn₁ : n₁ ≤ h.size) {k n : Nat} (hk : cells ≤ k) (hn : slots ≤ n) (eT : T.heap = h) (hQ : Q none h locs) : own_G p.tables e below (own_EW below s k n Q) (T.setTop (mkF m pc Ls [])) := by
  subst eT
  obtain ⟨fs, hr, hrun, hended, hE⟩ := X.leaveW hS hn₁ (v := none) (fun _ => rfl) hlk
  exact ⟨_, _, X.returnOut hx hret hd hr, hrun, hended, _, _, rfl, hQ, hE.1, hE.2.1, hE.2.2.1, hE.2.2.2.mono hk hn⟩
theorem own_retNW (X : Stand p l e R (s.setVm vm₁) m args below meth c T locs cells slots) (hx : p.tables.exec = Jvm.exec) {pc : Nat} {Ls : Array Slot} {z : Int32} {t : FieldType} {rest : List Value} (hret : meth.sig.returnType = some t) (ht : t = .boolean ∨ t = .byte ∨ t = .char ∨ t = .short) (hlk : meth.locks = false) (hd : decode c.code pc = .ok (.ireturn, 1)) {Q : Option Value → Heap → List Loc → Prop} {n₁ : Nat} (hS : s.Since vm₁ n₁) {h : Heap} (hn₁ : n₁ ≤ h.size) {k n : Nat} (hk : cells ≤ k) (hn : slots ≤ n) (eT : T.heap = h) (hQ : Q (some (.int (nar t z))) h locs) : own_G p.tables e below (own_EW below s k n Q) (T.setTop (mkF m pc Ls (.int z :: rest))) := by
  subst eT
  obtain ⟨fs, hr, hrun, hended, hE⟩ := X.leaveW hS hn₁ (v := some (.int (nar t z))) (fun h => by rw [hret] at h; cases h) hlk
  exact ⟨_, _, retN X hx hret ht hd hr, hrun, hended, _, _, rfl, hQ, hE.1, hE.2.1, hE.2.2.1, hE.2.2.2.mono hk hn⟩
end OwnRetW
theorem own_sA {Z : State} {a0 : Array Value} (hw : ∀ d ∈ tables_1, d.before a0 Z = true) : ∀ a ∈ Bundle.stringAtoms, a.before a0 Z = true := by
  intro a ha
  simp only [Bundle.stringAtoms, List.mem_cons, List.not_mem_nil, or_false] at ha
  rcases ha with rfl | rfl | rfl | rfl | rfl | rfl | rfl
  · exact hw _ (List.mem_of_getElem? (i := 22) rfl)
  · exact hw _ (List.mem_of_getElem? (i := 23) rfl)
  · exact hw _ (List.mem_of_getElem? (i := 24) rfl)
  · exact hw _ (List.mem_of_getElem? (i := 25) rfl)
  · exact hw _ (List.mem_of_getElem? (i := 26) rfl)
  · exact hw _ (List.mem_of_getElem? (i := 27) rfl)
  · exact hw _ (List.mem_of_getElem? (i := 28) rfl)
/-- a comparison: its number, its symbol, the symbol's bytes -/
def own_C (Z : State) (h : Heap) (c s v : Addr) (i : Int32) (n : Nat) (f : Nat → Value) : Prop :=
  Exa Z h c "com/example/gather_fields/gatherfields/design/Comparison" ∧ Fld Z h c "java/lang/Enum" "ordinal" "I" (.int i) ∧ Fld Z h c "com/example/gather_fields/gatherfields/design/Comparison" "symbol" "Ljava/lang/String;" (.ref s) ∧ Exa Z h s "java/lang/String" ∧ Fld Z h s "java/lang/String" "coder" "B" (.int (0 : Int32)) ∧ Fld Z h s "java/lang/String" "value" "[B" (.ref v) ∧ own_A Z h v .byte n f
theorem own_C.ext {Z : State} {h h' : Heap} {c s v : Addr} {i : Int32} {n : Nat} {f : Nat → Value} (C : own_C Z h c s v i n f) (E : Ext h h') : own_C Z h' c s v i n f := by
  obtain ⟨h1, h2, h3, h4, h5, h6, h7⟩ := C
  exact ⟨h1.ext E, h2.ext E, h3.ext E, h4.ext E, h5.ext E, h6.ext E, h7.ext E⟩
theorem own_uniq {Z : State} {h : Heap} {a : Addr} {C n d : String} {v w : Value} (F : Fld Z h a C n d v) (G : Fld Z h a C n d w) : v = w := Classical.byContradiction fun q => F.ne G q rfl
theorem own_A.uniq {Z : State} {h : Heap} {a : Addr} {ty : FieldType} {n m : Nat} {f g : Nat → Value} (A : own_A Z h a ty n f) (B : own_A Z h a ty m g) : n = m ∧ ∀ j, j < n → f j = g j := by
  obtain ⟨c, A1, A2, A3⟩ := A
  obtain ⟨d, B1, B2, B3⟩ := B
  cases A1.1.symm.trans B1.1
  subst A2
  refine ⟨B2, fun j hj => ?_⟩
  have q1 := A3 j hj
  have q2 := B3 j (B2 ▸ hj)
  exact Option.some.inj (q1.symm.trans q2)
def own_l (l : List Int32) (j : Nat) : Value := .int (l.getD j 0)
theorem own_ofV {Z : State} {h : Heap} {b : Addr} {k : ClassId} (V : Arv Z h b k .byte (1 : Int32) [.int (61 : Int32)] (.int 0)) : own_A Z h b .byte 1 (own_l [61]) := by
  obtain ⟨c, A, -, S, -, H, -⟩ := V
  refine ⟨c, A, S, fun j hj => ?_⟩
  have e : j = 0 := by omega
  subst e
  exact H 0 (by rw [S]; decide)
theorem d1_0 : decode method_2_code 0 = .ok (.iload_n 0, 1) := by decide +kernel
theorem d1_1 : decode method_2_code 1 = .ok (.ifCond .ne 7, 3) := by decide +kernel
theorem d1_4 : decode method_2_code 4 = .ok (.getstatic 7, 3) := by decide +kernel
theorem d1_7 : decode method_2_code 7 = .ok (.areturn, 1) := by decide +kernel
theorem pn_com_example_gather_fields_gatherfields_design_ComparisonIsEqualityPinLaw : plainName "com/example/gather_fields/gatherfields/design/ComparisonIsEqualityPinLaw" = true := by first | (simp [plainName, overriddenIn]; done) | decide +kernel
theorem ef_pick0 (m : MethodId) (p0 : Int32) : entryFrame m #[(.int p0)] 1 = mkF m 0 #[.val (.int p0)] [] := by first | (simp [entryFrame, mkF, argsToLocals, Value.category]; done) | rfl
def Q_pick0 (Z : State) (p0 : Int32) (c : Addr) (h0 : Heap) (n0 : Nat) (v : Option Value) (h : Heap) (L : List Loc) : Prop := v = some (.ref c) ∧ Fr n0 L ∧ h = h0
set_option maxRecDepth 65536 in
set_option maxHeartbeats 40000000 in
theorem rm_pick0 (l : Launch) (Z : State) (a0 : Array Value) (hw : ∀ d ∈ tables_1, d.before a0 Z = true) (ws : List Jvm.Cond) (p0 : Int32) (c : Addr) (h0 : Heap) (n0 : Nat) (Z0 : n0 ≤ h0.size) (hp : (0 : Int32) = p0) (S0 : Sta Z h0 "com/example/gather_fields/gatherfields/design/Comparison" "EQUAL" "Lcom/example/gather_fields/gatherfields/design/Comparison;" (.ref c)) :
    MetFree l (⟨"com/example/gather_fields/gatherfields/design/ComparisonIsEqualityPinLaw", "pick", "(I)Lcom/example/gather_fields/gatherfields/design/Comparison;"⟩ : MethodName) (head1 (Jvm.Cond.code (⟨"com/example/gather_fields/gatherfields/design/ComparisonIsEqualityPinLaw", "pick", "(I)Lcom/example/gather_fields/gatherfields/design/Comparison;"⟩ : MethodName) method_2_code 1 (some (.object "com/example/gather_fields/gatherfields/design/Comparison")) :: ws) ({ frames := 0, cells := 0, slots := 0, locals := 0 } : Room)) (fun a U => a = #[(.int p0)] ∧ Z.Warmed39 U.vm ∧ U.heap = h0) (fun _ _ _ _ _ => True) (fun _ U o U' => ∃ v L, o = .returned v ∧ Q_pick0 Z p0 c h0 n0 v U'.heap L ∧ FrameEnd U o U' L ({ frames := 0, cells := 0, slots := 0, locals := 0 } : Room).cells ({ frames := 0, cells := 0, slots := 0, locals := 0 } : Room).slots) := by
  refine MetFree.of_bodySF (plainFor_of_name pn_com_example_gather_fields_gatherfields_design_ComparisonIsEqualityPinLaw) hisR ?_
  intro p e s m args below meth kc s₁ Bd hml0 hP hK
  obtain ⟨rfl, hZ, hh⟩ := hP
  have hx := Bd.exec
  have hby := Bd.bytes
  have hlk := Bd.notSynchronized
  have hml : kc.maxLocals = 1 := hml0
  have hown : s.vm.findClass "com/example/gather_fields/gatherfields/design/ComparisonIsEqualityPinLaw" = some m.cls := findClass_of_methodNamed Bd.named
  have hnm := (name_of_methodNamed Bd.named Bd.method).1
  have X0 : Stand p l e ({ frames := 0, cells := 0, slots := 0, locals := 0 } : Room) s m #[(.int p0)] below meth kc s₁ [] 0 0 := Stand.of_body Bd
  have e0 : s₁.heap = h0 := by rw [← hh, Bd.state]; rfl
  have N0 := Fr.nil n0
  show own_G p.tables e below (own_E below s ({ frames := 0, cells := 0, slots := 0, locals := 0 } : Room).cells ({ frames := 0, cells := 0, slots := 0, locals := 0 } : Room).slots (Q_pick0 Z p0 c h0 n0)) _
  refine own_go (fun _ k => castTop (ef_pick0 m p0) k) ?_
  subst hp
  show own_G p.tables e below _ (s₁.setTop (mkF m 0 #[.val (.int (0 : Int32))] []))
  refine own_go (fun _ kt => XS.iloadN X0.here hx rfl (hb hby d1_0) rfl kt) ?_
  show own_G p.tables e below _ (s₁.setTop (mkF m 1 #[.val (.int (0 : Int32))] [(.int (0 : Int32))]))
  refine own_go (fun _ kt => XS.ifNo X0.here hx rfl (hb hby d1_1) rfl ((if0 _ _).trans (teq (rfl : (0 : Int32) = (0 : Int32))).2) kt) ?_
  show own_G p.tables e below _ (s₁.setTop (mkF m 4 #[.val (.int (0 : Int32))] []))
  obtain ⟨T1, X1, e1, st1⟩ := getS2 X0 hx hZ hown (host := "") (Or.inl (hw _ (List.mem_of_getElem? (i := 5) rfl))) Via.refl e0 S0 (g := (mkF m 4 #[.val (.int (0 : Int32))] [])) rfl (hb hby d1_4)
  refine own_go st1 ?_
  show own_G p.tables e below _ (T1.setTop (mkF m 7 #[.val (.int (0 : Int32))] [(.ref c)]))
  exact own_retR X1 hx Bd.returns rfl hlk (hb hby d1_7) (Nat.le_of_ble_eq_true rfl) (Nat.le_of_ble_eq_true rfl) e1 ⟨rfl, N0, rfl⟩
theorem d1_8 : decode method_2_code 8 = .ok (.iload_n 0, 1) := by decide +kernel
theorem d1_9 : decode method_2_code 9 = .ok (.iconst 1, 1) := by decide +kernel
theorem d1_10 : decode method_2_code 10 = .ok (.if_icmp .ne 7, 3) := by decide +kernel
theorem d1_13 : decode method_2_code 13 = .ok (.getstatic 13, 3) := by decide +kernel
theorem d1_16 : decode method_2_code 16 = .ok (.areturn, 1) := by decide +kernel
theorem ef_pick1 (m : MethodId) (p0 : Int32) : entryFrame m #[(.int p0)] 1 = mkF m 0 #[.val (.int p0)] [] := by first | (simp [entryFrame, mkF, argsToLocals, Value.category]; done) | rfl
def Q_pick1 (Z : State) (p0 : Int32) (c : Addr) (h0 : Heap) (n0 : Nat) (v : Option Value) (h : Heap) (L : List Loc) : Prop := v = some (.ref c) ∧ Fr n0 L ∧ h = h0
set_option maxRecDepth 65536 in
set_option maxHeartbeats 40000000 in
theorem rm_pick1 (l : Launch) (Z : State) (a0 : Array Value) (hw : ∀ d ∈ tables_1, d.before a0 Z = true) (ws : List Jvm.Cond) (p0 : Int32) (c : Addr) (h0 : Heap) (n0 : Nat) (Z0 : n0 ≤ h0.size) (hp : (1 : Int32) = p0) (S0 : Sta Z h0 "com/example/gather_fields/gatherfields/design/Comparison" "LESS" "Lcom/example/gather_fields/gatherfields/design/Comparison;" (.ref c)) :
    MetFree l (⟨"com/example/gather_fields/gatherfields/design/ComparisonIsEqualityPinLaw", "pick", "(I)Lcom/example/gather_fields/gatherfields/design/Comparison;"⟩ : MethodName) (head1 (Jvm.Cond.code (⟨"com/example/gather_fields/gatherfields/design/ComparisonIsEqualityPinLaw", "pick", "(I)Lcom/example/gather_fields/gatherfields/design/Comparison;"⟩ : MethodName) method_2_code 1 (some (.object "com/example/gather_fields/gatherfields/design/Comparison")) :: ws) ({ frames := 0, cells := 0, slots := 0, locals := 0 } : Room)) (fun a U => a = #[(.int p0)] ∧ Z.Warmed39 U.vm ∧ U.heap = h0) (fun _ _ _ _ _ => True) (fun _ U o U' => ∃ v L, o = .returned v ∧ Q_pick1 Z p0 c h0 n0 v U'.heap L ∧ FrameEnd U o U' L ({ frames := 0, cells := 0, slots := 0, locals := 0 } : Room).cells ({ frames := 0, cells := 0, slots := 0, locals := 0 } : Room).slots) := by
  refine MetFree.of_bodySF (plainFor_of_name pn_com_example_gather_fields_gatherfields_design_ComparisonIsEqualityPinLaw) hisR ?_
  intro p e s m args below meth kc s₁ Bd hml0 hP hK
  obtain ⟨rfl, hZ, hh⟩ := hP
  have hx := Bd.exec
  have hby := Bd.bytes
  have hlk := Bd.notSynchronized
  have hml : kc.maxLocals = 1 := hml0
  have hown : s.vm.findClass "com/example/gather_fields/gatherfields/design/ComparisonIsEqualityPinLaw" = some m.cls := findClass_of_methodNamed Bd.named
  have hnm := (name_of_methodNamed Bd.named Bd.method).1
  have X0 : Stand p l e ({ frames := 0, cells := 0, slots := 0, locals := 0 } : Room) s m #[(.int p0)] below meth kc s₁ [] 0 0 := Stand.of_body Bd
  have e0 : s₁.heap = h0 := by rw [← hh, Bd.state]; rfl
  have N0 := Fr.nil n0
  show own_G p.tables e below (own_E below s ({ frames := 0, cells := 0, slots := 0, locals := 0 } : Room).cells ({ frames := 0, cells := 0, slots := 0, locals := 0 } : Room).slots (Q_pick1 Z p0 c h0 n0)) _
  refine own_go (fun _ k => castTop (ef_pick1 m p0) k) ?_
  subst hp
  show own_G p.tables e below _ (s₁.setTop (mkF m 0 #[.val (.int (1 : Int32))] []))
  refine own_go (fun _ kt => XS.iloadN X0.here hx rfl (hb hby d1_0) rfl kt) ?_
  show own_G p.tables e below _ (s₁.setTop (mkF m 1 #[.val (.int (1 : Int32))] [(.int (1 : Int32))]))
  refine own_go (fun _ kt => XS.ifYes X0.here hx rfl (pc0 := 1) (pc' := 8) rfl (hb hby d1_1) rfl ((if0 _ _).trans (feq (by decide : ¬ ((1 : Int32) = (0 : Int32)))).2) (by decide) (by decide) kt) ?_
  show own_G p.tables e below _ (s₁.setTop (mkF m 8 #[.val (.int (1 : Int32))] []))
  refine own_go (fun _ kt => XS.iloadN X0.here hx rfl (hb hby d1_8) rfl kt) ?_
  show own_G p.tables e below _ (s₁.setTop (mkF m 9 #[.val (.int (1 : Int32))] [(.int (1 : Int32))]))
  refine own_go (fun _ kt => XS.iconst X0.here hx rfl (hb hby d1_9) kt) ?_
  show own_G p.tables e below _ (s₁.setTop (mkF m 10 #[.val (.int (1 : Int32))] [(.int (1 : Int32)), (.int (1 : Int32))]))
  refine own_go (fun _ kt => XS.icmpNo X0.here hx rfl (hb hby d1_10) rfl (teq (rfl : (1 : Int32) = (1 : Int32))).2 kt) ?_
  show own_G p.tables e below _ (s₁.setTop (mkF m 13 #[.val (.int (1 : Int32))] []))
  obtain ⟨T2, X2, e2, st2⟩ := getS2 X0 hx hZ hown (host := "") (Or.inl (hw _ (List.mem_of_getElem? (i := 45) rfl))) Via.refl e0 S0 (g := (mkF m 13 #[.val (.int (1 : Int32))] [])) rfl (hb hby d1_13)
  refine own_go st2 ?_
  show own_G p.tables e below _ (T2.setTop (mkF m 16 #[.val (.int (1 : Int32))] [(.ref c)]))
  exact own_retR X2 hx Bd.returns rfl hlk (hb hby d1_16) (Nat.le_of_ble_eq_true rfl) (Nat.le_of_ble_eq_true rfl) e2 ⟨rfl, N0, rfl⟩
theorem d1_17 : decode method_2_code 17 = .ok (.iload_n 0, 1) := by decide +kernel
theorem d1_18 : decode method_2_code 18 = .ok (.iconst 2, 1) := by decide +kernel
theorem d1_19 : decode method_2_code 19 = .ok (.if_icmp .ne 7, 3) := by decide +kernel
theorem d1_22 : decode method_2_code 22 = .ok (.getstatic 16, 3) := by decide +kernel
theorem d1_25 : decode method_2_code 25 = .ok (.areturn, 1) := by decide +kernel
theorem ef_pick2 (m : MethodId) (p0 : Int32) : entryFrame m #[(.int p0)] 1 = mkF m 0 #[.val (.int p0)] [] := by first | (simp [entryFrame, mkF, argsToLocals, Value.category]; done) | rfl
def Q_pick2 (Z : State) (p0 : Int32) (c : Addr) (h0 : Heap) (n0 : Nat) (v : Option Value) (h : Heap) (L : List Loc) : Prop := v = some (.ref c) ∧ Fr n0 L ∧ h = h0
set_option maxRecDepth 65536 in
set_option maxHeartbeats 40000000 in
theorem rm_pick2 (l : Launch) (Z : State) (a0 : Array Value) (hw : ∀ d ∈ tables_1, d.before a0 Z = true) (ws : List Jvm.Cond) (p0 : Int32) (c : Addr) (h0 : Heap) (n0 : Nat) (Z0 : n0 ≤ h0.size) (hp : (2 : Int32) = p0) (S0 : Sta Z h0 "com/example/gather_fields/gatherfields/design/Comparison" "LESS_OR_EQUAL" "Lcom/example/gather_fields/gatherfields/design/Comparison;" (.ref c)) :
    MetFree l (⟨"com/example/gather_fields/gatherfields/design/ComparisonIsEqualityPinLaw", "pick", "(I)Lcom/example/gather_fields/gatherfields/design/Comparison;"⟩ : MethodName) (head1 (Jvm.Cond.code (⟨"com/example/gather_fields/gatherfields/design/ComparisonIsEqualityPinLaw", "pick", "(I)Lcom/example/gather_fields/gatherfields/design/Comparison;"⟩ : MethodName) method_2_code 1 (some (.object "com/example/gather_fields/gatherfields/design/Comparison")) :: ws) ({ frames := 0, cells := 0, slots := 0, locals := 0 } : Room)) (fun a U => a = #[(.int p0)] ∧ Z.Warmed39 U.vm ∧ U.heap = h0) (fun _ _ _ _ _ => True) (fun _ U o U' => ∃ v L, o = .returned v ∧ Q_pick2 Z p0 c h0 n0 v U'.heap L ∧ FrameEnd U o U' L ({ frames := 0, cells := 0, slots := 0, locals := 0 } : Room).cells ({ frames := 0, cells := 0, slots := 0, locals := 0 } : Room).slots) := by
  refine MetFree.of_bodySF (plainFor_of_name pn_com_example_gather_fields_gatherfields_design_ComparisonIsEqualityPinLaw) hisR ?_
  intro p e s m args below meth kc s₁ Bd hml0 hP hK
  obtain ⟨rfl, hZ, hh⟩ := hP
  have hx := Bd.exec
  have hby := Bd.bytes
  have hlk := Bd.notSynchronized
  have hml : kc.maxLocals = 1 := hml0
  have hown : s.vm.findClass "com/example/gather_fields/gatherfields/design/ComparisonIsEqualityPinLaw" = some m.cls := findClass_of_methodNamed Bd.named
  have hnm := (name_of_methodNamed Bd.named Bd.method).1
  have X0 : Stand p l e ({ frames := 0, cells := 0, slots := 0, locals := 0 } : Room) s m #[(.int p0)] below meth kc s₁ [] 0 0 := Stand.of_body Bd
  have e0 : s₁.heap = h0 := by rw [← hh, Bd.state]; rfl
  have N0 := Fr.nil n0
  show own_G p.tables e below (own_E below s ({ frames := 0, cells := 0, slots := 0, locals := 0 } : Room).cells ({ frames := 0, cells := 0, slots := 0, locals := 0 } : Room).slots (Q_pick2 Z p0 c h0 n0)) _
  refine own_go (fun _ k => castTop (ef_pick2 m p0) k) ?_
  subst hp
  show own_G p.tables e below _ (s₁.setTop (mkF m 0 #[.val (.int (2 : Int32))] []))
  refine own_go (fun _ kt => XS.iloadN X0.here hx rfl (hb hby d1_0) rfl kt) ?_
  show own_G p.tables e below _ (s₁.setTop (mkF m 1 #[.val (.int (2 : Int32))] [(.int (2 : Int32))]))
  refine own_go (fun _ kt => XS.ifYes X0.here hx rfl (pc0 := 1) (pc' := 8) rfl (hb hby d1_1) rfl ((if0 _ _).trans (feq (by decide : ¬ ((2 : Int32) = (0 : Int32)))).2) (by decide) (by decide) kt) ?_
  show own_G p.tables e below _ (s₁.setTop (mkF m 8 #[.val (.int (2 : Int32))] []))
  refine own_go (fun _ kt => XS.iloadN X0.here hx rfl (hb hby d1_8) rfl kt) ?_
  show own_G p.tables e below _ (s₁.setTop (mkF m 9 #[.val (.int (2 : Int32))] [(.int (2 : Int32))]))
  refine own_go (fun _ kt => XS.iconst X0.here hx rfl (hb hby d1_9) kt) ?_
  show own_G p.tables e below _ (s₁.setTop (mkF m 10 #[.val (.int (2 : Int32))] [(.int (1 : Int32)), (.int (2 : Int32))]))
  refine own_go (fun _ kt => XS.icmpYes X0.here hx rfl (pc0 := 10) (pc' := 17) rfl (hb hby d1_10) rfl (feq (by decide : ¬ ((2 : Int32) = (1 : Int32)))).2 (by decide) (by decide) kt) ?_
  show own_G p.tables e below _ (s₁.setTop (mkF m 17 #[.val (.int (2 : Int32))] []))
  refine own_go (fun _ kt => XS.iloadN X0.here hx rfl (hb hby d1_17) rfl kt) ?_
  show own_G p.tables e below _ (s₁.setTop (mkF m 18 #[.val (.int (2 : Int32))] [(.int (2 : Int32))]))
  refine own_go (fun _ kt => XS.iconst X0.here hx rfl (hb hby d1_18) kt) ?_
  show own_G p.tables e below _ (s₁.setTop (mkF m 19 #[.val (.int (2 : Int32))] [(.int (2 : Int32)), (.int (2 : Int32))]))
  refine own_go (fun _ kt => XS.icmpNo X0.here hx rfl (hb hby d1_19) rfl (teq (rfl : (2 : Int32) = (2 : Int32))).2 kt) ?_
  show own_G p.tables e below _ (s₁.setTop (mkF m 22 #[.val (.int (2 : Int32))] []))
  obtain ⟨T3, X3, e3, st3⟩ := getS2 X0 hx hZ hown (host := "") (Or.inl (hw _ (List.mem_of_getElem? (i := 49) rfl))) Via.refl e0 S0 (g := (mkF m 22 #[.val (.int (2 : Int32))] [])) rfl (hb hby d1_22)
  refine own_go st3 ?_
  show own_G p.tables e below _ (T3.setTop (mkF m 25 #[.val (.int (2 : Int32))] [(.ref c)]))
  exact own_retR X3 hx Bd.returns rfl hlk (hb hby d1_25) (Nat.le_of_ble_eq_true rfl) (Nat.le_of_ble_eq_true rfl) e3 ⟨rfl, N0, rfl⟩
theorem d1_26 : decode method_2_code 26 = .ok (.iload_n 0, 1) := by decide +kernel
theorem d1_27 : decode method_2_code 27 = .ok (.iconst 3, 1) := by decide +kernel
theorem d1_28 : decode method_2_code 28 = .ok (.if_icmp .ne 7, 3) := by decide +kernel
theorem d1_31 : decode method_2_code 31 = .ok (.getstatic 19, 3) := by decide +kernel
theorem d1_34 : decode method_2_code 34 = .ok (.areturn, 1) := by decide +kernel
theorem ef_pick3 (m : MethodId) (p0 : Int32) : entryFrame m #[(.int p0)] 1 = mkF m 0 #[.val (.int p0)] [] := by first | (simp [entryFrame, mkF, argsToLocals, Value.category]; done) | rfl
def Q_pick3 (Z : State) (p0 : Int32) (c : Addr) (h0 : Heap) (n0 : Nat) (v : Option Value) (h : Heap) (L : List Loc) : Prop := v = some (.ref c) ∧ Fr n0 L ∧ h = h0
set_option maxRecDepth 65536 in
set_option maxHeartbeats 40000000 in
theorem rm_pick3 (l : Launch) (Z : State) (a0 : Array Value) (hw : ∀ d ∈ tables_1, d.before a0 Z = true) (ws : List Jvm.Cond) (p0 : Int32) (c : Addr) (h0 : Heap) (n0 : Nat) (Z0 : n0 ≤ h0.size) (hp : (3 : Int32) = p0) (S0 : Sta Z h0 "com/example/gather_fields/gatherfields/design/Comparison" "GREATER" "Lcom/example/gather_fields/gatherfields/design/Comparison;" (.ref c)) :
    MetFree l (⟨"com/example/gather_fields/gatherfields/design/ComparisonIsEqualityPinLaw", "pick", "(I)Lcom/example/gather_fields/gatherfields/design/Comparison;"⟩ : MethodName) (head1 (Jvm.Cond.code (⟨"com/example/gather_fields/gatherfields/design/ComparisonIsEqualityPinLaw", "pick", "(I)Lcom/example/gather_fields/gatherfields/design/Comparison;"⟩ : MethodName) method_2_code 1 (some (.object "com/example/gather_fields/gatherfields/design/Comparison")) :: ws) ({ frames := 0, cells := 0, slots := 0, locals := 0 } : Room)) (fun a U => a = #[(.int p0)] ∧ Z.Warmed39 U.vm ∧ U.heap = h0) (fun _ _ _ _ _ => True) (fun _ U o U' => ∃ v L, o = .returned v ∧ Q_pick3 Z p0 c h0 n0 v U'.heap L ∧ FrameEnd U o U' L ({ frames := 0, cells := 0, slots := 0, locals := 0 } : Room).cells ({ frames := 0, cells := 0, slots := 0, locals := 0 } : Room).slots) := by
  refine MetFree.of_bodySF (plainFor_of_name pn_com_example_gather_fields_gatherfields_design_ComparisonIsEqualityPinLaw) hisR ?_
  intro p e s m args below meth kc s₁ Bd hml0 hP hK
  obtain ⟨rfl, hZ, hh⟩ := hP
  have hx := Bd.exec
  have hby := Bd.bytes
  have hlk := Bd.notSynchronized
  have hml : kc.maxLocals = 1 := hml0
  have hown : s.vm.findClass "com/example/gather_fields/gatherfields/design/ComparisonIsEqualityPinLaw" = some m.cls := findClass_of_methodNamed Bd.named
  have hnm := (name_of_methodNamed Bd.named Bd.method).1
  have X0 : Stand p l e ({ frames := 0, cells := 0, slots := 0, locals := 0 } : Room) s m #[(.int p0)] below meth kc s₁ [] 0 0 := Stand.of_body Bd
  have e0 : s₁.heap = h0 := by rw [← hh, Bd.state]; rfl
  have N0 := Fr.nil n0
  show own_G p.tables e below (own_E below s ({ frames := 0, cells := 0, slots := 0, locals := 0 } : Room).cells ({ frames := 0, cells := 0, slots := 0, locals := 0 } : Room).slots (Q_pick3 Z p0 c h0 n0)) _
  refine own_go (fun _ k => castTop (ef_pick3 m p0) k) ?_
  subst hp
  show own_G p.tables e below _ (s₁.setTop (mkF m 0 #[.val (.int (3 : Int32))] []))
  refine own_go (fun _ kt => XS.iloadN X0.here hx rfl (hb hby d1_0) rfl kt) ?_
  show own_G p.tables e below _ (s₁.setTop (mkF m 1 #[.val (.int (3 : Int32))] [(.int (3 : Int32))]))
  refine own_go (fun _ kt => XS.ifYes X0.here hx rfl (pc0 := 1) (pc' := 8) rfl (hb hby d1_1) rfl ((if0 _ _).trans (feq (by decide : ¬ ((3 : Int32) = (0 : Int32)))).2) (by decide) (by decide) kt) ?_
  show own_G p.tables e below _ (s₁.setTop (mkF m 8 #[.val (.int (3 : Int32))] []))
  refine own_go (fun _ kt => XS.iloadN X0.here hx rfl (hb hby d1_8) rfl kt) ?_
  show own_G p.tables e below _ (s₁.setTop (mkF m 9 #[.val (.int (3 : Int32))] [(.int (3 : Int32))]))
  refine own_go (fun _ kt => XS.iconst X0.here hx rfl (hb hby d1_9) kt) ?_
  show own_G p.tables e below _ (s₁.setTop (mkF m 10 #[.val (.int (3 : Int32))] [(.int (1 : Int32)), (.int (3 : Int32))]))
  refine own_go (fun _ kt => XS.icmpYes X0.here hx rfl (pc0 := 10) (pc' := 17) rfl (hb hby d1_10) rfl (feq (by decide : ¬ ((3 : Int32) = (1 : Int32)))).2 (by decide) (by decide) kt) ?_
  show own_G p.tables e below _ (s₁.setTop (mkF m 17 #[.val (.int (3 : Int32))] []))
  refine own_go (fun _ kt => XS.iloadN X0.here hx rfl (hb hby d1_17) rfl kt) ?_
  show own_G p.tables e below _ (s₁.setTop (mkF m 18 #[.val (.int (3 : Int32))] [(.int (3 : Int32))]))
  refine own_go (fun _ kt => XS.iconst X0.here hx rfl (hb hby d1_18) kt) ?_
  show own_G p.tables e below _ (s₁.setTop (mkF m 19 #[.val (.int (3 : Int32))] [(.int (2 : Int32)), (.int (3 : Int32))]))
  refine own_go (fun _ kt => XS.icmpYes X0.here hx rfl (pc0 := 19) (pc' := 26) rfl (hb hby d1_19) rfl (feq (by decide : ¬ ((3 : Int32) = (2 : Int32)))).2 (by decide) (by decide) kt) ?_
  show own_G p.tables e below _ (s₁.setTop (mkF m 26 #[.val (.int (3 : Int32))] []))
  refine own_go (fun _ kt => XS.iloadN X0.here hx rfl (hb hby d1_26) rfl kt) ?_
  show own_G p.tables e below _ (s₁.setTop (mkF m 27 #[.val (.int (3 : Int32))] [(.int (3 : Int32))]))
  refine own_go (fun _ kt => XS.iconst X0.here hx rfl (hb hby d1_27) kt) ?_
  show own_G p.tables e below _ (s₁.setTop (mkF m 28 #[.val (.int (3 : Int32))] [(.int (3 : Int32)), (.int (3 : Int32))]))
  refine own_go (fun _ kt => XS.icmpNo X0.here hx rfl (hb hby d1_28) rfl (teq (rfl : (3 : Int32) = (3 : Int32))).2 kt) ?_
  show own_G p.tables e below _ (s₁.setTop (mkF m 31 #[.val (.int (3 : Int32))] []))
  obtain ⟨T4, X4, e4, st4⟩ := getS2 X0 hx hZ hown (host := "") (Or.inl (hw _ (List.mem_of_getElem? (i := 43) rfl))) Via.refl e0 S0 (g := (mkF m 31 #[.val (.int (3 : Int32))] [])) rfl (hb hby d1_31)
  refine own_go st4 ?_
  show own_G p.tables e below _ (T4.setTop (mkF m 34 #[.val (.int (3 : Int32))] [(.ref c)]))
  exact own_retR X4 hx Bd.returns rfl hlk (hb hby d1_34) (Nat.le_of_ble_eq_true rfl) (Nat.le_of_ble_eq_true rfl) e4 ⟨rfl, N0, rfl⟩
theorem d1_35 : decode method_2_code 35 = .ok (.getstatic 22, 3) := by decide +kernel
theorem d1_38 : decode method_2_code 38 = .ok (.areturn, 1) := by decide +kernel
theorem ef_pick4 (m : MethodId) (p0 : Int32) : entryFrame m #[(.int p0)] 1 = mkF m 0 #[.val (.int p0)] [] := by first | (simp [entryFrame, mkF, argsToLocals, Value.category]; done) | rfl
def Q_pick4 (Z : State) (p0 : Int32) (c : Addr) (h0 : Heap) (n0 : Nat) (v : Option Value) (h : Heap) (L : List Loc) : Prop := v = some (.ref c) ∧ Fr n0 L ∧ h = h0
set_option maxRecDepth 65536 in
set_option maxHeartbeats 40000000 in
theorem rm_pick4 (l : Launch) (Z : State) (a0 : Array Value) (hw : ∀ d ∈ tables_1, d.before a0 Z = true) (ws : List Jvm.Cond) (p0 : Int32) (c : Addr) (h0 : Heap) (n0 : Nat) (Z0 : n0 ≤ h0.size) (hp : (4 : Int32) = p0) (S0 : Sta Z h0 "com/example/gather_fields/gatherfields/design/Comparison" "GREATER_OR_EQUAL" "Lcom/example/gather_fields/gatherfields/design/Comparison;" (.ref c)) :
    MetFree l (⟨"com/example/gather_fields/gatherfields/design/ComparisonIsEqualityPinLaw", "pick", "(I)Lcom/example/gather_fields/gatherfields/design/Comparison;"⟩ : MethodName) (head1 (Jvm.Cond.code (⟨"com/example/gather_fields/gatherfields/design/ComparisonIsEqualityPinLaw", "pick", "(I)Lcom/example/gather_fields/gatherfields/design/Comparison;"⟩ : MethodName) method_2_code 1 (some (.object "com/example/gather_fields/gatherfields/design/Comparison")) :: ws) ({ frames := 0, cells := 0, slots := 0, locals := 0 } : Room)) (fun a U => a = #[(.int p0)] ∧ Z.Warmed39 U.vm ∧ U.heap = h0) (fun _ _ _ _ _ => True) (fun _ U o U' => ∃ v L, o = .returned v ∧ Q_pick4 Z p0 c h0 n0 v U'.heap L ∧ FrameEnd U o U' L ({ frames := 0, cells := 0, slots := 0, locals := 0 } : Room).cells ({ frames := 0, cells := 0, slots := 0, locals := 0 } : Room).slots) := by
  refine MetFree.of_bodySF (plainFor_of_name pn_com_example_gather_fields_gatherfields_design_ComparisonIsEqualityPinLaw) hisR ?_
  intro p e s m args below meth kc s₁ Bd hml0 hP hK
  obtain ⟨rfl, hZ, hh⟩ := hP
  have hx := Bd.exec
  have hby := Bd.bytes
  have hlk := Bd.notSynchronized
  have hml : kc.maxLocals = 1 := hml0
  have hown : s.vm.findClass "com/example/gather_fields/gatherfields/design/ComparisonIsEqualityPinLaw" = some m.cls := findClass_of_methodNamed Bd.named
  have hnm := (name_of_methodNamed Bd.named Bd.method).1
  have X0 : Stand p l e ({ frames := 0, cells := 0, slots := 0, locals := 0 } : Room) s m #[(.int p0)] below meth kc s₁ [] 0 0 := Stand.of_body Bd
  have e0 : s₁.heap = h0 := by rw [← hh, Bd.state]; rfl
  have N0 := Fr.nil n0
  show own_G p.tables e below (own_E below s ({ frames := 0, cells := 0, slots := 0, locals := 0 } : Room).cells ({ frames := 0, cells := 0, slots := 0, locals := 0 } : Room).slots (Q_pick4 Z p0 c h0 n0)) _
  refine own_go (fun _ k => castTop (ef_pick4 m p0) k) ?_
  subst hp
  show own_G p.tables e below _ (s₁.setTop (mkF m 0 #[.val (.int (4 : Int32))] []))
  refine own_go (fun _ kt => XS.iloadN X0.here hx rfl (hb hby d1_0) rfl kt) ?_
  show own_G p.tables e below _ (s₁.setTop (mkF m 1 #[.val (.int (4 : Int32))] [(.int (4 : Int32))]))
  refine own_go (fun _ kt => XS.ifYes X0.here hx rfl (pc0 := 1) (pc' := 8) rfl (hb hby d1_1) rfl ((if0 _ _).trans (feq (by decide : ¬ ((4 : Int32) = (0 : Int32)))).2) (by decide) (by decide) kt) ?_
  show own_G p.tables e below _ (s₁.setTop (mkF m 8 #[.val (.int (4 : Int32))] []))
  refine own_go (fun _ kt => XS.iloadN X0.here hx rfl (hb hby d1_8) rfl kt) ?_
  show own_G p.tables e below _ (s₁.setTop (mkF m 9 #[.val (.int (4 : Int32))] [(.int (4 : Int32))]))
  refine own_go (fun _ kt => XS.iconst X0.here hx rfl (hb hby d1_9) kt) ?_
  show own_G p.tables e below _ (s₁.setTop (mkF m 10 #[.val (.int (4 : Int32))] [(.int (1 : Int32)), (.int (4 : Int32))]))
  refine own_go (fun _ kt => XS.icmpYes X0.here hx rfl (pc0 := 10) (pc' := 17) rfl (hb hby d1_10) rfl (feq (by decide : ¬ ((4 : Int32) = (1 : Int32)))).2 (by decide) (by decide) kt) ?_
  show own_G p.tables e below _ (s₁.setTop (mkF m 17 #[.val (.int (4 : Int32))] []))
  refine own_go (fun _ kt => XS.iloadN X0.here hx rfl (hb hby d1_17) rfl kt) ?_
  show own_G p.tables e below _ (s₁.setTop (mkF m 18 #[.val (.int (4 : Int32))] [(.int (4 : Int32))]))
  refine own_go (fun _ kt => XS.iconst X0.here hx rfl (hb hby d1_18) kt) ?_
  show own_G p.tables e below _ (s₁.setTop (mkF m 19 #[.val (.int (4 : Int32))] [(.int (2 : Int32)), (.int (4 : Int32))]))
  refine own_go (fun _ kt => XS.icmpYes X0.here hx rfl (pc0 := 19) (pc' := 26) rfl (hb hby d1_19) rfl (feq (by decide : ¬ ((4 : Int32) = (2 : Int32)))).2 (by decide) (by decide) kt) ?_
  show own_G p.tables e below _ (s₁.setTop (mkF m 26 #[.val (.int (4 : Int32))] []))
  refine own_go (fun _ kt => XS.iloadN X0.here hx rfl (hb hby d1_26) rfl kt) ?_
  show own_G p.tables e below _ (s₁.setTop (mkF m 27 #[.val (.int (4 : Int32))] [(.int (4 : Int32))]))
  refine own_go (fun _ kt => XS.iconst X0.here hx rfl (hb hby d1_27) kt) ?_
  show own_G p.tables e below _ (s₁.setTop (mkF m 28 #[.val (.int (4 : Int32))] [(.int (3 : Int32)), (.int (4 : Int32))]))
  refine own_go (fun _ kt => XS.icmpYes X0.here hx rfl (pc0 := 28) (pc' := 35) rfl (hb hby d1_28) rfl (feq (by decide : ¬ ((4 : Int32) = (3 : Int32)))).2 (by decide) (by decide) kt) ?_
  show own_G p.tables e below _ (s₁.setTop (mkF m 35 #[.val (.int (4 : Int32))] []))
  obtain ⟨T5, X5, e5, st5⟩ := getS2 X0 hx hZ hown (host := "") (Or.inl (hw _ (List.mem_of_getElem? (i := 47) rfl))) Via.refl e0 S0 (g := (mkF m 35 #[.val (.int (4 : Int32))] [])) rfl (hb hby d1_35)
  refine own_go st5 ?_
  show own_G p.tables e below _ (T5.setTop (mkF m 38 #[.val (.int (4 : Int32))] [(.ref c)]))
  exact own_retR X5 hx Bd.returns rfl hlk (hb hby d1_38) (Nat.le_of_ble_eq_true rfl) (Nat.le_of_ble_eq_true rfl) e5 ⟨rfl, N0, rfl⟩
theorem d2_0 : decode prog_57_method_5_code 0 = .ok (.aload_n 0, 1) := by decide +kernel
theorem d2_1 : decode prog_57_method_5_code 1 = .ok (.getstatic 3, 3) := by decide +kernel
theorem d2_4 : decode prog_57_method_5_code 4 = .ok (.if_acmp .ne 7, 3) := by decide +kernel
theorem d2_7 : decode prog_57_method_5_code 7 = .ok (.iconst 1, 1) := by decide +kernel
theorem d2_8 : decode prog_57_method_5_code 8 = .ok (.goto 4, 3) := by decide +kernel
theorem d2_12 : decode prog_57_method_5_code 12 = .ok (.ireturn, 1) := by decide +kernel
theorem d2_11 : decode prog_57_method_5_code 11 = .ok (.iconst 0, 1) := by decide +kernel
theorem pn_com_example_gather_fields_gatherfields_design_Comparison : plainName "com/example/gather_fields/gatherfields/design/Comparison" = true := by first | (simp [plainName, overriddenIn]; done) | decide +kernel
theorem ef_isEq (m : MethodId) (p0 : Addr) : entryFrame m #[(.ref p0)] 1 = mkF m 0 #[.val (.ref p0)] [] := by first | (simp [entryFrame, mkF, argsToLocals, Value.category]; done) | rfl
def Q_isEq (Z : State) (p0 : Addr) (c0 : Addr) (h0 : Heap) (n0 : Nat) (v : Option Value) (h : Heap) (L : List Loc) : Prop := v = some (.int (if p0 = c0 then 1 else 0)) ∧ Fr n0 L ∧ h = h0
set_option maxRecDepth 65536 in
set_option maxHeartbeats 40000000 in
theorem rm_isEq (l : Launch) (Z : State) (a0 : Array Value) (hw : ∀ d ∈ tables_1, d.before a0 Z = true) (ws : List Jvm.Cond) (p0 : Addr) (c0 : Addr) (h0 : Heap) (n0 : Nat) (Z0 : n0 ≤ h0.size) (S0 : Sta Z h0 "com/example/gather_fields/gatherfields/design/Comparison" "EQUAL" "Lcom/example/gather_fields/gatherfields/design/Comparison;" (.ref c0)) :
    MetFree l (⟨"com/example/gather_fields/gatherfields/design/Comparison", "isEquality", "()Z"⟩ : MethodName) (head1 (Jvm.Cond.code (⟨"com/example/gather_fields/gatherfields/design/Comparison", "isEquality", "()Z"⟩ : MethodName) prog_57_method_5_code 1 (some .boolean) :: ws) ({ frames := 0, cells := 0, slots := 0, locals := 0 } : Room)) (fun a U => a = #[(.ref p0)] ∧ Z.Warmed39 U.vm ∧ U.heap = h0) (fun _ _ _ _ _ => True) (fun _ U o U' => ∃ v L, o = .returned v ∧ Q_isEq Z p0 c0 h0 n0 v U'.heap L ∧ FrameEnd U o U' L ({ frames := 0, cells := 0, slots := 0, locals := 0 } : Room).cells ({ frames := 0, cells := 0, slots := 0, locals := 0 } : Room).slots) := by
  refine MetFree.of_bodySF (plainFor_of_name pn_com_example_gather_fields_gatherfields_design_Comparison) hisR ?_
  intro p e s m args below meth kc s₁ Bd hml0 hP hK
  obtain ⟨rfl, hZ, hh⟩ := hP
  have hx := Bd.exec
  have hby := Bd.bytes
  have hlk := Bd.notSynchronized
  have hml : kc.maxLocals = 1 := hml0
  have hown : s.vm.findClass "com/example/gather_fields/gatherfields/design/Comparison" = some m.cls := findClass_of_methodNamed Bd.named
  have hnm := (name_of_methodNamed Bd.named Bd.method).1
  have X0 : Stand p l e ({ frames := 0, cells := 0, slots := 0, locals := 0 } : Room) s m #[(.ref p0)] below meth kc s₁ [] 0 0 := Stand.of_body Bd
  have e0 : s₁.heap = h0 := by rw [← hh, Bd.state]; rfl
  have N0 := Fr.nil n0
  show own_G p.tables e below (own_E below s ({ frames := 0, cells := 0, slots := 0, locals := 0 } : Room).cells ({ frames := 0, cells := 0, slots := 0, locals := 0 } : Room).slots (Q_isEq Z p0 c0 h0 n0)) _
  refine own_go (fun _ k => castTop (ef_isEq m p0) k) ?_
  show own_G p.tables e below _ (s₁.setTop (mkF m 0 #[.val (.ref p0)] []))
  refine own_go (fun _ kt => XS.aloadN X0.here hx rfl (hb hby d2_0) rfl rfl kt) ?_
  show own_G p.tables e below _ (s₁.setTop (mkF m 1 #[.val (.ref p0)] [(.ref p0)]))
  obtain ⟨T6, X6, e6, st6⟩ := getS2 X0 hx hZ hown (host := "") (Or.inl (hw _ (List.mem_of_getElem? (i := 13) rfl))) Via.refl e0 S0 (g := (mkF m 1 #[.val (.ref p0)] [(.ref p0)])) rfl (hb hby d2_1)
  refine own_go st6 ?_
  by_cases hc : p0 = c0
  · show own_G p.tables e below _ (T6.setTop (mkF m 4 #[.val (.ref p0)] [(.ref c0), (.ref p0)]))
    refine own_go (fun _ kt => Jvm.RoadKit.acmp (g := (mkF m 4 #[.val (.ref p0)] [(.ref c0), (.ref p0)])) X6 hx rfl rfl rfl (pc0 := 4) (pc' := 7) (same := true) rfl (hb hby d2_4) rfl (decide_eq_true (congrArg Value.ref hc)) (by decide) (by decide) kt) ?_
    show own_G p.tables e below _ (T6.setTop (mkF m 7 #[.val (.ref p0)] []))
    refine own_go (fun _ kt => XS.iconst X6.here hx rfl (hb hby d2_7) kt) ?_
    show own_G p.tables e below _ (T6.setTop (mkF m 8 #[.val (.ref p0)] [(.int (1 : Int32))]))
    refine own_go (fun _ kt => XS.goto X6.here hx rfl (pc0 := 8) (pc' := 12) rfl (hb hby d2_8) (by decide) (by decide) kt) ?_
    show own_G p.tables e below _ (T6.setTop (mkF m 12 #[.val (.ref p0)] [(.int (1 : Int32))]))
    exact own_retN X6 hx (t := .boolean) Bd.returns (by simp) hlk (hb hby d2_12) (Nat.le_of_ble_eq_true rfl) (Nat.le_of_ble_eq_true rfl) e6 ⟨by rw [if_pos hc]; rfl, N0, rfl⟩
  · show own_G p.tables e below _ (T6.setTop (mkF m 4 #[.val (.ref p0)] [(.ref c0), (.ref p0)]))
    refine own_go (fun _ kt => Jvm.RoadKit.acmp (g := (mkF m 4 #[.val (.ref p0)] [(.ref c0), (.ref p0)])) X6 hx rfl rfl rfl (pc0 := 4) (pc' := 11) (same := false) rfl (hb hby d2_4) rfl (decide_eq_false fun q => hc (Value.ref.inj q)) (by decide) (by decide) kt) ?_
    show own_G p.tables e below _ (T6.setTop (mkF m 11 #[.val (.ref p0)] []))
    refine own_go (fun _ kt => XS.iconst X6.here hx rfl (hb hby d2_11) kt) ?_
    show own_G p.tables e below _ (T6.setTop (mkF m 12 #[.val (.ref p0)] [(.int (0 : Int32))]))
    exact own_retN X6 hx (t := .boolean) Bd.returns (by simp) hlk (hb hby d2_12) (Nat.le_of_ble_eq_true rfl) (Nat.le_of_ble_eq_true rfl) e6 ⟨by rw [if_neg hc]; rfl, N0, rfl⟩
theorem d3_0 : decode prog_57_method_4_code 0 = .ok (.aload_n 0, 1) := by decide +kernel
theorem d3_1 : decode prog_57_method_4_code 1 = .ok (.getfield 38, 3) := by decide +kernel
theorem d3_4 : decode prog_57_method_4_code 4 = .ok (.areturn, 1) := by decide +kernel
theorem ef_sym (m : MethodId) (p0 : Addr) : entryFrame m #[(.ref p0)] 1 = mkF m 0 #[.val (.ref p0)] [] := by first | (simp [entryFrame, mkF, argsToLocals, Value.category]; done) | rfl
def Q_sym (Z : State) (p0 : Addr) (sy : Addr) (h0 : Heap) (n0 : Nat) (v : Option Value) (h : Heap) (L : List Loc) : Prop := v = some (.ref sy) ∧ Fr n0 L ∧ h = h0
set_option maxRecDepth 65536 in
set_option maxHeartbeats 40000000 in
theorem rm_sym (l : Launch) (Z : State) (a0 : Array Value) (hw : ∀ d ∈ tables_1, d.before a0 Z = true) (ws : List Jvm.Cond) (p0 : Addr) (sy : Addr) (h0 : Heap) (n0 : Nat) (Z0 : n0 ≤ h0.size) (F0 : Fld Z h0 p0 "com/example/gather_fields/gatherfields/design/Comparison" "symbol" "Ljava/lang/String;" (.ref sy)) :
    MetFree l (⟨"com/example/gather_fields/gatherfields/design/Comparison", "symbol", "()Ljava/lang/String;"⟩ : MethodName) (head1 (Jvm.Cond.code (⟨"com/example/gather_fields/gatherfields/design/Comparison", "symbol", "()Ljava/lang/String;"⟩ : MethodName) prog_57_method_4_code 1 (some (.object "java/lang/String")) :: ws) ({ frames := 0, cells := 0, slots := 0, locals := 0 } : Room)) (fun a U => a = #[(.ref p0)] ∧ Z.Warmed39 U.vm ∧ U.heap = h0) (fun _ _ _ _ _ => True) (fun _ U o U' => ∃ v L, o = .returned v ∧ Q_sym Z p0 sy h0 n0 v U'.heap L ∧ FrameEnd U o U' L ({ frames := 0, cells := 0, slots := 0, locals := 0 } : Room).cells ({ frames := 0, cells := 0, slots := 0, locals := 0 } : Room).slots) := by
  refine MetFree.of_bodySF (plainFor_of_name pn_com_example_gather_fields_gatherfields_design_Comparison) hisR ?_
  intro p e s m args below meth kc s₁ Bd hml0 hP hK
  obtain ⟨rfl, hZ, hh⟩ := hP
  have hx := Bd.exec
  have hby := Bd.bytes
  have hlk := Bd.notSynchronized
  have hml : kc.maxLocals = 1 := hml0
  have hown : s.vm.findClass "com/example/gather_fields/gatherfields/design/Comparison" = some m.cls := findClass_of_methodNamed Bd.named
  have hnm := (name_of_methodNamed Bd.named Bd.method).1
  have X0 : Stand p l e ({ frames := 0, cells := 0, slots := 0, locals := 0 } : Room) s m #[(.ref p0)] below meth kc s₁ [] 0 0 := Stand.of_body Bd
  have e0 : s₁.heap = h0 := by rw [← hh, Bd.state]; rfl
  have N0 := Fr.nil n0
  show own_G p.tables e below (own_E below s ({ frames := 0, cells := 0, slots := 0, locals := 0 } : Room).cells ({ frames := 0, cells := 0, slots := 0, locals := 0 } : Room).slots (Q_sym Z p0 sy h0 n0)) _
  refine own_go (fun _ k => castTop (ef_sym m p0) k) ?_
  show own_G p.tables e below _ (s₁.setTop (mkF m 0 #[.val (.ref p0)] []))
  refine own_go (fun _ kt => XS.aloadN X0.here hx rfl (hb hby d3_0) rfl rfl kt) ?_
  show own_G p.tables e below _ (s₁.setTop (mkF m 1 #[.val (.ref p0)] [(.ref p0)]))
  obtain ⟨T7, X7, e7, st7⟩ := getF X0 hx hZ hown (host := "") (Or.inl (hw _ (List.mem_of_getElem? (i := 19) rfl))) Via.refl e0 F0 (g := (mkF m 1 #[.val (.ref p0)] [(.ref p0)])) rfl rfl (hb hby d3_1)
  refine own_go st7 ?_
  show own_G p.tables e below _ (T7.setTop (mkF m 4 #[.val (.ref p0)] [(.ref sy)]))
  exact own_retR X7 hx Bd.returns rfl hlk (hb hby d3_4) (Nat.le_of_ble_eq_true rfl) (Nat.le_of_ble_eq_true rfl) e7 ⟨rfl, N0, rfl⟩
theorem d5_0 : decode jdk_43_method_13_code 0 = .ok (.aload_n 0, 1) := by decide +kernel
theorem d5_1 : decode jdk_43_method_13_code 1 = .ok (.arraylength, 1) := by decide +kernel
theorem d5_2 : decode jdk_43_method_13_code 2 = .ok (.aload_n 1, 1) := by decide +kernel
theorem d5_3 : decode jdk_43_method_13_code 3 = .ok (.arraylength, 1) := by decide +kernel
theorem d5_4 : decode jdk_43_method_13_code 4 = .ok (.if_icmp .ne 30, 3) := by decide +kernel
theorem d5_7 : decode jdk_43_method_13_code 7 = .ok (.iconst 0, 1) := by decide +kernel
theorem d5_8 : decode jdk_43_method_13_code 8 = .ok (.istore_n 2, 1) := by decide +kernel
theorem d5_9 : decode jdk_43_method_13_code 9 = .ok (.iload_n 2, 1) := by decide +kernel
theorem d5_10 : decode jdk_43_method_13_code 10 = .ok (.aload_n 0, 1) := by decide +kernel
theorem d5_11 : decode jdk_43_method_13_code 11 = .ok (.arraylength, 1) := by decide +kernel
theorem d5_12 : decode jdk_43_method_13_code 12 = .ok (.if_icmp .ge 20, 3) := by decide +kernel
theorem d5_15 : decode jdk_43_method_13_code 15 = .ok (.aload_n 0, 1) := by decide +kernel
theorem d5_16 : decode jdk_43_method_13_code 16 = .ok (.iload_n 2, 1) := by decide +kernel
theorem d5_17 : decode jdk_43_method_13_code 17 = .ok (.baload, 1) := by decide +kernel
theorem d5_18 : decode jdk_43_method_13_code 18 = .ok (.aload_n 1, 1) := by decide +kernel
theorem d5_19 : decode jdk_43_method_13_code 19 = .ok (.iload_n 2, 1) := by decide +kernel
theorem d5_20 : decode jdk_43_method_13_code 20 = .ok (.baload, 1) := by decide +kernel
theorem d5_21 : decode jdk_43_method_13_code 21 = .ok (.if_icmp .eq 5, 3) := by decide +kernel
theorem d5_26 : decode jdk_43_method_13_code 26 = .ok (.iinc 2 1, 3) := by decide +kernel
theorem d5_29 : decode jdk_43_method_13_code 29 = .ok (.goto (-20), 3) := by decide +kernel
theorem d5_32 : decode jdk_43_method_13_code 32 = .ok (.iconst 1, 1) := by decide +kernel
theorem d5_33 : decode jdk_43_method_13_code 33 = .ok (.ireturn, 1) := by decide +kernel
theorem d5_24 : decode jdk_43_method_13_code 24 = .ok (.iconst 0, 1) := by decide +kernel
theorem d5_25 : decode jdk_43_method_13_code 25 = .ok (.ireturn, 1) := by decide +kernel
theorem d5_34 : decode jdk_43_method_13_code 34 = .ok (.iconst 0, 1) := by decide +kernel
theorem d5_35 : decode jdk_43_method_13_code 35 = .ok (.ireturn, 1) := by decide +kernel
theorem pn_java_lang_StringLatin1 : plainName "java/lang/StringLatin1" = true := by first | (simp [plainName, overriddenIn]; done) | decide +kernel
theorem ef_leq (m : MethodId) (p0 : Addr) (p1 : Addr) : entryFrame m #[(.ref p0), (.ref p1)] 3 = mkF m 0 #[.val (.ref p0), .val (.ref p1), .unset] [] := by first | (simp [entryFrame, mkF, argsToLocals, Value.category]; done) | rfl
def Q_leq (Z : State) (p0 : Addr) (p1 : Addr) (n : Nat) (f : Nat → Value) (x : Int32) (h0 : Heap) (n0 : Nat) (v : Option Value) (h : Heap) (L : List Loc) : Prop := v = some (.int (if n = 1 ∧ x = (61 : Int32) then (1 : Int32) else 0)) ∧ Fr n0 L ∧ h = h0
set_option maxRecDepth 65536 in
set_option maxHeartbeats 40000000 in
theorem rm_leq (l : Launch) (Z : State) (a0 : Array Value) (hw : ∀ d ∈ tables_1, d.before a0 Z = true) (ws : List Jvm.Cond) (p0 : Addr) (p1 : Addr) (n : Nat) (f : Nat → Value) (x : Int32) (h0 : Heap) (n0 : Nat) (Z0 : n0 ≤ h0.size) (hn : n = 1 ∨ n = 2) (hx0 : f (0 : Int32).toNatClampNeg = .int x) (V0 : own_A Z h0 p0 .byte n f) (V1 : own_A Z h0 p1 .byte 1 (own_l [61])) :
    MetFree l (⟨"java/lang/StringLatin1", "equals", "([B[B)Z"⟩ : MethodName) (head1 (Jvm.Cond.code (⟨"java/lang/StringLatin1", "equals", "([B[B)Z"⟩ : MethodName) jdk_43_method_13_code 3 (some .boolean) :: ws) ({ frames := 0, cells := 0, slots := 0, locals := 0 } : Room)) (fun a U => a = #[(.ref p0), (.ref p1)] ∧ Z.Warmed39 U.vm ∧ U.heap = h0) (fun _ _ _ _ _ => True) (fun _ U o U' => ∃ v L, o = .returned v ∧ Q_leq Z p0 p1 n f x h0 n0 v U'.heap L ∧ FrameEnd U o U' L ({ frames := 0, cells := 0, slots := 0, locals := 0 } : Room).cells ({ frames := 0, cells := 0, slots := 0, locals := 0 } : Room).slots) := by
  refine MetFree.of_bodySF (plainFor_of_name pn_java_lang_StringLatin1) hisR ?_
  intro p e s m args below meth kc s₁ Bd hml0 hP hK
  obtain ⟨rfl, hZ, hh⟩ := hP
  have hx := Bd.exec
  have hby := Bd.bytes
  have hlk := Bd.notSynchronized
  have hml : kc.maxLocals = 3 := hml0
  have hown : s.vm.findClass "java/lang/StringLatin1" = some m.cls := findClass_of_methodNamed Bd.named
  have hnm := (name_of_methodNamed Bd.named Bd.method).1
  have X0 : Stand p l e ({ frames := 0, cells := 0, slots := 0, locals := 0 } : Room) s m #[(.ref p0), (.ref p1)] below meth kc s₁ [] 0 0 := Stand.of_body Bd
  have e0 : s₁.heap = h0 := by rw [← hh, Bd.state]; rfl
  have N0 := Fr.nil n0
  show own_G p.tables e below (own_E below s ({ frames := 0, cells := 0, slots := 0, locals := 0 } : Room).cells ({ frames := 0, cells := 0, slots := 0, locals := 0 } : Room).slots (Q_leq Z p0 p1 n f x h0 n0)) _
  refine own_go (fun _ k => castTop (ef_leq m p0 p1) k) ?_
  show own_G p.tables e below _ (s₁.setTop (mkF m 0 #[.val (.ref p0), .val (.ref p1), .unset] []))
  refine own_go (fun _ kt => XS.aloadN X0.here hx rfl (hb hby d5_0) rfl rfl kt) ?_
  rcases hn with rfl | rfl
  · show own_G p.tables e below _ (s₁.setTop (mkF m 1 #[.val (.ref p0), .val (.ref p1), .unset] [(.ref p0)]))
    refine own_go (own_len X0 hx hZ e0 V0 (z := (1 : Int32)) rfl (g := (mkF m 1 #[.val (.ref p0), .val (.ref p1), .unset] [(.ref p0)])) rfl rfl (hb hby d5_1)) ?_
    show own_G p.tables e below _ (s₁.setTop (mkF m 2 #[.val (.ref p0), .val (.ref p1), .unset] [(.int (1 : Int32))]))
    refine own_go (fun _ kt => XS.aloadN X0.here hx rfl (hb hby d5_2) rfl rfl kt) ?_
    show own_G p.tables e below _ (s₁.setTop (mkF m 3 #[.val (.ref p0), .val (.ref p1), .unset] [(.ref p1), (.int (1 : Int32))]))
    refine own_go (own_len X0 hx hZ e0 V1 (z := (1 : Int32)) rfl (g := (mkF m 3 #[.val (.ref p0), .val (.ref p1), .unset] [(.ref p1), (.int (1 : Int32))])) rfl rfl (hb hby d5_3)) ?_
    show own_G p.tables e below _ (s₁.setTop (mkF m 4 #[.val (.ref p0), .val (.ref p1), .unset] [(.int (1 : Int32)), (.int (1 : Int32))]))
    refine own_go (fun _ kt => XS.icmpNo X0.here hx rfl (hb hby d5_4) rfl (teq (rfl : (1 : Int32) = (1 : Int32))).2 kt) ?_
    show own_G p.tables e below _ (s₁.setTop (mkF m 7 #[.val (.ref p0), .val (.ref p1), .unset] []))
    refine own_go (fun _ kt => XS.iconst X0.here hx rfl (hb hby d5_7) kt) ?_
    show own_G p.tables e below _ (s₁.setTop (mkF m 8 #[.val (.ref p0), .val (.ref p1), .unset] [(.int (0 : Int32))]))
    refine own_go (fun _ kt => XS.istoreN X0.here hx rfl (hb hby d5_8) rfl (l' := #[.val (.ref p0), .val (.ref p1), .val (.int (0 : Int32))]) rfl kt) ?_
    show own_G p.tables e below _ (s₁.setTop (mkF m 9 #[.val (.ref p0), .val (.ref p1), .val (.int (0 : Int32))] []))
    refine own_go (fun _ kt => XS.iloadN X0.here hx rfl (hb hby d5_9) rfl kt) ?_
    show own_G p.tables e below _ (s₁.setTop (mkF m 10 #[.val (.ref p0), .val (.ref p1), .val (.int (0 : Int32))] [(.int (0 : Int32))]))
    refine own_go (fun _ kt => XS.aloadN X0.here hx rfl (hb hby d5_10) rfl rfl kt) ?_
    show own_G p.tables e below _ (s₁.setTop (mkF m 11 #[.val (.ref p0), .val (.ref p1), .val (.int (0 : Int32))] [(.ref p0), (.int (0 : Int32))]))
    refine own_go (own_len X0 hx hZ e0 V0 (z := (1 : Int32)) rfl (g := (mkF m 11 #[.val (.ref p0), .val (.ref p1), .val (.int (0 : Int32))] [(.ref p0), (.int (0 : Int32))])) rfl rfl (hb hby d5_11)) ?_
    show own_G p.tables e below _ (s₁.setTop (mkF m 12 #[.val (.ref p0), .val (.ref p1), .val (.int (0 : Int32))] [(.int (1 : Int32)), (.int (0 : Int32))]))
    refine own_go (fun _ kt => XS.icmpNo X0.here hx rfl (hb hby d5_12) rfl (tlt (by decide : (0 : Int32) < (1 : Int32))).2.1 kt) ?_
    show own_G p.tables e below _ (s₁.setTop (mkF m 15 #[.val (.ref p0), .val (.ref p1), .val (.int (0 : Int32))] []))
    refine own_go (fun _ kt => XS.aloadN X0.here hx rfl (hb hby d5_15) rfl rfl kt) ?_
    show own_G p.tables e below _ (s₁.setTop (mkF m 16 #[.val (.ref p0), .val (.ref p1), .val (.int (0 : Int32))] [(.ref p0)]))
    refine own_go (fun _ kt => XS.iloadN X0.here hx rfl (hb hby d5_16) rfl kt) ?_
    show own_G p.tables e below _ (s₁.setTop (mkF m 17 #[.val (.ref p0), .val (.ref p1), .val (.int (0 : Int32))] [(.int (0 : Int32)), (.ref p0)]))
    refine own_go (own_ldB X0 hx hZ e0 V0 (j := (0 : Int32)) (v := (.int x)) (by decide) (by decide) hx0 (g := (mkF m 17 #[.val (.ref p0), .val (.ref p1), .val (.int (0 : Int32))] [(.int (0 : Int32)), (.ref p0)])) rfl rfl (hb hby d5_17)) ?_
    show own_G p.tables e below _ (s₁.setTop (mkF m 18 #[.val (.ref p0), .val (.ref p1), .val (.int (0 : Int32))] [(.int x)]))
    refine own_go (fun _ kt => XS.aloadN X0.here hx rfl (hb hby d5_18) rfl rfl kt) ?_
    show own_G p.tables e below _ (s₁.setTop (mkF m 19 #[.val (.ref p0), .val (.ref p1), .val (.int (0 : Int32))] [(.ref p1), (.int x)]))
    refine own_go (fun _ kt => XS.iloadN X0.here hx rfl (hb hby d5_19) rfl kt) ?_
    show own_G p.tables e below _ (s₁.setTop (mkF m 20 #[.val (.ref p0), .val (.ref p1), .val (.int (0 : Int32))] [(.int (0 : Int32)), (.ref p1), (.int x)]))
    refine own_go (own_ldB X0 hx hZ e0 V1 (j := (0 : Int32)) (v := (.int (61 : Int32))) (by decide) (by decide) rfl (g := (mkF m 20 #[.val (.ref p0), .val (.ref p1), .val (.int (0 : Int32))] [(.int (0 : Int32)), (.ref p1), (.int x)])) rfl rfl (hb hby d5_20)) ?_
    by_cases he : x = (61 : Int32)
    · show own_G p.tables e below _ (s₁.setTop (mkF m 21 #[.val (.ref p0), .val (.ref p1), .val (.int (0 : Int32))] [(.int (61 : Int32)), (.int x)]))
      refine own_go (fun _ kt => XS.icmpYes X0.here hx rfl (pc0 := 21) (pc' := 26) rfl (hb hby d5_21) rfl (teq (he : x = (61 : Int32))).1 (by decide) (by decide) kt) ?_
      show own_G p.tables e below _ (s₁.setTop (mkF m 26 #[.val (.ref p0), .val (.ref p1), .val (.int (0 : Int32))] []))
      refine own_go (fun _ kt => XS.iinc X0.here hx rfl (hb hby d5_26) rfl (l' := #[.val (.ref p0), .val (.ref p1), .val (.int ((0 : Int32) + (1 : Int32)))]) rfl kt) ?_
      show own_G p.tables e below _ (s₁.setTop (mkF m 29 #[.val (.ref p0), .val (.ref p1), .val (.int ((0 : Int32) + (1 : Int32)))] []))
      refine own_go (fun _ kt => XS.goto X0.here hx rfl (pc0 := 29) (pc' := 9) rfl (hb hby d5_29) (by decide) (by decide) kt) ?_
      show own_G p.tables e below _ (s₁.setTop (mkF m 9 #[.val (.ref p0), .val (.ref p1), .val (.int ((0 : Int32) + (1 : Int32)))] []))
      refine own_go (fun _ kt => XS.iloadN X0.here hx rfl (hb hby d5_9) rfl kt) ?_
      show own_G p.tables e below _ (s₁.setTop (mkF m 10 #[.val (.ref p0), .val (.ref p1), .val (.int ((0 : Int32) + (1 : Int32)))] [(.int ((0 : Int32) + (1 : Int32)))]))
      refine own_go (fun _ kt => XS.aloadN X0.here hx rfl (hb hby d5_10) rfl rfl kt) ?_
      show own_G p.tables e below _ (s₁.setTop (mkF m 11 #[.val (.ref p0), .val (.ref p1), .val (.int ((0 : Int32) + (1 : Int32)))] [(.ref p0), (.int ((0 : Int32) + (1 : Int32)))]))
      refine own_go (own_len X0 hx hZ e0 V0 (z := (1 : Int32)) rfl (g := (mkF m 11 #[.val (.ref p0), .val (.ref p1), .val (.int ((0 : Int32) + (1 : Int32)))] [(.ref p0), (.int ((0 : Int32) + (1 : Int32)))])) rfl rfl (hb hby d5_11)) ?_
      show own_G p.tables e below _ (s₁.setTop (mkF m 12 #[.val (.ref p0), .val (.ref p1), .val (.int ((0 : Int32) + (1 : Int32)))] [(.int (1 : Int32)), (.int ((0 : Int32) + (1 : Int32)))]))
      refine own_go (fun _ kt => XS.icmpYes X0.here hx rfl (pc0 := 12) (pc' := 32) rfl (hb hby d5_12) rfl (flt (by decide : ¬ (((0 : Int32) + (1 : Int32)) < (1 : Int32)))).2.1 (by decide) (by decide) kt) ?_
      show own_G p.tables e below _ (s₁.setTop (mkF m 32 #[.val (.ref p0), .val (.ref p1), .val (.int ((0 : Int32) + (1 : Int32)))] []))
      refine own_go (fun _ kt => XS.iconst X0.here hx rfl (hb hby d5_32) kt) ?_
      show own_G p.tables e below _ (s₁.setTop (mkF m 33 #[.val (.ref p0), .val (.ref p1), .val (.int ((0 : Int32) + (1 : Int32)))] [(.int (1 : Int32))]))
      exact own_retN X0 hx (t := .boolean) Bd.returns (by simp) hlk (hb hby d5_33) (Nat.le_of_ble_eq_true rfl) (Nat.le_of_ble_eq_true rfl) e0 ⟨by rw [if_pos ⟨rfl, he⟩]; rfl, N0, rfl⟩
    · show own_G p.tables e below _ (s₁.setTop (mkF m 21 #[.val (.ref p0), .val (.ref p1), .val (.int (0 : Int32))] [(.int (61 : Int32)), (.int x)]))
      refine own_go (fun _ kt => XS.icmpNo X0.here hx rfl (hb hby d5_21) rfl (feq (he : ¬ (x = (61 : Int32)))).1 kt) ?_
      show own_G p.tables e below _ (s₁.setTop (mkF m 24 #[.val (.ref p0), .val (.ref p1), .val (.int (0 : Int32))] []))
      refine own_go (fun _ kt => XS.iconst X0.here hx rfl (hb hby d5_24) kt) ?_
      show own_G p.tables e below _ (s₁.setTop (mkF m 25 #[.val (.ref p0), .val (.ref p1), .val (.int (0 : Int32))] [(.int (0 : Int32))]))
      exact own_retN X0 hx (t := .boolean) Bd.returns (by simp) hlk (hb hby d5_25) (Nat.le_of_ble_eq_true rfl) (Nat.le_of_ble_eq_true rfl) e0 ⟨by rw [if_neg (fun q => he q.2)]; rfl, N0, rfl⟩
  · show own_G p.tables e below _ (s₁.setTop (mkF m 1 #[.val (.ref p0), .val (.ref p1), .unset] [(.ref p0)]))
    refine own_go (own_len X0 hx hZ e0 V0 (z := (2 : Int32)) rfl (g := (mkF m 1 #[.val (.ref p0), .val (.ref p1), .unset] [(.ref p0)])) rfl rfl (hb hby d5_1)) ?_
    show own_G p.tables e below _ (s₁.setTop (mkF m 2 #[.val (.ref p0), .val (.ref p1), .unset] [(.int (2 : Int32))]))
    refine own_go (fun _ kt => XS.aloadN X0.here hx rfl (hb hby d5_2) rfl rfl kt) ?_
    show own_G p.tables e below _ (s₁.setTop (mkF m 3 #[.val (.ref p0), .val (.ref p1), .unset] [(.ref p1), (.int (2 : Int32))]))
    refine own_go (own_len X0 hx hZ e0 V1 (z := (1 : Int32)) rfl (g := (mkF m 3 #[.val (.ref p0), .val (.ref p1), .unset] [(.ref p1), (.int (2 : Int32))])) rfl rfl (hb hby d5_3)) ?_
    show own_G p.tables e below _ (s₁.setTop (mkF m 4 #[.val (.ref p0), .val (.ref p1), .unset] [(.int (1 : Int32)), (.int (2 : Int32))]))
    refine own_go (fun _ kt => XS.icmpYes X0.here hx rfl (pc0 := 4) (pc' := 34) rfl (hb hby d5_4) rfl (feq (by decide : ¬ ((2 : Int32) = (1 : Int32)))).2 (by decide) (by decide) kt) ?_
    show own_G p.tables e below _ (s₁.setTop (mkF m 34 #[.val (.ref p0), .val (.ref p1), .unset] []))
    refine own_go (fun _ kt => XS.iconst X0.here hx rfl (hb hby d5_34) kt) ?_
    show own_G p.tables e below _ (s₁.setTop (mkF m 35 #[.val (.ref p0), .val (.ref p1), .unset] [(.int (0 : Int32))]))
    exact own_retN X0 hx (t := .boolean) Bd.returns (by simp) hlk (hb hby d5_35) (Nat.le_of_ble_eq_true rfl) (Nat.le_of_ble_eq_true rfl) e0 ⟨by rw [if_neg (fun q => absurd q.1 (by decide))]; rfl, N0, rfl⟩
theorem d4_0 : decode jdk_42_method_66_code 0 = .ok (.aload_n 0, 1) := by decide +kernel
theorem d4_1 : decode jdk_42_method_66_code 1 = .ok (.aload_n 1, 1) := by decide +kernel
theorem d4_2 : decode jdk_42_method_66_code 2 = .ok (.if_acmp .ne 5, 3) := by decide +kernel
theorem d4_5 : decode jdk_42_method_66_code 5 = .ok (.iconst 1, 1) := by decide +kernel
theorem d4_6 : decode jdk_42_method_66_code 6 = .ok (.ireturn, 1) := by decide +kernel
theorem d4_7 : decode jdk_42_method_66_code 7 = .ok (.aload_n 1, 1) := by decide +kernel
theorem d4_8 : decode jdk_42_method_66_code 8 = .ok (.instanceof 10, 3) := by decide +kernel
theorem d4_11 : decode jdk_42_method_66_code 11 = .ok (.ifCond .eq 43, 3) := by decide +kernel
theorem d4_14 : decode jdk_42_method_66_code 14 = .ok (.aload_n 1, 1) := by decide +kernel
theorem d4_15 : decode jdk_42_method_66_code 15 = .ok (.checkcast 10, 3) := by decide +kernel
theorem d4_18 : decode jdk_42_method_66_code 18 = .ok (.astore_n 2, 1) := by decide +kernel
theorem d4_19 : decode jdk_42_method_66_code 19 = .ok (.getstatic 38, 3) := by decide +kernel
theorem d4_22 : decode jdk_42_method_66_code 22 = .ok (.ifCond .eq 14, 3) := by decide +kernel
theorem d4_25 : decode jdk_42_method_66_code 25 = .ok (.aload_n 0, 1) := by decide +kernel
theorem d4_26 : decode jdk_42_method_66_code 26 = .ok (.getfield 15, 3) := by decide +kernel
theorem d4_29 : decode jdk_42_method_66_code 29 = .ok (.aload_n 2, 1) := by decide +kernel
theorem d4_30 : decode jdk_42_method_66_code 30 = .ok (.getfield 15, 3) := by decide +kernel
theorem d4_33 : decode jdk_42_method_66_code 33 = .ok (.if_icmp .ne 21, 3) := by decide +kernel
theorem d4_36 : decode jdk_42_method_66_code 36 = .ok (.aload_n 0, 1) := by decide +kernel
theorem d4_37 : decode jdk_42_method_66_code 37 = .ok (.getfield 9, 3) := by decide +kernel
theorem d4_40 : decode jdk_42_method_66_code 40 = .ok (.aload_n 2, 1) := by decide +kernel
theorem d4_41 : decode jdk_42_method_66_code 41 = .ok (.getfield 9, 3) := by decide +kernel
theorem d4_44 : decode jdk_42_method_66_code 44 = .ok (.invokestatic 541, 3) := by decide +kernel
theorem pd___B_B_Z : parseMethodDescriptor "([B[B)Z" = some ⟨[(.array .byte), (.array .byte)], some .boolean⟩ := by decide +kernel
theorem d4_47 : decode jdk_42_method_66_code 47 = .ok (.ifCond .eq 7, 3) := by decide +kernel
theorem d4_50 : decode jdk_42_method_66_code 50 = .ok (.iconst 1, 1) := by decide +kernel
theorem d4_51 : decode jdk_42_method_66_code 51 = .ok (.goto 4, 3) := by decide +kernel
theorem d4_55 : decode jdk_42_method_66_code 55 = .ok (.ireturn, 1) := by decide +kernel
theorem d4_54 : decode jdk_42_method_66_code 54 = .ok (.iconst 0, 1) := by decide +kernel
theorem pn_java_lang_String : plainName "java/lang/String" = true := by first | (simp [plainName, overriddenIn]; done) | decide +kernel
theorem ef_eqs (m : MethodId) (p0 : Addr) (p1 : Addr) : entryFrame m #[(.ref p0), (.ref p1)] 3 = mkF m 0 #[.val (.ref p0), .val (.ref p1), .unset] [] := by first | (simp [entryFrame, mkF, argsToLocals, Value.category]; done) | rfl
def Q_eqs (Z : State) (p0 : Addr) (p1 : Addr) (cc : Addr) (vv : Addr) (bb : Addr) (i : Int32) (n : Nat) (f : Nat → Value) (x : Int32) (cs : Int32) (h0 : Heap) (n0 : Nat) (v : Option Value) (h : Heap) (L : List Loc) : Prop := v = some (.int (if n = 1 ∧ x = (61 : Int32) then (1 : Int32) else 0)) ∧ Fr n0 L ∧ h = h0
set_option maxRecDepth 65536 in
set_option maxHeartbeats 40000000 in
theorem rm_eqs (l : Launch) (Z : State) (a0 : Array Value) (hw : ∀ d ∈ tables_1, d.before a0 Z = true) (ws : List Jvm.Cond) (p0 : Addr) (p1 : Addr) (cc : Addr) (vv : Addr) (bb : Addr) (i : Int32) (n : Nat) (f : Nat → Value) (x : Int32) (cs : Int32) (h0 : Heap) (n0 : Nat) (Z0 : n0 ≤ h0.size) (CC : own_C Z h0 cc p0 vv i n f) (hn : n = 1 ∨ n = 2) (hx0 : f (0 : Int32).toNatClampNeg = .int x) (E1 : Exa Z h0 p1 "java/lang/String") (C1 : Fld Z h0 p1 "java/lang/String" "coder" "B" (.int (0 : Int32))) (F1 : Fld Z h0 p1 "java/lang/String" "value" "[B" (.ref bb)) (V1 : own_A Z h0 bb .byte 1 (own_l [61])) (SC : Sta Z h0 "java/lang/String" "COMPACT_STRINGS" "Z" (.int cs)) (hcs : ¬ cs = (0 : Int32)) :
    MetFree l (⟨"java/lang/String", "equals", "(Ljava/lang/Object;)Z"⟩ : MethodName) (head1 (Jvm.Cond.code (⟨"java/lang/String", "equals", "(Ljava/lang/Object;)Z"⟩ : MethodName) jdk_42_method_66_code 3 (some .boolean) :: ws) ({ frames := 1, cells := 0, slots := 0, locals := 14 } : Room)) (fun a U => a = #[(.ref p0), (.ref p1)] ∧ Z.Warmed39 U.vm ∧ U.heap = h0) (fun _ _ _ _ _ => True) (fun _ U o U' => ∃ v L, o = .returned v ∧ Q_eqs Z p0 p1 cc vv bb i n f x cs h0 n0 v U'.heap L ∧ FrameEnd U o U' L ({ frames := 1, cells := 0, slots := 0, locals := 14 } : Room).cells ({ frames := 1, cells := 0, slots := 0, locals := 14 } : Room).slots) := by
  refine MetFree.of_bodySF (plainFor_of_name pn_java_lang_String) hisR ?_
  intro p e s m args below meth kc s₁ Bd hml0 hP hK
  obtain ⟨rfl, hZ, hh⟩ := hP
  have hx := Bd.exec
  have hby := Bd.bytes
  have hlk := Bd.notSynchronized
  have hml : kc.maxLocals = 3 := hml0
  have hown : s.vm.findClass "java/lang/String" = some m.cls := findClass_of_methodNamed Bd.named
  have hnm := (name_of_methodNamed Bd.named Bd.method).1
  have X0 : Stand p l e ({ frames := 1, cells := 0, slots := 0, locals := 14 } : Room) s m #[(.ref p0), (.ref p1)] below meth kc s₁ [] 0 0 := Stand.of_body Bd
  have e0 : s₁.heap = h0 := by rw [← hh, Bd.state]; rfl
  have N0 := Fr.nil n0
  show own_G p.tables e below (own_E below s ({ frames := 1, cells := 0, slots := 0, locals := 14 } : Room).cells ({ frames := 1, cells := 0, slots := 0, locals := 14 } : Room).slots (Q_eqs Z p0 p1 cc vv bb i n f x cs h0 n0)) _
  refine own_go (fun _ k => castTop (ef_eqs m p0 p1) k) ?_
  obtain ⟨-, -, -, E0, C0, F0, V0⟩ := CC
  show own_G p.tables e below _ (s₁.setTop (mkF m 0 #[.val (.ref p0), .val (.ref p1), .unset] []))
  refine own_go (fun _ kt => XS.aloadN X0.here hx rfl (hb hby d4_0) rfl rfl kt) ?_
  show own_G p.tables e below _ (s₁.setTop (mkF m 1 #[.val (.ref p0), .val (.ref p1), .unset] [(.ref p0)]))
  refine own_go (fun _ kt => XS.aloadN X0.here hx rfl (hb hby d4_1) rfl rfl kt) ?_
  by_cases hs : p0 = p1
  · show own_G p.tables e below _ (s₁.setTop (mkF m 2 #[.val (.ref p0), .val (.ref p1), .unset] [(.ref p1), (.ref p0)]))
    refine own_go (fun _ kt => Jvm.RoadKit.acmp (g := (mkF m 2 #[.val (.ref p0), .val (.ref p1), .unset] [(.ref p1), (.ref p0)])) X0 hx rfl rfl rfl (pc0 := 2) (pc' := 5) (same := true) rfl (hb hby d4_2) rfl (decide_eq_true (congrArg Value.ref hs)) (by decide) (by decide) kt) ?_
    have hok : n = 1 ∧ x = (61 : Int32) := by
      subst hs
      have q := own_uniq F0 F1
      obtain rfl := Value.ref.inj q
      obtain ⟨q1, q2⟩ := V0.uniq V1
      refine ⟨q1, ?_⟩
      have q3 := q2 0 (by omega)
      exact Value.int.inj (hx0.symm.trans q3)
    show own_G p.tables e below _ (s₁.setTop (mkF m 5 #[.val (.ref p0), .val (.ref p1), .unset] []))
    refine own_go (fun _ kt => XS.iconst X0.here hx rfl (hb hby d4_5) kt) ?_
    show own_G p.tables e below _ (s₁.setTop (mkF m 6 #[.val (.ref p0), .val (.ref p1), .unset] [(.int (1 : Int32))]))
    exact own_retN X0 hx (t := .boolean) Bd.returns (by simp) hlk (hb hby d4_6) (Nat.le_of_ble_eq_true rfl) (Nat.le_of_ble_eq_true rfl) e0 ⟨by rw [if_pos hok]; rfl, N0, rfl⟩
  · show own_G p.tables e below _ (s₁.setTop (mkF m 2 #[.val (.ref p0), .val (.ref p1), .unset] [(.ref p1), (.ref p0)]))
    refine own_go (fun _ kt => Jvm.RoadKit.acmp (g := (mkF m 2 #[.val (.ref p0), .val (.ref p1), .unset] [(.ref p1), (.ref p0)])) X0 hx rfl rfl rfl (pc0 := 2) (pc' := 7) (same := false) rfl (hb hby d4_2) rfl (decide_eq_false fun q => hs (Value.ref.inj q)) (by decide) (by decide) kt) ?_
    show own_G p.tables e below _ (s₁.setTop (mkF m 7 #[.val (.ref p0), .val (.ref p1), .unset] []))
    refine own_go (fun _ kt => XS.aloadN X0.here hx rfl (hb hby d4_7) rfl rfl kt) ?_
    show own_G p.tables e below _ (s₁.setTop (mkF m 8 #[.val (.ref p0), .val (.ref p1), .unset] [(.ref p1)]))
    obtain ⟨T8, X8, e8, st8⟩ := instY X0 hx hZ hown (hw _ (List.mem_of_getElem? (i := 34) rfl)) e0 (Ins.self E1) (g := (mkF m 8 #[.val (.ref p0), .val (.ref p1), .unset] [(.ref p1)])) rfl rfl (hb hby d4_8)
    refine own_go st8 ?_
    show own_G p.tables e below _ (T8.setTop (mkF m 11 #[.val (.ref p0), .val (.ref p1), .unset] [(.int (1 : Int32))]))
    refine own_go (fun _ kt => XS.ifNo X8.here hx rfl (hb hby d4_11) rfl ((if0 _ _).trans (feq (by decide : ¬ ((1 : Int32) = (0 : Int32)))).1) kt) ?_
    show own_G p.tables e below _ (T8.setTop (mkF m 14 #[.val (.ref p0), .val (.ref p1), .unset] []))
    refine own_go (fun _ kt => XS.aloadN X8.here hx rfl (hb hby d4_14) rfl rfl kt) ?_
    show own_G p.tables e below _ (T8.setTop (mkF m 15 #[.val (.ref p0), .val (.ref p1), .unset] [(.ref p1)]))
    obtain ⟨T9, X9, e9, st9⟩ := castY X8 hx hZ hown (hw _ (List.mem_of_getElem? (i := 34) rfl)) e8 (Ins.self E1) (g := (mkF m 15 #[.val (.ref p0), .val (.ref p1), .unset] [(.ref p1)])) rfl rfl (hb hby d4_15)
    refine own_go st9 ?_
    show own_G p.tables e below _ (T9.setTop (mkF m 18 #[.val (.ref p0), .val (.ref p1), .unset] [(.ref p1)]))
    refine own_go (fun _ kt => XS.astoreN X9.here hx rfl (hb hby d4_18) rfl rfl (l' := #[.val (.ref p0), .val (.ref p1), .val (.ref p1)]) rfl kt) ?_
    show own_G p.tables e below _ (T9.setTop (mkF m 19 #[.val (.ref p0), .val (.ref p1), .val (.ref p1)] []))
    obtain ⟨T10, X10, e10, st10⟩ := getS2 X9 hx hZ hown (host := "") (Or.inl (hw _ (List.mem_of_getElem? (i := 36) rfl))) Via.refl e9 SC (g := (mkF m 19 #[.val (.ref p0), .val (.ref p1), .val (.ref p1)] [])) rfl (hb hby d4_19)
    refine own_go st10 ?_
    show own_G p.tables e below _ (T10.setTop (mkF m 22 #[.val (.ref p0), .val (.ref p1), .val (.ref p1)] [(.int cs)]))
    refine own_go (fun _ kt => XS.ifNo X10.here hx rfl (hb hby d4_22) rfl ((if0 _ _).trans (feq (hcs : ¬ (cs = (0 : Int32)))).1) kt) ?_
    show own_G p.tables e below _ (T10.setTop (mkF m 25 #[.val (.ref p0), .val (.ref p1), .val (.ref p1)] []))
    refine own_go (fun _ kt => XS.aloadN X10.here hx rfl (hb hby d4_25) rfl rfl kt) ?_
    show own_G p.tables e below _ (T10.setTop (mkF m 26 #[.val (.ref p0), .val (.ref p1), .val (.ref p1)] [(.ref p0)]))
    obtain ⟨T11, X11, e11, st11⟩ := getF X10 hx hZ hown (host := "") (Or.inl (hw _ (List.mem_of_getElem? (i := 37) rfl))) Via.refl e10 C0 (g := (mkF m 26 #[.val (.ref p0), .val (.ref p1), .val (.ref p1)] [(.ref p0)])) rfl rfl (hb hby d4_26)
    refine own_go st11 ?_
    show own_G p.tables e below _ (T11.setTop (mkF m 29 #[.val (.ref p0), .val (.ref p1), .val (.ref p1)] [(.int (0 : Int32))]))
    refine own_go (fun _ kt => XS.aloadN X11.here hx rfl (hb hby d4_29) rfl rfl kt) ?_
    show own_G p.tables e below _ (T11.setTop (mkF m 30 #[.val (.ref p0), .val (.ref p1), .val (.ref p1)] [(.ref p1), (.int (0 : Int32))]))
    obtain ⟨T12, X12, e12, st12⟩ := getF X11 hx hZ hown (host := "") (Or.inl (hw _ (List.mem_of_getElem? (i := 37) rfl))) Via.refl e11 C1 (g := (mkF m 30 #[.val (.ref p0), .val (.ref p1), .val (.ref p1)] [(.ref p1), (.int (0 : Int32))])) rfl rfl (hb hby d4_30)
    refine own_go st12 ?_
    show own_G p.tables e below _ (T12.setTop (mkF m 33 #[.val (.ref p0), .val (.ref p1), .val (.ref p1)] [(.int (0 : Int32)), (.int (0 : Int32))]))
    refine own_go (fun _ kt => XS.icmpNo X12.here hx rfl (hb hby d4_33) rfl (teq (rfl : (0 : Int32) = (0 : Int32))).2 kt) ?_
    show own_G p.tables e below _ (T12.setTop (mkF m 36 #[.val (.ref p0), .val (.ref p1), .val (.ref p1)] []))
    refine own_go (fun _ kt => XS.aloadN X12.here hx rfl (hb hby d4_36) rfl rfl kt) ?_
    show own_G p.tables e below _ (T12.setTop (mkF m 37 #[.val (.ref p0), .val (.ref p1), .val (.ref p1)] [(.ref p0)]))
    obtain ⟨T13, X13, e13, st13⟩ := getF X12 hx hZ hown (host := "") (Or.inl (hw _ (List.mem_of_getElem? (i := 38) rfl))) Via.refl e12 F0 (g := (mkF m 37 #[.val (.ref p0), .val (.ref p1), .val (.ref p1)] [(.ref p0)])) rfl rfl (hb hby d4_37)
    refine own_go st13 ?_
    show own_G p.tables e below _ (T13.setTop (mkF m 40 #[.val (.ref p0), .val (.ref p1), .val (.ref p1)] [(.ref vv)]))
    refine own_go (fun _ kt => XS.aloadN X13.here hx rfl (hb hby d4_40) rfl rfl kt) ?_
    show own_G p.tables e below _ (T13.setTop (mkF m 41 #[.val (.ref p0), .val (.ref p1), .val (.ref p1)] [(.ref p1), (.ref vv)]))
    obtain ⟨T14, X14, e14, st14⟩ := getF X13 hx hZ hown (host := "") (Or.inl (hw _ (List.mem_of_getElem? (i := 38) rfl))) Via.refl e13 F1 (g := (mkF m 41 #[.val (.ref p0), .val (.ref p1), .val (.ref p1)] [(.ref p1), (.ref vv)])) rfl rfl (hb hby d4_41)
    refine own_go st14 ?_
    show own_G p.tables e below _ (T14.setTop (mkF m 44 #[.val (.ref p0), .val (.ref p1), .val (.ref p1)] [(.ref bb), (.ref vv)]))
    obtain ⟨_, _, ⟨T15, L15, k15, n15⟩, -, X15, ⟨Lc15, hQ15, l15, y15, z15⟩, st15⟩ := Jvm.LawKit.callS X14 hx (y := (⟨"java/lang/StringLatin1", "equals", "([B[B)Z"⟩ : MethodName)) hown (mvT hZ (hw _ (List.mem_of_getElem? (i := 39) rfl))) (mvT hZ (hw _ (List.mem_of_getElem? (i := 40) rfl))) (mvT hZ (hw _ (List.mem_of_getElem? (i := 41) rfl))) (mvT hZ (hw _ (List.mem_of_getElem? (i := 42) rfl))) (by decide) (backOf (W := 0) (rm_leq l Z a0 hw [] vv bb n f x h0 n0 Z0 hn hx0 V0 V1) hZ (hw _ (List.mem_of_getElem? (i := 42) rfl)) (hw _ (List.mem_of_getElem? (i := 41) rfl)) (by decide) (by decide)) (g := (mkF m 44 #[.val (.ref p0), .val (.ref p1), .val (.ref p1)] [(.ref bb), (.ref vv)])) rfl (by rw [hml]; rfl) (argsL := [(.ref vv), (.ref bb)]) (rest := []) (lenOf pd___B_B_Z rfl) rfl (by show 2 * 0 + _ ≤ _; exact Nat.le_of_eq rfl) (hb hby d4_44) (fun _ _ => ⟨rfl, e14, (Nat.le_of_ble_eq_true rfl), (Nat.le_of_ble_eq_true rfl)⟩)
    dsimp only [Pt.U, Pt.locs, Pt.cells, Pt.slots] at X15 l15 y15 z15 st15 hQ15
    subst l15 y15 z15
    obtain ⟨rfl, Nq15, eq15⟩ := hQ15
    have N15 := Fr.app N0 Nq15
    refine own_go st15 ?_
    by_cases hk : n = 1 ∧ x = (61 : Int32)
    · show own_G p.tables e below _ (T15.setTop (mkF m 47 #[.val (.ref p0), .val (.ref p1), .val (.ref p1)] [(.int (if n = 1 ∧ x = (61 : Int32) then (1 : Int32) else 0))]))
      rw [if_pos hk]
      show own_G p.tables e below _ (T15.setTop (mkF m 47 #[.val (.ref p0), .val (.ref p1), .val (.ref p1)] [(.int (1 : Int32))]))
      refine own_go (fun _ kt => XS.ifNo X15.here hx rfl (hb hby d4_47) rfl ((if0 _ _).trans (feq (by decide : ¬ ((1 : Int32) = (0 : Int32)))).1) kt) ?_
      show own_G p.tables e below _ (T15.setTop (mkF m 50 #[.val (.ref p0), .val (.ref p1), .val (.ref p1)] []))
      refine own_go (fun _ kt => XS.iconst X15.here hx rfl (hb hby d4_50) kt) ?_
      show own_G p.tables e below _ (T15.setTop (mkF m 51 #[.val (.ref p0), .val (.ref p1), .val (.ref p1)] [(.int (1 : Int32))]))
      refine own_go (fun _ kt => XS.goto X15.here hx rfl (pc0 := 51) (pc' := 55) rfl (hb hby d4_51) (by decide) (by decide) kt) ?_
      show own_G p.tables e below _ (T15.setTop (mkF m 55 #[.val (.ref p0), .val (.ref p1), .val (.ref p1)] [(.int (1 : Int32))]))
      exact own_retN X15 hx (t := .boolean) Bd.returns (by simp) hlk (hb hby d4_55) (Nat.le_of_ble_eq_true rfl) (Nat.le_of_ble_eq_true rfl) eq15 ⟨by rw [if_pos hk]; rfl, N15, rfl⟩
    · show own_G p.tables e below _ (T15.setTop (mkF m 47 #[.val (.ref p0), .val (.ref p1), .val (.ref p1)] [(.int (if n = 1 ∧ x = (61 : Int32) then (1 : Int32) else 0))]))
      rw [if_neg hk]
      show own_G p.tables e below _ (T15.setTop (mkF m 47 #[.val (.ref p0), .val (.ref p1), .val (.ref p1)] [(.int (0 : Int32))]))
      refine own_go (fun _ kt => XS.ifYes X15.here hx rfl (pc0 := 47) (pc' := 54) rfl (hb hby d4_47) rfl ((if0 _ _).trans (teq (rfl : (0 : Int32) = (0 : Int32))).1) (by decide) (by decide) kt) ?_
      show own_G p.tables e below _ (T15.setTop (mkF m 54 #[.val (.ref p0), .val (.ref p1), .val (.ref p1)] []))
      refine own_go (fun _ kt => XS.iconst X15.here hx rfl (hb hby d4_54) kt) ?_
      show own_G p.tables e below _ (T15.setTop (mkF m 55 #[.val (.ref p0), .val (.ref p1), .val (.ref p1)] [(.int (0 : Int32))]))
      exact own_retN X15 hx (t := .boolean) Bd.returns (by simp) hlk (hb hby d4_55) (Nat.le_of_ble_eq_true rfl) (Nat.le_of_ble_eq_true rfl) eq15 ⟨by rw [if_neg hk]; rfl, N15, rfl⟩
theorem own_rm5 (x : Int32) : (x &&& (2147483647 : Int32)) % (5 : Int32) = 0 ∨ (x &&& (2147483647 : Int32)) % (5 : Int32) = 1 ∨ (x &&& (2147483647 : Int32)) % (5 : Int32) = 2 ∨ (x &&& (2147483647 : Int32)) % (5 : Int32) = 3 ∨ (x &&& (2147483647 : Int32)) % (5 : Int32) = 4 := by
  have a := c_mask x 2147483647 31 (by decide) (by decide)
  have b := (c_iremV (x &&& (2147483647 : Int32)) 5).1 (by omega) (by decide)
  generalize (x &&& (2147483647 : Int32)) % (5 : Int32) = y at b ⊢
  have z : (5 : Int32).toInt = 5 := rfl
  have w : y.toInt = 0 ∨ y.toInt = 1 ∨ y.toInt = 2 ∨ y.toInt = 3 ∨ y.toInt = 4 := by omega
  rcases w with w | w | w | w | w
  · exact Or.inl (Int32.toInt_inj.mp w)
  · exact Or.inr (Or.inl (Int32.toInt_inj.mp w))
  · exact Or.inr (Or.inr (Or.inl (Int32.toInt_inj.mp w)))
  · exact Or.inr (Or.inr (Or.inr (Or.inl (Int32.toInt_inj.mp w))))
  · exact Or.inr (Or.inr (Or.inr (Or.inr (Int32.toInt_inj.mp w))))
theorem pd___Z : parseMethodDescriptor "()Z" = some ⟨[], some .boolean⟩ := by decide +kernel
theorem pd___Ljava_lang_String_ : parseMethodDescriptor "()Ljava/lang/String;" = some ⟨[], some (.object "java/lang/String")⟩ := by decide +kernel
theorem pd__Ljava_lang_Object__Z : parseMethodDescriptor "(Ljava/lang/Object;)Z" = some ⟨[(.object "java/lang/Object")], some .boolean⟩ := by decide +kernel
theorem pd__I_Lcom_example_gather_fields_gatherfields_design_Comparison_ : parseMethodDescriptor "(I)Lcom/example/gather_fields/gatherfields/design/Comparison;" = some ⟨[.int], some (.object "com/example/gather_fields/gatherfields/design/Comparison")⟩ := by decide +kernel
theorem ef_law (m : MethodId) (p0 : Int32) : entryFrame m #[(.int p0)] maxLocals = mkF m 0 #[.val (.int p0), .unset, .unset, .unset, .unset, .unset] [] := by first | (simp [entryFrame, mkF, argsToLocals, Value.category, maxLocals]; done) | rfl
def Q_law (Z : State) (p0 : Int32) (c0 : Addr) (c1 : Addr) (c2 : Addr) (c3 : Addr) (c4 : Addr) (s0 : Addr) (s1 : Addr) (s2 : Addr) (s3 : Addr) (s4 : Addr) (v0 : Addr) (v1 : Addr) (v2 : Addr) (v3 : Addr) (v4 : Addr) (cs : Int32) (h0 : Heap) (n0 : Nat) (v : Option Value) (h : Heap) (L : List Loc) : Prop := v = some (.int (1 : Int32)) ∧ Fr n0 L
set_option maxRecDepth 65536 in
set_option maxHeartbeats 40000000 in
theorem rm_law (l : Launch) (Z : State) (a0 : Array Value) (hw : ∀ d ∈ tables_1, d.before a0 Z = true) (ws : List Jvm.Cond) (p0 : Int32) (c0 : Addr) (c1 : Addr) (c2 : Addr) (c3 : Addr) (c4 : Addr) (s0 : Addr) (s1 : Addr) (s2 : Addr) (s3 : Addr) (s4 : Addr) (v0 : Addr) (v1 : Addr) (v2 : Addr) (v3 : Addr) (v4 : Addr) (cs : Int32) (h0 : Heap) (n0 : Nat) (Z0 : n0 ≤ h0.size) (S0 : Sta Z h0 "com/example/gather_fields/gatherfields/design/Comparison" "EQUAL" "Lcom/example/gather_fields/gatherfields/design/Comparison;" (.ref c0)) (C0 : own_C Z h0 c0 s0 v0 0 1 (own_l [61])) (S1 : Sta Z h0 "com/example/gather_fields/gatherfields/design/Comparison" "LESS" "Lcom/example/gather_fields/gatherfields/design/Comparison;" (.ref c1)) (C1 : own_C Z h0 c1 s1 v1 1 1 (own_l [60])) (S2 : Sta Z h0 "com/example/gather_fields/gatherfields/design/Comparison" "LESS_OR_EQUAL" "Lcom/example/gather_fields/gatherfields/design/Comparison;" (.ref c2)) (C2 : own_C Z h0 c2 s2 v2 2 2 (own_l [60, 61])) (S3 : Sta Z h0 "com/example/gather_fields/gatherfields/design/Comparison" "GREATER" "Lcom/example/gather_fields/gatherfields/design/Comparison;" (.ref c3)) (C3 : own_C Z h0 c3 s3 v3 3 1 (own_l [62])) (S4 : Sta Z h0 "com/example/gather_fields/gatherfields/design/Comparison" "GREATER_OR_EQUAL" "Lcom/example/gather_fields/gatherfields/design/Comparison;" (.ref c4)) (C4 : own_C Z h0 c4 s4 v4 4 2 (own_l [62, 61])) (SC : Sta Z h0 "java/lang/String" "COMPACT_STRINGS" "Z" (.int cs)) (hcs : ¬ cs = (0 : Int32)) (hn0 : h0.size ≤ n0) (hZh : Z.heap = h0) (hheld : Jvm.Lit.constHeld Z "com/example/gather_fields/gatherfields/design/ComparisonIsEqualityPinLaw" 40) (hcw : Jvm.Lit.compactW.before a0 Z = true) :
    MetFree l x (head1 (Jvm.Cond.code x code maxLocals ret :: ws) room_1) (fun a U => a = #[(.int p0)] ∧ Z.Warmed39 U.vm ∧ U.heap = h0 ∧ IB Z U.vm []) (fun _ _ _ _ _ => True) (fun _ U o U' => ∃ v L, o = .returned v ∧ Q_law Z p0 c0 c1 c2 c3 c4 s0 s1 s2 s3 s4 v0 v1 v2 v3 v4 cs h0 n0 v U'.heap L ∧ ReturnedEndW U o U' L room_1.cells room_1.slots) := by
  refine MetFree.of_bodySF (plainFor_of_name pn_com_example_gather_fields_gatherfields_design_ComparisonIsEqualityPinLaw) hisR ?_
  intro p e s m args below meth kc s₁ Bd hml0 hP hK
  obtain ⟨rfl, hZ, hh, hIB⟩ := hP
  have hx := Bd.exec
  have hby := Bd.bytes
  have hlk := Bd.notSynchronized
  have hml : kc.maxLocals = 6 := hml0
  have hown : s.vm.findClass "com/example/gather_fields/gatherfields/design/ComparisonIsEqualityPinLaw" = some m.cls := findClass_of_methodNamed Bd.named
  have hnm := (name_of_methodNamed Bd.named Bd.method).1
  have X0 : Stand p l e room_1 s m #[(.int p0)] below meth kc s₁ [] 0 0 := Stand.of_body Bd
  have e0 : s₁.heap = h0 := by rw [← hh, Bd.state]; rfl
  have N0 := Fr.nil n0
  show own_G p.tables e below (own_EW below s room_1.cells room_1.slots (Q_law Z p0 c0 c1 c2 c3 c4 s0 s1 s2 s3 s4 v0 v1 v2 v3 v4 cs h0 n0)) _
  refine own_go (fun _ k => castTop (ef_law m p0) k) ?_
  have j12 : ∀ (T16 : State) (locs16 : List Loc) (i : Int32) (c sy vv : Addr) (n : Nat) (f : Nat → Value) (x : Int32), Stand p l e room_1 s m #[(.int p0)] below meth kc T16 locs16 0 0 → T16.heap = h0 → Fr n0 locs16 → (own_C Z h0 c sy vv i n f) → (n = 1 ∨ n = 2) → (f (0 : Int32).toNatClampNeg = .int x) → ((i = 0 ∧ c = c0 ∧ n = 1 ∧ x = 61) ∨ (¬ i = 0 ∧ ¬ c = c0 ∧ ¬ (n = 1 ∧ x = 61))) → own_G p.tables e below (own_EW below s room_1.cells room_1.slots (Q_law Z p0 c0 c1 c2 c3 c4 s0 s1 s2 s3 s4 v0 v1 v2 v3 v4 cs h0 n0)) (T16.setTop (mkF m 12 #[.val (.int p0), .val (.int i), .val (.ref c), .unset, .unset, .unset] [])) := by
    intro T16 locs16 i c sy vv n f x X16 e16 N16 CC hn hx0 ht
    obtain ⟨ex, hex⟩ : ∃ ex : Int32, ex = if i = 0 then 1 else 0 := ⟨_, rfl⟩
    have j22 : ∀ (T17 : State) (locs17 : List Loc), Stand p l e room_1 s m #[(.int p0)] below meth kc T17 locs17 0 0 → T17.heap = h0 → Fr n0 locs17 → own_G p.tables e below (own_EW below s room_1.cells room_1.slots (Q_law Z p0 c0 c1 c2 c3 c4 s0 s1 s2 s3 s4 v0 v1 v2 v3 v4 cs h0 n0)) (T17.setTop (mkF m 22 #[.val (.int p0), .val (.int i), .val (.ref c), .val (.int ex), .unset, .unset] [])) := by
      intro T17 locs17  X17 e17 N17 
      show own_G p.tables e below _ (T17.setTop (mkF m 22 #[.val (.int p0), .val (.int i), .val (.ref c), .val (.int ex), .unset, .unset] []))
      refine own_go (fun _ kt => XS.aloadN X17.here hx rfl (hb hby at_22) rfl rfl kt) ?_
      show own_G p.tables e below _ (T17.setTop (mkF m 23 #[.val (.int p0), .val (.int i), .val (.ref c), .val (.int ex), .unset, .unset] [(.ref c)]))
      obtain ⟨cq18, kq18, q18a, q18b, q18c⟩ := isOf hZ e17 CC.1
      obtain ⟨_, _, ⟨T18, L18, k18, n18⟩, -, X18, ⟨Lc18, hQ18, l18, y18, z18⟩, st18⟩ := X17.virtualBack hx (y := (⟨"com/example/gather_fields/gatherfields/design/Comparison", "isEquality", "()Z"⟩ : MethodName)) (z := (⟨"com/example/gather_fields/gatherfields/design/Comparison", "isEquality", "()Z"⟩ : MethodName)) hown (mvT hZ (hw _ (List.mem_of_getElem? (i := 8) rfl))) (mvT hZ (hw _ (List.mem_of_getElem? (i := 9) rfl))) (notFace_of_selects (args := #[]) (mvT hZ (hw _ (List.mem_of_getElem? (i := 11) rfl)))) (mvT hZ (hw _ (List.mem_of_getElem? (i := 11) rfl))) (mvT hZ (hw _ (List.mem_of_getElem? (i := 10) rfl))) (by decide) (backOf (W := 0) (rm_isEq l Z a0 hw [] c c0 h0 n0 Z0 S0) hZ (hw _ (List.mem_of_getElem? (i := 12) rfl)) (hw _ (List.mem_of_getElem? (i := 6) rfl)) (by decide) (by decide)) q18a q18c (g := (mkF m 23 #[.val (.int p0), .val (.int i), .val (.ref c), .val (.int ex), .unset, .unset] [(.ref c)])) rfl (by rw [hml]; rfl) (Steps.refl _) (argsL := []) (rest := []) (lenOf pd___Z rfl) rfl (by show 2 * 0 + _ ≤ _; exact Nat.le_of_eq rfl) (hb hby at_23) (fun _ _ => ⟨rfl, e17, (Nat.le_of_ble_eq_true rfl), (Nat.le_of_ble_eq_true rfl)⟩)
      dsimp only [Pt.U, Pt.locs, Pt.cells, Pt.slots] at X18 l18 y18 z18 st18 hQ18
      subst l18 y18 z18
      obtain ⟨rfl, Nq18, eq18⟩ := hQ18
      have N18 := Fr.app N17 Nq18
      refine own_tr st18 ?_
      have hgot : (if c = c0 then (1 : Int32) else 0) = ex := by
        rcases ht with ⟨h1, h2, -⟩ | ⟨h1, h2, -⟩
        · rw [hex, if_pos h1, if_pos h2]
        · rw [hex, if_neg h1, if_neg h2]
      show own_G p.tables e below _ (T18.setTop (mkF m 26 #[.val (.int p0), .val (.int i), .val (.ref c), .val (.int ex), .unset, .unset] [(.int (if c = c0 then (1 : Int32) else 0))]))
      rw [hgot]
      show own_G p.tables e below _ (T18.setTop (mkF m 26 #[.val (.int p0), .val (.int i), .val (.ref c), .val (.int ex), .unset, .unset] [(.int ex)]))
      refine own_go (fun _ kt => XS.istore X18.here hx rfl (hb hby at_26) rfl (l' := #[.val (.int p0), .val (.int i), .val (.ref c), .val (.int ex), .val (.int ex), .unset]) rfl kt) ?_
      show own_G p.tables e below _ (T18.setTop (mkF m 28 #[.val (.int p0), .val (.int i), .val (.ref c), .val (.int ex), .val (.int ex), .unset] []))
      refine own_go (fun _ kt => XS.aloadN X18.here hx rfl (hb hby at_28) rfl rfl kt) ?_
      show own_G p.tables e below _ (T18.setTop (mkF m 29 #[.val (.int p0), .val (.int i), .val (.ref c), .val (.int ex), .val (.int ex), .unset] [(.ref c)]))
      obtain ⟨cq19, kq19, q19a, q19b, q19c⟩ := isOf hZ eq18 CC.1
      obtain ⟨_, _, ⟨T19, L19, k19, n19⟩, -, X19, ⟨Lc19, hQ19, l19, y19, z19⟩, st19⟩ := X18.virtualBack hx (y := (⟨"com/example/gather_fields/gatherfields/design/Comparison", "symbol", "()Ljava/lang/String;"⟩ : MethodName)) (z := (⟨"com/example/gather_fields/gatherfields/design/Comparison", "symbol", "()Ljava/lang/String;"⟩ : MethodName)) hown (mvT hZ (hw _ (List.mem_of_getElem? (i := 14) rfl))) (mvT hZ (hw _ (List.mem_of_getElem? (i := 15) rfl))) (notFace_of_selects (args := #[]) (mvT hZ (hw _ (List.mem_of_getElem? (i := 17) rfl)))) (mvT hZ (hw _ (List.mem_of_getElem? (i := 17) rfl))) (mvT hZ (hw _ (List.mem_of_getElem? (i := 16) rfl))) (by decide) (backOf (W := 0) (rm_sym l Z a0 hw [] c sy h0 n0 Z0 CC.2.2.1) hZ (hw _ (List.mem_of_getElem? (i := 18) rfl)) (hw _ (List.mem_of_getElem? (i := 6) rfl)) (by decide) (by decide)) q19a q19c (g := (mkF m 29 #[.val (.int p0), .val (.int i), .val (.ref c), .val (.int ex), .val (.int ex), .unset] [(.ref c)])) rfl (by rw [hml]; rfl) (Steps.refl _) (argsL := []) (rest := []) (lenOf pd___Ljava_lang_String_ rfl) rfl (by show 2 * 0 + _ ≤ _; exact Nat.le_of_eq rfl) (hb hby at_29) (fun _ _ => ⟨rfl, eq18, (Nat.le_of_ble_eq_true rfl), (Nat.le_of_ble_eq_true rfl)⟩)
      dsimp only [Pt.U, Pt.locs, Pt.cells, Pt.slots] at X19 l19 y19 z19 st19 hQ19
      subst l19 y19 z19
      obtain ⟨rfl, Nq19, eq19⟩ := hQ19
      have N19 := Fr.app N18 Nq19
      refine own_tr st19 ?_
      show own_G p.tables e below _ (T19.setTop (mkF m 32 #[.val (.int p0), .val (.int i), .val (.ref c), .val (.int ex), .val (.int ex), .unset] [(.ref sy)]))
      obtain ⟨a, T20, h20, k20, bb, kk, X20, e20, E20, hS20, hk20, hZ, hown, E1, C1, F1, V1, -, -, -, st20⟩ := ldcSV (show Stand p l e room_1 (s.setVm s.vm) m #[(.int p0)] below meth kc T19 _ _ _ from X19) hx hZ hown (hw _ (List.mem_of_getElem? (i := 21) rfl)) (own_sA hw) eq19 ((State.WarmedH.refl s).since 0) (Nat.zero_le _) (fun y hy => Nat.le_trans (by rw [hh]; exact hn0) (N19 y hy)) (fun b cl z => by rw [hh, ← hZh]; exact z) hIB (by simp) hheld hcw (vs := [.int (61 : Int32)]) (z := (1 : Int32)) (by decide) (by decide) (by decide) (g := (mkF m 32 #[.val (.int p0), .val (.int i), .val (.ref c), .val (.int ex), .val (.int ex), .unset] [(.ref sy)])) rfl (hb hby at_32) (n := 4) (by decide) (by decide) (Nat.le_of_ble_eq_true rfl) (Nat.le_of_ble_eq_true rfl)
      refine own_go st20 ?_
      have Z20 : n0 ≤ h20.size := Nat.le_trans Z0 E20.1
      have CC2 := CC.ext E20
      show own_G p.tables e below _ (T20.setTop (mkF m 34 #[.val (.int p0), .val (.int i), .val (.ref c), .val (.int ex), .val (.int ex), .unset] [(.ref a), (.ref sy)]))
      obtain ⟨cq21, kq21, q21a, q21b, q21c⟩ := isOf hZ e20 CC2.2.2.2.1
      obtain ⟨_, _, ⟨T21, L21, k21, n21⟩, -, X21, ⟨Lc21, hQ21, l21, y21, z21⟩, st21⟩ := X20.virtualBack hx (y := (⟨"java/lang/String", "equals", "(Ljava/lang/Object;)Z"⟩ : MethodName)) (z := (⟨"java/lang/String", "equals", "(Ljava/lang/Object;)Z"⟩ : MethodName)) hown (mvT hZ (hw _ (List.mem_of_getElem? (i := 29) rfl))) (mvT hZ (hw _ (List.mem_of_getElem? (i := 30) rfl))) (notFace_of_selects (args := #[]) (mvT hZ (hw _ (List.mem_of_getElem? (i := 32) rfl)))) (mvT hZ (hw _ (List.mem_of_getElem? (i := 32) rfl))) (mvT hZ (hw _ (List.mem_of_getElem? (i := 31) rfl))) (by decide) (backOf (W := 0) (rm_eqs l Z a0 hw [] sy a c vv bb i n f x cs h20 n0 Z20 CC2 hn hx0 E1 C1 F1 (own_ofV V1) (SC.ext E20) hcs) hZ (hw _ (List.mem_of_getElem? (i := 33) rfl)) (hw _ (List.mem_of_getElem? (i := 22) rfl)) (by decide) (by decide)) q21a q21c (g := (mkF m 34 #[.val (.int p0), .val (.int i), .val (.ref c), .val (.int ex), .val (.int ex), .unset] [(.ref a), (.ref sy)])) rfl (by rw [hml]; rfl) (Steps.refl _) (argsL := [(.ref a)]) (rest := []) (lenOf pd__Ljava_lang_Object__Z rfl) rfl (by show 2 * 0 + _ ≤ _; exact Nat.le_of_eq rfl) (hb hby at_34) (fun _ _ => ⟨rfl, e20, (Nat.le_of_ble_eq_true rfl), (Nat.le_of_ble_eq_true rfl)⟩)
      dsimp only [Pt.U, Pt.locs, Pt.cells, Pt.slots] at X21 l21 y21 z21 st21 hQ21
      subst l21 y21 z21
      obtain ⟨rfl, Nq21, eq21⟩ := hQ21
      have N21 := Fr.app N19 Nq21
      refine own_tr st21 ?_
      have hsym : (if n = 1 ∧ x = (61 : Int32) then (1 : Int32) else 0) = ex := by
        rcases ht with ⟨h1, -, h2⟩ | ⟨h1, -, h2⟩
        · rw [hex, if_pos h1, if_pos h2]
        · rw [hex, if_neg h1, if_neg h2]
      show own_G p.tables e below _ (T21.setTop (mkF m 37 #[.val (.int p0), .val (.int i), .val (.ref c), .val (.int ex), .val (.int ex), .unset] [(.int (if n = 1 ∧ x = (61 : Int32) then (1 : Int32) else 0))]))
      rw [hsym]
      show own_G p.tables e below _ (T21.setTop (mkF m 37 #[.val (.int p0), .val (.int i), .val (.ref c), .val (.int ex), .val (.int ex), .unset] [(.int ex)]))
      refine own_go (fun _ kt => XS.istore X21.here hx rfl (hb hby at_37) rfl (l' := #[.val (.int p0), .val (.int i), .val (.ref c), .val (.int ex), .val (.int ex), .val (.int ex)]) rfl kt) ?_
      show own_G p.tables e below _ (T21.setTop (mkF m 39 #[.val (.int p0), .val (.int i), .val (.ref c), .val (.int ex), .val (.int ex), .val (.int ex)] []))
      refine own_go (fun _ kt => XS.iload X21.here hx rfl (hb hby at_39) rfl kt) ?_
      show own_G p.tables e below _ (T21.setTop (mkF m 41 #[.val (.int p0), .val (.int i), .val (.ref c), .val (.int ex), .val (.int ex), .val (.int ex)] [(.int ex)]))
      refine own_go (fun _ kt => XS.iloadN X21.here hx rfl (hb hby at_41) rfl kt) ?_
      show own_G p.tables e below _ (T21.setTop (mkF m 42 #[.val (.int p0), .val (.int i), .val (.ref c), .val (.int ex), .val (.int ex), .val (.int ex)] [(.int ex), (.int ex)]))
      refine own_go (fun _ kt => XS.icmpNo X21.here hx rfl (hb hby at_42) rfl (teq (rfl : ex = ex)).2 kt) ?_
      show own_G p.tables e below _ (T21.setTop (mkF m 45 #[.val (.int p0), .val (.int i), .val (.ref c), .val (.int ex), .val (.int ex), .val (.int ex)] []))
      refine own_go (fun _ kt => XS.iload X21.here hx rfl (hb hby at_45) rfl kt) ?_
      show own_G p.tables e below _ (T21.setTop (mkF m 47 #[.val (.int p0), .val (.int i), .val (.ref c), .val (.int ex), .val (.int ex), .val (.int ex)] [(.int ex)]))
      refine own_go (fun _ kt => XS.iload X21.here hx rfl (hb hby at_47) rfl kt) ?_
      show own_G p.tables e below _ (T21.setTop (mkF m 49 #[.val (.int p0), .val (.int i), .val (.ref c), .val (.int ex), .val (.int ex), .val (.int ex)] [(.int ex), (.int ex)]))
      refine own_go (fun _ kt => XS.icmpNo X21.here hx rfl (hb hby at_49) rfl (teq (rfl : ex = ex)).2 kt) ?_
      show own_G p.tables e below _ (T21.setTop (mkF m 52 #[.val (.int p0), .val (.int i), .val (.ref c), .val (.int ex), .val (.int ex), .val (.int ex)] []))
      refine own_go (fun _ kt => XS.iconst X21.here hx rfl (hb hby at_52) kt) ?_
      show own_G p.tables e below _ (T21.setTop (mkF m 53 #[.val (.int p0), .val (.int i), .val (.ref c), .val (.int ex), .val (.int ex), .val (.int ex)] [(.int (1 : Int32))]))
      refine own_go (fun _ kt => XS.goto X21.here hx rfl (pc0 := 53) (pc' := 57) rfl (hb hby at_53) (by decide) (by decide) kt) ?_
      show own_G p.tables e below _ (T21.setTop (mkF m 57 #[.val (.int p0), .val (.int i), .val (.ref c), .val (.int ex), .val (.int ex), .val (.int ex)] [(.int (1 : Int32))]))
      exact own_retNW X21 hx (t := .boolean) Bd.returns (by simp) hlk (hb hby at_57) hS20 (Nat.le_trans hk20 (Nat.le_refl _)) (Nat.le_of_ble_eq_true rfl) (Nat.le_of_ble_eq_true rfl) eq21 ⟨rfl, N21⟩
    show own_G p.tables e below _ (T16.setTop (mkF m 12 #[.val (.int p0), .val (.int i), .val (.ref c), .unset, .unset, .unset] []))
    refine own_go (fun _ kt => XS.iloadN X16.here hx rfl (hb hby at_12) rfl kt) ?_
    by_cases hi : i = (0 : Int32)
    · show own_G p.tables e below _ (T16.setTop (mkF m 13 #[.val (.int p0), .val (.int i), .val (.ref c), .unset, .unset, .unset] [(.int i)]))
      refine own_go (fun _ kt => XS.ifNo X16.here hx rfl (hb hby at_13) rfl ((if0 _ _).trans (teq (hi : i = (0 : Int32))).2) kt) ?_
      show own_G p.tables e below _ (T16.setTop (mkF m 16 #[.val (.int p0), .val (.int i), .val (.ref c), .unset, .unset, .unset] []))
      refine own_go (fun _ kt => XS.iconst X16.here hx rfl (hb hby at_16) kt) ?_
      show own_G p.tables e below _ (T16.setTop (mkF m 17 #[.val (.int p0), .val (.int i), .val (.ref c), .unset, .unset, .unset] [(.int (1 : Int32))]))
      refine own_go (fun _ kt => XS.goto X16.here hx rfl (pc0 := 17) (pc' := 21) rfl (hb hby at_17) (by decide) (by decide) kt) ?_
      show own_G p.tables e below _ (T16.setTop (mkF m 21 #[.val (.int p0), .val (.int i), .val (.ref c), .unset, .unset, .unset] [(.int (1 : Int32))]))
      refine own_go (fun _ kt => XS.istoreN X16.here hx rfl (hb hby at_21) rfl (l' := #[.val (.int p0), .val (.int i), .val (.ref c), .val (.int (1 : Int32)), .unset, .unset]) rfl kt) ?_
      show own_G p.tables e below _ (T16.setTop (mkF m 22 #[.val (.int p0), .val (.int i), .val (.ref c), .val (.int (1 : Int32)), .unset, .unset] []))
      have qq := j22 _ _ X16 e16 N16
      rw [hex, if_pos hi] at qq
      exact qq
    · show own_G p.tables e below _ (T16.setTop (mkF m 13 #[.val (.int p0), .val (.int i), .val (.ref c), .unset, .unset, .unset] [(.int i)]))
      refine own_go (fun _ kt => XS.ifYes X16.here hx rfl (pc0 := 13) (pc' := 20) rfl (hb hby at_13) rfl ((if0 _ _).trans (feq (hi : ¬ (i = (0 : Int32)))).2) (by decide) (by decide) kt) ?_
      show own_G p.tables e below _ (T16.setTop (mkF m 20 #[.val (.int p0), .val (.int i), .val (.ref c), .unset, .unset, .unset] []))
      refine own_go (fun _ kt => XS.iconst X16.here hx rfl (hb hby at_20) kt) ?_
      show own_G p.tables e below _ (T16.setTop (mkF m 21 #[.val (.int p0), .val (.int i), .val (.ref c), .unset, .unset, .unset] [(.int (0 : Int32))]))
      refine own_go (fun _ kt => XS.istoreN X16.here hx rfl (hb hby at_21) rfl (l' := #[.val (.int p0), .val (.int i), .val (.ref c), .val (.int (0 : Int32)), .unset, .unset]) rfl kt) ?_
      show own_G p.tables e below _ (T16.setTop (mkF m 22 #[.val (.int p0), .val (.int i), .val (.ref c), .val (.int (0 : Int32)), .unset, .unset] []))
      have qq := j22 _ _ X16 e16 N16
      rw [hex, if_neg hi] at qq
      exact qq
  show own_G p.tables e below _ (s₁.setTop (mkF m 0 #[.val (.int p0), .unset, .unset, .unset, .unset, .unset] []))
  refine own_go (fun _ kt => XS.iloadN X0.here hx rfl (hb hby at_0) rfl kt) ?_
  show own_G p.tables e below _ (s₁.setTop (mkF m 1 #[.val (.int p0), .unset, .unset, .unset, .unset, .unset] [(.int p0)]))
  refine own_go (X0.ldcInt hx hown (mvT hZ (hw _ (List.mem_of_getElem? (i := 0) rfl))) (g := (mkF m 1 #[.val (.int p0), .unset, .unset, .unset, .unset, .unset] [(.int p0)])) rfl (hb hby at_1)) ?_
  show own_G p.tables e below _ (s₁.setTop (mkF m 3 #[.val (.int p0), .unset, .unset, .unset, .unset, .unset] [(.int (2147483647 : Int32)), (.int p0)]))
  refine own_go (fun _ kt => XS.iand X0.here hx rfl (hb hby at_3) rfl kt) ?_
  show own_G p.tables e below _ (s₁.setTop (mkF m 4 #[.val (.int p0), .unset, .unset, .unset, .unset, .unset] [(.int (p0 &&& (2147483647 : Int32)))]))
  refine own_go (fun _ kt => XS.iconst X0.here hx rfl (hb hby at_4) kt) ?_
  show own_G p.tables e below _ (s₁.setTop (mkF m 5 #[.val (.int p0), .unset, .unset, .unset, .unset, .unset] [(.int (5 : Int32)), (.int (p0 &&& (2147483647 : Int32)))]))
  refine own_go (fun _ kt => XS.irem X0.here hx rfl (hb hby at_5) rfl (by decide) kt) ?_
  rw [own_irem]
  have hi := own_rm5 p0
  show own_G p.tables e below _ (s₁.setTop (mkF m 6 #[.val (.int p0), .unset, .unset, .unset, .unset, .unset] [(.int ((p0 &&& (2147483647 : Int32)) % (5 : Int32)))]))
  generalize (p0 &&& (2147483647 : Int32)) % (5 : Int32) = i at hi ⊢
  show own_G p.tables e below _ (s₁.setTop (mkF m 6 #[.val (.int p0), .unset, .unset, .unset, .unset, .unset] [(.int i)]))
  refine own_go (fun _ kt => XS.istoreN X0.here hx rfl (hb hby at_6) rfl (l' := #[.val (.int p0), .val (.int i), .unset, .unset, .unset, .unset]) rfl kt) ?_
  show own_G p.tables e below _ (s₁.setTop (mkF m 7 #[.val (.int p0), .val (.int i), .unset, .unset, .unset, .unset] []))
  refine own_go (fun _ kt => XS.iloadN X0.here hx rfl (hb hby at_7) rfl kt) ?_
  rcases hi with rfl | rfl | rfl | rfl | rfl
  · show own_G p.tables e below _ (s₁.setTop (mkF m 8 #[.val (.int p0), .val (.int (0 : Int32)), .unset, .unset, .unset, .unset] [(.int (0 : Int32))]))
    obtain ⟨_, _, ⟨T22, L22, k22, n22⟩, -, X22, ⟨Lc22, hQ22, l22, y22, z22⟩, st22⟩ := Jvm.LawKit.callS X0 hx (y := (⟨"com/example/gather_fields/gatherfields/design/ComparisonIsEqualityPinLaw", "pick", "(I)Lcom/example/gather_fields/gatherfields/design/Comparison;"⟩ : MethodName)) hown (mvT hZ (hw _ (List.mem_of_getElem? (i := 1) rfl))) (mvT hZ (hw _ (List.mem_of_getElem? (i := 2) rfl))) (mvT hZ (hw _ (List.mem_of_getElem? (i := 3) rfl))) (mvT hZ (hw _ (List.mem_of_getElem? (i := 4) rfl))) (by decide) (backOf (W := 0) (rm_pick0 l Z a0 hw [] (0 : Int32) c0 h0 n0 Z0 rfl S0) hZ (hw _ (List.mem_of_getElem? (i := 4) rfl)) (hw _ (List.mem_of_getElem? (i := 3) rfl)) (by decide) (by decide)) (g := (mkF m 8 #[.val (.int p0), .val (.int (0 : Int32)), .unset, .unset, .unset, .unset] [(.int (0 : Int32))])) rfl (by rw [hml]; rfl) (argsL := [(.int (0 : Int32))]) (rest := []) (lenOf pd__I_Lcom_example_gather_fields_gatherfields_design_Comparison_ rfl) rfl (by show 2 * 0 + _ ≤ _; exact Nat.le_of_eq rfl) (hb hby at_8) (fun _ _ => ⟨rfl, e0, (Nat.le_of_ble_eq_true rfl), (Nat.le_of_ble_eq_true rfl)⟩)
    dsimp only [Pt.U, Pt.locs, Pt.cells, Pt.slots] at X22 l22 y22 z22 st22 hQ22
    subst l22 y22 z22
    obtain ⟨rfl, Nq22, eq22⟩ := hQ22
    have N22 := Fr.app N0 Nq22
    refine own_go st22 ?_
    show own_G p.tables e below _ (T22.setTop (mkF m 11 #[.val (.int p0), .val (.int (0 : Int32)), .unset, .unset, .unset, .unset] [(.ref c0)]))
    refine own_go (fun _ kt => XS.astoreN X22.here hx rfl (hb hby at_11) rfl rfl (l' := #[.val (.int p0), .val (.int (0 : Int32)), .val (.ref c0), .unset, .unset, .unset]) rfl kt) ?_
    show own_G p.tables e below _ (T22.setTop (mkF m 12 #[.val (.int p0), .val (.int (0 : Int32)), .val (.ref c0), .unset, .unset, .unset] []))
    exact j12 _ _ (0 : Int32) c0 s0 v0 1 _ 61 X22 eq22 N22  C0 (by decide) rfl (Or.inl ⟨rfl, rfl, rfl, rfl⟩)
  · show own_G p.tables e below _ (s₁.setTop (mkF m 8 #[.val (.int p0), .val (.int (1 : Int32)), .unset, .unset, .unset, .unset] [(.int (1 : Int32))]))
    obtain ⟨_, _, ⟨T23, L23, k23, n23⟩, -, X23, ⟨Lc23, hQ23, l23, y23, z23⟩, st23⟩ := Jvm.LawKit.callS X0 hx (y := (⟨"com/example/gather_fields/gatherfields/design/ComparisonIsEqualityPinLaw", "pick", "(I)Lcom/example/gather_fields/gatherfields/design/Comparison;"⟩ : MethodName)) hown (mvT hZ (hw _ (List.mem_of_getElem? (i := 1) rfl))) (mvT hZ (hw _ (List.mem_of_getElem? (i := 2) rfl))) (mvT hZ (hw _ (List.mem_of_getElem? (i := 3) rfl))) (mvT hZ (hw _ (List.mem_of_getElem? (i := 4) rfl))) (by decide) (backOf (W := 0) (rm_pick1 l Z a0 hw [] (1 : Int32) c1 h0 n0 Z0 rfl S1) hZ (hw _ (List.mem_of_getElem? (i := 4) rfl)) (hw _ (List.mem_of_getElem? (i := 3) rfl)) (by decide) (by decide)) (g := (mkF m 8 #[.val (.int p0), .val (.int (1 : Int32)), .unset, .unset, .unset, .unset] [(.int (1 : Int32))])) rfl (by rw [hml]; rfl) (argsL := [(.int (1 : Int32))]) (rest := []) (lenOf pd__I_Lcom_example_gather_fields_gatherfields_design_Comparison_ rfl) rfl (by show 2 * 0 + _ ≤ _; exact Nat.le_of_eq rfl) (hb hby at_8) (fun _ _ => ⟨rfl, e0, (Nat.le_of_ble_eq_true rfl), (Nat.le_of_ble_eq_true rfl)⟩)
    dsimp only [Pt.U, Pt.locs, Pt.cells, Pt.slots] at X23 l23 y23 z23 st23 hQ23
    subst l23 y23 z23
    obtain ⟨rfl, Nq23, eq23⟩ := hQ23
    have N23 := Fr.app N0 Nq23
    refine own_go st23 ?_
    show own_G p.tables e below _ (T23.setTop (mkF m 11 #[.val (.int p0), .val (.int (1 : Int32)), .unset, .unset, .unset, .unset] [(.ref c1)]))
    refine own_go (fun _ kt => XS.astoreN X23.here hx rfl (hb hby at_11) rfl rfl (l' := #[.val (.int p0), .val (.int (1 : Int32)), .val (.ref c1), .unset, .unset, .unset]) rfl kt) ?_
    show own_G p.tables e below _ (T23.setTop (mkF m 12 #[.val (.int p0), .val (.int (1 : Int32)), .val (.ref c1), .unset, .unset, .unset] []))
    exact j12 _ _ (1 : Int32) c1 s1 v1 1 _ 60 X23 eq23 N23  C1 (by decide) rfl (Or.inr ⟨by decide, fun q => absurd (own_uniq C1.2.1 (q ▸ C0.2.1)) (by decide), by decide⟩)
  · show own_G p.tables e below _ (s₁.setTop (mkF m 8 #[.val (.int p0), .val (.int (2 : Int32)), .unset, .unset, .unset, .unset] [(.int (2 : Int32))]))
    obtain ⟨_, _, ⟨T24, L24, k24, n24⟩, -, X24, ⟨Lc24, hQ24, l24, y24, z24⟩, st24⟩ := Jvm.LawKit.callS X0 hx (y := (⟨"com/example/gather_fields/gatherfields/design/ComparisonIsEqualityPinLaw", "pick", "(I)Lcom/example/gather_fields/gatherfields/design/Comparison;"⟩ : MethodName)) hown (mvT hZ (hw _ (List.mem_of_getElem? (i := 1) rfl))) (mvT hZ (hw _ (List.mem_of_getElem? (i := 2) rfl))) (mvT hZ (hw _ (List.mem_of_getElem? (i := 3) rfl))) (mvT hZ (hw _ (List.mem_of_getElem? (i := 4) rfl))) (by decide) (backOf (W := 0) (rm_pick2 l Z a0 hw [] (2 : Int32) c2 h0 n0 Z0 rfl S2) hZ (hw _ (List.mem_of_getElem? (i := 4) rfl)) (hw _ (List.mem_of_getElem? (i := 3) rfl)) (by decide) (by decide)) (g := (mkF m 8 #[.val (.int p0), .val (.int (2 : Int32)), .unset, .unset, .unset, .unset] [(.int (2 : Int32))])) rfl (by rw [hml]; rfl) (argsL := [(.int (2 : Int32))]) (rest := []) (lenOf pd__I_Lcom_example_gather_fields_gatherfields_design_Comparison_ rfl) rfl (by show 2 * 0 + _ ≤ _; exact Nat.le_of_eq rfl) (hb hby at_8) (fun _ _ => ⟨rfl, e0, (Nat.le_of_ble_eq_true rfl), (Nat.le_of_ble_eq_true rfl)⟩)
    dsimp only [Pt.U, Pt.locs, Pt.cells, Pt.slots] at X24 l24 y24 z24 st24 hQ24
    subst l24 y24 z24
    obtain ⟨rfl, Nq24, eq24⟩ := hQ24
    have N24 := Fr.app N0 Nq24
    refine own_go st24 ?_
    show own_G p.tables e below _ (T24.setTop (mkF m 11 #[.val (.int p0), .val (.int (2 : Int32)), .unset, .unset, .unset, .unset] [(.ref c2)]))
    refine own_go (fun _ kt => XS.astoreN X24.here hx rfl (hb hby at_11) rfl rfl (l' := #[.val (.int p0), .val (.int (2 : Int32)), .val (.ref c2), .unset, .unset, .unset]) rfl kt) ?_
    show own_G p.tables e below _ (T24.setTop (mkF m 12 #[.val (.int p0), .val (.int (2 : Int32)), .val (.ref c2), .unset, .unset, .unset] []))
    exact j12 _ _ (2 : Int32) c2 s2 v2 2 _ 60 X24 eq24 N24  C2 (by decide) rfl (Or.inr ⟨by decide, fun q => absurd (own_uniq C2.2.1 (q ▸ C0.2.1)) (by decide), by decide⟩)
  · show own_G p.tables e below _ (s₁.setTop (mkF m 8 #[.val (.int p0), .val (.int (3 : Int32)), .unset, .unset, .unset, .unset] [(.int (3 : Int32))]))
    obtain ⟨_, _, ⟨T25, L25, k25, n25⟩, -, X25, ⟨Lc25, hQ25, l25, y25, z25⟩, st25⟩ := Jvm.LawKit.callS X0 hx (y := (⟨"com/example/gather_fields/gatherfields/design/ComparisonIsEqualityPinLaw", "pick", "(I)Lcom/example/gather_fields/gatherfields/design/Comparison;"⟩ : MethodName)) hown (mvT hZ (hw _ (List.mem_of_getElem? (i := 1) rfl))) (mvT hZ (hw _ (List.mem_of_getElem? (i := 2) rfl))) (mvT hZ (hw _ (List.mem_of_getElem? (i := 3) rfl))) (mvT hZ (hw _ (List.mem_of_getElem? (i := 4) rfl))) (by decide) (backOf (W := 0) (rm_pick3 l Z a0 hw [] (3 : Int32) c3 h0 n0 Z0 rfl S3) hZ (hw _ (List.mem_of_getElem? (i := 4) rfl)) (hw _ (List.mem_of_getElem? (i := 3) rfl)) (by decide) (by decide)) (g := (mkF m 8 #[.val (.int p0), .val (.int (3 : Int32)), .unset, .unset, .unset, .unset] [(.int (3 : Int32))])) rfl (by rw [hml]; rfl) (argsL := [(.int (3 : Int32))]) (rest := []) (lenOf pd__I_Lcom_example_gather_fields_gatherfields_design_Comparison_ rfl) rfl (by show 2 * 0 + _ ≤ _; exact Nat.le_of_eq rfl) (hb hby at_8) (fun _ _ => ⟨rfl, e0, (Nat.le_of_ble_eq_true rfl), (Nat.le_of_ble_eq_true rfl)⟩)
    dsimp only [Pt.U, Pt.locs, Pt.cells, Pt.slots] at X25 l25 y25 z25 st25 hQ25
    subst l25 y25 z25
    obtain ⟨rfl, Nq25, eq25⟩ := hQ25
    have N25 := Fr.app N0 Nq25
    refine own_go st25 ?_
    show own_G p.tables e below _ (T25.setTop (mkF m 11 #[.val (.int p0), .val (.int (3 : Int32)), .unset, .unset, .unset, .unset] [(.ref c3)]))
    refine own_go (fun _ kt => XS.astoreN X25.here hx rfl (hb hby at_11) rfl rfl (l' := #[.val (.int p0), .val (.int (3 : Int32)), .val (.ref c3), .unset, .unset, .unset]) rfl kt) ?_
    show own_G p.tables e below _ (T25.setTop (mkF m 12 #[.val (.int p0), .val (.int (3 : Int32)), .val (.ref c3), .unset, .unset, .unset] []))
    exact j12 _ _ (3 : Int32) c3 s3 v3 1 _ 62 X25 eq25 N25  C3 (by decide) rfl (Or.inr ⟨by decide, fun q => absurd (own_uniq C3.2.1 (q ▸ C0.2.1)) (by decide), by decide⟩)
  · show own_G p.tables e below _ (s₁.setTop (mkF m 8 #[.val (.int p0), .val (.int (4 : Int32)), .unset, .unset, .unset, .unset] [(.int (4 : Int32))]))
    obtain ⟨_, _, ⟨T26, L26, k26, n26⟩, -, X26, ⟨Lc26, hQ26, l26, y26, z26⟩, st26⟩ := Jvm.LawKit.callS X0 hx (y := (⟨"com/example/gather_fields/gatherfields/design/ComparisonIsEqualityPinLaw", "pick", "(I)Lcom/example/gather_fields/gatherfields/design/Comparison;"⟩ : MethodName)) hown (mvT hZ (hw _ (List.mem_of_getElem? (i := 1) rfl))) (mvT hZ (hw _ (List.mem_of_getElem? (i := 2) rfl))) (mvT hZ (hw _ (List.mem_of_getElem? (i := 3) rfl))) (mvT hZ (hw _ (List.mem_of_getElem? (i := 4) rfl))) (by decide) (backOf (W := 0) (rm_pick4 l Z a0 hw [] (4 : Int32) c4 h0 n0 Z0 rfl S4) hZ (hw _ (List.mem_of_getElem? (i := 4) rfl)) (hw _ (List.mem_of_getElem? (i := 3) rfl)) (by decide) (by decide)) (g := (mkF m 8 #[.val (.int p0), .val (.int (4 : Int32)), .unset, .unset, .unset, .unset] [(.int (4 : Int32))])) rfl (by rw [hml]; rfl) (argsL := [(.int (4 : Int32))]) (rest := []) (lenOf pd__I_Lcom_example_gather_fields_gatherfields_design_Comparison_ rfl) rfl (by show 2 * 0 + _ ≤ _; exact Nat.le_of_eq rfl) (hb hby at_8) (fun _ _ => ⟨rfl, e0, (Nat.le_of_ble_eq_true rfl), (Nat.le_of_ble_eq_true rfl)⟩)
    dsimp only [Pt.U, Pt.locs, Pt.cells, Pt.slots] at X26 l26 y26 z26 st26 hQ26
    subst l26 y26 z26
    obtain ⟨rfl, Nq26, eq26⟩ := hQ26
    have N26 := Fr.app N0 Nq26
    refine own_go st26 ?_
    show own_G p.tables e below _ (T26.setTop (mkF m 11 #[.val (.int p0), .val (.int (4 : Int32)), .unset, .unset, .unset, .unset] [(.ref c4)]))
    refine own_go (fun _ kt => XS.astoreN X26.here hx rfl (hb hby at_11) rfl rfl (l' := #[.val (.int p0), .val (.int (4 : Int32)), .val (.ref c4), .unset, .unset, .unset]) rfl kt) ?_
    show own_G p.tables e below _ (T26.setTop (mkF m 12 #[.val (.int p0), .val (.int (4 : Int32)), .val (.ref c4), .unset, .unset, .unset] []))
    exact j12 _ _ (4 : Int32) c4 s4 v4 2 _ 62 X26 eq26 N26  C4 (by decide) rfl (Or.inr ⟨by decide, fun q => absurd (own_uniq C4.2.1 (q ▸ C0.2.1)) (by decide), by decide⟩)
theorem own_eqi {t : Term} {k : Int32} {args : Array Value} {first s : State} {o : Option Outcome} {idx : List Nat} (h : (Jvm.Cond.eq t (Term.int k)).value args first o s idx = some true) : t.eval args first o idx s = some (.int k) := by
  simp only [Cond.value, Term.eval] at h
  cases ht : t.eval args first o idx s with
  | none => simp [ht] at h
  | some x => cases x <;> simp [ht] at h ⊢; exact h
theorem own_size {t : Term} {k : Int32} {args : Array Value} {s : State} {a : Addr} {cl : Cell} {ty : FieldType} (ev : t.eval args s none [] s = some (.ref a)) (A : Arr s s.heap a cl ty) (h : (Jvm.Cond.eq (Term.length t) (Term.int k)).value args s none s [] = some true) (hk : ¬ k < 0) : cl.slots.size = k.toNatClampNeg := by
  have q := own_eqi h
  have ha : s.arrayAt? a = some cl := Arr.fin (U := s) (State.Warmed39.refl s).alike A
  simp [Term.eval, ev, ha] at q
  rw [← q.2]
  simp only [Int32.toNatClampNeg, len_toInt q.1]
  rfl
theorem own_el {t : Term} {j k : Int32} {args : Array Value} {s : State} {a : Addr} {cl : Cell} {ty : FieldType} (ev : t.eval args s none [] s = some (.ref a)) (A : Arr s s.heap a cl ty) (h : (Jvm.Cond.eq (Term.elem t (Term.int j)) (Term.int k)).value args s none s [] = some true) (hj : ¬ j < 0) : cl.slots[j.toNatClampNeg]? = some (.int k) := by
  have q := own_eqi h
  have ha : s.arrayAt? a = some cl := Arr.fin (U := s) (State.Warmed39.refl s).alike A
  rw [elem_f ev (Term.int_eval j) ha hj] at q
  exact q
theorem own_A1 {Z : State} {h : Heap} {a : Addr} {cl : Cell} {x : Int32} (A : Arr Z h a cl .byte) (S : cl.slots.size = (1 : Int32).toNatClampNeg) (h0 : cl.slots[(0 : Int32).toNatClampNeg]? = some (.int x)) : own_A Z h a .byte 1 (own_l [x]) := by
  refine ⟨cl, A, S, fun j hj => ?_⟩
  have e : j = 0 := by omega
  subst e
  exact h0
theorem own_A2 {Z : State} {h : Heap} {a : Addr} {cl : Cell} {x y : Int32} (A : Arr Z h a cl .byte) (S : cl.slots.size = (2 : Int32).toNatClampNeg) (h0 : cl.slots[(0 : Int32).toNatClampNeg]? = some (.int x)) (h1 : cl.slots[(1 : Int32).toNatClampNeg]? = some (.int y)) : own_A Z h a .byte 2 (own_l [x, y]) := by
  refine ⟨cl, A, S, fun j hj => ?_⟩
  have e : j = 0 ∨ j = 1 := by omega
  rcases e with rfl | rfl
  · exact h0
  · exact h1
set_option maxRecDepth 65536 in
set_option maxHeartbeats 40000000 in
theorem comes_1 {Post : Tables → Env → Array Value → State → Outcome → State → Prop} (hpost : ∀ tb e args s v u, (limb_1_1.after args s (.returned v) u = true ∧ limb_1_2.after args s (.returned v) u = true ∧ True) → ReturnedEndW s (.returned v) u (Jvm.fieldLocs frame_1_writes args s ++ Jvm.arrayLocs frame_1_arrays args s ++ Jvm.staticLocs frame_1_statics s) 8 1088 → Post tb e args s (.returned v) u) :
    ArmFor flags0 classFile x code maxLocals ret World_1 tables_1 room_1 Calls_1 rest_1 Pre_1 Post := by
  intro l hfl _ _ p e ha hc hk s m args below hf hA hF happ hP
  obtain ⟨hcalls, hrest, hpre⟩ := hP
  obtain ⟨-, -, -, hnamed, -, -, -, hat⟩ := (Spec.applies_iff hf).mp happ
  obtain ⟨hg, hn⟩ := and_e (Cond.before_iff.mp (show (Jvm.Cond.and given_1 narrow_1).before args s = true from hpre))
  obtain ⟨a0', b0'⟩ := and_e hg
  obtain ⟨w0, rfl⟩ : ∃ w0 : Value, args = #[w0] := by
    have hs : args.size = 1 := by simpa [Cond.value, given_1] using a0'
    obtain ⟨L⟩ := args
    match L, hs with
    | [w0], _ => exact ⟨w0, rfl⟩
  have hw := fun d (hd : d ∈ tables_1) => atoms_spec (ws := Jvm.Cond.code x code maxLocals ret :: tables_1) hat d (List.mem_cons_of_mem _ hd)
  obtain ⟨i0, ei0⟩ := is_v b0'
  obtain rfl : w0 = (.int i0) := Option.some.inj ei0
  obtain ⟨hsets, hown0⟩ := atoms_of _ (rest_1_c_eq ▸ (show rest_1_c.before _ s = true from hrest))
  obtain ⟨n0, m0⟩ := and_e hn
  obtain ⟨n1, m1⟩ := and_e m0
  obtain ⟨n2, m2⟩ := and_e m1
  obtain ⟨n3, m3⟩ := and_e m2
  obtain ⟨n4, m4⟩ := and_e m3
  obtain ⟨n5, m5⟩ := and_e m4
  obtain ⟨n6, m6⟩ := and_e m5
  obtain ⟨n7, m7⟩ := and_e m6
  obtain ⟨n8, m8⟩ := and_e m7
  obtain ⟨n9, m9⟩ := and_e m8
  obtain ⟨n10, m10⟩ := and_e m9
  obtain ⟨n11, m11⟩ := and_e m10
  obtain ⟨n12, m12⟩ := and_e m11
  obtain ⟨n13, m13⟩ := and_e m12
  obtain ⟨n14, m14⟩ := and_e m13
  obtain ⟨n15, m15⟩ := and_e m14
  obtain ⟨n16, m16⟩ := and_e m15
  obtain ⟨n17, m17⟩ := and_e m16
  obtain ⟨n18, m18⟩ := and_e m17
  obtain ⟨n19, m19⟩ := and_e m18
  obtain ⟨n20, m20⟩ := and_e m19
  obtain ⟨n21, m21⟩ := and_e m20
  obtain ⟨n22, m22⟩ := and_e m21
  obtain ⟨n23, m23⟩ := and_e m22
  obtain ⟨n24, m24⟩ := and_e m23
  obtain ⟨n25, m25⟩ := and_e m24
  obtain ⟨n26, m26⟩ := and_e m25
  obtain ⟨n27, m27⟩ := and_e m26
  obtain ⟨n28, m28⟩ := and_e m27
  obtain ⟨n29, m29⟩ := and_e m28
  obtain ⟨n30, m30⟩ := and_e m29
  obtain ⟨n31, m31⟩ := and_e m30
  obtain ⟨n32, m32⟩ := and_e m31
  obtain ⟨n33, m33⟩ := and_e m32
  obtain ⟨n34, m34⟩ := and_e m33
  obtain ⟨n35, m35⟩ := and_e m34
  have n36 := m35
  obtain ⟨c0, ec0⟩ := exa_v n0
  have E0 := Exa.start ec0 n0
  have S0 := Sta.start ec0 (Or.inr ⟨(hw _ (List.mem_of_getElem? (i := 6) rfl)), (hw _ (List.mem_of_getElem? (i := 7) rfl))⟩)
  have O0 := Fld.start ((fld_at ec0).symm.trans (own_eqi n8))
  obtain ⟨s0, es0⟩ := exa_v n1
  have Y0 := Fld.start ((fld_at ec0).symm.trans es0)
  have ES0 := Exa.start es0 n1
  have CO0 := Fld.start ((fld_at es0).symm.trans (own_eqi n2))
  obtain ⟨v0, ev0⟩ := arr_v n3
  have VA0 := Fld.start ((fld_at es0).symm.trans ev0)
  obtain ⟨cl0, AR0⟩ := Arr.start ev0 n3
  have C0 : own_C s s.heap c0 s0 v0 0 1 (own_l [61]) := ⟨E0, O0, Y0, ES0, CO0, VA0, own_A1 AR0 (own_size ev0 AR0 n4 (by decide)) (own_el ev0 AR0 n5 (by decide))⟩
  obtain ⟨c1, ec1⟩ := exa_v n14
  have E1 := Exa.start ec1 n14
  have S1 := Sta.start ec1 (Or.inr ⟨(hw _ (List.mem_of_getElem? (i := 6) rfl)), (hw _ (List.mem_of_getElem? (i := 46) rfl))⟩)
  have O1 := Fld.start ((fld_at ec1).symm.trans (own_eqi n15))
  obtain ⟨s1, es1⟩ := exa_v n16
  have Y1 := Fld.start ((fld_at ec1).symm.trans es1)
  have ES1 := Exa.start es1 n16
  have CO1 := Fld.start ((fld_at es1).symm.trans (own_eqi n17))
  obtain ⟨v1, ev1⟩ := arr_v n18
  have VA1 := Fld.start ((fld_at es1).symm.trans ev1)
  obtain ⟨cl1, AR1⟩ := Arr.start ev1 n18
  have C1 : own_C s s.heap c1 s1 v1 1 1 (own_l [60]) := ⟨E1, O1, Y1, ES1, CO1, VA1, own_A1 AR1 (own_size ev1 AR1 n19 (by decide)) (own_el ev1 AR1 n20 (by decide))⟩
  obtain ⟨c2, ec2⟩ := exa_v n27
  have E2 := Exa.start ec2 n27
  have S2 := Sta.start ec2 (Or.inr ⟨(hw _ (List.mem_of_getElem? (i := 6) rfl)), (hw _ (List.mem_of_getElem? (i := 50) rfl))⟩)
  have O2 := Fld.start ((fld_at ec2).symm.trans (own_eqi n28))
  obtain ⟨s2, es2⟩ := exa_v n29
  have Y2 := Fld.start ((fld_at ec2).symm.trans es2)
  have ES2 := Exa.start es2 n29
  have CO2 := Fld.start ((fld_at es2).symm.trans (own_eqi n30))
  obtain ⟨v2, ev2⟩ := arr_v n31
  have VA2 := Fld.start ((fld_at es2).symm.trans ev2)
  obtain ⟨cl2, AR2⟩ := Arr.start ev2 n31
  have C2 : own_C s s.heap c2 s2 v2 2 2 (own_l [60, 61]) := ⟨E2, O2, Y2, ES2, CO2, VA2, own_A2 AR2 (own_size ev2 AR2 n32 (by decide)) (own_el ev2 AR2 n35 (by decide)) (own_el ev2 AR2 n36 (by decide))⟩
  obtain ⟨c3, ec3⟩ := exa_v n6
  have E3 := Exa.start ec3 n6
  have S3 := Sta.start ec3 (Or.inr ⟨(hw _ (List.mem_of_getElem? (i := 6) rfl)), (hw _ (List.mem_of_getElem? (i := 44) rfl))⟩)
  have O3 := Fld.start ((fld_at ec3).symm.trans (own_eqi n7))
  obtain ⟨s3, es3⟩ := exa_v n9
  have Y3 := Fld.start ((fld_at ec3).symm.trans es3)
  have ES3 := Exa.start es3 n9
  have CO3 := Fld.start ((fld_at es3).symm.trans (own_eqi n10))
  obtain ⟨v3, ev3⟩ := arr_v n11
  have VA3 := Fld.start ((fld_at es3).symm.trans ev3)
  obtain ⟨cl3, AR3⟩ := Arr.start ev3 n11
  have C3 : own_C s s.heap c3 s3 v3 3 1 (own_l [62]) := ⟨E3, O3, Y3, ES3, CO3, VA3, own_A1 AR3 (own_size ev3 AR3 n12 (by decide)) (own_el ev3 AR3 n13 (by decide))⟩
  obtain ⟨c4, ec4⟩ := exa_v n21
  have E4 := Exa.start ec4 n21
  have S4 := Sta.start ec4 (Or.inr ⟨(hw _ (List.mem_of_getElem? (i := 6) rfl)), (hw _ (List.mem_of_getElem? (i := 48) rfl))⟩)
  have O4 := Fld.start ((fld_at ec4).symm.trans (own_eqi n22))
  obtain ⟨s4, es4⟩ := exa_v n23
  have Y4 := Fld.start ((fld_at ec4).symm.trans es4)
  have ES4 := Exa.start es4 n23
  have CO4 := Fld.start ((fld_at es4).symm.trans (own_eqi n24))
  obtain ⟨v4, ev4⟩ := arr_v n25
  have VA4 := Fld.start ((fld_at es4).symm.trans ev4)
  obtain ⟨cl4, AR4⟩ := Arr.start ev4 n25
  have C4 : own_C s s.heap c4 s4 v4 4 2 (own_l [62, 61]) := ⟨E4, O4, Y4, ES4, CO4, VA4, own_A2 AR4 (own_size ev4 AR4 n26 (by decide)) (own_el ev4 AR4 n33 (by decide)) (own_el ev4 AR4 n34 (by decide))⟩
  have r0 := hsets _ (List.mem_of_getElem? (i := 0) rfl)
  obtain ⟨cs, ecs⟩ := is_v (Cond.before_iff.mp (hsets _ (List.mem_of_getElem? (i := 1) rfl)))
  have SC := Sta.start ecs (Or.inl r0)
  have hcw0 := hsets _ (List.mem_of_getElem? (i := 2) rfl)
  have hcs : ¬ cs = (0 : Int32) := fun q => by
    have q1 := not_v (Cond.before_iff.mp hcw0)
    rw [eq_i ecs (Term.int_eval 0) (by rw [q])] at q1
    cases q1
  have hheld : Jvm.Lit.constHeld s "com/example/gather_fields/gatherfields/design/ComparisonIsEqualityPinLaw" 40 := hcalls.1 ("com/example/gather_fields/gatherfields/design/ComparisonIsEqualityPinLaw", 40) (List.mem_singleton.mpr rfl)
  obtain ⟨n, o, h1, h2, h3, _, L, rfl, ⟨rfl, N⟩, hq⟩ := rm_law l s _ hw tables_1 i0 c0 c1 c2 c3 c4 s0 s1 s2 s3 s4 v0 v1 v2 v3 v4 cs s.heap s.heap.size (Nat.le_refl _) S0 C0 S1 C1 S2 C2 S3 C3 S4 C4 SC hcs (Nat.le_refl _) rfl hheld hcw0 p e ha hc hk s m _ below hf ((Spec.applies_iff_loose hf).mp happ).1 ⟨rfl, State.Warmed39.refl s, rfl, IB.start⟩ trivial
  refine ⟨n, _, h1, h2, h3, hpost _ _ _ _ _ _ ⟨Cond.after_iff.mpr rfl, Cond.after_iff.mpr (eq_i res_at (Term.int_eval (1)) rfl), trivial⟩ ⟨hq.1, hq.2.1, hq.2.2.1, (hq.2.2.2.sift fun y hy => Or.inr (N y hy)).mono (by decide) (by decide)⟩⟩
theorem main_1_1 : Claimed_1_1 := comes_1 fun _ _ _ _ _ _ h hF => ⟨h.1, hF⟩
theorem main_1_2 : Claimed_1_2 := comes_1 fun _ _ _ _ _ _ h hF => ⟨h.2.1, hF⟩
end Jvm.Pilot.@@N@@
namespace Jvm.Pilot.@@N@@
open Jvm Jvm.ClassFile Sem Op Lib Jvm.Free Jvm.Stand Jvm.Pilot.@@N@@.Jvm.D
/-! MADE BY PROGRAM (witnessworld.py) out of the Statement's table words and the real class files: 18 classes; the members and pool entries that the words name. The judged class is class 1, her method 2. -/
namespace start1
open Jvm.ClassFile
def u (s : String) : CpInfo := .utf8 (stringToUtf16 s)
/-- a pool by its gaps: so many unusable entries, then the entry; so many at the end -/
def gap : Nat → List CpInfo → List CpInfo
  | 0, r => r
  | n + 1, r => .unusable :: gap n r
def poolList (es : List (Nat × CpInfo)) (last : Nat) : List CpInfo := es.foldr (fun e r => gap e.1 (e.2 :: r)) (gap last [])
def pool (es : List (Nat × CpInfo)) (last : Nat) : Array CpInfo := ⟨poolList es last⟩
def fileOf (pool : Array CpInfo) (this : Nat) (attrs : Array Attribute := #[]) (ms : Array MethodInfo := #[]) (fl : Nat := 33) (sup : Nat := 0) (ifs : Array Nat := #[]) (fds : Array FieldInfo := #[]) : ClassFile where
  minorVersion := 0
  majorVersion := 65
  constantPool := pool
  accessFlags := fl
  thisClass := this
  superClass := sup
  interfaces := ifs
  fields := fds
  methods := ms
  attributes := attrs
def plain (name : String) (sup : Option ClassId) : Class where
  name := name
  kind := .ordinary
  loader := none
  accessFlags := 33
  super := sup
  interfaces := #[]
  cf := none
  fields := #[]
  methods := #[]
  instanceTypes := #[]
  staticTypes := #[]
  resolved := #[]
  callSites := []
  init := .initialized
  statics := none
  mirror := none

def pool0 : Array CpInfo := pool [(5, u "<init>"), (0, u "()V"), (1, .class_ 10), (1, u "java/lang/Object")] 113

def k0m0 : Method := { name := "<init>", desc := "()V", sig := { parameters := [], returnType := none }, accessFlags := 1, code := none }
/-- java/lang/Object -/
def k0 : Class := { plain "java/lang/Object" none with
  accessFlags := 33
  interfaces := #[]
  cf := some (fileOf pool0 8 #[] #[{ accessFlags := 1, nameIndex := 5, descriptorIndex := 6, attributes := #[] }] 33 0 #[] #[])
  fields := #[]
  methods := #[k0m0]
  instanceTypes := #[]
  staticTypes := #[]
  resolved := Array.replicate 124 none
  statics := none }

def pool1 : Array CpInfo := pool [(2, .class_ 4), (1, u "java/lang/Object"), (0, u "<init>"), (0, u "()V"), (0, .fieldref 8 9), (0, .class_ 10), (0, .nameAndType 11 12), (0, u "com/example/gather_fields/gatherfields/design/Comparison"), (0, u "EQUAL"), (0, u "Lcom/example/gather_fields/gatherfields/design/Comparison;"), (0, .fieldref 8 14), (0, .nameAndType 15 12), (0, u "LESS"), (0, .fieldref 8 17), (0, .nameAndType 18 12), (0, u "LESS_OR_EQUAL"), (0, .fieldref 8 20), (0, .nameAndType 21 12), (0, u "GREATER"), (0, .fieldref 8 23), (0, .nameAndType 24 12), (0, u "GREATER_OR_EQUAL"), (0, .integer 2147483647), (0, .methodref 27 28), (0, .class_ 29), (0, .nameAndType 30 31), (0, u "com/example/gather_fields/gatherfields/design/ComparisonIsEqualityPinLaw"), (0, u "pick"), (0, u "(I)Lcom/example/gather_fields/gatherfields/design/Comparison;"), (0, .methodref 8 33), (0, .nameAndType 34 35), (0, u "isEquality"), (0, u "()Z"), (0, .methodref 8 37), (0, .nameAndType 38 39), (0, u "symbol"), (0, u "()Ljava/lang/String;"), (0, .string 41), (0, u "="), (0, .methodref 43 44), (0, .class_ 45), (0, .nameAndType 46 47), (0, u "java/lang/String"), (0, u "equals"), (0, u "(Ljava/lang/Object;)Z"), (3, u "law"), (0, u "(I)Z")] 2

def k1m0 : Method := { name := "<init>", desc := "()V", sig := { parameters := [], returnType := none }, accessFlags := 2, code := none }
def k1c1 : Code := { maxStack := 2, maxLocals := 1, code := method_2_code, exceptionTable := #[], attributes := #[] }
def k1m1 : Method := { name := "pick", desc := "(I)Lcom/example/gather_fields/gatherfields/design/Comparison;", sig := { parameters := [.int], returnType := some (.object "com/example/gather_fields/gatherfields/design/Comparison") }, accessFlags := 10, code := some k1c1 }
def k1c2 : Code := { maxStack := 2, maxLocals := 6, code := code, exceptionTable := #[], attributes := #[] }
def k1m2 : Method := { name := "law", desc := "(I)Z", sig := { parameters := [.int], returnType := some .boolean }, accessFlags := 9, code := some k1c2 }
/-- com/example/gather_fields/gatherfields/design/ComparisonIsEqualityPinLaw -/
def k1 : Class := { plain "com/example/gather_fields/gatherfields/design/ComparisonIsEqualityPinLaw" (some 0) with
  accessFlags := 49
  interfaces := #[]
  cf := some (fileOf pool1 27 #[] #[{ accessFlags := 2, nameIndex := 5, descriptorIndex := 6, attributes := #[] }, { accessFlags := 10, nameIndex := 30, descriptorIndex := 31, attributes := #[] }, { accessFlags := 9, nameIndex := 51, descriptorIndex := 52, attributes := #[] }] 49 2 #[] #[])
  fields := #[]
  methods := #[k1m0, k1m1, k1m2]
  instanceTypes := #[]
  staticTypes := #[]
  resolved := Array.replicate 55 none
  statics := none }

def pool2 : Array CpInfo := pool [(1, .class_ 2), (0, u "java/lang/constant/Constable"), (0, .class_ 4), (0, u "java/lang/Object")] 6

/-- java/lang/constant/Constable -/
def k2 : Class := { plain "java/lang/constant/Constable" (some 0) with
  accessFlags := 1537
  interfaces := #[]
  cf := some (fileOf pool2 1 #[] #[] 1537 3 #[] #[])
  fields := #[]
  methods := #[]
  instanceTypes := #[]
  staticTypes := #[]
  resolved := Array.replicate 11 none
  statics := none }

def pool3 : Array CpInfo := pool [(1, .class_ 2), (0, u "java/lang/Comparable"), (0, .class_ 4), (0, u "java/lang/Object")] 7

/-- java/lang/Comparable -/
def k3 : Class := { plain "java/lang/Comparable" (some 0) with
  accessFlags := 1537
  interfaces := #[]
  cf := some (fileOf pool3 1 #[] #[] 1537 3 #[] #[])
  fields := #[]
  methods := #[]
  instanceTypes := #[]
  staticTypes := #[]
  resolved := Array.replicate 12 none
  statics := none }

def pool4 : Array CpInfo := pool [(1, .class_ 2), (0, u "java/io/Serializable"), (0, .class_ 4), (0, u "java/lang/Object")] 2

/-- java/io/Serializable -/
def k4 : Class := { plain "java/io/Serializable" (some 0) with
  accessFlags := 1537
  interfaces := #[]
  cf := some (fileOf pool4 1 #[] #[] 1537 3 #[] #[])
  fields := #[]
  methods := #[]
  instanceTypes := #[]
  staticTypes := #[]
  resolved := Array.replicate 7 none
  statics := none }

def pool5 : Array CpInfo := pool [(2, .class_ 4), (1, u "java/lang/Enum"), (0, u "name"), (0, u "Ljava/lang/String;"), (2, u "ordinal"), (0, u "I"), (1, .class_ 14), (1, u "java/lang/Object"), (4, u "hash"), (86, .class_ 108), (1, u "java/lang/Enum$EnumDesc"), (2, .class_ 112), (0, u "java/lang/constant/Constable"), (0, .class_ 114), (0, u "java/lang/Comparable"), (0, .class_ 116), (0, u "java/io/Serializable")] 87

/-- java/lang/Enum -/
def k5 : Class := { plain "java/lang/Enum" (some 0) with
  accessFlags := 1057
  interfaces := #[2, 3, 4]
  cf := some (fileOf pool5 2 #[.nestMembers #[106]] #[] 1057 12 #[111, 113, 115] #[{ accessFlags := 18, nameIndex := 5, descriptorIndex := 6, attributes := #[] }, { accessFlags := 18, nameIndex := 9, descriptorIndex := 10, attributes := #[] }, { accessFlags := 2, nameIndex := 19, descriptorIndex := 10, attributes := #[] }])
  fields := #[{ name := "name", type := (.object "java/lang/String"), accessFlags := 18, slot := 0, constantValue := 0 }, { name := "ordinal", type := .int, accessFlags := 18, slot := 1, constantValue := 0 }, { name := "hash", type := .int, accessFlags := 2, slot := 2, constantValue := 0 }]
  methods := #[]
  instanceTypes := #[(.object "java/lang/String"), .int, .int]
  staticTypes := #[]
  resolved := Array.replicate 204 none
  statics := none }

def pool6 : Array CpInfo := pool [(1, .class_ 2), (0, u "com/example/gather_fields/gatherfields/design/Comparison"), (0, .fieldref 1 4), (0, .nameAndType 5 6), (0, u "EQUAL"), (0, u "Lcom/example/gather_fields/gatherfields/design/Comparison;"), (2, u "LESS"), (2, u "LESS_OR_EQUAL"), (2, u "GREATER"), (2, u "GREATER_OR_EQUAL"), (2, u "$VALUES"), (0, u "[Lcom/example/gather_fields/gatherfields/design/Comparison;"), (6, .class_ 31), (1, u "java/lang/Enum"), (6, .fieldref 1 39), (0, .nameAndType 40 41), (0, u "symbol"), (0, u "Ljava/lang/String;"), (57, u "()Ljava/lang/String;"), (0, u "isEquality"), (0, u "()Z")] 31

def k6c0 : Code := { maxStack := 1, maxLocals := 1, code := prog_57_method_4_code, exceptionTable := #[], attributes := #[] }
def k6m0 : Method := { name := "symbol", desc := "()Ljava/lang/String;", sig := { parameters := [], returnType := some (.object "java/lang/String") }, accessFlags := 1, code := some k6c0 }
def k6c1 : Code := { maxStack := 2, maxLocals := 1, code := prog_57_method_5_code, exceptionTable := #[], attributes := #[] }
def k6m1 : Method := { name := "isEquality", desc := "()Z", sig := { parameters := [], returnType := some .boolean }, accessFlags := 1, code := some k6c1 }
/-- com/example/gather_fields/gatherfields/design/Comparison -/
def k6 : Class := { plain "com/example/gather_fields/gatherfields/design/Comparison" (some 5) with
  accessFlags := 16433
  interfaces := #[]
  cf := some (fileOf pool6 1 #[] #[{ accessFlags := 1, nameIndex := 40, descriptorIndex := 99, attributes := #[] }, { accessFlags := 1, nameIndex := 100, descriptorIndex := 101, attributes := #[] }] 16433 29 #[] #[{ accessFlags := 16409, nameIndex := 5, descriptorIndex := 6, attributes := #[] }, { accessFlags := 16409, nameIndex := 9, descriptorIndex := 6, attributes := #[] }, { accessFlags := 16409, nameIndex := 12, descriptorIndex := 6, attributes := #[] }, { accessFlags := 16409, nameIndex := 15, descriptorIndex := 6, attributes := #[] }, { accessFlags := 16409, nameIndex := 18, descriptorIndex := 6, attributes := #[] }, { accessFlags := 18, nameIndex := 40, descriptorIndex := 41, attributes := #[] }, { accessFlags := 4122, nameIndex := 21, descriptorIndex := 22, attributes := #[] }])
  fields := #[{ name := "EQUAL", type := (.object "com/example/gather_fields/gatherfields/design/Comparison"), accessFlags := 16409, slot := 0, constantValue := 0 }, { name := "LESS", type := (.object "com/example/gather_fields/gatherfields/design/Comparison"), accessFlags := 16409, slot := 1, constantValue := 0 }, { name := "LESS_OR_EQUAL", type := (.object "com/example/gather_fields/gatherfields/design/Comparison"), accessFlags := 16409, slot := 2, constantValue := 0 }, { name := "GREATER", type := (.object "com/example/gather_fields/gatherfields/design/Comparison"), accessFlags := 16409, slot := 3, constantValue := 0 }, { name := "GREATER_OR_EQUAL", type := (.object "com/example/gather_fields/gatherfields/design/Comparison"), accessFlags := 16409, slot := 4, constantValue := 0 }, { name := "symbol", type := (.object "java/lang/String"), accessFlags := 18, slot := 3, constantValue := 0 }, { name := "$VALUES", type := (.array (.object "com/example/gather_fields/gatherfields/design/Comparison")), accessFlags := 4122, slot := 5, constantValue := 0 }]
  methods := #[k6m0, k6m1]
  instanceTypes := #[(.object "java/lang/String"), .int, .int, (.object "java/lang/String")]
  staticTypes := #[(.object "com/example/gather_fields/gatherfields/design/Comparison"), (.object "com/example/gather_fields/gatherfields/design/Comparison"), (.object "com/example/gather_fields/gatherfields/design/Comparison"), (.object "com/example/gather_fields/gatherfields/design/Comparison"), (.object "com/example/gather_fields/gatherfields/design/Comparison"), (.array (.object "com/example/gather_fields/gatherfields/design/Comparison"))]
  resolved := Array.replicate 133 none
  statics := some 0 }

def pool7 : Array CpInfo := pool [(2, .class_ 4), (1, u "java/lang/CharSequence"), (42, .class_ 48), (0, u "java/lang/CharSequence$1CodePointIterator"), (10, .class_ 60), (0, u "java/lang/CharSequence$1CharIterator"), (5, .class_ 67), (0, u "java/lang/Object")] 63

/-- java/lang/CharSequence -/
def k7 : Class := { plain "java/lang/CharSequence" (some 0) with
  accessFlags := 1537
  interfaces := #[]
  cf := some (fileOf pool7 2 #[.nestMembers #[47, 59]] #[] 1537 66 #[] #[])
  fields := #[]
  methods := #[]
  instanceTypes := #[]
  staticTypes := #[]
  resolved := Array.replicate 131 none
  statics := none }

def pool8 : Array CpInfo := pool [(1, .class_ 2), (0, u "java/lang/constant/ConstantDesc"), (0, .class_ 4), (0, u "java/lang/Object")] 32

/-- java/lang/constant/ConstantDesc -/
def k8 : Class := { plain "java/lang/constant/ConstantDesc" (some 0) with
  accessFlags := 1537
  interfaces := #[]
  cf := some (fileOf pool8 1 #[] #[] 1537 3 #[] #[])
  fields := #[]
  methods := #[]
  instanceTypes := #[]
  staticTypes := #[]
  resolved := Array.replicate 37 none
  statics := none }

def pool9 : Array CpInfo := pool [(2, .class_ 4), (1, u "java/lang/Object"), (0, u "<init>"), (0, u "()V"), (2, .fieldref 10 11), (0, .class_ 12), (0, .nameAndType 13 14), (0, u "java/lang/String"), (0, u "value"), (0, u "[B"), (0, .fieldref 10 16), (0, .nameAndType 17 18), (0, u "coder"), (0, u "B"), (2, u "hash"), (0, u "I"), (2, u "hashIsZero"), (0, u "Z"), (11, .fieldref 10 39), (0, .nameAndType 40 26), (0, u "COMPACT_STRINGS"), (66, .class_ 109), (1, u "java/lang/StringLatin1"), (431, .methodref 107 542), (0, .nameAndType 543 544), (0, u "equals"), (0, u "([B[B)Z"), (28, u "(Ljava/lang/Object;)Z"), (1, .class_ 576), (0, u "java/lang/CharSequence"), (22, u "CASE_INSENSITIVE_ORDER"), (0, u "Ljava/util/Comparator;"), (500, u "serialPersistentFields"), (0, u "[Ljava/io/ObjectStreamField;"), (0, .class_ 1104), (0, u "java/lang/String$CaseInsensitiveComparator"), (1, .class_ 1107), (0, u "java/io/Serializable"), (0, .class_ 1109), (0, u "java/lang/Comparable"), (0, .class_ 1111), (0, u "java/lang/constant/Constable"), (0, .class_ 1113), (0, u "java/lang/constant/ConstantDesc"), (2, u "serialVersionUID"), (0, u "J"), (3, u "REPL"), (0, u "C"), (2, u "LATIN1"), (1, u "UTF16")] 323

def k9m0 : Method := { name := "<init>", desc := "()V", sig := { parameters := [], returnType := none }, accessFlags := 1, code := none }
def k9c1 : Code := { maxStack := 2, maxLocals := 3, code := jdk_42_method_66_code, exceptionTable := #[], attributes := #[] }
def k9m1 : Method := { name := "equals", desc := "(Ljava/lang/Object;)Z", sig := { parameters := [(.object "java/lang/Object")], returnType := some .boolean }, accessFlags := 1, code := some k9c1 }
/-- java/lang/String -/
def k9 : Class := { plain "java/lang/String" (some 0) with
  accessFlags := 49
  interfaces := #[4, 3, 7, 2, 8]
  cf := some (fileOf pool9 10 #[.nestMembers #[1103]] #[{ accessFlags := 1, nameIndex := 5, descriptorIndex := 6, attributes := #[] }, { accessFlags := 1, nameIndex := 543, descriptorIndex := 573, attributes := #[] }] 49 2 #[1106, 1108, 575, 1110, 1112] #[{ accessFlags := 18, nameIndex := 13, descriptorIndex := 14, attributes := #[] }, { accessFlags := 18, nameIndex := 17, descriptorIndex := 18, attributes := #[] }, { accessFlags := 2, nameIndex := 21, descriptorIndex := 22, attributes := #[] }, { accessFlags := 2, nameIndex := 25, descriptorIndex := 26, attributes := #[] }, { accessFlags := 26, nameIndex := 1116, descriptorIndex := 1117, attributes := #[] }, { accessFlags := 24, nameIndex := 40, descriptorIndex := 26, attributes := #[] }, { accessFlags := 26, nameIndex := 1101, descriptorIndex := 1102, attributes := #[] }, { accessFlags := 26, nameIndex := 1121, descriptorIndex := 1122, attributes := #[] }, { accessFlags := 25, nameIndex := 599, descriptorIndex := 600, attributes := #[] }, { accessFlags := 24, nameIndex := 1125, descriptorIndex := 18, attributes := #[] }, { accessFlags := 24, nameIndex := 1127, descriptorIndex := 18, attributes := #[] }])
  fields := #[{ name := "value", type := (.array .byte), accessFlags := 18, slot := 0, constantValue := 0 }, { name := "coder", type := .byte, accessFlags := 18, slot := 1, constantValue := 0 }, { name := "hash", type := .int, accessFlags := 2, slot := 2, constantValue := 0 }, { name := "hashIsZero", type := .boolean, accessFlags := 2, slot := 3, constantValue := 0 }, { name := "serialVersionUID", type := .long, accessFlags := 26, slot := 0, constantValue := 0 }, { name := "COMPACT_STRINGS", type := .boolean, accessFlags := 24, slot := 1, constantValue := 0 }, { name := "serialPersistentFields", type := (.array (.object "java/io/ObjectStreamField")), accessFlags := 26, slot := 2, constantValue := 0 }, { name := "REPL", type := .char, accessFlags := 26, slot := 3, constantValue := 0 }, { name := "CASE_INSENSITIVE_ORDER", type := (.object "java/util/Comparator"), accessFlags := 25, slot := 4, constantValue := 0 }, { name := "LATIN1", type := .byte, accessFlags := 24, slot := 5, constantValue := 0 }, { name := "UTF16", type := .byte, accessFlags := 24, slot := 6, constantValue := 0 }]
  methods := #[k9m0, k9m1]
  instanceTypes := #[(.array .byte), .byte, .int, .boolean]
  staticTypes := #[.long, .boolean, (.array (.object "java/io/ObjectStreamField")), .char, (.object "java/util/Comparator"), .byte, .byte]
  resolved := Array.replicate 1451 none
  statics := some 1 }

def pool10 : Array CpInfo := pool [(4, .class_ 6), (1, u "java/lang/Object"), (0, u "<init>"), (0, u "()V"), (5, .class_ 16), (1, u "java/lang/StringLatin1"), (104, u "$assertionsDisabled"), (0, u "Z"), (98, .class_ 223), (1, u "java/lang/StringLatin1$LinesSpliterator"), (57, u "equals"), (0, u "([B[B)Z"), (107, .class_ 391), (0, u "java/lang/StringLatin1$CharsSpliterator")] 3

def k10m0 : Method := { name := "<init>", desc := "()V", sig := { parameters := [], returnType := none }, accessFlags := 0, code := none }
def k10c1 : Code := { maxStack := 3, maxLocals := 3, code := jdk_43_method_13_code, exceptionTable := #[], attributes := #[] }
def k10m1 : Method := { name := "equals", desc := "([B[B)Z", sig := { parameters := [(.array .byte), (.array .byte)], returnType := some .boolean }, accessFlags := 9, code := some k10c1 }
/-- java/lang/StringLatin1 -/
def k10 : Class := { plain "java/lang/StringLatin1" (some 0) with
  accessFlags := 48
  interfaces := #[]
  cf := some (fileOf pool10 14 #[.nestMembers #[390, 221]] #[{ accessFlags := 0, nameIndex := 7, descriptorIndex := 8, attributes := #[] }, { accessFlags := 9, nameIndex := 281, descriptorIndex := 282, attributes := #[] }] 48 4 #[] #[{ accessFlags := 4120, nameIndex := 121, descriptorIndex := 122, attributes := #[] }])
  fields := #[{ name := "$assertionsDisabled", type := .boolean, accessFlags := 4120, slot := 0, constantValue := 0 }]
  methods := #[k10m0, k10m1]
  instanceTypes := #[]
  staticTypes := #[.boolean]
  resolved := Array.replicate 395 none
  statics := none }

def pool11 : Array CpInfo := pool [(2, .class_ 4), (1, u "java/lang/Object"), (0, u "<init>"), (0, u "()V"), (17, .class_ 26), (1, u "jdk/internal/util/Preconditions"), (28, .class_ 56), (0, u "jdk/internal/util/Preconditions$4"), (57, .class_ 115), (0, u "jdk/internal/util/Preconditions$1"), (7, u "SIOOBE_FORMATTER"), (0, u "Ljava/util/function/BiFunction;"), (0, .class_ 126), (0, u "jdk/internal/util/Preconditions$2"), (3, u "AIOOBE_FORMATTER"), (0, .class_ 132), (0, u "jdk/internal/util/Preconditions$3"), (3, u "IOOBE_FORMATTER")] 57

def k11m0 : Method := { name := "<init>", desc := "()V", sig := { parameters := [], returnType := none }, accessFlags := 1, code := none }
/-- jdk/internal/util/Preconditions -/
def k11 : Class := { plain "jdk/internal/util/Preconditions" (some 0) with
  accessFlags := 33
  interfaces := #[]
  cf := some (fileOf pool11 24 #[.nestMembers #[55, 131, 125, 114]] #[{ accessFlags := 1, nameIndex := 5, descriptorIndex := 6, attributes := #[] }] 33 2 #[] #[{ accessFlags := 25, nameIndex := 123, descriptorIndex := 124, attributes := #[] }, { accessFlags := 25, nameIndex := 130, descriptorIndex := 124, attributes := #[] }, { accessFlags := 25, nameIndex := 136, descriptorIndex := 124, attributes := #[] }])
  fields := #[{ name := "SIOOBE_FORMATTER", type := (.object "java/util/function/BiFunction"), accessFlags := 25, slot := 0, constantValue := 0 }, { name := "AIOOBE_FORMATTER", type := (.object "java/util/function/BiFunction"), accessFlags := 25, slot := 1, constantValue := 0 }, { name := "IOOBE_FORMATTER", type := (.object "java/util/function/BiFunction"), accessFlags := 25, slot := 2, constantValue := 0 }]
  methods := #[k11m0]
  instanceTypes := #[]
  staticTypes := #[(.object "java/util/function/BiFunction"), (.object "java/util/function/BiFunction"), (.object "java/util/function/BiFunction")]
  resolved := Array.replicate 194 none
  statics := some 2 }

def pool12 : Array CpInfo := pool [(9, u "<init>"), (6, .class_ 18), (1, u "java/lang/Object"), (0, u "()V"), (1, .class_ 23), (1, u "jdk/internal/util/ArraysSupport"), (0, u "LOG2_ARRAY_LONG_INDEX_SCALE"), (0, u "I"), (2, u "U"), (0, u "Ljdk/internal/misc/Unsafe;"), (8, u "BIG_ENDIAN"), (0, u "Z"), (8, u "LOG2_BYTE_BIT_SIZE"), (4, u "LOG2_ARRAY_INT_INDEX_SCALE"), (54, u "JLA"), (0, u "Ljdk/internal/access/JavaLangAccess;"), (11, u "LOG2_ARRAY_BOOLEAN_INDEX_SCALE"), (9, u "LOG2_ARRAY_BYTE_INDEX_SCALE"), (5, u "LOG2_ARRAY_CHAR_INDEX_SCALE"), (5, u "LOG2_ARRAY_SHORT_INDEX_SCALE"), (18, u "LOG2_ARRAY_FLOAT_INDEX_SCALE"), (24, u "LOG2_ARRAY_DOUBLE_INDEX_SCALE"), (89, u "T_BOOLEAN"), (2, u "T_CHAR"), (1, u "T_FLOAT"), (1, u "T_DOUBLE"), (1, u "T_BYTE"), (1, u "T_SHORT"), (1, u "T_INT"), (1, u "T_LONG"), (1, u "SOFT_MAX_ARRAY_LENGTH")] 83

def k12m0 : Method := { name := "<init>", desc := "()V", sig := { parameters := [], returnType := none }, accessFlags := 2, code := none }
/-- jdk/internal/util/ArraysSupport -/
def k12 : Class := { plain "jdk/internal/util/ArraysSupport" (some 0) with
  accessFlags := 33
  interfaces := #[]
  cf := some (fileOf pool12 21 #[] #[{ accessFlags := 2, nameIndex := 9, descriptorIndex := 19, attributes := #[] }] 33 16 #[] #[{ accessFlags := 24, nameIndex := 28, descriptorIndex := 29, attributes := #[] }, { accessFlags := 26, nameIndex := 38, descriptorIndex := 39, attributes := #[] }, { accessFlags := 25, nameIndex := 121, descriptorIndex := 25, attributes := #[] }, { accessFlags := 25, nameIndex := 131, descriptorIndex := 25, attributes := #[] }, { accessFlags := 25, nameIndex := 137, descriptorIndex := 25, attributes := #[] }, { accessFlags := 25, nameIndex := 143, descriptorIndex := 25, attributes := #[] }, { accessFlags := 25, nameIndex := 53, descriptorIndex := 25, attributes := #[] }, { accessFlags := 25, nameIndex := 24, descriptorIndex := 25, attributes := #[] }, { accessFlags := 25, nameIndex := 162, descriptorIndex := 25, attributes := #[] }, { accessFlags := 25, nameIndex := 187, descriptorIndex := 25, attributes := #[] }, { accessFlags := 26, nameIndex := 48, descriptorIndex := 25, attributes := #[] }, { accessFlags := 25, nameIndex := 277, descriptorIndex := 25, attributes := #[] }, { accessFlags := 25, nameIndex := 280, descriptorIndex := 25, attributes := #[] }, { accessFlags := 25, nameIndex := 282, descriptorIndex := 25, attributes := #[] }, { accessFlags := 25, nameIndex := 284, descriptorIndex := 25, attributes := #[] }, { accessFlags := 25, nameIndex := 286, descriptorIndex := 25, attributes := #[] }, { accessFlags := 25, nameIndex := 288, descriptorIndex := 25, attributes := #[] }, { accessFlags := 25, nameIndex := 290, descriptorIndex := 25, attributes := #[] }, { accessFlags := 25, nameIndex := 292, descriptorIndex := 25, attributes := #[] }, { accessFlags := 26, nameIndex := 108, descriptorIndex := 109, attributes := #[] }, { accessFlags := 25, nameIndex := 294, descriptorIndex := 25, attributes := #[] }])
  fields := #[{ name := "U", type := (.object "jdk/internal/misc/Unsafe"), accessFlags := 24, slot := 0, constantValue := 0 }, { name := "BIG_ENDIAN", type := .boolean, accessFlags := 26, slot := 1, constantValue := 0 }, { name := "LOG2_ARRAY_BOOLEAN_INDEX_SCALE", type := .int, accessFlags := 25, slot := 2, constantValue := 0 }, { name := "LOG2_ARRAY_BYTE_INDEX_SCALE", type := .int, accessFlags := 25, slot := 3, constantValue := 0 }, { name := "LOG2_ARRAY_CHAR_INDEX_SCALE", type := .int, accessFlags := 25, slot := 4, constantValue := 0 }, { name := "LOG2_ARRAY_SHORT_INDEX_SCALE", type := .int, accessFlags := 25, slot := 5, constantValue := 0 }, { name := "LOG2_ARRAY_INT_INDEX_SCALE", type := .int, accessFlags := 25, slot := 6, constantValue := 0 }, { name := "LOG2_ARRAY_LONG_INDEX_SCALE", type := .int, accessFlags := 25, slot := 7, constantValue := 0 }, { name := "LOG2_ARRAY_FLOAT_INDEX_SCALE", type := .int, accessFlags := 25, slot := 8, constantValue := 0 }, { name := "LOG2_ARRAY_DOUBLE_INDEX_SCALE", type := .int, accessFlags := 25, slot := 9, constantValue := 0 }, { name := "LOG2_BYTE_BIT_SIZE", type := .int, accessFlags := 26, slot := 10, constantValue := 0 }, { name := "T_BOOLEAN", type := .int, accessFlags := 25, slot := 11, constantValue := 0 }, { name := "T_CHAR", type := .int, accessFlags := 25, slot := 12, constantValue := 0 }, { name := "T_FLOAT", type := .int, accessFlags := 25, slot := 13, constantValue := 0 }, { name := "T_DOUBLE", type := .int, accessFlags := 25, slot := 14, constantValue := 0 }, { name := "T_BYTE", type := .int, accessFlags := 25, slot := 15, constantValue := 0 }, { name := "T_SHORT", type := .int, accessFlags := 25, slot := 16, constantValue := 0 }, { name := "T_INT", type := .int, accessFlags := 25, slot := 17, constantValue := 0 }, { name := "T_LONG", type := .int, accessFlags := 25, slot := 18, constantValue := 0 }, { name := "JLA", type := (.object "jdk/internal/access/JavaLangAccess"), accessFlags := 26, slot := 19, constantValue := 0 }, { name := "SOFT_MAX_ARRAY_LENGTH", type := .int, accessFlags := 25, slot := 20, constantValue := 0 }]
  methods := #[k12m0]
  instanceTypes := #[]
  staticTypes := #[(.object "jdk/internal/misc/Unsafe"), .boolean, .int, .int, .int, .int, .int, .int, .int, .int, .int, .int, .int, .int, .int, .int, .int, .int, .int, (.object "jdk/internal/access/JavaLangAccess"), .int]
  resolved := Array.replicate 378 none
  statics := none }

def pool13 : Array CpInfo := pool [(1, u "java/lang/Cloneable"), (0, .class_ 1), (0, u "java/lang/Object"), (0, .class_ 3)] 3

/-- java/lang/Cloneable -/
def k13 : Class := { plain "java/lang/Cloneable" (some 0) with
  accessFlags := 1537
  interfaces := #[]
  cf := some (fileOf pool13 2 #[] #[] 1537 4 #[] #[])
  fields := #[]
  methods := #[]
  instanceTypes := #[]
  staticTypes := #[]
  resolved := Array.replicate 8 none
  statics := none }

/-- the primitive byte -/
def k14 : Class := { plain "byte" none with kind := .primitive 'B', accessFlags := 0x411 }
/-- [B -/
def k15 : Class := { plain "[B" (some 0) with kind := .array 14 .byte, interfaces := #[13, 4], accessFlags := 1041 }

/-- the primitive int -/
def k16 : Class := { plain "int" none with kind := .primitive 'I', accessFlags := 0x411 }
/-- [I -/
def k17 : Class := { plain "[I" (some 0) with kind := .array 16 .int, interfaces := #[13, 4], accessFlags := 1041 }

def heap : Heap := #[{ cls := 6, slots := #[.ref 13, .ref 14, .ref 15, .ref 16, .ref 17, .null], vm := .statics 6 },
  { cls := 9, slots := #[.long 0, .int 1, .null, .int 0, .null, .int 0, .int 0], vm := .statics 9 },
  { cls := 11, slots := #[.null, .null, .null], vm := .statics 11 },
  { cls := 15, slots := #[.int 61], vm := .none },
  { cls := 15, slots := #[.int 60], vm := .none },
  { cls := 15, slots := #[.int 60, .int 61], vm := .none },
  { cls := 15, slots := #[.int 62], vm := .none },
  { cls := 15, slots := #[.int 62, .int 61], vm := .none },
  { cls := 9, slots := #[.ref 3, .int 0, .int 0, .int 0], vm := .none },
  { cls := 9, slots := #[.ref 4, .int 0, .int 0, .int 0], vm := .none },
  { cls := 9, slots := #[.ref 5, .int 0, .int 0, .int 0], vm := .none },
  { cls := 9, slots := #[.ref 6, .int 0, .int 0, .int 0], vm := .none },
  { cls := 9, slots := #[.ref 7, .int 0, .int 0, .int 0], vm := .none },
  { cls := 6, slots := #[.null, .int 0, .int 0, .ref 8], vm := .none },
  { cls := 6, slots := #[.null, .int 1, .int 0, .ref 9], vm := .none },
  { cls := 6, slots := #[.null, .int 2, .int 0, .ref 10], vm := .none },
  { cls := 6, slots := #[.null, .int 3, .int 0, .ref 11], vm := .none },
  { cls := 6, slots := #[.null, .int 4, .int 0, .ref 12], vm := .none }]
def classes : Array Class := #[k0, k1, k2, k3, k4, k5, k6, k7, k8, k9, k10, k11, k12, k13, k14, k15, k16, k17]
def interned : List (Array UInt16 × Addr) := []
def slotsUsed : Nat := 63
def theMethod : MethodId := ⟨1, 2⟩
def args0 : Array Value := #[.int 5]
def aboutOver (below : List Frame) : State where
  vm := { classes := classes, interned := interned.toArray }
  heap := heap
  slotsUsed := slotsUsed
  threads := #[{ frames := .invoking theMethod args0 :: below }]
def below0 : List Frame := [.native { method := ⟨0, 0⟩, args := #[] }]
def about1 : State := aboutOver below0
def p0 : Program := .bare "" "" ""
def e0 : Env := launch0.env 0 0 0
theorem w_frames : about1.frames = Frame.invoking theMethod args0 :: below0 := rfl
set_option maxRecDepth 65536 in
theorem w_args : argsFit about1.vm theMethod args0 = true := by decide +kernel
set_option maxRecDepth 65536 in
theorem w_heap : heapFits about1 = true := by decide +kernel
set_option maxRecDepth 65536 in
theorem w_runnable : about1.curStatus? = some .runnable := by decide +kernel
set_option maxRecDepth 65536 in
theorem w_alone : about1.alone = true := by decide +kernel
set_option maxRecDepth 65536 in
theorem w_named : about1.methodNamed? x = some theMethod := by decide +kernel
set_option maxRecDepth 65536 in
theorem w_hears : about1.hears theMethod below0 = true := by decide +kernel
set_option maxRecDepth 65536 in
theorem w_ripe : about1.ripe theMethod args0 below0 = true := by decide +kernel
theorem w_running : about1.status = .running := rfl
set_option maxRecDepth 65536 in
theorem w_room : about1.hasRoom e0.platform room_1 = true :=
  launch0.hasRoom_least _ room_1 (by decide +kernel) (by decide +kernel) (by decide +kernel) (by decide +kernel) (by decide +kernel) (by decide +kernel)
theorem allAtoms_all (ts : List Jvm.Cond) (a : Array Jvm.Value) (st : Jvm.State) : (allAtoms ts).before a st = ts.all (fun c => c.before a st) := by
  induction ts with
  | nil => rfl
  | cons c t ih =>
    show (Jvm.Cond.and c (allAtoms t)).before a st = _
    rw [Jvm.Cond.before_and, ih, List.all_cons]
def words1 : List Jvm.Cond := Jvm.Cond.code x code maxLocals ret :: tables_1
/-- a 'code' word, met by the world's own term for the bytes: nothing is compared byte by byte -/
theorem code_word {y : MethodName} {bytes : ByteArray} {mx : Nat} {rt : Option FieldType} {a : Array Value} {s : State} {m : MethodId} {meth : Method} {c : Code} (h1 : s.methodNamed? y = some m) (h2 : s.vm.method? m = some meth) (h3 : meth.code = some c) (h4 : c.code = bytes)
    (h5 : (c.maxLocals == mx && c.exceptionTable.isEmpty && decide (c.maxStack ≤ mostOperands) && decide (meth.sig.returnType = rt) && !meth.locks && decide (parseMethodDescriptor y.desc = some meth.sig)) = true) : (Jvm.Cond.code y bytes mx rt).before a s = true := by
  simp only [Bool.and_eq_true, beq_iff_eq, Bool.not_eq_true', decide_eq_true_eq] at h5
  obtain ⟨⟨⟨⟨⟨g1, g2⟩, g3⟩, g4⟩, g5⟩, g6⟩ := h5
  simp [Cond.before, Cond.holds, Cond.value, h1, h2, h3, h4, g1, g2, g3, g4, g5, g6]
def isCode : Jvm.Cond → Bool
  | .code _ _ _ _ => true
  | _ => false
theorem all_split {L : List Jvm.Cond} {P : Jvm.Cond → Bool} (h1 : L.all (fun c => isCode c || P c) = true) (h2 : ∀ c ∈ L.filter isCode, P c = true) : L.all P = true := by
  refine List.all_eq_true.mpr fun c hc => ?_
  have h := List.all_eq_true.mp h1 c hc
  rcases Bool.eq_false_or_eq_true (isCode c) with hi | hi
  · exact h2 c (List.mem_filter.mpr ⟨hc, hi⟩)
  · simpa [hi] using h
set_option maxRecDepth 65536 in
theorem w_c0 : (Jvm.Cond.code x code maxLocals ret).before args0 about1 = true := code_word (m := ⟨1, 2⟩) (meth := k1m2) (c := k1c2) (by decide +kernel) rfl rfl rfl (by decide +kernel)
set_option maxRecDepth 65536 in
theorem w_c1 : (Jvm.Cond.code ({ cls := "com/example/gather_fields/gatherfields/design/ComparisonIsEqualityPinLaw", name := "pick", desc := "(I)Lcom/example/gather_fields/gatherfields/design/Comparison;" } : Jvm.MethodName) method_2_code (1 : Nat) (Option.some (Jvm.ClassFile.FieldType.object "com/example/gather_fields/gatherfields/design/Comparison"))).before args0 about1 = true := code_word (m := ⟨1, 1⟩) (meth := k1m1) (c := k1c1) (by decide +kernel) rfl rfl rfl (by decide +kernel)
set_option maxRecDepth 65536 in
theorem w_c2 : (Jvm.Cond.code ({ cls := "com/example/gather_fields/gatherfields/design/Comparison", name := "isEquality", desc := "()Z" } : Jvm.MethodName) prog_57_method_5_code (1 : Nat) (Option.some Jvm.ClassFile.FieldType.boolean)).before args0 about1 = true := code_word (m := ⟨6, 1⟩) (meth := k6m1) (c := k6c1) (by decide +kernel) rfl rfl rfl (by decide +kernel)
set_option maxRecDepth 65536 in
theorem w_c3 : (Jvm.Cond.code ({ cls := "com/example/gather_fields/gatherfields/design/Comparison", name := "symbol", desc := "()Ljava/lang/String;" } : Jvm.MethodName) prog_57_method_4_code (1 : Nat) (Option.some (Jvm.ClassFile.FieldType.object "java/lang/String"))).before args0 about1 = true := code_word (m := ⟨6, 0⟩) (meth := k6m0) (c := k6c0) (by decide +kernel) rfl rfl rfl (by decide +kernel)
set_option maxRecDepth 65536 in
theorem w_c4 : (Jvm.Cond.code ({ cls := "java/lang/String", name := "equals", desc := "(Ljava/lang/Object;)Z" } : Jvm.MethodName) jdk_42_method_66_code (3 : Nat) (Option.some Jvm.ClassFile.FieldType.boolean)).before args0 about1 = true := code_word (m := ⟨9, 1⟩) (meth := k9m1) (c := k9c1) (by decide +kernel) rfl rfl rfl (by decide +kernel)
set_option maxRecDepth 65536 in
theorem w_c5 : (Jvm.Cond.code ({ cls := "java/lang/StringLatin1", name := "equals", desc := "([B[B)Z" } : Jvm.MethodName) jdk_43_method_13_code (3 : Nat) (Option.some Jvm.ClassFile.FieldType.boolean)).before args0 about1 = true := code_word (m := ⟨10, 1⟩) (meth := k10m1) (c := k10c1) (by decide +kernel) rfl rfl rfl (by decide +kernel)
def codes1 : List Jvm.Cond := [Jvm.Cond.code x code maxLocals ret, Jvm.Cond.code ({ cls := "com/example/gather_fields/gatherfields/design/ComparisonIsEqualityPinLaw", name := "pick", desc := "(I)Lcom/example/gather_fields/gatherfields/design/Comparison;" } : Jvm.MethodName) method_2_code (1 : Nat) (Option.some (Jvm.ClassFile.FieldType.object "com/example/gather_fields/gatherfields/design/Comparison")), Jvm.Cond.code ({ cls := "com/example/gather_fields/gatherfields/design/Comparison", name := "isEquality", desc := "()Z" } : Jvm.MethodName) prog_57_method_5_code (1 : Nat) (Option.some Jvm.ClassFile.FieldType.boolean), Jvm.Cond.code ({ cls := "com/example/gather_fields/gatherfields/design/Comparison", name := "symbol", desc := "()Ljava/lang/String;" } : Jvm.MethodName) prog_57_method_4_code (1 : Nat) (Option.some (Jvm.ClassFile.FieldType.object "java/lang/String")), Jvm.Cond.code ({ cls := "java/lang/String", name := "equals", desc := "(Ljava/lang/Object;)Z" } : Jvm.MethodName) jdk_42_method_66_code (3 : Nat) (Option.some Jvm.ClassFile.FieldType.boolean), Jvm.Cond.code ({ cls := "java/lang/StringLatin1", name := "equals", desc := "([B[B)Z" } : Jvm.MethodName) jdk_43_method_13_code (3 : Nat) (Option.some Jvm.ClassFile.FieldType.boolean)]
set_option maxRecDepth 65536 in
theorem codes_eq : words1.filter isCode = codes1 := rfl
theorem w_codes : ∀ c ∈ words1.filter isCode, c.before args0 about1 = true := by
  rw [codes_eq]
  intro c hc
  simp only [codes1, List.mem_cons, List.not_mem_nil, or_false] at hc
  rcases hc with rfl | rfl | rfl | rfl | rfl | rfl
  · exact w_c0
  · exact w_c1
  · exact w_c2
  · exact w_c3
  · exact w_c4
  · exact w_c5
set_option maxRecDepth 65536 in
theorem w_t1 : (words1.take 24).all (fun c => isCode c || c.before args0 about1) = true := by decide +kernel
set_option maxRecDepth 65536 in
theorem w_t2 : ((words1.drop 24).take 24).all (fun c => isCode c || c.before args0 about1) = true := by decide +kernel
set_option maxRecDepth 65536 in
theorem w_t3 : ((words1.drop 24).drop 24).all (fun c => isCode c || c.before args0 about1) = true := by decide +kernel
theorem w_tables : (allAtoms (Jvm.Cond.code x code maxLocals ret :: tables_1)).before args0 about1 = true := by
  rw [allAtoms_all]
  show words1.all (fun c => c.before args0 about1) = true
  refine all_split ?_ w_codes
  rw [← List.take_append_drop 24 words1, List.all_append, w_t1, ← List.take_append_drop 24 (words1.drop 24), List.all_append, w_t2, w_t3]
  rfl
set_option maxRecDepth 65536 in
theorem w_rest : rest_1_c.before args0 about1 = true := by decide +kernel
set_option maxRecDepth 65536 in
theorem w_case : (Jvm.Cond.and given_1 narrow_1).before args0 about1 = true := by decide +kernel
set_option maxRecDepth 65536 in
theorem w_consts : constsHeld consts_1 about1 := Jvm.Lit.constsHeldB_iff.mp (by decide +kernel)
theorem w_applies : (headSpec (Jvm.Cond.code x code maxLocals ret :: tables_1) room_1).applies x e0.platform about1 = true :=
  (Spec.applies_iff w_frames).mpr ⟨w_running, w_runnable, w_alone, w_named, w_hears, w_ripe, w_room, w_tables⟩
theorem atStart : AtStart classFile x code maxLocals ret World_1 tables_1 room_1 Calls_1 rest_1 Pre_1 launch0 p0 e0 about1 theMethod args0 below0 :=
  ⟨lists_1, trivial, launch0.admits_env _ _ _, launch0.least_env, fairChoices_fair.cas, fairChoices_fair.clock, w_frames, w_args, w_heap, w_applies, ⟨w_consts, trivial⟩, w_rest, w_case⟩
end start1
theorem witness_1 : WitnessClaimed_1 := ⟨start1.p0, start1.e0, start1.about1, start1.theMethod, start1.args0, start1.below0, start1.atStart⟩
end Jvm.Pilot.@@N@@
