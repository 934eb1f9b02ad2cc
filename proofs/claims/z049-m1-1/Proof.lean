import JvmDerived
import JvmDerived.Pilot.@@N@@Statement
import JvmDerived.Pilot.@@N@@Code
set_option linter.unusedVariables false
set_option linter.unusedSimpArgs false
namespace Jvm.RoadKit
open Sem ClassFile Op Lib Jvm.Stand Jvm.Free Jvm.LawKit
section New
variable {p : Program} {l : Launch} {e : Env} {R : Room} {s : State} {m : MethodId} {args : Array Value} {below : List Frame} {meth : Method} {c : Code} {T : State} {locs : List Loc} {cells slots : Nat}
theorem retI (X : Stand p l e R s m args below meth c T locs cells slots) (hx : p.tables.exec = Jvm.exec) {pc : Nat} {Ls : Array Slot} {z : Int32} {rest : List Value} (hret : meth.sig.returnType = some .int) (hd : decode c.code pc = .ok (.ireturn, 1)) {fs : List Frame}
    (hl : ∀ (f : JFrame) (acts : List Action), f.method = m → f.locked = none → f.entered = [] → (doReturn e (T.setTop f) acts (some (.int z))).1 = T.setFrames fs) : Steps p.tables e below (T.setTop (mkF m pc Ls (.int z :: rest))) (T.setFrames fs) := by
  have hm' : T.vm.method? m = some meth := X.method'
  have hn : narrow .int (.int z) = .int z := rfl
  show Steps p.tables e below (T.setTop { method := m, pc := pc, locals := Ls, stack := _ :: rest, locked := none }) _
  jvm_step X.here [X.here.top, hx, hd, hm', hret, hn]
  first | (intro acts; rw [hl _ acts rfl rfl rfl]) | rw [hl _ _ rfl rfl rfl]
  exact Steps.refl _
end New
end Jvm.RoadKit
namespace Jvm.Pilot.@@N@@
open Jvm Jvm.ClassFile Sem Op Lib Jvm.Free Jvm.Stand Jvm.LawKit Jvm.RoadKit Bundle Jvm.Pilot.@@N@@.Jvm.D
def own_A (Z : State) (h : Heap) (a : Addr) (ty : FieldType) (N : Nat) (f : Nat → Value) : Prop := ∃ c : Cell, Arr Z h a c ty ∧ c.slots.size = N ∧ ∀ j, j < N → c.slots[j]? = some (f j)
def own_upd (f : Nat → Value) (i : Nat) (v : Value) : Nat → Value := fun j => if j = i then v else f j
theorem own_upd_same (f : Nat → Value) (i : Nat) (v : Value) : own_upd f i v i = v := if_pos rfl
theorem own_upd_ne (f : Nat → Value) {i j : Nat} (v : Value) (h : j ≠ i) : own_upd f i v j = f j := if_neg h
theorem own_A.lt {Z : State} {h : Heap} {a : Addr} {ty : FieldType} {N : Nat} {f : Nat → Value} (F : own_A Z h a ty N f) : a < h.size := by obtain ⟨c, A, -⟩ := F; exact A.lt
theorem own_A.ext {Z : State} {h h' : Heap} {a : Addr} {ty : FieldType} {N : Nat} {f : Nat → Value} (F : own_A Z h a ty N f) (E : Ext h h') : own_A Z h' a ty N f := by obtain ⟨c, A, r⟩ := F; exact ⟨c, A.ext E, r⟩
theorem own_A.other {Z : State} {h h' : Heap} {a b : Addr} {sl : Nat} {v : Value} {ty : FieldType} {N : Nat} {f : Nat → Value} (F : own_A Z h b ty N f) (W : Wr h h' a sl v) (q : b ≠ a) : own_A Z h' b ty N f := by obtain ⟨c, A, r⟩ := F; exact ⟨c, A.other W q, r⟩
theorem own_A.keep {Z : State} {h h' : Heap} {a : Addr} {ws : List Addr} {ty : FieldType} {N : Nat} {f : Nat → Value} (F : own_A Z h a ty N f) (K : Keep h h' ws) (q : a ∉ ws) : own_A Z h' a ty N f := by obtain ⟨c, A, r⟩ := F; exact ⟨c, ⟨K.2.1 a c A.1 q, A.2⟩, r⟩
theorem own_A.new {Z : State} {h : Heap} {a : Addr} {k : ClassId} {ty : FieldType} {z : Int32} {N : Nat} (A : Arr Z h a (newA k ty z) ty) (q : z.toNatClampNeg = N) : own_A Z h a ty N (fun _ => defaultValue ty) :=
  ⟨_, A, (sz_new _ _ _).trans q, fun j hj => by rw [← q] at hj; simp [newA, hj]⟩
theorem own_A.set {Z : State} {h h' : Heap} {a : Addr} {ty : FieldType} {N : Nat} {f : Nat → Value} (F : own_A Z h a ty N f) {i : Nat} {v : Value} (W : Wr h h' a i v) : own_A Z h' a ty N (own_upd f i v) := by
  obtain ⟨c, A, S, H⟩ := F
  refine ⟨_, A.same W, by rw [sz_set]; exact S, fun j hj => ?_⟩
  by_cases u : j = i
  · subst u
    rw [own_upd_same]
    simp only [Cell.setSlot]
    exact Array.getElem?_setIfInBounds_self_of_lt (by rw [S]; exact hj)
  · rw [own_upd_ne _ _ u]
    simp only [Cell.setSlot]
    rw [Array.getElem?_setIfInBounds_ne (fun q => u q.symm)]
    exact H j hj
theorem own_A.congr {Z : State} {h : Heap} {a : Addr} {ty : FieldType} {N : Nat} {f g : Nat → Value} (F : own_A Z h a ty N f) (q : ∀ j, j < N → f j = g j) : own_A Z h a ty N g := by
  obtain ⟨c, A, S, H⟩ := F; exact ⟨c, A, S, fun j hj => by rw [← q j hj]; exact H j hj⟩
theorem own_inb {c : Cell} {N : Nat} {j : Int32} (S : c.slots.size = N) (h0 : 0 ≤ j.toInt) (h1 : j.toInt < (N : Int)) : ¬ (j < 0 ∨ c.slots.size ≤ j.toNatClampNeg) := by
  rw [S]
  have e0 : (0 : Int32).toInt = 0 := rfl
  simp only [Int32.lt_iff_toInt_lt, Int32.toNatClampNeg, e0]; omega
theorem own_stI {p : Program} {l : Launch} {e : Env} {R : Room} {s : State} {m : MethodId} {args : Array Value} {below : List Frame} {meth : Method} {c : Code} {T : State} {locs : List Loc} {cells slots : Nat} {Z : State} {h : Heap}
    (X : Stand p l e R s m args below meth c T locs cells slots) (hx : p.tables.exec = Jvm.exec) (hZ : Z.Warmed39 s.vm) (eT : T.heap = h) {a : Addr} {N : Nat} {f : Nat → Value} (A : own_A Z h a .int N f) {j : Int32} {x : Int32} (h0 : 0 ≤ j.toInt) (h1 : j.toInt < (N : Int)) {g : JFrame} (hg : g.method = m) {rest : List Value} (hs : g.stack = .int x :: .int j :: .ref a :: rest) (hd : decode c.code g.pc = .ok (.iastore, 1)) :
    ∃ T' h', Stand p l e R s m args below meth c T' (locs ++ [⟨a, j.toNatClampNeg⟩]) cells slots ∧ T'.heap = h' ∧ Wr h h' a j.toNatClampNeg (.int x) ∧ own_A Z h' a .int N (own_upd f j.toNatClampNeg (.int x)) ∧ ∀ target, Steps p.tables e below (T'.setTop { g with pc := g.pc + 1, stack := rest }) target → Steps p.tables e below (T.setTop g) target := by
  obtain ⟨cl, Ar, S, H⟩ := A
  obtain ⟨T', h', X', e', W, st⟩ := stI X hx hZ eT Ar (own_inb S h0 h1) hg hs hd
  exact ⟨T', h', X', e', W, own_A.set ⟨cl, Ar, S, H⟩ W, st⟩
theorem own_ldI {p : Program} {l : Launch} {e : Env} {R : Room} {s : State} {m : MethodId} {args : Array Value} {below : List Frame} {meth : Method} {c : Code} {T : State} {locs : List Loc} {cells slots : Nat} {Z : State} {h : Heap}
    (X : Stand p l e R s m args below meth c T locs cells slots) (hx : p.tables.exec = Jvm.exec) (hZ : Z.Warmed39 s.vm) (eT : T.heap = h) {a : Addr} {N : Nat} {f : Nat → Value} (A : own_A Z h a .int N f) {j : Int32} {v : Value} (h0 : 0 ≤ j.toInt) (h1 : j.toInt < (N : Int)) (hv : f j.toNatClampNeg = v) {g : JFrame} (hg : g.method = m) {rest : List Value} (hs : g.stack = .int j :: .ref a :: rest) (hd : decode c.code g.pc = .ok (.iaload, 1)) :
    ∀ target, Steps p.tables e below (T.setTop { g with pc := g.pc + 1, stack := v :: rest }) target → Steps p.tables e below (T.setTop g) target := by
  obtain ⟨cl, Ar, S, H⟩ := A
  have hN : j.toNatClampNeg < N := by simp only [Int32.toNatClampNeg]; omega
  exact X.iaload hx (by rw [eT]; exact Ar.1) (State.isArrayOf_alike hZ.alike Ar.2.1) Ar.2.2 (own_inb S h0 h1) (hv ▸ H _ hN) hg hs hd

theorem own_byte (x : Int32) : 0 ≤ (x &&& (255 : Int32)).toInt ∧ (x &&& (255 : Int32)).toInt < 256 := by
  have h := c_mask x 255 8 (by decide) (by decide)
  omega
theorem own_code {H L : Int32} (h1 : 0 ≤ H.toInt ∧ H.toInt < 256) (h2 : 0 ≤ L.toInt ∧ L.toInt < 256) : ((H <<< ((8 : Int32) &&& 31)) ||| L).toInt = 256 * H.toInt + L.toInt := by
  have a := c_ishl H 8 8 (by decide)
  have r := rng32 (H <<< ((8 : Int32) &&& 31))
  have r2 := rng32 ((H <<< ((8 : Int32) &&& 31)) ||| L)
  have b := c_or (H <<< ((8 : Int32) &&& 31)) L 8 (by decide) 256 (by decide)
  have b' := b (by omega) h2.1 h2.2
  omega
theorem own_char {x : Int32} (h : 0 ≤ x.toInt ∧ x.toInt < 65536) : x.toUInt32.toUInt16.toUInt32.toInt32 = x := by
  have a := c_i2c x
  apply Int32.toInt_inj.mp
  omega
theorem own_idx {x H : Int32} (h : 256 * H.toInt ≤ x.toInt ∧ x.toInt < 256 * H.toInt + 256 ∧ 0 ≤ H.toInt) : ((x.toUInt32 >>> ((8 : Int32) &&& 31).toUInt32).toInt32) = H := by
  have a := c_iushr x 8 8 (by decide) (by decide)
  have r := rng32 x
  apply Int32.toInt_inj.mp
  omega
theorem own_low {x H L : Int32} (h : x.toInt = 256 * H.toInt + L.toInt) (h2 : 0 ≤ L.toInt ∧ L.toInt < 256) : x &&& (255 : Int32) = L := by
  have a := c_mask x 255 8 (by decide) (by decide)
  apply Int32.toInt_inj.mp
  omega
theorem d1_0 : decode prog_26_method_3_code 0 = .ok (.aload_n 0, 1) := by decide +kernel
theorem d1_1 : decode prog_26_method_3_code 1 = .ok (.ifnonnull 7, 3) := by decide +kernel
theorem d1_4 : decode prog_26_method_3_code 4 = .ok (.iload_n 1, 1) := by decide +kernel
theorem d1_5 : decode prog_26_method_3_code 5 = .ok (.goto 15, 3) := by decide +kernel
theorem d1_20 : decode prog_26_method_3_code 20 = .ok (.ireturn, 1) := by decide +kernel
theorem pn_1 : plainName "com/example/basecheck/basecheck/trie/CharTable" = true := by first | (simp [plainName, overriddenIn]; done) | decide +kernel
theorem ef_1n (m : MethodId) (x1 : Int32) : entryFrame m #[.null, (.int x1)] 2 = mkF m 0 #[.val .null, .val (.int x1)] [] := by first | (simp [entryFrame, mkF, argsToLocals, Value.category]; done) | rfl
def Q1n (Z : State) (p1 : Int32) (h0 : Heap) (n0 : Nat) (v : Option Value) (h : Heap) (L : List Loc) : Prop := v = some (.int p1) ∧ Fr n0 L ∧ h = h0
set_option maxRecDepth 65536 in
set_option maxHeartbeats 40000000 in
theorem rm1n (l : Launch) (Z : State) (a0 : Array Value) (hw : ∀ d ∈ tables_1, d.before a0 Z = true) (ws : List Jvm.Cond) (p1 : Int32) (h0 : Heap) (n0 : Nat) (Z0 : n0 ≤ h0.size) :
    MetFree l (⟨"com/example/basecheck/basecheck/trie/CharTable", "slot", "([IC)I"⟩ : MethodName) (head1 (Jvm.Cond.code (⟨"com/example/basecheck/basecheck/trie/CharTable", "slot", "([IC)I"⟩ : MethodName) prog_26_method_3_code 2 (some .int) :: ws) ({ frames := 0, cells := 0, slots := 0, locals := 0 } : Room)) (fun a U => a = #[.null, (.int p1)] ∧ Z.Warmed39 U.vm ∧ U.heap = h0) (fun _ _ _ _ _ => True) (fun _ U o U' => ∃ v L, o = .returned v ∧ Q1n Z p1 h0 n0 v U'.heap L ∧ FrameEnd U o U' L ({ frames := 0, cells := 0, slots := 0, locals := 0 } : Room).cells ({ frames := 0, cells := 0, slots := 0, locals := 0 } : Room).slots) := by
  refine MetFree.of_bodySF (plainFor_of_name pn_1) hisR ?_
  intro p e s m args below meth c s₁ Bd hml0 hP hK
  obtain ⟨rfl, hZ, hh⟩ := hP
  have hx := Bd.exec
  have hby := Bd.bytes
  have hml : c.maxLocals = 2 := hml0
  have hown : s.vm.findClass "com/example/basecheck/basecheck/trie/CharTable" = some m.cls := findClass_of_methodNamed Bd.named
  have hnm := (name_of_methodNamed Bd.named Bd.method).1
  have X0 : Stand p l e ({ frames := 0, cells := 0, slots := 0, locals := 0 } : Room) s m #[.null, (.int p1)] below meth c s₁ [] 0 0 := Stand.of_body Bd
  have e0 : s₁.heap = h0 := by rw [← hh, Bd.state]; rfl
  have N0 := Fr.nil n0
  have pre0 : ∀ t, Steps p.tables e below (s₁.setTop (mkF m 0 #[.val .null, .val (.int p1)] [])) t → Steps p.tables e below (s₁.setTop (entryFrame m #[.null, (.int p1)] 2)) t := fun t k => castTop (ef_1n m p1) k

  obtain ⟨fs, hr, hrun, hended, hW, hsame⟩ := X0.leave (v := some (.int p1)) (fun h => by rw [Bd.returns] at h; cases h)
  refine ⟨_, _, pre0 _ ?_, hrun, hended, _, _, rfl, ?_, ⟨_, rfl⟩, hW, hsame.mono (by decide) (by decide)⟩
  · show Steps p.tables e below (s₁.setTop (mkF m 0 #[.val .null, .val (.int p1)] [])) _
    refine XS.aloadN X0.here hx rfl (hb hby d1_0) rfl rfl ?_
    show Steps p.tables e below (s₁.setTop (mkF m 1 #[.val .null, .val (.int p1)] [.null])) _
    refine XS.ifnonnullNo X0.here hx rfl (hb hby d1_1) rfl ?_
    show Steps p.tables e below (s₁.setTop (mkF m 4 #[.val .null, .val (.int p1)] [])) _
    refine XS.iloadN X0.here hx rfl (hb hby d1_4) rfl ?_
    show Steps p.tables e below (s₁.setTop (mkF m 5 #[.val .null, .val (.int p1)] [(.int p1)])) _
    refine XS.goto X0.here hx rfl (pc0 := 5) (pc' := 20) rfl (hb hby d1_5) (by decide) (by decide) ?_
    show Steps p.tables e below (s₁.setTop (mkF m 20 #[.val .null, .val (.int p1)] [(.int p1)])) _
    exact retI X0 hx Bd.returns (hb hby d1_20) hr
  · show Q1n Z p1 h0 n0 _ s₁.heap _
    rw [e0]
    exact ⟨rfl, N0, rfl⟩
theorem d1_8 : decode prog_26_method_3_code 8 = .ok (.aload_n 0, 1) := by decide +kernel
theorem d1_9 : decode prog_26_method_3_code 9 = .ok (.iload_n 1, 1) := by decide +kernel
theorem d1_10 : decode prog_26_method_3_code 10 = .ok (.bipush 8, 2) := by decide +kernel
theorem d1_12 : decode prog_26_method_3_code 12 = .ok (.iushr, 1) := by decide +kernel
theorem d1_13 : decode prog_26_method_3_code 13 = .ok (.iaload, 1) := by decide +kernel
theorem d1_14 : decode prog_26_method_3_code 14 = .ok (.iload_n 1, 1) := by decide +kernel
theorem d1_15 : decode prog_26_method_3_code 15 = .ok (.sipush 255, 3) := by decide +kernel
theorem d1_18 : decode prog_26_method_3_code 18 = .ok (.iand, 1) := by decide +kernel
theorem d1_19 : decode prog_26_method_3_code 19 = .ok (.iadd, 1) := by decide +kernel
theorem ef_1 (m : MethodId) (x0 : Addr) (x1 : Int32) : entryFrame m #[(.ref x0), (.int x1)] 2 = mkF m 0 #[.val (.ref x0), .val (.int x1)] [] := by first | (simp [entryFrame, mkF, argsToLocals, Value.category]; done) | rfl
def Q1 (Z : State) (a1 : Addr) (p2 : Int32) (w3 : Int32) (N : Nat) (f : Nat → Value) (h0 : Heap) (n0 : Nat) (v : Option Value) (h : Heap) (L : List Loc) : Prop := v = some (.int (w3 + (p2 &&& (255 : Int32)))) ∧ Fr n0 L ∧ h = h0
set_option maxRecDepth 65536 in
set_option maxHeartbeats 40000000 in
theorem rm1 (l : Launch) (Z : State) (a0 : Array Value) (hw : ∀ d ∈ tables_1, d.before a0 Z = true) (ws : List Jvm.Cond) (a1 : Addr) (p2 : Int32) (w3 : Int32) (N : Nat) (f : Nat → Value) (h0 : Heap) (n0 : Nat) (Z0 : n0 ≤ h0.size) (A_a1 : own_A Z h0 a1 .int N f) (hi13 : 0 ≤ ((p2.toUInt32 >>> ((8 : Int32) &&& 31).toUInt32).toInt32).toInt ∧ ((p2.toUInt32 >>> ((8 : Int32) &&& 31).toUInt32).toInt32).toInt < (N : Int)) (hat13 : f ((p2.toUInt32 >>> ((8 : Int32) &&& 31).toUInt32).toInt32).toNatClampNeg = .int w3) :
    MetFree l (⟨"com/example/basecheck/basecheck/trie/CharTable", "slot", "([IC)I"⟩ : MethodName) (head1 (Jvm.Cond.code (⟨"com/example/basecheck/basecheck/trie/CharTable", "slot", "([IC)I"⟩ : MethodName) prog_26_method_3_code 2 (some .int) :: ws) ({ frames := 0, cells := 0, slots := 0, locals := 0 } : Room)) (fun a U => a = #[(.ref a1), (.int p2)] ∧ Z.Warmed39 U.vm ∧ U.heap = h0) (fun _ _ _ _ _ => True) (fun _ U o U' => ∃ v L, o = .returned v ∧ Q1 Z a1 p2 w3 N f h0 n0 v U'.heap L ∧ FrameEnd U o U' L ({ frames := 0, cells := 0, slots := 0, locals := 0 } : Room).cells ({ frames := 0, cells := 0, slots := 0, locals := 0 } : Room).slots) := by
  refine MetFree.of_bodySF (plainFor_of_name pn_1) hisR ?_
  intro p e s m args below meth c s₁ Bd hml0 hP hK
  obtain ⟨rfl, hZ, hh⟩ := hP
  have hx := Bd.exec
  have hby := Bd.bytes
  have hml : c.maxLocals = 2 := hml0
  have hown : s.vm.findClass "com/example/basecheck/basecheck/trie/CharTable" = some m.cls := findClass_of_methodNamed Bd.named
  have hnm := (name_of_methodNamed Bd.named Bd.method).1
  have X0 : Stand p l e ({ frames := 0, cells := 0, slots := 0, locals := 0 } : Room) s m #[(.ref a1), (.int p2)] below meth c s₁ [] 0 0 := Stand.of_body Bd
  have e0 : s₁.heap = h0 := by rw [← hh, Bd.state]; rfl
  have N0 := Fr.nil n0
  have pre0 : ∀ t, Steps p.tables e below (s₁.setTop (mkF m 0 #[.val (.ref a1), .val (.int p2)] [])) t → Steps p.tables e below (s₁.setTop (entryFrame m #[(.ref a1), (.int p2)] 2)) t := fun t k => castTop (ef_1 m a1 p2) k

  obtain ⟨fs, hr, hrun, hended, hW, hsame⟩ := X0.leave (v := some (.int (w3 + (p2 &&& (255 : Int32))))) (fun h => by rw [Bd.returns] at h; cases h)
  refine ⟨_, _, pre0 _ ?_, hrun, hended, _, _, rfl, ?_, ⟨_, rfl⟩, hW, hsame.mono (by decide) (by decide)⟩
  · show Steps p.tables e below (s₁.setTop (mkF m 0 #[.val (.ref a1), .val (.int p2)] [])) _
    refine XS.aloadN X0.here hx rfl (hb hby d1_0) rfl rfl ?_
    show Steps p.tables e below (s₁.setTop (mkF m 1 #[.val (.ref a1), .val (.int p2)] [(.ref a1)])) _
    refine XS.ifnonnullYes X0.here hx rfl (pc0 := 1) (pc' := 8) rfl (hb hby d1_1) rfl (by decide) (by decide) ?_
    show Steps p.tables e below (s₁.setTop (mkF m 8 #[.val (.ref a1), .val (.int p2)] [])) _
    refine XS.aloadN X0.here hx rfl (hb hby d1_8) rfl rfl ?_
    show Steps p.tables e below (s₁.setTop (mkF m 9 #[.val (.ref a1), .val (.int p2)] [(.ref a1)])) _
    refine XS.iloadN X0.here hx rfl (hb hby d1_9) rfl ?_
    show Steps p.tables e below (s₁.setTop (mkF m 10 #[.val (.ref a1), .val (.int p2)] [(.int p2), (.ref a1)])) _
    refine XS.bipush X0.here hx rfl (hb hby d1_10) ?_
    show Steps p.tables e below (s₁.setTop (mkF m 12 #[.val (.ref a1), .val (.int p2)] [(.int (8 : Int32)), (.int p2), (.ref a1)])) _
    refine XS.iushr X0.here hx rfl (hb hby d1_12) rfl ?_
    show Steps p.tables e below (s₁.setTop (mkF m 13 #[.val (.ref a1), .val (.int p2)] [(.int ((p2.toUInt32 >>> ((8 : Int32) &&& 31).toUInt32).toInt32)), (.ref a1)])) _
    refine own_ldI X0 hx hZ e0 A_a1 (j := ((p2.toUInt32 >>> ((8 : Int32) &&& 31).toUInt32).toInt32)) (v := (.int w3)) hi13.1 hi13.2 hat13 (g := (mkF m 13 #[.val (.ref a1), .val (.int p2)] [(.int ((p2.toUInt32 >>> ((8 : Int32) &&& 31).toUInt32).toInt32)), (.ref a1)])) rfl rfl (hb hby d1_13) _ ?_
    show Steps p.tables e below (s₁.setTop (mkF m 14 #[.val (.ref a1), .val (.int p2)] [(.int w3)])) _
    refine XS.iloadN X0.here hx rfl (hb hby d1_14) rfl ?_
    show Steps p.tables e below (s₁.setTop (mkF m 15 #[.val (.ref a1), .val (.int p2)] [(.int p2), (.int w3)])) _
    refine XS.sipush X0.here hx rfl (hb hby d1_15) ?_
    show Steps p.tables e below (s₁.setTop (mkF m 18 #[.val (.ref a1), .val (.int p2)] [(.int (255 : Int32)), (.int p2), (.int w3)])) _
    refine XS.iand X0.here hx rfl (hb hby d1_18) rfl ?_
    show Steps p.tables e below (s₁.setTop (mkF m 19 #[.val (.ref a1), .val (.int p2)] [(.int (p2 &&& (255 : Int32))), (.int w3)])) _
    refine XS.iadd X0.here hx rfl (hb hby d1_19) rfl ?_
    show Steps p.tables e below (s₁.setTop (mkF m 20 #[.val (.ref a1), .val (.int p2)] [(.int (w3 + (p2 &&& (255 : Int32))))])) _
    exact retI X0 hx Bd.returns (hb hby d1_20) hr
  · show Q1 Z a1 p2 w3 N f h0 n0 _ s₁.heap _
    rw [e0]
    exact ⟨rfl, N0, rfl⟩
theorem pn_0 : plainName "com/example/basecheck/basecheck/trie/CharTableSlotPinLaw" = true := by first | (simp [plainName, overriddenIn]; done) | decide +kernel
theorem pd_0_0 : parseMethodDescriptor "([IC)I" = some ⟨[(.array .int), .char], some .int⟩ := by decide +kernel
theorem ef_0 (m : MethodId) (x0 : Int32) (x1 : Int32) (x2 : Int32) (x3 : Int32) (x4 : Int32) (x5 : Int32) : entryFrame m #[(.int x0), (.int x1), (.int x2), (.int x3), (.int x4), (.int x5)] maxLocals = mkF m 0 #[.val (.int x0), .val (.int x1), .val (.int x2), .val (.int x3), .val (.int x4), .val (.int x5), .unset, .unset, .unset, .unset, .unset, .unset] [] := by first | (simp [entryFrame, mkF, argsToLocals, Value.category, maxLocals]; done) | rfl
def Q0n (Z : State) (p1 : Int32) (p2 : Int32) (p3 : Int32) (p4 : Int32) (p5 : Int32) (p6 : Int32) (h0 : Heap) (n0 : Nat) (v : Option Value) (h : Heap) (L : List Loc) : Prop := v = some (.int (1 : Int32)) ∧ Fr n0 L
set_option maxRecDepth 65536 in
set_option maxHeartbeats 40000000 in
theorem rm0n (l : Launch) (Z : State) (a0 : Array Value) (hw : ∀ d ∈ tables_1, d.before a0 Z = true) (ws : List Jvm.Cond) (p1 : Int32) (p2 : Int32) (p3 : Int32) (p4 : Int32) (p5 : Int32) (p6 : Int32) (h0 : Heap) (n0 : Nat) (Z0 : n0 ≤ h0.size) (hc33 : (p6 &&& (1 : Int32)) = (0 : Int32)) :
    MetFree l x (head1 (Jvm.Cond.code x code maxLocals ret :: ws) room_1) (fun a U => a = #[(.int p1), (.int p2), (.int p3), (.int p4), (.int p5), (.int p6)] ∧ Z.Warmed39 U.vm ∧ U.heap = h0) (fun _ _ _ _ _ => True) (fun _ U o U' => ∃ v L, o = .returned v ∧ Q0n Z p1 p2 p3 p4 p5 p6 h0 n0 v U'.heap L ∧ FrameEnd U o U' L room_1.cells room_1.slots) := by
  refine MetFree.of_bodySF (plainFor_of_name pn_0) hisR ?_
  intro p e s m args below meth c s₁ Bd hml0 hP hK
  obtain ⟨rfl, hZ, hh⟩ := hP
  have hx := Bd.exec
  have hby := Bd.bytes
  have hml : c.maxLocals = 12 := hml0
  have hown : s.vm.findClass "com/example/basecheck/basecheck/trie/CharTableSlotPinLaw" = some m.cls := findClass_of_methodNamed Bd.named
  have hnm := (name_of_methodNamed Bd.named Bd.method).1
  have X0 : Stand p l e room_1 s m #[(.int p1), (.int p2), (.int p3), (.int p4), (.int p5), (.int p6)] below meth c s₁ [] 0 0 := Stand.of_body Bd
  have e0 : s₁.heap = h0 := by rw [← hh, Bd.state]; rfl
  have N0 := Fr.nil n0
  have pre0 : ∀ t, Steps p.tables e below (s₁.setTop (mkF m 0 #[.val (.int p1), .val (.int p2), .val (.int p3), .val (.int p4), .val (.int p5), .val (.int p6), .unset, .unset, .unset, .unset, .unset, .unset] [])) t → Steps p.tables e below (s₁.setTop (entryFrame m #[(.int p1), (.int p2), (.int p3), (.int p4), (.int p5), (.int p6)] maxLocals)) t := fun t k => castTop (ef_0 m p1 p2 p3 p4 p5 p6) k
  obtain ⟨_, _, ⟨T7, L7, k7, n7⟩, -, X7, ⟨Lc7, hQ7, l7, y7, z7⟩, st7⟩ := Jvm.LawKit.callS X0 hx (y := (⟨"com/example/basecheck/basecheck/trie/CharTable", "slot", "([IC)I"⟩ : MethodName)) hown (mvT hZ (hw _ (List.mem_of_getElem? (i := 1) rfl))) (mvT hZ (hw _ (List.mem_of_getElem? (i := 2) rfl))) (mvT hZ (hw _ (List.mem_of_getElem? (i := 3) rfl))) (mvT hZ (hw _ (List.mem_of_getElem? (i := 4) rfl))) (by decide) (backOf (W := 0) (rm1n l Z a0 hw [] ((((p1 &&& (255 : Int32)) <<< ((8 : Int32) &&& 31)) ||| (p2 &&& (255 : Int32))).toUInt32.toUInt16.toUInt32.toInt32) h0 n0 Z0) hZ (hw _ (List.mem_of_getElem? (i := 4) rfl)) (hw _ (List.mem_of_getElem? (i := 3) rfl)) (by decide) (by decide)) (g := (mkF m 39 #[.val (.int p1), .val (.int p2), .val (.int p3), .val (.int p4), .val (.int p5), .val (.int p6), .val (.int (p1 &&& (255 : Int32))), .val (.int (p2 &&& (255 : Int32))), .val (.int (((p1 &&& (255 : Int32)) <<< ((8 : Int32) &&& 31)) ||| (p2 &&& (255 : Int32)))), .val (.int ((((p1 &&& (255 : Int32)) <<< ((8 : Int32) &&& 31)) ||| (p2 &&& (255 : Int32))).toUInt32.toUInt16.toUInt32.toInt32)), .unset, .unset] [(.int ((((p1 &&& (255 : Int32)) <<< ((8 : Int32) &&& 31)) ||| (p2 &&& (255 : Int32))).toUInt32.toUInt16.toUInt32.toInt32)), .null])) rfl (by rw [hml]; rfl) (argsL := [.null, (.int ((((p1 &&& (255 : Int32)) <<< ((8 : Int32) &&& 31)) ||| (p2 &&& (255 : Int32))).toUInt32.toUInt16.toUInt32.toInt32))]) (rest := []) (lenOf pd_0_0 rfl) rfl (by show 2 * 0 + _ ≤ _; exact Nat.le_of_eq rfl) (hb hby at_39) (fun _ _ => ⟨rfl, e0, (by decide : 0 + 0 ≤ _), (by decide : 0 + 0 ≤ _)⟩)
  dsimp only [Pt.U, Pt.locs, Pt.cells, Pt.slots] at X7 l7 y7 z7 st7 hQ7
  subst l7 y7 z7
  obtain ⟨rfl, N7q, e7⟩ := hQ7
  have N7 := Fr.app N0 N7q
  obtain ⟨fs, hr, hrun, hended, hW, hsame⟩ := X7.leave (v := some (.int (1 : Int32))) (fun h => by rw [Bd.returns] at h; cases h)
  refine ⟨_, _, pre0 _ ?_, hrun, hended, _, _, rfl, ?_, ⟨_, rfl⟩, hW, hsame.mono (by decide) (by decide)⟩
  · show Steps p.tables e below (s₁.setTop (mkF m 0 #[.val (.int p1), .val (.int p2), .val (.int p3), .val (.int p4), .val (.int p5), .val (.int p6), .unset, .unset, .unset, .unset, .unset, .unset] [])) _
    refine XS.iloadN X0.here hx rfl (hb hby at_0) rfl ?_
    show Steps p.tables e below (s₁.setTop (mkF m 1 #[.val (.int p1), .val (.int p2), .val (.int p3), .val (.int p4), .val (.int p5), .val (.int p6), .unset, .unset, .unset, .unset, .unset, .unset] [(.int p1)])) _
    refine XS.sipush X0.here hx rfl (hb hby at_1) ?_
    show Steps p.tables e below (s₁.setTop (mkF m 4 #[.val (.int p1), .val (.int p2), .val (.int p3), .val (.int p4), .val (.int p5), .val (.int p6), .unset, .unset, .unset, .unset, .unset, .unset] [(.int (255 : Int32)), (.int p1)])) _
    refine XS.iand X0.here hx rfl (hb hby at_4) rfl ?_
    show Steps p.tables e below (s₁.setTop (mkF m 5 #[.val (.int p1), .val (.int p2), .val (.int p3), .val (.int p4), .val (.int p5), .val (.int p6), .unset, .unset, .unset, .unset, .unset, .unset] [(.int (p1 &&& (255 : Int32)))])) _
    refine XS.istore X0.here hx rfl (hb hby at_5) rfl (l' := #[.val (.int p1), .val (.int p2), .val (.int p3), .val (.int p4), .val (.int p5), .val (.int p6), .val (.int (p1 &&& (255 : Int32))), .unset, .unset, .unset, .unset, .unset]) rfl ?_
    show Steps p.tables e below (s₁.setTop (mkF m 7 #[.val (.int p1), .val (.int p2), .val (.int p3), .val (.int p4), .val (.int p5), .val (.int p6), .val (.int (p1 &&& (255 : Int32))), .unset, .unset, .unset, .unset, .unset] [])) _
    refine XS.iloadN X0.here hx rfl (hb hby at_7) rfl ?_
    show Steps p.tables e below (s₁.setTop (mkF m 8 #[.val (.int p1), .val (.int p2), .val (.int p3), .val (.int p4), .val (.int p5), .val (.int p6), .val (.int (p1 &&& (255 : Int32))), .unset, .unset, .unset, .unset, .unset] [(.int p2)])) _
    refine XS.sipush X0.here hx rfl (hb hby at_8) ?_
    show Steps p.tables e below (s₁.setTop (mkF m 11 #[.val (.int p1), .val (.int p2), .val (.int p3), .val (.int p4), .val (.int p5), .val (.int p6), .val (.int (p1 &&& (255 : Int32))), .unset, .unset, .unset, .unset, .unset] [(.int (255 : Int32)), (.int p2)])) _
    refine XS.iand X0.here hx rfl (hb hby at_11) rfl ?_
    show Steps p.tables e below (s₁.setTop (mkF m 12 #[.val (.int p1), .val (.int p2), .val (.int p3), .val (.int p4), .val (.int p5), .val (.int p6), .val (.int (p1 &&& (255 : Int32))), .unset, .unset, .unset, .unset, .unset] [(.int (p2 &&& (255 : Int32)))])) _
    refine XS.istore X0.here hx rfl (hb hby at_12) rfl (l' := #[.val (.int p1), .val (.int p2), .val (.int p3), .val (.int p4), .val (.int p5), .val (.int p6), .val (.int (p1 &&& (255 : Int32))), .val (.int (p2 &&& (255 : Int32))), .unset, .unset, .unset, .unset]) rfl ?_
    show Steps p.tables e below (s₁.setTop (mkF m 14 #[.val (.int p1), .val (.int p2), .val (.int p3), .val (.int p4), .val (.int p5), .val (.int p6), .val (.int (p1 &&& (255 : Int32))), .val (.int (p2 &&& (255 : Int32))), .unset, .unset, .unset, .unset] [])) _
    refine XS.iload X0.here hx rfl (hb hby at_14) rfl ?_
    show Steps p.tables e below (s₁.setTop (mkF m 16 #[.val (.int p1), .val (.int p2), .val (.int p3), .val (.int p4), .val (.int p5), .val (.int p6), .val (.int (p1 &&& (255 : Int32))), .val (.int (p2 &&& (255 : Int32))), .unset, .unset, .unset, .unset] [(.int (p1 &&& (255 : Int32)))])) _
    refine XS.bipush X0.here hx rfl (hb hby at_16) ?_
    show Steps p.tables e below (s₁.setTop (mkF m 18 #[.val (.int p1), .val (.int p2), .val (.int p3), .val (.int p4), .val (.int p5), .val (.int p6), .val (.int (p1 &&& (255 : Int32))), .val (.int (p2 &&& (255 : Int32))), .unset, .unset, .unset, .unset] [(.int (8 : Int32)), (.int (p1 &&& (255 : Int32)))])) _
    refine XS.ishl X0.here hx rfl (hb hby at_18) rfl ?_
    show Steps p.tables e below (s₁.setTop (mkF m 19 #[.val (.int p1), .val (.int p2), .val (.int p3), .val (.int p4), .val (.int p5), .val (.int p6), .val (.int (p1 &&& (255 : Int32))), .val (.int (p2 &&& (255 : Int32))), .unset, .unset, .unset, .unset] [(.int ((p1 &&& (255 : Int32)) <<< ((8 : Int32) &&& 31)))])) _
    refine XS.iload X0.here hx rfl (hb hby at_19) rfl ?_
    show Steps p.tables e below (s₁.setTop (mkF m 21 #[.val (.int p1), .val (.int p2), .val (.int p3), .val (.int p4), .val (.int p5), .val (.int p6), .val (.int (p1 &&& (255 : Int32))), .val (.int (p2 &&& (255 : Int32))), .unset, .unset, .unset, .unset] [(.int (p2 &&& (255 : Int32))), (.int ((p1 &&& (255 : Int32)) <<< ((8 : Int32) &&& 31)))])) _
    refine XS.ior X0.here hx rfl (hb hby at_21) rfl ?_
    show Steps p.tables e below (s₁.setTop (mkF m 22 #[.val (.int p1), .val (.int p2), .val (.int p3), .val (.int p4), .val (.int p5), .val (.int p6), .val (.int (p1 &&& (255 : Int32))), .val (.int (p2 &&& (255 : Int32))), .unset, .unset, .unset, .unset] [(.int (((p1 &&& (255 : Int32)) <<< ((8 : Int32) &&& 31)) ||| (p2 &&& (255 : Int32))))])) _
    refine XS.istore X0.here hx rfl (hb hby at_22) rfl (l' := #[.val (.int p1), .val (.int p2), .val (.int p3), .val (.int p4), .val (.int p5), .val (.int p6), .val (.int (p1 &&& (255 : Int32))), .val (.int (p2 &&& (255 : Int32))), .val (.int (((p1 &&& (255 : Int32)) <<< ((8 : Int32) &&& 31)) ||| (p2 &&& (255 : Int32)))), .unset, .unset, .unset]) rfl ?_
    show Steps p.tables e below (s₁.setTop (mkF m 24 #[.val (.int p1), .val (.int p2), .val (.int p3), .val (.int p4), .val (.int p5), .val (.int p6), .val (.int (p1 &&& (255 : Int32))), .val (.int (p2 &&& (255 : Int32))), .val (.int (((p1 &&& (255 : Int32)) <<< ((8 : Int32) &&& 31)) ||| (p2 &&& (255 : Int32)))), .unset, .unset, .unset] [])) _
    refine XS.iload X0.here hx rfl (hb hby at_24) rfl ?_
    show Steps p.tables e below (s₁.setTop (mkF m 26 #[.val (.int p1), .val (.int p2), .val (.int p3), .val (.int p4), .val (.int p5), .val (.int p6), .val (.int (p1 &&& (255 : Int32))), .val (.int (p2 &&& (255 : Int32))), .val (.int (((p1 &&& (255 : Int32)) <<< ((8 : Int32) &&& 31)) ||| (p2 &&& (255 : Int32)))), .unset, .unset, .unset] [(.int (((p1 &&& (255 : Int32)) <<< ((8 : Int32) &&& 31)) ||| (p2 &&& (255 : Int32))))])) _
    refine XS.i2c X0.here hx rfl (hb hby at_26) rfl ?_
    show Steps p.tables e below (s₁.setTop (mkF m 27 #[.val (.int p1), .val (.int p2), .val (.int p3), .val (.int p4), .val (.int p5), .val (.int p6), .val (.int (p1 &&& (255 : Int32))), .val (.int (p2 &&& (255 : Int32))), .val (.int (((p1 &&& (255 : Int32)) <<< ((8 : Int32) &&& 31)) ||| (p2 &&& (255 : Int32)))), .unset, .unset, .unset] [(.int ((((p1 &&& (255 : Int32)) <<< ((8 : Int32) &&& 31)) ||| (p2 &&& (255 : Int32))).toUInt32.toUInt16.toUInt32.toInt32))])) _
    refine XS.istore X0.here hx rfl (hb hby at_27) rfl (l' := #[.val (.int p1), .val (.int p2), .val (.int p3), .val (.int p4), .val (.int p5), .val (.int p6), .val (.int (p1 &&& (255 : Int32))), .val (.int (p2 &&& (255 : Int32))), .val (.int (((p1 &&& (255 : Int32)) <<< ((8 : Int32) &&& 31)) ||| (p2 &&& (255 : Int32)))), .val (.int ((((p1 &&& (255 : Int32)) <<< ((8 : Int32) &&& 31)) ||| (p2 &&& (255 : Int32))).toUInt32.toUInt16.toUInt32.toInt32)), .unset, .unset]) rfl ?_
    show Steps p.tables e below (s₁.setTop (mkF m 29 #[.val (.int p1), .val (.int p2), .val (.int p3), .val (.int p4), .val (.int p5), .val (.int p6), .val (.int (p1 &&& (255 : Int32))), .val (.int (p2 &&& (255 : Int32))), .val (.int (((p1 &&& (255 : Int32)) <<< ((8 : Int32) &&& 31)) ||| (p2 &&& (255 : Int32)))), .val (.int ((((p1 &&& (255 : Int32)) <<< ((8 : Int32) &&& 31)) ||| (p2 &&& (255 : Int32))).toUInt32.toUInt16.toUInt32.toInt32)), .unset, .unset] [])) _
    refine XS.iload X0.here hx rfl (hb hby at_29) rfl ?_
    show Steps p.tables e below (s₁.setTop (mkF m 31 #[.val (.int p1), .val (.int p2), .val (.int p3), .val (.int p4), .val (.int p5), .val (.int p6), .val (.int (p1 &&& (255 : Int32))), .val (.int (p2 &&& (255 : Int32))), .val (.int (((p1 &&& (255 : Int32)) <<< ((8 : Int32) &&& 31)) ||| (p2 &&& (255 : Int32)))), .val (.int ((((p1 &&& (255 : Int32)) <<< ((8 : Int32) &&& 31)) ||| (p2 &&& (255 : Int32))).toUInt32.toUInt16.toUInt32.toInt32)), .unset, .unset] [(.int p6)])) _
    refine XS.iconst X0.here hx rfl (hb hby at_31) ?_
    show Steps p.tables e below (s₁.setTop (mkF m 32 #[.val (.int p1), .val (.int p2), .val (.int p3), .val (.int p4), .val (.int p5), .val (.int p6), .val (.int (p1 &&& (255 : Int32))), .val (.int (p2 &&& (255 : Int32))), .val (.int (((p1 &&& (255 : Int32)) <<< ((8 : Int32) &&& 31)) ||| (p2 &&& (255 : Int32)))), .val (.int ((((p1 &&& (255 : Int32)) <<< ((8 : Int32) &&& 31)) ||| (p2 &&& (255 : Int32))).toUInt32.toUInt16.toUInt32.toInt32)), .unset, .unset] [(.int (1 : Int32)), (.int p6)])) _
    refine XS.iand X0.here hx rfl (hb hby at_32) rfl ?_
    show Steps p.tables e below (s₁.setTop (mkF m 33 #[.val (.int p1), .val (.int p2), .val (.int p3), .val (.int p4), .val (.int p5), .val (.int p6), .val (.int (p1 &&& (255 : Int32))), .val (.int (p2 &&& (255 : Int32))), .val (.int (((p1 &&& (255 : Int32)) <<< ((8 : Int32) &&& 31)) ||| (p2 &&& (255 : Int32)))), .val (.int ((((p1 &&& (255 : Int32)) <<< ((8 : Int32) &&& 31)) ||| (p2 &&& (255 : Int32))).toUInt32.toUInt16.toUInt32.toInt32)), .unset, .unset] [(.int (p6 &&& (1 : Int32)))])) _
    refine XS.ifNo X0.here hx rfl (hb hby at_33) rfl ((if0 _ _).trans (teq hc33).2) ?_
    show Steps p.tables e below (s₁.setTop (mkF m 36 #[.val (.int p1), .val (.int p2), .val (.int p3), .val (.int p4), .val (.int p5), .val (.int p6), .val (.int (p1 &&& (255 : Int32))), .val (.int (p2 &&& (255 : Int32))), .val (.int (((p1 &&& (255 : Int32)) <<< ((8 : Int32) &&& 31)) ||| (p2 &&& (255 : Int32)))), .val (.int ((((p1 &&& (255 : Int32)) <<< ((8 : Int32) &&& 31)) ||| (p2 &&& (255 : Int32))).toUInt32.toUInt16.toUInt32.toInt32)), .unset, .unset] [])) _
    refine XS.aconstNull X0.here hx rfl (hb hby at_36) ?_
    show Steps p.tables e below (s₁.setTop (mkF m 37 #[.val (.int p1), .val (.int p2), .val (.int p3), .val (.int p4), .val (.int p5), .val (.int p6), .val (.int (p1 &&& (255 : Int32))), .val (.int (p2 &&& (255 : Int32))), .val (.int (((p1 &&& (255 : Int32)) <<< ((8 : Int32) &&& 31)) ||| (p2 &&& (255 : Int32)))), .val (.int ((((p1 &&& (255 : Int32)) <<< ((8 : Int32) &&& 31)) ||| (p2 &&& (255 : Int32))).toUInt32.toUInt16.toUInt32.toInt32)), .unset, .unset] [.null])) _
    refine XS.iload X0.here hx rfl (hb hby at_37) rfl ?_
    show Steps p.tables e below (s₁.setTop (mkF m 39 #[.val (.int p1), .val (.int p2), .val (.int p3), .val (.int p4), .val (.int p5), .val (.int p6), .val (.int (p1 &&& (255 : Int32))), .val (.int (p2 &&& (255 : Int32))), .val (.int (((p1 &&& (255 : Int32)) <<< ((8 : Int32) &&& 31)) ||| (p2 &&& (255 : Int32)))), .val (.int ((((p1 &&& (255 : Int32)) <<< ((8 : Int32) &&& 31)) ||| (p2 &&& (255 : Int32))).toUInt32.toUInt16.toUInt32.toInt32)), .unset, .unset] [(.int ((((p1 &&& (255 : Int32)) <<< ((8 : Int32) &&& 31)) ||| (p2 &&& (255 : Int32))).toUInt32.toUInt16.toUInt32.toInt32)), .null])) _
    refine st7 _ ?_
    show Steps p.tables e below (T7.setTop (mkF m 42 #[.val (.int p1), .val (.int p2), .val (.int p3), .val (.int p4), .val (.int p5), .val (.int p6), .val (.int (p1 &&& (255 : Int32))), .val (.int (p2 &&& (255 : Int32))), .val (.int (((p1 &&& (255 : Int32)) <<< ((8 : Int32) &&& 31)) ||| (p2 &&& (255 : Int32)))), .val (.int ((((p1 &&& (255 : Int32)) <<< ((8 : Int32) &&& 31)) ||| (p2 &&& (255 : Int32))).toUInt32.toUInt16.toUInt32.toInt32)), .unset, .unset] [(.int ((((p1 &&& (255 : Int32)) <<< ((8 : Int32) &&& 31)) ||| (p2 &&& (255 : Int32))).toUInt32.toUInt16.toUInt32.toInt32))])) _
    refine XS.iload X7.here hx rfl (hb hby at_42) rfl ?_
    show Steps p.tables e below (T7.setTop (mkF m 44 #[.val (.int p1), .val (.int p2), .val (.int p3), .val (.int p4), .val (.int p5), .val (.int p6), .val (.int (p1 &&& (255 : Int32))), .val (.int (p2 &&& (255 : Int32))), .val (.int (((p1 &&& (255 : Int32)) <<< ((8 : Int32) &&& 31)) ||| (p2 &&& (255 : Int32)))), .val (.int ((((p1 &&& (255 : Int32)) <<< ((8 : Int32) &&& 31)) ||| (p2 &&& (255 : Int32))).toUInt32.toUInt16.toUInt32.toInt32)), .unset, .unset] [(.int (((p1 &&& (255 : Int32)) <<< ((8 : Int32) &&& 31)) ||| (p2 &&& (255 : Int32)))), (.int ((((p1 &&& (255 : Int32)) <<< ((8 : Int32) &&& 31)) ||| (p2 &&& (255 : Int32))).toUInt32.toUInt16.toUInt32.toInt32))])) _
    refine XS.icmpNo X7.here hx rfl (hb hby at_44) rfl (teq (own_char (by have := own_code (own_byte p1) (own_byte p2); have := own_byte p1; have := own_byte p2; omega) : ((((p1 &&& (255 : Int32)) <<< ((8 : Int32) &&& 31)) ||| (p2 &&& (255 : Int32))).toUInt32.toUInt16.toUInt32.toInt32) = (((p1 &&& (255 : Int32)) <<< ((8 : Int32) &&& 31)) ||| (p2 &&& (255 : Int32))))).2 ?_
    show Steps p.tables e below (T7.setTop (mkF m 47 #[.val (.int p1), .val (.int p2), .val (.int p3), .val (.int p4), .val (.int p5), .val (.int p6), .val (.int (p1 &&& (255 : Int32))), .val (.int (p2 &&& (255 : Int32))), .val (.int (((p1 &&& (255 : Int32)) <<< ((8 : Int32) &&& 31)) ||| (p2 &&& (255 : Int32)))), .val (.int ((((p1 &&& (255 : Int32)) <<< ((8 : Int32) &&& 31)) ||| (p2 &&& (255 : Int32))).toUInt32.toUInt16.toUInt32.toInt32)), .unset, .unset] [])) _
    refine XS.iconst X7.here hx rfl (hb hby at_47) ?_
    show Steps p.tables e below (T7.setTop (mkF m 48 #[.val (.int p1), .val (.int p2), .val (.int p3), .val (.int p4), .val (.int p5), .val (.int p6), .val (.int (p1 &&& (255 : Int32))), .val (.int (p2 &&& (255 : Int32))), .val (.int (((p1 &&& (255 : Int32)) <<< ((8 : Int32) &&& 31)) ||| (p2 &&& (255 : Int32)))), .val (.int ((((p1 &&& (255 : Int32)) <<< ((8 : Int32) &&& 31)) ||| (p2 &&& (255 : Int32))).toUInt32.toUInt16.toUInt32.toInt32)), .unset, .unset] [(.int (1 : Int32))])) _
    refine XS.goto X7.here hx rfl (pc0 := 48) (pc' := 52) rfl (hb hby at_48) (by decide) (by decide) ?_
    show Steps p.tables e below (T7.setTop (mkF m 52 #[.val (.int p1), .val (.int p2), .val (.int p3), .val (.int p4), .val (.int p5), .val (.int p6), .val (.int (p1 &&& (255 : Int32))), .val (.int (p2 &&& (255 : Int32))), .val (.int (((p1 &&& (255 : Int32)) <<< ((8 : Int32) &&& 31)) ||| (p2 &&& (255 : Int32)))), .val (.int ((((p1 &&& (255 : Int32)) <<< ((8 : Int32) &&& 31)) ||| (p2 &&& (255 : Int32))).toUInt32.toUInt16.toUInt32.toInt32)), .unset, .unset] [(.int (1 : Int32))])) _
    exact retN X7 hx (t := .boolean) Bd.returns (by simp) (hb hby at_52) hr
  · show Q0n Z p1 p2 p3 p4 p5 p6 h0 n0 _ T7.heap _
    exact ⟨rfl, N7⟩
def Q0t (Z : State) (p1 : Int32) (p2 : Int32) (p3 : Int32) (p4 : Int32) (p5 : Int32) (p6 : Int32) (h0 : Heap) (n0 : Nat) (v : Option Value) (h : Heap) (L : List Loc) : Prop := v = some (.int (1 : Int32)) ∧ Fr n0 L
set_option maxRecDepth 65536 in
set_option maxHeartbeats 40000000 in
theorem rm0t (l : Launch) (Z : State) (a0 : Array Value) (hw : ∀ d ∈ tables_1, d.before a0 Z = true) (ws : List Jvm.Cond) (p1 : Int32) (p2 : Int32) (p3 : Int32) (p4 : Int32) (p5 : Int32) (p6 : Int32) (h0 : Heap) (n0 : Nat) (Z0 : n0 ≤ h0.size) (hc33 : ¬ ((p6 &&& (1 : Int32)) = (0 : Int32))) :
    MetFree l x (head1 (Jvm.Cond.code x code maxLocals ret :: ws) room_1) (fun a U => a = #[(.int p1), (.int p2), (.int p3), (.int p4), (.int p5), (.int p6)] ∧ Z.Warmed39 U.vm ∧ U.heap = h0) (fun _ _ _ _ _ => True) (fun _ U o U' => ∃ v L, o = .returned v ∧ Q0t Z p1 p2 p3 p4 p5 p6 h0 n0 v U'.heap L ∧ FrameEnd U o U' L room_1.cells room_1.slots) := by
  refine MetFree.of_bodySF (plainFor_of_name pn_0) hisR ?_
  intro p e s m args below meth c s₁ Bd hml0 hP hK
  obtain ⟨rfl, hZ, hh⟩ := hP
  have hx := Bd.exec
  have hby := Bd.bytes
  have hml : c.maxLocals = 12 := hml0
  have hown : s.vm.findClass "com/example/basecheck/basecheck/trie/CharTableSlotPinLaw" = some m.cls := findClass_of_methodNamed Bd.named
  have hnm := (name_of_methodNamed Bd.named Bd.method).1
  have X0 : Stand p l e room_1 s m #[(.int p1), (.int p2), (.int p3), (.int p4), (.int p5), (.int p6)] below meth c s₁ [] 0 0 := Stand.of_body Bd
  have e0 : s₁.heap = h0 := by rw [← hh, Bd.state]; rfl
  have N0 := Fr.nil n0
  have pre0 : ∀ t, Steps p.tables e below (s₁.setTop (mkF m 0 #[.val (.int p1), .val (.int p2), .val (.int p3), .val (.int p4), .val (.int p5), .val (.int p6), .unset, .unset, .unset, .unset, .unset, .unset] [])) t → Steps p.tables e below (s₁.setTop (entryFrame m #[(.int p1), (.int p2), (.int p3), (.int p4), (.int p5), (.int p6)] maxLocals)) t := fun t k => castTop (ef_0 m p1 p2 p3 p4 p5 p6) k
  obtain ⟨T7, h7, k7, X7, e7, E7, A7, st7⟩ := newP X0 hx hZ (hw _ (List.mem_of_getElem? (i := 0) rfl)) e0 (g := (mkF m 56 #[.val (.int p1), .val (.int p2), .val (.int p3), .val (.int p4), .val (.int p5), .val (.int p6), .val (.int (p1 &&& (255 : Int32))), .val (.int (p2 &&& (255 : Int32))), .val (.int (((p1 &&& (255 : Int32)) <<< ((8 : Int32) &&& 31)) ||| (p2 &&& (255 : Int32)))), .val (.int ((((p1 &&& (255 : Int32)) <<< ((8 : Int32) &&& 31)) ||| (p2 &&& (255 : Int32))).toUInt32.toUInt16.toUInt32.toInt32)), .unset, .unset] [(.int (256 : Int32))])) rfl (hb hby at_56) rfl (by decide) (cap := 256) (by decide) (by decide) (by decide) (by decide)
  obtain ⟨b7, g7⟩ : ∃ z, z = h0.size := ⟨_, rfl⟩
  rw [← g7] at A7 st7
  have V_b7 := own_A.new A7 (N := 256) (by decide)
  have B1 := own_byte p1
  have B2 := own_byte p2
  have B5 := own_byte (((p1 &&& (255 : Int32)) + (1 : Int32)) + (p5 &&& (254 : Int32)))
  have C1 := own_code B1 B2
  have C2 := own_char (x := (((p1 &&& (255 : Int32)) <<< ((8 : Int32) &&& 31)) ||| (p2 &&& (255 : Int32)))) (by omega)
  have g_b7 : n0 ≤ b7 := Nat.le_trans Z0 (Nat.le_of_eq g7.symm)
  have sz_b7 : h0.size ≤ b7 := (Nat.le_trans (Keep.refl h0 []).1 (Nat.le_of_eq g7.symm))
  have K7 : Keep h0 h7 [] := (Keep.refl h0 []).ext E7
  obtain ⟨T8, h8, X8, e8, W8, V82, st8⟩ := own_stI X7 hx hZ e7 V_b7 (j := ((((p1 &&& (255 : Int32)) + (1 : Int32)) + (p5 &&& (254 : Int32))) &&& (255 : Int32))) B5.1 B5.2 (g := (mkF m 82 #[.val (.int p1), .val (.int p2), .val (.int p3), .val (.int p4), .val (.int p5), .val (.int p6), .val (.int (p1 &&& (255 : Int32))), .val (.int (p2 &&& (255 : Int32))), .val (.int (((p1 &&& (255 : Int32)) <<< ((8 : Int32) &&& 31)) ||| (p2 &&& (255 : Int32)))), .val (.int ((((p1 &&& (255 : Int32)) <<< ((8 : Int32) &&& 31)) ||| (p2 &&& (255 : Int32))).toUInt32.toUInt16.toUInt32.toInt32)), .val (.ref b7), .val (.int ((((p1 &&& (255 : Int32)) + (1 : Int32)) + (p5 &&& (254 : Int32))) &&& (255 : Int32)))] [(.int p4), (.int ((((p1 &&& (255 : Int32)) + (1 : Int32)) + (p5 &&& (254 : Int32))) &&& (255 : Int32))), (.ref b7)])) rfl rfl (hb hby at_82)
  have K8 : Keep h0 h8 [] := K7.wr W8 (Or.inr sz_b7)
  have N8 := Fr.snoc X8 N0 g_b7
  obtain ⟨T9, h9, X9, e9, W9, V88, st9⟩ := own_stI X8 hx hZ e8 V82 (j := (p1 &&& (255 : Int32))) B1.1 B1.2 (g := (mkF m 88 #[.val (.int p1), .val (.int p2), .val (.int p3), .val (.int p4), .val (.int p5), .val (.int p6), .val (.int (p1 &&& (255 : Int32))), .val (.int (p2 &&& (255 : Int32))), .val (.int (((p1 &&& (255 : Int32)) <<< ((8 : Int32) &&& 31)) ||| (p2 &&& (255 : Int32)))), .val (.int ((((p1 &&& (255 : Int32)) <<< ((8 : Int32) &&& 31)) ||| (p2 &&& (255 : Int32))).toUInt32.toUInt16.toUInt32.toInt32)), .val (.ref b7), .val (.int ((((p1 &&& (255 : Int32)) + (1 : Int32)) + (p5 &&& (254 : Int32))) &&& (255 : Int32)))] [(.int p3), (.int (p1 &&& (255 : Int32))), (.ref b7)])) rfl rfl (hb hby at_88)
  have K9 : Keep h0 h9 [] := K8.wr W9 (Or.inr sz_b7)
  have N9 := Fr.snoc X9 N8 g_b7
  obtain ⟨_, _, ⟨T10, L10, k10, n10⟩, -, X10, ⟨Lc10, hQ10, l10, y10, z10⟩, st10⟩ := Jvm.LawKit.callS X9 hx (y := (⟨"com/example/basecheck/basecheck/trie/CharTable", "slot", "([IC)I"⟩ : MethodName)) hown (mvT hZ (hw _ (List.mem_of_getElem? (i := 1) rfl))) (mvT hZ (hw _ (List.mem_of_getElem? (i := 2) rfl))) (mvT hZ (hw _ (List.mem_of_getElem? (i := 3) rfl))) (mvT hZ (hw _ (List.mem_of_getElem? (i := 4) rfl))) (by decide) (backOf (W := 0) (rm1 l Z a0 hw [] b7 ((((p1 &&& (255 : Int32)) <<< ((8 : Int32) &&& 31)) ||| (p2 &&& (255 : Int32))).toUInt32.toUInt16.toUInt32.toInt32) p3 256 _ h9 n0 (Nat.le_trans Z0 K9.1) V88 (by rw [C2, own_idx (H := p1 &&& (255 : Int32)) (by omega)]; exact B1) (by rw [C2, own_idx (H := p1 &&& (255 : Int32)) (by omega)]; exact own_upd_same _ _ _)) hZ (hw _ (List.mem_of_getElem? (i := 4) rfl)) (hw _ (List.mem_of_getElem? (i := 3) rfl)) (by decide) (by decide)) (g := (mkF m 93 #[.val (.int p1), .val (.int p2), .val (.int p3), .val (.int p4), .val (.int p5), .val (.int p6), .val (.int (p1 &&& (255 : Int32))), .val (.int (p2 &&& (255 : Int32))), .val (.int (((p1 &&& (255 : Int32)) <<< ((8 : Int32) &&& 31)) ||| (p2 &&& (255 : Int32)))), .val (.int ((((p1 &&& (255 : Int32)) <<< ((8 : Int32) &&& 31)) ||| (p2 &&& (255 : Int32))).toUInt32.toUInt16.toUInt32.toInt32)), .val (.ref b7), .val (.int ((((p1 &&& (255 : Int32)) + (1 : Int32)) + (p5 &&& (254 : Int32))) &&& (255 : Int32)))] [(.int ((((p1 &&& (255 : Int32)) <<< ((8 : Int32) &&& 31)) ||| (p2 &&& (255 : Int32))).toUInt32.toUInt16.toUInt32.toInt32)), (.ref b7)])) rfl (by rw [hml]; rfl) (argsL := [(.ref b7), (.int ((((p1 &&& (255 : Int32)) <<< ((8 : Int32) &&& 31)) ||| (p2 &&& (255 : Int32))).toUInt32.toUInt16.toUInt32.toInt32))]) (rest := []) (lenOf pd_0_0 rfl) rfl (by show 2 * 0 + _ ≤ _; exact Nat.le_of_eq rfl) (hb hby at_93) (fun _ _ => ⟨rfl, e9, (by decide : 1 + 0 ≤ _), (by decide : 256 + 0 ≤ _)⟩)
  dsimp only [Pt.U, Pt.locs, Pt.cells, Pt.slots] at X10 l10 y10 z10 st10 hQ10
  subst l10 y10 z10
  obtain ⟨rfl, N10q, e10⟩ := hQ10
  have N10 := Fr.app N9 N10q
  obtain ⟨fs, hr, hrun, hended, hW, hsame⟩ := X10.leave (v := some (.int (1 : Int32))) (fun h => by rw [Bd.returns] at h; cases h)
  refine ⟨_, _, pre0 _ ?_, hrun, hended, _, _, rfl, ?_, ⟨_, rfl⟩, hW, hsame.mono (by decide) (by decide)⟩
  · show Steps p.tables e below (s₁.setTop (mkF m 0 #[.val (.int p1), .val (.int p2), .val (.int p3), .val (.int p4), .val (.int p5), .val (.int p6), .unset, .unset, .unset, .unset, .unset, .unset] [])) _
    refine XS.iloadN X0.here hx rfl (hb hby at_0) rfl ?_
    show Steps p.tables e below (s₁.setTop (mkF m 1 #[.val (.int p1), .val (.int p2), .val (.int p3), .val (.int p4), .val (.int p5), .val (.int p6), .unset, .unset, .unset, .unset, .unset, .unset] [(.int p1)])) _
    refine XS.sipush X0.here hx rfl (hb hby at_1) ?_
    show Steps p.tables e below (s₁.setTop (mkF m 4 #[.val (.int p1), .val (.int p2), .val (.int p3), .val (.int p4), .val (.int p5), .val (.int p6), .unset, .unset, .unset, .unset, .unset, .unset] [(.int (255 : Int32)), (.int p1)])) _
    refine XS.iand X0.here hx rfl (hb hby at_4) rfl ?_
    show Steps p.tables e below (s₁.setTop (mkF m 5 #[.val (.int p1), .val (.int p2), .val (.int p3), .val (.int p4), .val (.int p5), .val (.int p6), .unset, .unset, .unset, .unset, .unset, .unset] [(.int (p1 &&& (255 : Int32)))])) _
    refine XS.istore X0.here hx rfl (hb hby at_5) rfl (l' := #[.val (.int p1), .val (.int p2), .val (.int p3), .val (.int p4), .val (.int p5), .val (.int p6), .val (.int (p1 &&& (255 : Int32))), .unset, .unset, .unset, .unset, .unset]) rfl ?_
    show Steps p.tables e below (s₁.setTop (mkF m 7 #[.val (.int p1), .val (.int p2), .val (.int p3), .val (.int p4), .val (.int p5), .val (.int p6), .val (.int (p1 &&& (255 : Int32))), .unset, .unset, .unset, .unset, .unset] [])) _
    refine XS.iloadN X0.here hx rfl (hb hby at_7) rfl ?_
    show Steps p.tables e below (s₁.setTop (mkF m 8 #[.val (.int p1), .val (.int p2), .val (.int p3), .val (.int p4), .val (.int p5), .val (.int p6), .val (.int (p1 &&& (255 : Int32))), .unset, .unset, .unset, .unset, .unset] [(.int p2)])) _
    refine XS.sipush X0.here hx rfl (hb hby at_8) ?_
    show Steps p.tables e below (s₁.setTop (mkF m 11 #[.val (.int p1), .val (.int p2), .val (.int p3), .val (.int p4), .val (.int p5), .val (.int p6), .val (.int (p1 &&& (255 : Int32))), .unset, .unset, .unset, .unset, .unset] [(.int (255 : Int32)), (.int p2)])) _
    refine XS.iand X0.here hx rfl (hb hby at_11) rfl ?_
    show Steps p.tables e below (s₁.setTop (mkF m 12 #[.val (.int p1), .val (.int p2), .val (.int p3), .val (.int p4), .val (.int p5), .val (.int p6), .val (.int (p1 &&& (255 : Int32))), .unset, .unset, .unset, .unset, .unset] [(.int (p2 &&& (255 : Int32)))])) _
    refine XS.istore X0.here hx rfl (hb hby at_12) rfl (l' := #[.val (.int p1), .val (.int p2), .val (.int p3), .val (.int p4), .val (.int p5), .val (.int p6), .val (.int (p1 &&& (255 : Int32))), .val (.int (p2 &&& (255 : Int32))), .unset, .unset, .unset, .unset]) rfl ?_
    show Steps p.tables e below (s₁.setTop (mkF m 14 #[.val (.int p1), .val (.int p2), .val (.int p3), .val (.int p4), .val (.int p5), .val (.int p6), .val (.int (p1 &&& (255 : Int32))), .val (.int (p2 &&& (255 : Int32))), .unset, .unset, .unset, .unset] [])) _
    refine XS.iload X0.here hx rfl (hb hby at_14) rfl ?_
    show Steps p.tables e below (s₁.setTop (mkF m 16 #[.val (.int p1), .val (.int p2), .val (.int p3), .val (.int p4), .val (.int p5), .val (.int p6), .val (.int (p1 &&& (255 : Int32))), .val (.int (p2 &&& (255 : Int32))), .unset, .unset, .unset, .unset] [(.int (p1 &&& (255 : Int32)))])) _
    refine XS.bipush X0.here hx rfl (hb hby at_16) ?_
    show Steps p.tables e below (s₁.setTop (mkF m 18 #[.val (.int p1), .val (.int p2), .val (.int p3), .val (.int p4), .val (.int p5), .val (.int p6), .val (.int (p1 &&& (255 : Int32))), .val (.int (p2 &&& (255 : Int32))), .unset, .unset, .unset, .unset] [(.int (8 : Int32)), (.int (p1 &&& (255 : Int32)))])) _
    refine XS.ishl X0.here hx rfl (hb hby at_18) rfl ?_
    show Steps p.tables e below (s₁.setTop (mkF m 19 #[.val (.int p1), .val (.int p2), .val (.int p3), .val (.int p4), .val (.int p5), .val (.int p6), .val (.int (p1 &&& (255 : Int32))), .val (.int (p2 &&& (255 : Int32))), .unset, .unset, .unset, .unset] [(.int ((p1 &&& (255 : Int32)) <<< ((8 : Int32) &&& 31)))])) _
    refine XS.iload X0.here hx rfl (hb hby at_19) rfl ?_
    show Steps p.tables e below (s₁.setTop (mkF m 21 #[.val (.int p1), .val (.int p2), .val (.int p3), .val (.int p4), .val (.int p5), .val (.int p6), .val (.int (p1 &&& (255 : Int32))), .val (.int (p2 &&& (255 : Int32))), .unset, .unset, .unset, .unset] [(.int (p2 &&& (255 : Int32))), (.int ((p1 &&& (255 : Int32)) <<< ((8 : Int32) &&& 31)))])) _
    refine XS.ior X0.here hx rfl (hb hby at_21) rfl ?_
    show Steps p.tables e below (s₁.setTop (mkF m 22 #[.val (.int p1), .val (.int p2), .val (.int p3), .val (.int p4), .val (.int p5), .val (.int p6), .val (.int (p1 &&& (255 : Int32))), .val (.int (p2 &&& (255 : Int32))), .unset, .unset, .unset, .unset] [(.int (((p1 &&& (255 : Int32)) <<< ((8 : Int32) &&& 31)) ||| (p2 &&& (255 : Int32))))])) _
    refine XS.istore X0.here hx rfl (hb hby at_22) rfl (l' := #[.val (.int p1), .val (.int p2), .val (.int p3), .val (.int p4), .val (.int p5), .val (.int p6), .val (.int (p1 &&& (255 : Int32))), .val (.int (p2 &&& (255 : Int32))), .val (.int (((p1 &&& (255 : Int32)) <<< ((8 : Int32) &&& 31)) ||| (p2 &&& (255 : Int32)))), .unset, .unset, .unset]) rfl ?_
    show Steps p.tables e below (s₁.setTop (mkF m 24 #[.val (.int p1), .val (.int p2), .val (.int p3), .val (.int p4), .val (.int p5), .val (.int p6), .val (.int (p1 &&& (255 : Int32))), .val (.int (p2 &&& (255 : Int32))), .val (.int (((p1 &&& (255 : Int32)) <<< ((8 : Int32) &&& 31)) ||| (p2 &&& (255 : Int32)))), .unset, .unset, .unset] [])) _
    refine XS.iload X0.here hx rfl (hb hby at_24) rfl ?_
    show Steps p.tables e below (s₁.setTop (mkF m 26 #[.val (.int p1), .val (.int p2), .val (.int p3), .val (.int p4), .val (.int p5), .val (.int p6), .val (.int (p1 &&& (255 : Int32))), .val (.int (p2 &&& (255 : Int32))), .val (.int (((p1 &&& (255 : Int32)) <<< ((8 : Int32) &&& 31)) ||| (p2 &&& (255 : Int32)))), .unset, .unset, .unset] [(.int (((p1 &&& (255 : Int32)) <<< ((8 : Int32) &&& 31)) ||| (p2 &&& (255 : Int32))))])) _
    refine XS.i2c X0.here hx rfl (hb hby at_26) rfl ?_
    show Steps p.tables e below (s₁.setTop (mkF m 27 #[.val (.int p1), .val (.int p2), .val (.int p3), .val (.int p4), .val (.int p5), .val (.int p6), .val (.int (p1 &&& (255 : Int32))), .val (.int (p2 &&& (255 : Int32))), .val (.int (((p1 &&& (255 : Int32)) <<< ((8 : Int32) &&& 31)) ||| (p2 &&& (255 : Int32)))), .unset, .unset, .unset] [(.int ((((p1 &&& (255 : Int32)) <<< ((8 : Int32) &&& 31)) ||| (p2 &&& (255 : Int32))).toUInt32.toUInt16.toUInt32.toInt32))])) _
    refine XS.istore X0.here hx rfl (hb hby at_27) rfl (l' := #[.val (.int p1), .val (.int p2), .val (.int p3), .val (.int p4), .val (.int p5), .val (.int p6), .val (.int (p1 &&& (255 : Int32))), .val (.int (p2 &&& (255 : Int32))), .val (.int (((p1 &&& (255 : Int32)) <<< ((8 : Int32) &&& 31)) ||| (p2 &&& (255 : Int32)))), .val (.int ((((p1 &&& (255 : Int32)) <<< ((8 : Int32) &&& 31)) ||| (p2 &&& (255 : Int32))).toUInt32.toUInt16.toUInt32.toInt32)), .unset, .unset]) rfl ?_
    show Steps p.tables e below (s₁.setTop (mkF m 29 #[.val (.int p1), .val (.int p2), .val (.int p3), .val (.int p4), .val (.int p5), .val (.int p6), .val (.int (p1 &&& (255 : Int32))), .val (.int (p2 &&& (255 : Int32))), .val (.int (((p1 &&& (255 : Int32)) <<< ((8 : Int32) &&& 31)) ||| (p2 &&& (255 : Int32)))), .val (.int ((((p1 &&& (255 : Int32)) <<< ((8 : Int32) &&& 31)) ||| (p2 &&& (255 : Int32))).toUInt32.toUInt16.toUInt32.toInt32)), .unset, .unset] [])) _
    refine XS.iload X0.here hx rfl (hb hby at_29) rfl ?_
    show Steps p.tables e below (s₁.setTop (mkF m 31 #[.val (.int p1), .val (.int p2), .val (.int p3), .val (.int p4), .val (.int p5), .val (.int p6), .val (.int (p1 &&& (255 : Int32))), .val (.int (p2 &&& (255 : Int32))), .val (.int (((p1 &&& (255 : Int32)) <<< ((8 : Int32) &&& 31)) ||| (p2 &&& (255 : Int32)))), .val (.int ((((p1 &&& (255 : Int32)) <<< ((8 : Int32) &&& 31)) ||| (p2 &&& (255 : Int32))).toUInt32.toUInt16.toUInt32.toInt32)), .unset, .unset] [(.int p6)])) _
    refine XS.iconst X0.here hx rfl (hb hby at_31) ?_
    show Steps p.tables e below (s₁.setTop (mkF m 32 #[.val (.int p1), .val (.int p2), .val (.int p3), .val (.int p4), .val (.int p5), .val (.int p6), .val (.int (p1 &&& (255 : Int32))), .val (.int (p2 &&& (255 : Int32))), .val (.int (((p1 &&& (255 : Int32)) <<< ((8 : Int32) &&& 31)) ||| (p2 &&& (255 : Int32)))), .val (.int ((((p1 &&& (255 : Int32)) <<< ((8 : Int32) &&& 31)) ||| (p2 &&& (255 : Int32))).toUInt32.toUInt16.toUInt32.toInt32)), .unset, .unset] [(.int (1 : Int32)), (.int p6)])) _
    refine XS.iand X0.here hx rfl (hb hby at_32) rfl ?_
    show Steps p.tables e below (s₁.setTop (mkF m 33 #[.val (.int p1), .val (.int p2), .val (.int p3), .val (.int p4), .val (.int p5), .val (.int p6), .val (.int (p1 &&& (255 : Int32))), .val (.int (p2 &&& (255 : Int32))), .val (.int (((p1 &&& (255 : Int32)) <<< ((8 : Int32) &&& 31)) ||| (p2 &&& (255 : Int32)))), .val (.int ((((p1 &&& (255 : Int32)) <<< ((8 : Int32) &&& 31)) ||| (p2 &&& (255 : Int32))).toUInt32.toUInt16.toUInt32.toInt32)), .unset, .unset] [(.int (p6 &&& (1 : Int32)))])) _
    refine XS.ifYes X0.here hx rfl (pc0 := 33) (pc' := 53) rfl (hb hby at_33) rfl ((if0 _ _).trans (feq hc33).2) (by decide) (by decide) ?_
    show Steps p.tables e below (s₁.setTop (mkF m 53 #[.val (.int p1), .val (.int p2), .val (.int p3), .val (.int p4), .val (.int p5), .val (.int p6), .val (.int (p1 &&& (255 : Int32))), .val (.int (p2 &&& (255 : Int32))), .val (.int (((p1 &&& (255 : Int32)) <<< ((8 : Int32) &&& 31)) ||| (p2 &&& (255 : Int32)))), .val (.int ((((p1 &&& (255 : Int32)) <<< ((8 : Int32) &&& 31)) ||| (p2 &&& (255 : Int32))).toUInt32.toUInt16.toUInt32.toInt32)), .unset, .unset] [])) _
    refine XS.sipush X0.here hx rfl (hb hby at_53) ?_
    show Steps p.tables e below (s₁.setTop (mkF m 56 #[.val (.int p1), .val (.int p2), .val (.int p3), .val (.int p4), .val (.int p5), .val (.int p6), .val (.int (p1 &&& (255 : Int32))), .val (.int (p2 &&& (255 : Int32))), .val (.int (((p1 &&& (255 : Int32)) <<< ((8 : Int32) &&& 31)) ||| (p2 &&& (255 : Int32)))), .val (.int ((((p1 &&& (255 : Int32)) <<< ((8 : Int32) &&& 31)) ||| (p2 &&& (255 : Int32))).toUInt32.toUInt16.toUInt32.toInt32)), .unset, .unset] [(.int (256 : Int32))])) _
    refine st7 _ ?_
    show Steps p.tables e below (T7.setTop (mkF m 58 #[.val (.int p1), .val (.int p2), .val (.int p3), .val (.int p4), .val (.int p5), .val (.int p6), .val (.int (p1 &&& (255 : Int32))), .val (.int (p2 &&& (255 : Int32))), .val (.int (((p1 &&& (255 : Int32)) <<< ((8 : Int32) &&& 31)) ||| (p2 &&& (255 : Int32)))), .val (.int ((((p1 &&& (255 : Int32)) <<< ((8 : Int32) &&& 31)) ||| (p2 &&& (255 : Int32))).toUInt32.toUInt16.toUInt32.toInt32)), .unset, .unset] [(.ref b7)])) _
    refine XS.astore X7.here hx rfl (hb hby at_58) rfl rfl (l' := #[.val (.int p1), .val (.int p2), .val (.int p3), .val (.int p4), .val (.int p5), .val (.int p6), .val (.int (p1 &&& (255 : Int32))), .val (.int (p2 &&& (255 : Int32))), .val (.int (((p1 &&& (255 : Int32)) <<< ((8 : Int32) &&& 31)) ||| (p2 &&& (255 : Int32)))), .val (.int ((((p1 &&& (255 : Int32)) <<< ((8 : Int32) &&& 31)) ||| (p2 &&& (255 : Int32))).toUInt32.toUInt16.toUInt32.toInt32)), .val (.ref b7), .unset]) rfl ?_
    show Steps p.tables e below (T7.setTop (mkF m 60 #[.val (.int p1), .val (.int p2), .val (.int p3), .val (.int p4), .val (.int p5), .val (.int p6), .val (.int (p1 &&& (255 : Int32))), .val (.int (p2 &&& (255 : Int32))), .val (.int (((p1 &&& (255 : Int32)) <<< ((8 : Int32) &&& 31)) ||| (p2 &&& (255 : Int32)))), .val (.int ((((p1 &&& (255 : Int32)) <<< ((8 : Int32) &&& 31)) ||| (p2 &&& (255 : Int32))).toUInt32.toUInt16.toUInt32.toInt32)), .val (.ref b7), .unset] [])) _
    refine XS.iload X7.here hx rfl (hb hby at_60) rfl ?_
    show Steps p.tables e below (T7.setTop (mkF m 62 #[.val (.int p1), .val (.int p2), .val (.int p3), .val (.int p4), .val (.int p5), .val (.int p6), .val (.int (p1 &&& (255 : Int32))), .val (.int (p2 &&& (255 : Int32))), .val (.int (((p1 &&& (255 : Int32)) <<< ((8 : Int32) &&& 31)) ||| (p2 &&& (255 : Int32)))), .val (.int ((((p1 &&& (255 : Int32)) <<< ((8 : Int32) &&& 31)) ||| (p2 &&& (255 : Int32))).toUInt32.toUInt16.toUInt32.toInt32)), .val (.ref b7), .unset] [(.int (p1 &&& (255 : Int32)))])) _
    refine XS.iconst X7.here hx rfl (hb hby at_62) ?_
    show Steps p.tables e below (T7.setTop (mkF m 63 #[.val (.int p1), .val (.int p2), .val (.int p3), .val (.int p4), .val (.int p5), .val (.int p6), .val (.int (p1 &&& (255 : Int32))), .val (.int (p2 &&& (255 : Int32))), .val (.int (((p1 &&& (255 : Int32)) <<< ((8 : Int32) &&& 31)) ||| (p2 &&& (255 : Int32)))), .val (.int ((((p1 &&& (255 : Int32)) <<< ((8 : Int32) &&& 31)) ||| (p2 &&& (255 : Int32))).toUInt32.toUInt16.toUInt32.toInt32)), .val (.ref b7), .unset] [(.int (1 : Int32)), (.int (p1 &&& (255 : Int32)))])) _
    refine XS.iadd X7.here hx rfl (hb hby at_63) rfl ?_
    show Steps p.tables e below (T7.setTop (mkF m 64 #[.val (.int p1), .val (.int p2), .val (.int p3), .val (.int p4), .val (.int p5), .val (.int p6), .val (.int (p1 &&& (255 : Int32))), .val (.int (p2 &&& (255 : Int32))), .val (.int (((p1 &&& (255 : Int32)) <<< ((8 : Int32) &&& 31)) ||| (p2 &&& (255 : Int32)))), .val (.int ((((p1 &&& (255 : Int32)) <<< ((8 : Int32) &&& 31)) ||| (p2 &&& (255 : Int32))).toUInt32.toUInt16.toUInt32.toInt32)), .val (.ref b7), .unset] [(.int ((p1 &&& (255 : Int32)) + (1 : Int32)))])) _
    refine XS.iload X7.here hx rfl (hb hby at_64) rfl ?_
    show Steps p.tables e below (T7.setTop (mkF m 66 #[.val (.int p1), .val (.int p2), .val (.int p3), .val (.int p4), .val (.int p5), .val (.int p6), .val (.int (p1 &&& (255 : Int32))), .val (.int (p2 &&& (255 : Int32))), .val (.int (((p1 &&& (255 : Int32)) <<< ((8 : Int32) &&& 31)) ||| (p2 &&& (255 : Int32)))), .val (.int ((((p1 &&& (255 : Int32)) <<< ((8 : Int32) &&& 31)) ||| (p2 &&& (255 : Int32))).toUInt32.toUInt16.toUInt32.toInt32)), .val (.ref b7), .unset] [(.int p5), (.int ((p1 &&& (255 : Int32)) + (1 : Int32)))])) _
    refine XS.sipush X7.here hx rfl (hb hby at_66) ?_
    show Steps p.tables e below (T7.setTop (mkF m 69 #[.val (.int p1), .val (.int p2), .val (.int p3), .val (.int p4), .val (.int p5), .val (.int p6), .val (.int (p1 &&& (255 : Int32))), .val (.int (p2 &&& (255 : Int32))), .val (.int (((p1 &&& (255 : Int32)) <<< ((8 : Int32) &&& 31)) ||| (p2 &&& (255 : Int32)))), .val (.int ((((p1 &&& (255 : Int32)) <<< ((8 : Int32) &&& 31)) ||| (p2 &&& (255 : Int32))).toUInt32.toUInt16.toUInt32.toInt32)), .val (.ref b7), .unset] [(.int (254 : Int32)), (.int p5), (.int ((p1 &&& (255 : Int32)) + (1 : Int32)))])) _
    refine XS.iand X7.here hx rfl (hb hby at_69) rfl ?_
    show Steps p.tables e below (T7.setTop (mkF m 70 #[.val (.int p1), .val (.int p2), .val (.int p3), .val (.int p4), .val (.int p5), .val (.int p6), .val (.int (p1 &&& (255 : Int32))), .val (.int (p2 &&& (255 : Int32))), .val (.int (((p1 &&& (255 : Int32)) <<< ((8 : Int32) &&& 31)) ||| (p2 &&& (255 : Int32)))), .val (.int ((((p1 &&& (255 : Int32)) <<< ((8 : Int32) &&& 31)) ||| (p2 &&& (255 : Int32))).toUInt32.toUInt16.toUInt32.toInt32)), .val (.ref b7), .unset] [(.int (p5 &&& (254 : Int32))), (.int ((p1 &&& (255 : Int32)) + (1 : Int32)))])) _
    refine XS.iadd X7.here hx rfl (hb hby at_70) rfl ?_
    show Steps p.tables e below (T7.setTop (mkF m 71 #[.val (.int p1), .val (.int p2), .val (.int p3), .val (.int p4), .val (.int p5), .val (.int p6), .val (.int (p1 &&& (255 : Int32))), .val (.int (p2 &&& (255 : Int32))), .val (.int (((p1 &&& (255 : Int32)) <<< ((8 : Int32) &&& 31)) ||| (p2 &&& (255 : Int32)))), .val (.int ((((p1 &&& (255 : Int32)) <<< ((8 : Int32) &&& 31)) ||| (p2 &&& (255 : Int32))).toUInt32.toUInt16.toUInt32.toInt32)), .val (.ref b7), .unset] [(.int (((p1 &&& (255 : Int32)) + (1 : Int32)) + (p5 &&& (254 : Int32))))])) _
    refine XS.sipush X7.here hx rfl (hb hby at_71) ?_
    show Steps p.tables e below (T7.setTop (mkF m 74 #[.val (.int p1), .val (.int p2), .val (.int p3), .val (.int p4), .val (.int p5), .val (.int p6), .val (.int (p1 &&& (255 : Int32))), .val (.int (p2 &&& (255 : Int32))), .val (.int (((p1 &&& (255 : Int32)) <<< ((8 : Int32) &&& 31)) ||| (p2 &&& (255 : Int32)))), .val (.int ((((p1 &&& (255 : Int32)) <<< ((8 : Int32) &&& 31)) ||| (p2 &&& (255 : Int32))).toUInt32.toUInt16.toUInt32.toInt32)), .val (.ref b7), .unset] [(.int (255 : Int32)), (.int (((p1 &&& (255 : Int32)) + (1 : Int32)) + (p5 &&& (254 : Int32))))])) _
    refine XS.iand X7.here hx rfl (hb hby at_74) rfl ?_
    show Steps p.tables e below (T7.setTop (mkF m 75 #[.val (.int p1), .val (.int p2), .val (.int p3), .val (.int p4), .val (.int p5), .val (.int p6), .val (.int (p1 &&& (255 : Int32))), .val (.int (p2 &&& (255 : Int32))), .val (.int (((p1 &&& (255 : Int32)) <<< ((8 : Int32) &&& 31)) ||| (p2 &&& (255 : Int32)))), .val (.int ((((p1 &&& (255 : Int32)) <<< ((8 : Int32) &&& 31)) ||| (p2 &&& (255 : Int32))).toUInt32.toUInt16.toUInt32.toInt32)), .val (.ref b7), .unset] [(.int ((((p1 &&& (255 : Int32)) + (1 : Int32)) + (p5 &&& (254 : Int32))) &&& (255 : Int32)))])) _
    refine XS.istore X7.here hx rfl (hb hby at_75) rfl (l' := #[.val (.int p1), .val (.int p2), .val (.int p3), .val (.int p4), .val (.int p5), .val (.int p6), .val (.int (p1 &&& (255 : Int32))), .val (.int (p2 &&& (255 : Int32))), .val (.int (((p1 &&& (255 : Int32)) <<< ((8 : Int32) &&& 31)) ||| (p2 &&& (255 : Int32)))), .val (.int ((((p1 &&& (255 : Int32)) <<< ((8 : Int32) &&& 31)) ||| (p2 &&& (255 : Int32))).toUInt32.toUInt16.toUInt32.toInt32)), .val (.ref b7), .val (.int ((((p1 &&& (255 : Int32)) + (1 : Int32)) + (p5 &&& (254 : Int32))) &&& (255 : Int32)))]) rfl ?_
    show Steps p.tables e below (T7.setTop (mkF m 77 #[.val (.int p1), .val (.int p2), .val (.int p3), .val (.int p4), .val (.int p5), .val (.int p6), .val (.int (p1 &&& (255 : Int32))), .val (.int (p2 &&& (255 : Int32))), .val (.int (((p1 &&& (255 : Int32)) <<< ((8 : Int32) &&& 31)) ||| (p2 &&& (255 : Int32)))), .val (.int ((((p1 &&& (255 : Int32)) <<< ((8 : Int32) &&& 31)) ||| (p2 &&& (255 : Int32))).toUInt32.toUInt16.toUInt32.toInt32)), .val (.ref b7), .val (.int ((((p1 &&& (255 : Int32)) + (1 : Int32)) + (p5 &&& (254 : Int32))) &&& (255 : Int32)))] [])) _
    refine XS.aload X7.here hx rfl (hb hby at_77) rfl rfl ?_
    show Steps p.tables e below (T7.setTop (mkF m 79 #[.val (.int p1), .val (.int p2), .val (.int p3), .val (.int p4), .val (.int p5), .val (.int p6), .val (.int (p1 &&& (255 : Int32))), .val (.int (p2 &&& (255 : Int32))), .val (.int (((p1 &&& (255 : Int32)) <<< ((8 : Int32) &&& 31)) ||| (p2 &&& (255 : Int32)))), .val (.int ((((p1 &&& (255 : Int32)) <<< ((8 : Int32) &&& 31)) ||| (p2 &&& (255 : Int32))).toUInt32.toUInt16.toUInt32.toInt32)), .val (.ref b7), .val (.int ((((p1 &&& (255 : Int32)) + (1 : Int32)) + (p5 &&& (254 : Int32))) &&& (255 : Int32)))] [(.ref b7)])) _
    refine XS.iload X7.here hx rfl (hb hby at_79) rfl ?_
    show Steps p.tables e below (T7.setTop (mkF m 81 #[.val (.int p1), .val (.int p2), .val (.int p3), .val (.int p4), .val (.int p5), .val (.int p6), .val (.int (p1 &&& (255 : Int32))), .val (.int (p2 &&& (255 : Int32))), .val (.int (((p1 &&& (255 : Int32)) <<< ((8 : Int32) &&& 31)) ||| (p2 &&& (255 : Int32)))), .val (.int ((((p1 &&& (255 : Int32)) <<< ((8 : Int32) &&& 31)) ||| (p2 &&& (255 : Int32))).toUInt32.toUInt16.toUInt32.toInt32)), .val (.ref b7), .val (.int ((((p1 &&& (255 : Int32)) + (1 : Int32)) + (p5 &&& (254 : Int32))) &&& (255 : Int32)))] [(.int ((((p1 &&& (255 : Int32)) + (1 : Int32)) + (p5 &&& (254 : Int32))) &&& (255 : Int32))), (.ref b7)])) _
    refine XS.iloadN X7.here hx rfl (hb hby at_81) rfl ?_
    show Steps p.tables e below (T7.setTop (mkF m 82 #[.val (.int p1), .val (.int p2), .val (.int p3), .val (.int p4), .val (.int p5), .val (.int p6), .val (.int (p1 &&& (255 : Int32))), .val (.int (p2 &&& (255 : Int32))), .val (.int (((p1 &&& (255 : Int32)) <<< ((8 : Int32) &&& 31)) ||| (p2 &&& (255 : Int32)))), .val (.int ((((p1 &&& (255 : Int32)) <<< ((8 : Int32) &&& 31)) ||| (p2 &&& (255 : Int32))).toUInt32.toUInt16.toUInt32.toInt32)), .val (.ref b7), .val (.int ((((p1 &&& (255 : Int32)) + (1 : Int32)) + (p5 &&& (254 : Int32))) &&& (255 : Int32)))] [(.int p4), (.int ((((p1 &&& (255 : Int32)) + (1 : Int32)) + (p5 &&& (254 : Int32))) &&& (255 : Int32))), (.ref b7)])) _
    refine st8 _ ?_
    show Steps p.tables e below (T8.setTop (mkF m 83 #[.val (.int p1), .val (.int p2), .val (.int p3), .val (.int p4), .val (.int p5), .val (.int p6), .val (.int (p1 &&& (255 : Int32))), .val (.int (p2 &&& (255 : Int32))), .val (.int (((p1 &&& (255 : Int32)) <<< ((8 : Int32) &&& 31)) ||| (p2 &&& (255 : Int32)))), .val (.int ((((p1 &&& (255 : Int32)) <<< ((8 : Int32) &&& 31)) ||| (p2 &&& (255 : Int32))).toUInt32.toUInt16.toUInt32.toInt32)), .val (.ref b7), .val (.int ((((p1 &&& (255 : Int32)) + (1 : Int32)) + (p5 &&& (254 : Int32))) &&& (255 : Int32)))] [])) _
    refine XS.aload X8.here hx rfl (hb hby at_83) rfl rfl ?_
    show Steps p.tables e below (T8.setTop (mkF m 85 #[.val (.int p1), .val (.int p2), .val (.int p3), .val (.int p4), .val (.int p5), .val (.int p6), .val (.int (p1 &&& (255 : Int32))), .val (.int (p2 &&& (255 : Int32))), .val (.int (((p1 &&& (255 : Int32)) <<< ((8 : Int32) &&& 31)) ||| (p2 &&& (255 : Int32)))), .val (.int ((((p1 &&& (255 : Int32)) <<< ((8 : Int32) &&& 31)) ||| (p2 &&& (255 : Int32))).toUInt32.toUInt16.toUInt32.toInt32)), .val (.ref b7), .val (.int ((((p1 &&& (255 : Int32)) + (1 : Int32)) + (p5 &&& (254 : Int32))) &&& (255 : Int32)))] [(.ref b7)])) _
    refine XS.iload X8.here hx rfl (hb hby at_85) rfl ?_
    show Steps p.tables e below (T8.setTop (mkF m 87 #[.val (.int p1), .val (.int p2), .val (.int p3), .val (.int p4), .val (.int p5), .val (.int p6), .val (.int (p1 &&& (255 : Int32))), .val (.int (p2 &&& (255 : Int32))), .val (.int (((p1 &&& (255 : Int32)) <<< ((8 : Int32) &&& 31)) ||| (p2 &&& (255 : Int32)))), .val (.int ((((p1 &&& (255 : Int32)) <<< ((8 : Int32) &&& 31)) ||| (p2 &&& (255 : Int32))).toUInt32.toUInt16.toUInt32.toInt32)), .val (.ref b7), .val (.int ((((p1 &&& (255 : Int32)) + (1 : Int32)) + (p5 &&& (254 : Int32))) &&& (255 : Int32)))] [(.int (p1 &&& (255 : Int32))), (.ref b7)])) _
    refine XS.iloadN X8.here hx rfl (hb hby at_87) rfl ?_
    show Steps p.tables e below (T8.setTop (mkF m 88 #[.val (.int p1), .val (.int p2), .val (.int p3), .val (.int p4), .val (.int p5), .val (.int p6), .val (.int (p1 &&& (255 : Int32))), .val (.int (p2 &&& (255 : Int32))), .val (.int (((p1 &&& (255 : Int32)) <<< ((8 : Int32) &&& 31)) ||| (p2 &&& (255 : Int32)))), .val (.int ((((p1 &&& (255 : Int32)) <<< ((8 : Int32) &&& 31)) ||| (p2 &&& (255 : Int32))).toUInt32.toUInt16.toUInt32.toInt32)), .val (.ref b7), .val (.int ((((p1 &&& (255 : Int32)) + (1 : Int32)) + (p5 &&& (254 : Int32))) &&& (255 : Int32)))] [(.int p3), (.int (p1 &&& (255 : Int32))), (.ref b7)])) _
    refine st9 _ ?_
    show Steps p.tables e below (T9.setTop (mkF m 89 #[.val (.int p1), .val (.int p2), .val (.int p3), .val (.int p4), .val (.int p5), .val (.int p6), .val (.int (p1 &&& (255 : Int32))), .val (.int (p2 &&& (255 : Int32))), .val (.int (((p1 &&& (255 : Int32)) <<< ((8 : Int32) &&& 31)) ||| (p2 &&& (255 : Int32)))), .val (.int ((((p1 &&& (255 : Int32)) <<< ((8 : Int32) &&& 31)) ||| (p2 &&& (255 : Int32))).toUInt32.toUInt16.toUInt32.toInt32)), .val (.ref b7), .val (.int ((((p1 &&& (255 : Int32)) + (1 : Int32)) + (p5 &&& (254 : Int32))) &&& (255 : Int32)))] [])) _
    refine XS.aload X9.here hx rfl (hb hby at_89) rfl rfl ?_
    show Steps p.tables e below (T9.setTop (mkF m 91 #[.val (.int p1), .val (.int p2), .val (.int p3), .val (.int p4), .val (.int p5), .val (.int p6), .val (.int (p1 &&& (255 : Int32))), .val (.int (p2 &&& (255 : Int32))), .val (.int (((p1 &&& (255 : Int32)) <<< ((8 : Int32) &&& 31)) ||| (p2 &&& (255 : Int32)))), .val (.int ((((p1 &&& (255 : Int32)) <<< ((8 : Int32) &&& 31)) ||| (p2 &&& (255 : Int32))).toUInt32.toUInt16.toUInt32.toInt32)), .val (.ref b7), .val (.int ((((p1 &&& (255 : Int32)) + (1 : Int32)) + (p5 &&& (254 : Int32))) &&& (255 : Int32)))] [(.ref b7)])) _
    refine XS.iload X9.here hx rfl (hb hby at_91) rfl ?_
    show Steps p.tables e below (T9.setTop (mkF m 93 #[.val (.int p1), .val (.int p2), .val (.int p3), .val (.int p4), .val (.int p5), .val (.int p6), .val (.int (p1 &&& (255 : Int32))), .val (.int (p2 &&& (255 : Int32))), .val (.int (((p1 &&& (255 : Int32)) <<< ((8 : Int32) &&& 31)) ||| (p2 &&& (255 : Int32)))), .val (.int ((((p1 &&& (255 : Int32)) <<< ((8 : Int32) &&& 31)) ||| (p2 &&& (255 : Int32))).toUInt32.toUInt16.toUInt32.toInt32)), .val (.ref b7), .val (.int ((((p1 &&& (255 : Int32)) + (1 : Int32)) + (p5 &&& (254 : Int32))) &&& (255 : Int32)))] [(.int ((((p1 &&& (255 : Int32)) <<< ((8 : Int32) &&& 31)) ||| (p2 &&& (255 : Int32))).toUInt32.toUInt16.toUInt32.toInt32)), (.ref b7)])) _
    refine st10 _ ?_
    show Steps p.tables e below (T10.setTop (mkF m 96 #[.val (.int p1), .val (.int p2), .val (.int p3), .val (.int p4), .val (.int p5), .val (.int p6), .val (.int (p1 &&& (255 : Int32))), .val (.int (p2 &&& (255 : Int32))), .val (.int (((p1 &&& (255 : Int32)) <<< ((8 : Int32) &&& 31)) ||| (p2 &&& (255 : Int32)))), .val (.int ((((p1 &&& (255 : Int32)) <<< ((8 : Int32) &&& 31)) ||| (p2 &&& (255 : Int32))).toUInt32.toUInt16.toUInt32.toInt32)), .val (.ref b7), .val (.int ((((p1 &&& (255 : Int32)) + (1 : Int32)) + (p5 &&& (254 : Int32))) &&& (255 : Int32)))] [(.int (p3 + (((((p1 &&& (255 : Int32)) <<< ((8 : Int32) &&& 31)) ||| (p2 &&& (255 : Int32))).toUInt32.toUInt16.toUInt32.toInt32) &&& (255 : Int32))))])) _
    refine XS.iloadN X10.here hx rfl (hb hby at_96) rfl ?_
    show Steps p.tables e below (T10.setTop (mkF m 97 #[.val (.int p1), .val (.int p2), .val (.int p3), .val (.int p4), .val (.int p5), .val (.int p6), .val (.int (p1 &&& (255 : Int32))), .val (.int (p2 &&& (255 : Int32))), .val (.int (((p1 &&& (255 : Int32)) <<< ((8 : Int32) &&& 31)) ||| (p2 &&& (255 : Int32)))), .val (.int ((((p1 &&& (255 : Int32)) <<< ((8 : Int32) &&& 31)) ||| (p2 &&& (255 : Int32))).toUInt32.toUInt16.toUInt32.toInt32)), .val (.ref b7), .val (.int ((((p1 &&& (255 : Int32)) + (1 : Int32)) + (p5 &&& (254 : Int32))) &&& (255 : Int32)))] [(.int p3), (.int (p3 + (((((p1 &&& (255 : Int32)) <<< ((8 : Int32) &&& 31)) ||| (p2 &&& (255 : Int32))).toUInt32.toUInt16.toUInt32.toInt32) &&& (255 : Int32))))])) _
    refine XS.iload X10.here hx rfl (hb hby at_97) rfl ?_
    show Steps p.tables e below (T10.setTop (mkF m 99 #[.val (.int p1), .val (.int p2), .val (.int p3), .val (.int p4), .val (.int p5), .val (.int p6), .val (.int (p1 &&& (255 : Int32))), .val (.int (p2 &&& (255 : Int32))), .val (.int (((p1 &&& (255 : Int32)) <<< ((8 : Int32) &&& 31)) ||| (p2 &&& (255 : Int32)))), .val (.int ((((p1 &&& (255 : Int32)) <<< ((8 : Int32) &&& 31)) ||| (p2 &&& (255 : Int32))).toUInt32.toUInt16.toUInt32.toInt32)), .val (.ref b7), .val (.int ((((p1 &&& (255 : Int32)) + (1 : Int32)) + (p5 &&& (254 : Int32))) &&& (255 : Int32)))] [(.int (p2 &&& (255 : Int32))), (.int p3), (.int (p3 + (((((p1 &&& (255 : Int32)) <<< ((8 : Int32) &&& 31)) ||| (p2 &&& (255 : Int32))).toUInt32.toUInt16.toUInt32.toInt32) &&& (255 : Int32))))])) _
    refine XS.iadd X10.here hx rfl (hb hby at_99) rfl ?_
    show Steps p.tables e below (T10.setTop (mkF m 100 #[.val (.int p1), .val (.int p2), .val (.int p3), .val (.int p4), .val (.int p5), .val (.int p6), .val (.int (p1 &&& (255 : Int32))), .val (.int (p2 &&& (255 : Int32))), .val (.int (((p1 &&& (255 : Int32)) <<< ((8 : Int32) &&& 31)) ||| (p2 &&& (255 : Int32)))), .val (.int ((((p1 &&& (255 : Int32)) <<< ((8 : Int32) &&& 31)) ||| (p2 &&& (255 : Int32))).toUInt32.toUInt16.toUInt32.toInt32)), .val (.ref b7), .val (.int ((((p1 &&& (255 : Int32)) + (1 : Int32)) + (p5 &&& (254 : Int32))) &&& (255 : Int32)))] [(.int (p3 + (p2 &&& (255 : Int32)))), (.int (p3 + (((((p1 &&& (255 : Int32)) <<< ((8 : Int32) &&& 31)) ||| (p2 &&& (255 : Int32))).toUInt32.toUInt16.toUInt32.toInt32) &&& (255 : Int32))))])) _
    refine XS.icmpNo X10.here hx rfl (hb hby at_100) rfl (teq (by rw [C2, own_low C1 B2] : (p3 + (((((p1 &&& (255 : Int32)) <<< ((8 : Int32) &&& 31)) ||| (p2 &&& (255 : Int32))).toUInt32.toUInt16.toUInt32.toInt32) &&& (255 : Int32))) = (p3 + (p2 &&& (255 : Int32))))).2 ?_
    show Steps p.tables e below (T10.setTop (mkF m 103 #[.val (.int p1), .val (.int p2), .val (.int p3), .val (.int p4), .val (.int p5), .val (.int p6), .val (.int (p1 &&& (255 : Int32))), .val (.int (p2 &&& (255 : Int32))), .val (.int (((p1 &&& (255 : Int32)) <<< ((8 : Int32) &&& 31)) ||| (p2 &&& (255 : Int32)))), .val (.int ((((p1 &&& (255 : Int32)) <<< ((8 : Int32) &&& 31)) ||| (p2 &&& (255 : Int32))).toUInt32.toUInt16.toUInt32.toInt32)), .val (.ref b7), .val (.int ((((p1 &&& (255 : Int32)) + (1 : Int32)) + (p5 &&& (254 : Int32))) &&& (255 : Int32)))] [])) _
    refine XS.iconst X10.here hx rfl (hb hby at_103) ?_
    show Steps p.tables e below (T10.setTop (mkF m 104 #[.val (.int p1), .val (.int p2), .val (.int p3), .val (.int p4), .val (.int p5), .val (.int p6), .val (.int (p1 &&& (255 : Int32))), .val (.int (p2 &&& (255 : Int32))), .val (.int (((p1 &&& (255 : Int32)) <<< ((8 : Int32) &&& 31)) ||| (p2 &&& (255 : Int32)))), .val (.int ((((p1 &&& (255 : Int32)) <<< ((8 : Int32) &&& 31)) ||| (p2 &&& (255 : Int32))).toUInt32.toUInt16.toUInt32.toInt32)), .val (.ref b7), .val (.int ((((p1 &&& (255 : Int32)) + (1 : Int32)) + (p5 &&& (254 : Int32))) &&& (255 : Int32)))] [(.int (1 : Int32))])) _
    refine XS.goto X10.here hx rfl (pc0 := 104) (pc' := 108) rfl (hb hby at_104) (by decide) (by decide) ?_
    show Steps p.tables e below (T10.setTop (mkF m 108 #[.val (.int p1), .val (.int p2), .val (.int p3), .val (.int p4), .val (.int p5), .val (.int p6), .val (.int (p1 &&& (255 : Int32))), .val (.int (p2 &&& (255 : Int32))), .val (.int (((p1 &&& (255 : Int32)) <<< ((8 : Int32) &&& 31)) ||| (p2 &&& (255 : Int32)))), .val (.int ((((p1 &&& (255 : Int32)) <<< ((8 : Int32) &&& 31)) ||| (p2 &&& (255 : Int32))).toUInt32.toUInt16.toUInt32.toInt32)), .val (.ref b7), .val (.int ((((p1 &&& (255 : Int32)) + (1 : Int32)) + (p5 &&& (254 : Int32))) &&& (255 : Int32)))] [(.int (1 : Int32))])) _
    exact retN X10 hx (t := .boolean) Bd.returns (by simp) (hb hby at_108) hr
  · show Q0t Z p1 p2 p3 p4 p5 p6 h0 n0 _ T10.heap _
    exact ⟨rfl, N10⟩
set_option maxRecDepth 65536 in
set_option maxHeartbeats 40000000 in
theorem comes_1 {Post : Tables → Env → Array Value → State → Outcome → State → Prop} (hpost : ∀ tb e args s v u, (limb_1_1.after args s (.returned v) u = true ∧ limb_1_2.after args s (.returned v) u = true ∧ True) → FrameEnd s (.returned v) u (Jvm.fieldLocs frame_1_writes args s ++ Jvm.arrayLocs frame_1_arrays args s ++ Jvm.staticLocs frame_1_statics s) 16 576 → Post tb e args s (.returned v) u) :
    ArmFor flags0 classFile x code maxLocals ret World_1 tables_1 room_1 Calls_1 rest_1 Pre_1 Post := by
  intro l hfl _ _ p e ha hc hk s m args below hf hA hF happ hP
  obtain ⟨hcalls, hrest, hpre⟩ := hP
  obtain ⟨-, -, -, hnamed, -, -, -, hat⟩ := (Spec.applies_iff hf).mp happ
  obtain ⟨hg, hn⟩ := and_e (Cond.before_iff.mp (show (Jvm.Cond.and given_1 narrow_1).before args s = true from hpre))
  obtain ⟨g11, g12⟩ := and_e hg
  obtain ⟨g13, g14⟩ := and_e g12
  obtain ⟨g15, g16⟩ := and_e g14
  obtain ⟨g17, g18⟩ := and_e g16
  obtain ⟨g19, g20⟩ := and_e g18
  obtain ⟨g21, g22⟩ := and_e g20
  obtain ⟨w0, w1, w2, w3, w4, w5, rfl⟩ : ∃ w0 w1 w2 w3 w4 w5 : Value, args = #[w0, w1, w2, w3, w4, w5] := by
    have hs : args.size = 6 := by simpa [Cond.value, given_1] using g11
    obtain ⟨L⟩ := args
    match L, hs with
    | [w0, w1, w2, w3, w4, w5], _ => exact ⟨w0, w1, w2, w3, w4, w5, rfl⟩
  have hw := fun d (hd : d ∈ tables_1) => atoms_spec (ws := Jvm.Cond.code x code maxLocals ret :: tables_1) hat d (List.mem_cons_of_mem _ hd)
  have hfit : Fit s := fun {y c} hc i hi => by
    obtain ⟨ha, rfl⟩ := Array.getElem?_eq_some_iff.mp hc
    have q := List.all_eq_true.mp ((Array.all_eq_true_iff_forall_mem.mp hF) _ (Array.getElem_mem ha)) i (List.mem_range.mpr hi)
    simpa [Array.getElem?_eq_getElem hi] using q
  obtain ⟨i0, ei0⟩ := is_v g13
  obtain rfl : w0 = (.int i0) := Option.some.inj ei0
  obtain ⟨i1, ei1⟩ := is_v g15
  obtain rfl : w1 = (.int i1) := Option.some.inj ei1
  obtain ⟨i2, ei2⟩ := is_v g17
  obtain rfl : w2 = (.int i2) := Option.some.inj ei2
  obtain ⟨i3, ei3⟩ := is_v g19
  obtain rfl : w3 = (.int i3) := Option.some.inj ei3
  obtain ⟨i4, ei4⟩ := is_v g21
  obtain rfl : w4 = (.int i4) := Option.some.inj ei4
  obtain ⟨i5, ei5⟩ := is_v g22
  obtain rfl : w5 = (.int i5) := Option.some.inj ei5
  by_cases hf0 : (i5 &&& (1 : Int32)) = (0 : Int32)
  · obtain ⟨n, o, h1, h2, h3, _, L, rfl, ⟨rfl, N⟩, hq⟩ := rm0n l s _ hw tables_1 i0 i1 i2 i3 i4 i5 s.heap s.heap.size (Nat.le_refl _) hf0 p e ha hc hk s m _ below hf ((Spec.applies_iff_loose hf).mp happ).1 ⟨rfl, State.Warmed39.refl s, rfl⟩ trivial
    refine ⟨n, _, h1, h2, h3, hpost _ _ _ _ _ _ ⟨Cond.after_iff.mpr rfl, Cond.after_iff.mpr (eq_i res_at (Term.int_eval (1)) rfl), trivial⟩ ⟨hq.1, hq.2.1, (hq.2.2.sift fun y hy => Or.inr (N y hy)).mono (by decide) (by decide)⟩⟩
  · obtain ⟨n, o, h1, h2, h3, _, L, rfl, ⟨rfl, N⟩, hq⟩ := rm0t l s _ hw tables_1 i0 i1 i2 i3 i4 i5 s.heap s.heap.size (Nat.le_refl _) hf0 p e ha hc hk s m _ below hf ((Spec.applies_iff_loose hf).mp happ).1 ⟨rfl, State.Warmed39.refl s, rfl⟩ trivial
    refine ⟨n, _, h1, h2, h3, hpost _ _ _ _ _ _ ⟨Cond.after_iff.mpr rfl, Cond.after_iff.mpr (eq_i res_at (Term.int_eval (1)) rfl), trivial⟩ ⟨hq.1, hq.2.1, (hq.2.2.sift fun y hy => Or.inr (N y hy)).mono (by decide) (by decide)⟩⟩
theorem main_1_1 : Claimed_1_1 := comes_1 fun _ _ _ _ _ _ h hF => ⟨h.1, hF⟩
theorem main_1_2 : Claimed_1_2 := comes_1 fun _ _ _ _ _ _ h hF => ⟨h.2.1, hF⟩
end Jvm.Pilot.@@N@@
namespace Jvm.Pilot.@@N@@
open Jvm Jvm.ClassFile Sem Op Lib Jvm.Free Jvm.Stand Jvm.Pilot.@@N@@.Jvm.D
/-! MADE BY PROGRAM (witnessworld.py) out of the Statement's table words and the real class files: 9 classes; the members and pool entries that the words name. The judged class is class 1, her method 1. -/
namespace start1
open Jvm.ClassFile
def u (s : String) : CpInfo := .utf8 (stringToUtf16 s)
/-- a pool by its gaps: so many unusable entries, then the entry; so many at the end -/
def gap : Nat → List CpInfo → List CpInfo
  | 0, r => r
  | n + 1, r => .unusable :: gap n r
def poolList (es : List (Nat × CpInfo)) (last : Nat) : List CpInfo := es.foldr (fun e r => gap e.1 (e.2 :: r)) (gap last [])
def pool (es : List (Nat × CpInfo)) (last : Nat) : Array CpInfo := ⟨poolList es last⟩
def fileOf (pool : Array CpInfo) (this : Nat) (attrs : Array Attribute := #[]) (ms : Array MethodInfo := #[]) (fl : Nat := 33) (sup : Nat := 0) (ifs : Array Nat := #[]) (fds : Array FieldInfo := #[]) : ClassFile where
  minorVersion := 0
  majorVersion := 65
  constantPool := pool
  accessFlags := fl
  thisClass := this
  superClass := sup
  interfaces := ifs
  fields := fds
  methods := ms
  attributes := attrs
def plain (name : String) (sup : Option ClassId) : Class where
  name := name
  kind := .ordinary
  loader := none
  accessFlags := 33
  super := sup
  interfaces := #[]
  cf := none
  fields := #[]
  methods := #[]
  instanceTypes := #[]
  staticTypes := #[]
  resolved := #[]
  callSites := []
  init := .initialized
  statics := none
  mirror := none

def pool0 : Array CpInfo := pool [(5, u "<init>"), (0, u "()V"), (1, .class_ 10), (1, u "java/lang/Object")] 113

def k0m0 : Method := { name := "<init>", desc := "()V", sig := { parameters := [], returnType := none }, accessFlags := 1, code := none }
/-- java/lang/Object -/
def k0 : Class := { plain "java/lang/Object" none with
  accessFlags := 33
  interfaces := #[]
  cf := some (fileOf pool0 8 #[] #[{ accessFlags := 1, nameIndex := 5, descriptorIndex := 6, attributes := #[] }] 33 0 #[] #[])
  fields := #[]
  methods := #[k0m0]
  instanceTypes := #[]
  staticTypes := #[]
  resolved := Array.replicate 124 none
  statics := none }

def pool1 : Array CpInfo := pool [(2, .class_ 4), (1, u "java/lang/Object"), (0, u "<init>"), (0, u "()V"), (0, .methodref 8 9), (0, .class_ 10), (0, .nameAndType 11 12), (0, u "com/example/basecheck/basecheck/trie/CharTable"), (0, u "slot"), (0, u "([IC)I"), (0, .class_ 14), (0, u "com/example/basecheck/basecheck/trie/CharTableSlotPinLaw"), (2, u "law"), (0, u "(IIIIII)Z")] 5

def k1m0 : Method := { name := "<init>", desc := "()V", sig := { parameters := [], returnType := none }, accessFlags := 1, code := none }
def k1c1 : Code := { maxStack := 3, maxLocals := 12, code := code, exceptionTable := #[], attributes := #[] }
def k1m1 : Method := { name := "law", desc := "(IIIIII)Z", sig := { parameters := [.int, .int, .int, .int, .int, .int], returnType := some .boolean }, accessFlags := 9, code := some k1c1 }
/-- com/example/basecheck/basecheck/trie/CharTableSlotPinLaw -/
def k1 : Class := { plain "com/example/basecheck/basecheck/trie/CharTableSlotPinLaw" (some 0) with
  accessFlags := 49
  interfaces := #[]
  cf := some (fileOf pool1 13 #[] #[{ accessFlags := 1, nameIndex := 5, descriptorIndex := 6, attributes := #[] }, { accessFlags := 9, nameIndex := 17, descriptorIndex := 18, attributes := #[] }] 49 2 #[] #[])
  fields := #[]
  methods := #[k1m0, k1m1]
  instanceTypes := #[]
  staticTypes := #[]
  resolved := Array.replicate 24 none
  statics := none }

def pool2 : Array CpInfo := pool [(1, .class_ 2), (0, u "com/example/basecheck/basecheck/trie/CharTable"), (3, .class_ 8), (1, u "java/lang/Object"), (4, u "pages"), (0, u "[I"), (2, u "values"), (62, u "slot"), (0, u "([IC)I"), (0, u "PAGE_BITS"), (0, u "I"), (2, u "PAGE_SIZE"), (1, u "PAGE_MASK"), (1, u "PAGES")] 16

def k2c0 : Code := { maxStack := 3, maxLocals := 2, code := prog_26_method_3_code, exceptionTable := #[], attributes := #[] }
def k2m0 : Method := { name := "slot", desc := "([IC)I", sig := { parameters := [(.array .int), .char], returnType := some .int }, accessFlags := 8, code := some k2c0 }
/-- com/example/basecheck/basecheck/trie/CharTable -/
def k2 : Class := { plain "com/example/basecheck/basecheck/trie/CharTable" (some 0) with
  accessFlags := 48
  interfaces := #[]
  cf := some (fileOf pool2 1 #[] #[{ accessFlags := 8, nameIndex := 80, descriptorIndex := 81, attributes := #[] }] 48 6 #[] #[{ accessFlags := 26, nameIndex := 82, descriptorIndex := 83, attributes := #[] }, { accessFlags := 26, nameIndex := 86, descriptorIndex := 83, attributes := #[] }, { accessFlags := 26, nameIndex := 88, descriptorIndex := 83, attributes := #[] }, { accessFlags := 26, nameIndex := 90, descriptorIndex := 83, attributes := #[] }, { accessFlags := 18, nameIndex := 13, descriptorIndex := 14, attributes := #[] }, { accessFlags := 18, nameIndex := 17, descriptorIndex := 14, attributes := #[] }])
  fields := #[{ name := "PAGE_BITS", type := .int, accessFlags := 26, slot := 0, constantValue := 0 }, { name := "PAGE_SIZE", type := .int, accessFlags := 26, slot := 1, constantValue := 0 }, { name := "PAGE_MASK", type := .int, accessFlags := 26, slot := 2, constantValue := 0 }, { name := "PAGES", type := .int, accessFlags := 26, slot := 3, constantValue := 0 }, { name := "pages", type := (.array .int), accessFlags := 18, slot := 0, constantValue := 0 }, { name := "values", type := (.array .int), accessFlags := 18, slot := 1, constantValue := 0 }]
  methods := #[k2m0]
  instanceTypes := #[(.array .int), (.array .int)]
  staticTypes := #[.int, .int, .int, .int]
  resolved := Array.replicate 107 none
  statics := none }

def pool3 : Array CpInfo := pool [(1, u "java/lang/Cloneable"), (0, .class_ 1), (0, u "java/lang/Object"), (0, .class_ 3)] 3

/-- java/lang/Cloneable -/
def k3 : Class := { plain "java/lang/Cloneable" (some 0) with
  accessFlags := 1537
  interfaces := #[]
  cf := some (fileOf pool3 2 #[] #[] 1537 4 #[] #[])
  fields := #[]
  methods := #[]
  instanceTypes := #[]
  staticTypes := #[]
  resolved := Array.replicate 8 none
  statics := none }

def pool4 : Array CpInfo := pool [(1, u "java/io/Serializable"), (0, .class_ 1), (0, u "java/lang/Object"), (0, .class_ 3)] 3

/-- java/io/Serializable -/
def k4 : Class := { plain "java/io/Serializable" (some 0) with
  accessFlags := 1537
  interfaces := #[]
  cf := some (fileOf pool4 2 #[] #[] 1537 4 #[] #[])
  fields := #[]
  methods := #[]
  instanceTypes := #[]
  staticTypes := #[]
  resolved := Array.replicate 8 none
  statics := none }

/-- the primitive byte -/
def k5 : Class := { plain "byte" none with kind := .primitive 'B', accessFlags := 0x411 }
/-- [B -/
def k6 : Class := { plain "[B" (some 0) with kind := .array 5 .byte, interfaces := #[3, 4], accessFlags := 1041 }

/-- the primitive int -/
def k7 : Class := { plain "int" none with kind := .primitive 'I', accessFlags := 0x411 }
/-- [I -/
def k8 : Class := { plain "[I" (some 0) with kind := .array 7 .int, interfaces := #[3, 4], accessFlags := 1041 }

def heap : Heap := #[]
def classes : Array Class := #[k0, k1, k2, k3, k4, k5, k6, k7, k8]
def interned : List (Array UInt16 × Addr) := []
def slotsUsed : Nat := 0
def theMethod : MethodId := ⟨1, 1⟩
def args0 : Array Value := #[.int 5, .int 6, .int 7, .int 8, .int 9, .int 1]
def aboutOver (below : List Frame) : State where
  vm := { classes := classes, interned := interned.toArray }
  heap := heap
  slotsUsed := slotsUsed
  threads := #[{ frames := .invoking theMethod args0 :: below }]
def below0 : List Frame := [.native { method := ⟨0, 0⟩, args := #[] }]
def about1 : State := aboutOver below0
def p0 : Program := .bare "" "" ""
def e0 : Env := launch0.env 0 0 0
theorem w_frames : about1.frames = Frame.invoking theMethod args0 :: below0 := rfl
set_option maxRecDepth 65536 in
theorem w_args : argsFit about1.vm theMethod args0 = true := by decide +kernel
set_option maxRecDepth 65536 in
theorem w_heap : heapFits about1 = true := by decide +kernel
set_option maxRecDepth 65536 in
theorem w_runnable : about1.curStatus? = some .runnable := by decide +kernel
set_option maxRecDepth 65536 in
theorem w_alone : about1.alone = true := by decide +kernel
set_option maxRecDepth 65536 in
theorem w_named : about1.methodNamed? x = some theMethod := by decide +kernel
set_option maxRecDepth 65536 in
theorem w_hears : about1.hears theMethod below0 = true := by decide +kernel
set_option maxRecDepth 65536 in
theorem w_ripe : about1.ripe theMethod args0 below0 = true := by decide +kernel
theorem w_running : about1.status = .running := rfl
set_option maxRecDepth 65536 in
theorem w_room : about1.hasRoom e0.platform room_1 = true :=
  launch0.hasRoom_least _ room_1 (by decide +kernel) (by decide +kernel) (by decide +kernel) (by decide +kernel) (by decide +kernel) (by decide +kernel)
theorem allAtoms_all (ts : List Jvm.Cond) (a : Array Jvm.Value) (st : Jvm.State) : (allAtoms ts).before a st = ts.all (fun c => c.before a st) := by
  induction ts with
  | nil => rfl
  | cons c t ih =>
    show (Jvm.Cond.and c (allAtoms t)).before a st = _
    rw [Jvm.Cond.before_and, ih, List.all_cons]
def words1 : List Jvm.Cond := Jvm.Cond.code x code maxLocals ret :: tables_1
/-- a 'code' word, met by the world's own term for the bytes: nothing is compared byte by byte -/
theorem code_word {y : MethodName} {bytes : ByteArray} {mx : Nat} {rt : Option FieldType} {a : Array Value} {s : State} {m : MethodId} {meth : Method} {c : Code} (h1 : s.methodNamed? y = some m) (h2 : s.vm.method? m = some meth) (h3 : meth.code = some c) (h4 : c.code = bytes)
    (h5 : (c.maxLocals == mx && c.exceptionTable.isEmpty && decide (c.maxStack ≤ mostOperands) && decide (meth.sig.returnType = rt) && !meth.locks && decide (parseMethodDescriptor y.desc = some meth.sig)) = true) : (Jvm.Cond.code y bytes mx rt).before a s = true := by
  simp only [Bool.and_eq_true, beq_iff_eq, Bool.not_eq_true', decide_eq_true_eq] at h5
  obtain ⟨⟨⟨⟨⟨g1, g2⟩, g3⟩, g4⟩, g5⟩, g6⟩ := h5
  simp [Cond.before, Cond.holds, Cond.value, h1, h2, h3, h4, g1, g2, g3, g4, g5, g6]
def isCode : Jvm.Cond → Bool
  | .code _ _ _ _ => true
  | _ => false
theorem all_split {L : List Jvm.Cond} {P : Jvm.Cond → Bool} (h1 : L.all (fun c => isCode c || P c) = true) (h2 : ∀ c ∈ L.filter isCode, P c = true) : L.all P = true := by
  refine List.all_eq_true.mpr fun c hc => ?_
  have h := List.all_eq_true.mp h1 c hc
  rcases Bool.eq_false_or_eq_true (isCode c) with hi | hi
  · exact h2 c (List.mem_filter.mpr ⟨hc, hi⟩)
  · simpa [hi] using h
set_option maxRecDepth 65536 in
theorem w_c0 : (Jvm.Cond.code x code maxLocals ret).before args0 about1 = true := code_word (m := ⟨1, 1⟩) (meth := k1m1) (c := k1c1) (by decide +kernel) rfl rfl rfl (by decide +kernel)
set_option maxRecDepth 65536 in
theorem w_c1 : (Jvm.Cond.code ({ cls := "com/example/basecheck/basecheck/trie/CharTable", name := "slot", desc := "([IC)I" } : Jvm.MethodName) prog_26_method_3_code (2 : Nat) (Option.some Jvm.ClassFile.FieldType.int)).before args0 about1 = true := code_word (m := ⟨2, 0⟩) (meth := k2m0) (c := k2c0) (by decide +kernel) rfl rfl rfl (by decide +kernel)
def codes1 : List Jvm.Cond := [Jvm.Cond.code x code maxLocals ret, Jvm.Cond.code ({ cls := "com/example/basecheck/basecheck/trie/CharTable", name := "slot", desc := "([IC)I" } : Jvm.MethodName) prog_26_method_3_code (2 : Nat) (Option.some Jvm.ClassFile.FieldType.int)]
set_option maxRecDepth 65536 in
theorem codes_eq : words1.filter isCode = codes1 := rfl
theorem w_codes : ∀ c ∈ words1.filter isCode, c.before args0 about1 = true := by
  rw [codes_eq]
  intro c hc
  simp only [codes1, List.mem_cons, List.not_mem_nil, or_false] at hc
  rcases hc with rfl | rfl
  · exact w_c0
  · exact w_c1
set_option maxRecDepth 65536 in
theorem w_t1 : words1.all (fun c => isCode c || c.before args0 about1) = true := by decide +kernel
theorem w_tables : (allAtoms (Jvm.Cond.code x code maxLocals ret :: tables_1)).before args0 about1 = true := by
  rw [allAtoms_all]
  show words1.all (fun c => c.before args0 about1) = true
  refine all_split ?_ w_codes
  rw [w_t1]
set_option maxRecDepth 65536 in
theorem w_case : (Jvm.Cond.and given_1 narrow_1).before args0 about1 = true := by decide +kernel
theorem w_applies : (headSpec (Jvm.Cond.code x code maxLocals ret :: tables_1) room_1).applies x e0.platform about1 = true :=
  (Spec.applies_iff w_frames).mpr ⟨w_running, w_runnable, w_alone, w_named, w_hears, w_ripe, w_room, w_tables⟩
theorem atStart : AtStart classFile x code maxLocals ret World_1 tables_1 room_1 Calls_1 rest_1 Pre_1 launch0 p0 e0 about1 theMethod args0 below0 :=
  ⟨lists_1, trivial, launch0.admits_env _ _ _, launch0.least_env, fairChoices_fair.cas, fairChoices_fair.clock, w_frames, w_args, w_heap, w_applies, trivial, trivial, w_case⟩
end start1
theorem witness_1 : WitnessClaimed_1 := ⟨start1.p0, start1.e0, start1.about1, start1.theMethod, start1.args0, start1.below0, start1.atStart⟩
end Jvm.Pilot.@@N@@
