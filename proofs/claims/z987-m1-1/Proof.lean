import JvmDerived
import JvmDerived.Pilot.@@N@@Statement
import JvmDerived.Pilot.@@N@@Code
set_option linter.unusedVariables false
set_option linter.unusedSimpArgs false
namespace Jvm.RoadKit
open Sem ClassFile Op Lib Jvm.Stand Jvm.Free Jvm.LawKit
section New
variable {p : Program} {l : Launch} {e : Env} {R : Room} {s : State} {m : MethodId} {args : Array Value} {below : List Frame} {meth : Method} {c : Code} {T : State} {locs : List Loc} {cells slots : Nat}
theorem retI (X : Stand p l e R s m args below meth c T locs cells slots) (hx : p.tables.exec = Jvm.exec) {pc : Nat} {Ls : Array Slot} {z : Int32} {rest : List Value} (hret : meth.sig.returnType = some .int) (hd : decode c.code pc = .ok (.ireturn, 1)) {fs : List Frame}
    (hl : ∀ (f : JFrame) (acts : List Action), f.method = m → f.locked = none → f.entered = [] → (doReturn e (T.setTop f) acts (some (.int z))).1 = T.setFrames fs) : Steps p.tables e below (T.setTop (mkF m pc Ls (.int z :: rest))) (T.setFrames fs) := by
  have hm' : T.vm.method? m = some meth := X.method'
  have hn : narrow .int (.int z) = .int z := rfl
  show Steps p.tables e below (T.setTop { method := m, pc := pc, locals := Ls, stack := _ :: rest, locked := none }) _
  jvm_step X.here [X.here.top, hx, hd, hm', hret, hn]
  first | (intro acts; rw [hl _ acts rfl rfl rfl]) | rw [hl _ _ rfl rfl rfl]
  exact Steps.refl _
end New
end Jvm.RoadKit
namespace Jvm.Pilot.@@N@@
open Jvm Jvm.ClassFile Sem Op Lib Jvm.Free Jvm.Stand Jvm.LawKit Jvm.RoadKit Bundle Jvm.Pilot.@@N@@.Jvm.D
section Own
variable {p : Program} {l : Launch} {e : Env} {R : Room} {s : State} {m : MethodId} {args : Array Value} {below : List Frame} {meth : Method} {c : Code} {bs : ByteArray} {ml : Nat} {own nm : String} {rt : Option FieldType} {Z : State} {F : State → Outcome → Prop} {n0 : Nat} {h h' : Heap} {cells slots : Nat} {pc q : Nat} {Ls Ls' : Array Slot} {st : List Value} {a0 : Array Value}
def oCx (p : Program) (s : State) (m : MethodId) (meth : Method) (c : Code) (bs : ByteArray) (ml : Nat) (own nm : String) (rt : Option FieldType) (Z : State) : Prop :=
  p.tables.exec = Jvm.exec ∧ c.code = bs ∧ c.maxLocals = ml ∧ s.vm.findClass own = some m.cls ∧ Z.Warmed39 s.vm ∧ meth.name = nm ∧ meth.sig.returnType = rt ∧ meth.locks = false
def oW (p : Program) (l : Launch) (e : Env) (R : Room) (s : State) (m : MethodId) (args : Array Value) (below : List Frame) (meth : Method) (c : Code) (F : State → Outcome → Prop) (n0 : Nat) (h : Heap) (cells slots : Nat) (f : JFrame) : Prop :=
  ∀ (T : State) (locs : List Loc), Stand p l e R s m args below meth c T locs cells slots → T.heap = h → Fr n0 locs → ∃ s₂ o, Steps p.tables e below (T.setTop f) s₂ ∧ s₂.status = .running ∧ Ended s₂ below o ∧ F s₂ o
def oFin (s : State) (n0 k n : Nat) (Q : Option Value → Heap → Prop) (s₂ : State) (o : Outcome) : Prop := ∃ v L, o = .returned v ∧ (Fr n0 L ∧ Q v s₂.heap) ∧ FrameEnd s o s₂ L k n
def oMet (l : Launch) (Z : State) (y : MethodName) (bs : ByteArray) (ml : Nat) (rt : Option FieldType) (ws : List Jvm.Cond) (R : Room) (k n n0 : Nat) (as' : Array Value) (h0 : Heap) (Q : Option Value → Heap → Prop) : Prop :=
  MetFree l y (head1 (Jvm.Cond.code y bs ml rt :: ws) R) (fun a U => a = as' ∧ Z.Warmed39 U.vm ∧ U.heap = h0) (fun _ _ _ _ _ => True) (fun _ U o U' => ∃ v L, o = .returned v ∧ (Fr n0 L ∧ Q v U'.heap) ∧ FrameEnd U o U' L k n)
theorem oMet.intro {y : MethodName} {ws : List Jvm.Cond} {k n : Nat} {as' : Array Value} {h0 : Heap} {Q : Option Value → Heap → Prop} (pn : plainFor y = true) (ef : ∀ m, entryFrame m as' ml = mkF m 0 Ls [])
    (body : ∀ (p : Program) (e : Env) (s : State) (m : MethodId) (below : List Frame) (meth : Method) (c : Code), oCx p s m meth c bs ml y.cls y.name rt Z → oW p l e R s m as' below meth c (oFin s n0 k n Q) n0 h0 0 0 (mkF m 0 Ls [])) :
    oMet l Z y bs ml rt ws R k n n0 as' h0 Q := by
  refine MetFree.of_bodySF pn hisR ?_
  intro p e s m args below meth c s₁ Bd hml0 hP hK
  obtain ⟨rfl, hZ, hh⟩ := hP
  have e0 : s₁.heap = h0 := by rw [← hh, Bd.state]; rfl
  have C : oCx p s m meth c bs ml y.cls y.name rt Z := ⟨Bd.exec, Bd.bytes, hml0, findClass_of_methodNamed Bd.named, hZ, (name_of_methodNamed Bd.named Bd.method).1, Bd.returns, Bd.notSynchronized⟩
  obtain ⟨s₂, o, h1, h2, h3, h4⟩ := body p e s m below meth c C s₁ [] (Stand.of_body Bd) e0 (Fr.nil n0)
  exact ⟨s₂, o, castTop (ef m) h1, h2, h3, h4⟩
theorem oMet.mono {y : MethodName} {ws : List Jvm.Cond} {k n : Nat} {as' : Array Value} {h0 : Heap} {Q Q' : Option Value → Heap → Prop} (M : oMet l Z y bs ml rt ws R k n n0 as' h0 Q) (hq : ∀ v h, Q v h → Q' v h) : oMet l Z y bs ml rt ws R k n n0 as' h0 Q' := by
  intro p e ha hc hk s m args below hf happ hP hK
  obtain ⟨n', o, h1, h2, h3, v, L, h4, ⟨h5, h6⟩, h7⟩ := M p e ha hc hk s m args below hf happ hP hK
  exact ⟨n', o, h1, h2, h3, v, L, h4, ⟨h5, hq _ _ h6⟩, h7⟩
theorem oW.of {f f' : JFrame} (k : ∀ (T : State) (locs : List Loc), Stand p l e R s m args below meth c T locs cells slots → ∀ t, Steps p.tables e below (T.setTop f') t → Steps p.tables e below (T.setTop f) t)
    (g : oW p l e R s m args below meth c F n0 h cells slots f') : oW p l e R s m args below meth c F n0 h cells slots f := fun T locs X eT N => by
  obtain ⟨s₂, o, h1, h2⟩ := g T locs X eT N
  exact ⟨s₂, o, k T locs X _ h1, h2⟩
theorem oW.to {f f' : JFrame} (k : ∀ (T : State) (locs : List Loc), Stand p l e R s m args below meth c T locs cells slots → T.heap = h → ∃ T', Stand p l e R s m args below meth c T' locs cells slots ∧ T'.heap = h ∧ ∀ t, Steps p.tables e below (T'.setTop f') t → Steps p.tables e below (T.setTop f) t)
    (g : oW p l e R s m args below meth c F n0 h cells slots f') : oW p l e R s m args below meth c F n0 h cells slots f := fun T locs X eT N => by
  obtain ⟨T', X', eT', k'⟩ := k T locs X eT
  obtain ⟨s₂, o, h1, h2⟩ := g T' locs X' eT' N
  exact ⟨s₂, o, k' _ h1, h2⟩
theorem oIloadN (C : oCx p s m meth c bs ml own nm rt Z) {k : Fin 4} {v : Int32} (hd : decode bs pc = .ok (.iload_n k, 1)) (hl : Ls[k.val]? = some (.val (.int v))) (hq : pc + 1 = q) (g : oW p l e R s m args below meth c F n0 h cells slots (mkF m q Ls (.int v :: st))) : oW p l e R s m args below meth c F n0 h cells slots (mkF m pc Ls (st)) := by
  subst hq; exact oW.of (fun T locs X t k => XS.iloadN X.here C.1 rfl (hb C.2.1 hd) hl k) g
theorem oIload (C : oCx p s m meth c bs ml own nm rt Z) {k : Nat} {v : Int32} (hd : decode bs pc = .ok (.iload k, 2)) (hl : Ls[k]? = some (.val (.int v))) (hq : pc + 2 = q) (g : oW p l e R s m args below meth c F n0 h cells slots (mkF m q Ls (.int v :: st))) : oW p l e R s m args below meth c F n0 h cells slots (mkF m pc Ls (st)) := by
  subst hq; exact oW.of (fun T locs X t k => XS.iload X.here C.1 rfl (hb C.2.1 hd) hl k) g
theorem oLloadN (C : oCx p s m meth c bs ml own nm rt Z) {k : Fin 4} {v : Int64} (hd : decode bs pc = .ok (.lload_n k, 1)) (hl : Ls[k.val]? = some (.val (.long v))) (hq : pc + 1 = q) (g : oW p l e R s m args below meth c F n0 h cells slots (mkF m q Ls (.long v :: st))) : oW p l e R s m args below meth c F n0 h cells slots (mkF m pc Ls (st)) := by
  subst hq; exact oW.of (fun T locs X t k => XS.lloadN X.here C.1 rfl (hb C.2.1 hd) hl k) g
theorem oLload (C : oCx p s m meth c bs ml own nm rt Z) {k : Nat} {v : Int64} (hd : decode bs pc = .ok (.lload k, 2)) (hl : Ls[k]? = some (.val (.long v))) (hq : pc + 2 = q) (g : oW p l e R s m args below meth c F n0 h cells slots (mkF m q Ls (.long v :: st))) : oW p l e R s m args below meth c F n0 h cells slots (mkF m pc Ls (st)) := by
  subst hq; exact oW.of (fun T locs X t k => XS.lload X.here C.1 rfl (hb C.2.1 hd) hl k) g
theorem oAloadN (C : oCx p s m meth c bs ml own nm rt Z) {k : Fin 4} {v : Value} (hd : decode bs pc = .ok (.aload_n k, 1)) (hl : Ls[k.val]? = some (.val v)) (hv : v.isRef = true) (hq : pc + 1 = q) (g : oW p l e R s m args below meth c F n0 h cells slots (mkF m q Ls (v :: st))) : oW p l e R s m args below meth c F n0 h cells slots (mkF m pc Ls (st)) := by
  subst hq; exact oW.of (fun T locs X t k => XS.aloadN X.here C.1 rfl (hb C.2.1 hd) hl hv k) g
theorem oAload (C : oCx p s m meth c bs ml own nm rt Z) {k : Nat} {v : Value} (hd : decode bs pc = .ok (.aload k, 2)) (hl : Ls[k]? = some (.val v)) (hv : v.isRef = true) (hq : pc + 2 = q) (g : oW p l e R s m args below meth c F n0 h cells slots (mkF m q Ls (v :: st))) : oW p l e R s m args below meth c F n0 h cells slots (mkF m pc Ls (st)) := by
  subst hq; exact oW.of (fun T locs X t k => XS.aload X.here C.1 rfl (hb C.2.1 hd) hl hv k) g
theorem oIstoreN (C : oCx p s m meth c bs ml own nm rt Z) {k : Fin 4} {v : Int32} (hd : decode bs pc = .ok (.istore_n k, 1)) (hl : storeLocals Ls k.val (.int v) = some Ls') (hq : pc + 1 = q) (g : oW p l e R s m args below meth c F n0 h cells slots (mkF m q Ls' (st))) : oW p l e R s m args below meth c F n0 h cells slots (mkF m pc Ls (.int v :: st)) := by
  subst hq; exact oW.of (fun T locs X t k => XS.istoreN X.here C.1 rfl (hb C.2.1 hd) rfl hl k) g
theorem oIstore (C : oCx p s m meth c bs ml own nm rt Z) {k : Nat} {v : Int32} (hd : decode bs pc = .ok (.istore k, 2)) (hl : storeLocals Ls k (.int v) = some Ls') (hq : pc + 2 = q) (g : oW p l e R s m args below meth c F n0 h cells slots (mkF m q Ls' (st))) : oW p l e R s m args below meth c F n0 h cells slots (mkF m pc Ls (.int v :: st)) := by
  subst hq; exact oW.of (fun T locs X t k => XS.istore X.here C.1 rfl (hb C.2.1 hd) rfl hl k) g
theorem oLstoreN (C : oCx p s m meth c bs ml own nm rt Z) {k : Fin 4} {v : Int64} (hd : decode bs pc = .ok (.lstore_n k, 1)) (hl : storeLocals Ls k.val (.long v) = some Ls') (hq : pc + 1 = q) (g : oW p l e R s m args below meth c F n0 h cells slots (mkF m q Ls' (st))) : oW p l e R s m args below meth c F n0 h cells slots (mkF m pc Ls (.long v :: st)) := by
  subst hq; exact oW.of (fun T locs X t k => XS.lstoreN X.here C.1 rfl (hb C.2.1 hd) rfl hl k) g
theorem oLstore (C : oCx p s m meth c bs ml own nm rt Z) {k : Nat} {v : Int64} (hd : decode bs pc = .ok (.lstore k, 2)) (hl : storeLocals Ls k (.long v) = some Ls') (hq : pc + 2 = q) (g : oW p l e R s m args below meth c F n0 h cells slots (mkF m q Ls' (st))) : oW p l e R s m args below meth c F n0 h cells slots (mkF m pc Ls (.long v :: st)) := by
  subst hq; exact oW.of (fun T locs X t k => XS.lstore X.here C.1 rfl (hb C.2.1 hd) rfl hl k) g
theorem oAstoreN (C : oCx p s m meth c bs ml own nm rt Z) {k : Fin 4} {v : Value} (hd : decode bs pc = .ok (.astore_n k, 1)) (hv : v.isRef = true) (hl : storeLocals Ls k.val v = some Ls') (hq : pc + 1 = q) (g : oW p l e R s m args below meth c F n0 h cells slots (mkF m q Ls' (st))) : oW p l e R s m args below meth c F n0 h cells slots (mkF m pc Ls (v :: st)) := by
  subst hq; exact oW.of (fun T locs X t k => XS.astoreN X.here C.1 rfl (hb C.2.1 hd) rfl hv hl k) g
theorem oAstore (C : oCx p s m meth c bs ml own nm rt Z) {k : Nat} {v : Value} (hd : decode bs pc = .ok (.astore k, 2)) (hv : v.isRef = true) (hl : storeLocals Ls k v = some Ls') (hq : pc + 2 = q) (g : oW p l e R s m args below meth c F n0 h cells slots (mkF m q Ls' (st))) : oW p l e R s m args below meth c F n0 h cells slots (mkF m pc Ls (v :: st)) := by
  subst hq; exact oW.of (fun T locs X t k => XS.astore X.here C.1 rfl (hb C.2.1 hd) rfl hv hl k) g
theorem oIconst (C : oCx p s m meth c bs ml own nm rt Z) {i : Int} {z : Int32} (hd : decode bs pc = .ok (.iconst i, 1)) (hz : Int32.ofInt i = z) (hq : pc + 1 = q) (g : oW p l e R s m args below meth c F n0 h cells slots (mkF m q Ls (.int z :: st))) : oW p l e R s m args below meth c F n0 h cells slots (mkF m pc Ls (st)) := by
  subst hq; exact oW.of (fun T locs X t k => XS.iconst X.here C.1 rfl (hb C.2.1 hd) (hz ▸ k)) g
theorem oBipush (C : oCx p s m meth c bs ml own nm rt Z) {i : Int} {z : Int32} (hd : decode bs pc = .ok (.bipush i, 2)) (hz : (Int8.ofInt i).toInt32 = z) (hq : pc + 2 = q) (g : oW p l e R s m args below meth c F n0 h cells slots (mkF m q Ls (.int z :: st))) : oW p l e R s m args below meth c F n0 h cells slots (mkF m pc Ls (st)) := by
  subst hq; exact oW.of (fun T locs X t k => XS.bipush X.here C.1 rfl (hb C.2.1 hd) (hz ▸ k)) g
theorem oSipush (C : oCx p s m meth c bs ml own nm rt Z) {i : Int} {z : Int32} (hd : decode bs pc = .ok (.sipush i, 3)) (hz : (Int16.ofInt i).toInt32 = z) (hq : pc + 3 = q) (g : oW p l e R s m args below meth c F n0 h cells slots (mkF m q Ls (.int z :: st))) : oW p l e R s m args below meth c F n0 h cells slots (mkF m pc Ls (st)) := by
  subst hq; exact oW.of (fun T locs X t k => XS.sipush X.here C.1 rfl (hb C.2.1 hd) (hz ▸ k)) g
theorem oLconst (C : oCx p s m meth c bs ml own nm rt Z) {i : Fin 2} {z : Int64} (hd : decode bs pc = .ok (.lconst i, 1)) (hz : Int64.ofNat i = z) (hq : pc + 1 = q) (g : oW p l e R s m args below meth c F n0 h cells slots (mkF m q Ls (.long z :: st))) : oW p l e R s m args below meth c F n0 h cells slots (mkF m pc Ls (st)) := by
  subst hq; exact oW.of (fun T locs X t k => XS.lconst X.here C.1 rfl (hb C.2.1 hd) (hz ▸ k)) g
theorem oNull (C : oCx p s m meth c bs ml own nm rt Z) (hd : decode bs pc = .ok (.aconst_null, 1)) (hq : pc + 1 = q) (g : oW p l e R s m args below meth c F n0 h cells slots (mkF m q Ls (.null :: st))) : oW p l e R s m args below meth c F n0 h cells slots (mkF m pc Ls (st)) := by
  subst hq; exact oW.of (fun T locs X t k => XS.aconstNull X.here C.1 rfl (hb C.2.1 hd) k) g
theorem oIadd (C : oCx p s m meth c bs ml own nm rt Z) {x y : Int32} (hd : decode bs pc = .ok (.iadd, 1)) (hq : pc + 1 = q) (g : oW p l e R s m args below meth c F n0 h cells slots (mkF m q Ls (.int (x + y) :: st))) : oW p l e R s m args below meth c F n0 h cells slots (mkF m pc Ls (.int y :: .int x :: st)) := by
  subst hq; exact oW.of (fun T locs X t k => XS.iadd X.here C.1 rfl (hb C.2.1 hd) rfl k) g
theorem oIsub (C : oCx p s m meth c bs ml own nm rt Z) {x y : Int32} (hd : decode bs pc = .ok (.isub, 1)) (hq : pc + 1 = q) (g : oW p l e R s m args below meth c F n0 h cells slots (mkF m q Ls (.int (x - y) :: st))) : oW p l e R s m args below meth c F n0 h cells slots (mkF m pc Ls (.int y :: .int x :: st)) := by
  subst hq; exact oW.of (fun T locs X t k => XS.isub X.here C.1 rfl (hb C.2.1 hd) rfl k) g
theorem oImul (C : oCx p s m meth c bs ml own nm rt Z) {x y : Int32} (hd : decode bs pc = .ok (.imul, 1)) (hq : pc + 1 = q) (g : oW p l e R s m args below meth c F n0 h cells slots (mkF m q Ls (.int (x * y) :: st))) : oW p l e R s m args below meth c F n0 h cells slots (mkF m pc Ls (.int y :: .int x :: st)) := by
  subst hq; exact oW.of (fun T locs X t k => XS.imul X.here C.1 rfl (hb C.2.1 hd) rfl k) g
theorem oLmul (C : oCx p s m meth c bs ml own nm rt Z) {x y : Int64} (hd : decode bs pc = .ok (.lmul, 1)) (hq : pc + 1 = q) (g : oW p l e R s m args below meth c F n0 h cells slots (mkF m q Ls (.long (x * y) :: st))) : oW p l e R s m args below meth c F n0 h cells slots (mkF m pc Ls (.long y :: .long x :: st)) := by
  subst hq; exact oW.of (fun T locs X t k => XS.lmul X.here C.1 rfl (hb C.2.1 hd) rfl k) g
theorem oIand (C : oCx p s m meth c bs ml own nm rt Z) {x y : Int32} (hd : decode bs pc = .ok (.iand, 1)) (hq : pc + 1 = q) (g : oW p l e R s m args below meth c F n0 h cells slots (mkF m q Ls (.int (x &&& y) :: st))) : oW p l e R s m args below meth c F n0 h cells slots (mkF m pc Ls (.int y :: .int x :: st)) := by
  subst hq; exact oW.of (fun T locs X t k => XS.iand X.here C.1 rfl (hb C.2.1 hd) rfl k) g
theorem oLand (C : oCx p s m meth c bs ml own nm rt Z) {x y : Int64} (hd : decode bs pc = .ok (.land, 1)) (hq : pc + 1 = q) (g : oW p l e R s m args below meth c F n0 h cells slots (mkF m q Ls (.long (x &&& y) :: st))) : oW p l e R s m args below meth c F n0 h cells slots (mkF m pc Ls (.long y :: .long x :: st)) := by
  subst hq; exact oW.of (fun T locs X t k => XS.land X.here C.1 rfl (hb C.2.1 hd) rfl k) g
theorem oLor (C : oCx p s m meth c bs ml own nm rt Z) {x y : Int64} (hd : decode bs pc = .ok (.lor, 1)) (hq : pc + 1 = q) (g : oW p l e R s m args below meth c F n0 h cells slots (mkF m q Ls (.long (x ||| y) :: st))) : oW p l e R s m args below meth c F n0 h cells slots (mkF m pc Ls (.long y :: .long x :: st)) := by
  subst hq; exact oW.of (fun T locs X t k => XS.lor X.here C.1 rfl (hb C.2.1 hd) rfl k) g
theorem oIdiv (C : oCx p s m meth c bs ml own nm rt Z) {x y : Int32} (hd : decode bs pc = .ok (.idiv, 1)) (hy : y ≠ 0) (hq : pc + 1 = q) (g : oW p l e R s m args below meth c F n0 h cells slots (mkF m q Ls (.int (x / y) :: st))) : oW p l e R s m args below meth c F n0 h cells slots (mkF m pc Ls (.int y :: .int x :: st)) := by
  subst hq; exact oW.of (fun T locs X t k => XS.idiv X.here C.1 rfl (hb C.2.1 hd) rfl hy k) g
theorem oIrem (C : oCx p s m meth c bs ml own nm rt Z) {x y : Int32} (hd : decode bs pc = .ok (.irem, 1)) (hy : y ≠ 0) (hq : pc + 1 = q) (g : oW p l e R s m args below meth c F n0 h cells slots (mkF m q Ls (.int (x % y) :: st))) : oW p l e R s m args below meth c F n0 h cells slots (mkF m pc Ls (.int y :: .int x :: st)) := by
  subst hq; exact oW.of (fun T locs X t k => iremM X C.1 rfl (hb C.2.1 hd) rfl hy k) g
theorem oIushr (C : oCx p s m meth c bs ml own nm rt Z) {x y : Int32} (hd : decode bs pc = .ok (.iushr, 1)) (hq : pc + 1 = q) (g : oW p l e R s m args below meth c F n0 h cells slots (mkF m q Ls (.int ((x.toUInt32 >>> (y &&& 31).toUInt32).toInt32) :: st))) : oW p l e R s m args below meth c F n0 h cells slots (mkF m pc Ls (.int y :: .int x :: st)) := by
  subst hq; exact oW.of (fun T locs X t k => XS.iushr X.here C.1 rfl (hb C.2.1 hd) rfl k) g
theorem oLshl (C : oCx p s m meth c bs ml own nm rt Z) {x : Int64} {y : Int32} (hd : decode bs pc = .ok (.lshl, 1)) (hq : pc + 1 = q) (g : oW p l e R s m args below meth c F n0 h cells slots (mkF m q Ls (.long (x <<< (y &&& 0x3f).toInt64) :: st))) : oW p l e R s m args below meth c F n0 h cells slots (mkF m pc Ls (.int y :: .long x :: st)) := by
  subst hq; exact oW.of (fun T locs X t k => XS.lshl X.here C.1 rfl (hb C.2.1 hd) rfl k) g
theorem oLushr (C : oCx p s m meth c bs ml own nm rt Z) {x : Int64} {y : Int32} (hd : decode bs pc = .ok (.lushr, 1)) (hq : pc + 1 = q) (g : oW p l e R s m args below meth c F n0 h cells slots (mkF m q Ls (.long ((x.toUInt64 >>> (y &&& 0x3f).toInt64.toUInt64).toInt64) :: st))) : oW p l e R s m args below meth c F n0 h cells slots (mkF m pc Ls (.int y :: .long x :: st)) := by
  subst hq; exact oW.of (fun T locs X t k => XS.lushr X.here C.1 rfl (hb C.2.1 hd) rfl k) g
theorem oI2L (C : oCx p s m meth c bs ml own nm rt Z) {x : Int32} (hd : decode bs pc = .ok (.i2l, 1)) (hq : pc + 1 = q) (g : oW p l e R s m args below meth c F n0 h cells slots (mkF m q Ls (.long (x.toInt64) :: st))) : oW p l e R s m args below meth c F n0 h cells slots (mkF m pc Ls (.int x :: st)) := by
  subst hq; exact oW.of (fun T locs X t k => XS.i2l X.here C.1 rfl (hb C.2.1 hd) rfl k) g
theorem oL2I (C : oCx p s m meth c bs ml own nm rt Z) {x : Int64} (hd : decode bs pc = .ok (.l2i, 1)) (hq : pc + 1 = q) (g : oW p l e R s m args below meth c F n0 h cells slots (mkF m q Ls (.int (x.toInt32) :: st))) : oW p l e R s m args below meth c F n0 h cells slots (mkF m pc Ls (.long x :: st)) := by
  subst hq; exact oW.of (fun T locs X t k => XS.l2i X.here C.1 rfl (hb C.2.1 hd) rfl k) g
theorem oIinc (C : oCx p s m meth c bs ml own nm rt Z) {k : Nat} {i : Int} {x z w : Int32} (hd : decode bs pc = .ok (.iinc k i, 3)) (hl : Ls[k]? = some (.val (.int x))) (hz : Int32.ofInt i = z) (hw : x + z = w) (hl' : storeLocals Ls k (.int w) = some Ls') (hq : pc + 3 = q) (g : oW p l e R s m args below meth c F n0 h cells slots (mkF m q Ls' (st))) : oW p l e R s m args below meth c F n0 h cells slots (mkF m pc Ls (st)) := by
  subst hq; exact oW.of (fun T locs X t k => XS.iinc X.here C.1 rfl (hb C.2.1 hd) hl (hz ▸ hw ▸ hl') k) g
theorem oDup (C : oCx p s m meth c bs ml own nm rt Z) {x : Value} (hd : decode bs pc = .ok (.dup, 1)) (hc : x.category = 1) (hq : pc + 1 = q) (g : oW p l e R s m args below meth c F n0 h cells slots (mkF m q Ls (x :: x :: st))) : oW p l e R s m args below meth c F n0 h cells slots (mkF m pc Ls (x :: st)) := by
  subst hq; exact oW.of (fun T locs X t k => XS.dup X.here C.1 rfl (hb C.2.1 hd) rfl hc k) g
theorem oDupX1 (C : oCx p s m meth c bs ml own nm rt Z) {x y : Value} (hd : decode bs pc = .ok (.dup_x1, 1)) (hc : x.category = 1) (hc' : y.category = 1) (hq : pc + 1 = q) (g : oW p l e R s m args below meth c F n0 h cells slots (mkF m q Ls (x :: y :: x :: st))) : oW p l e R s m args below meth c F n0 h cells slots (mkF m pc Ls (x :: y :: st)) := by
  subst hq; exact oW.of (fun T locs X t k => XS.dupX1 X.here C.1 rfl (hb C.2.1 hd) rfl hc hc' k) g
theorem oDup2 (C : oCx p s m meth c bs ml own nm rt Z) {x y : Value} (hd : decode bs pc = .ok (.dup2, 1)) (hc : x.category = 1) (hc' : y.category = 1) (hq : pc + 1 = q) (g : oW p l e R s m args below meth c F n0 h cells slots (mkF m q Ls (x :: y :: x :: y :: st))) : oW p l e R s m args below meth c F n0 h cells slots (mkF m pc Ls (x :: y :: st)) := by
  subst hq; exact oW.of (fun T locs X t k => XT.dup2 X.here C.1 rfl (hb C.2.1 hd) rfl hc hc' k) g
theorem oPop (C : oCx p s m meth c bs ml own nm rt Z) {x : Value} (hd : decode bs pc = .ok (.pop, 1)) (hc : x.category = 1) (hq : pc + 1 = q) (g : oW p l e R s m args below meth c F n0 h cells slots (mkF m q Ls (st))) : oW p l e R s m args below meth c F n0 h cells slots (mkF m pc Ls (x :: st)) := by
  subst hq; exact oW.of (fun T locs X t k => XS.pop X.here C.1 rfl (hb C.2.1 hd) rfl hc k) g
theorem oGoto (C : oCx p s m meth c bs ml own nm rt Z) {o : Int} (hd : decode bs pc = .ok (.goto o, 3)) (ho : 0 ≤ (pc : Int) + o) (hp : ((pc : Int) + o).toNat = q) (g : oW p l e R s m args below meth c F n0 h cells slots (mkF m q Ls (st))) : oW p l e R s m args below meth c F n0 h cells slots (mkF m pc Ls (st)) :=
  oW.of (fun T locs X t k => XS.goto X.here C.1 rfl (pc0 := pc) rfl (hb C.2.1 hd) ho hp k) g
theorem oIf_eq (C : oCx p s m meth c bs ml own nm rt Z) {x : Int32} {o : Int} {r : Nat} (hd : decode bs pc = .ok (.ifCond .eq o, 3)) (ho : 0 ≤ (pc : Int) + o) (hp : ((pc : Int) + o).toNat = q) (hr : pc + 3 = r) (gy : x = 0 → oW p l e R s m args below meth c F n0 h cells slots (mkF m q Ls (st))) (gn : ¬ x = 0 → oW p l e R s m args below meth c F n0 h cells slots (mkF m r Ls (st))) : oW p l e R s m args below meth c F n0 h cells slots (mkF m pc Ls (.int x :: st)) := by
  subst hr
  by_cases hc : x = 0
  · exact oW.of (fun T locs X t k => XS.ifYes X.here C.1 rfl (pc0 := pc) rfl (hb C.2.1 hd) rfl ((if0 _ _).trans (teq hc).1) ho hp k) (gy hc)
  · exact oW.of (fun T locs X t k => XS.ifNo X.here C.1 rfl (hb C.2.1 hd) rfl ((if0 _ _).trans (feq hc).1) k) (gn hc)
theorem oLcmp_eq (C : oCx p s m meth c bs ml own nm rt Z) {x y : Int64} {o : Int} {pd r : Nat} (hd0 : decode bs pc = .ok (.lcmp, 1)) (hq0 : pc + 1 = pd) (hd : decode bs pd = .ok (.ifCond .eq o, 3)) (ho : 0 ≤ (pd : Int) + o) (hp : ((pd : Int) + o).toNat = q) (hr : pd + 3 = r) (gy : x = y → oW p l e R s m args below meth c F n0 h cells slots (mkF m q Ls (st))) (gn : ¬ x = y → oW p l e R s m args below meth c F n0 h cells slots (mkF m r Ls (st))) : oW p l e R s m args below meth c F n0 h cells slots (mkF m pc Ls (.long y :: .long x :: st)) := by
  subst hq0
  refine oW.of (fun T locs X t k => XS.lcmp X.here C.1 rfl (hb C.2.1 hd0) rfl k) ?_
  exact oIf_eq C hd ho hp hr (fun w => gy ((lw_eq x y).mp w)) (fun w => gn (fun u => w ((lw_eq x y).mpr u)))
theorem oIcmp_ne (C : oCx p s m meth c bs ml own nm rt Z) {x y : Int32} {o : Int} {r : Nat} (hd : decode bs pc = .ok (.if_icmp .ne o, 3)) (ho : 0 ≤ (pc : Int) + o) (hp : ((pc : Int) + o).toNat = q) (hr : pc + 3 = r) (gy : ¬ x = y → oW p l e R s m args below meth c F n0 h cells slots (mkF m q Ls (st))) (gn : x = y → oW p l e R s m args below meth c F n0 h cells slots (mkF m r Ls (st))) : oW p l e R s m args below meth c F n0 h cells slots (mkF m pc Ls (.int y :: .int x :: st)) := by
  subst hr
  by_cases hc : x = y
  · exact oW.of (fun T locs X t k => XS.icmpNo X.here C.1 rfl (hb C.2.1 hd) rfl (teq hc).2 k) (gn hc)
  · exact oW.of (fun T locs X t k => XS.icmpYes X.here C.1 rfl (pc0 := pc) rfl (hb C.2.1 hd) rfl (feq hc).2 ho hp k) (gy hc)
theorem oIf_ne (C : oCx p s m meth c bs ml own nm rt Z) {x : Int32} {o : Int} {r : Nat} (hd : decode bs pc = .ok (.ifCond .ne o, 3)) (ho : 0 ≤ (pc : Int) + o) (hp : ((pc : Int) + o).toNat = q) (hr : pc + 3 = r) (gy : ¬ x = 0 → oW p l e R s m args below meth c F n0 h cells slots (mkF m q Ls (st))) (gn : x = 0 → oW p l e R s m args below meth c F n0 h cells slots (mkF m r Ls (st))) : oW p l e R s m args below meth c F n0 h cells slots (mkF m pc Ls (.int x :: st)) := by
  subst hr
  by_cases hc : x = 0
  · exact oW.of (fun T locs X t k => XS.ifNo X.here C.1 rfl (hb C.2.1 hd) rfl ((if0 _ _).trans (teq hc).2) k) (gn hc)
  · exact oW.of (fun T locs X t k => XS.ifYes X.here C.1 rfl (pc0 := pc) rfl (hb C.2.1 hd) rfl ((if0 _ _).trans (feq hc).2) ho hp k) (gy hc)
theorem oIcmp_lt (C : oCx p s m meth c bs ml own nm rt Z) {x y : Int32} {o : Int} {r : Nat} (hd : decode bs pc = .ok (.if_icmp .lt o, 3)) (ho : 0 ≤ (pc : Int) + o) (hp : ((pc : Int) + o).toNat = q) (hr : pc + 3 = r) (gy : x < y → oW p l e R s m args below meth c F n0 h cells slots (mkF m q Ls (st))) (gn : ¬ x < y → oW p l e R s m args below meth c F n0 h cells slots (mkF m r Ls (st))) : oW p l e R s m args below meth c F n0 h cells slots (mkF m pc Ls (.int y :: .int x :: st)) := by
  subst hr
  by_cases hc : x < y
  · exact oW.of (fun T locs X t k => XS.icmpYes X.here C.1 rfl (pc0 := pc) rfl (hb C.2.1 hd) rfl (tlt hc).1 ho hp k) (gy hc)
  · exact oW.of (fun T locs X t k => XS.icmpNo X.here C.1 rfl (hb C.2.1 hd) rfl (flt hc).1 k) (gn hc)
theorem oIf_lt (C : oCx p s m meth c bs ml own nm rt Z) {x : Int32} {o : Int} {r : Nat} (hd : decode bs pc = .ok (.ifCond .lt o, 3)) (ho : 0 ≤ (pc : Int) + o) (hp : ((pc : Int) + o).toNat = q) (hr : pc + 3 = r) (gy : x < 0 → oW p l e R s m args below meth c F n0 h cells slots (mkF m q Ls (st))) (gn : ¬ x < 0 → oW p l e R s m args below meth c F n0 h cells slots (mkF m r Ls (st))) : oW p l e R s m args below meth c F n0 h cells slots (mkF m pc Ls (.int x :: st)) := by
  subst hr
  by_cases hc : x < 0
  · exact oW.of (fun T locs X t k => XS.ifYes X.here C.1 rfl (pc0 := pc) rfl (hb C.2.1 hd) rfl ((if0 _ _).trans (tlt hc).1) ho hp k) (gy hc)
  · exact oW.of (fun T locs X t k => XS.ifNo X.here C.1 rfl (hb C.2.1 hd) rfl ((if0 _ _).trans (flt hc).1) k) (gn hc)
theorem oIcmp_gt (C : oCx p s m meth c bs ml own nm rt Z) {x y : Int32} {o : Int} {r : Nat} (hd : decode bs pc = .ok (.if_icmp .gt o, 3)) (ho : 0 ≤ (pc : Int) + o) (hp : ((pc : Int) + o).toNat = q) (hr : pc + 3 = r) (gy : y < x → oW p l e R s m args below meth c F n0 h cells slots (mkF m q Ls (st))) (gn : ¬ y < x → oW p l e R s m args below meth c F n0 h cells slots (mkF m r Ls (st))) : oW p l e R s m args below meth c F n0 h cells slots (mkF m pc Ls (.int y :: .int x :: st)) := by
  subst hr
  by_cases hc : y < x
  · exact oW.of (fun T locs X t k => XS.icmpYes X.here C.1 rfl (pc0 := pc) rfl (hb C.2.1 hd) rfl (tlt hc).2.2.1 ho hp k) (gy hc)
  · exact oW.of (fun T locs X t k => XS.icmpNo X.here C.1 rfl (hb C.2.1 hd) rfl (flt hc).2.2.1 k) (gn hc)
theorem oIf_gt (C : oCx p s m meth c bs ml own nm rt Z) {x : Int32} {o : Int} {r : Nat} (hd : decode bs pc = .ok (.ifCond .gt o, 3)) (ho : 0 ≤ (pc : Int) + o) (hp : ((pc : Int) + o).toNat = q) (hr : pc + 3 = r) (gy : 0 < x → oW p l e R s m args below meth c F n0 h cells slots (mkF m q Ls (st))) (gn : ¬ 0 < x → oW p l e R s m args below meth c F n0 h cells slots (mkF m r Ls (st))) : oW p l e R s m args below meth c F n0 h cells slots (mkF m pc Ls (.int x :: st)) := by
  subst hr
  by_cases hc : 0 < x
  · exact oW.of (fun T locs X t k => XS.ifYes X.here C.1 rfl (pc0 := pc) rfl (hb C.2.1 hd) rfl ((if0 _ _).trans (tlt hc).2.2.1) ho hp k) (gy hc)
  · exact oW.of (fun T locs X t k => XS.ifNo X.here C.1 rfl (hb C.2.1 hd) rfl ((if0 _ _).trans (flt hc).2.2.1) k) (gn hc)
theorem oLcmp_gt (C : oCx p s m meth c bs ml own nm rt Z) {x y : Int64} {o : Int} {pd r : Nat} (hd0 : decode bs pc = .ok (.lcmp, 1)) (hq0 : pc + 1 = pd) (hd : decode bs pd = .ok (.ifCond .gt o, 3)) (ho : 0 ≤ (pd : Int) + o) (hp : ((pd : Int) + o).toNat = q) (hr : pd + 3 = r) (gy : y < x → oW p l e R s m args below meth c F n0 h cells slots (mkF m q Ls (st))) (gn : ¬ y < x → oW p l e R s m args below meth c F n0 h cells slots (mkF m r Ls (st))) : oW p l e R s m args below meth c F n0 h cells slots (mkF m pc Ls (.long y :: .long x :: st)) := by
  subst hq0
  refine oW.of (fun T locs X t k => XS.lcmp X.here C.1 rfl (hb C.2.1 hd0) rfl k) ?_
  exact oIf_gt C hd ho hp hr (fun w => gy ((lw_gt x y).mp w)) (fun w => gn (fun u => w ((lw_gt x y).mpr u)))
theorem oIcmp_le (C : oCx p s m meth c bs ml own nm rt Z) {x y : Int32} {o : Int} {r : Nat} (hd : decode bs pc = .ok (.if_icmp .le o, 3)) (ho : 0 ≤ (pc : Int) + o) (hp : ((pc : Int) + o).toNat = q) (hr : pc + 3 = r) (gy : ¬ y < x → oW p l e R s m args below meth c F n0 h cells slots (mkF m q Ls (st))) (gn : y < x → oW p l e R s m args below meth c F n0 h cells slots (mkF m r Ls (st))) : oW p l e R s m args below meth c F n0 h cells slots (mkF m pc Ls (.int y :: .int x :: st)) := by
  subst hr
  by_cases hc : y < x
  · exact oW.of (fun T locs X t k => XS.icmpNo X.here C.1 rfl (hb C.2.1 hd) rfl (tlt hc).2.2.2 k) (gn hc)
  · exact oW.of (fun T locs X t k => XS.icmpYes X.here C.1 rfl (pc0 := pc) rfl (hb C.2.1 hd) rfl (flt hc).2.2.2 ho hp k) (gy hc)
theorem oIf_le (C : oCx p s m meth c bs ml own nm rt Z) {x : Int32} {o : Int} {r : Nat} (hd : decode bs pc = .ok (.ifCond .le o, 3)) (ho : 0 ≤ (pc : Int) + o) (hp : ((pc : Int) + o).toNat = q) (hr : pc + 3 = r) (gy : ¬ 0 < x → oW p l e R s m args below meth c F n0 h cells slots (mkF m q Ls (st))) (gn : 0 < x → oW p l e R s m args below meth c F n0 h cells slots (mkF m r Ls (st))) : oW p l e R s m args below meth c F n0 h cells slots (mkF m pc Ls (.int x :: st)) := by
  subst hr
  by_cases hc : 0 < x
  · exact oW.of (fun T locs X t k => XS.ifNo X.here C.1 rfl (hb C.2.1 hd) rfl ((if0 _ _).trans (tlt hc).2.2.2) k) (gn hc)
  · exact oW.of (fun T locs X t k => XS.ifYes X.here C.1 rfl (pc0 := pc) rfl (hb C.2.1 hd) rfl ((if0 _ _).trans (flt hc).2.2.2) ho hp k) (gy hc)
theorem oLcmp_le (C : oCx p s m meth c bs ml own nm rt Z) {x y : Int64} {o : Int} {pd r : Nat} (hd0 : decode bs pc = .ok (.lcmp, 1)) (hq0 : pc + 1 = pd) (hd : decode bs pd = .ok (.ifCond .le o, 3)) (ho : 0 ≤ (pd : Int) + o) (hp : ((pd : Int) + o).toNat = q) (hr : pd + 3 = r) (gy : ¬ y < x → oW p l e R s m args below meth c F n0 h cells slots (mkF m q Ls (st))) (gn : y < x → oW p l e R s m args below meth c F n0 h cells slots (mkF m r Ls (st))) : oW p l e R s m args below meth c F n0 h cells slots (mkF m pc Ls (.long y :: .long x :: st)) := by
  subst hq0
  refine oW.of (fun T locs X t k => XS.lcmp X.here C.1 rfl (hb C.2.1 hd0) rfl k) ?_
  exact oIf_le C hd ho hp hr (fun w => gy (fun u => w ((lw_gt x y).mpr u))) (fun w => gn ((lw_gt x y).mp w))
theorem oAcmp (C : oCx p s m meth c bs ml own nm rt Z) {cd : ACond} {x y : Value} (h1 : x.isRef = true) (h2 : y.isRef = true) {o : Int} {same : Bool} (hd : decode bs pc = .ok (.if_acmp cd o, 3)) (hs : decide (x = y) = same) (ho : 0 ≤ (pc : Int) + o) (hp : q = if acV cd same = true then ((pc : Int) + o).toNat else pc + 3) (g : oW p l e R s m args below meth c F n0 h cells slots (mkF m q Ls (st))) : oW p l e R s m args below meth c F n0 h cells slots (mkF m pc Ls (y :: x :: st)) :=
  oW.of (fun T locs X t k => acmp X C.1 rfl h1 h2 (pc0 := pc) rfl (hb C.2.1 hd) rfl hs ho hp k) g
theorem oLdc (C : oCx p s m meth c bs ml own nm rt Z) {i : Nat} {v : Int32} (w : (Jvm.Cond.constant own i v).before a0 Z = true) (hd : decode bs pc = .ok (.ldc i, 2)) (hq : pc + 2 = q) (g : oW p l e R s m args below meth c F n0 h cells slots (mkF m q Ls (.int v :: st))) : oW p l e R s m args below meth c F n0 h cells slots (mkF m pc Ls st) := by
  subst hq; exact oW.of (fun T locs X t k => X.ldcInt C.1 C.2.2.2.1 (mvT C.2.2.2.2.1 w) (g := mkF m pc Ls st) rfl (hb C.2.1 hd) t k) g
theorem oLdc2 (C : oCx p s m meth c bs ml own nm rt Z) {i : Nat} {v : Int64} (w : (Jvm.Cond.constantLong own i v).before a0 Z = true) (hd : decode bs pc = .ok (.ldc2_w i, 3)) (hq : pc + 3 = q) (g : oW p l e R s m args below meth c F n0 h cells slots (mkF m q Ls (.long v :: st))) : oW p l e R s m args below meth c F n0 h cells slots (mkF m pc Ls st) := by
  subst hq; exact oW.of (fun T locs X t k => X.ldc2Long C.1 C.2.2.2.1 (mvT C.2.2.2.2.1 w) (g := mkF m pc Ls st) rfl (hb C.2.1 hd) t k) g
section Rets
variable {k n : Nat} {Q : Option Value → Heap → Prop} {rt' : FieldType}
theorem oRetN (C : oCx p s m meth c bs ml own nm (some rt') Z) (ht : rt' = .boolean ∨ rt' = .byte ∨ rt' = .char ∨ rt' = .short) {z z' : Int32} (hd : decode bs pc = .ok (.ireturn, 1)) (hz : nar rt' z = z') (hk : cells ≤ k) (hn : slots ≤ n) (hQ : Q (some (.int z')) h) :
    oW p l e R s m args below meth c (oFin s n0 k n Q) n0 h cells slots (mkF m pc Ls (.int z :: st)) := fun T locs X eT N => by
  subst hz eT
  obtain ⟨fs, hr, hrun, hended, hW, hsame⟩ := X.leave (v := some (.int (nar rt' z))) (fun hh => by rw [C.2.2.2.2.2.2.1] at hh; cases hh) C.2.2.2.2.2.2.2
  exact ⟨_, _, retN X C.1 C.2.2.2.2.2.2.1 ht (hb C.2.1 hd) hr, hrun, hended, _, _, rfl, ⟨N, hQ⟩, ⟨_, rfl⟩, hW, hsame.mono hk hn⟩
theorem oRetZ (C : oCx p s m meth c bs ml own nm (some .boolean) Z) {z z' : Int32} (hd : decode bs pc = .ok (.ireturn, 1)) (hz : nar .boolean z = z') (hk : cells ≤ k) (hn : slots ≤ n) (hQ : Q (some (.int z')) h) :
    oW p l e R s m args below meth c (oFin s n0 k n Q) n0 h cells slots (mkF m pc Ls (.int z :: st)) := oRetN C (Or.inl rfl) hd hz hk hn hQ
theorem oRetI (C : oCx p s m meth c bs ml own nm (some .int) Z) {z : Int32} (hd : decode bs pc = .ok (.ireturn, 1)) (hk : cells ≤ k) (hn : slots ≤ n) (hQ : Q (some (.int z)) h) :
    oW p l e R s m args below meth c (oFin s n0 k n Q) n0 h cells slots (mkF m pc Ls (.int z :: st)) := fun T locs X eT N => by
  subst eT
  obtain ⟨fs, hr, hrun, hended, hW, hsame⟩ := X.leave (v := some (.int z)) (fun hh => by rw [C.2.2.2.2.2.2.1] at hh; cases hh) C.2.2.2.2.2.2.2
  exact ⟨_, _, retI X C.1 C.2.2.2.2.2.2.1 (hb C.2.1 hd) hr, hrun, hended, _, _, rfl, ⟨N, hQ⟩, ⟨_, rfl⟩, hW, hsame.mono hk hn⟩
theorem oRetL (C : oCx p s m meth c bs ml own nm (some .long) Z) {z : Int64} (hd : decode bs pc = .ok (.lreturn, 1)) (hk : cells ≤ k) (hn : slots ≤ n) (hQ : Q (some (.long z)) h) :
    oW p l e R s m args below meth c (oFin s n0 k n Q) n0 h cells slots (mkF m pc Ls [.long z]) := fun T locs X eT N => by
  subst eT
  obtain ⟨fs, hr, hrun, hended, hW, hsame⟩ := X.leave (v := some (.long z)) (fun hh => by rw [C.2.2.2.2.2.2.1] at hh; cases hh) C.2.2.2.2.2.2.2
  exact ⟨_, _, X.lreturnOut C.1 C.2.2.2.2.2.2.1 (hb C.2.1 hd) hr, hrun, hended, _, _, rfl, ⟨N, hQ⟩, ⟨_, rfl⟩, hW, hsame.mono hk hn⟩
theorem oRetA (C : oCx p s m meth c bs ml own nm (some rt') Z) (ht : rt'.isReference = true) {v : Value} (hv : v.isRef = true) (hd : decode bs pc = .ok (.areturn, 1)) (hk : cells ≤ k) (hn : slots ≤ n) (hQ : Q (some v) h) :
    oW p l e R s m args below meth c (oFin s n0 k n Q) n0 h cells slots (mkF m pc Ls [v]) := fun T locs X eT N => by
  subst eT
  obtain ⟨fs, hr, hrun, hended, hW, hsame⟩ := X.leave (v := some v) (fun hh => by rw [C.2.2.2.2.2.2.1] at hh; cases hh) C.2.2.2.2.2.2.2
  exact ⟨_, _, X.areturnOut C.1 hv C.2.2.2.2.2.2.1 ht (hb C.2.1 hd) hr, hrun, hended, _, _, rfl, ⟨N, hQ⟩, ⟨_, rfl⟩, hW, hsame.mono hk hn⟩
theorem oRetV (C : oCx p s m meth c bs ml own nm none Z) (hd : decode bs pc = .ok (.return_, 1)) (hk : cells ≤ k) (hn : slots ≤ n) (hQ : Q none h) :
    oW p l e R s m args below meth c (oFin s n0 k n Q) n0 h cells slots (mkF m pc Ls []) := fun T locs X eT N => by
  subst eT
  obtain ⟨fs, hr, hrun, hended, hW, hsame⟩ := X.leave (v := none) (fun _ => rfl) C.2.2.2.2.2.2.2
  exact ⟨_, _, X.returnOut C.1 C.2.2.2.2.2.2.1 (hb C.2.1 hd) hr, hrun, hended, _, _, rfl, ⟨N, hQ⟩, ⟨_, rfl⟩, hW, hsame.mono hk hn⟩
end Rets
section Calls
variable {i : Nat} {y : MethodName} {bs' : ByteArray} {ml' : Nat} {rt' : Option FieldType} {R' : Room} {Q : Option Value → Heap → Prop} {argsL rest : List Value} {ps : List FieldType} {r' : Option FieldType} {W : Nat} {a : Addr}
theorem oCallS (C : oCx p s m meth c bs ml own nm rt Z) (w1 : (Jvm.Cond.methodLink own i y).before a0 Z = true) (w2 : (Jvm.Cond.static y).before a0 Z = true) (w3 : (Jvm.Cond.initialized y.cls).before a0 Z = true) (w4 : (Jvm.Cond.code y bs' ml' rt').before a0 Z = true) (hd : decode bs pc = .ok (.invokestatic i, 3))
    (hy : y.cls ≠ "java/lang/invoke/MethodHandle" ∧ y.cls ≠ "java/lang/invoke/VarHandle") (hpd : parseMethodDescriptor y.desc = some ⟨ps, r'⟩) (hlen : argsL.length = ps.length) (hsz : Ls.size = ml) (hst : argsL.reverse ++ rest = st) (hW : (rest.map fun v => v.category).sum = W) (hq : pc + 3 = q)
    (hf : R'.frames + 1 ≤ R.frames) (hl : W + (ml' + 11) + R'.locals ≤ R.locals) (hc : cells + R'.cells ≤ R.cells) (hs : slots + R'.slots ≤ R.slots)
    (M : oMet l Z y bs' ml' rt' [] R' R'.cells R'.slots n0 argsL.toArray h Q)
    (g : ∀ v h', Q v h' → oW p l e R s m args below meth c F n0 h' (cells + R'.cells) (slots + R'.slots) (mkF m q Ls (v.toList ++ rest))) :
    oW p l e R s m args below meth c F n0 h cells slots (mkF m pc Ls st) := fun T locs X eT N => by
  subst hq hst
  have hZ := C.2.2.2.2.1
  obtain ⟨v, _, ⟨T', L', k', n'⟩, -, X', ⟨Lc, ⟨hN, hQ⟩, l', y', z'⟩, st'⟩ := Jvm.LawKit.callS X C.1 (y := y) C.2.2.2.1 (mvT hZ w1) (mvT hZ w2) (mvT hZ w3) (mvT hZ w4) hy (backOf (W := W) (Q := fun v h L => Fr n0 L ∧ Q v h) M hZ w4 w3 hf hl) (g := mkF m pc Ls (argsL.reverse ++ rest)) rfl (hsz.trans C.2.2.1.symm) (argsL := argsL) (rest := rest) (lenOf hpd hlen) rfl (by show 2 * 0 + _ ≤ _; omega) (hb C.2.1 hd) (fun _ _ => ⟨rfl, eT, hc, hs⟩)
  dsimp only [Pt.U, Pt.locs, Pt.cells, Pt.slots] at X' l' y' z' st' hQ
  subst l' y' z'
  obtain ⟨s₂, o, h1, h2⟩ := g v T'.heap hQ T' _ X' rfl (Fr.app N hN)
  exact ⟨s₂, o, st' _ h1, h2⟩
theorem oCallC (C : oCx p s m meth c bs ml own nm rt Z) (w1 : (Jvm.Cond.methodLink own i y).before a0 Z = true) (w2 : (Jvm.Cond.instanceMethod y).before a0 Z = true) (w3 : (Jvm.Cond.initialized y.cls).before a0 Z = true) (w4 : (Jvm.Cond.code y bs' ml' none).before a0 Z = true) (hd : decode bs pc = .ok (.invokespecial i, 3))
    (hn : y.name = "<init>") (hy : y.cls ≠ "java/lang/invoke/MethodHandle" ∧ y.cls ≠ "java/lang/invoke/VarHandle") (hpd : parseMethodDescriptor y.desc = some ⟨ps, r'⟩) (hlen : argsL.length = ps.length) (hsz : Ls.size = ml) (hst : argsL.reverse ++ .ref a :: rest = st) (hW : (rest.map fun v => v.category).sum = W) (hq : pc + 3 = q)
    (hf : R'.frames + 1 ≤ R.frames) (hl : W + (ml' + 11) + R'.locals ≤ R.locals) (hc : cells + R'.cells ≤ R.cells) (hs : slots + R'.slots ≤ R.slots)
    (M : oMet l Z y bs' ml' none [] R' R'.cells R'.slots n0 (.ref a :: argsL).toArray h Q)
    (g : ∀ v h', Q v h' → oW p l e R s m args below meth c F n0 h' (cells + R'.cells) (slots + R'.slots) (mkF m q Ls (v.toList ++ rest))) :
    oW p l e R s m args below meth c F n0 h cells slots (mkF m pc Ls st) := fun T locs X eT N => by
  subst hq hst
  have hZ := C.2.2.2.2.1
  obtain ⟨v, _, ⟨T', L', k', n'⟩, -, X', ⟨Lc, ⟨hN, hQ⟩, l', y', z'⟩, st'⟩ := X.specialBack C.1 (y := y) hn C.2.2.2.1 (mvT hZ w1) (mvT hZ w2) (mvT hZ w4) hy (backOf (W := W) (Q := fun v h L => Fr n0 L ∧ Q v h) M hZ w4 w3 hf hl) (g := mkF m pc Ls (argsL.reverse ++ .ref a :: rest)) rfl (hsz.trans C.2.2.1.symm) (Steps.refl _) (a := a) (argsL := argsL) (rest := rest) (lenOf hpd hlen) rfl (by show 2 * 0 + _ ≤ _; omega) (hb C.2.1 hd) (fun _ _ => ⟨rfl, eT, hc, hs⟩)
  dsimp only [Pt.U, Pt.locs, Pt.cells, Pt.slots] at X' l' y' z' st' hQ
  subst l' y' z'
  obtain ⟨s₂, o, h1, h2⟩ := g v T'.heap hQ T' _ X' rfl (Fr.app N hN)
  exact ⟨s₂, o, st'.trans h1, h2⟩
theorem oCallV (C : oCx p s m meth c bs ml own nm rt Z) (w1 : (Jvm.Cond.methodLink own i y).before a0 Z = true) (w5 : (Jvm.Cond.declares y).before a0 Z = true) (w6 : (Jvm.Cond.selects y.cls y y).before a0 Z = true) (w2 : (Jvm.Cond.instanceMethod y).before a0 Z = true) (w3 : (Jvm.Cond.initialized y.cls).before a0 Z = true) (w4 : (Jvm.Cond.code y bs' ml' rt').before a0 Z = true) (hd : decode bs pc = .ok (.invokevirtual i, 3))
    (E : Exa Z h a y.cls) (hy : y.cls ≠ "java/lang/invoke/MethodHandle" ∧ y.cls ≠ "java/lang/invoke/VarHandle") (hpd : parseMethodDescriptor y.desc = some ⟨ps, r'⟩) (hlen : argsL.length = ps.length) (hsz : Ls.size = ml) (hst : argsL.reverse ++ .ref a :: rest = st) (hW : (rest.map fun v => v.category).sum = W) (hq : pc + 3 = q)
    (hf : R'.frames + 1 ≤ R.frames) (hl : W + (ml' + 11) + R'.locals ≤ R.locals) (hc : cells + R'.cells ≤ R.cells) (hs : slots + R'.slots ≤ R.slots)
    (M : oMet l Z y bs' ml' rt' [] R' R'.cells R'.slots n0 (.ref a :: argsL).toArray h Q)
    (g : ∀ v h', Q v h' → oW p l e R s m args below meth c F n0 h' (cells + R'.cells) (slots + R'.slots) (mkF m q Ls (v.toList ++ rest))) :
    oW p l e R s m args below meth c F n0 h cells slots (mkF m pc Ls st) := fun T locs X eT N => by
  subst hq hst
  have hZ := C.2.2.2.2.1
  obtain ⟨cq, kq, qa, qb, qc⟩ := isOf hZ eT E
  obtain ⟨v, _, ⟨T', L', k', n'⟩, -, X', ⟨Lc, ⟨hN, hQ⟩, l', y', z'⟩, st'⟩ := X.virtualBack C.1 (y := y) (z := y) C.2.2.2.1 (mvT hZ w1) (mvT hZ w5) (notFace_of_selects (args := #[]) (mvT hZ w6)) (mvT hZ w6) (mvT hZ w2) hy (backOf (W := W) (Q := fun v h L => Fr n0 L ∧ Q v h) M hZ w4 w3 hf hl) qa qc (g := mkF m pc Ls (argsL.reverse ++ .ref a :: rest)) rfl (hsz.trans C.2.2.1.symm) (Steps.refl _) (argsL := argsL) (rest := rest) (lenOf hpd hlen) rfl (by show 2 * 0 + _ ≤ _; omega) (hb C.2.1 hd) (fun _ _ => ⟨rfl, eT, hc, hs⟩)
  dsimp only [Pt.U, Pt.locs, Pt.cells, Pt.slots] at X' l' y' z' st' hQ
  subst l' y' z'
  obtain ⟨s₂, o, h1, h2⟩ := g v T'.heap hQ T' _ X' rfl (Fr.app N hN)
  exact ⟨s₂, o, st'.trans h1, h2⟩
theorem oCallP {kk : Nat} (C : oCx p s m meth c bs ml own nm rt Z) (w1 : (Jvm.Cond.methodLink own i y).before a0 Z = true) (w5 : (Jvm.Cond.privateMethod y).before a0 Z = true) (w6 : (Jvm.Cond.instantiable y.cls kk).before a0 Z = true) (w2 : (Jvm.Cond.instanceMethod y).before a0 Z = true) (w3 : (Jvm.Cond.initialized y.cls).before a0 Z = true) (w4 : (Jvm.Cond.code y bs' ml' rt').before a0 Z = true) (hd : decode bs pc = .ok (.invokevirtual i, 3))
    (E : Exa Z h a y.cls) (hy : y.cls ≠ "java/lang/invoke/MethodHandle" ∧ y.cls ≠ "java/lang/invoke/VarHandle") (hpd : parseMethodDescriptor y.desc = some ⟨ps, r'⟩) (hlen : argsL.length = ps.length) (hsz : Ls.size = ml) (hst : argsL.reverse ++ .ref a :: rest = st) (hW : (rest.map fun v => v.category).sum = W) (hq : pc + 3 = q)
    (hf : R'.frames + 1 ≤ R.frames) (hl : W + (ml' + 11) + R'.locals ≤ R.locals) (hc : cells + R'.cells ≤ R.cells) (hs : slots + R'.slots ≤ R.slots)
    (M : oMet l Z y bs' ml' rt' [] R' R'.cells R'.slots n0 (.ref a :: argsL).toArray h Q)
    (g : ∀ v h', Q v h' → oW p l e R s m args below meth c F n0 h' (cells + R'.cells) (slots + R'.slots) (mkF m q Ls (v.toList ++ rest))) :
    oW p l e R s m args below meth c F n0 h cells slots (mkF m pc Ls st) := fun T locs X eT N => by
  subst hq hst
  have hZ := C.2.2.2.2.1
  obtain ⟨cl, qa, qb⟩ := E.cell
  have hp : s.PrivateAt y := Cond.privateMethod_at (mvP hZ w5 (args := #[]))
  obtain ⟨c2, k2, i1, i2, -, i4, -⟩ := Cond.instantiable_spec (mvT (args := args) hZ w6)
  obtain ⟨v, _, ⟨T', L', k', n'⟩, -, X', ⟨Lc, ⟨hN, hQ⟩, l', y', z'⟩, st'⟩ := X.privateBack C.1 (y := y) C.2.2.2.1 (mvT hZ w1) (mvT hZ w2) (selects_self_of_private i1 i2 (by simpa using (Bool.or_eq_false_iff.mp i4).1) hp (mvT hZ w2) hy) hp (mvT hZ w4) hy (backOf (W := W) (Q := fun v h L => Fr n0 L ∧ Q v h) M hZ w4 w3 hf hl) (g := mkF m pc Ls (argsL.reverse ++ .ref a :: rest)) rfl (hsz.trans C.2.2.1.symm) (Steps.refl _) (a := a) (by rw [eT]; exact qa) qb (argsL := argsL) (rest := rest) (lenOf hpd hlen) rfl (by show 2 * 0 + _ ≤ _; omega) (hb C.2.1 hd) (fun _ _ => ⟨rfl, eT, hc, hs⟩)
  dsimp only [Pt.U, Pt.locs, Pt.cells, Pt.slots] at X' l' y' z' st' hQ
  subst l' y' z'
  obtain ⟨s₂, o, h1, h2⟩ := g v T'.heap hQ T' _ X' rfl (Fr.app N hN)
  exact ⟨s₂, o, st'.trans h1, h2⟩
def oMetH (l : Launch) (Z : State) (y : MethodName) (bs : ByteArray) (ml : Nat) (rt : Option FieldType) (tr : List (Nat × Nat × Nat × Nat)) (R : Room) (k n n0 : Nat) (as' : Array Value) (h0 : Heap) (Q : Option Value → Heap → Prop) : Prop :=
  MetFree l y (head1 [Jvm.Cond.codeWith y bs ml rt tr] R) (fun a U => a = as' ∧ Z.Warmed39 U.vm ∧ U.heap = h0) (fun _ _ _ _ _ => True) (fun _ U o U' => ∃ v L, o = .returned v ∧ (Fr n0 L ∧ Q v U'.heap) ∧ FrameEnd U o U' L k n)
theorem oMetH.intro {tr : List (Nat × Nat × Nat × Nat)} {k n : Nat} {as' : Array Value} {h0 : Heap} (pn : plainFor y = true) (ef : ∀ m, entryFrame m as' ml = mkF m 0 Ls [])
    (body : ∀ (p : Program) (e : Env) (s : State) (m : MethodId) (below : List Frame) (meth : Method) (c : Code), oCx p s m meth c bs ml y.cls y.name rt Z → oW p l e R s m as' below meth c (oFin s n0 k n Q) n0 h0 0 0 (mkF m 0 Ls [])) :
    oMetH l Z y bs ml rt tr R k n n0 as' h0 Q := by
  refine MetFree.of_bodySF pn hisWith ?_
  intro p e s m args below meth c s₁ Bd hml0 hP hK
  obtain ⟨rfl, hZ, hh⟩ := hP
  have e0 : s₁.heap = h0 := by rw [← hh, Bd.state]; rfl
  have C : oCx p s m meth c bs ml y.cls y.name rt Z := ⟨Bd.exec, Bd.bytes, hml0, findClass_of_methodNamed Bd.named, hZ, (name_of_methodNamed Bd.named Bd.method).1, Bd.returns, Bd.notSynchronized⟩
  obtain ⟨s₂, o, h1, h2, h3, h4⟩ := body p e s m below meth c C s₁ [] (Stand.of_body Bd) e0 (Fr.nil n0)
  exact ⟨s₂, o, castTop (ef m) h1, h2, h3, h4⟩
theorem oPureK {w : Value} {hc : Heap} (g : oW p l e R s m args below meth c F n0 hc cells slots (mkF m q Ls (w :: rest))) : ∀ (v : Option Value) (h' : Heap), (v = some w ∧ h' = hc) → oW p l e R s m args below meth c F n0 h' cells slots (mkF m q Ls (v.toList ++ rest)) := by
  rintro _ _ ⟨rfl, rfl⟩; exact g
theorem oVQ {Q' : Heap → Prop} (g : ∀ h', Q' h' → oW p l e R s m args below meth c F n0 h' cells slots (mkF m q Ls rest)) : ∀ (v : Option Value) (h' : Heap), (v = none ∧ Q' h') → oW p l e R s m args below meth c F n0 h' cells slots (mkF m q Ls (v.toList ++ rest)) := by
  rintro _ _ ⟨rfl, hq⟩; exact g _ hq
theorem oRQ {Q' : Heap → Prop} {w : Value} (g : ∀ h', Q' h' → oW p l e R s m args below meth c F n0 h' cells slots (mkF m q Ls (w :: rest))) : ∀ (v : Option Value) (h' : Heap), (v = some w ∧ Q' h') → oW p l e R s m args below meth c F n0 h' cells slots (mkF m q Ls (v.toList ++ rest)) := by
  rintro _ _ ⟨rfl, hq⟩; exact g _ hq
theorem oVoidK {hc : Heap} (g : oW p l e R s m args below meth c F n0 hc cells slots (mkF m q Ls rest)) : ∀ (v : Option Value) (h' : Heap), (v = none ∧ h' = hc) → oW p l e R s m args below meth c F n0 h' cells slots (mkF m q Ls (v.toList ++ rest)) := by
  rintro _ _ ⟨rfl, rfl⟩; exact g
end Calls
theorem oInitO (C : oCx p s m meth c bs ml own nm rt Z) {i W : Nat} {a : Addr} (w1 : (Jvm.Cond.methodLink own i Lib.objectInit).before a0 Z = true) (w2 : (Jvm.Cond.instanceMethod Lib.objectInit).before a0 Z = true) (w3 : (Jvm.Cond.code Lib.objectInit ⟨#[0xb1]⟩ 1 none).before a0 Z = true) (hd : decode bs pc = .ok (.invokespecial i, 3)) (hsz : Ls.size = ml) (hW : (st.map fun v => v.category).sum = W) (hq : pc + 3 = q) (hf : 1 ≤ R.frames) (hl : W + 12 ≤ R.locals)
    (g : oW p l e R s m args below meth c F n0 h cells slots (mkF m q Ls st)) : oW p l e R s m args below meth c F n0 h cells slots (mkF m pc Ls (.ref a :: st)) := by
  subst hq
  exact oW.to (fun T locs X eT => initO X C.1 C.2.2.2.2.1 C.2.2.2.1 w1 w2 w3 eT (g := mkF m pc Ls (.ref a :: st)) rfl (hsz.trans C.2.2.1.symm) rfl (hb C.2.1 hd) hf (W := W) (by show 2 * 0 + _ ≤ _; omega) hl) g
theorem oCastI {z z' : Int32} (hz : z = z') (g : oW p l e R s m args below meth c F n0 h cells slots (mkF m pc Ls (.int z' :: st))) : oW p l e R s m args below meth c F n0 h cells slots (mkF m pc Ls (.int z :: st)) := hz ▸ g
theorem oCastL {z z' : Int64} (hz : z = z') (g : oW p l e R s m args below meth c F n0 h cells slots (mkF m pc Ls (.long z' :: st))) : oW p l e R s m args below meth c F n0 h cells slots (mkF m pc Ls (.long z :: st)) := hz ▸ g
theorem oJoin {α : Type} {f : JFrame} (P : α → Prop) (hh : α → Heap) (fr : α → JFrame) {k n : Nat} (j : ∀ w, P w → oW p l e R s m args below meth c F n0 (hh w) k n (fr w)) (g : (∀ w, P w → oW p l e R s m args below meth c F n0 (hh w) k n (fr w)) → oW p l e R s m args below meth c F n0 h cells slots f) : oW p l e R s m args below meth c F n0 h cells slots f := g j
theorem oLoop {α : Type} (P : Nat → α → Prop) (hh : α → Heap) (fr : α → JFrame) {k n : Nat} (j : ∀ t, (∀ t', t' < t → ∀ w, P t' w → oW p l e R s m args below meth c F n0 (hh w) k n (fr w)) → ∀ w, P t w → oW p l e R s m args below meth c F n0 (hh w) k n (fr w)) (t : Nat) (w : α) (hp : P t w) : oW p l e R s m args below meth c F n0 (hh w) k n (fr w) := by
  have key : ∀ t w, P t w → oW p l e R s m args below meth c F n0 (hh w) k n (fr w) := fun t => by
    induction t using Nat.strongRecOn with
    | ind t ih => exact j t ih
  exact key t w hp
theorem oNew (C : oCx p s m meth c bs ml own nm rt Z) {i n : Nat} {K : String} (w : (Jvm.Cond.classLink own i K).before a0 Z = true) (wi : (Jvm.Cond.instantiable K n).before a0 Z = true) (wz : (Jvm.Cond.initialized K).before a0 Z = true) (hd : decode bs pc = .ok (.new i, 3)) (hq : pc + 3 = q) (hc : cells + 1 ≤ R.cells) (hs : slots + n ≤ R.slots)
    (g : ∀ (a : Addr) (h' : Heap), a = h.size → Ext h h' → Exa Z h' a K → (∀ {O nm d : String} {ty : FieldType}, Laid Z a0 K O nm d → parseFieldDescriptor d = some ty → Fld Z h' a O nm d (defaultValue ty)) → oW p l e R s m args below meth c F n0 h' (cells + 1) (slots + n) (mkF m q Ls (.ref a :: st))) :
    oW p l e R s m args below meth c F n0 h cells slots (mkF m pc Ls st) := fun T locs X eT N => by
  subst hq
  obtain ⟨T', h', X', e', E', A', D', -, st'⟩ := newO X C.1 C.2.2.2.2.1 C.2.2.2.1 w wi wz eT (g := mkF m pc Ls st) rfl (hb C.2.1 hd) hc hs
  obtain ⟨s₂, o, h1, h2⟩ := g _ h' rfl E' A' D' T' _ X' e' N
  exact ⟨s₂, o, st' _ h1, h2⟩
theorem oGetF (C : oCx p s m meth c bs ml own nm rt Z) {i : Nat} {R0 O n d : String} {a : Addr} {v : Value} (w : (Jvm.Cond.fieldLink own i R0 n d).before a0 Z = true) (via : Via Z R0 O n d) (Fd : Fld Z h a O n d v) (hd : decode bs pc = .ok (.getfield i, 3)) (hq : pc + 3 = q)
    (g : oW p l e R s m args below meth c F n0 h cells slots (mkF m q Ls (v :: st))) : oW p l e R s m args below meth c F n0 h cells slots (mkF m pc Ls (.ref a :: st)) := by
  subst hq
  exact oW.to (fun T locs X eT => getF X C.1 C.2.2.2.2.1 C.2.2.2.1 (host := "") (Or.inl w) via eT Fd (g := mkF m pc Ls (.ref a :: st)) rfl rfl (hb C.2.1 hd)) g
theorem oGetS (C : oCx p s m meth c bs ml own nm rt Z) {i : Nat} {R0 O n d : String} {v : Value} (w : (Jvm.Cond.fieldLink own i R0 n d).before a0 Z = true) (via : Via Z R0 O n d) (Fd : Sta Z h O n d v) (hd : decode bs pc = .ok (.getstatic i, 3)) (hq : pc + 3 = q)
    (g : oW p l e R s m args below meth c F n0 h cells slots (mkF m q Ls (v :: st))) : oW p l e R s m args below meth c F n0 h cells slots (mkF m pc Ls st) := by
  subst hq
  exact oW.to (fun T locs X eT => getS (host := "") X C.1 C.2.2.2.2.1 C.2.2.2.1 w via eT Fd (g := mkF m pc Ls st) rfl (hb C.2.1 hd)) g
theorem oPutF (C : oCx p s m meth c bs ml own nm rt Z) {i kk : Nat} {R0 O n d K : String} {ty : FieldType} {a : Addr} {v old : Value} (w : (Jvm.Cond.fieldLink own i R0 n d).before a0 Z = true) (via : Via Z R0 O n d) (Fd : Fld Z h a O n d old) (E : Exa Z h a K) (L : (Jvm.Cond.lays K O n d).before a0 Z = true ∨ ((Jvm.Cond.laysFinal K O n d).before a0 Z = true ∧ own = O ∧ nm = "<init>")) (wi : (Jvm.Cond.instantiable K kk).before a0 Z = true)
    (hty : parseFieldDescriptor d = some ty) (hn : narrow ty v = v) (hf : fits ty v = true) (hd : decode bs pc = .ok (.putfield i, 3)) (hq : pc + 3 = q) (ha : n0 ≤ a)
    (g : ∀ h', Wr h h' a (Jvm.RoadKit.slotOf Z O n d) v → oW p l e R s m args below meth c F n0 h' cells slots (mkF m q Ls st)) : oW p l e R s m args below meth c F n0 h cells slots (mkF m pc Ls (v :: .ref a :: st)) := fun T locs X eT N => by
  subst hq
  obtain ⟨T', h', X', e', W', st'⟩ := putF X C.1 C.2.2.2.2.1 C.2.2.2.1 (host := "") (Or.inl w) via eT Fd E (L.imp id fun z => ⟨z.1, z.2.1, C.2.2.2.2.2.1.trans z.2.2⟩) wi hty hn hf (g := mkF m pc Ls (v :: .ref a :: st)) rfl rfl (hb C.2.1 hd)
  obtain ⟨s₂, o, h1, h2⟩ := g h' W' T' _ X' e' (Fr.snoc X' N ha)
  exact ⟨s₂, o, st' _ h1, h2⟩
def oAr (Z : State) (h : Heap) (a : Addr) (ty : FieldType) (vs : List Value) : Prop := ∃ c : Cell, Arr Z h a c ty ∧ c.slots.toList = vs
section Arrays
variable {a b : Addr} {ty : FieldType} {vs : List Value} {v : Value} {sl : Nat}
theorem oAr.lt (A : oAr Z h a ty vs) : a < h.size := by obtain ⟨c, A, -⟩ := A; exact A.lt
theorem oAr.ext (A : oAr Z h a ty vs) (E : Ext h h') : oAr Z h' a ty vs := by obtain ⟨c, A, r⟩ := A; exact ⟨c, A.ext E, r⟩
theorem oAr.other (A : oAr Z h a ty vs) (W : Wr h h' b sl v) (ne : a ≠ b) : oAr Z h' a ty vs := by obtain ⟨c, A, r⟩ := A; exact ⟨c, A.other W ne, r⟩
theorem oAr.same (A : oAr Z h a ty vs) (W : Wr h h' a sl v) : oAr Z h' a ty (vs.set sl v) := by
  obtain ⟨c, A, r⟩ := A
  exact ⟨_, A.same W, by subst r; simp [Cell.setSlot]⟩
theorem oNe' (h1 : a < h.size) (h2 : h.size ≤ b) : a ≠ b := Nat.ne_of_lt (Nat.lt_of_lt_of_le h1 h2)
theorem oInb {cl : Cell} {j : Int32} {k : Nat} (r : cl.slots.toList = vs) (hj : ¬ j < 0) (hk : j.toNatClampNeg = k) (hv : vs[k]? = some v) : ¬ (j < 0 ∨ cl.slots.size ≤ j.toNatClampNeg) ∧ cl.slots[j.toNatClampNeg]? = some v := by
  subst hk r
  have hlt : j.toNatClampNeg < cl.slots.toList.length := (List.getElem?_eq_some_iff.mp hv).1
  refine ⟨fun q => q.elim hj fun u => ?_, by rw [← hv]; simp⟩
  simp at hlt; omega
end Arrays
def oKe (h0 h : Heap) (ws : List Addr) (fs : List (Addr × Nat)) : Prop := h0.size ≤ h.size ∧ ∀ (x : Addr) (c : Cell), h0[x]? = some c → ∃ c' : Cell, h[x]? = some c' ∧ c'.cls = c.cls ∧ c'.vm = c.vm ∧ c'.slots.size = c.slots.size ∧ (x ∉ ws → ∀ j, (x, j) ∉ fs → c'.slots[j]? = c.slots[j]?)
section Ke
variable {h0 : Heap} {ws ws' : List Addr} {fs fs' : List (Addr × Nat)} {a b : Addr} {sl : Nat} {v : Value} {ty : FieldType} {vs : List Value} {K O n d : String}
theorem oKe.refl (h : Heap) (ws : List Addr) (fs : List (Addr × Nat)) : oKe h h ws fs := ⟨Nat.le_refl _, fun x c q => ⟨c, q, rfl, rfl, rfl, fun _ _ _ => rfl⟩⟩
theorem oKe.trans (A : oKe h0 h ws fs) (B : oKe h h' ws' fs') (q1 : ∀ x ∈ ws', x ∈ ws ∨ h0.size ≤ x) (q2 : ∀ x ∈ fs', x ∈ fs ∨ h0.size ≤ x.1) : oKe h0 h' ws fs := by
  refine ⟨Nat.le_trans A.1 B.1, fun x c hx => ?_⟩
  obtain ⟨c1, e1, e2, e3, e4, e5⟩ := A.2 x c hx
  obtain ⟨c2, g1, g2, g3, g4, g5⟩ := B.2 x c1 e1
  have lt := (Array.getElem?_eq_some_iff.mp hx).1
  refine ⟨c2, g1, g2.trans e2, g3.trans e3, g4.trans e4, fun hn j hj => ?_⟩
  rw [g5 (fun z => (q1 x z).elim hn (fun y => absurd lt (Nat.not_lt.mpr y))) j (fun z => (q2 _ z).elim hj (fun y => absurd lt (Nat.not_lt.mpr y)))]
  exact e5 hn j hj
theorem oKe.of_ext (E : Ext h h') : oKe h h' [] [] := ⟨E.1, fun x c q => ⟨c, E.2 x c q, rfl, rfl, rfl, fun _ _ _ => rfl⟩⟩
theorem oKe.ext (A : oKe h0 h ws fs) (E : Ext h h') : oKe h0 h' ws fs := A.trans (oKe.of_ext E) (fun _ q => nomatch q) (fun _ q => nomatch q)
theorem oKe.of_wr (W : Wr h h' a sl v) : oKe h h' [] [(a, sl)] := by
  refine ⟨Nat.le_of_eq W.size.symm, fun x c q => ?_⟩
  obtain ⟨c', e1, e2, e3, e4, e5, e6, -⟩ := wr_at W q
  refine ⟨c', e1, e2, e3, e4, fun _ j hj => ?_⟩
  by_cases ex : x = a
  · subst ex; exact e6 j (fun ej => hj (by simp [ej]))
  · rw [e5 ex]
theorem oKe.of_wrA (W : Wr h h' a sl v) : oKe h h' [a] [] := by
  refine ⟨Nat.le_of_eq W.size.symm, fun x c q => ?_⟩
  obtain ⟨c', e1, e2, e3, e4, e5, e6, -⟩ := wr_at W q
  exact ⟨c', e1, e2, e3, e4, fun hn j hj => by rw [e5 (fun ex => hn (by simp [ex]))]⟩
theorem oKe.wrF (A : oKe h0 h ws fs) (W : Wr h h' a sl v) (q : (a, sl) ∈ fs ∨ h0.size ≤ a) : oKe h0 h' ws fs := A.trans (oKe.of_wr W) (fun _ q => nomatch q) fun x hx => by cases List.mem_singleton.mp hx; exact q
theorem oKe.wrA (A : oKe h0 h ws fs) (W : Wr h h' a sl v) (q : a ∈ ws ∨ h0.size ≤ a) : oKe h0 h' ws fs := A.trans (oKe.of_wrA W) (fun x hx => by cases List.mem_singleton.mp hx; exact q) (fun _ q => nomatch q)
theorem oKe.exa (A : oKe h h' ws fs) (E : Exa Z h a K) : Exa Z h' a K := by
  obtain ⟨cell, k, h1, h2, h3, h4, h5⟩ := E
  obtain ⟨c', e1, e2, e3, e4, -⟩ := A.2 _ _ h1
  exact ⟨c', k, e1, e2 ▸ h2, e2 ▸ h3, e3 ▸ h4, e4 ▸ h5⟩
theorem oKe.fld (A : oKe h h' ws fs) (E : Fld Z h a O n d v) (q : a ∉ ws) (q2 : (a, Jvm.RoadKit.slotOf Z O n d) ∉ fs) : Fld Z h' a O n d v := by
  obtain ⟨cell, cf, k, i, f, h1, h2, h3, h4, h5, h6, h7⟩ := E
  obtain ⟨c', e1, e2, e3, e4, e5⟩ := A.2 _ _ h1
  have es : Jvm.RoadKit.slotOf Z O n d = f.slot := by simp [Jvm.RoadKit.slotOf, h2]
  rw [es] at q2
  exact ⟨c', cf, k, i, f, e1, h2, h3, e3 ▸ h4, e3 ▸ h5, e2 ▸ h6, (e5 q _ q2).trans h7⟩
theorem oKe.arr (A : oKe h h' ws fs) (E : oAr Z h a ty vs) (q : a ∉ ws) (q2 : ∀ y ∈ fs, a ≠ y.1) : oAr Z h' a ty vs := by
  obtain ⟨cl, ⟨h1, h2, h3⟩, h4⟩ := E
  obtain ⟨c', e1, e2, e3, e4, e5⟩ := A.2 _ _ h1
  have es : c'.slots = cl.slots := Array.ext_getElem? fun j => e5 q j (fun z => q2 _ z rfl)
  refine ⟨c', ⟨e1, ?_, e3 ▸ h3⟩, by rw [es]; exact h4⟩
  obtain ⟨g1, k, g2, comp, g3⟩ := h2
  exact ⟨e3 ▸ g1, k, e2 ▸ g2, comp, g3⟩
theorem oNF {x y : Addr × Nat} {L : List (Addr × Nat)} (q : x.1 ≠ y.1 ∨ x.2 ≠ y.2) (r : x ∉ L) : x ∉ y :: L := fun z => (List.mem_cons.mp z).elim (fun u => q.elim (fun w => w (by rw [u])) (fun w => w (by rw [u]))) r
theorem oN0 {x : Addr × Nat} : x ∉ ([] : List (Addr × Nat)) := fun q => nomatch q
theorem oA0 {P : Addr × Nat → Prop} : ∀ x ∈ ([] : List (Addr × Nat)), P x := fun _ q => nomatch q
theorem oAS {P : Addr × Nat → Prop} {y : Addr × Nat} {L : List (Addr × Nat)} (q : P y) (r : ∀ x ∈ L, P x) : ∀ x ∈ y :: L, P x := fun x z => (List.mem_cons.mp z).elim (fun u => u ▸ q) (r x)
end Ke
theorem oNewA (C : oCx p s m meth c bs ml own nm rt Z) {aty : ArrayType} {ty : FieldType} {z : Int32} {k : Nat} (w : (Jvm.Cond.arrayClass ty).before a0 Z = true) (hty : newarray.typeOf aty = ty) (hd : decode bs pc = .ok (.newarray aty, 2)) (hq : pc + 2 = q) (hz : ¬ z < 0) (hk : z.toNatClampNeg = k) (hb' : k * 8 ≤ 536870912) (hc : cells + 1 ≤ R.cells) {cap : Nat} (hcap : k ≤ cap) (hcb : cap * 8 ≤ 536870912) (hs : slots + cap ≤ R.slots)
    (g : ∀ (a : Addr) (h' : Heap), a = h.size → Ext h h' → oAr Z h' a ty (List.replicate k (defaultValue ty)) → oW p l e R s m args below meth c F n0 h' (cells + 1) (slots + cap) (mkF m q Ls (.ref a :: st))) :
    oW p l e R s m args below meth c F n0 h cells slots (mkF m pc Ls (.int z :: st)) := fun T locs X eT N => by
  subst hq hty hk
  obtain ⟨T', h', cA, X', e', E', A', st'⟩ := newP X C.1 C.2.2.2.2.1 w eT (g := mkF m pc Ls (.int z :: st)) rfl (hb C.2.1 hd) rfl hz (cap := cap) hcap hcb hc hs
  obtain ⟨s₂, o, h1, h2⟩ := g _ h' rfl E' ⟨_, A', by simp [newA]⟩ T' _ X' e' N
  exact ⟨s₂, o, st' _ h1, h2⟩
theorem oLen (C : oCx p s m meth c bs ml own nm rt Z) {a : Addr} {ty : FieldType} {vs : List Value} {z : Int32} (A : oAr Z h a ty vs) (hz : vs.length.toInt32 = z) (hd : decode bs pc = .ok (.arraylength, 1)) (hq : pc + 1 = q) (g : oW p l e R s m args below meth c F n0 h cells slots (mkF m q Ls (.int z :: st))) :
    oW p l e R s m args below meth c F n0 h cells slots (mkF m pc Ls (.ref a :: st)) := fun T locs X eT N => by
  subst hq hz
  obtain ⟨cl, A, r⟩ := A
  obtain ⟨s₂, o, h1, h2⟩ := g T locs X eT N
  exact ⟨s₂, o, X.arraylength C.1 (by rw [eT]; exact A.1) (State.isArrayOf_alike C.2.2.2.2.1.alike A.2.1) (g := mkF m pc Ls (.ref a :: st)) rfl rfl (hb C.2.1 hd) _ (by subst r; simpa using h1), h2⟩
theorem oLaload (C : oCx p s m meth c bs ml own nm rt Z) {a : Addr} {vs : List Value} {j : Int32} {k : Nat} {v : Value} (A : oAr Z h a .long vs) (hj : ¬ j < 0) (hk : j.toNatClampNeg = k) (hv : vs[k]? = some v) (hd : decode bs pc = .ok (.laload, 1)) (hq : pc + 1 = q) (g : oW p l e R s m args below meth c F n0 h cells slots (mkF m q Ls (v :: st))) :
    oW p l e R s m args below meth c F n0 h cells slots (mkF m pc Ls (.int j :: .ref a :: st)) := fun T locs X eT N => by
  subst hq
  obtain ⟨cl, A, r⟩ := A
  obtain ⟨i1, i2⟩ := oInb r hj hk hv
  obtain ⟨s₂, o, h1, h2⟩ := g T locs X eT N
  exact ⟨s₂, o, X.laload C.1 (j := j) (v := v) (by rw [eT]; exact A.1) (State.isArrayOf_alike C.2.2.2.2.1.alike A.2.1) A.2.2 i1 i2 (g := mkF m pc Ls (.int j :: .ref a :: st)) rfl rfl (hb C.2.1 hd) _ h1, h2⟩
theorem oLastore (C : oCx p s m meth c bs ml own nm rt Z) {a : Addr} {vs : List Value} {j : Int32} {k : Nat} {v v' : Value} {x : Int64} (A : oAr Z h a .long vs) (hj : ¬ j < 0) (hk : j.toNatClampNeg = k) (hv : vs[k]? = some v) (hx : (.long x : Value) = v') (hd : decode bs pc = .ok (.lastore, 1)) (hq : pc + 1 = q) (ha : n0 ≤ a)
    (g : ∀ h', Wr h h' a k v' → oAr Z h' a .long (vs.set k v') → oW p l e R s m args below meth c F n0 h' cells slots (mkF m q Ls (st))) :
    oW p l e R s m args below meth c F n0 h cells slots (mkF m pc Ls (.long x :: .int j :: .ref a :: st)) := fun T locs X eT N => by
  subst hq hx
  obtain ⟨cl, A, r⟩ := A
  obtain ⟨i1, -⟩ := oInb r hj hk hv
  obtain ⟨T', h', X', e', W', st'⟩ := stJ X C.1 C.2.2.2.2.1 eT A (j := j) i1 (g := mkF m pc Ls (.long x :: .int j :: .ref a :: st)) rfl rfl (hb C.2.1 hd)
  have W2 : Wr h h' a k (.long x) := hk ▸ W'
  obtain ⟨s₂, o, h1, h2⟩ := g h' W2 (oAr.same ⟨cl, A, r⟩ W2) T' _ X' e' (Fr.snoc X' N ha)
  exact ⟨s₂, o, st' _ h1, h2⟩
end Own
section Own2
variable {p : Program} {l : Launch} {e : Env} {R : Room} {s : State} {m : MethodId} {args : Array Value} {below : List Frame} {meth : Method} {c : Code} {bs : ByteArray} {ml : Nat} {own nm : String} {rt : Option FieldType} {Z : State} {F : State → Outcome → Prop} {n0 : Nat} {h h' : Heap} {cells slots : Nat} {pc q : Nat} {Ls Ls' : Array Slot} {st : List Value} {a0 : Array Value}
def oArO (Z : State) (h : Heap) (a : Addr) (K : String) (vs : List Value) : Prop := ∃ c : Cell, Arr Z h a c (.object K) ∧ Ovr Z c.cls K ∧ c.slots.toList = vs
section ArraysO
variable {a b : Addr} {K : String} {vs : List Value} {v : Value} {sl : Nat}
theorem oArO.lt (A : oArO Z h a K vs) : a < h.size := by obtain ⟨c, A, -⟩ := A; exact A.lt
theorem oArO.ext (A : oArO Z h a K vs) (E : Ext h h') : oArO Z h' a K vs := by obtain ⟨c, A, r⟩ := A; exact ⟨c, A.ext E, r⟩
theorem oArO.other (A : oArO Z h a K vs) (W : Wr h h' b sl v) (ne : a ≠ b) : oArO Z h' a K vs := by obtain ⟨c, A, r⟩ := A; exact ⟨c, A.other W ne, r⟩
theorem oArO.same (A : oArO Z h a K vs) (W : Wr h h' a sl v) : oArO Z h' a K (vs.set sl v) := by
  obtain ⟨c, A, o, r⟩ := A
  exact ⟨_, A.same W, o, by subst r; simp [Cell.setSlot]⟩
theorem oKe.arrO {ws : List Addr} {fs : List (Addr × Nat)} (A : oKe h h' ws fs) (E : oArO Z h a K vs) (q : a ∉ ws) (q2 : ∀ y ∈ fs, a ≠ y.1) : oArO Z h' a K vs := by
  obtain ⟨cl, ⟨h1, h2, h3⟩, ho, h4⟩ := E
  obtain ⟨c', e1, e2, e3, e4, e5⟩ := A.2 _ _ h1
  have es : c'.slots = cl.slots := Array.ext_getElem? fun j => e5 q j (fun z => q2 _ z rfl)
  refine ⟨c', ⟨e1, ?_, e3 ▸ h3⟩, e2 ▸ ho, by rw [es]; exact h4⟩
  obtain ⟨g1, k, g2, comp, g3⟩ := h2
  exact ⟨e3 ▸ g1, k, e2 ▸ g2, comp, g3⟩
end ArraysO
theorem oNewR (C : oCx p s m meth c bs ml own nm rt Z) {i : Nat} {K : String} {z : Int32} {k : Nat} (w1 : (Jvm.Cond.classLink own i K).before a0 Z = true) (w2 : (Jvm.Cond.arrayOver (.object K)).before a0 Z = true) (hd : decode bs pc = .ok (.anewarray i, 3)) (hq : pc + 3 = q) (hz : ¬ z < 0) (hk : z.toNatClampNeg = k) (hcb : k * 8 ≤ 536870912) (hc : cells + 1 ≤ R.cells) (hs : slots + k ≤ R.slots)
    (g : ∀ (a : Addr) (h' : Heap), a = h.size → Ext h h' → oArO Z h' a K (List.replicate k .null) → oW p l e R s m args below meth c F n0 h' (cells + 1) (slots + k) (mkF m q Ls (.ref a :: st))) :
    oW p l e R s m args below meth c F n0 h cells slots (mkF m pc Ls (.int z :: st)) := fun T locs X eT N => by
  subst hq hk
  obtain ⟨T', h', cA, X', e', E', A', O', st'⟩ := newR X C.1 C.2.2.2.2.1 C.2.2.2.1 w1 w2 eT (g := mkF m pc Ls (.int z :: st)) rfl (hb C.2.1 hd) rfl hz (cap := z.toNatClampNeg) (Nat.le_refl _) hcb hc hs
  obtain ⟨s₂, o, h1, h2⟩ := g _ h' rfl E' ⟨_, A', O', by simp [newA, defaultValue]⟩ T' _ X' e' N
  exact ⟨s₂, o, st' _ h1, h2⟩
theorem oAastore (C : oCx p s m meth c bs ml own nm rt Z) {a y : Addr} {K : String} {vs : List Value} {j : Int32} {k : Nat} {v : Value} (A : oArO Z h a K vs) (I : Ins Z h y K true) (hj : ¬ j < 0) (hk : j.toNatClampNeg = k) (hv : vs[k]? = some v) (hd : decode bs pc = .ok (.aastore, 1)) (hq : pc + 1 = q) (ha : n0 ≤ a)
    (g : ∀ h', Wr h h' a k (.ref y) → oArO Z h' a K (vs.set k (.ref y)) → oW p l e R s m args below meth c F n0 h' cells slots (mkF m q Ls st)) :
    oW p l e R s m args below meth c F n0 h cells slots (mkF m pc Ls (.ref y :: .int j :: .ref a :: st)) := fun T locs X eT N => by
  subst hq
  obtain ⟨cl, A, ho, r⟩ := A
  obtain ⟨i1, -⟩ := oInb r hj hk hv
  obtain ⟨T', h', X', e', W', st'⟩ := stR X C.1 C.2.2.2.2.1 eT A (j := j) i1 rfl (Sto.of A ho I) (g := mkF m pc Ls (.ref y :: .int j :: .ref a :: st)) rfl rfl (hb C.2.1 hd)
  have W2 : Wr h h' a k (.ref y) := hk ▸ W'
  obtain ⟨s₂, o, h1, h2⟩ := g h' W2 (oArO.same ⟨cl, A, ho, r⟩ W2) T' _ X' e' (Fr.snoc X' N ha)
  exact ⟨s₂, o, st' _ h1, h2⟩
theorem oAaload (C : oCx p s m meth c bs ml own nm rt Z) {a : Addr} {K : String} {vs : List Value} {j : Int32} {k : Nat} {v : Value} (A : oArO Z h a K vs) (hj : ¬ j < 0) (hk : j.toNatClampNeg = k) (hv : vs[k]? = some v) (hd : decode bs pc = .ok (.aaload, 1)) (hq : pc + 1 = q) (g : oW p l e R s m args below meth c F n0 h cells slots (mkF m q Ls (v :: st))) :
    oW p l e R s m args below meth c F n0 h cells slots (mkF m pc Ls (.int j :: .ref a :: st)) := fun T locs X eT N => by
  subst hq
  obtain ⟨cl, A, ho, r⟩ := A
  obtain ⟨i1, i2⟩ := oInb r hj hk hv
  obtain ⟨s₂, o, h1, h2⟩ := g T locs X eT N
  exact ⟨s₂, o, X.aaload C.1 (j := j) (v := v) (by rw [eT]; exact A.1) (State.isArrayOf_alike C.2.2.2.2.1.alike A.2.1) rfl A.2.2 i1 i2 (g := mkF m pc Ls (.int j :: .ref a :: st)) rfl rfl (hb C.2.1 hd) _ h1, h2⟩
theorem oLenO (C : oCx p s m meth c bs ml own nm rt Z) {a : Addr} {K : String} {vs : List Value} {z : Int32} (A : oArO Z h a K vs) (hz : vs.length.toInt32 = z) (hd : decode bs pc = .ok (.arraylength, 1)) (hq : pc + 1 = q) (g : oW p l e R s m args below meth c F n0 h cells slots (mkF m q Ls (.int z :: st))) :
    oW p l e R s m args below meth c F n0 h cells slots (mkF m pc Ls (.ref a :: st)) := by
  obtain ⟨cl, A, ho, r⟩ := A
  exact oLen C ⟨cl, A, r⟩ hz hd hq g
theorem oCast (C : oCx p s m meth c bs ml own nm rt Z) {i : Nat} {a : Addr} {K : String} (w : (Jvm.Cond.classLink own i K).before a0 Z = true) (I : Ins Z h a K true) (hd : decode bs pc = .ok (.checkcast i, 3)) (hq : pc + 3 = q) (g : oW p l e R s m args below meth c F n0 h cells slots (mkF m q Ls (.ref a :: st))) :
    oW p l e R s m args below meth c F n0 h cells slots (mkF m pc Ls (.ref a :: st)) := by
  subst hq
  exact oW.to (fun T locs X eT => castY X C.1 C.2.2.2.2.1 C.2.2.2.1 w eT I (g := mkF m pc Ls (.ref a :: st)) rfl rfl (hb C.2.1 hd)) g
theorem oCallI {i cnt : Nat} {xi y : MethodName} {bs' : ByteArray} {ml' : Nat} {rt' : Option FieldType} {R' : Room} {Q : Option Value → Heap → Prop} {argsL rest : List Value} {ps : List FieldType} {r' : Option FieldType} {W : Nat} {a : Addr} (C : oCx p s m meth c bs ml own nm rt Z)
    (w1 : (Jvm.Cond.methodLink own i xi).before a0 Z = true) (w5 : (Jvm.Cond.declares xi).before a0 Z = true) (w7 : (Jvm.Cond.interfaceMethod xi.cls xi.cls xi.name xi.desc).before a0 Z = true) (w6 : (Jvm.Cond.selects y.cls xi y).before a0 Z = true) (w2 : (Jvm.Cond.instanceMethod y).before a0 Z = true) (w8 : (Jvm.Cond.publicMethod y).before a0 Z = true) (w9 : (Jvm.Cond.unhidden y.cls xi.name xi.desc).before a0 Z = true) (w10 : (Jvm.Cond.castable y.cls xi.cls).before a0 Z = true) (w3 : (Jvm.Cond.initialized y.cls).before a0 Z = true) (w4 : (Jvm.Cond.code y bs' ml' rt').before a0 Z = true) (hd : decode bs pc = .ok (.invokeinterface i cnt, 5))
    (E : Exa Z h a y.cls) (hy : xi.cls ≠ "java/lang/invoke/MethodHandle" ∧ xi.cls ≠ "java/lang/invoke/VarHandle") (hpd : parseMethodDescriptor xi.desc = some ⟨ps, r'⟩) (hlen : argsL.length = ps.length) (hsz : Ls.size = ml) (hst : argsL.reverse ++ .ref a :: rest = st) (hW : (rest.map fun v => v.category).sum = W) (hq : pc + 5 = q)
    (hf : R'.frames + 1 ≤ R.frames) (hl : W + (ml' + 11) + R'.locals ≤ R.locals) (hc : cells + R'.cells ≤ R.cells) (hs : slots + R'.slots ≤ R.slots)
    (M : oMet l Z y bs' ml' rt' [] R' R'.cells R'.slots n0 (.ref a :: argsL).toArray h Q)
    (g : ∀ v h', Q v h' → oW p l e R s m args below meth c F n0 h' (cells + R'.cells) (slots + R'.slots) (mkF m q Ls (v.toList ++ rest))) :
    oW p l e R s m args below meth c F n0 h cells slots (mkF m pc Ls st) := fun T locs X eT N => by
  subst hq hst
  have hZ := C.2.2.2.2.1
  obtain ⟨cq, kq, qa, qb, qc⟩ := isOf hZ eT E
  obtain ⟨v, _, ⟨T', L', k', n'⟩, -, X', ⟨Lc, ⟨hN, hQ⟩, l', y', z'⟩, st'⟩ := X.interfaceBack C.1 (xi := xi) (y := y) C.2.2.2.1 (mvT hZ w1) (mvT hZ w5) (mvT hZ w7 (by simp [Cond.onTables, Cond.keepsFace, Cond.keeps, Cond.steady, Cond.faceAtom, hy.1, hy.2])) (mvT hZ w6) (mvT hZ w2) (mvT hZ w8) (mvT hZ w9) (mvT hZ w10) hy (backOf (W := W) (Q := fun v h L => Fr n0 L ∧ Q v h) M hZ w4 w3 hf hl) qa qb qc (g := mkF m pc Ls (argsL.reverse ++ .ref a :: rest)) rfl (hsz.trans C.2.2.1.symm) (Steps.refl _) (argsL := argsL) (rest := rest) (lenOf hpd hlen) rfl (by show 2 * 0 + _ ≤ _; omega) (hb C.2.1 hd) (fun _ _ => ⟨rfl, eT, hc, hs⟩)
  dsimp only [Pt.U, Pt.locs, Pt.cells, Pt.slots] at X' l' y' z' st' hQ
  subst l' y' z'
  obtain ⟨s₂, o, h1, h2⟩ := g v T'.heap hQ T' _ X' rfl (Fr.app N hN)
  exact ⟨s₂, o, st'.trans h1, h2⟩
def oSta (Z : State) (n0 : Nat) (h : Heap) (K n d : String) (v : Value) : Prop := ∃ (cf i : Nat) (k : Class) (f : Field) (st : Addr) (cell : Cell), Z.fieldFound? K n d = some (cf, k, i, f) ∧ f.isStatic = true ∧ k.init = .initialized ∧ k.statics = some st ∧ h[st]? = some cell ∧ cell.vm.isStatics = true ∧ cell.slots[f.slot]? = some v ∧ st < n0
section Stas
variable {K n d : String} {v w : Value} {a : Addr} {sl : Nat}
theorem oSta.sta (S : oSta Z n0 h K n d v) : Sta Z h K n d v := by obtain ⟨cf, i, k, f, st, cell, h1, h2, h3, h4, h5, h6, h7, -⟩ := S; exact ⟨cf, i, k, f, st, cell, h1, h2, h3, h4, h5, h6, h7⟩
theorem oSta.of (S : Sta Z h K n d v) (hn : h.size ≤ n0) : oSta Z n0 h K n d v := by obtain ⟨cf, i, k, f, st, cell, h1, h2, h3, h4, h5, h6, h7⟩ := S; exact ⟨cf, i, k, f, st, cell, h1, h2, h3, h4, h5, h6, h7, Nat.lt_of_lt_of_le (Array.getElem?_eq_some_iff.mp h5).1 hn⟩
theorem oSta.ext (S : oSta Z n0 h K n d v) (E : Ext h h') : oSta Z n0 h' K n d v := by obtain ⟨cf, i, k, f, st, cell, h1, h2, h3, h4, h5, r⟩ := S; exact ⟨cf, i, k, f, st, cell, h1, h2, h3, h4, E.2 _ _ h5, r⟩
theorem oSta.wr (S : oSta Z n0 h K n d v) (W : Wr h h' a sl w) (q : n0 ≤ a) : oSta Z n0 h' K n d v := by
  obtain ⟨cf, i, k, f, st, cell, h1, h2, h3, h4, h5, h6, h7, h8⟩ := S
  obtain ⟨c', e1, -, -, -, e5, -⟩ := wr_at W h5
  exact ⟨cf, i, k, f, st, cell, h1, h2, h3, h4, by rw [← e5 (Nat.ne_of_lt (Nat.lt_of_lt_of_le h8 q))]; exact e1, h6, h7, h8⟩
theorem oKe.sta {ws : List Addr} {fs : List (Addr × Nat)} (A : oKe h h' ws fs) (S : oSta Z n0 h K n d v) (q : ∀ x ∈ ws, n0 ≤ x) (q2 : ∀ y ∈ fs, n0 ≤ y.1) : oSta Z n0 h' K n d v := by
  obtain ⟨cf, i, k, f, st, cell, h1, h2, h3, h4, h5, h6, h7, h8⟩ := S
  obtain ⟨c', e1, e2, e3, e4, e5⟩ := A.2 _ _ h5
  exact ⟨cf, i, k, f, st, c', h1, h2, h3, h4, e1, e3 ▸ h6, (e5 (fun z => absurd h8 (Nat.not_lt.mpr (q _ z))) _ (fun z => absurd h8 (Nat.not_lt.mpr (q2 _ z)))).trans h7, h8⟩
end Stas
theorem oLdcS {vm0 : Vm} {k0 : Nat} (C : oCx p (s.setVm vm0) m meth c bs ml own nm rt Z) (hS : s.Since vm0 k0) (hk : k0 ≤ h.size) {i N : Nat} {t : String} (w : (Jvm.Cond.stringLink own i t).before a0 Z = true) (wS : ∀ a ∈ Bundle.stringAtoms, a.before a0 Z = true) (hd : decode bs pc = .ok (.ldc i, 2)) (hq : pc + 2 = q) (hn : 4 * t.toList.length ≤ N) (hbig : N ≤ 536870912) (hc : cells + 2 ≤ R.cells) (hs : slots + (N + 4) ≤ R.slots)
    (g : ∀ (a : Addr) (h' : Heap) (vm1 : Vm) (k1 : Nat), oCx p (s.setVm vm1) m meth c bs ml own nm rt Z → s.Since vm1 k1 → k1 ≤ h'.size → Ext h h' → oW p l e R (s.setVm vm1) m args below meth c F n0 h' (cells + 2) (slots + (N + 4)) (mkF m q Ls (.ref a :: st))) :
    oW p l e R (s.setVm vm0) m args below meth c F n0 h cells slots (mkF m pc Ls st) := fun T locs X eT N' => by
  subst hq
  obtain ⟨c1, c2, c3, c4, c5, c6, c7, c8⟩ := C
  obtain ⟨a, T', h', k1, X', e', E', hS', hk', hZ', ho', st'⟩ := ldcS X c1 c5 c4 w wS eT hS hk (g := mkF m pc Ls st) rfl (hb c2 hd) hn hbig hc hs
  obtain ⟨s₂, o, h1, h2⟩ := g a h' T'.vm k1 ⟨c1, c2, c3, ho', hZ', c6, c7, c8⟩ hS' hk' E' T' _ X' e' N'
  exact ⟨s₂, o, st' _ h1, h2⟩
def oFinW (s : State) (n0 k n : Nat) (Q : Option Value → Heap → Prop) (s₂ : State) (o : Outcome) : Prop := ∃ v L, o = .returned v ∧ (Fr n0 L ∧ Q v s₂.heap) ∧ ReturnedEndW s o s₂ L k n
def oMetW (l : Launch) (Z : State) (y : MethodName) (bs : ByteArray) (ml : Nat) (rt : Option FieldType) (ws : List Jvm.Cond) (R : Room) (k n n0 : Nat) (as' : Array Value) (h0 : Heap) (Q : Option Value → Heap → Prop) : Prop :=
  MetFree l y (head1 (Jvm.Cond.code y bs ml rt :: ws) R) (fun a U => a = as' ∧ Z.Warmed39 U.vm ∧ U.heap = h0) (fun _ _ _ _ _ => True) (fun _ U o U' => ∃ v L, o = .returned v ∧ (Fr n0 L ∧ Q v U'.heap) ∧ ReturnedEndW U o U' L k n)
theorem oMetW.intro {y : MethodName} {ws : List Jvm.Cond} {k n : Nat} {as' : Array Value} {h0 : Heap} {Q : Option Value → Heap → Prop} (pn : plainFor y = true) (ef : ∀ m, entryFrame m as' ml = mkF m 0 Ls [])
    (body : ∀ (p : Program) (e : Env) (s : State) (m : MethodId) (below : List Frame) (meth : Method) (c : Code), oCx p (s.setVm s.vm) m meth c bs ml y.cls y.name rt Z → s.Since s.vm s.heap.size → s.heap.size ≤ h0.size → oW p l e R (s.setVm s.vm) m as' below meth c (oFinW s n0 k n Q) n0 h0 0 0 (mkF m 0 Ls [])) :
    oMetW l Z y bs ml rt ws R k n n0 as' h0 Q := by
  refine MetFree.of_bodySF pn hisR ?_
  intro p e s m args below meth c s₁ Bd hml0 hP hK
  obtain ⟨rfl, hZ, hh⟩ := hP
  have e0 : s₁.heap = h0 := by rw [← hh, Bd.state]; rfl
  have C : oCx p s m meth c bs ml y.cls y.name rt Z := ⟨Bd.exec, Bd.bytes, hml0, findClass_of_methodNamed Bd.named, hZ, (name_of_methodNamed Bd.named Bd.method).1, Bd.returns, Bd.notSynchronized⟩
  obtain ⟨s₂, o, h1, h2, h3, h4⟩ := body p e s m below meth c C ((State.WarmedH.refl s).since _) (Nat.le_of_eq (by rw [hh])) s₁ [] (Stand.of_body Bd) e0 (Fr.nil n0)
  exact ⟨s₂, o, castTop (ef m) h1, h2, h3, h4⟩
theorem oRetZW {vm0 : Vm} {k0 k n : Nat} {Q : Option Value → Heap → Prop} (C : oCx p (s.setVm vm0) m meth c bs ml own nm (some .boolean) Z) (hS : s.Since vm0 k0) (hk0 : k0 ≤ h.size) {z z' : Int32} (hd : decode bs pc = .ok (.ireturn, 1)) (hz : nar .boolean z = z') (hk : cells ≤ k) (hn : slots ≤ n) (hQ : Q (some (.int z')) h) :
    oW p l e R (s.setVm vm0) m args below meth c (oFinW s n0 k n Q) n0 h cells slots (mkF m pc Ls (.int z :: st)) := fun T locs X eT N => by
  subst hz eT
  obtain ⟨fs, hr, hrun, hended, hW, h1, h2, h3⟩ := X.leaveW hS hk0 (v := some (.int (nar .boolean z))) (fun hh => by rw [C.2.2.2.2.2.2.1] at hh; cases hh) C.2.2.2.2.2.2.2
  exact ⟨_, _, retN X C.1 C.2.2.2.2.2.2.1 (Or.inl rfl) (hb C.2.1 hd) hr, hrun, hended, _, _, rfl, ⟨N, hQ⟩, hW, h1, h2, h3.mono hk hn⟩
end Own2
abbrev sP : String := "com/example/orderloom/orderloom/Precedence"
abbrev sF : String := "com/example/orderloom/orderloom/Footprint"
abbrev sR : String := "com/example/orderloom/orderloom/RequestClass"
abbrev sA : String := "java/util/ArrayList"
abbrev sO : String := "java/lang/Object"
abbrev sX : String := "com/example/orderloom/orderloom/PrecedenceFollowsPinLaw"
abbrev sD : String := "DEFAULTCAPACITY_EMPTY_ELEMENTDATA"
abbrev sK : String := "Lcom/example/orderloom/orderloom/RequestClass;"
abbrev sJ : String := "Lcom/example/orderloom/orderloom/RequestClasses;"
abbrev sG : String := "[Ljava/lang/Object;"
abbrev sL : String := "java/util/List"
abbrev oHw (a0 : Array Value) (Z : State) : Prop := ∀ d ∈ tables_1, d.before a0 Z = true
theorem w0 {a0 : Array Value} {Z : State} (hw : oHw a0 Z) : (Jvm.Cond.methodLink sX (7 : Nat) ({ cls := sX, name := "edge", desc := "(II)J" } : Jvm.MethodName)).before a0 Z = true := hw _ (List.mem_of_getElem? (i := 0) rfl)
theorem w1 {a0 : Array Value} {Z : State} (hw : oHw a0 Z) : (Jvm.Cond.static ({ cls := sX, name := "edge", desc := "(II)J" } : Jvm.MethodName)).before a0 Z = true := hw _ (List.mem_of_getElem? (i := 1) rfl)
theorem w2 {a0 : Array Value} {Z : State} (hw : oHw a0 Z) : (Jvm.Cond.initialized sX).before a0 Z = true := hw _ (List.mem_of_getElem? (i := 2) rfl)
theorem w3 {a0 : Array Value} {Z : State} (hw : oHw a0 Z) : (Jvm.Cond.code ({ cls := sX, name := "edge", desc := "(II)J" } : Jvm.MethodName) method_2_code (2 : Nat) (Option.some Jvm.ClassFile.FieldType.long)).before a0 Z = true := hw _ (List.mem_of_getElem? (i := 3) rfl)
theorem w4 {a0 : Array Value} {Z : State} (hw : oHw a0 Z) : (Jvm.Cond.constantLong sX (13 : Nat) (2 : Int64)).before a0 Z = true := hw _ (List.mem_of_getElem? (i := 4) rfl)
theorem w5 {a0 : Array Value} {Z : State} (hw : oHw a0 Z) : (Jvm.Cond.constantLong sX (15 : Nat) (4 : Int64)).before a0 Z = true := hw _ (List.mem_of_getElem? (i := 5) rfl)
theorem w6 {a0 : Array Value} {Z : State} (hw : oHw a0 Z) : (Jvm.Cond.constantLong sX (17 : Nat) (8 : Int64)).before a0 Z = true := hw _ (List.mem_of_getElem? (i := 6) rfl)
theorem w7 {a0 : Array Value} {Z : State} (hw : oHw a0 Z) : (Jvm.Cond.classLink sX (19 : Nat) sR).before a0 Z = true := hw _ (List.mem_of_getElem? (i := 7) rfl)
theorem w8 {a0 : Array Value} {Z : State} (hw : oHw a0 Z) : (Jvm.Cond.instantiable sR (5 : Nat)).before a0 Z = true := hw _ (List.mem_of_getElem? (i := 8) rfl)
theorem w9 {a0 : Array Value} {Z : State} (hw : oHw a0 Z) : (Jvm.Cond.initialized sR).before a0 Z = true := hw _ (List.mem_of_getElem? (i := 9) rfl)
theorem w10 {a0 : Array Value} {Z : State} (hw : oHw a0 Z) : (Jvm.Cond.stringLink sX (21 : Nat) "a").before a0 Z = true := hw _ (List.mem_of_getElem? (i := 10) rfl)
theorem w11 {a0 : Array Value} {Z : State} (hw : oHw a0 Z) : (Jvm.Cond.initialized "java/lang/String").before a0 Z = true := hw _ (List.mem_of_getElem? (i := 11) rfl)
theorem w12 {a0 : Array Value} {Z : State} (hw : oHw a0 Z) : (Jvm.Cond.instantiable "java/lang/String" (4 : Nat)).before a0 Z = true := hw _ (List.mem_of_getElem? (i := 12) rfl)
theorem w13 {a0 : Array Value} {Z : State} (hw : oHw a0 Z) : (Jvm.Cond.arrayClass Jvm.ClassFile.FieldType.byte).before a0 Z = true := hw _ (List.mem_of_getElem? (i := 13) rfl)
theorem w14 {a0 : Array Value} {Z : State} (hw : oHw a0 Z) : (Jvm.Cond.laysFinal "java/lang/String" "java/lang/String" "value" "[B").before a0 Z = true := hw _ (List.mem_of_getElem? (i := 14) rfl)
theorem w15 {a0 : Array Value} {Z : State} (hw : oHw a0 Z) : (Jvm.Cond.laysFinal "java/lang/String" "java/lang/String" "coder" "B").before a0 Z = true := hw _ (List.mem_of_getElem? (i := 15) rfl)
theorem w16 {a0 : Array Value} {Z : State} (hw : oHw a0 Z) : (Jvm.Cond.soleField "java/lang/String" "value").before a0 Z = true := hw _ (List.mem_of_getElem? (i := 16) rfl)
theorem w17 {a0 : Array Value} {Z : State} (hw : oHw a0 Z) : (Jvm.Cond.soleField "java/lang/String" "coder").before a0 Z = true := hw _ (List.mem_of_getElem? (i := 17) rfl)
theorem w18 {a0 : Array Value} {Z : State} (hw : oHw a0 Z) : (Jvm.Cond.methodLink sX (23 : Nat) ({ cls := sR, name := "<init>", desc := "(Lcom/example/orderloom/orderloom/RequestClasses;Ljava/lang/String;IJ)V" } : Jvm.MethodName)).before a0 Z = true := hw _ (List.mem_of_getElem? (i := 18) rfl)
theorem w19 {a0 : Array Value} {Z : State} (hw : oHw a0 Z) : (Jvm.Cond.instanceMethod ({ cls := sR, name := "<init>", desc := "(Lcom/example/orderloom/orderloom/RequestClasses;Ljava/lang/String;IJ)V" } : Jvm.MethodName)).before a0 Z = true := hw _ (List.mem_of_getElem? (i := 19) rfl)
theorem w20 {a0 : Array Value} {Z : State} (hw : oHw a0 Z) : (Jvm.Cond.code ({ cls := sR, name := "<init>", desc := "(Lcom/example/orderloom/orderloom/RequestClasses;Ljava/lang/String;IJ)V" } : Jvm.MethodName) prog_16_method_1_code (6 : Nat) (Option.none : Option Jvm.ClassFile.FieldType)).before a0 Z = true := hw _ (List.mem_of_getElem? (i := 20) rfl)
theorem w21 {a0 : Array Value} {Z : State} (hw : oHw a0 Z) : (Jvm.Cond.methodLink sR (1 : Nat) ({ cls := sO, name := "<init>", desc := "()V" } : Jvm.MethodName)).before a0 Z = true := hw _ (List.mem_of_getElem? (i := 21) rfl)
theorem w22 {a0 : Array Value} {Z : State} (hw : oHw a0 Z) : (Jvm.Cond.instanceMethod ({ cls := sO, name := "<init>", desc := "()V" } : Jvm.MethodName)).before a0 Z = true := hw _ (List.mem_of_getElem? (i := 22) rfl)
theorem w23 {a0 : Array Value} {Z : State} (hw : oHw a0 Z) : (Jvm.Cond.code ({ cls := sO, name := "<init>", desc := "()V" } : Jvm.MethodName) object_method_1_code (1 : Nat) (Option.none : Option Jvm.ClassFile.FieldType)).before a0 Z = true := hw _ (List.mem_of_getElem? (i := 23) rfl)
theorem w24 {a0 : Array Value} {Z : State} (hw : oHw a0 Z) : (Jvm.Cond.fieldLink sR (7 : Nat) sR "declaration" sJ).before a0 Z = true := hw _ (List.mem_of_getElem? (i := 24) rfl)
theorem w25 {a0 : Array Value} {Z : State} (hw : oHw a0 Z) : (Jvm.Cond.laysFinal sR sR "declaration" sJ).before a0 Z = true := hw _ (List.mem_of_getElem? (i := 25) rfl)
theorem w26 {a0 : Array Value} {Z : State} (hw : oHw a0 Z) : (Jvm.Cond.fieldLink sR (13 : Nat) sR "name" "Ljava/lang/String;").before a0 Z = true := hw _ (List.mem_of_getElem? (i := 26) rfl)
theorem w27 {a0 : Array Value} {Z : State} (hw : oHw a0 Z) : (Jvm.Cond.laysFinal sR sR "name" "Ljava/lang/String;").before a0 Z = true := hw _ (List.mem_of_getElem? (i := 27) rfl)
theorem w28 {a0 : Array Value} {Z : State} (hw : oHw a0 Z) : (Jvm.Cond.fieldLink sR (17 : Nat) sR "bit" "J").before a0 Z = true := hw _ (List.mem_of_getElem? (i := 28) rfl)
theorem w29 {a0 : Array Value} {Z : State} (hw : oHw a0 Z) : (Jvm.Cond.laysFinal sR sR "bit" "J").before a0 Z = true := hw _ (List.mem_of_getElem? (i := 29) rfl)
theorem w30 {a0 : Array Value} {Z : State} (hw : oHw a0 Z) : (Jvm.Cond.fieldLink sR (21 : Nat) sR "conflicts" "J").before a0 Z = true := hw _ (List.mem_of_getElem? (i := 30) rfl)
theorem w31 {a0 : Array Value} {Z : State} (hw : oHw a0 Z) : (Jvm.Cond.laysFinal sR sR "conflicts" "J").before a0 Z = true := hw _ (List.mem_of_getElem? (i := 31) rfl)
theorem w32 {a0 : Array Value} {Z : State} (hw : oHw a0 Z) : (Jvm.Cond.classLink sR (24 : Nat) sF).before a0 Z = true := hw _ (List.mem_of_getElem? (i := 32) rfl)
theorem w33 {a0 : Array Value} {Z : State} (hw : oHw a0 Z) : (Jvm.Cond.instantiable sF (3 : Nat)).before a0 Z = true := hw _ (List.mem_of_getElem? (i := 33) rfl)
theorem w34 {a0 : Array Value} {Z : State} (hw : oHw a0 Z) : (Jvm.Cond.initialized sF).before a0 Z = true := hw _ (List.mem_of_getElem? (i := 34) rfl)
theorem w35 {a0 : Array Value} {Z : State} (hw : oHw a0 Z) : (Jvm.Cond.constantLong sR (28 : Nat) (-9223372036854775808 : Int64)).before a0 Z = true := hw _ (List.mem_of_getElem? (i := 35) rfl)
theorem w36 {a0 : Array Value} {Z : State} (hw : oHw a0 Z) : (Jvm.Cond.constantLong sR (30 : Nat) (9223372036854775807 : Int64)).before a0 Z = true := hw _ (List.mem_of_getElem? (i := 36) rfl)
theorem w37 {a0 : Array Value} {Z : State} (hw : oHw a0 Z) : (Jvm.Cond.methodLink sR (32 : Nat) ({ cls := sF, name := "<init>", desc := "(Lcom/example/orderloom/orderloom/RequestClass;JJ)V" } : Jvm.MethodName)).before a0 Z = true := hw _ (List.mem_of_getElem? (i := 37) rfl)
theorem w38 {a0 : Array Value} {Z : State} (hw : oHw a0 Z) : (Jvm.Cond.instanceMethod ({ cls := sF, name := "<init>", desc := "(Lcom/example/orderloom/orderloom/RequestClass;JJ)V" } : Jvm.MethodName)).before a0 Z = true := hw _ (List.mem_of_getElem? (i := 38) rfl)
theorem w39 {a0 : Array Value} {Z : State} (hw : oHw a0 Z) : (Jvm.Cond.code ({ cls := sF, name := "<init>", desc := "(Lcom/example/orderloom/orderloom/RequestClass;JJ)V" } : Jvm.MethodName) prog_11_method_1_code (6 : Nat) (Option.none : Option Jvm.ClassFile.FieldType)).before a0 Z = true := hw _ (List.mem_of_getElem? (i := 39) rfl)
theorem w40 {a0 : Array Value} {Z : State} (hw : oHw a0 Z) : (Jvm.Cond.methodLink sF (1 : Nat) ({ cls := sO, name := "<init>", desc := "()V" } : Jvm.MethodName)).before a0 Z = true := hw _ (List.mem_of_getElem? (i := 40) rfl)
theorem w41 {a0 : Array Value} {Z : State} (hw : oHw a0 Z) : (Jvm.Cond.fieldLink sF (7 : Nat) sF "requestClass" sK).before a0 Z = true := hw _ (List.mem_of_getElem? (i := 41) rfl)
theorem w42 {a0 : Array Value} {Z : State} (hw : oHw a0 Z) : (Jvm.Cond.laysFinal sF sF "requestClass" sK).before a0 Z = true := hw _ (List.mem_of_getElem? (i := 42) rfl)
theorem w43 {a0 : Array Value} {Z : State} (hw : oHw a0 Z) : (Jvm.Cond.fieldLink sF (13 : Nat) sF "firstKey" "J").before a0 Z = true := hw _ (List.mem_of_getElem? (i := 43) rfl)
theorem w44 {a0 : Array Value} {Z : State} (hw : oHw a0 Z) : (Jvm.Cond.laysFinal sF sF "firstKey" "J").before a0 Z = true := hw _ (List.mem_of_getElem? (i := 44) rfl)
theorem w45 {a0 : Array Value} {Z : State} (hw : oHw a0 Z) : (Jvm.Cond.fieldLink sF (17 : Nat) sF "lastKey" "J").before a0 Z = true := hw _ (List.mem_of_getElem? (i := 45) rfl)
theorem w46 {a0 : Array Value} {Z : State} (hw : oHw a0 Z) : (Jvm.Cond.laysFinal sF sF "lastKey" "J").before a0 Z = true := hw _ (List.mem_of_getElem? (i := 46) rfl)
theorem w47 {a0 : Array Value} {Z : State} (hw : oHw a0 Z) : (Jvm.Cond.fieldLink sR (35 : Nat) sR "allKeys" "Lcom/example/orderloom/orderloom/Footprint;").before a0 Z = true := hw _ (List.mem_of_getElem? (i := 47) rfl)
theorem w48 {a0 : Array Value} {Z : State} (hw : oHw a0 Z) : (Jvm.Cond.laysFinal sR sR "allKeys" "Lcom/example/orderloom/orderloom/Footprint;").before a0 Z = true := hw _ (List.mem_of_getElem? (i := 48) rfl)
theorem w49 {a0 : Array Value} {Z : State} (hw : oHw a0 Z) : (Jvm.Cond.stringLink sX (26 : Nat) "b").before a0 Z = true := hw _ (List.mem_of_getElem? (i := 49) rfl)
theorem w50 {a0 : Array Value} {Z : State} (hw : oHw a0 Z) : (Jvm.Cond.stringLink sX (28 : Nat) "c").before a0 Z = true := hw _ (List.mem_of_getElem? (i := 50) rfl)
theorem w51 {a0 : Array Value} {Z : State} (hw : oHw a0 Z) : (Jvm.Cond.stringLink sX (30 : Nat) "d").before a0 Z = true := hw _ (List.mem_of_getElem? (i := 51) rfl)
theorem w52 {a0 : Array Value} {Z : State} (hw : oHw a0 Z) : (Jvm.Cond.classLink sX (32 : Nat) sA).before a0 Z = true := hw _ (List.mem_of_getElem? (i := 52) rfl)
theorem w53 {a0 : Array Value} {Z : State} (hw : oHw a0 Z) : (Jvm.Cond.instantiable sA (3 : Nat)).before a0 Z = true := hw _ (List.mem_of_getElem? (i := 53) rfl)
theorem w54 {a0 : Array Value} {Z : State} (hw : oHw a0 Z) : (Jvm.Cond.initialized sA).before a0 Z = true := hw _ (List.mem_of_getElem? (i := 54) rfl)
theorem w55 {a0 : Array Value} {Z : State} (hw : oHw a0 Z) : (Jvm.Cond.methodLink sX (34 : Nat) ({ cls := sA, name := "<init>", desc := "()V" } : Jvm.MethodName)).before a0 Z = true := hw _ (List.mem_of_getElem? (i := 55) rfl)
theorem w56 {a0 : Array Value} {Z : State} (hw : oHw a0 Z) : (Jvm.Cond.instanceMethod ({ cls := sA, name := "<init>", desc := "()V" } : Jvm.MethodName)).before a0 Z = true := hw _ (List.mem_of_getElem? (i := 56) rfl)
theorem w57 {a0 : Array Value} {Z : State} (hw : oHw a0 Z) : (Jvm.Cond.code ({ cls := sA, name := "<init>", desc := "()V" } : Jvm.MethodName) jdk_38_method_2_code (1 : Nat) (Option.none : Option Jvm.ClassFile.FieldType)).before a0 Z = true := hw _ (List.mem_of_getElem? (i := 57) rfl)
theorem w58 {a0 : Array Value} {Z : State} (hw : oHw a0 Z) : (Jvm.Cond.methodLink sA (1 : Nat) ({ cls := "java/util/AbstractList", name := "<init>", desc := "()V" } : Jvm.MethodName)).before a0 Z = true := hw _ (List.mem_of_getElem? (i := 58) rfl)
theorem w59 {a0 : Array Value} {Z : State} (hw : oHw a0 Z) : (Jvm.Cond.instanceMethod ({ cls := "java/util/AbstractList", name := "<init>", desc := "()V" } : Jvm.MethodName)).before a0 Z = true := hw _ (List.mem_of_getElem? (i := 59) rfl)
theorem w62 {a0 : Array Value} {Z : State} (hw : oHw a0 Z) : (Jvm.Cond.initialized "java/util/AbstractList").before a0 Z = true := hw _ (List.mem_of_getElem? (i := 62) rfl)
theorem w63 {a0 : Array Value} {Z : State} (hw : oHw a0 Z) : (Jvm.Cond.code ({ cls := "java/util/AbstractList", name := "<init>", desc := "()V" } : Jvm.MethodName) jdk_39_method_1_code (1 : Nat) (Option.none : Option Jvm.ClassFile.FieldType)).before a0 Z = true := hw _ (List.mem_of_getElem? (i := 63) rfl)
theorem w64 {a0 : Array Value} {Z : State} (hw : oHw a0 Z) : (Jvm.Cond.methodLink "java/util/AbstractList" (1 : Nat) ({ cls := "java/util/AbstractCollection", name := "<init>", desc := "()V" } : Jvm.MethodName)).before a0 Z = true := hw _ (List.mem_of_getElem? (i := 64) rfl)
theorem w65 {a0 : Array Value} {Z : State} (hw : oHw a0 Z) : (Jvm.Cond.instanceMethod ({ cls := "java/util/AbstractCollection", name := "<init>", desc := "()V" } : Jvm.MethodName)).before a0 Z = true := hw _ (List.mem_of_getElem? (i := 65) rfl)
theorem w68 {a0 : Array Value} {Z : State} (hw : oHw a0 Z) : (Jvm.Cond.initialized "java/util/AbstractCollection").before a0 Z = true := hw _ (List.mem_of_getElem? (i := 68) rfl)
theorem w69 {a0 : Array Value} {Z : State} (hw : oHw a0 Z) : (Jvm.Cond.code ({ cls := "java/util/AbstractCollection", name := "<init>", desc := "()V" } : Jvm.MethodName) jdk_22_method_1_code (1 : Nat) (Option.none : Option Jvm.ClassFile.FieldType)).before a0 Z = true := hw _ (List.mem_of_getElem? (i := 69) rfl)
theorem w70 {a0 : Array Value} {Z : State} (hw : oHw a0 Z) : (Jvm.Cond.methodLink "java/util/AbstractCollection" (1 : Nat) ({ cls := sO, name := "<init>", desc := "()V" } : Jvm.MethodName)).before a0 Z = true := hw _ (List.mem_of_getElem? (i := 70) rfl)
theorem w71 {a0 : Array Value} {Z : State} (hw : oHw a0 Z) : (Jvm.Cond.fieldLink "java/util/AbstractList" (7 : Nat) "java/util/AbstractList" "modCount" "I").before a0 Z = true := hw _ (List.mem_of_getElem? (i := 71) rfl)
theorem w72 {a0 : Array Value} {Z : State} (hw : oHw a0 Z) : (Jvm.Cond.lays sA "java/util/AbstractList" "modCount" "I").before a0 Z = true := hw _ (List.mem_of_getElem? (i := 72) rfl)
theorem w73 {a0 : Array Value} {Z : State} (hw : oHw a0 Z) : (Jvm.Cond.fieldLink sA (39 : Nat) sA sD sG).before a0 Z = true := hw _ (List.mem_of_getElem? (i := 73) rfl)
theorem w74 {a0 : Array Value} {Z : State} (hw : oHw a0 Z) : (Jvm.Cond.fieldLink sA (9 : Nat) sA "elementData" sG).before a0 Z = true := hw _ (List.mem_of_getElem? (i := 74) rfl)
theorem w75 {a0 : Array Value} {Z : State} (hw : oHw a0 Z) : (Jvm.Cond.lays sA sA "elementData" sG).before a0 Z = true := hw _ (List.mem_of_getElem? (i := 75) rfl)
theorem w76 {a0 : Array Value} {Z : State} (hw : oHw a0 Z) : (Jvm.Cond.methodLink sX (35 : Nat) ({ cls := sR, name := "allKeys", desc := "()Lcom/example/orderloom/orderloom/Footprint;" } : Jvm.MethodName)).before a0 Z = true := hw _ (List.mem_of_getElem? (i := 76) rfl)
theorem w77 {a0 : Array Value} {Z : State} (hw : oHw a0 Z) : (Jvm.Cond.declares ({ cls := sR, name := "allKeys", desc := "()Lcom/example/orderloom/orderloom/Footprint;" } : Jvm.MethodName)).before a0 Z = true := hw _ (List.mem_of_getElem? (i := 77) rfl)
theorem w78 {a0 : Array Value} {Z : State} (hw : oHw a0 Z) : (Jvm.Cond.instanceMethod ({ cls := sR, name := "allKeys", desc := "()Lcom/example/orderloom/orderloom/Footprint;" } : Jvm.MethodName)).before a0 Z = true := hw _ (List.mem_of_getElem? (i := 78) rfl)
theorem w79 {a0 : Array Value} {Z : State} (hw : oHw a0 Z) : (Jvm.Cond.selects sR ({ cls := sR, name := "allKeys", desc := "()Lcom/example/orderloom/orderloom/Footprint;" } : Jvm.MethodName) ({ cls := sR, name := "allKeys", desc := "()Lcom/example/orderloom/orderloom/Footprint;" } : Jvm.MethodName)).before a0 Z = true := hw _ (List.mem_of_getElem? (i := 79) rfl)
theorem w80 {a0 : Array Value} {Z : State} (hw : oHw a0 Z) : (Jvm.Cond.code ({ cls := sR, name := "allKeys", desc := "()Lcom/example/orderloom/orderloom/Footprint;" } : Jvm.MethodName) prog_16_method_4_code (1 : Nat) (Option.some (Jvm.ClassFile.FieldType.object sF))).before a0 Z = true := hw _ (List.mem_of_getElem? (i := 80) rfl)
theorem w81 {a0 : Array Value} {Z : State} (hw : oHw a0 Z) : (Jvm.Cond.methodLink sX (39 : Nat) ({ cls := sL, name := "add", desc := "(Ljava/lang/Object;)Z" } : Jvm.MethodName)).before a0 Z = true := hw _ (List.mem_of_getElem? (i := 81) rfl)
theorem w82 {a0 : Array Value} {Z : State} (hw : oHw a0 Z) : (Jvm.Cond.declares ({ cls := sL, name := "add", desc := "(Ljava/lang/Object;)Z" } : Jvm.MethodName)).before a0 Z = true := hw _ (List.mem_of_getElem? (i := 82) rfl)
theorem w83 {a0 : Array Value} {Z : State} (hw : oHw a0 Z) : (Jvm.Cond.interfaceMethod sL sL "add" "(Ljava/lang/Object;)Z").before a0 Z = true := hw _ (List.mem_of_getElem? (i := 83) rfl)
theorem w84 {a0 : Array Value} {Z : State} (hw : oHw a0 Z) : (Jvm.Cond.selects sA ({ cls := sL, name := "add", desc := "(Ljava/lang/Object;)Z" } : Jvm.MethodName) ({ cls := sA, name := "add", desc := "(Ljava/lang/Object;)Z" } : Jvm.MethodName)).before a0 Z = true := hw _ (List.mem_of_getElem? (i := 84) rfl)
theorem w85 {a0 : Array Value} {Z : State} (hw : oHw a0 Z) : (Jvm.Cond.instanceMethod ({ cls := sA, name := "add", desc := "(Ljava/lang/Object;)Z" } : Jvm.MethodName)).before a0 Z = true := hw _ (List.mem_of_getElem? (i := 85) rfl)
theorem w86 {a0 : Array Value} {Z : State} (hw : oHw a0 Z) : (Jvm.Cond.publicMethod ({ cls := sA, name := "add", desc := "(Ljava/lang/Object;)Z" } : Jvm.MethodName)).before a0 Z = true := hw _ (List.mem_of_getElem? (i := 86) rfl)
theorem w87 {a0 : Array Value} {Z : State} (hw : oHw a0 Z) : (Jvm.Cond.unhidden sA "add" "(Ljava/lang/Object;)Z").before a0 Z = true := hw _ (List.mem_of_getElem? (i := 87) rfl)
theorem w88 {a0 : Array Value} {Z : State} (hw : oHw a0 Z) : (Jvm.Cond.castable sA sL).before a0 Z = true := hw _ (List.mem_of_getElem? (i := 88) rfl)
theorem w89 {a0 : Array Value} {Z : State} (hw : oHw a0 Z) : (Jvm.Cond.code ({ cls := sA, name := "add", desc := "(Ljava/lang/Object;)Z" } : Jvm.MethodName) jdk_38_method_25_code (2 : Nat) (Option.some Jvm.ClassFile.FieldType.boolean)).before a0 Z = true := hw _ (List.mem_of_getElem? (i := 89) rfl)
theorem w90 {a0 : Array Value} {Z : State} (hw : oHw a0 Z) : (Jvm.Cond.fieldLink sA (63 : Nat) sA "modCount" "I").before a0 Z = true := hw _ (List.mem_of_getElem? (i := 90) rfl)
theorem w91 {a0 : Array Value} {Z : State} (hw : oHw a0 Z) : (Jvm.Cond.sameField sA "java/util/AbstractList" "modCount" "I").before a0 Z = true := hw _ (List.mem_of_getElem? (i := 91) rfl)
theorem w92 {a0 : Array Value} {Z : State} (hw : oHw a0 Z) : (Jvm.Cond.fieldLink sA (48 : Nat) sA "size" "I").before a0 Z = true := hw _ (List.mem_of_getElem? (i := 92) rfl)
theorem w93 {a0 : Array Value} {Z : State} (hw : oHw a0 Z) : (Jvm.Cond.lays sA sA "size" "I").before a0 Z = true := hw _ (List.mem_of_getElem? (i := 93) rfl)
theorem w94 {a0 : Array Value} {Z : State} (hw : oHw a0 Z) : (Jvm.Cond.methodLink sA (131 : Nat) ({ cls := sA, name := "add", desc := "(Ljava/lang/Object;[Ljava/lang/Object;I)V" } : Jvm.MethodName)).before a0 Z = true := hw _ (List.mem_of_getElem? (i := 94) rfl)
theorem w95 {a0 : Array Value} {Z : State} (hw : oHw a0 Z) : (Jvm.Cond.instanceMethod ({ cls := sA, name := "add", desc := "(Ljava/lang/Object;[Ljava/lang/Object;I)V" } : Jvm.MethodName)).before a0 Z = true := hw _ (List.mem_of_getElem? (i := 95) rfl)
theorem w96 {a0 : Array Value} {Z : State} (hw : oHw a0 Z) : (Jvm.Cond.privateMethod ({ cls := sA, name := "add", desc := "(Ljava/lang/Object;[Ljava/lang/Object;I)V" } : Jvm.MethodName)).before a0 Z = true := hw _ (List.mem_of_getElem? (i := 96) rfl)
theorem w98 {a0 : Array Value} {Z : State} (hw : oHw a0 Z) : (Jvm.Cond.code ({ cls := sA, name := "add", desc := "(Ljava/lang/Object;[Ljava/lang/Object;I)V" } : Jvm.MethodName) jdk_38_method_24_code (4 : Nat) (Option.none : Option Jvm.ClassFile.FieldType)).before a0 Z = true := hw _ (List.mem_of_getElem? (i := 98) rfl)
theorem w99 {a0 : Array Value} {Z : State} (hw : oHw a0 Z) : (Jvm.Cond.methodLink sA (129 : Nat) ({ cls := sA, name := "grow", desc := "()[Ljava/lang/Object;" } : Jvm.MethodName)).before a0 Z = true := hw _ (List.mem_of_getElem? (i := 99) rfl)
theorem w100 {a0 : Array Value} {Z : State} (hw : oHw a0 Z) : (Jvm.Cond.instanceMethod ({ cls := sA, name := "grow", desc := "()[Ljava/lang/Object;" } : Jvm.MethodName)).before a0 Z = true := hw _ (List.mem_of_getElem? (i := 100) rfl)
theorem w101 {a0 : Array Value} {Z : State} (hw : oHw a0 Z) : (Jvm.Cond.privateMethod ({ cls := sA, name := "grow", desc := "()[Ljava/lang/Object;" } : Jvm.MethodName)).before a0 Z = true := hw _ (List.mem_of_getElem? (i := 101) rfl)
theorem w103 {a0 : Array Value} {Z : State} (hw : oHw a0 Z) : (Jvm.Cond.code ({ cls := sA, name := "grow", desc := "()[Ljava/lang/Object;" } : Jvm.MethodName) jdk_38_method_7_code (1 : Nat) (Option.some (Jvm.ClassFile.FieldType.array (Jvm.ClassFile.FieldType.object sO)))).before a0 Z = true := hw _ (List.mem_of_getElem? (i := 103) rfl)
theorem w104 {a0 : Array Value} {Z : State} (hw : oHw a0 Z) : (Jvm.Cond.methodLink sA (69 : Nat) ({ cls := sA, name := "grow", desc := "(I)[Ljava/lang/Object;" } : Jvm.MethodName)).before a0 Z = true := hw _ (List.mem_of_getElem? (i := 104) rfl)
theorem w105 {a0 : Array Value} {Z : State} (hw : oHw a0 Z) : (Jvm.Cond.instanceMethod ({ cls := sA, name := "grow", desc := "(I)[Ljava/lang/Object;" } : Jvm.MethodName)).before a0 Z = true := hw _ (List.mem_of_getElem? (i := 105) rfl)
theorem w106 {a0 : Array Value} {Z : State} (hw : oHw a0 Z) : (Jvm.Cond.privateMethod ({ cls := sA, name := "grow", desc := "(I)[Ljava/lang/Object;" } : Jvm.MethodName)).before a0 Z = true := hw _ (List.mem_of_getElem? (i := 106) rfl)
theorem w108 {a0 : Array Value} {Z : State} (hw : oHw a0 Z) : (Jvm.Cond.code ({ cls := sA, name := "grow", desc := "(I)[Ljava/lang/Object;" } : Jvm.MethodName) jdk_38_method_6_code (4 : Nat) (Option.some (Jvm.ClassFile.FieldType.array (Jvm.ClassFile.FieldType.object sO)))).before a0 Z = true := hw _ (List.mem_of_getElem? (i := 108) rfl)
theorem w109 {a0 : Array Value} {Z : State} (hw : oHw a0 Z) : (Jvm.Cond.methodLink sA (79 : Nat) ({ cls := "java/lang/Math", name := "max", desc := "(II)I" } : Jvm.MethodName)).before a0 Z = true := hw _ (List.mem_of_getElem? (i := 109) rfl)
theorem w110 {a0 : Array Value} {Z : State} (hw : oHw a0 Z) : (Jvm.Cond.static ({ cls := "java/lang/Math", name := "max", desc := "(II)I" } : Jvm.MethodName)).before a0 Z = true := hw _ (List.mem_of_getElem? (i := 110) rfl)
theorem w111 {a0 : Array Value} {Z : State} (hw : oHw a0 Z) : (Jvm.Cond.initialized "java/lang/Math").before a0 Z = true := hw _ (List.mem_of_getElem? (i := 111) rfl)
theorem w112 {a0 : Array Value} {Z : State} (hw : oHw a0 Z) : (Jvm.Cond.code ({ cls := "java/lang/Math", name := "max", desc := "(II)I" } : Jvm.MethodName) jdk_29_method_65_code (2 : Nat) (Option.some Jvm.ClassFile.FieldType.int)).before a0 Z = true := hw _ (List.mem_of_getElem? (i := 112) rfl)
theorem w113 {a0 : Array Value} {Z : State} (hw : oHw a0 Z) : (Jvm.Cond.classLink sA (7 : Nat) sO).before a0 Z = true := hw _ (List.mem_of_getElem? (i := 113) rfl)
theorem w114 {a0 : Array Value} {Z : State} (hw : oHw a0 Z) : (Jvm.Cond.arrayOver (Jvm.ClassFile.FieldType.object sO)).before a0 Z = true := hw _ (List.mem_of_getElem? (i := 114) rfl)
theorem w115 {a0 : Array Value} {Z : State} (hw : oHw a0 Z) : (Jvm.Cond.castable sF sO).before a0 Z = true := hw _ (List.mem_of_getElem? (i := 115) rfl)
theorem w116 {a0 : Array Value} {Z : State} (hw : oHw a0 Z) : (Jvm.Cond.classLink sX (45 : Nat) sP).before a0 Z = true := hw _ (List.mem_of_getElem? (i := 116) rfl)
theorem w117 {a0 : Array Value} {Z : State} (hw : oHw a0 Z) : (Jvm.Cond.instantiable sP (3 : Nat)).before a0 Z = true := hw _ (List.mem_of_getElem? (i := 117) rfl)
theorem w118 {a0 : Array Value} {Z : State} (hw : oHw a0 Z) : (Jvm.Cond.initialized sP).before a0 Z = true := hw _ (List.mem_of_getElem? (i := 118) rfl)
theorem w119 {a0 : Array Value} {Z : State} (hw : oHw a0 Z) : (Jvm.Cond.methodLink sX (47 : Nat) ({ cls := sP, name := "<init>", desc := "(Ljava/util/List;I)V" } : Jvm.MethodName)).before a0 Z = true := hw _ (List.mem_of_getElem? (i := 119) rfl)
theorem w120 {a0 : Array Value} {Z : State} (hw : oHw a0 Z) : (Jvm.Cond.instanceMethod ({ cls := sP, name := "<init>", desc := "(Ljava/util/List;I)V" } : Jvm.MethodName)).before a0 Z = true := hw _ (List.mem_of_getElem? (i := 120) rfl)
theorem w121 {a0 : Array Value} {Z : State} (hw : oHw a0 Z) : (Jvm.Cond.code ({ cls := sP, name := "<init>", desc := "(Ljava/util/List;I)V" } : Jvm.MethodName) prog_13_method_1_code (8 : Nat) (Option.none : Option Jvm.ClassFile.FieldType)).before a0 Z = true := hw _ (List.mem_of_getElem? (i := 121) rfl)
theorem w122 {a0 : Array Value} {Z : State} (hw : oHw a0 Z) : (Jvm.Cond.methodLink sP (1 : Nat) ({ cls := sO, name := "<init>", desc := "()V" } : Jvm.MethodName)).before a0 Z = true := hw _ (List.mem_of_getElem? (i := 122) rfl)
theorem w123 {a0 : Array Value} {Z : State} (hw : oHw a0 Z) : (Jvm.Cond.fieldLink sP (7 : Nat) sP "span" "I").before a0 Z = true := hw _ (List.mem_of_getElem? (i := 123) rfl)
theorem w124 {a0 : Array Value} {Z : State} (hw : oHw a0 Z) : (Jvm.Cond.laysFinal sP sP "span" "I").before a0 Z = true := hw _ (List.mem_of_getElem? (i := 124) rfl)
theorem w125 {a0 : Array Value} {Z : State} (hw : oHw a0 Z) : (Jvm.Cond.fieldLink sP (15 : Nat) sP "words" "I").before a0 Z = true := hw _ (List.mem_of_getElem? (i := 125) rfl)
theorem w126 {a0 : Array Value} {Z : State} (hw : oHw a0 Z) : (Jvm.Cond.laysFinal sP sP "words" "I").before a0 Z = true := hw _ (List.mem_of_getElem? (i := 126) rfl)
theorem w127 {a0 : Array Value} {Z : State} (hw : oHw a0 Z) : (Jvm.Cond.methodLink sP (18 : Nat) ({ cls := sL, name := "size", desc := "()I" } : Jvm.MethodName)).before a0 Z = true := hw _ (List.mem_of_getElem? (i := 127) rfl)
theorem w128 {a0 : Array Value} {Z : State} (hw : oHw a0 Z) : (Jvm.Cond.declares ({ cls := sL, name := "size", desc := "()I" } : Jvm.MethodName)).before a0 Z = true := hw _ (List.mem_of_getElem? (i := 128) rfl)
theorem w129 {a0 : Array Value} {Z : State} (hw : oHw a0 Z) : (Jvm.Cond.interfaceMethod sL sL "size" "()I").before a0 Z = true := hw _ (List.mem_of_getElem? (i := 129) rfl)
theorem w130 {a0 : Array Value} {Z : State} (hw : oHw a0 Z) : (Jvm.Cond.selects sA ({ cls := sL, name := "size", desc := "()I" } : Jvm.MethodName) ({ cls := sA, name := "size", desc := "()I" } : Jvm.MethodName)).before a0 Z = true := hw _ (List.mem_of_getElem? (i := 130) rfl)
theorem w131 {a0 : Array Value} {Z : State} (hw : oHw a0 Z) : (Jvm.Cond.instanceMethod ({ cls := sA, name := "size", desc := "()I" } : Jvm.MethodName)).before a0 Z = true := hw _ (List.mem_of_getElem? (i := 131) rfl)
theorem w132 {a0 : Array Value} {Z : State} (hw : oHw a0 Z) : (Jvm.Cond.publicMethod ({ cls := sA, name := "size", desc := "()I" } : Jvm.MethodName)).before a0 Z = true := hw _ (List.mem_of_getElem? (i := 132) rfl)
theorem w133 {a0 : Array Value} {Z : State} (hw : oHw a0 Z) : (Jvm.Cond.unhidden sA "size" "()I").before a0 Z = true := hw _ (List.mem_of_getElem? (i := 133) rfl)
theorem w134 {a0 : Array Value} {Z : State} (hw : oHw a0 Z) : (Jvm.Cond.code ({ cls := sA, name := "size", desc := "()I" } : Jvm.MethodName) jdk_38_method_8_code (1 : Nat) (Option.some Jvm.ClassFile.FieldType.int)).before a0 Z = true := hw _ (List.mem_of_getElem? (i := 134) rfl)
theorem w135 {a0 : Array Value} {Z : State} (hw : oHw a0 Z) : (Jvm.Cond.constantLong sP (26 : Nat) (2147483639 : Int64)).before a0 Z = true := hw _ (List.mem_of_getElem? (i := 135) rfl)
theorem w136 {a0 : Array Value} {Z : State} (hw : oHw a0 Z) : (Jvm.Cond.arrayClass Jvm.ClassFile.FieldType.long).before a0 Z = true := hw _ (List.mem_of_getElem? (i := 136) rfl)
theorem w137 {a0 : Array Value} {Z : State} (hw : oHw a0 Z) : (Jvm.Cond.fieldLink sP (37 : Nat) sP "bits" "[J").before a0 Z = true := hw _ (List.mem_of_getElem? (i := 137) rfl)
theorem w138 {a0 : Array Value} {Z : State} (hw : oHw a0 Z) : (Jvm.Cond.laysFinal sP sP "bits" "[J").before a0 Z = true := hw _ (List.mem_of_getElem? (i := 138) rfl)
theorem w139 {a0 : Array Value} {Z : State} (hw : oHw a0 Z) : (Jvm.Cond.methodLink sP (41 : Nat) ({ cls := sL, name := "get", desc := "(I)Ljava/lang/Object;" } : Jvm.MethodName)).before a0 Z = true := hw _ (List.mem_of_getElem? (i := 139) rfl)
theorem w140 {a0 : Array Value} {Z : State} (hw : oHw a0 Z) : (Jvm.Cond.declares ({ cls := sL, name := "get", desc := "(I)Ljava/lang/Object;" } : Jvm.MethodName)).before a0 Z = true := hw _ (List.mem_of_getElem? (i := 140) rfl)
theorem w141 {a0 : Array Value} {Z : State} (hw : oHw a0 Z) : (Jvm.Cond.interfaceMethod sL sL "get" "(I)Ljava/lang/Object;").before a0 Z = true := hw _ (List.mem_of_getElem? (i := 141) rfl)
theorem w142 {a0 : Array Value} {Z : State} (hw : oHw a0 Z) : (Jvm.Cond.selects sA ({ cls := sL, name := "get", desc := "(I)Ljava/lang/Object;" } : Jvm.MethodName) ({ cls := sA, name := "get", desc := "(I)Ljava/lang/Object;" } : Jvm.MethodName)).before a0 Z = true := hw _ (List.mem_of_getElem? (i := 142) rfl)
theorem w143 {a0 : Array Value} {Z : State} (hw : oHw a0 Z) : (Jvm.Cond.instanceMethod ({ cls := sA, name := "get", desc := "(I)Ljava/lang/Object;" } : Jvm.MethodName)).before a0 Z = true := hw _ (List.mem_of_getElem? (i := 143) rfl)
theorem w144 {a0 : Array Value} {Z : State} (hw : oHw a0 Z) : (Jvm.Cond.publicMethod ({ cls := sA, name := "get", desc := "(I)Ljava/lang/Object;" } : Jvm.MethodName)).before a0 Z = true := hw _ (List.mem_of_getElem? (i := 144) rfl)
theorem w145 {a0 : Array Value} {Z : State} (hw : oHw a0 Z) : (Jvm.Cond.unhidden sA "get" "(I)Ljava/lang/Object;").before a0 Z = true := hw _ (List.mem_of_getElem? (i := 145) rfl)
theorem w146 {a0 : Array Value} {Z : State} (hw : oHw a0 Z) : (Jvm.Cond.code ({ cls := sA, name := "get", desc := "(I)Ljava/lang/Object;" } : Jvm.MethodName) jdk_38_method_20_code (2 : Nat) (Option.some (Jvm.ClassFile.FieldType.object sO))).before a0 Z = true := hw _ (List.mem_of_getElem? (i := 146) rfl)
theorem w147 {a0 : Array Value} {Z : State} (hw : oHw a0 Z) : (Jvm.Cond.methodLink sA (118 : Nat) ({ cls := "java/util/Objects", name := "checkIndex", desc := "(II)I" } : Jvm.MethodName)).before a0 Z = true := hw _ (List.mem_of_getElem? (i := 147) rfl)
theorem w148 {a0 : Array Value} {Z : State} (hw : oHw a0 Z) : (Jvm.Cond.static ({ cls := "java/util/Objects", name := "checkIndex", desc := "(II)I" } : Jvm.MethodName)).before a0 Z = true := hw _ (List.mem_of_getElem? (i := 148) rfl)
theorem w149 {a0 : Array Value} {Z : State} (hw : oHw a0 Z) : (Jvm.Cond.initialized "java/util/Objects").before a0 Z = true := hw _ (List.mem_of_getElem? (i := 149) rfl)
theorem w150 {a0 : Array Value} {Z : State} (hw : oHw a0 Z) : (Jvm.Cond.code ({ cls := "java/util/Objects", name := "checkIndex", desc := "(II)I" } : Jvm.MethodName) jdk_31_method_17_code (2 : Nat) (Option.some Jvm.ClassFile.FieldType.int)).before a0 Z = true := hw _ (List.mem_of_getElem? (i := 150) rfl)
theorem w151 {a0 : Array Value} {Z : State} (hw : oHw a0 Z) : (Jvm.Cond.methodLink "java/util/Objects" (105 : Nat) ({ cls := "jdk/internal/util/Preconditions", name := "checkIndex", desc := "(IILjava/util/function/BiFunction;)I" } : Jvm.MethodName)).before a0 Z = true := hw _ (List.mem_of_getElem? (i := 151) rfl)
theorem w152 {a0 : Array Value} {Z : State} (hw : oHw a0 Z) : (Jvm.Cond.static ({ cls := "jdk/internal/util/Preconditions", name := "checkIndex", desc := "(IILjava/util/function/BiFunction;)I" } : Jvm.MethodName)).before a0 Z = true := hw _ (List.mem_of_getElem? (i := 152) rfl)
theorem w153 {a0 : Array Value} {Z : State} (hw : oHw a0 Z) : (Jvm.Cond.initialized "jdk/internal/util/Preconditions").before a0 Z = true := hw _ (List.mem_of_getElem? (i := 153) rfl)
theorem w154 {a0 : Array Value} {Z : State} (hw : oHw a0 Z) : (Jvm.Cond.code ({ cls := "jdk/internal/util/Preconditions", name := "checkIndex", desc := "(IILjava/util/function/BiFunction;)I" } : Jvm.MethodName) jdk_41_method_11_code (3 : Nat) (Option.some Jvm.ClassFile.FieldType.int)).before a0 Z = true := hw _ (List.mem_of_getElem? (i := 154) rfl)
theorem w155 {a0 : Array Value} {Z : State} (hw : oHw a0 Z) : (Jvm.Cond.methodLink sA (123 : Nat) ({ cls := sA, name := "elementData", desc := "(I)Ljava/lang/Object;" } : Jvm.MethodName)).before a0 Z = true := hw _ (List.mem_of_getElem? (i := 155) rfl)
theorem w156 {a0 : Array Value} {Z : State} (hw : oHw a0 Z) : (Jvm.Cond.declares ({ cls := sA, name := "elementData", desc := "(I)Ljava/lang/Object;" } : Jvm.MethodName)).before a0 Z = true := hw _ (List.mem_of_getElem? (i := 156) rfl)
theorem w157 {a0 : Array Value} {Z : State} (hw : oHw a0 Z) : (Jvm.Cond.instanceMethod ({ cls := sA, name := "elementData", desc := "(I)Ljava/lang/Object;" } : Jvm.MethodName)).before a0 Z = true := hw _ (List.mem_of_getElem? (i := 157) rfl)
theorem w158 {a0 : Array Value} {Z : State} (hw : oHw a0 Z) : (Jvm.Cond.selects sA ({ cls := sA, name := "elementData", desc := "(I)Ljava/lang/Object;" } : Jvm.MethodName) ({ cls := sA, name := "elementData", desc := "(I)Ljava/lang/Object;" } : Jvm.MethodName)).before a0 Z = true := hw _ (List.mem_of_getElem? (i := 158) rfl)
theorem w159 {a0 : Array Value} {Z : State} (hw : oHw a0 Z) : (Jvm.Cond.code ({ cls := sA, name := "elementData", desc := "(I)Ljava/lang/Object;" } : Jvm.MethodName) jdk_38_method_18_code (2 : Nat) (Option.some (Jvm.ClassFile.FieldType.object sO))).before a0 Z = true := hw _ (List.mem_of_getElem? (i := 159) rfl)
theorem w160 {a0 : Array Value} {Z : State} (hw : oHw a0 Z) : (Jvm.Cond.classLink sP (45 : Nat) sF).before a0 Z = true := hw _ (List.mem_of_getElem? (i := 160) rfl)
theorem w162 {a0 : Array Value} {Z : State} (hw : oHw a0 Z) : (Jvm.Cond.methodLink sP (47 : Nat) ({ cls := "java/lang/Math", name := "min", desc := "(II)I" } : Jvm.MethodName)).before a0 Z = true := hw _ (List.mem_of_getElem? (i := 162) rfl)
theorem w163 {a0 : Array Value} {Z : State} (hw : oHw a0 Z) : (Jvm.Cond.static ({ cls := "java/lang/Math", name := "min", desc := "(II)I" } : Jvm.MethodName)).before a0 Z = true := hw _ (List.mem_of_getElem? (i := 163) rfl)
theorem w164 {a0 : Array Value} {Z : State} (hw : oHw a0 Z) : (Jvm.Cond.code ({ cls := "java/lang/Math", name := "min", desc := "(II)I" } : Jvm.MethodName) jdk_29_method_69_code (2 : Nat) (Option.some Jvm.ClassFile.FieldType.int)).before a0 Z = true := hw _ (List.mem_of_getElem? (i := 164) rfl)
theorem w165 {a0 : Array Value} {Z : State} (hw : oHw a0 Z) : (Jvm.Cond.constant sX (50 : Nat) (2147483647 : Int32)).before a0 Z = true := hw _ (List.mem_of_getElem? (i := 165) rfl)
theorem w166 {a0 : Array Value} {Z : State} (hw : oHw a0 Z) : (Jvm.Cond.methodLink sP (53 : Nat) ({ cls := sP, name := "follows", desc := "(II)Z" } : Jvm.MethodName)).before a0 Z = true := hw _ (List.mem_of_getElem? (i := 166) rfl)
theorem w167 {a0 : Array Value} {Z : State} (hw : oHw a0 Z) : (Jvm.Cond.declares ({ cls := sP, name := "follows", desc := "(II)Z" } : Jvm.MethodName)).before a0 Z = true := hw _ (List.mem_of_getElem? (i := 167) rfl)
theorem w168 {a0 : Array Value} {Z : State} (hw : oHw a0 Z) : (Jvm.Cond.instanceMethod ({ cls := sP, name := "follows", desc := "(II)Z" } : Jvm.MethodName)).before a0 Z = true := hw _ (List.mem_of_getElem? (i := 168) rfl)
theorem w169 {a0 : Array Value} {Z : State} (hw : oHw a0 Z) : (Jvm.Cond.selects sP ({ cls := sP, name := "follows", desc := "(II)Z" } : Jvm.MethodName) ({ cls := sP, name := "follows", desc := "(II)Z" } : Jvm.MethodName)).before a0 Z = true := hw _ (List.mem_of_getElem? (i := 169) rfl)
theorem w170 {a0 : Array Value} {Z : State} (hw : oHw a0 Z) : (Jvm.Cond.code ({ cls := sP, name := "follows", desc := "(II)Z" } : Jvm.MethodName) prog_13_method_2_code (4 : Nat) (Option.some Jvm.ClassFile.FieldType.boolean)).before a0 Z = true := hw _ (List.mem_of_getElem? (i := 170) rfl)
theorem w171 {a0 : Array Value} {Z : State} (hw : oHw a0 Z) : (Jvm.Cond.methodLink sP (57 : Nat) ({ cls := sF, name := "conflictsWith", desc := "(Lcom/example/orderloom/orderloom/Footprint;)Z" } : Jvm.MethodName)).before a0 Z = true := hw _ (List.mem_of_getElem? (i := 171) rfl)
theorem w172 {a0 : Array Value} {Z : State} (hw : oHw a0 Z) : (Jvm.Cond.declares ({ cls := sF, name := "conflictsWith", desc := "(Lcom/example/orderloom/orderloom/Footprint;)Z" } : Jvm.MethodName)).before a0 Z = true := hw _ (List.mem_of_getElem? (i := 172) rfl)
theorem w173 {a0 : Array Value} {Z : State} (hw : oHw a0 Z) : (Jvm.Cond.instanceMethod ({ cls := sF, name := "conflictsWith", desc := "(Lcom/example/orderloom/orderloom/Footprint;)Z" } : Jvm.MethodName)).before a0 Z = true := hw _ (List.mem_of_getElem? (i := 173) rfl)
theorem w174 {a0 : Array Value} {Z : State} (hw : oHw a0 Z) : (Jvm.Cond.selects sF ({ cls := sF, name := "conflictsWith", desc := "(Lcom/example/orderloom/orderloom/Footprint;)Z" } : Jvm.MethodName) ({ cls := sF, name := "conflictsWith", desc := "(Lcom/example/orderloom/orderloom/Footprint;)Z" } : Jvm.MethodName)).before a0 Z = true := hw _ (List.mem_of_getElem? (i := 174) rfl)
theorem w175 {a0 : Array Value} {Z : State} (hw : oHw a0 Z) : (Jvm.Cond.code ({ cls := sF, name := "conflictsWith", desc := "(Lcom/example/orderloom/orderloom/Footprint;)Z" } : Jvm.MethodName) prog_11_method_3_code (2 : Nat) (Option.some Jvm.ClassFile.FieldType.boolean)).before a0 Z = true := hw _ (List.mem_of_getElem? (i := 175) rfl)
theorem w176 {a0 : Array Value} {Z : State} (hw : oHw a0 Z) : (Jvm.Cond.methodLink sF (20 : Nat) ({ cls := sR, name := "requireSameDeclaration", desc := "(Lcom/example/orderloom/orderloom/RequestClass;)V" } : Jvm.MethodName)).before a0 Z = true := hw _ (List.mem_of_getElem? (i := 176) rfl)
theorem w177 {a0 : Array Value} {Z : State} (hw : oHw a0 Z) : (Jvm.Cond.declares ({ cls := sR, name := "requireSameDeclaration", desc := "(Lcom/example/orderloom/orderloom/RequestClass;)V" } : Jvm.MethodName)).before a0 Z = true := hw _ (List.mem_of_getElem? (i := 177) rfl)
theorem w178 {a0 : Array Value} {Z : State} (hw : oHw a0 Z) : (Jvm.Cond.instanceMethod ({ cls := sR, name := "requireSameDeclaration", desc := "(Lcom/example/orderloom/orderloom/RequestClass;)V" } : Jvm.MethodName)).before a0 Z = true := hw _ (List.mem_of_getElem? (i := 178) rfl)
theorem w179 {a0 : Array Value} {Z : State} (hw : oHw a0 Z) : (Jvm.Cond.selects sR ({ cls := sR, name := "requireSameDeclaration", desc := "(Lcom/example/orderloom/orderloom/RequestClass;)V" } : Jvm.MethodName) ({ cls := sR, name := "requireSameDeclaration", desc := "(Lcom/example/orderloom/orderloom/RequestClass;)V" } : Jvm.MethodName)).before a0 Z = true := hw _ (List.mem_of_getElem? (i := 179) rfl)
theorem w180 {a0 : Array Value} {Z : State} (hw : oHw a0 Z) : (Jvm.Cond.code ({ cls := sR, name := "requireSameDeclaration", desc := "(Lcom/example/orderloom/orderloom/RequestClass;)V" } : Jvm.MethodName) prog_16_method_7_code (2 : Nat) (Option.none : Option Jvm.ClassFile.FieldType)).before a0 Z = true := hw _ (List.mem_of_getElem? (i := 180) rfl)
theorem w181 {a0 : Array Value} {Z : State} (hw : oHw a0 Z) : (Jvm.Cond.methodLink sF (26 : Nat) ({ cls := sR, name := "conflicts", desc := "()J" } : Jvm.MethodName)).before a0 Z = true := hw _ (List.mem_of_getElem? (i := 181) rfl)
theorem w182 {a0 : Array Value} {Z : State} (hw : oHw a0 Z) : (Jvm.Cond.declares ({ cls := sR, name := "conflicts", desc := "()J" } : Jvm.MethodName)).before a0 Z = true := hw _ (List.mem_of_getElem? (i := 182) rfl)
theorem w183 {a0 : Array Value} {Z : State} (hw : oHw a0 Z) : (Jvm.Cond.instanceMethod ({ cls := sR, name := "conflicts", desc := "()J" } : Jvm.MethodName)).before a0 Z = true := hw _ (List.mem_of_getElem? (i := 183) rfl)
theorem w184 {a0 : Array Value} {Z : State} (hw : oHw a0 Z) : (Jvm.Cond.selects sR ({ cls := sR, name := "conflicts", desc := "()J" } : Jvm.MethodName) ({ cls := sR, name := "conflicts", desc := "()J" } : Jvm.MethodName)).before a0 Z = true := hw _ (List.mem_of_getElem? (i := 184) rfl)
theorem w185 {a0 : Array Value} {Z : State} (hw : oHw a0 Z) : (Jvm.Cond.code ({ cls := sR, name := "conflicts", desc := "()J" } : Jvm.MethodName) prog_16_method_9_code (1 : Nat) (Option.some Jvm.ClassFile.FieldType.long)).before a0 Z = true := hw _ (List.mem_of_getElem? (i := 185) rfl)
theorem w186 {a0 : Array Value} {Z : State} (hw : oHw a0 Z) : (Jvm.Cond.methodLink sF (30 : Nat) ({ cls := sR, name := "bit", desc := "()J" } : Jvm.MethodName)).before a0 Z = true := hw _ (List.mem_of_getElem? (i := 186) rfl)
theorem w187 {a0 : Array Value} {Z : State} (hw : oHw a0 Z) : (Jvm.Cond.declares ({ cls := sR, name := "bit", desc := "()J" } : Jvm.MethodName)).before a0 Z = true := hw _ (List.mem_of_getElem? (i := 187) rfl)
theorem w188 {a0 : Array Value} {Z : State} (hw : oHw a0 Z) : (Jvm.Cond.instanceMethod ({ cls := sR, name := "bit", desc := "()J" } : Jvm.MethodName)).before a0 Z = true := hw _ (List.mem_of_getElem? (i := 188) rfl)
theorem w189 {a0 : Array Value} {Z : State} (hw : oHw a0 Z) : (Jvm.Cond.selects sR ({ cls := sR, name := "bit", desc := "()J" } : Jvm.MethodName) ({ cls := sR, name := "bit", desc := "()J" } : Jvm.MethodName)).before a0 Z = true := hw _ (List.mem_of_getElem? (i := 189) rfl)
theorem w190 {a0 : Array Value} {Z : State} (hw : oHw a0 Z) : (Jvm.Cond.code ({ cls := sR, name := "bit", desc := "()J" } : Jvm.MethodName) prog_16_method_8_code (1 : Nat) (Option.some Jvm.ClassFile.FieldType.long)).before a0 Z = true := hw _ (List.mem_of_getElem? (i := 190) rfl)
theorem w191 {a0 : Array Value} {Z : State} (hw : oHw a0 Z) : (Jvm.Cond.methodLink sF (33 : Nat) ({ cls := sF, name := "conflict", desc := "(JJJJJJ)Z" } : Jvm.MethodName)).before a0 Z = true := hw _ (List.mem_of_getElem? (i := 191) rfl)
theorem w192 {a0 : Array Value} {Z : State} (hw : oHw a0 Z) : (Jvm.Cond.static ({ cls := sF, name := "conflict", desc := "(JJJJJJ)Z" } : Jvm.MethodName)).before a0 Z = true := hw _ (List.mem_of_getElem? (i := 192) rfl)
theorem w193 {a0 : Array Value} {Z : State} (hw : oHw a0 Z) : (Jvm.Cond.code ({ cls := sF, name := "conflict", desc := "(JJJJJJ)Z" } : Jvm.MethodName) prog_11_method_6_code (12 : Nat) (Option.some Jvm.ClassFile.FieldType.boolean)).before a0 Z = true := hw _ (List.mem_of_getElem? (i := 193) rfl)
theorem w194 {a0 : Array Value} {Z : State} (hw : oHw a0 Z) : (Jvm.Cond.methodLink sF (37 : Nat) ({ cls := sF, name := "overlap", desc := "(JJJJ)Z" } : Jvm.MethodName)).before a0 Z = true := hw _ (List.mem_of_getElem? (i := 194) rfl)
theorem w195 {a0 : Array Value} {Z : State} (hw : oHw a0 Z) : (Jvm.Cond.static ({ cls := sF, name := "overlap", desc := "(JJJJ)Z" } : Jvm.MethodName)).before a0 Z = true := hw _ (List.mem_of_getElem? (i := 195) rfl)
theorem w196 {a0 : Array Value} {Z : State} (hw : oHw a0 Z) : (Jvm.Cond.code ({ cls := sF, name := "overlap", desc := "(JJJJ)Z" } : Jvm.MethodName) prog_11_method_7_code (8 : Nat) (Option.some Jvm.ClassFile.FieldType.boolean)).before a0 Z = true := hw _ (List.mem_of_getElem? (i := 196) rfl)
theorem w197 {a0 : Array Value} {Z : State} (hw : oHw a0 Z) : (Jvm.Cond.methodLink sP (61 : Nat) ({ cls := sP, name := "followAlong", desc := "(II)V" } : Jvm.MethodName)).before a0 Z = true := hw _ (List.mem_of_getElem? (i := 197) rfl)
theorem w198 {a0 : Array Value} {Z : State} (hw : oHw a0 Z) : (Jvm.Cond.instanceMethod ({ cls := sP, name := "followAlong", desc := "(II)V" } : Jvm.MethodName)).before a0 Z = true := hw _ (List.mem_of_getElem? (i := 198) rfl)
theorem w199 {a0 : Array Value} {Z : State} (hw : oHw a0 Z) : (Jvm.Cond.privateMethod ({ cls := sP, name := "followAlong", desc := "(II)V" } : Jvm.MethodName)).before a0 Z = true := hw _ (List.mem_of_getElem? (i := 199) rfl)
theorem w200 {a0 : Array Value} {Z : State} (hw : oHw a0 Z) : (Jvm.Cond.code ({ cls := sP, name := "followAlong", desc := "(II)V" } : Jvm.MethodName) prog_13_method_3_code (11 : Nat) (Option.none : Option Jvm.ClassFile.FieldType)).before a0 Z = true := hw _ (List.mem_of_getElem? (i := 200) rfl)
theorem w201 {a0 : Array Value} {Z : State} (hw : oHw a0 Z) : (Jvm.Cond.methodLink sX (51 : Nat) ({ cls := sP, name := "follows", desc := "(II)Z" } : Jvm.MethodName)).before a0 Z = true := hw _ (List.mem_of_getElem? (i := 201) rfl)
theorem ef_1 (m : MethodId) (x0 : Int32) (x1 : Int32) : entryFrame m #[.int x0, .int x1] 2 = mkF m 0 #[.val (.int x0), .val (.int x1)] [] := by first | (simp [entryFrame, mkF, argsToLocals, Value.category]; done) | rfl
theorem pn_247139 : plainName sX = true := by first | (simp [plainName, overriddenIn]; done) | decide +kernel
def fEdge (e0 : Int32) (i0 : Int32) : Int64 := ((((e0.toUInt32 >>> (i0 &&& 31).toUInt32).toInt32).toInt64) &&& (1 : Int64))
theorem fEdge_def (e0 : Int32) (i0 : Int32) : fEdge e0 i0 = ((((e0.toUInt32 >>> (i0 &&& 31).toUInt32).toInt32).toInt64) &&& (1 : Int64)) := rfl
theorem d1_0 : decode method_2_code 0 = .ok (.iload_n 0, 1) := by decide +kernel
theorem d1_1 : decode method_2_code 1 = .ok (.iload_n 1, 1) := by decide +kernel
theorem d1_2 : decode method_2_code 2 = .ok (.iushr, 1) := by decide +kernel
theorem d1_3 : decode method_2_code 3 = .ok (.i2l, 1) := by decide +kernel
theorem d1_4 : decode method_2_code 4 = .ok (.lconst 1, 1) := by decide +kernel
theorem d1_5 : decode method_2_code 5 = .ok (.land, 1) := by decide +kernel
theorem d1_6 : decode method_2_code 6 = .ok (.lreturn, 1) := by decide +kernel
set_option maxRecDepth 65536 in
set_option maxHeartbeats 40000000 in
theorem mt_fEdge (l : Launch) (Z : State) (a0 : Array Value) (hw : oHw a0 Z) (h0 : Heap) (n0 : Nat) (Z0 : n0 ≤ h0.size) (e0 : Int32) (i0 : Int32)  :
    oMet l Z (⟨sX, "edge", "(II)J"⟩ : MethodName) method_2_code 2 (some .long) [] ({ frames := 0, cells := 0, slots := 0, locals := 0 } : Room) 0 0 n0 #[.int e0, .int i0] h0 (fun v h => v = some (.long (fEdge e0 i0)) ∧ h = h0) := by
  refine oMet.intro (plainFor_of_name pn_247139) (fun m => ef_1 m e0 i0) ?_
  intro op oe os m obl omt ocd C
  refine oIloadN C d1_0 rfl rfl ?_
  refine oIloadN C d1_1 rfl rfl ?_
  refine oIushr C d1_2 rfl ?_
  refine oI2L C d1_3 rfl ?_
  refine oLconst C d1_4 (z := 1) rfl rfl ?_
  refine oLand C d1_5 rfl ?_
  refine oRetL C d1_6 (by decide) (by decide) ?_
  exact ⟨by rw [fEdge_def], rfl⟩
theorem ef_20 (m : MethodId) (x0 : Int32) (x1 : Int32) : entryFrame m #[.int x0, .int x1] 2 = mkF m 0 #[.val (.int x0), .val (.int x1)] [] := by first | (simp [entryFrame, mkF, argsToLocals, Value.category]; done) | rfl
def fMin (q1 : Int32) (q2 : Int32) : Int32 := (if q2 < q1 then q2 else q1)
theorem fMin_def (q1 : Int32) (q2 : Int32) : fMin q1 q2 = (if q2 < q1 then q2 else q1) := rfl
theorem d20_0 : decode jdk_29_method_69_code 0 = .ok (.iload_n 0, 1) := by decide +kernel
theorem d20_1 : decode jdk_29_method_69_code 1 = .ok (.iload_n 1, 1) := by decide +kernel
theorem d20_2 : decode jdk_29_method_69_code 2 = .ok (.if_icmp .gt 7, 3) := by decide +kernel
theorem d20_5 : decode jdk_29_method_69_code 5 = .ok (.iload_n 0, 1) := by decide +kernel
theorem d20_6 : decode jdk_29_method_69_code 6 = .ok (.goto 4, 3) := by decide +kernel
theorem d20_9 : decode jdk_29_method_69_code 9 = .ok (.iload_n 1, 1) := by decide +kernel
theorem d20_10 : decode jdk_29_method_69_code 10 = .ok (.ireturn, 1) := by decide +kernel
set_option maxRecDepth 65536 in
set_option maxHeartbeats 40000000 in
theorem mt_fMin (l : Launch) (Z : State) (a0 : Array Value) (hw : oHw a0 Z) (h0 : Heap) (n0 : Nat) (Z0 : n0 ≤ h0.size) (q1 : Int32) (q2 : Int32)  :
    oMet l Z (⟨"java/lang/Math", "min", "(II)I"⟩ : MethodName) jdk_29_method_69_code 2 (some .int) [] ({ frames := 0, cells := 0, slots := 0, locals := 0 } : Room) 0 0 n0 #[.int q1, .int q2] h0 (fun v h => v = some (.int (fMin q1 q2)) ∧ h = h0) := by
  refine oMet.intro (Jvm.Free.JP.mathPlain rfl (by decide +kernel)) (fun m => ef_20 m q1 q2) ?_
  intro op oe os m obl omt ocd C
  refine oIloadN C d20_0 rfl rfl ?_
  refine oIloadN C d20_1 rfl rfl ?_
  refine oIcmp_gt C d20_2 (q := 9) (by decide) (by decide) (r := 5) rfl (fun hc2 => ?_) (fun hc2 => ?_)
  ·
   refine oIloadN C d20_9 rfl rfl ?_
   refine oRetI C d20_10 (by decide) (by decide) ?_
   exact ⟨by rw [fMin_def, if_pos hc2], rfl⟩
  ·
   refine oIloadN C d20_5 rfl rfl ?_
   refine oGoto C d20_6 (q := 10) (by decide) (by decide) ?_
   refine oRetI C d20_10 (by decide) (by decide) ?_
   exact ⟨by rw [fMin_def, if_neg hc2], rfl⟩
def oUp (B s v vj m b : Int64) : Int64 := if v &&& B = 0 then (if m &&& b = 0 then v else ((v ||| (vj <<< s)) ||| B)) else v
def oUp0 (B v m b : Int64) : Int64 := if v &&& B = 0 then (if m &&& b = 0 then v else ((v ||| 0) ||| B)) else v
section Up
variable {B s v vj m b : Int64}
theorem oUp_a (h : ¬ v &&& B = 0) : oUp B s v vj m b = v := if_neg h
theorem oUp_b (h : v &&& B = 0) (h2 : m &&& b = 0) : oUp B s v vj m b = v := (if_pos h).trans (if_pos h2)
theorem oUp_c (h : v &&& B = 0) (h2 : ¬ m &&& b = 0) : oUp B s v vj m b = ((v ||| (vj <<< s)) ||| B) := (if_pos h).trans (if_neg h2)
theorem oUp0_a (h : ¬ v &&& B = 0) : oUp0 B v m b = v := if_neg h
theorem oUp0_b (h : v &&& B = 0) (h2 : m &&& b = 0) : oUp0 B v m b = v := (if_pos h).trans (if_pos h2)
theorem oUp0_c (h : v &&& B = 0) (h2 : ¬ m &&& b = 0) : oUp0 B v m b = ((v ||| 0) ||| B) := (if_pos h).trans (if_neg h2)
theorem oUp_v (B s v vj m b : Int64) : oUp B s v vj m b = v ∨ oUp B s v vj m b = ((v ||| (vj <<< s)) ||| B) := by
  by_cases h : v &&& B = 0
  · by_cases h2 : m &&& b = 0
    · exact Or.inl (oUp_b h h2)
    · exact Or.inr (oUp_c h h2)
  · exact Or.inl (oUp_a h)
theorem oUp0_v (B v m b : Int64) : oUp0 B v m b = v ∨ oUp0 B v m b = ((v ||| 0) ||| B) := by
  by_cases h : v &&& B = 0
  · by_cases h2 : m &&& b = 0
    · exact Or.inl (oUp0_b h h2)
    · exact Or.inr (oUp0_c h h2)
  · exact Or.inl (oUp0_a h)
theorem own_z {c : Prop} [Decidable c] : ((if c then (0 : Int32) else 1) = 0) ↔ c := by
  by_cases h : c
  · simp [h]
  · simp [h]
end Up
theorem own_and1 (x : Int64) : x &&& 1 = 0 ∨ x &&& 1 = 1 := by
  have e : (x &&& 1).toBitVec = (BitVec.ofBool (x.toBitVec.getLsbD 0)).setWidth 64 := by
    rw [Int64.toBitVec_and]; exact BitVec.and_one_eq_setWidth_ofBool_getLsbD
  cases hb : x.toBitVec.getLsbD 0 <;> rw [hb] at e
  · exact Or.inl (Int64.toBitVec_inj.mp e)
  · exact Or.inr (Int64.toBitVec_inj.mp e)
theorem own_edge (a b : Int32) : fEdge a b = 0 ∨ fEdge a b = 1 := by rw [fEdge_def]; exact own_and1 _
abbrev oKw (k : Nat) (w : Int32) : Prop := (k = 1 ∧ w = 1) ∨ (k = 2 ∧ w = 2) ∨ (k = 3 ∧ w = 3) ∨ (k = 4 ∧ w = 4)
abbrev oHW (w d a b c : Int32) : Prop := ((((d - (1 : Int32)) + (64 : Int32)) - (1 : Int32)) / (64 : Int32)) = w ∧ fMin (d - (1 : Int32)) 1 = a ∧ fMin (d - (1 : Int32)) 2 = b ∧ fMin (d - (1 : Int32)) 3 = c
theorem own_bf : ∀ n : Fin 256, (1 + Int32.ofNat n.val) = 1 ∨ ((1 + Int32.ofNat n.val) = 2 ∧ oHW 1 (1 + Int32.ofNat n.val) 1 1 1) ∨ ((1 + Int32.ofNat n.val) = 3 ∧ oHW 1 (1 + Int32.ofNat n.val) 1 2 2) ∨ oHW 1 (1 + Int32.ofNat n.val) 1 2 3 ∨ oHW 2 (1 + Int32.ofNat n.val) 1 2 3 ∨ oHW 3 (1 + Int32.ofNat n.val) 1 2 3 ∨ oHW 4 (1 + Int32.ofNat n.val) 1 2 3 := by decide +kernel
def oBd (d : Int32) : Prop := d = 1 ∨ (∃ k w, oKw k w ∧ d = 2 ∧ oHW w d 1 1 1) ∨ (∃ k w, oKw k w ∧ d = 3 ∧ oHW w d 1 2 2) ∨ (∃ k w, oKw k w ∧ True ∧ oHW w d 1 2 3)
theorem own_bd (b : Int32) : oBd (1 + (b &&& 255)) := by
  have e : (b &&& 255).toInt = b.toInt % ((2 ^ 8 : Nat) : Int) := c_mask b 255 8 (by decide) (by decide)
  have h1 := Int.emod_nonneg b.toInt (show ((2 ^ 8 : Nat) : Int) ≠ 0 by decide); have h2 := Int.emod_lt_of_pos b.toInt (show (0 : Int) < ((2 ^ 8 : Nat) : Int) by decide)
  have h3 : (b &&& 255).toInt.toNat < 256 := by rw [e]; omega
  have q := own_bf ⟨_, h3⟩
  have r : Int32.ofNat (b &&& 255).toInt.toNat = (b &&& 255) := by
    have h0 : 0 ≤ (b &&& 255).toInt := by rw [e]; exact h1
    rw [← Int32.toInt_inj, Int32.toInt_ofNat_of_lt (by omega)]; omega
  dsimp only at q; rw [r] at q
  rcases q with q | q | q | q | q | q | q
  · exact Or.inl q
  · exact Or.inr (Or.inl ⟨1, 1, Or.inl ⟨rfl, rfl⟩, q⟩)
  · exact Or.inr (Or.inr (Or.inl ⟨1, 1, Or.inl ⟨rfl, rfl⟩, q⟩))
  · exact Or.inr (Or.inr (Or.inr ⟨1, 1, Or.inl ⟨rfl, rfl⟩, trivial, q⟩))
  · exact Or.inr (Or.inr (Or.inr ⟨2, 2, Or.inr (Or.inl ⟨rfl, rfl⟩), trivial, q⟩))
  · exact Or.inr (Or.inr (Or.inr ⟨3, 3, Or.inr (Or.inr (Or.inl ⟨rfl, rfl⟩)), trivial, q⟩))
  · exact Or.inr (Or.inr (Or.inr ⟨4, 4, Or.inr (Or.inr (Or.inr ⟨rfl, rfl⟩)), trivial, q⟩))
def oR1 (k : Nat) (r : Int64) : List Value := match k with
  | 0 => []
  | n + 1 => .long r :: List.replicate n (.long 0)
def oRl (k : Nat) (a b c d : Int64) : List Value := oR1 k a ++ (oR1 k b ++ (oR1 k c ++ oR1 k d))
def oEl (t : Nat) (r : Int64) : Int64 := if t = 0 then r else 0
abbrev oNx (k t : Nat) (x : Int32) : Prop := t < k ∧ x = Int32.ofNat t
theorem own_es {t : Nat} {r : Int64} {c : UInt64} (h : ((r.toUInt64 >>> c).toInt64) = (0 : Int64)) (h0 : (((0 : Int64).toUInt64 >>> c).toInt64) = (0 : Int64)) : (((oEl t r).toUInt64 >>> c).toInt64) = (0 : Int64) := by
  rw [oEl]; split
  · exact h
  · exact h0
theorem own_s0 (x : Int32) : x - 0 = x := by rw [← Int32.toInt_inj]; simp
section Rw
variable {k t : Nat} {w x : Int32} {a b c d z : Int64}
theorem own_a0 (h : oKw k w) : ¬ (2147483639 : Int64) < ((4 : Int64) * (w.toInt64)) := by rcases h with ⟨rfl, rfl⟩ | ⟨rfl, rfl⟩ | ⟨rfl, rfl⟩ | ⟨rfl, rfl⟩ <;> decide
theorem own_a1 (h : oKw k w) : ¬ (((4 : Int64) * (w.toInt64)).toInt32) < 0 := by rcases h with ⟨rfl, rfl⟩ | ⟨rfl, rfl⟩ | ⟨rfl, rfl⟩ | ⟨rfl, rfl⟩ <;> decide
theorem own_a2 (h : oKw k w) : (((4 : Int64) * (w.toInt64)).toInt32).toNatClampNeg = 4 * k := by rcases h with ⟨rfl, rfl⟩ | ⟨rfl, rfl⟩ | ⟨rfl, rfl⟩ | ⟨rfl, rfl⟩ <;> decide
theorem own_a3 (h : oKw k w) : 4 * k ≤ 16 := by rcases h with ⟨rfl, rfl⟩ | ⟨rfl, rfl⟩ | ⟨rfl, rfl⟩ | ⟨rfl, rfl⟩ <;> decide
theorem own_a5 (h : oKw k w) : List.replicate (4 * k) (defaultValue .long) = oRl k 0 0 0 0 := by rcases h with ⟨rfl, rfl⟩ | ⟨rfl, rfl⟩ | ⟨rfl, rfl⟩ | ⟨rfl, rfl⟩ <;> rfl
theorem own_nx0 (h : oKw k w) : oNx k (k - 1) (w - 1) := by rcases h with ⟨rfl, rfl⟩ | ⟨rfl, rfl⟩ | ⟨rfl, rfl⟩ | ⟨rfl, rfl⟩ <;> decide
theorem own_nl (h : oKw k w) (n : oNx k (t + 1) x) : ¬ x < 0 := by
  obtain ⟨n1, rfl⟩ := n
  rcases h with ⟨rfl, rfl⟩ | ⟨rfl, rfl⟩ | ⟨rfl, rfl⟩ | ⟨rfl, rfl⟩ <;> rcases (show t = 0 ∨ t = 1 ∨ t = 2 by omega) with rfl | rfl | rfl <;> first | decide | exact absurd n1 (by decide)
theorem own_pl (h : oKw k w) (n : oNx k (t + 1) x) : (0 : Int32) < x := by
  obtain ⟨n1, rfl⟩ := n
  rcases h with ⟨rfl, rfl⟩ | ⟨rfl, rfl⟩ | ⟨rfl, rfl⟩ | ⟨rfl, rfl⟩ <;> rcases (show t = 0 ∨ t = 1 ∨ t = 2 by omega) with rfl | rfl | rfl <;> first | decide | exact absurd n1 (by decide)
theorem own_nxs (h : oKw k w) (n : oNx k (t + 1) x) : oNx k t (x + (-1 : Int32)) := by
  obtain ⟨n1, rfl⟩ := n
  rcases h with ⟨rfl, rfl⟩ | ⟨rfl, rfl⟩ | ⟨rfl, rfl⟩ | ⟨rfl, rfl⟩ <;> rcases (show t = 0 ∨ t = 1 ∨ t = 2 by omega) with rfl | rfl | rfl <;> first | decide | exact absurd n1 (by decide)
theorem own_n0 (h : oKw k w) : ¬ (((0 : Int32) * w) + 0) < 0 := by rcases h with ⟨rfl, rfl⟩ | ⟨rfl, rfl⟩ | ⟨rfl, rfl⟩ | ⟨rfl, rfl⟩ <;> decide
theorem own_k0 (h : oKw k w) : (((0 : Int32) * w) + 0).toNatClampNeg = 0 * k := by rcases h with ⟨rfl, rfl⟩ | ⟨rfl, rfl⟩ | ⟨rfl, rfl⟩ | ⟨rfl, rfl⟩ <;> decide
theorem own_v0 (h : oKw k w) : (oRl k a b c d)[0 * k]? = some (.long a) := by rcases h with ⟨rfl, rfl⟩ | ⟨rfl, rfl⟩ | ⟨rfl, rfl⟩ | ⟨rfl, rfl⟩ <;> rfl
theorem own_t0 (h : oKw k w) : (oRl k a b c d).set (0 * k) (.long z) = oRl k z b c d := by rcases h with ⟨rfl, rfl⟩ | ⟨rfl, rfl⟩ | ⟨rfl, rfl⟩ | ⟨rfl, rfl⟩ <;> rfl
theorem own_mn0 (h : oKw k w) (n : oNx k (t + 1) x) : ¬ (((0 : Int32) * w) + x) < 0 := by
  obtain ⟨n1, rfl⟩ := n
  rcases h with ⟨rfl, rfl⟩ | ⟨rfl, rfl⟩ | ⟨rfl, rfl⟩ | ⟨rfl, rfl⟩ <;> rcases (show t = 0 ∨ t = 1 ∨ t = 2 by omega) with rfl | rfl | rfl <;> first | decide | rfl | exact absurd n1 (by decide)
theorem own_mk0 (h : oKw k w) (n : oNx k (t + 1) x) : (((0 : Int32) * w) + x).toNatClampNeg = 0 * k + (t + 1) := by
  obtain ⟨n1, rfl⟩ := n
  rcases h with ⟨rfl, rfl⟩ | ⟨rfl, rfl⟩ | ⟨rfl, rfl⟩ | ⟨rfl, rfl⟩ <;> rcases (show t = 0 ∨ t = 1 ∨ t = 2 by omega) with rfl | rfl | rfl <;> first | decide | rfl | exact absurd n1 (by decide)
theorem own_mv0 (h : oKw k w) (n : oNx k (t + 1) x) : (oRl k a b c d)[0 * k + (t + 1)]? = some (.long 0) := by
  obtain ⟨n1, rfl⟩ := n
  rcases h with ⟨rfl, rfl⟩ | ⟨rfl, rfl⟩ | ⟨rfl, rfl⟩ | ⟨rfl, rfl⟩ <;> rcases (show t = 0 ∨ t = 1 ∨ t = 2 by omega) with rfl | rfl | rfl <;> first | rfl | exact absurd n1 (by decide)
theorem own_mt0 (h : oKw k w) (n : oNx k (t + 1) x) : (oRl k a b c d).set (0 * k + (t + 1)) (.long 0) = oRl k a b c d := by
  obtain ⟨n1, rfl⟩ := n
  rcases h with ⟨rfl, rfl⟩ | ⟨rfl, rfl⟩ | ⟨rfl, rfl⟩ | ⟨rfl, rfl⟩ <;> rcases (show t = 0 ∨ t = 1 ∨ t = 2 by omega) with rfl | rfl | rfl <;> first | rfl | exact absurd n1 (by decide)
theorem own_pn0 (h : oKw k w) (n : oNx k (t + 1) x) : ¬ ((((0 : Int32) * w) + x) - (1 : Int32)) < 0 := by
  obtain ⟨n1, rfl⟩ := n
  rcases h with ⟨rfl, rfl⟩ | ⟨rfl, rfl⟩ | ⟨rfl, rfl⟩ | ⟨rfl, rfl⟩ <;> rcases (show t = 0 ∨ t = 1 ∨ t = 2 by omega) with rfl | rfl | rfl <;> first | decide | rfl | exact absurd n1 (by decide)
theorem own_pk0 (h : oKw k w) (n : oNx k (t + 1) x) : ((((0 : Int32) * w) + x) - (1 : Int32)).toNatClampNeg = 0 * k + t := by
  obtain ⟨n1, rfl⟩ := n
  rcases h with ⟨rfl, rfl⟩ | ⟨rfl, rfl⟩ | ⟨rfl, rfl⟩ | ⟨rfl, rfl⟩ <;> rcases (show t = 0 ∨ t = 1 ∨ t = 2 by omega) with rfl | rfl | rfl <;> first | decide | rfl | exact absurd n1 (by decide)
theorem own_pv0 (h : oKw k w) (n : oNx k (t + 1) x) : (oRl k a b c d)[0 * k + t]? = some (.long (oEl t a)) := by
  obtain ⟨n1, rfl⟩ := n
  rcases h with ⟨rfl, rfl⟩ | ⟨rfl, rfl⟩ | ⟨rfl, rfl⟩ | ⟨rfl, rfl⟩ <;> rcases (show t = 0 ∨ t = 1 ∨ t = 2 by omega) with rfl | rfl | rfl <;> first | rfl | exact absurd n1 (by decide)
theorem own_n1 (h : oKw k w) : ¬ (((1 : Int32) * w) + 0) < 0 := by rcases h with ⟨rfl, rfl⟩ | ⟨rfl, rfl⟩ | ⟨rfl, rfl⟩ | ⟨rfl, rfl⟩ <;> decide
theorem own_k1 (h : oKw k w) : (((1 : Int32) * w) + 0).toNatClampNeg = 1 * k := by rcases h with ⟨rfl, rfl⟩ | ⟨rfl, rfl⟩ | ⟨rfl, rfl⟩ | ⟨rfl, rfl⟩ <;> decide
theorem own_v1 (h : oKw k w) : (oRl k a b c d)[1 * k]? = some (.long b) := by rcases h with ⟨rfl, rfl⟩ | ⟨rfl, rfl⟩ | ⟨rfl, rfl⟩ | ⟨rfl, rfl⟩ <;> rfl
theorem own_t1 (h : oKw k w) : (oRl k a b c d).set (1 * k) (.long z) = oRl k a z c d := by rcases h with ⟨rfl, rfl⟩ | ⟨rfl, rfl⟩ | ⟨rfl, rfl⟩ | ⟨rfl, rfl⟩ <;> rfl
theorem own_mn1 (h : oKw k w) (n : oNx k (t + 1) x) : ¬ (((1 : Int32) * w) + x) < 0 := by
  obtain ⟨n1, rfl⟩ := n
  rcases h with ⟨rfl, rfl⟩ | ⟨rfl, rfl⟩ | ⟨rfl, rfl⟩ | ⟨rfl, rfl⟩ <;> rcases (show t = 0 ∨ t = 1 ∨ t = 2 by omega) with rfl | rfl | rfl <;> first | decide | rfl | exact absurd n1 (by decide)
theorem own_mk1 (h : oKw k w) (n : oNx k (t + 1) x) : (((1 : Int32) * w) + x).toNatClampNeg = 1 * k + (t + 1) := by
  obtain ⟨n1, rfl⟩ := n
  rcases h with ⟨rfl, rfl⟩ | ⟨rfl, rfl⟩ | ⟨rfl, rfl⟩ | ⟨rfl, rfl⟩ <;> rcases (show t = 0 ∨ t = 1 ∨ t = 2 by omega) with rfl | rfl | rfl <;> first | decide | rfl | exact absurd n1 (by decide)
theorem own_mv1 (h : oKw k w) (n : oNx k (t + 1) x) : (oRl k a b c d)[1 * k + (t + 1)]? = some (.long 0) := by
  obtain ⟨n1, rfl⟩ := n
  rcases h with ⟨rfl, rfl⟩ | ⟨rfl, rfl⟩ | ⟨rfl, rfl⟩ | ⟨rfl, rfl⟩ <;> rcases (show t = 0 ∨ t = 1 ∨ t = 2 by omega) with rfl | rfl | rfl <;> first | rfl | exact absurd n1 (by decide)
theorem own_mt1 (h : oKw k w) (n : oNx k (t + 1) x) : (oRl k a b c d).set (1 * k + (t + 1)) (.long 0) = oRl k a b c d := by
  obtain ⟨n1, rfl⟩ := n
  rcases h with ⟨rfl, rfl⟩ | ⟨rfl, rfl⟩ | ⟨rfl, rfl⟩ | ⟨rfl, rfl⟩ <;> rcases (show t = 0 ∨ t = 1 ∨ t = 2 by omega) with rfl | rfl | rfl <;> first | rfl | exact absurd n1 (by decide)
theorem own_pn1 (h : oKw k w) (n : oNx k (t + 1) x) : ¬ ((((1 : Int32) * w) + x) - (1 : Int32)) < 0 := by
  obtain ⟨n1, rfl⟩ := n
  rcases h with ⟨rfl, rfl⟩ | ⟨rfl, rfl⟩ | ⟨rfl, rfl⟩ | ⟨rfl, rfl⟩ <;> rcases (show t = 0 ∨ t = 1 ∨ t = 2 by omega) with rfl | rfl | rfl <;> first | decide | rfl | exact absurd n1 (by decide)
theorem own_pk1 (h : oKw k w) (n : oNx k (t + 1) x) : ((((1 : Int32) * w) + x) - (1 : Int32)).toNatClampNeg = 1 * k + t := by
  obtain ⟨n1, rfl⟩ := n
  rcases h with ⟨rfl, rfl⟩ | ⟨rfl, rfl⟩ | ⟨rfl, rfl⟩ | ⟨rfl, rfl⟩ <;> rcases (show t = 0 ∨ t = 1 ∨ t = 2 by omega) with rfl | rfl | rfl <;> first | decide | rfl | exact absurd n1 (by decide)
theorem own_pv1 (h : oKw k w) (n : oNx k (t + 1) x) : (oRl k a b c d)[1 * k + t]? = some (.long (oEl t b)) := by
  obtain ⟨n1, rfl⟩ := n
  rcases h with ⟨rfl, rfl⟩ | ⟨rfl, rfl⟩ | ⟨rfl, rfl⟩ | ⟨rfl, rfl⟩ <;> rcases (show t = 0 ∨ t = 1 ∨ t = 2 by omega) with rfl | rfl | rfl <;> first | rfl | exact absurd n1 (by decide)
theorem own_n2 (h : oKw k w) : ¬ (((2 : Int32) * w) + 0) < 0 := by rcases h with ⟨rfl, rfl⟩ | ⟨rfl, rfl⟩ | ⟨rfl, rfl⟩ | ⟨rfl, rfl⟩ <;> decide
theorem own_k2 (h : oKw k w) : (((2 : Int32) * w) + 0).toNatClampNeg = 2 * k := by rcases h with ⟨rfl, rfl⟩ | ⟨rfl, rfl⟩ | ⟨rfl, rfl⟩ | ⟨rfl, rfl⟩ <;> decide
theorem own_v2 (h : oKw k w) : (oRl k a b c d)[2 * k]? = some (.long c) := by rcases h with ⟨rfl, rfl⟩ | ⟨rfl, rfl⟩ | ⟨rfl, rfl⟩ | ⟨rfl, rfl⟩ <;> rfl
theorem own_t2 (h : oKw k w) : (oRl k a b c d).set (2 * k) (.long z) = oRl k a b z d := by rcases h with ⟨rfl, rfl⟩ | ⟨rfl, rfl⟩ | ⟨rfl, rfl⟩ | ⟨rfl, rfl⟩ <;> rfl
theorem own_mn2 (h : oKw k w) (n : oNx k (t + 1) x) : ¬ (((2 : Int32) * w) + x) < 0 := by
  obtain ⟨n1, rfl⟩ := n
  rcases h with ⟨rfl, rfl⟩ | ⟨rfl, rfl⟩ | ⟨rfl, rfl⟩ | ⟨rfl, rfl⟩ <;> rcases (show t = 0 ∨ t = 1 ∨ t = 2 by omega) with rfl | rfl | rfl <;> first | decide | rfl | exact absurd n1 (by decide)
theorem own_mk2 (h : oKw k w) (n : oNx k (t + 1) x) : (((2 : Int32) * w) + x).toNatClampNeg = 2 * k + (t + 1) := by
  obtain ⟨n1, rfl⟩ := n
  rcases h with ⟨rfl, rfl⟩ | ⟨rfl, rfl⟩ | ⟨rfl, rfl⟩ | ⟨rfl, rfl⟩ <;> rcases (show t = 0 ∨ t = 1 ∨ t = 2 by omega) with rfl | rfl | rfl <;> first | decide | rfl | exact absurd n1 (by decide)
theorem own_mv2 (h : oKw k w) (n : oNx k (t + 1) x) : (oRl k a b c d)[2 * k + (t + 1)]? = some (.long 0) := by
  obtain ⟨n1, rfl⟩ := n
  rcases h with ⟨rfl, rfl⟩ | ⟨rfl, rfl⟩ | ⟨rfl, rfl⟩ | ⟨rfl, rfl⟩ <;> rcases (show t = 0 ∨ t = 1 ∨ t = 2 by omega) with rfl | rfl | rfl <;> first | rfl | exact absurd n1 (by decide)
theorem own_mt2 (h : oKw k w) (n : oNx k (t + 1) x) : (oRl k a b c d).set (2 * k + (t + 1)) (.long 0) = oRl k a b c d := by
  obtain ⟨n1, rfl⟩ := n
  rcases h with ⟨rfl, rfl⟩ | ⟨rfl, rfl⟩ | ⟨rfl, rfl⟩ | ⟨rfl, rfl⟩ <;> rcases (show t = 0 ∨ t = 1 ∨ t = 2 by omega) with rfl | rfl | rfl <;> first | rfl | exact absurd n1 (by decide)
theorem own_pn2 (h : oKw k w) (n : oNx k (t + 1) x) : ¬ ((((2 : Int32) * w) + x) - (1 : Int32)) < 0 := by
  obtain ⟨n1, rfl⟩ := n
  rcases h with ⟨rfl, rfl⟩ | ⟨rfl, rfl⟩ | ⟨rfl, rfl⟩ | ⟨rfl, rfl⟩ <;> rcases (show t = 0 ∨ t = 1 ∨ t = 2 by omega) with rfl | rfl | rfl <;> first | decide | rfl | exact absurd n1 (by decide)
theorem own_pk2 (h : oKw k w) (n : oNx k (t + 1) x) : ((((2 : Int32) * w) + x) - (1 : Int32)).toNatClampNeg = 2 * k + t := by
  obtain ⟨n1, rfl⟩ := n
  rcases h with ⟨rfl, rfl⟩ | ⟨rfl, rfl⟩ | ⟨rfl, rfl⟩ | ⟨rfl, rfl⟩ <;> rcases (show t = 0 ∨ t = 1 ∨ t = 2 by omega) with rfl | rfl | rfl <;> first | decide | rfl | exact absurd n1 (by decide)
theorem own_pv2 (h : oKw k w) (n : oNx k (t + 1) x) : (oRl k a b c d)[2 * k + t]? = some (.long (oEl t c)) := by
  obtain ⟨n1, rfl⟩ := n
  rcases h with ⟨rfl, rfl⟩ | ⟨rfl, rfl⟩ | ⟨rfl, rfl⟩ | ⟨rfl, rfl⟩ <;> rcases (show t = 0 ∨ t = 1 ∨ t = 2 by omega) with rfl | rfl | rfl <;> first | rfl | exact absurd n1 (by decide)
theorem own_n3 (h : oKw k w) : ¬ (((3 : Int32) * w) + 0) < 0 := by rcases h with ⟨rfl, rfl⟩ | ⟨rfl, rfl⟩ | ⟨rfl, rfl⟩ | ⟨rfl, rfl⟩ <;> decide
theorem own_k3 (h : oKw k w) : (((3 : Int32) * w) + 0).toNatClampNeg = 3 * k := by rcases h with ⟨rfl, rfl⟩ | ⟨rfl, rfl⟩ | ⟨rfl, rfl⟩ | ⟨rfl, rfl⟩ <;> decide
theorem own_v3 (h : oKw k w) : (oRl k a b c d)[3 * k]? = some (.long d) := by rcases h with ⟨rfl, rfl⟩ | ⟨rfl, rfl⟩ | ⟨rfl, rfl⟩ | ⟨rfl, rfl⟩ <;> rfl
theorem own_t3 (h : oKw k w) : (oRl k a b c d).set (3 * k) (.long z) = oRl k a b c z := by rcases h with ⟨rfl, rfl⟩ | ⟨rfl, rfl⟩ | ⟨rfl, rfl⟩ | ⟨rfl, rfl⟩ <;> rfl
theorem own_mn3 (h : oKw k w) (n : oNx k (t + 1) x) : ¬ (((3 : Int32) * w) + x) < 0 := by
  obtain ⟨n1, rfl⟩ := n
  rcases h with ⟨rfl, rfl⟩ | ⟨rfl, rfl⟩ | ⟨rfl, rfl⟩ | ⟨rfl, rfl⟩ <;> rcases (show t = 0 ∨ t = 1 ∨ t = 2 by omega) with rfl | rfl | rfl <;> first | decide | rfl | exact absurd n1 (by decide)
theorem own_mk3 (h : oKw k w) (n : oNx k (t + 1) x) : (((3 : Int32) * w) + x).toNatClampNeg = 3 * k + (t + 1) := by
  obtain ⟨n1, rfl⟩ := n
  rcases h with ⟨rfl, rfl⟩ | ⟨rfl, rfl⟩ | ⟨rfl, rfl⟩ | ⟨rfl, rfl⟩ <;> rcases (show t = 0 ∨ t = 1 ∨ t = 2 by omega) with rfl | rfl | rfl <;> first | decide | rfl | exact absurd n1 (by decide)
theorem own_mv3 (h : oKw k w) (n : oNx k (t + 1) x) : (oRl k a b c d)[3 * k + (t + 1)]? = some (.long 0) := by
  obtain ⟨n1, rfl⟩ := n
  rcases h with ⟨rfl, rfl⟩ | ⟨rfl, rfl⟩ | ⟨rfl, rfl⟩ | ⟨rfl, rfl⟩ <;> rcases (show t = 0 ∨ t = 1 ∨ t = 2 by omega) with rfl | rfl | rfl <;> first | rfl | exact absurd n1 (by decide)
theorem own_mt3 (h : oKw k w) (n : oNx k (t + 1) x) : (oRl k a b c d).set (3 * k + (t + 1)) (.long 0) = oRl k a b c d := by
  obtain ⟨n1, rfl⟩ := n
  rcases h with ⟨rfl, rfl⟩ | ⟨rfl, rfl⟩ | ⟨rfl, rfl⟩ | ⟨rfl, rfl⟩ <;> rcases (show t = 0 ∨ t = 1 ∨ t = 2 by omega) with rfl | rfl | rfl <;> first | rfl | exact absurd n1 (by decide)
theorem own_pn3 (h : oKw k w) (n : oNx k (t + 1) x) : ¬ ((((3 : Int32) * w) + x) - (1 : Int32)) < 0 := by
  obtain ⟨n1, rfl⟩ := n
  rcases h with ⟨rfl, rfl⟩ | ⟨rfl, rfl⟩ | ⟨rfl, rfl⟩ | ⟨rfl, rfl⟩ <;> rcases (show t = 0 ∨ t = 1 ∨ t = 2 by omega) with rfl | rfl | rfl <;> first | decide | rfl | exact absurd n1 (by decide)
theorem own_pk3 (h : oKw k w) (n : oNx k (t + 1) x) : ((((3 : Int32) * w) + x) - (1 : Int32)).toNatClampNeg = 3 * k + t := by
  obtain ⟨n1, rfl⟩ := n
  rcases h with ⟨rfl, rfl⟩ | ⟨rfl, rfl⟩ | ⟨rfl, rfl⟩ | ⟨rfl, rfl⟩ <;> rcases (show t = 0 ∨ t = 1 ∨ t = 2 by omega) with rfl | rfl | rfl <;> first | decide | rfl | exact absurd n1 (by decide)
theorem own_pv3 (h : oKw k w) (n : oNx k (t + 1) x) : (oRl k a b c d)[3 * k + t]? = some (.long (oEl t d)) := by
  obtain ⟨n1, rfl⟩ := n
  rcases h with ⟨rfl, rfl⟩ | ⟨rfl, rfl⟩ | ⟨rfl, rfl⟩ | ⟨rfl, rfl⟩ <;> rcases (show t = 0 ∨ t = 1 ∨ t = 2 by omega) with rfl | rfl | rfl <;> first | rfl | exact absurd n1 (by decide)
end Rw
def oFw (l : Launch) (Z : State) (n0 : Nat) (a : Addr) (bd x y k r : Int32) (w : Heap) : Prop := k < bd → oMet l Z (⟨sP, "follows", "(II)Z"⟩ : MethodName) prog_13_method_2_code 4 (some .boolean) [] ({ frames := 0, cells := 0, slots := 0, locals := 0 } : Room) 0 0 n0 #[.ref a, .int x, .int y] w (fun v h => v = some (.int r) ∧ h = w)
theorem oWS {a0 : Array Value} {Z : State} (hw : oHw a0 Z) : ∀ a ∈ Bundle.stringAtoms, a.before a0 Z = true := by
  intro a ha
  simp only [Bundle.stringAtoms, List.mem_cons, List.not_mem_nil, or_false] at ha
  rcases ha with rfl | rfl | rfl | rfl | rfl | rfl | rfl
  · exact (w11 hw)
  · exact (w12 hw)
  · exact (w13 hw)
  · exact (w14 hw)
  · exact (w15 hw)
  · exact (w16 hw)
  · exact (w17 hw)
theorem ef_0 (m : MethodId) (x0 : Int32) (x1 : Int32) (x2 : Int32) : entryFrame m #[.int x0, .int x1, .int x2] maxLocals = mkF m 0 #[.val (.int x0), .val (.int x1), .val (.int x2), .unset, .unset, .unset, .unset, .unset, .unset, .unset, .unset, .unset, .unset, .unset, .unset, .unset, .unset, .unset, .unset, .unset, .unset, .unset, .unset, .unset, .unset, .unset, .unset, .unset, .unset, .unset, .unset, .unset, .unset, .unset, .unset, .unset, .unset, .unset, .unset, .unset, .unset, .unset, .unset] [] := by first | (simp [entryFrame, mkF, argsToLocals, Value.category, maxLocals]; done) | rfl
theorem pd_947238 : parseMethodDescriptor "(II)J" = some ⟨[.int, .int], some .long⟩ := by decide +kernel
theorem ef_2n1 (m : MethodId) (x0 : Addr) (x2 : Addr) (x3 : Int32) (x4 : Int64) : entryFrame m #[.ref x0, .null, .ref x2, .int x3, .long x4] 6 = mkF m 0 #[.val (.ref x0), .val (.null), .val (.ref x2), .val (.int x3), .val (.long x4), .second] [] := by first | (simp [entryFrame, mkF, argsToLocals, Value.category]; done) | rfl
theorem pn_618879 : plainName sR = true := by first | (simp [plainName, overriddenIn]; done) | decide +kernel
def oFL0 : List (String × String × String) := [(sR, "declaration", sJ), (sR, "name", "Ljava/lang/String;"), (sR, "bit", "J"), (sR, "conflicts", "J"), (sR, "allKeys", "Lcom/example/orderloom/orderloom/Footprint;")]
theorem oLa0 {a0 : Array Value} {Z : State} (hw : oHw a0 Z) : ∀ p ∈ oFL0, Laid Z a0 sR p.1 p.2.1 p.2.2 ∧ ∃ t, parseFieldDescriptor p.2.2 = some t := by
  intro p hp
  simp only [oFL0, List.mem_cons, List.not_mem_nil, or_false] at hp
  rcases hp with rfl | rfl | rfl | rfl | rfl
  · exact ⟨(Or.inr (w25 hw)), _, (by decide : parseFieldDescriptor sJ = some (.object "com/example/orderloom/orderloom/RequestClasses"))⟩
  · exact ⟨(Or.inr (w27 hw)), _, (by decide : parseFieldDescriptor "Ljava/lang/String;" = some (.object "java/lang/String"))⟩
  · exact ⟨(Or.inr (w29 hw)), _, (by decide : parseFieldDescriptor "J" = some .long)⟩
  · exact ⟨(Or.inr (w31 hw)), _, (by decide : parseFieldDescriptor "J" = some .long)⟩
  · exact ⟨(Or.inr (w48 hw)), _, (by decide : parseFieldDescriptor "Lcom/example/orderloom/orderloom/Footprint;" = some (.object sF))⟩
theorem oSn0 {a0 : Array Value} {Z : State} (hw : oHw a0 Z) (i j : Nat) {O n d O' n' d' : String} (hi : oFL0[i]? = some (O, n, d) := by rfl) (hj : oFL0[j]? = some (O', n', d') := by rfl) (hn : n ≠ n' := by decide) : Jvm.RoadKit.slotOf Z O n d ≠ Jvm.RoadKit.slotOf Z O' n' d' := by
  obtain ⟨l1, t1, e1⟩ := oLa0 hw _ (List.mem_of_getElem? hi)
  obtain ⟨l2, t2, e2⟩ := oLa0 hw _ (List.mem_of_getElem? hj)
  exact slot_ne l1 l2 hn e1 e2
theorem ef_4 (m : MethodId) (x0 : Addr) (x1 : Addr) (x2 : Int64) (x3 : Int64) : entryFrame m #[.ref x0, .ref x1, .long x2, .long x3] 6 = mkF m 0 #[.val (.ref x0), .val (.ref x1), .val (.long x2), .second, .val (.long x3), .second] [] := by first | (simp [entryFrame, mkF, argsToLocals, Value.category]; done) | rfl
theorem pn_807394 : plainName sF = true := by first | (simp [plainName, overriddenIn]; done) | decide +kernel
def oFL1 : List (String × String × String) := [(sF, "requestClass", sK), (sF, "firstKey", "J"), (sF, "lastKey", "J")]
theorem oLa1 {a0 : Array Value} {Z : State} (hw : oHw a0 Z) : ∀ p ∈ oFL1, Laid Z a0 sF p.1 p.2.1 p.2.2 ∧ ∃ t, parseFieldDescriptor p.2.2 = some t := by
  intro p hp
  simp only [oFL1, List.mem_cons, List.not_mem_nil, or_false] at hp
  rcases hp with rfl | rfl | rfl
  · exact ⟨(Or.inr (w42 hw)), _, (by decide : parseFieldDescriptor sK = some (.object sR))⟩
  · exact ⟨(Or.inr (w44 hw)), _, (by decide : parseFieldDescriptor "J" = some .long)⟩
  · exact ⟨(Or.inr (w46 hw)), _, (by decide : parseFieldDescriptor "J" = some .long)⟩
theorem oSn1 {a0 : Array Value} {Z : State} (hw : oHw a0 Z) (i j : Nat) {O n d O' n' d' : String} (hi : oFL1[i]? = some (O, n, d) := by rfl) (hj : oFL1[j]? = some (O', n', d') := by rfl) (hn : n ≠ n' := by decide) : Jvm.RoadKit.slotOf Z O n d ≠ Jvm.RoadKit.slotOf Z O' n' d' := by
  obtain ⟨l1, t1, e1⟩ := oLa1 hw _ (List.mem_of_getElem? hi)
  obtain ⟨l2, t2, e2⟩ := oLa1 hw _ (List.mem_of_getElem? hj)
  exact slot_ne l1 l2 hn e1 e2
theorem d4_0 : decode prog_11_method_1_code 0 = .ok (.aload_n 0, 1) := by decide +kernel
theorem d4_1 : decode prog_11_method_1_code 1 = .ok (.invokespecial 1, 3) := by decide +kernel
theorem d4_4 : decode prog_11_method_1_code 4 = .ok (.aload_n 0, 1) := by decide +kernel
theorem d4_5 : decode prog_11_method_1_code 5 = .ok (.aload_n 1, 1) := by decide +kernel
theorem d4_6 : decode prog_11_method_1_code 6 = .ok (.putfield 7, 3) := by decide +kernel
theorem d4_9 : decode prog_11_method_1_code 9 = .ok (.aload_n 0, 1) := by decide +kernel
theorem d4_10 : decode prog_11_method_1_code 10 = .ok (.lload_n 2, 1) := by decide +kernel
theorem d4_11 : decode prog_11_method_1_code 11 = .ok (.putfield 13, 3) := by decide +kernel
theorem d4_14 : decode prog_11_method_1_code 14 = .ok (.aload_n 0, 1) := by decide +kernel
theorem d4_15 : decode prog_11_method_1_code 15 = .ok (.lload 4, 2) := by decide +kernel
theorem d4_17 : decode prog_11_method_1_code 17 = .ok (.putfield 17, 3) := by decide +kernel
theorem d4_20 : decode prog_11_method_1_code 20 = .ok (.return_, 1) := by decide +kernel
set_option maxRecDepth 65536 in
set_option maxHeartbeats 40000000 in
theorem ac4_0 (l : Launch) (Z : State) (a0 : Array Value) (hw : oHw a0 Z) (h0 : Heap) (n0 : Nat) (Z0 : n0 ≤ h0.size) (b1 : Addr) (b2 : Addr) (p1 : Exa Z h0 b1 sF) (p2 : Fld Z h0 b1 sF "requestClass" sK (.null)) (p3 : n0 ≤ b1) (p4 : Fld Z h0 b1 sF "firstKey" "J" (.long 0)) (p5 : Fld Z h0 b1 sF "lastKey" "J" (.long 0)) :
    oMet l Z (⟨sF, "<init>", "(Lcom/example/orderloom/orderloom/RequestClass;JJ)V"⟩ : MethodName) prog_11_method_1_code 6 none [] ({ frames := 1, cells := 0, slots := 0, locals := 12 } : Room) 0 0 n0 #[.ref b1, .ref b2, .long (-9223372036854775808), .long 9223372036854775807] h0 (fun v h => v = none ∧ oKe h0 h [] [(b1, Jvm.RoadKit.slotOf Z sF "requestClass" sK), (b1, Jvm.RoadKit.slotOf Z sF "firstKey" "J"), (b1, Jvm.RoadKit.slotOf Z sF "lastKey" "J")] ∧ Fld Z h b1 sF "requestClass" sK (.ref b2) ∧ Fld Z h b1 sF "firstKey" "J" (.long (-9223372036854775808)) ∧ Fld Z h b1 sF "lastKey" "J" (.long 9223372036854775807)) := by
  refine oMet.intro (plainFor_of_name pn_807394) (fun m => ef_4 m b1 b2 (-9223372036854775808 : Int64) (9223372036854775807 : Int64)) ?_
  intro op oe os m obl omt ocd C
  refine oAloadN C d4_0 rfl rfl rfl ?_
  refine oInitO C (w40 hw) (w22 hw) (w23 hw) d4_1 rfl (W := 0) rfl rfl (by decide) (by decide) ?_
  refine oAloadN C d4_4 rfl rfl rfl ?_
  refine oAloadN C d4_5 rfl rfl rfl ?_
  refine oPutF C (w41 hw) Via.refl p2 p1 (Or.inr ⟨(w42 hw), rfl, rfl⟩) (w33 hw) (ty := (.object sR)) (by decide) rfl rfl d4_6 rfl p3 fun h1 W1 => ?_
  have f1w := Fld.same W1 p2
  refine oAloadN C d4_9 rfl rfl rfl ?_
  refine oLloadN C d4_10 rfl rfl ?_
  have f2 := (Exa.wr W1 p1)
  have f3 := (Fld.other W1 p4 (Or.inr (oSn1 hw 1 0)))
  refine oPutF C (w43 hw) Via.refl f3 f2 (Or.inr ⟨(w44 hw), rfl, rfl⟩) (w33 hw) (ty := .long) (by decide) rfl rfl d4_11 rfl p3 fun h4 W4 => ?_
  have f4w := Fld.same W4 f3
  refine oAloadN C d4_14 rfl rfl rfl ?_
  refine oLload C d4_15 rfl rfl ?_
  have f5 := (Exa.wr W4 f2)
  have f6 := (Fld.other W4 (Fld.other W1 p5 (Or.inr (oSn1 hw 2 0))) (Or.inr (oSn1 hw 2 1)))
  refine oPutF C (w45 hw) Via.refl f6 f5 (Or.inr ⟨(w46 hw), rfl, rfl⟩) (w33 hw) (ty := .long) (by decide) rfl rfl d4_17 rfl p3 fun h7 W7 => ?_
  have f7w := Fld.same W7 f6
  refine oRetV C d4_20 (by decide) (by decide) ?_
  have f8 := (Fld.other W7 (Fld.other W4 f1w (Or.inr (oSn1 hw 0 1))) (Or.inr (oSn1 hw 0 2)))
  have f9 := (Fld.other W7 f4w (Or.inr (oSn1 hw 1 2)))
  exact ⟨rfl, ((((oKe.refl h0 [] [(b1, Jvm.RoadKit.slotOf Z sF "requestClass" sK), (b1, Jvm.RoadKit.slotOf Z sF "firstKey" "J"), (b1, Jvm.RoadKit.slotOf Z sF "lastKey" "J")]).wrF W1 (Or.inl (List.mem_of_getElem? (i := 0) rfl))).wrF W4 (Or.inl (List.mem_of_getElem? (i := 1) rfl))).wrF W7 (Or.inl (List.mem_of_getElem? (i := 2) rfl))), f8, f9, f7w⟩
theorem pd_33311 : parseMethodDescriptor "(Lcom/example/orderloom/orderloom/RequestClass;JJ)V" = some ⟨[(.object sR), .long, .long], none⟩ := by decide +kernel
theorem d2_0 : decode prog_16_method_1_code 0 = .ok (.aload_n 0, 1) := by decide +kernel
theorem d2_1 : decode prog_16_method_1_code 1 = .ok (.invokespecial 1, 3) := by decide +kernel
theorem d2_4 : decode prog_16_method_1_code 4 = .ok (.aload_n 0, 1) := by decide +kernel
theorem d2_5 : decode prog_16_method_1_code 5 = .ok (.aload_n 1, 1) := by decide +kernel
theorem d2_6 : decode prog_16_method_1_code 6 = .ok (.putfield 7, 3) := by decide +kernel
theorem d2_9 : decode prog_16_method_1_code 9 = .ok (.aload_n 0, 1) := by decide +kernel
theorem d2_10 : decode prog_16_method_1_code 10 = .ok (.aload_n 2, 1) := by decide +kernel
theorem d2_11 : decode prog_16_method_1_code 11 = .ok (.putfield 13, 3) := by decide +kernel
theorem d2_14 : decode prog_16_method_1_code 14 = .ok (.aload_n 0, 1) := by decide +kernel
theorem d2_15 : decode prog_16_method_1_code 15 = .ok (.lconst 1, 1) := by decide +kernel
theorem d2_16 : decode prog_16_method_1_code 16 = .ok (.iload_n 3, 1) := by decide +kernel
theorem d2_17 : decode prog_16_method_1_code 17 = .ok (.lshl, 1) := by decide +kernel
theorem d2_18 : decode prog_16_method_1_code 18 = .ok (.putfield 17, 3) := by decide +kernel
theorem d2_21 : decode prog_16_method_1_code 21 = .ok (.aload_n 0, 1) := by decide +kernel
theorem d2_22 : decode prog_16_method_1_code 22 = .ok (.lload 4, 2) := by decide +kernel
theorem d2_24 : decode prog_16_method_1_code 24 = .ok (.putfield 21, 3) := by decide +kernel
theorem d2_27 : decode prog_16_method_1_code 27 = .ok (.aload_n 0, 1) := by decide +kernel
theorem d2_28 : decode prog_16_method_1_code 28 = .ok (.new 24, 3) := by decide +kernel
theorem d2_31 : decode prog_16_method_1_code 31 = .ok (.dup, 1) := by decide +kernel
theorem d2_32 : decode prog_16_method_1_code 32 = .ok (.aload_n 0, 1) := by decide +kernel
theorem d2_33 : decode prog_16_method_1_code 33 = .ok (.ldc2_w 28, 3) := by decide +kernel
theorem d2_36 : decode prog_16_method_1_code 36 = .ok (.ldc2_w 30, 3) := by decide +kernel
theorem d2_39 : decode prog_16_method_1_code 39 = .ok (.invokespecial 32, 3) := by decide +kernel
theorem d2_42 : decode prog_16_method_1_code 42 = .ok (.putfield 35, 3) := by decide +kernel
theorem d2_45 : decode prog_16_method_1_code 45 = .ok (.return_, 1) := by decide +kernel
set_option maxRecDepth 65536 in
set_option maxHeartbeats 40000000 in
theorem ac2_1 (l : Launch) (Z : State) (a0 : Array Value) (hw : oHw a0 Z) (h0 : Heap) (n0 : Nat) (Z0 : n0 ≤ h0.size) (b1 : Addr) (b2 : Addr) (y3 : Int64) (p1 : Exa Z h0 b1 sR) (p2 : Fld Z h0 b1 sR "declaration" sJ (.null)) (p3 : n0 ≤ b1) (p4 : Fld Z h0 b1 sR "name" "Ljava/lang/String;" (.null)) (p5 : Fld Z h0 b1 sR "bit" "J" (.long 0)) (p6 : Fld Z h0 b1 sR "conflicts" "J" (.long 0)) (p7 : Fld Z h0 b1 sR "allKeys" "Lcom/example/orderloom/orderloom/Footprint;" (.null)) :
    oMet l Z (⟨sR, "<init>", "(Lcom/example/orderloom/orderloom/RequestClasses;Ljava/lang/String;IJ)V"⟩ : MethodName) prog_16_method_1_code 6 none [] ({ frames := 2, cells := 1, slots := 3, locals := 31 } : Room) 1 3 n0 #[.ref b1, .null, .ref b2, .int 0, .long y3] h0 (fun v h => ∃ a11 : Addr, v = none ∧ oKe h0 h [] [(b1, Jvm.RoadKit.slotOf Z sR "declaration" sJ), (b1, Jvm.RoadKit.slotOf Z sR "name" "Ljava/lang/String;"), (b1, Jvm.RoadKit.slotOf Z sR "bit" "J"), (b1, Jvm.RoadKit.slotOf Z sR "conflicts" "J"), (b1, Jvm.RoadKit.slotOf Z sR "allKeys" "Lcom/example/orderloom/orderloom/Footprint;")] ∧ h0.size ≤ a11 ∧ Fld Z h b1 sR "declaration" sJ (.null) ∧ Fld Z h b1 sR "name" "Ljava/lang/String;" (.ref b2) ∧ Fld Z h b1 sR "bit" "J" (.long 1) ∧ Fld Z h b1 sR "conflicts" "J" (.long y3) ∧ Exa Z h a11 sF ∧ Fld Z h a11 sF "requestClass" sK (.ref b1) ∧ Fld Z h a11 sF "firstKey" "J" (.long (-9223372036854775808)) ∧ Fld Z h a11 sF "lastKey" "J" (.long 9223372036854775807) ∧ Fld Z h b1 sR "allKeys" "Lcom/example/orderloom/orderloom/Footprint;" (.ref a11)) := by
  refine oMet.intro (plainFor_of_name pn_618879) (fun m => ef_2n1 m b1 b2 (0 : Int32) y3) ?_
  intro op oe os m obl omt ocd C
  refine oAloadN C d2_0 rfl rfl rfl ?_
  refine oInitO C (w21 hw) (w22 hw) (w23 hw) d2_1 rfl (W := 0) rfl rfl (by decide) (by decide) ?_
  refine oAloadN C d2_4 rfl rfl rfl ?_
  refine oAloadN C d2_5 rfl rfl rfl ?_
  refine oPutF C (w24 hw) Via.refl p2 p1 (Or.inr ⟨(w25 hw), rfl, rfl⟩) (w8 hw) (ty := (.object "com/example/orderloom/orderloom/RequestClasses")) (by decide) rfl rfl d2_6 rfl p3 fun h1 W1 => ?_
  have f1w := Fld.same W1 p2
  refine oAloadN C d2_9 rfl rfl rfl ?_
  refine oAloadN C d2_10 rfl rfl rfl ?_
  have f2 := (Exa.wr W1 p1)
  have f3 := (Fld.other W1 p4 (Or.inr (oSn0 hw 1 0)))
  refine oPutF C (w26 hw) Via.refl f3 f2 (Or.inr ⟨(w27 hw), rfl, rfl⟩) (w8 hw) (ty := (.object "java/lang/String")) (by decide) rfl rfl d2_11 rfl p3 fun h4 W4 => ?_
  have f4w := Fld.same W4 f3
  refine oAloadN C d2_14 rfl rfl rfl ?_
  refine oLconst C d2_15 (z := 1) rfl rfl ?_
  refine oIloadN C d2_16 rfl rfl ?_
  refine oLshl C d2_17 rfl ?_
  refine oCastL (z' := (1 : Int64)) (by decide) ?_
  have f5 := (Exa.wr W4 f2)
  have f6 := (Fld.other W4 (Fld.other W1 p5 (Or.inr (oSn0 hw 2 0))) (Or.inr (oSn0 hw 2 1)))
  refine oPutF C (w28 hw) Via.refl f6 f5 (Or.inr ⟨(w29 hw), rfl, rfl⟩) (w8 hw) (ty := .long) (by decide) rfl rfl d2_18 rfl p3 fun h7 W7 => ?_
  have f7w := Fld.same W7 f6
  refine oAloadN C d2_21 rfl rfl rfl ?_
  refine oLload C d2_22 rfl rfl ?_
  have f8 := (Exa.wr W7 f5)
  have f9 := (Fld.other W7 (Fld.other W4 (Fld.other W1 p6 (Or.inr (oSn0 hw 3 0))) (Or.inr (oSn0 hw 3 1))) (Or.inr (oSn0 hw 3 2)))
  refine oPutF C (w30 hw) Via.refl f9 f8 (Or.inr ⟨(w31 hw), rfl, rfl⟩) (w8 hw) (ty := .long) (by decide) rfl rfl d2_24 rfl p3 fun h10 W10 => ?_
  have f10w := Fld.same W10 f9
  refine oAloadN C d2_27 rfl rfl rfl ?_
  refine oNew C (w32 hw) (w33 hw) (w34 hw) d2_28 rfl (by decide) (by decide) fun a11 h11 g_a11 E11 X11 D11 => ?_
  have z12 := (Nat.le_trans (Nat.le_trans (Nat.le_trans (Nat.le_trans Z0 (Nat.le_of_eq W1.size.symm)) (Nat.le_of_eq W4.size.symm)) (Nat.le_of_eq W7.size.symm)) (Nat.le_of_eq W10.size.symm))
  have ge_a11 : n0 ≤ a11 := g_a11 ▸ z12
  have f11_requestClass : Fld Z h11 a11 sF "requestClass" sK (.null) := D11 (Or.inr (w42 hw)) (ty := (.object sR)) (by decide)
  have f11_firstKey : Fld Z h11 a11 sF "firstKey" "J" (.long 0) := D11 (Or.inr (w44 hw)) (ty := .long) (by decide)
  have f11_lastKey : Fld Z h11 a11 sF "lastKey" "J" (.long 0) := D11 (Or.inr (w46 hw)) (ty := .long) (by decide)
  refine oDup C d2_31 rfl rfl ?_
  refine oAloadN C d2_32 rfl rfl rfl ?_
  refine oLdc2 C (w35 hw) d2_33 rfl ?_
  refine oLdc2 C (w36 hw) d2_36 rfl ?_
  have z14 := (Nat.le_trans z12 E11.1)
  refine oCallC C (w37 hw) (w38 hw) (w34 hw) (w39 hw) d2_39 rfl (by decide) pd_33311 rfl rfl (a := a11) (argsL := [.ref b1, .long (-9223372036854775808), .long 9223372036854775807]) (rest := [.ref a11, .ref b1]) rfl (W := 2) rfl (q := 42) rfl (by decide) (by decide) (by decide) (by decide) (ac4_0 l Z a0 hw _ n0 z14 a11 b1 X11 f11_requestClass ge_a11 f11_firstKey f11_lastKey) (oVQ ?_)
  rintro h13 ⟨K13, f13_0, f13_1, f13_2⟩
  have f15 := (K13.exa (Exa.ext E11 (Exa.wr W10 f8)))
  have ne16 : b1 ≠ a11 := oNe' f10w.lt (Nat.le_of_eq g_a11.symm)
  have f17 := (K13.fld (Fld.ext E11 (Fld.other W10 (Fld.other W7 (Fld.other W4 (Fld.other W1 p7 (Or.inr (oSn0 hw 4 0))) (Or.inr (oSn0 hw 4 1))) (Or.inr (oSn0 hw 4 2))) (Or.inr (oSn0 hw 4 3)))) nin0 (oNF (Or.inl ne16) (oNF (Or.inl ne16) (oNF (Or.inl ne16) oN0))))
  refine oPutF C (w47 hw) Via.refl f17 f15 (Or.inr ⟨(w48 hw), rfl, rfl⟩) (w8 hw) (ty := (.object sF)) (by decide) rfl rfl d2_42 rfl p3 fun h18 W18 => ?_
  have f18w := Fld.same W18 f17
  refine oRetV C d2_45 (by decide) (by decide) ?_
  have f19 := (Fld.other W18 (K13.fld (Fld.ext E11 (Fld.other W10 (Fld.other W7 (Fld.other W4 f1w (Or.inr (oSn0 hw 0 1))) (Or.inr (oSn0 hw 0 2))) (Or.inr (oSn0 hw 0 3)))) nin0 (oNF (Or.inl ne16) (oNF (Or.inl ne16) (oNF (Or.inl ne16) oN0)))) (Or.inr (oSn0 hw 0 4)))
  have f20 := (Fld.other W18 (K13.fld (Fld.ext E11 (Fld.other W10 (Fld.other W7 f4w (Or.inr (oSn0 hw 1 2))) (Or.inr (oSn0 hw 1 3)))) nin0 (oNF (Or.inl ne16) (oNF (Or.inl ne16) (oNF (Or.inl ne16) oN0)))) (Or.inr (oSn0 hw 1 4)))
  have f21 := (Fld.other W18 (K13.fld (Fld.ext E11 (Fld.other W10 f7w (Or.inr (oSn0 hw 2 3)))) nin0 (oNF (Or.inl ne16) (oNF (Or.inl ne16) (oNF (Or.inl ne16) oN0)))) (Or.inr (oSn0 hw 2 4)))
  have f22 := (Fld.other W18 (K13.fld (Fld.ext E11 f10w) nin0 (oNF (Or.inl ne16) (oNF (Or.inl ne16) (oNF (Or.inl ne16) oN0)))) (Or.inr (oSn0 hw 3 4)))
  have f23 := (Exa.wr W18 (K13.exa X11))
  have f24 := (Fld.other W18 f13_0 (Or.inl (Ne.symm ne16)))
  have f25 := (Fld.other W18 f13_1 (Or.inl (Ne.symm ne16)))
  have f26 := (Fld.other W18 f13_2 (Or.inl (Ne.symm ne16)))
  exact ⟨_, rfl, ((((((((oKe.refl h0 [] [(b1, Jvm.RoadKit.slotOf Z sR "declaration" sJ), (b1, Jvm.RoadKit.slotOf Z sR "name" "Ljava/lang/String;"), (b1, Jvm.RoadKit.slotOf Z sR "bit" "J"), (b1, Jvm.RoadKit.slotOf Z sR "conflicts" "J"), (b1, Jvm.RoadKit.slotOf Z sR "allKeys" "Lcom/example/orderloom/orderloom/Footprint;")]).wrF W1 (Or.inl (List.mem_of_getElem? (i := 0) rfl))).wrF W4 (Or.inl (List.mem_of_getElem? (i := 1) rfl))).wrF W7 (Or.inl (List.mem_of_getElem? (i := 2) rfl))).wrF W10 (Or.inl (List.mem_of_getElem? (i := 3) rfl))).ext E11).trans K13 all0 (oAS (Or.inr (Nat.le_trans (((((oKe.refl h0 [] [(b1, Jvm.RoadKit.slotOf Z sR "declaration" sJ), (b1, Jvm.RoadKit.slotOf Z sR "name" "Ljava/lang/String;"), (b1, Jvm.RoadKit.slotOf Z sR "bit" "J"), (b1, Jvm.RoadKit.slotOf Z sR "conflicts" "J"), (b1, Jvm.RoadKit.slotOf Z sR "allKeys" "Lcom/example/orderloom/orderloom/Footprint;")]).wrF W1 (Or.inl (List.mem_of_getElem? (i := 0) rfl))).wrF W4 (Or.inl (List.mem_of_getElem? (i := 1) rfl))).wrF W7 (Or.inl (List.mem_of_getElem? (i := 2) rfl))).wrF W10 (Or.inl (List.mem_of_getElem? (i := 3) rfl))).1 (Nat.le_of_eq g_a11.symm))) (oAS (Or.inr (Nat.le_trans (((((oKe.refl h0 [] [(b1, Jvm.RoadKit.slotOf Z sR "declaration" sJ), (b1, Jvm.RoadKit.slotOf Z sR "name" "Ljava/lang/String;"), (b1, Jvm.RoadKit.slotOf Z sR "bit" "J"), (b1, Jvm.RoadKit.slotOf Z sR "conflicts" "J"), (b1, Jvm.RoadKit.slotOf Z sR "allKeys" "Lcom/example/orderloom/orderloom/Footprint;")]).wrF W1 (Or.inl (List.mem_of_getElem? (i := 0) rfl))).wrF W4 (Or.inl (List.mem_of_getElem? (i := 1) rfl))).wrF W7 (Or.inl (List.mem_of_getElem? (i := 2) rfl))).wrF W10 (Or.inl (List.mem_of_getElem? (i := 3) rfl))).1 (Nat.le_of_eq g_a11.symm))) (oAS (Or.inr (Nat.le_trans (((((oKe.refl h0 [] [(b1, Jvm.RoadKit.slotOf Z sR "declaration" sJ), (b1, Jvm.RoadKit.slotOf Z sR "name" "Ljava/lang/String;"), (b1, Jvm.RoadKit.slotOf Z sR "bit" "J"), (b1, Jvm.RoadKit.slotOf Z sR "conflicts" "J"), (b1, Jvm.RoadKit.slotOf Z sR "allKeys" "Lcom/example/orderloom/orderloom/Footprint;")]).wrF W1 (Or.inl (List.mem_of_getElem? (i := 0) rfl))).wrF W4 (Or.inl (List.mem_of_getElem? (i := 1) rfl))).wrF W7 (Or.inl (List.mem_of_getElem? (i := 2) rfl))).wrF W10 (Or.inl (List.mem_of_getElem? (i := 3) rfl))).1 (Nat.le_of_eq g_a11.symm))) oA0)))).wrF W18 (Or.inl (List.mem_of_getElem? (i := 4) rfl))), (Nat.le_trans (((((oKe.refl h0 [] [(b1, Jvm.RoadKit.slotOf Z sR "declaration" sJ), (b1, Jvm.RoadKit.slotOf Z sR "name" "Ljava/lang/String;"), (b1, Jvm.RoadKit.slotOf Z sR "bit" "J"), (b1, Jvm.RoadKit.slotOf Z sR "conflicts" "J"), (b1, Jvm.RoadKit.slotOf Z sR "allKeys" "Lcom/example/orderloom/orderloom/Footprint;")]).wrF W1 (Or.inl (List.mem_of_getElem? (i := 0) rfl))).wrF W4 (Or.inl (List.mem_of_getElem? (i := 1) rfl))).wrF W7 (Or.inl (List.mem_of_getElem? (i := 2) rfl))).wrF W10 (Or.inl (List.mem_of_getElem? (i := 3) rfl))).1 (Nat.le_of_eq g_a11.symm)), f19, f20, f21, f22, f23, f24, f25, f26, f18w⟩
theorem pd_999420 : parseMethodDescriptor "(Lcom/example/orderloom/orderloom/RequestClasses;Ljava/lang/String;IJ)V" = some ⟨[(.object "com/example/orderloom/orderloom/RequestClasses"), (.object "java/lang/String"), .int, .long], none⟩ := by decide +kernel
set_option maxRecDepth 65536 in
set_option maxHeartbeats 40000000 in
theorem ac2_2 (l : Launch) (Z : State) (a0 : Array Value) (hw : oHw a0 Z) (h0 : Heap) (n0 : Nat) (Z0 : n0 ≤ h0.size) (b1 : Addr) (b2 : Addr) (y3 : Int64) (p1 : Exa Z h0 b1 sR) (p2 : Fld Z h0 b1 sR "declaration" sJ (.null)) (p3 : n0 ≤ b1) (p4 : Fld Z h0 b1 sR "name" "Ljava/lang/String;" (.null)) (p5 : Fld Z h0 b1 sR "bit" "J" (.long 0)) (p6 : Fld Z h0 b1 sR "conflicts" "J" (.long 0)) (p7 : Fld Z h0 b1 sR "allKeys" "Lcom/example/orderloom/orderloom/Footprint;" (.null)) :
    oMet l Z (⟨sR, "<init>", "(Lcom/example/orderloom/orderloom/RequestClasses;Ljava/lang/String;IJ)V"⟩ : MethodName) prog_16_method_1_code 6 none [] ({ frames := 2, cells := 1, slots := 3, locals := 31 } : Room) 1 3 n0 #[.ref b1, .null, .ref b2, .int 1, .long y3] h0 (fun v h => ∃ a11 : Addr, v = none ∧ oKe h0 h [] [(b1, Jvm.RoadKit.slotOf Z sR "declaration" sJ), (b1, Jvm.RoadKit.slotOf Z sR "name" "Ljava/lang/String;"), (b1, Jvm.RoadKit.slotOf Z sR "bit" "J"), (b1, Jvm.RoadKit.slotOf Z sR "conflicts" "J"), (b1, Jvm.RoadKit.slotOf Z sR "allKeys" "Lcom/example/orderloom/orderloom/Footprint;")] ∧ h0.size ≤ a11 ∧ Fld Z h b1 sR "declaration" sJ (.null) ∧ Fld Z h b1 sR "name" "Ljava/lang/String;" (.ref b2) ∧ Fld Z h b1 sR "bit" "J" (.long 2) ∧ Fld Z h b1 sR "conflicts" "J" (.long y3) ∧ Exa Z h a11 sF ∧ Fld Z h a11 sF "requestClass" sK (.ref b1) ∧ Fld Z h a11 sF "firstKey" "J" (.long (-9223372036854775808)) ∧ Fld Z h a11 sF "lastKey" "J" (.long 9223372036854775807) ∧ Fld Z h b1 sR "allKeys" "Lcom/example/orderloom/orderloom/Footprint;" (.ref a11)) := by
  refine oMet.intro (plainFor_of_name pn_618879) (fun m => ef_2n1 m b1 b2 (1 : Int32) y3) ?_
  intro op oe os m obl omt ocd C
  refine oAloadN C d2_0 rfl rfl rfl ?_
  refine oInitO C (w21 hw) (w22 hw) (w23 hw) d2_1 rfl (W := 0) rfl rfl (by decide) (by decide) ?_
  refine oAloadN C d2_4 rfl rfl rfl ?_
  refine oAloadN C d2_5 rfl rfl rfl ?_
  refine oPutF C (w24 hw) Via.refl p2 p1 (Or.inr ⟨(w25 hw), rfl, rfl⟩) (w8 hw) (ty := (.object "com/example/orderloom/orderloom/RequestClasses")) (by decide) rfl rfl d2_6 rfl p3 fun h1 W1 => ?_
  have f1w := Fld.same W1 p2
  refine oAloadN C d2_9 rfl rfl rfl ?_
  refine oAloadN C d2_10 rfl rfl rfl ?_
  have f2 := (Exa.wr W1 p1)
  have f3 := (Fld.other W1 p4 (Or.inr (oSn0 hw 1 0)))
  refine oPutF C (w26 hw) Via.refl f3 f2 (Or.inr ⟨(w27 hw), rfl, rfl⟩) (w8 hw) (ty := (.object "java/lang/String")) (by decide) rfl rfl d2_11 rfl p3 fun h4 W4 => ?_
  have f4w := Fld.same W4 f3
  refine oAloadN C d2_14 rfl rfl rfl ?_
  refine oLconst C d2_15 (z := 1) rfl rfl ?_
  refine oIloadN C d2_16 rfl rfl ?_
  refine oLshl C d2_17 rfl ?_
  refine oCastL (z' := (2 : Int64)) (by decide) ?_
  have f5 := (Exa.wr W4 f2)
  have f6 := (Fld.other W4 (Fld.other W1 p5 (Or.inr (oSn0 hw 2 0))) (Or.inr (oSn0 hw 2 1)))
  refine oPutF C (w28 hw) Via.refl f6 f5 (Or.inr ⟨(w29 hw), rfl, rfl⟩) (w8 hw) (ty := .long) (by decide) rfl rfl d2_18 rfl p3 fun h7 W7 => ?_
  have f7w := Fld.same W7 f6
  refine oAloadN C d2_21 rfl rfl rfl ?_
  refine oLload C d2_22 rfl rfl ?_
  have f8 := (Exa.wr W7 f5)
  have f9 := (Fld.other W7 (Fld.other W4 (Fld.other W1 p6 (Or.inr (oSn0 hw 3 0))) (Or.inr (oSn0 hw 3 1))) (Or.inr (oSn0 hw 3 2)))
  refine oPutF C (w30 hw) Via.refl f9 f8 (Or.inr ⟨(w31 hw), rfl, rfl⟩) (w8 hw) (ty := .long) (by decide) rfl rfl d2_24 rfl p3 fun h10 W10 => ?_
  have f10w := Fld.same W10 f9
  refine oAloadN C d2_27 rfl rfl rfl ?_
  refine oNew C (w32 hw) (w33 hw) (w34 hw) d2_28 rfl (by decide) (by decide) fun a11 h11 g_a11 E11 X11 D11 => ?_
  have z12 := (Nat.le_trans (Nat.le_trans (Nat.le_trans (Nat.le_trans Z0 (Nat.le_of_eq W1.size.symm)) (Nat.le_of_eq W4.size.symm)) (Nat.le_of_eq W7.size.symm)) (Nat.le_of_eq W10.size.symm))
  have ge_a11 : n0 ≤ a11 := g_a11 ▸ z12
  have f11_requestClass : Fld Z h11 a11 sF "requestClass" sK (.null) := D11 (Or.inr (w42 hw)) (ty := (.object sR)) (by decide)
  have f11_firstKey : Fld Z h11 a11 sF "firstKey" "J" (.long 0) := D11 (Or.inr (w44 hw)) (ty := .long) (by decide)
  have f11_lastKey : Fld Z h11 a11 sF "lastKey" "J" (.long 0) := D11 (Or.inr (w46 hw)) (ty := .long) (by decide)
  refine oDup C d2_31 rfl rfl ?_
  refine oAloadN C d2_32 rfl rfl rfl ?_
  refine oLdc2 C (w35 hw) d2_33 rfl ?_
  refine oLdc2 C (w36 hw) d2_36 rfl ?_
  have z14 := (Nat.le_trans z12 E11.1)
  refine oCallC C (w37 hw) (w38 hw) (w34 hw) (w39 hw) d2_39 rfl (by decide) pd_33311 rfl rfl (a := a11) (argsL := [.ref b1, .long (-9223372036854775808), .long 9223372036854775807]) (rest := [.ref a11, .ref b1]) rfl (W := 2) rfl (q := 42) rfl (by decide) (by decide) (by decide) (by decide) (ac4_0 l Z a0 hw _ n0 z14 a11 b1 X11 f11_requestClass ge_a11 f11_firstKey f11_lastKey) (oVQ ?_)
  rintro h13 ⟨K13, f13_0, f13_1, f13_2⟩
  have f15 := (K13.exa (Exa.ext E11 (Exa.wr W10 f8)))
  have ne16 : b1 ≠ a11 := oNe' f10w.lt (Nat.le_of_eq g_a11.symm)
  have f17 := (K13.fld (Fld.ext E11 (Fld.other W10 (Fld.other W7 (Fld.other W4 (Fld.other W1 p7 (Or.inr (oSn0 hw 4 0))) (Or.inr (oSn0 hw 4 1))) (Or.inr (oSn0 hw 4 2))) (Or.inr (oSn0 hw 4 3)))) nin0 (oNF (Or.inl ne16) (oNF (Or.inl ne16) (oNF (Or.inl ne16) oN0))))
  refine oPutF C (w47 hw) Via.refl f17 f15 (Or.inr ⟨(w48 hw), rfl, rfl⟩) (w8 hw) (ty := (.object sF)) (by decide) rfl rfl d2_42 rfl p3 fun h18 W18 => ?_
  have f18w := Fld.same W18 f17
  refine oRetV C d2_45 (by decide) (by decide) ?_
  have f19 := (Fld.other W18 (K13.fld (Fld.ext E11 (Fld.other W10 (Fld.other W7 (Fld.other W4 f1w (Or.inr (oSn0 hw 0 1))) (Or.inr (oSn0 hw 0 2))) (Or.inr (oSn0 hw 0 3)))) nin0 (oNF (Or.inl ne16) (oNF (Or.inl ne16) (oNF (Or.inl ne16) oN0)))) (Or.inr (oSn0 hw 0 4)))
  have f20 := (Fld.other W18 (K13.fld (Fld.ext E11 (Fld.other W10 (Fld.other W7 f4w (Or.inr (oSn0 hw 1 2))) (Or.inr (oSn0 hw 1 3)))) nin0 (oNF (Or.inl ne16) (oNF (Or.inl ne16) (oNF (Or.inl ne16) oN0)))) (Or.inr (oSn0 hw 1 4)))
  have f21 := (Fld.other W18 (K13.fld (Fld.ext E11 (Fld.other W10 f7w (Or.inr (oSn0 hw 2 3)))) nin0 (oNF (Or.inl ne16) (oNF (Or.inl ne16) (oNF (Or.inl ne16) oN0)))) (Or.inr (oSn0 hw 2 4)))
  have f22 := (Fld.other W18 (K13.fld (Fld.ext E11 f10w) nin0 (oNF (Or.inl ne16) (oNF (Or.inl ne16) (oNF (Or.inl ne16) oN0)))) (Or.inr (oSn0 hw 3 4)))
  have f23 := (Exa.wr W18 (K13.exa X11))
  have f24 := (Fld.other W18 f13_0 (Or.inl (Ne.symm ne16)))
  have f25 := (Fld.other W18 f13_1 (Or.inl (Ne.symm ne16)))
  have f26 := (Fld.other W18 f13_2 (Or.inl (Ne.symm ne16)))
  exact ⟨_, rfl, ((((((((oKe.refl h0 [] [(b1, Jvm.RoadKit.slotOf Z sR "declaration" sJ), (b1, Jvm.RoadKit.slotOf Z sR "name" "Ljava/lang/String;"), (b1, Jvm.RoadKit.slotOf Z sR "bit" "J"), (b1, Jvm.RoadKit.slotOf Z sR "conflicts" "J"), (b1, Jvm.RoadKit.slotOf Z sR "allKeys" "Lcom/example/orderloom/orderloom/Footprint;")]).wrF W1 (Or.inl (List.mem_of_getElem? (i := 0) rfl))).wrF W4 (Or.inl (List.mem_of_getElem? (i := 1) rfl))).wrF W7 (Or.inl (List.mem_of_getElem? (i := 2) rfl))).wrF W10 (Or.inl (List.mem_of_getElem? (i := 3) rfl))).ext E11).trans K13 all0 (oAS (Or.inr (Nat.le_trans (((((oKe.refl h0 [] [(b1, Jvm.RoadKit.slotOf Z sR "declaration" sJ), (b1, Jvm.RoadKit.slotOf Z sR "name" "Ljava/lang/String;"), (b1, Jvm.RoadKit.slotOf Z sR "bit" "J"), (b1, Jvm.RoadKit.slotOf Z sR "conflicts" "J"), (b1, Jvm.RoadKit.slotOf Z sR "allKeys" "Lcom/example/orderloom/orderloom/Footprint;")]).wrF W1 (Or.inl (List.mem_of_getElem? (i := 0) rfl))).wrF W4 (Or.inl (List.mem_of_getElem? (i := 1) rfl))).wrF W7 (Or.inl (List.mem_of_getElem? (i := 2) rfl))).wrF W10 (Or.inl (List.mem_of_getElem? (i := 3) rfl))).1 (Nat.le_of_eq g_a11.symm))) (oAS (Or.inr (Nat.le_trans (((((oKe.refl h0 [] [(b1, Jvm.RoadKit.slotOf Z sR "declaration" sJ), (b1, Jvm.RoadKit.slotOf Z sR "name" "Ljava/lang/String;"), (b1, Jvm.RoadKit.slotOf Z sR "bit" "J"), (b1, Jvm.RoadKit.slotOf Z sR "conflicts" "J"), (b1, Jvm.RoadKit.slotOf Z sR "allKeys" "Lcom/example/orderloom/orderloom/Footprint;")]).wrF W1 (Or.inl (List.mem_of_getElem? (i := 0) rfl))).wrF W4 (Or.inl (List.mem_of_getElem? (i := 1) rfl))).wrF W7 (Or.inl (List.mem_of_getElem? (i := 2) rfl))).wrF W10 (Or.inl (List.mem_of_getElem? (i := 3) rfl))).1 (Nat.le_of_eq g_a11.symm))) (oAS (Or.inr (Nat.le_trans (((((oKe.refl h0 [] [(b1, Jvm.RoadKit.slotOf Z sR "declaration" sJ), (b1, Jvm.RoadKit.slotOf Z sR "name" "Ljava/lang/String;"), (b1, Jvm.RoadKit.slotOf Z sR "bit" "J"), (b1, Jvm.RoadKit.slotOf Z sR "conflicts" "J"), (b1, Jvm.RoadKit.slotOf Z sR "allKeys" "Lcom/example/orderloom/orderloom/Footprint;")]).wrF W1 (Or.inl (List.mem_of_getElem? (i := 0) rfl))).wrF W4 (Or.inl (List.mem_of_getElem? (i := 1) rfl))).wrF W7 (Or.inl (List.mem_of_getElem? (i := 2) rfl))).wrF W10 (Or.inl (List.mem_of_getElem? (i := 3) rfl))).1 (Nat.le_of_eq g_a11.symm))) oA0)))).wrF W18 (Or.inl (List.mem_of_getElem? (i := 4) rfl))), (Nat.le_trans (((((oKe.refl h0 [] [(b1, Jvm.RoadKit.slotOf Z sR "declaration" sJ), (b1, Jvm.RoadKit.slotOf Z sR "name" "Ljava/lang/String;"), (b1, Jvm.RoadKit.slotOf Z sR "bit" "J"), (b1, Jvm.RoadKit.slotOf Z sR "conflicts" "J"), (b1, Jvm.RoadKit.slotOf Z sR "allKeys" "Lcom/example/orderloom/orderloom/Footprint;")]).wrF W1 (Or.inl (List.mem_of_getElem? (i := 0) rfl))).wrF W4 (Or.inl (List.mem_of_getElem? (i := 1) rfl))).wrF W7 (Or.inl (List.mem_of_getElem? (i := 2) rfl))).wrF W10 (Or.inl (List.mem_of_getElem? (i := 3) rfl))).1 (Nat.le_of_eq g_a11.symm)), f19, f20, f21, f22, f23, f24, f25, f26, f18w⟩
set_option maxRecDepth 65536 in
set_option maxHeartbeats 40000000 in
theorem ac2_3 (l : Launch) (Z : State) (a0 : Array Value) (hw : oHw a0 Z) (h0 : Heap) (n0 : Nat) (Z0 : n0 ≤ h0.size) (b1 : Addr) (b2 : Addr) (y3 : Int64) (p1 : Exa Z h0 b1 sR) (p2 : Fld Z h0 b1 sR "declaration" sJ (.null)) (p3 : n0 ≤ b1) (p4 : Fld Z h0 b1 sR "name" "Ljava/lang/String;" (.null)) (p5 : Fld Z h0 b1 sR "bit" "J" (.long 0)) (p6 : Fld Z h0 b1 sR "conflicts" "J" (.long 0)) (p7 : Fld Z h0 b1 sR "allKeys" "Lcom/example/orderloom/orderloom/Footprint;" (.null)) :
    oMet l Z (⟨sR, "<init>", "(Lcom/example/orderloom/orderloom/RequestClasses;Ljava/lang/String;IJ)V"⟩ : MethodName) prog_16_method_1_code 6 none [] ({ frames := 2, cells := 1, slots := 3, locals := 31 } : Room) 1 3 n0 #[.ref b1, .null, .ref b2, .int 2, .long y3] h0 (fun v h => ∃ a11 : Addr, v = none ∧ oKe h0 h [] [(b1, Jvm.RoadKit.slotOf Z sR "declaration" sJ), (b1, Jvm.RoadKit.slotOf Z sR "name" "Ljava/lang/String;"), (b1, Jvm.RoadKit.slotOf Z sR "bit" "J"), (b1, Jvm.RoadKit.slotOf Z sR "conflicts" "J"), (b1, Jvm.RoadKit.slotOf Z sR "allKeys" "Lcom/example/orderloom/orderloom/Footprint;")] ∧ h0.size ≤ a11 ∧ Fld Z h b1 sR "declaration" sJ (.null) ∧ Fld Z h b1 sR "name" "Ljava/lang/String;" (.ref b2) ∧ Fld Z h b1 sR "bit" "J" (.long 4) ∧ Fld Z h b1 sR "conflicts" "J" (.long y3) ∧ Exa Z h a11 sF ∧ Fld Z h a11 sF "requestClass" sK (.ref b1) ∧ Fld Z h a11 sF "firstKey" "J" (.long (-9223372036854775808)) ∧ Fld Z h a11 sF "lastKey" "J" (.long 9223372036854775807) ∧ Fld Z h b1 sR "allKeys" "Lcom/example/orderloom/orderloom/Footprint;" (.ref a11)) := by
  refine oMet.intro (plainFor_of_name pn_618879) (fun m => ef_2n1 m b1 b2 (2 : Int32) y3) ?_
  intro op oe os m obl omt ocd C
  refine oAloadN C d2_0 rfl rfl rfl ?_
  refine oInitO C (w21 hw) (w22 hw) (w23 hw) d2_1 rfl (W := 0) rfl rfl (by decide) (by decide) ?_
  refine oAloadN C d2_4 rfl rfl rfl ?_
  refine oAloadN C d2_5 rfl rfl rfl ?_
  refine oPutF C (w24 hw) Via.refl p2 p1 (Or.inr ⟨(w25 hw), rfl, rfl⟩) (w8 hw) (ty := (.object "com/example/orderloom/orderloom/RequestClasses")) (by decide) rfl rfl d2_6 rfl p3 fun h1 W1 => ?_
  have f1w := Fld.same W1 p2
  refine oAloadN C d2_9 rfl rfl rfl ?_
  refine oAloadN C d2_10 rfl rfl rfl ?_
  have f2 := (Exa.wr W1 p1)
  have f3 := (Fld.other W1 p4 (Or.inr (oSn0 hw 1 0)))
  refine oPutF C (w26 hw) Via.refl f3 f2 (Or.inr ⟨(w27 hw), rfl, rfl⟩) (w8 hw) (ty := (.object "java/lang/String")) (by decide) rfl rfl d2_11 rfl p3 fun h4 W4 => ?_
  have f4w := Fld.same W4 f3
  refine oAloadN C d2_14 rfl rfl rfl ?_
  refine oLconst C d2_15 (z := 1) rfl rfl ?_
  refine oIloadN C d2_16 rfl rfl ?_
  refine oLshl C d2_17 rfl ?_
  refine oCastL (z' := (4 : Int64)) (by decide) ?_
  have f5 := (Exa.wr W4 f2)
  have f6 := (Fld.other W4 (Fld.other W1 p5 (Or.inr (oSn0 hw 2 0))) (Or.inr (oSn0 hw 2 1)))
  refine oPutF C (w28 hw) Via.refl f6 f5 (Or.inr ⟨(w29 hw), rfl, rfl⟩) (w8 hw) (ty := .long) (by decide) rfl rfl d2_18 rfl p3 fun h7 W7 => ?_
  have f7w := Fld.same W7 f6
  refine oAloadN C d2_21 rfl rfl rfl ?_
  refine oLload C d2_22 rfl rfl ?_
  have f8 := (Exa.wr W7 f5)
  have f9 := (Fld.other W7 (Fld.other W4 (Fld.other W1 p6 (Or.inr (oSn0 hw 3 0))) (Or.inr (oSn0 hw 3 1))) (Or.inr (oSn0 hw 3 2)))
  refine oPutF C (w30 hw) Via.refl f9 f8 (Or.inr ⟨(w31 hw), rfl, rfl⟩) (w8 hw) (ty := .long) (by decide) rfl rfl d2_24 rfl p3 fun h10 W10 => ?_
  have f10w := Fld.same W10 f9
  refine oAloadN C d2_27 rfl rfl rfl ?_
  refine oNew C (w32 hw) (w33 hw) (w34 hw) d2_28 rfl (by decide) (by decide) fun a11 h11 g_a11 E11 X11 D11 => ?_
  have z12 := (Nat.le_trans (Nat.le_trans (Nat.le_trans (Nat.le_trans Z0 (Nat.le_of_eq W1.size.symm)) (Nat.le_of_eq W4.size.symm)) (Nat.le_of_eq W7.size.symm)) (Nat.le_of_eq W10.size.symm))
  have ge_a11 : n0 ≤ a11 := g_a11 ▸ z12
  have f11_requestClass : Fld Z h11 a11 sF "requestClass" sK (.null) := D11 (Or.inr (w42 hw)) (ty := (.object sR)) (by decide)
  have f11_firstKey : Fld Z h11 a11 sF "firstKey" "J" (.long 0) := D11 (Or.inr (w44 hw)) (ty := .long) (by decide)
  have f11_lastKey : Fld Z h11 a11 sF "lastKey" "J" (.long 0) := D11 (Or.inr (w46 hw)) (ty := .long) (by decide)
  refine oDup C d2_31 rfl rfl ?_
  refine oAloadN C d2_32 rfl rfl rfl ?_
  refine oLdc2 C (w35 hw) d2_33 rfl ?_
  refine oLdc2 C (w36 hw) d2_36 rfl ?_
  have z14 := (Nat.le_trans z12 E11.1)
  refine oCallC C (w37 hw) (w38 hw) (w34 hw) (w39 hw) d2_39 rfl (by decide) pd_33311 rfl rfl (a := a11) (argsL := [.ref b1, .long (-9223372036854775808), .long 9223372036854775807]) (rest := [.ref a11, .ref b1]) rfl (W := 2) rfl (q := 42) rfl (by decide) (by decide) (by decide) (by decide) (ac4_0 l Z a0 hw _ n0 z14 a11 b1 X11 f11_requestClass ge_a11 f11_firstKey f11_lastKey) (oVQ ?_)
  rintro h13 ⟨K13, f13_0, f13_1, f13_2⟩
  have f15 := (K13.exa (Exa.ext E11 (Exa.wr W10 f8)))
  have ne16 : b1 ≠ a11 := oNe' f10w.lt (Nat.le_of_eq g_a11.symm)
  have f17 := (K13.fld (Fld.ext E11 (Fld.other W10 (Fld.other W7 (Fld.other W4 (Fld.other W1 p7 (Or.inr (oSn0 hw 4 0))) (Or.inr (oSn0 hw 4 1))) (Or.inr (oSn0 hw 4 2))) (Or.inr (oSn0 hw 4 3)))) nin0 (oNF (Or.inl ne16) (oNF (Or.inl ne16) (oNF (Or.inl ne16) oN0))))
  refine oPutF C (w47 hw) Via.refl f17 f15 (Or.inr ⟨(w48 hw), rfl, rfl⟩) (w8 hw) (ty := (.object sF)) (by decide) rfl rfl d2_42 rfl p3 fun h18 W18 => ?_
  have f18w := Fld.same W18 f17
  refine oRetV C d2_45 (by decide) (by decide) ?_
  have f19 := (Fld.other W18 (K13.fld (Fld.ext E11 (Fld.other W10 (Fld.other W7 (Fld.other W4 f1w (Or.inr (oSn0 hw 0 1))) (Or.inr (oSn0 hw 0 2))) (Or.inr (oSn0 hw 0 3)))) nin0 (oNF (Or.inl ne16) (oNF (Or.inl ne16) (oNF (Or.inl ne16) oN0)))) (Or.inr (oSn0 hw 0 4)))
  have f20 := (Fld.other W18 (K13.fld (Fld.ext E11 (Fld.other W10 (Fld.other W7 f4w (Or.inr (oSn0 hw 1 2))) (Or.inr (oSn0 hw 1 3)))) nin0 (oNF (Or.inl ne16) (oNF (Or.inl ne16) (oNF (Or.inl ne16) oN0)))) (Or.inr (oSn0 hw 1 4)))
  have f21 := (Fld.other W18 (K13.fld (Fld.ext E11 (Fld.other W10 f7w (Or.inr (oSn0 hw 2 3)))) nin0 (oNF (Or.inl ne16) (oNF (Or.inl ne16) (oNF (Or.inl ne16) oN0)))) (Or.inr (oSn0 hw 2 4)))
  have f22 := (Fld.other W18 (K13.fld (Fld.ext E11 f10w) nin0 (oNF (Or.inl ne16) (oNF (Or.inl ne16) (oNF (Or.inl ne16) oN0)))) (Or.inr (oSn0 hw 3 4)))
  have f23 := (Exa.wr W18 (K13.exa X11))
  have f24 := (Fld.other W18 f13_0 (Or.inl (Ne.symm ne16)))
  have f25 := (Fld.other W18 f13_1 (Or.inl (Ne.symm ne16)))
  have f26 := (Fld.other W18 f13_2 (Or.inl (Ne.symm ne16)))
  exact ⟨_, rfl, ((((((((oKe.refl h0 [] [(b1, Jvm.RoadKit.slotOf Z sR "declaration" sJ), (b1, Jvm.RoadKit.slotOf Z sR "name" "Ljava/lang/String;"), (b1, Jvm.RoadKit.slotOf Z sR "bit" "J"), (b1, Jvm.RoadKit.slotOf Z sR "conflicts" "J"), (b1, Jvm.RoadKit.slotOf Z sR "allKeys" "Lcom/example/orderloom/orderloom/Footprint;")]).wrF W1 (Or.inl (List.mem_of_getElem? (i := 0) rfl))).wrF W4 (Or.inl (List.mem_of_getElem? (i := 1) rfl))).wrF W7 (Or.inl (List.mem_of_getElem? (i := 2) rfl))).wrF W10 (Or.inl (List.mem_of_getElem? (i := 3) rfl))).ext E11).trans K13 all0 (oAS (Or.inr (Nat.le_trans (((((oKe.refl h0 [] [(b1, Jvm.RoadKit.slotOf Z sR "declaration" sJ), (b1, Jvm.RoadKit.slotOf Z sR "name" "Ljava/lang/String;"), (b1, Jvm.RoadKit.slotOf Z sR "bit" "J"), (b1, Jvm.RoadKit.slotOf Z sR "conflicts" "J"), (b1, Jvm.RoadKit.slotOf Z sR "allKeys" "Lcom/example/orderloom/orderloom/Footprint;")]).wrF W1 (Or.inl (List.mem_of_getElem? (i := 0) rfl))).wrF W4 (Or.inl (List.mem_of_getElem? (i := 1) rfl))).wrF W7 (Or.inl (List.mem_of_getElem? (i := 2) rfl))).wrF W10 (Or.inl (List.mem_of_getElem? (i := 3) rfl))).1 (Nat.le_of_eq g_a11.symm))) (oAS (Or.inr (Nat.le_trans (((((oKe.refl h0 [] [(b1, Jvm.RoadKit.slotOf Z sR "declaration" sJ), (b1, Jvm.RoadKit.slotOf Z sR "name" "Ljava/lang/String;"), (b1, Jvm.RoadKit.slotOf Z sR "bit" "J"), (b1, Jvm.RoadKit.slotOf Z sR "conflicts" "J"), (b1, Jvm.RoadKit.slotOf Z sR "allKeys" "Lcom/example/orderloom/orderloom/Footprint;")]).wrF W1 (Or.inl (List.mem_of_getElem? (i := 0) rfl))).wrF W4 (Or.inl (List.mem_of_getElem? (i := 1) rfl))).wrF W7 (Or.inl (List.mem_of_getElem? (i := 2) rfl))).wrF W10 (Or.inl (List.mem_of_getElem? (i := 3) rfl))).1 (Nat.le_of_eq g_a11.symm))) (oAS (Or.inr (Nat.le_trans (((((oKe.refl h0 [] [(b1, Jvm.RoadKit.slotOf Z sR "declaration" sJ), (b1, Jvm.RoadKit.slotOf Z sR "name" "Ljava/lang/String;"), (b1, Jvm.RoadKit.slotOf Z sR "bit" "J"), (b1, Jvm.RoadKit.slotOf Z sR "conflicts" "J"), (b1, Jvm.RoadKit.slotOf Z sR "allKeys" "Lcom/example/orderloom/orderloom/Footprint;")]).wrF W1 (Or.inl (List.mem_of_getElem? (i := 0) rfl))).wrF W4 (Or.inl (List.mem_of_getElem? (i := 1) rfl))).wrF W7 (Or.inl (List.mem_of_getElem? (i := 2) rfl))).wrF W10 (Or.inl (List.mem_of_getElem? (i := 3) rfl))).1 (Nat.le_of_eq g_a11.symm))) oA0)))).wrF W18 (Or.inl (List.mem_of_getElem? (i := 4) rfl))), (Nat.le_trans (((((oKe.refl h0 [] [(b1, Jvm.RoadKit.slotOf Z sR "declaration" sJ), (b1, Jvm.RoadKit.slotOf Z sR "name" "Ljava/lang/String;"), (b1, Jvm.RoadKit.slotOf Z sR "bit" "J"), (b1, Jvm.RoadKit.slotOf Z sR "conflicts" "J"), (b1, Jvm.RoadKit.slotOf Z sR "allKeys" "Lcom/example/orderloom/orderloom/Footprint;")]).wrF W1 (Or.inl (List.mem_of_getElem? (i := 0) rfl))).wrF W4 (Or.inl (List.mem_of_getElem? (i := 1) rfl))).wrF W7 (Or.inl (List.mem_of_getElem? (i := 2) rfl))).wrF W10 (Or.inl (List.mem_of_getElem? (i := 3) rfl))).1 (Nat.le_of_eq g_a11.symm)), f19, f20, f21, f22, f23, f24, f25, f26, f18w⟩
set_option maxRecDepth 65536 in
set_option maxHeartbeats 40000000 in
theorem ac2_4 (l : Launch) (Z : State) (a0 : Array Value) (hw : oHw a0 Z) (h0 : Heap) (n0 : Nat) (Z0 : n0 ≤ h0.size) (b1 : Addr) (b2 : Addr) (y3 : Int64) (p1 : Exa Z h0 b1 sR) (p2 : Fld Z h0 b1 sR "declaration" sJ (.null)) (p3 : n0 ≤ b1) (p4 : Fld Z h0 b1 sR "name" "Ljava/lang/String;" (.null)) (p5 : Fld Z h0 b1 sR "bit" "J" (.long 0)) (p6 : Fld Z h0 b1 sR "conflicts" "J" (.long 0)) (p7 : Fld Z h0 b1 sR "allKeys" "Lcom/example/orderloom/orderloom/Footprint;" (.null)) :
    oMet l Z (⟨sR, "<init>", "(Lcom/example/orderloom/orderloom/RequestClasses;Ljava/lang/String;IJ)V"⟩ : MethodName) prog_16_method_1_code 6 none [] ({ frames := 2, cells := 1, slots := 3, locals := 31 } : Room) 1 3 n0 #[.ref b1, .null, .ref b2, .int 3, .long y3] h0 (fun v h => ∃ a11 : Addr, v = none ∧ oKe h0 h [] [(b1, Jvm.RoadKit.slotOf Z sR "declaration" sJ), (b1, Jvm.RoadKit.slotOf Z sR "name" "Ljava/lang/String;"), (b1, Jvm.RoadKit.slotOf Z sR "bit" "J"), (b1, Jvm.RoadKit.slotOf Z sR "conflicts" "J"), (b1, Jvm.RoadKit.slotOf Z sR "allKeys" "Lcom/example/orderloom/orderloom/Footprint;")] ∧ h0.size ≤ a11 ∧ Fld Z h b1 sR "declaration" sJ (.null) ∧ Fld Z h b1 sR "name" "Ljava/lang/String;" (.ref b2) ∧ Fld Z h b1 sR "bit" "J" (.long 8) ∧ Fld Z h b1 sR "conflicts" "J" (.long y3) ∧ Exa Z h a11 sF ∧ Fld Z h a11 sF "requestClass" sK (.ref b1) ∧ Fld Z h a11 sF "firstKey" "J" (.long (-9223372036854775808)) ∧ Fld Z h a11 sF "lastKey" "J" (.long 9223372036854775807) ∧ Fld Z h b1 sR "allKeys" "Lcom/example/orderloom/orderloom/Footprint;" (.ref a11)) := by
  refine oMet.intro (plainFor_of_name pn_618879) (fun m => ef_2n1 m b1 b2 (3 : Int32) y3) ?_
  intro op oe os m obl omt ocd C
  refine oAloadN C d2_0 rfl rfl rfl ?_
  refine oInitO C (w21 hw) (w22 hw) (w23 hw) d2_1 rfl (W := 0) rfl rfl (by decide) (by decide) ?_
  refine oAloadN C d2_4 rfl rfl rfl ?_
  refine oAloadN C d2_5 rfl rfl rfl ?_
  refine oPutF C (w24 hw) Via.refl p2 p1 (Or.inr ⟨(w25 hw), rfl, rfl⟩) (w8 hw) (ty := (.object "com/example/orderloom/orderloom/RequestClasses")) (by decide) rfl rfl d2_6 rfl p3 fun h1 W1 => ?_
  have f1w := Fld.same W1 p2
  refine oAloadN C d2_9 rfl rfl rfl ?_
  refine oAloadN C d2_10 rfl rfl rfl ?_
  have f2 := (Exa.wr W1 p1)
  have f3 := (Fld.other W1 p4 (Or.inr (oSn0 hw 1 0)))
  refine oPutF C (w26 hw) Via.refl f3 f2 (Or.inr ⟨(w27 hw), rfl, rfl⟩) (w8 hw) (ty := (.object "java/lang/String")) (by decide) rfl rfl d2_11 rfl p3 fun h4 W4 => ?_
  have f4w := Fld.same W4 f3
  refine oAloadN C d2_14 rfl rfl rfl ?_
  refine oLconst C d2_15 (z := 1) rfl rfl ?_
  refine oIloadN C d2_16 rfl rfl ?_
  refine oLshl C d2_17 rfl ?_
  refine oCastL (z' := (8 : Int64)) (by decide) ?_
  have f5 := (Exa.wr W4 f2)
  have f6 := (Fld.other W4 (Fld.other W1 p5 (Or.inr (oSn0 hw 2 0))) (Or.inr (oSn0 hw 2 1)))
  refine oPutF C (w28 hw) Via.refl f6 f5 (Or.inr ⟨(w29 hw), rfl, rfl⟩) (w8 hw) (ty := .long) (by decide) rfl rfl d2_18 rfl p3 fun h7 W7 => ?_
  have f7w := Fld.same W7 f6
  refine oAloadN C d2_21 rfl rfl rfl ?_
  refine oLload C d2_22 rfl rfl ?_
  have f8 := (Exa.wr W7 f5)
  have f9 := (Fld.other W7 (Fld.other W4 (Fld.other W1 p6 (Or.inr (oSn0 hw 3 0))) (Or.inr (oSn0 hw 3 1))) (Or.inr (oSn0 hw 3 2)))
  refine oPutF C (w30 hw) Via.refl f9 f8 (Or.inr ⟨(w31 hw), rfl, rfl⟩) (w8 hw) (ty := .long) (by decide) rfl rfl d2_24 rfl p3 fun h10 W10 => ?_
  have f10w := Fld.same W10 f9
  refine oAloadN C d2_27 rfl rfl rfl ?_
  refine oNew C (w32 hw) (w33 hw) (w34 hw) d2_28 rfl (by decide) (by decide) fun a11 h11 g_a11 E11 X11 D11 => ?_
  have z12 := (Nat.le_trans (Nat.le_trans (Nat.le_trans (Nat.le_trans Z0 (Nat.le_of_eq W1.size.symm)) (Nat.le_of_eq W4.size.symm)) (Nat.le_of_eq W7.size.symm)) (Nat.le_of_eq W10.size.symm))
  have ge_a11 : n0 ≤ a11 := g_a11 ▸ z12
  have f11_requestClass : Fld Z h11 a11 sF "requestClass" sK (.null) := D11 (Or.inr (w42 hw)) (ty := (.object sR)) (by decide)
  have f11_firstKey : Fld Z h11 a11 sF "firstKey" "J" (.long 0) := D11 (Or.inr (w44 hw)) (ty := .long) (by decide)
  have f11_lastKey : Fld Z h11 a11 sF "lastKey" "J" (.long 0) := D11 (Or.inr (w46 hw)) (ty := .long) (by decide)
  refine oDup C d2_31 rfl rfl ?_
  refine oAloadN C d2_32 rfl rfl rfl ?_
  refine oLdc2 C (w35 hw) d2_33 rfl ?_
  refine oLdc2 C (w36 hw) d2_36 rfl ?_
  have z14 := (Nat.le_trans z12 E11.1)
  refine oCallC C (w37 hw) (w38 hw) (w34 hw) (w39 hw) d2_39 rfl (by decide) pd_33311 rfl rfl (a := a11) (argsL := [.ref b1, .long (-9223372036854775808), .long 9223372036854775807]) (rest := [.ref a11, .ref b1]) rfl (W := 2) rfl (q := 42) rfl (by decide) (by decide) (by decide) (by decide) (ac4_0 l Z a0 hw _ n0 z14 a11 b1 X11 f11_requestClass ge_a11 f11_firstKey f11_lastKey) (oVQ ?_)
  rintro h13 ⟨K13, f13_0, f13_1, f13_2⟩
  have f15 := (K13.exa (Exa.ext E11 (Exa.wr W10 f8)))
  have ne16 : b1 ≠ a11 := oNe' f10w.lt (Nat.le_of_eq g_a11.symm)
  have f17 := (K13.fld (Fld.ext E11 (Fld.other W10 (Fld.other W7 (Fld.other W4 (Fld.other W1 p7 (Or.inr (oSn0 hw 4 0))) (Or.inr (oSn0 hw 4 1))) (Or.inr (oSn0 hw 4 2))) (Or.inr (oSn0 hw 4 3)))) nin0 (oNF (Or.inl ne16) (oNF (Or.inl ne16) (oNF (Or.inl ne16) oN0))))
  refine oPutF C (w47 hw) Via.refl f17 f15 (Or.inr ⟨(w48 hw), rfl, rfl⟩) (w8 hw) (ty := (.object sF)) (by decide) rfl rfl d2_42 rfl p3 fun h18 W18 => ?_
  have f18w := Fld.same W18 f17
  refine oRetV C d2_45 (by decide) (by decide) ?_
  have f19 := (Fld.other W18 (K13.fld (Fld.ext E11 (Fld.other W10 (Fld.other W7 (Fld.other W4 f1w (Or.inr (oSn0 hw 0 1))) (Or.inr (oSn0 hw 0 2))) (Or.inr (oSn0 hw 0 3)))) nin0 (oNF (Or.inl ne16) (oNF (Or.inl ne16) (oNF (Or.inl ne16) oN0)))) (Or.inr (oSn0 hw 0 4)))
  have f20 := (Fld.other W18 (K13.fld (Fld.ext E11 (Fld.other W10 (Fld.other W7 f4w (Or.inr (oSn0 hw 1 2))) (Or.inr (oSn0 hw 1 3)))) nin0 (oNF (Or.inl ne16) (oNF (Or.inl ne16) (oNF (Or.inl ne16) oN0)))) (Or.inr (oSn0 hw 1 4)))
  have f21 := (Fld.other W18 (K13.fld (Fld.ext E11 (Fld.other W10 f7w (Or.inr (oSn0 hw 2 3)))) nin0 (oNF (Or.inl ne16) (oNF (Or.inl ne16) (oNF (Or.inl ne16) oN0)))) (Or.inr (oSn0 hw 2 4)))
  have f22 := (Fld.other W18 (K13.fld (Fld.ext E11 f10w) nin0 (oNF (Or.inl ne16) (oNF (Or.inl ne16) (oNF (Or.inl ne16) oN0)))) (Or.inr (oSn0 hw 3 4)))
  have f23 := (Exa.wr W18 (K13.exa X11))
  have f24 := (Fld.other W18 f13_0 (Or.inl (Ne.symm ne16)))
  have f25 := (Fld.other W18 f13_1 (Or.inl (Ne.symm ne16)))
  have f26 := (Fld.other W18 f13_2 (Or.inl (Ne.symm ne16)))
  exact ⟨_, rfl, ((((((((oKe.refl h0 [] [(b1, Jvm.RoadKit.slotOf Z sR "declaration" sJ), (b1, Jvm.RoadKit.slotOf Z sR "name" "Ljava/lang/String;"), (b1, Jvm.RoadKit.slotOf Z sR "bit" "J"), (b1, Jvm.RoadKit.slotOf Z sR "conflicts" "J"), (b1, Jvm.RoadKit.slotOf Z sR "allKeys" "Lcom/example/orderloom/orderloom/Footprint;")]).wrF W1 (Or.inl (List.mem_of_getElem? (i := 0) rfl))).wrF W4 (Or.inl (List.mem_of_getElem? (i := 1) rfl))).wrF W7 (Or.inl (List.mem_of_getElem? (i := 2) rfl))).wrF W10 (Or.inl (List.mem_of_getElem? (i := 3) rfl))).ext E11).trans K13 all0 (oAS (Or.inr (Nat.le_trans (((((oKe.refl h0 [] [(b1, Jvm.RoadKit.slotOf Z sR "declaration" sJ), (b1, Jvm.RoadKit.slotOf Z sR "name" "Ljava/lang/String;"), (b1, Jvm.RoadKit.slotOf Z sR "bit" "J"), (b1, Jvm.RoadKit.slotOf Z sR "conflicts" "J"), (b1, Jvm.RoadKit.slotOf Z sR "allKeys" "Lcom/example/orderloom/orderloom/Footprint;")]).wrF W1 (Or.inl (List.mem_of_getElem? (i := 0) rfl))).wrF W4 (Or.inl (List.mem_of_getElem? (i := 1) rfl))).wrF W7 (Or.inl (List.mem_of_getElem? (i := 2) rfl))).wrF W10 (Or.inl (List.mem_of_getElem? (i := 3) rfl))).1 (Nat.le_of_eq g_a11.symm))) (oAS (Or.inr (Nat.le_trans (((((oKe.refl h0 [] [(b1, Jvm.RoadKit.slotOf Z sR "declaration" sJ), (b1, Jvm.RoadKit.slotOf Z sR "name" "Ljava/lang/String;"), (b1, Jvm.RoadKit.slotOf Z sR "bit" "J"), (b1, Jvm.RoadKit.slotOf Z sR "conflicts" "J"), (b1, Jvm.RoadKit.slotOf Z sR "allKeys" "Lcom/example/orderloom/orderloom/Footprint;")]).wrF W1 (Or.inl (List.mem_of_getElem? (i := 0) rfl))).wrF W4 (Or.inl (List.mem_of_getElem? (i := 1) rfl))).wrF W7 (Or.inl (List.mem_of_getElem? (i := 2) rfl))).wrF W10 (Or.inl (List.mem_of_getElem? (i := 3) rfl))).1 (Nat.le_of_eq g_a11.symm))) (oAS (Or.inr (Nat.le_trans (((((oKe.refl h0 [] [(b1, Jvm.RoadKit.slotOf Z sR "declaration" sJ), (b1, Jvm.RoadKit.slotOf Z sR "name" "Ljava/lang/String;"), (b1, Jvm.RoadKit.slotOf Z sR "bit" "J"), (b1, Jvm.RoadKit.slotOf Z sR "conflicts" "J"), (b1, Jvm.RoadKit.slotOf Z sR "allKeys" "Lcom/example/orderloom/orderloom/Footprint;")]).wrF W1 (Or.inl (List.mem_of_getElem? (i := 0) rfl))).wrF W4 (Or.inl (List.mem_of_getElem? (i := 1) rfl))).wrF W7 (Or.inl (List.mem_of_getElem? (i := 2) rfl))).wrF W10 (Or.inl (List.mem_of_getElem? (i := 3) rfl))).1 (Nat.le_of_eq g_a11.symm))) oA0)))).wrF W18 (Or.inl (List.mem_of_getElem? (i := 4) rfl))), (Nat.le_trans (((((oKe.refl h0 [] [(b1, Jvm.RoadKit.slotOf Z sR "declaration" sJ), (b1, Jvm.RoadKit.slotOf Z sR "name" "Ljava/lang/String;"), (b1, Jvm.RoadKit.slotOf Z sR "bit" "J"), (b1, Jvm.RoadKit.slotOf Z sR "conflicts" "J"), (b1, Jvm.RoadKit.slotOf Z sR "allKeys" "Lcom/example/orderloom/orderloom/Footprint;")]).wrF W1 (Or.inl (List.mem_of_getElem? (i := 0) rfl))).wrF W4 (Or.inl (List.mem_of_getElem? (i := 1) rfl))).wrF W7 (Or.inl (List.mem_of_getElem? (i := 2) rfl))).wrF W10 (Or.inl (List.mem_of_getElem? (i := 3) rfl))).1 (Nat.le_of_eq g_a11.symm)), f19, f20, f21, f22, f23, f24, f25, f26, f18w⟩
theorem ef_5 (m : MethodId) (x0 : Addr) : entryFrame m #[.ref x0] 1 = mkF m 0 #[.val (.ref x0)] [] := by first | (simp [entryFrame, mkF, argsToLocals, Value.category]; done) | rfl
theorem pn_346561 : plainName sA = true := by first | (simp [plainName, overriddenIn]; done) | decide +kernel
theorem ef_6 (m : MethodId) (x0 : Addr) : entryFrame m #[.ref x0] 1 = mkF m 0 #[.val (.ref x0)] [] := by first | (simp [entryFrame, mkF, argsToLocals, Value.category]; done) | rfl
theorem pn_380154 : plainName "java/util/AbstractList" = true := by first | (simp [plainName, overriddenIn]; done) | decide +kernel
theorem ef_7 (m : MethodId) (x0 : Addr) : entryFrame m #[.ref x0] 1 = mkF m 0 #[.val (.ref x0)] [] := by first | (simp [entryFrame, mkF, argsToLocals, Value.category]; done) | rfl
theorem pn_348201 : plainName "java/util/AbstractCollection" = true := by first | (simp [plainName, overriddenIn]; done) | decide +kernel
theorem d7_0 : decode jdk_22_method_1_code 0 = .ok (.aload_n 0, 1) := by decide +kernel
theorem d7_1 : decode jdk_22_method_1_code 1 = .ok (.invokespecial 1, 3) := by decide +kernel
theorem d7_4 : decode jdk_22_method_1_code 4 = .ok (.return_, 1) := by decide +kernel
set_option maxRecDepth 65536 in
set_option maxHeartbeats 40000000 in
theorem ac7_5 (l : Launch) (Z : State) (a0 : Array Value) (hw : oHw a0 Z) (h0 : Heap) (n0 : Nat) (Z0 : n0 ≤ h0.size) (b1 : Addr)  :
    oMet l Z (⟨"java/util/AbstractCollection", "<init>", "()V"⟩ : MethodName) jdk_22_method_1_code 1 none [] ({ frames := 1, cells := 0, slots := 0, locals := 12 } : Room) 0 0 n0 #[.ref b1] h0 (fun v h => v = none ∧ h = h0) := by
  refine oMet.intro (plainFor_of_name pn_348201) (fun m => ef_7 m b1) ?_
  intro op oe os m obl omt ocd C
  refine oAloadN C d7_0 rfl rfl rfl ?_
  refine oInitO C (w70 hw) (w22 hw) (w23 hw) d7_1 rfl (W := 0) rfl rfl (by decide) (by decide) ?_
  refine oRetV C d7_4 (by decide) (by decide) ?_
  exact ⟨rfl, rfl⟩
theorem pd_428486 : parseMethodDescriptor "()V" = some ⟨[], none⟩ := by decide +kernel
theorem d6_0 : decode jdk_39_method_1_code 0 = .ok (.aload_n 0, 1) := by decide +kernel
theorem d6_1 : decode jdk_39_method_1_code 1 = .ok (.invokespecial 1, 3) := by decide +kernel
theorem d6_4 : decode jdk_39_method_1_code 4 = .ok (.aload_n 0, 1) := by decide +kernel
theorem d6_5 : decode jdk_39_method_1_code 5 = .ok (.iconst 0, 1) := by decide +kernel
theorem d6_6 : decode jdk_39_method_1_code 6 = .ok (.putfield 7, 3) := by decide +kernel
theorem d6_9 : decode jdk_39_method_1_code 9 = .ok (.return_, 1) := by decide +kernel
set_option maxRecDepth 65536 in
set_option maxHeartbeats 40000000 in
theorem ac6_6 (l : Launch) (Z : State) (a0 : Array Value) (hw : oHw a0 Z) (h0 : Heap) (n0 : Nat) (Z0 : n0 ≤ h0.size) (b1 : Addr) (p1 : Exa Z h0 b1 sA) (p2 : Fld Z h0 b1 "java/util/AbstractList" "modCount" "I" (.int 0)) (p3 : n0 ≤ b1) :
    oMet l Z (⟨"java/util/AbstractList", "<init>", "()V"⟩ : MethodName) jdk_39_method_1_code 1 none [] ({ frames := 2, cells := 0, slots := 0, locals := 24 } : Room) 0 0 n0 #[.ref b1] h0 (fun v h => v = none ∧ oKe h0 h [] [(b1, Jvm.RoadKit.slotOf Z "java/util/AbstractList" "modCount" "I")] ∧ Fld Z h b1 "java/util/AbstractList" "modCount" "I" (.int 0)) := by
  refine oMet.intro (plainFor_of_name pn_380154) (fun m => ef_6 m b1) ?_
  intro op oe os m obl omt ocd C
  refine oAloadN C d6_0 rfl rfl rfl ?_
  refine oCallC C (w64 hw) (w65 hw) (w68 hw) (w69 hw) d6_1 rfl (by decide) pd_428486 rfl rfl (a := b1) (argsL := []) (rest := []) rfl (W := 0) rfl (q := 4) rfl (by decide) (by decide) (by decide) (by decide) (ac7_5 l Z a0 hw _ n0 Z0 b1 ) (oVoidK ?_)
  refine oAloadN C d6_4 rfl rfl rfl ?_
  refine oIconst C d6_5 (z := 0) rfl rfl ?_
  refine oPutF C (w71 hw) Via.refl p2 p1 (Or.inl (w72 hw)) (w53 hw) (ty := .int) (by decide) rfl rfl d6_6 rfl p3 fun h2 W2 => ?_
  have f2w := Fld.same W2 p2
  refine oRetV C d6_9 (by decide) (by decide) ?_
  exact ⟨rfl, ((oKe.refl h0 [] [(b1, Jvm.RoadKit.slotOf Z "java/util/AbstractList" "modCount" "I")]).wrF W2 (Or.inl (List.mem_of_getElem? (i := 0) rfl))), f2w⟩
def oFL2 : List (String × String × String) := [("java/util/AbstractList", "modCount", "I"), (sA, "elementData", sG), (sA, "size", "I")]
theorem oLa2 {a0 : Array Value} {Z : State} (hw : oHw a0 Z) : ∀ p ∈ oFL2, Laid Z a0 sA p.1 p.2.1 p.2.2 ∧ ∃ t, parseFieldDescriptor p.2.2 = some t := by
  intro p hp
  simp only [oFL2, List.mem_cons, List.not_mem_nil, or_false] at hp
  rcases hp with rfl | rfl | rfl
  · exact ⟨(Or.inl (w72 hw)), _, (by decide : parseFieldDescriptor "I" = some .int)⟩
  · exact ⟨(Or.inl (w75 hw)), _, (by decide : parseFieldDescriptor sG = some (.array (.object sO)))⟩
  · exact ⟨(Or.inl (w93 hw)), _, (by decide : parseFieldDescriptor "I" = some .int)⟩
theorem oSn2 {a0 : Array Value} {Z : State} (hw : oHw a0 Z) (i j : Nat) {O n d O' n' d' : String} (hi : oFL2[i]? = some (O, n, d) := by rfl) (hj : oFL2[j]? = some (O', n', d') := by rfl) (hn : n ≠ n' := by decide) : Jvm.RoadKit.slotOf Z O n d ≠ Jvm.RoadKit.slotOf Z O' n' d' := by
  obtain ⟨l1, t1, e1⟩ := oLa2 hw _ (List.mem_of_getElem? hi)
  obtain ⟨l2, t2, e2⟩ := oLa2 hw _ (List.mem_of_getElem? hj)
  exact slot_ne l1 l2 hn e1 e2
theorem d5_0 : decode jdk_38_method_2_code 0 = .ok (.aload_n 0, 1) := by decide +kernel
theorem d5_1 : decode jdk_38_method_2_code 1 = .ok (.invokespecial 1, 3) := by decide +kernel
theorem d5_4 : decode jdk_38_method_2_code 4 = .ok (.aload_n 0, 1) := by decide +kernel
theorem d5_5 : decode jdk_38_method_2_code 5 = .ok (.getstatic 39, 3) := by decide +kernel
theorem d5_8 : decode jdk_38_method_2_code 8 = .ok (.putfield 9, 3) := by decide +kernel
theorem d5_11 : decode jdk_38_method_2_code 11 = .ok (.return_, 1) := by decide +kernel
set_option maxRecDepth 65536 in
set_option maxHeartbeats 40000000 in
theorem ac5_7 (l : Launch) (Z : State) (a0 : Array Value) (hw : oHw a0 Z) (h0 : Heap) (n0 : Nat) (Z0 : n0 ≤ h0.size) (b1 : Addr) (b2 : Addr) (p1 : Exa Z h0 b1 sA) (p2 : Fld Z h0 b1 "java/util/AbstractList" "modCount" "I" (.int 0)) (p3 : n0 ≤ b1) (p4 : oSta Z n0 h0 sA sD sG (.ref b2)) (p5 : Fld Z h0 b1 sA "elementData" sG (.null)) :
    oMet l Z (⟨sA, "<init>", "()V"⟩ : MethodName) jdk_38_method_2_code 1 none [] ({ frames := 3, cells := 0, slots := 0, locals := 36 } : Room) 0 0 n0 #[.ref b1] h0 (fun v h => v = none ∧ oKe h0 h [] [(b1, Jvm.RoadKit.slotOf Z "java/util/AbstractList" "modCount" "I"), (b1, Jvm.RoadKit.slotOf Z sA "elementData" sG)] ∧ Fld Z h b1 "java/util/AbstractList" "modCount" "I" (.int 0) ∧ Fld Z h b1 sA "elementData" sG (.ref b2)) := by
  refine oMet.intro (plainFor_of_name pn_346561) (fun m => ef_5 m b1) ?_
  intro op oe os m obl omt ocd C
  refine oAloadN C d5_0 rfl rfl rfl ?_
  refine oCallC C (w58 hw) (w59 hw) (w62 hw) (w63 hw) d5_1 rfl (by decide) pd_428486 rfl rfl (a := b1) (argsL := []) (rest := []) rfl (W := 0) rfl (q := 4) rfl (by decide) (by decide) (by decide) (by decide) (ac6_6 l Z a0 hw _ n0 Z0 b1 p1 p2 p3) (oVQ ?_)
  rintro h1 ⟨K1, f1_0⟩
  refine oAloadN C d5_4 rfl rfl rfl ?_
  have f2 := (K1.sta p4 all0 (oAS p3 oA0))
  refine oGetS C (w73 hw) Via.refl f2.sta d5_5 rfl ?_
  have f3 := (K1.exa p1)
  have f4 := (K1.fld p5 nin0 (oNF (Or.inr (oSn2 hw 1 0)) oN0))
  refine oPutF C (w74 hw) Via.refl f4 f3 (Or.inl (w75 hw)) (w53 hw) (ty := (.array (.object sO))) (by decide) rfl rfl d5_8 rfl p3 fun h5 W5 => ?_
  have f5w := Fld.same W5 f4
  refine oRetV C d5_11 (by decide) (by decide) ?_
  have f6 := (Fld.other W5 f1_0 (Or.inr (oSn2 hw 0 1)))
  exact ⟨rfl, (((oKe.refl h0 [] [(b1, Jvm.RoadKit.slotOf Z "java/util/AbstractList" "modCount" "I"), (b1, Jvm.RoadKit.slotOf Z sA "elementData" sG)]).trans K1 all0 (oAS (Or.inl (List.mem_of_getElem? (i := 0) rfl)) oA0)).wrF W5 (Or.inl (List.mem_of_getElem? (i := 1) rfl))), f6, f5w⟩
theorem ef_8 (m : MethodId) (x0 : Addr) : entryFrame m #[.ref x0] 1 = mkF m 0 #[.val (.ref x0)] [] := by first | (simp [entryFrame, mkF, argsToLocals, Value.category]; done) | rfl
theorem d8_0 : decode prog_16_method_4_code 0 = .ok (.aload_n 0, 1) := by decide +kernel
theorem d8_1 : decode prog_16_method_4_code 1 = .ok (.getfield 35, 3) := by decide +kernel
theorem d8_4 : decode prog_16_method_4_code 4 = .ok (.areturn, 1) := by decide +kernel
set_option maxRecDepth 65536 in
set_option maxHeartbeats 40000000 in
theorem ac8_8 (l : Launch) (Z : State) (a0 : Array Value) (hw : oHw a0 Z) (h0 : Heap) (n0 : Nat) (Z0 : n0 ≤ h0.size) (b1 : Addr) (b2 : Addr) (p1 : Fld Z h0 b1 sR "allKeys" "Lcom/example/orderloom/orderloom/Footprint;" (.ref b2)) :
    oMet l Z (⟨sR, "allKeys", "()Lcom/example/orderloom/orderloom/Footprint;"⟩ : MethodName) prog_16_method_4_code 1 (some (.object sF)) [] ({ frames := 0, cells := 0, slots := 0, locals := 0 } : Room) 0 0 n0 #[.ref b1] h0 (fun v h => v = some (.ref b2) ∧ h = h0) := by
  refine oMet.intro (plainFor_of_name pn_618879) (fun m => ef_8 m b1) ?_
  intro op oe os m obl omt ocd C
  refine oAloadN C d8_0 rfl rfl rfl ?_
  refine oGetF C (w47 hw) Via.refl p1 d8_1 rfl ?_
  refine oRetA C rfl rfl d8_4 (by decide) (by decide) ?_
  exact ⟨rfl, rfl⟩
theorem pd_966329 : parseMethodDescriptor "()Lcom/example/orderloom/orderloom/Footprint;" = some ⟨[], some (.object sF)⟩ := by decide +kernel
theorem ef_9 (m : MethodId) (x0 : Addr) (x1 : Addr) : entryFrame m #[.ref x0, .ref x1] 2 = mkF m 0 #[.val (.ref x0), .val (.ref x1)] [] := by first | (simp [entryFrame, mkF, argsToLocals, Value.category]; done) | rfl
theorem ef_10 (m : MethodId) (x0 : Addr) (x1 : Addr) (x2 : Addr) (x3 : Int32) : entryFrame m #[.ref x0, .ref x1, .ref x2, .int x3] 4 = mkF m 0 #[.val (.ref x0), .val (.ref x1), .val (.ref x2), .val (.int x3)] [] := by first | (simp [entryFrame, mkF, argsToLocals, Value.category]; done) | rfl
theorem ef_11 (m : MethodId) (x0 : Addr) : entryFrame m #[.ref x0] 1 = mkF m 0 #[.val (.ref x0)] [] := by first | (simp [entryFrame, mkF, argsToLocals, Value.category]; done) | rfl
theorem ef_12 (m : MethodId) (x0 : Addr) (x1 : Int32) : entryFrame m #[.ref x0, .int x1] 4 = mkF m 0 #[.val (.ref x0), .val (.int x1), .unset, .unset] [] := by first | (simp [entryFrame, mkF, argsToLocals, Value.category]; done) | rfl
theorem ef_13 (m : MethodId) (x0 : Int32) (x1 : Int32) : entryFrame m #[.int x0, .int x1] 2 = mkF m 0 #[.val (.int x0), .val (.int x1)] [] := by first | (simp [entryFrame, mkF, argsToLocals, Value.category]; done) | rfl
theorem d13_0 : decode jdk_29_method_65_code 0 = .ok (.iload_n 0, 1) := by decide +kernel
theorem d13_1 : decode jdk_29_method_65_code 1 = .ok (.iload_n 1, 1) := by decide +kernel
theorem d13_2 : decode jdk_29_method_65_code 2 = .ok (.if_icmp .lt 7, 3) := by decide +kernel
theorem d13_5 : decode jdk_29_method_65_code 5 = .ok (.iload_n 0, 1) := by decide +kernel
theorem d13_6 : decode jdk_29_method_65_code 6 = .ok (.goto 4, 3) := by decide +kernel
theorem d13_10 : decode jdk_29_method_65_code 10 = .ok (.ireturn, 1) := by decide +kernel
set_option maxRecDepth 65536 in
set_option maxHeartbeats 40000000 in
theorem ac13_9 (l : Launch) (Z : State) (a0 : Array Value) (hw : oHw a0 Z) (h0 : Heap) (n0 : Nat) (Z0 : n0 ≤ h0.size)   :
    oMet l Z (⟨"java/lang/Math", "max", "(II)I"⟩ : MethodName) jdk_29_method_65_code 2 (some .int) [] ({ frames := 0, cells := 0, slots := 0, locals := 0 } : Room) 0 0 n0 #[.int 10, .int 1] h0 (fun v h => v = some (.int 10) ∧ h = h0) := by
  refine oMet.intro (Jvm.Free.JP.mathPlain rfl (by decide +kernel)) (fun m => ef_13 m (10 : Int32) (1 : Int32)) ?_
  intro op oe os m obl omt ocd C
  refine oIloadN C d13_0 rfl rfl ?_
  refine oIloadN C d13_1 rfl rfl ?_
  refine oIcmp_lt C d13_2 (q := 9) (by decide) (by decide) (r := 5) rfl (fun hq => absurd hq ((by decide))) (fun hc2 => ?_)
  refine oIloadN C d13_5 rfl rfl ?_
  refine oGoto C d13_6 (q := 10) (by decide) (by decide) ?_
  refine oRetI C d13_10 (by decide) (by decide) ?_
  exact ⟨rfl, rfl⟩
theorem pd_947237 : parseMethodDescriptor "(II)I" = some ⟨[.int, .int], some .int⟩ := by decide +kernel
theorem d12_0 : decode jdk_38_method_6_code 0 = .ok (.aload_n 0, 1) := by decide +kernel
theorem d12_1 : decode jdk_38_method_6_code 1 = .ok (.getfield 9, 3) := by decide +kernel
theorem d12_4 : decode jdk_38_method_6_code 4 = .ok (.arraylength, 1) := by decide +kernel
theorem d12_5 : decode jdk_38_method_6_code 5 = .ok (.istore_n 2, 1) := by decide +kernel
theorem d12_6 : decode jdk_38_method_6_code 6 = .ok (.iload_n 2, 1) := by decide +kernel
theorem d12_7 : decode jdk_38_method_6_code 7 = .ok (.ifCond .gt 13, 3) := by decide +kernel
theorem d12_10 : decode jdk_38_method_6_code 10 = .ok (.aload_n 0, 1) := by decide +kernel
theorem d12_11 : decode jdk_38_method_6_code 11 = .ok (.getfield 9, 3) := by decide +kernel
theorem d12_14 : decode jdk_38_method_6_code 14 = .ok (.getstatic 39, 3) := by decide +kernel
theorem d12_17 : decode jdk_38_method_6_code 17 = .ok (.if_acmp .eq 28, 3) := by decide +kernel
theorem d12_45 : decode jdk_38_method_6_code 45 = .ok (.aload_n 0, 1) := by decide +kernel
theorem d12_46 : decode jdk_38_method_6_code 46 = .ok (.bipush 10, 2) := by decide +kernel
theorem d12_48 : decode jdk_38_method_6_code 48 = .ok (.iload_n 1, 1) := by decide +kernel
theorem d12_49 : decode jdk_38_method_6_code 49 = .ok (.invokestatic 79, 3) := by decide +kernel
theorem d12_52 : decode jdk_38_method_6_code 52 = .ok (.anewarray 7, 3) := by decide +kernel
theorem d12_55 : decode jdk_38_method_6_code 55 = .ok (.dup_x1, 1) := by decide +kernel
theorem d12_56 : decode jdk_38_method_6_code 56 = .ok (.putfield 9, 3) := by decide +kernel
theorem d12_59 : decode jdk_38_method_6_code 59 = .ok (.areturn, 1) := by decide +kernel
set_option maxRecDepth 65536 in
set_option maxHeartbeats 40000000 in
theorem ac12_10 (l : Launch) (Z : State) (a0 : Array Value) (hw : oHw a0 Z) (h0 : Heap) (n0 : Nat) (Z0 : n0 ≤ h0.size) (b1 : Addr) (b2 : Addr) (p1 : Fld Z h0 b1 sA "elementData" sG (.ref b2)) (p2 : oAr Z h0 b2 (.object sO) []) (p3 : oSta Z n0 h0 sA sD sG (.ref b2)) (p4 : Exa Z h0 b1 sA) (p5 : n0 ≤ b1) :
    oMet l Z (⟨sA, "grow", "(I)[Ljava/lang/Object;"⟩ : MethodName) jdk_38_method_6_code 4 (some (.array (.object sO))) [] ({ frames := 1, cells := 1, slots := 10, locals := 14 } : Room) 1 10 n0 #[.ref b1, .int 1] h0 (fun v h => ∃ a2 : Addr, v = some (.ref a2) ∧ oKe h0 h [] [(b1, Jvm.RoadKit.slotOf Z sA "elementData" sG)] ∧ h0.size ≤ a2 ∧ Fld Z h b1 sA "elementData" sG (.ref a2) ∧ oArO Z h a2 sO [.null, .null, .null, .null, .null, .null, .null, .null, .null, .null]) := by
  refine oMet.intro (plainFor_of_name pn_346561) (fun m => ef_12 m b1 (1 : Int32)) ?_
  intro op oe os m obl omt ocd C
  refine oAloadN C d12_0 rfl rfl rfl ?_
  refine oGetF C (w74 hw) Via.refl p1 d12_1 rfl ?_
  refine oLen C p2 (z := (0 : Int32)) rfl d12_4 rfl ?_
  refine oIstoreN C d12_5 (Ls' := #[.val (.ref b1), .val (.int 1), .val (.int 0), .unset]) rfl (q := 6) rfl ?_
  refine oIloadN C d12_6 rfl rfl ?_
  refine oIf_gt C d12_7 (q := 20) (by decide) (by decide) (r := 10) rfl (fun hq => absurd hq ((by decide))) (fun hc7 => ?_)
  refine oAloadN C d12_10 rfl rfl rfl ?_
  refine oGetF C (w74 hw) Via.refl p1 d12_11 rfl ?_
  refine oGetS C (w73 hw) Via.refl p3.sta d12_14 rfl ?_
  refine oAcmp C rfl rfl (same := true) d12_17 (decide_eq_true rfl) (q := 45) (by decide) (by decide) ?_
  refine oAloadN C d12_45 rfl rfl rfl ?_
  refine oBipush C d12_46 (z := 10) rfl rfl ?_
  refine oIloadN C d12_48 rfl rfl ?_
  refine oCallS C (w109 hw) (w110 hw) (w111 hw) (w112 hw) d12_49 (by decide) pd_947237 rfl rfl (argsL := [.int 10, .int 1]) (rest := [.ref b1]) rfl (W := 1) rfl (q := 52) rfl (by decide) (by decide) (by decide) (by decide) (ac13_9 l Z a0 hw _ n0 Z0  ) (oPureK ?_)
  refine oNewR C (w113 hw) (w114 hw) d12_52 rfl (by decide) (k := 10) rfl (by decide) (by decide) (by decide) fun a2 h2 g_a2 E2 A2 => ?_
  have ge_a2 : n0 ≤ a2 := g_a2 ▸ Z0
  have A2l : oArO Z h2 a2 sO [.null, .null, .null, .null, .null, .null, .null, .null, .null, .null] := A2
  refine oDupX1 C d12_55 rfl rfl rfl ?_
  have f3 := (Exa.ext E2 p4)
  have f4 := (Fld.ext E2 p1)
  refine oPutF C (w74 hw) Via.refl f4 f3 (Or.inl (w75 hw)) (w53 hw) (ty := (.array (.object sO))) (by decide) rfl rfl d12_56 rfl p5 fun h5 W5 => ?_
  have f5w := Fld.same W5 f4
  refine oRetA C rfl rfl d12_59 (by decide) (by decide) ?_
  have ne6 : b1 ≠ a2 := oNe' p4.lt (Nat.le_of_eq g_a2.symm)
  have f7 := (A2l.other W5 (Ne.symm ne6))
  exact ⟨_, rfl, (((oKe.refl h0 [] [(b1, Jvm.RoadKit.slotOf Z sA "elementData" sG)]).ext E2).wrF W5 (Or.inl (List.mem_of_getElem? (i := 0) rfl))), (Nat.le_trans (oKe.refl h0 [] [(b1, Jvm.RoadKit.slotOf Z sA "elementData" sG)]).1 (Nat.le_of_eq g_a2.symm)), f5w, f7⟩
theorem pd_46492 : parseMethodDescriptor "(I)[Ljava/lang/Object;" = some ⟨[.int], some (.array (.object sO))⟩ := by decide +kernel
theorem d11_0 : decode jdk_38_method_7_code 0 = .ok (.aload_n 0, 1) := by decide +kernel
theorem d11_1 : decode jdk_38_method_7_code 1 = .ok (.aload_n 0, 1) := by decide +kernel
theorem d11_2 : decode jdk_38_method_7_code 2 = .ok (.getfield 48, 3) := by decide +kernel
theorem d11_5 : decode jdk_38_method_7_code 5 = .ok (.iconst 1, 1) := by decide +kernel
theorem d11_6 : decode jdk_38_method_7_code 6 = .ok (.iadd, 1) := by decide +kernel
theorem d11_7 : decode jdk_38_method_7_code 7 = .ok (.invokevirtual 69, 3) := by decide +kernel
theorem d11_10 : decode jdk_38_method_7_code 10 = .ok (.areturn, 1) := by decide +kernel
set_option maxRecDepth 65536 in
set_option maxHeartbeats 40000000 in
theorem ac11_11 (l : Launch) (Z : State) (a0 : Array Value) (hw : oHw a0 Z) (h0 : Heap) (n0 : Nat) (Z0 : n0 ≤ h0.size) (b1 : Addr) (b2 : Addr) (p1 : Fld Z h0 b1 sA "size" "I" (.int 0)) (p2 : Fld Z h0 b1 sA "elementData" sG (.ref b2)) (p3 : oAr Z h0 b2 (.object sO) []) (p4 : oSta Z n0 h0 sA sD sG (.ref b2)) (p5 : Exa Z h0 b1 sA) (p6 : n0 ≤ b1) :
    oMet l Z (⟨sA, "grow", "()[Ljava/lang/Object;"⟩ : MethodName) jdk_38_method_7_code 1 (some (.array (.object sO))) [] ({ frames := 2, cells := 1, slots := 10, locals := 29 } : Room) 1 10 n0 #[.ref b1] h0 (fun v h => ∃ a1_0 : Addr, v = some (.ref a1_0) ∧ oKe h0 h [] [(b1, Jvm.RoadKit.slotOf Z sA "elementData" sG)] ∧ h0.size ≤ a1_0 ∧ Fld Z h b1 sA "elementData" sG (.ref a1_0) ∧ oArO Z h a1_0 sO [.null, .null, .null, .null, .null, .null, .null, .null, .null, .null]) := by
  refine oMet.intro (plainFor_of_name pn_346561) (fun m => ef_11 m b1) ?_
  intro op oe os m obl omt ocd C
  refine oAloadN C d11_0 rfl rfl rfl ?_
  refine oAloadN C d11_1 rfl rfl rfl ?_
  refine oGetF C (w92 hw) Via.refl p1 d11_2 rfl ?_
  refine oIconst C d11_5 (z := 1) rfl rfl ?_
  refine oIadd C d11_6 rfl ?_
  refine oCastI (z' := (1 : Int32)) (by decide) ?_
  refine oCallP C (w104 hw) (w106 hw) (w53 hw) (w105 hw) (w54 hw) (w108 hw) d11_7 p5 (by decide) pd_46492 rfl rfl (a := b1) (argsL := [.int 1]) (rest := []) rfl (W := 0) rfl (q := 10) rfl (by decide) (by decide) (by decide) (by decide) (ac12_10 l Z a0 hw _ n0 Z0 b1 b2 p2 p3 p4 p5 p6) ?_
  rintro _ h1 ⟨a1_0, rfl, K1, s1, f1_0, f1_1⟩
  show oW _ _ _ _ _ _ _ _ _ _ _ _ _ _ _ (mkF m 10 #[.val (.ref b1)] [.ref a1_0])
  refine oRetA C rfl rfl d11_10 (by decide) (by decide) ?_
  exact ⟨_, rfl, ((oKe.refl h0 [] [(b1, Jvm.RoadKit.slotOf Z sA "elementData" sG)]).trans K1 all0 (oAS (Or.inl (List.mem_of_getElem? (i := 0) rfl)) oA0)), (Nat.le_trans (oKe.refl h0 [] [(b1, Jvm.RoadKit.slotOf Z sA "elementData" sG)]).1 s1), f1_0, f1_1⟩
theorem pd_441305 : parseMethodDescriptor "()[Ljava/lang/Object;" = some ⟨[], some (.array (.object sO))⟩ := by decide +kernel
theorem d10_0 : decode jdk_38_method_24_code 0 = .ok (.iload_n 3, 1) := by decide +kernel
theorem d10_1 : decode jdk_38_method_24_code 1 = .ok (.aload_n 2, 1) := by decide +kernel
theorem d10_2 : decode jdk_38_method_24_code 2 = .ok (.arraylength, 1) := by decide +kernel
theorem d10_3 : decode jdk_38_method_24_code 3 = .ok (.if_icmp .ne 8, 3) := by decide +kernel
theorem d10_6 : decode jdk_38_method_24_code 6 = .ok (.aload_n 0, 1) := by decide +kernel
theorem d10_7 : decode jdk_38_method_24_code 7 = .ok (.invokevirtual 129, 3) := by decide +kernel
theorem d10_10 : decode jdk_38_method_24_code 10 = .ok (.astore_n 2, 1) := by decide +kernel
theorem d10_11 : decode jdk_38_method_24_code 11 = .ok (.aload_n 2, 1) := by decide +kernel
theorem d10_12 : decode jdk_38_method_24_code 12 = .ok (.iload_n 3, 1) := by decide +kernel
theorem d10_13 : decode jdk_38_method_24_code 13 = .ok (.aload_n 1, 1) := by decide +kernel
theorem d10_14 : decode jdk_38_method_24_code 14 = .ok (.aastore, 1) := by decide +kernel
theorem d10_15 : decode jdk_38_method_24_code 15 = .ok (.aload_n 0, 1) := by decide +kernel
theorem d10_16 : decode jdk_38_method_24_code 16 = .ok (.iload_n 3, 1) := by decide +kernel
theorem d10_17 : decode jdk_38_method_24_code 17 = .ok (.iconst 1, 1) := by decide +kernel
theorem d10_18 : decode jdk_38_method_24_code 18 = .ok (.iadd, 1) := by decide +kernel
theorem d10_19 : decode jdk_38_method_24_code 19 = .ok (.putfield 48, 3) := by decide +kernel
theorem d10_22 : decode jdk_38_method_24_code 22 = .ok (.return_, 1) := by decide +kernel
set_option maxRecDepth 65536 in
set_option maxHeartbeats 40000000 in
theorem ac10_12 (l : Launch) (Z : State) (a0 : Array Value) (hw : oHw a0 Z) (h0 : Heap) (n0 : Nat) (Z0 : n0 ≤ h0.size) (b1 : Addr) (b2 : Addr) (b3 : Addr) (p1 : oAr Z h0 b3 (.object sO) []) (p2 : Fld Z h0 b1 sA "size" "I" (.int 0)) (p3 : Fld Z h0 b1 sA "elementData" sG (.ref b3)) (p4 : oSta Z n0 h0 sA sD sG (.ref b3)) (p5 : Exa Z h0 b1 sA) (p6 : n0 ≤ b1) (p7 : Exa Z h0 b2 sF) :
    oMet l Z (⟨sA, "add", "(Ljava/lang/Object;[Ljava/lang/Object;I)V"⟩ : MethodName) jdk_38_method_24_code 4 none [] ({ frames := 3, cells := 1, slots := 10, locals := 41 } : Room) 1 10 n0 #[.ref b1, .ref b2, .ref b3, .int 0] h0 (fun v h => ∃ a1_0 : Addr, v = none ∧ oKe h0 h [] [(b1, Jvm.RoadKit.slotOf Z sA "elementData" sG), (b1, Jvm.RoadKit.slotOf Z sA "size" "I")] ∧ h0.size ≤ a1_0 ∧ Fld Z h b1 sA "size" "I" (.int 1) ∧ Fld Z h b1 sA "elementData" sG (.ref a1_0) ∧ oArO Z h a1_0 sO [.ref b2, .null, .null, .null, .null, .null, .null, .null, .null, .null]) := by
  refine oMet.intro (plainFor_of_name pn_346561) (fun m => ef_10 m b1 b2 b3 (0 : Int32)) ?_
  intro op oe os m obl omt ocd C
  refine oIloadN C d10_0 rfl rfl ?_
  refine oAloadN C d10_1 rfl rfl rfl ?_
  refine oLen C p1 (z := (0 : Int32)) rfl d10_2 rfl ?_
  refine oIcmp_ne C d10_3 (q := 11) (by decide) (by decide) (r := 6) rfl (fun hq => absurd hq ((by decide))) (fun hc3 => ?_)
  refine oAloadN C d10_6 rfl rfl rfl ?_
  refine oCallP C (w99 hw) (w101 hw) (w53 hw) (w100 hw) (w54 hw) (w103 hw) d10_7 p5 (by decide) pd_441305 rfl rfl (a := b1) (argsL := []) (rest := []) rfl (W := 0) rfl (q := 10) rfl (by decide) (by decide) (by decide) (by decide) (ac11_11 l Z a0 hw _ n0 Z0 b1 b3 p2 p3 p1 p4 p5 p6) ?_
  rintro _ h1 ⟨a1_0, rfl, K1, s1, f1_0, f1_1⟩
  show oW _ _ _ _ _ _ _ _ _ _ _ _ _ _ _ (mkF m 10 #[.val (.ref b1), .val (.ref b2), .val (.ref b3), .val (.int 0)] [.ref a1_0])
  refine oAstoreN C d10_10 rfl (Ls' := #[.val (.ref b1), .val (.ref b2), .val (.ref a1_0), .val (.int 0)]) rfl (q := 11) rfl ?_
  refine oAloadN C d10_11 rfl rfl rfl ?_
  refine oIloadN C d10_12 rfl rfl ?_
  refine oAloadN C d10_13 rfl rfl rfl ?_
  have f3 := (K1.exa p7)
  have ge4 := Nat.le_trans Z0 s1
  refine oAastore C f1_1 (Ins.of_exa f3 (w115 hw)) (by decide) (k := 0) rfl (v := .null) rfl d10_14 rfl ge4 fun h2 W2 A2 => ?_
  have A2l : oArO Z h2 a1_0 sO [.ref b2, .null, .null, .null, .null, .null, .null, .null, .null, .null] := A2
  refine oAloadN C d10_15 rfl rfl rfl ?_
  refine oIloadN C d10_16 rfl rfl ?_
  refine oIconst C d10_17 (z := 1) rfl rfl ?_
  refine oIadd C d10_18 rfl ?_
  refine oCastI (z' := (1 : Int32)) (by decide) ?_
  have f5 := (Exa.wr W2 (K1.exa p5))
  have ne6 : b1 ≠ a1_0 := oNe' p2.lt s1
  have f7 := (Fld.other W2 (K1.fld p2 nin0 (oNF (Or.inr (oSn2 hw 2 1)) oN0)) (Or.inl ne6))
  refine oPutF C (w92 hw) Via.refl f7 f5 (Or.inl (w93 hw)) (w53 hw) (ty := .int) (by decide) rfl rfl d10_19 rfl p6 fun h8 W8 => ?_
  have f8w := Fld.same W8 f7
  refine oRetV C d10_22 (by decide) (by decide) ?_
  have f9 := (Fld.other W8 (Fld.other W2 f1_0 (Or.inl ne6)) (Or.inr (oSn2 hw 1 2)))
  have f10 := (A2l.other W8 (Ne.symm ne6))
  exact ⟨_, rfl, ((((oKe.refl h0 [] [(b1, Jvm.RoadKit.slotOf Z sA "elementData" sG), (b1, Jvm.RoadKit.slotOf Z sA "size" "I")]).trans K1 all0 (oAS (Or.inl (List.mem_of_getElem? (i := 0) rfl)) oA0)).wrA W2 (Or.inr (Nat.le_trans (oKe.refl h0 [] [(b1, Jvm.RoadKit.slotOf Z sA "elementData" sG), (b1, Jvm.RoadKit.slotOf Z sA "size" "I")]).1 s1))).wrF W8 (Or.inl (List.mem_of_getElem? (i := 1) rfl))), (Nat.le_trans (oKe.refl h0 [] [(b1, Jvm.RoadKit.slotOf Z sA "elementData" sG), (b1, Jvm.RoadKit.slotOf Z sA "size" "I")]).1 s1), f8w, f9, f10⟩
theorem pd_804065 : parseMethodDescriptor "(Ljava/lang/Object;[Ljava/lang/Object;I)V" = some ⟨[(.object sO), (.array (.object sO)), .int], none⟩ := by decide +kernel
theorem d9_0 : decode jdk_38_method_25_code 0 = .ok (.aload_n 0, 1) := by decide +kernel
theorem d9_1 : decode jdk_38_method_25_code 1 = .ok (.dup, 1) := by decide +kernel
theorem d9_2 : decode jdk_38_method_25_code 2 = .ok (.getfield 63, 3) := by decide +kernel
theorem d9_5 : decode jdk_38_method_25_code 5 = .ok (.iconst 1, 1) := by decide +kernel
theorem d9_6 : decode jdk_38_method_25_code 6 = .ok (.iadd, 1) := by decide +kernel
theorem d9_7 : decode jdk_38_method_25_code 7 = .ok (.putfield 63, 3) := by decide +kernel
theorem d9_10 : decode jdk_38_method_25_code 10 = .ok (.aload_n 0, 1) := by decide +kernel
theorem d9_11 : decode jdk_38_method_25_code 11 = .ok (.aload_n 1, 1) := by decide +kernel
theorem d9_12 : decode jdk_38_method_25_code 12 = .ok (.aload_n 0, 1) := by decide +kernel
theorem d9_13 : decode jdk_38_method_25_code 13 = .ok (.getfield 9, 3) := by decide +kernel
theorem d9_16 : decode jdk_38_method_25_code 16 = .ok (.aload_n 0, 1) := by decide +kernel
theorem d9_17 : decode jdk_38_method_25_code 17 = .ok (.getfield 48, 3) := by decide +kernel
theorem d9_20 : decode jdk_38_method_25_code 20 = .ok (.invokevirtual 131, 3) := by decide +kernel
theorem d9_23 : decode jdk_38_method_25_code 23 = .ok (.iconst 1, 1) := by decide +kernel
theorem d9_24 : decode jdk_38_method_25_code 24 = .ok (.ireturn, 1) := by decide +kernel
set_option maxRecDepth 65536 in
set_option maxHeartbeats 40000000 in
theorem ac9_13 (l : Launch) (Z : State) (a0 : Array Value) (hw : oHw a0 Z) (h0 : Heap) (n0 : Nat) (Z0 : n0 ≤ h0.size) (b1 : Addr) (b2 : Addr) (b3 : Addr) (p1 : Fld Z h0 b1 "java/util/AbstractList" "modCount" "I" (.int 0)) (p2 : Exa Z h0 b1 sA) (p3 : n0 ≤ b1) (p4 : Fld Z h0 b1 sA "elementData" sG (.ref b3)) (p5 : Fld Z h0 b1 sA "size" "I" (.int 0)) (p6 : oAr Z h0 b3 (.object sO) []) (p7 : oSta Z n0 h0 sA sD sG (.ref b3)) (p8 : Exa Z h0 b2 sF) (p9 : b3 ≠ b1) :
    oMet l Z (⟨sA, "add", "(Ljava/lang/Object;)Z"⟩ : MethodName) jdk_38_method_25_code 2 (some .boolean) [] ({ frames := 4, cells := 1, slots := 10, locals := 56 } : Room) 1 10 n0 #[.ref b1, .ref b2] h0 (fun v h => ∃ a8_0 : Addr, v = some (.int 1) ∧ oKe h0 h [] [(b1, Jvm.RoadKit.slotOf Z "java/util/AbstractList" "modCount" "I"), (b1, Jvm.RoadKit.slotOf Z sA "elementData" sG), (b1, Jvm.RoadKit.slotOf Z sA "size" "I")] ∧ h0.size ≤ a8_0 ∧ Fld Z h b1 "java/util/AbstractList" "modCount" "I" (.int 1) ∧ Fld Z h b1 sA "elementData" sG (.ref a8_0) ∧ Fld Z h b1 sA "size" "I" (.int 1) ∧ oArO Z h a8_0 sO [.ref b2, .null, .null, .null, .null, .null, .null, .null, .null, .null]) := by
  refine oMet.intro (plainFor_of_name pn_346561) (fun m => ef_9 m b1 b2) ?_
  intro op oe os m obl omt ocd C
  refine oAloadN C d9_0 rfl rfl rfl ?_
  refine oDup C d9_1 rfl rfl ?_
  refine oGetF C (w90 hw) (Via.of (w91 hw)) p1 d9_2 rfl ?_
  refine oIconst C d9_5 (z := 1) rfl rfl ?_
  refine oIadd C d9_6 rfl ?_
  refine oCastI (z' := (1 : Int32)) (by decide) ?_
  refine oPutF C (w90 hw) (Via.of (w91 hw)) p1 p2 (Or.inl (w72 hw)) (w53 hw) (ty := .int) (by decide) rfl rfl d9_7 rfl p3 fun h1 W1 => ?_
  have f1w := Fld.same W1 p1
  refine oAloadN C d9_10 rfl rfl rfl ?_
  refine oAloadN C d9_11 rfl rfl rfl ?_
  refine oAloadN C d9_12 rfl rfl rfl ?_
  have f2 := (Fld.other W1 p4 (Or.inr (oSn2 hw 1 0)))
  refine oGetF C (w74 hw) Via.refl f2 d9_13 rfl ?_
  refine oAloadN C d9_16 rfl rfl rfl ?_
  have f3 := (Fld.other W1 p5 (Or.inr (oSn2 hw 2 0)))
  refine oGetF C (w92 hw) Via.refl f3 d9_17 rfl ?_
  have f4 := (p6.other W1 p9)
  have f5 := (p7.wr W1 p3)
  have f6 := (Exa.wr W1 p2)
  have f7 := (Exa.wr W1 p8)
  have z9 := (Nat.le_trans Z0 (Nat.le_of_eq W1.size.symm))
  refine oCallP C (w94 hw) (w96 hw) (w53 hw) (w95 hw) (w54 hw) (w98 hw) d9_20 f6 (by decide) pd_804065 rfl rfl (a := b1) (argsL := [.ref b2, .ref b3, .int 0]) (rest := []) rfl (W := 0) rfl (q := 23) rfl (by decide) (by decide) (by decide) (by decide) (ac10_12 l Z a0 hw _ n0 z9 b1 b2 b3 f4 f3 f2 f5 f6 p3 f7) ?_
  rintro _ h8 ⟨a8_0, rfl, K8, s8, f8_0, f8_1, f8_2⟩
  show oW _ _ _ _ _ _ _ _ _ _ _ _ _ _ _ (mkF m 23 #[.val (.ref b1), .val (.ref b2)] [])
  refine oIconst C d9_23 (z := 1) rfl rfl ?_
  refine oRetZ C d9_24 (z' := (1 : Int32)) rfl (by decide) (by decide) ?_
  have f10 := (K8.fld f1w nin0 (oNF (Or.inr (oSn2 hw 0 1)) (oNF (Or.inr (oSn2 hw 0 2)) oN0)))
  exact ⟨_, rfl, (((oKe.refl h0 [] [(b1, Jvm.RoadKit.slotOf Z "java/util/AbstractList" "modCount" "I"), (b1, Jvm.RoadKit.slotOf Z sA "elementData" sG), (b1, Jvm.RoadKit.slotOf Z sA "size" "I")]).wrF W1 (Or.inl (List.mem_of_getElem? (i := 0) rfl))).trans K8 all0 (oAS (Or.inl (List.mem_of_getElem? (i := 1) rfl)) (oAS (Or.inl (List.mem_of_getElem? (i := 2) rfl)) oA0))), (Nat.le_trans ((oKe.refl h0 [] [(b1, Jvm.RoadKit.slotOf Z "java/util/AbstractList" "modCount" "I"), (b1, Jvm.RoadKit.slotOf Z sA "elementData" sG), (b1, Jvm.RoadKit.slotOf Z sA "size" "I")]).wrF W1 (Or.inl (List.mem_of_getElem? (i := 0) rfl))).1 s8), f10, f8_1, f8_0, f8_2⟩
theorem pd_43457 : parseMethodDescriptor "(Ljava/lang/Object;)Z" = some ⟨[(.object sO)], some .boolean⟩ := by decide +kernel
set_option maxRecDepth 65536 in
set_option maxHeartbeats 40000000 in
theorem ac10_14 (l : Launch) (Z : State) (a0 : Array Value) (hw : oHw a0 Z) (h0 : Heap) (n0 : Nat) (Z0 : n0 ≤ h0.size) (b1 : Addr) (b2 : Addr) (b3 : Addr) (b4 : Addr) (p1 : oArO Z h0 b3 sO [.ref b4, .null, .null, .null, .null, .null, .null, .null, .null, .null]) (p2 : Exa Z h0 b2 sF) (p3 : n0 ≤ b3) (p4 : Exa Z h0 b1 sA) (p5 : Fld Z h0 b1 sA "size" "I" (.int 1)) (p6 : b1 ≠ b3) (p7 : n0 ≤ b1) (p8 : b3 ≠ b1) :
    oMet l Z (⟨sA, "add", "(Ljava/lang/Object;[Ljava/lang/Object;I)V"⟩ : MethodName) jdk_38_method_24_code 4 none [] ({ frames := 0, cells := 0, slots := 0, locals := 0 } : Room) 0 0 n0 #[.ref b1, .ref b2, .ref b3, .int 1] h0 (fun v h => v = none ∧ oKe h0 h [b3] [(b1, Jvm.RoadKit.slotOf Z sA "size" "I")] ∧ oArO Z h b3 sO [.ref b4, .ref b2, .null, .null, .null, .null, .null, .null, .null, .null] ∧ Fld Z h b1 sA "size" "I" (.int 2)) := by
  refine oMet.intro (plainFor_of_name pn_346561) (fun m => ef_10 m b1 b2 b3 (1 : Int32)) ?_
  intro op oe os m obl omt ocd C
  refine oIloadN C d10_0 rfl rfl ?_
  refine oAloadN C d10_1 rfl rfl rfl ?_
  refine oLenO C p1 (z := (10 : Int32)) rfl d10_2 rfl ?_
  refine oIcmp_ne C d10_3 (q := 11) (by decide) (by decide) (r := 6) rfl (fun hc3 => ?_) (fun hq => absurd hq ((by decide)))
  refine oAloadN C d10_11 rfl rfl rfl ?_
  refine oIloadN C d10_12 rfl rfl ?_
  refine oAloadN C d10_13 rfl rfl rfl ?_
  refine oAastore C p1 (Ins.of_exa p2 (w115 hw)) (by decide) (k := 1) rfl (v := .null) rfl d10_14 rfl p3 fun h1 W1 A1 => ?_
  have A1l : oArO Z h1 b3 sO [.ref b4, .ref b2, .null, .null, .null, .null, .null, .null, .null, .null] := A1
  refine oAloadN C d10_15 rfl rfl rfl ?_
  refine oIloadN C d10_16 rfl rfl ?_
  refine oIconst C d10_17 (z := 1) rfl rfl ?_
  refine oIadd C d10_18 rfl ?_
  refine oCastI (z' := (2 : Int32)) (by decide) ?_
  have f2 := (Exa.wr W1 p4)
  have f3 := (Fld.other W1 p5 (Or.inl p6))
  refine oPutF C (w92 hw) Via.refl f3 f2 (Or.inl (w93 hw)) (w53 hw) (ty := .int) (by decide) rfl rfl d10_19 rfl p7 fun h4 W4 => ?_
  have f4w := Fld.same W4 f3
  refine oRetV C d10_22 (by decide) (by decide) ?_
  have f5 := (A1l.other W4 p8)
  exact ⟨rfl, (((oKe.refl h0 [b3] [(b1, Jvm.RoadKit.slotOf Z sA "size" "I")]).wrA W1 (Or.inl (List.mem_of_getElem? (i := 0) rfl))).wrF W4 (Or.inl (List.mem_of_getElem? (i := 0) rfl))), f5, f4w⟩
set_option maxRecDepth 65536 in
set_option maxHeartbeats 40000000 in
theorem ac9_15 (l : Launch) (Z : State) (a0 : Array Value) (hw : oHw a0 Z) (h0 : Heap) (n0 : Nat) (Z0 : n0 ≤ h0.size) (b1 : Addr) (b2 : Addr) (b3 : Addr) (b4 : Addr) (p1 : Fld Z h0 b1 "java/util/AbstractList" "modCount" "I" (.int 1)) (p2 : Exa Z h0 b1 sA) (p3 : n0 ≤ b1) (p4 : Fld Z h0 b1 sA "elementData" sG (.ref b3)) (p5 : Fld Z h0 b1 sA "size" "I" (.int 1)) (p6 : oArO Z h0 b3 sO [.ref b4, .null, .null, .null, .null, .null, .null, .null, .null, .null]) (p7 : Exa Z h0 b2 sF) (p8 : b3 ≠ b1) (p9 : n0 ≤ b3) (p10 : b1 ≠ b3) :
    oMet l Z (⟨sA, "add", "(Ljava/lang/Object;)Z"⟩ : MethodName) jdk_38_method_25_code 2 (some .boolean) [] ({ frames := 1, cells := 0, slots := 0, locals := 15 } : Room) 0 0 n0 #[.ref b1, .ref b2] h0 (fun v h => v = some (.int 1) ∧ oKe h0 h [b3] [(b1, Jvm.RoadKit.slotOf Z "java/util/AbstractList" "modCount" "I"), (b1, Jvm.RoadKit.slotOf Z sA "size" "I")] ∧ Fld Z h b1 "java/util/AbstractList" "modCount" "I" (.int 2) ∧ Fld Z h b1 sA "size" "I" (.int 2) ∧ oArO Z h b3 sO [.ref b4, .ref b2, .null, .null, .null, .null, .null, .null, .null, .null]) := by
  refine oMet.intro (plainFor_of_name pn_346561) (fun m => ef_9 m b1 b2) ?_
  intro op oe os m obl omt ocd C
  refine oAloadN C d9_0 rfl rfl rfl ?_
  refine oDup C d9_1 rfl rfl ?_
  refine oGetF C (w90 hw) (Via.of (w91 hw)) p1 d9_2 rfl ?_
  refine oIconst C d9_5 (z := 1) rfl rfl ?_
  refine oIadd C d9_6 rfl ?_
  refine oCastI (z' := (2 : Int32)) (by decide) ?_
  refine oPutF C (w90 hw) (Via.of (w91 hw)) p1 p2 (Or.inl (w72 hw)) (w53 hw) (ty := .int) (by decide) rfl rfl d9_7 rfl p3 fun h1 W1 => ?_
  have f1w := Fld.same W1 p1
  refine oAloadN C d9_10 rfl rfl rfl ?_
  refine oAloadN C d9_11 rfl rfl rfl ?_
  refine oAloadN C d9_12 rfl rfl rfl ?_
  have f2 := (Fld.other W1 p4 (Or.inr (oSn2 hw 1 0)))
  refine oGetF C (w74 hw) Via.refl f2 d9_13 rfl ?_
  refine oAloadN C d9_16 rfl rfl rfl ?_
  have f3 := (Fld.other W1 p5 (Or.inr (oSn2 hw 2 0)))
  refine oGetF C (w92 hw) Via.refl f3 d9_17 rfl ?_
  have f4 := (p6.other W1 p8)
  have f5 := (Exa.wr W1 p7)
  have f6 := (Exa.wr W1 p2)
  have z8 := (Nat.le_trans Z0 (Nat.le_of_eq W1.size.symm))
  refine oCallP C (w94 hw) (w96 hw) (w53 hw) (w95 hw) (w54 hw) (w98 hw) d9_20 f6 (by decide) pd_804065 rfl rfl (a := b1) (argsL := [.ref b2, .ref b3, .int 1]) (rest := []) rfl (W := 0) rfl (q := 23) rfl (by decide) (by decide) (by decide) (by decide) (ac10_14 l Z a0 hw _ n0 z8 b1 b2 b3 b4 f4 f5 p9 f6 f3 p10 p3 p8) (oVQ ?_)
  rintro h7 ⟨K7, f7_0, f7_1⟩
  refine oIconst C d9_23 (z := 1) rfl rfl ?_
  refine oRetZ C d9_24 (z' := (1 : Int32)) rfl (by decide) (by decide) ?_
  have f9 := (K7.fld f1w (ninS p10 nin0) (oNF (Or.inr (oSn2 hw 0 2)) oN0))
  exact ⟨rfl, (((oKe.refl h0 [b3] [(b1, Jvm.RoadKit.slotOf Z "java/util/AbstractList" "modCount" "I"), (b1, Jvm.RoadKit.slotOf Z sA "size" "I")]).wrF W1 (Or.inl (List.mem_of_getElem? (i := 0) rfl))).trans K7 (allS (Or.inl (List.mem_of_getElem? (i := 0) rfl)) all0) (oAS (Or.inl (List.mem_of_getElem? (i := 1) rfl)) oA0)), f9, f7_1, f7_0⟩
set_option maxRecDepth 65536 in
set_option maxHeartbeats 40000000 in
theorem ac10_16 (l : Launch) (Z : State) (a0 : Array Value) (hw : oHw a0 Z) (h0 : Heap) (n0 : Nat) (Z0 : n0 ≤ h0.size) (b1 : Addr) (b2 : Addr) (b3 : Addr) (b4 : Addr) (b5 : Addr) (p1 : oArO Z h0 b3 sO [.ref b4, .ref b5, .null, .null, .null, .null, .null, .null, .null, .null]) (p2 : Exa Z h0 b2 sF) (p3 : n0 ≤ b3) (p4 : Exa Z h0 b1 sA) (p5 : Fld Z h0 b1 sA "size" "I" (.int 2)) (p6 : b1 ≠ b3) (p7 : n0 ≤ b1) (p8 : b3 ≠ b1) :
    oMet l Z (⟨sA, "add", "(Ljava/lang/Object;[Ljava/lang/Object;I)V"⟩ : MethodName) jdk_38_method_24_code 4 none [] ({ frames := 0, cells := 0, slots := 0, locals := 0 } : Room) 0 0 n0 #[.ref b1, .ref b2, .ref b3, .int 2] h0 (fun v h => v = none ∧ oKe h0 h [b3] [(b1, Jvm.RoadKit.slotOf Z sA "size" "I")] ∧ oArO Z h b3 sO [.ref b4, .ref b5, .ref b2, .null, .null, .null, .null, .null, .null, .null] ∧ Fld Z h b1 sA "size" "I" (.int 3)) := by
  refine oMet.intro (plainFor_of_name pn_346561) (fun m => ef_10 m b1 b2 b3 (2 : Int32)) ?_
  intro op oe os m obl omt ocd C
  refine oIloadN C d10_0 rfl rfl ?_
  refine oAloadN C d10_1 rfl rfl rfl ?_
  refine oLenO C p1 (z := (10 : Int32)) rfl d10_2 rfl ?_
  refine oIcmp_ne C d10_3 (q := 11) (by decide) (by decide) (r := 6) rfl (fun hc3 => ?_) (fun hq => absurd hq ((by decide)))
  refine oAloadN C d10_11 rfl rfl rfl ?_
  refine oIloadN C d10_12 rfl rfl ?_
  refine oAloadN C d10_13 rfl rfl rfl ?_
  refine oAastore C p1 (Ins.of_exa p2 (w115 hw)) (by decide) (k := 2) rfl (v := .null) rfl d10_14 rfl p3 fun h1 W1 A1 => ?_
  have A1l : oArO Z h1 b3 sO [.ref b4, .ref b5, .ref b2, .null, .null, .null, .null, .null, .null, .null] := A1
  refine oAloadN C d10_15 rfl rfl rfl ?_
  refine oIloadN C d10_16 rfl rfl ?_
  refine oIconst C d10_17 (z := 1) rfl rfl ?_
  refine oIadd C d10_18 rfl ?_
  refine oCastI (z' := (3 : Int32)) (by decide) ?_
  have f2 := (Exa.wr W1 p4)
  have f3 := (Fld.other W1 p5 (Or.inl p6))
  refine oPutF C (w92 hw) Via.refl f3 f2 (Or.inl (w93 hw)) (w53 hw) (ty := .int) (by decide) rfl rfl d10_19 rfl p7 fun h4 W4 => ?_
  have f4w := Fld.same W4 f3
  refine oRetV C d10_22 (by decide) (by decide) ?_
  have f5 := (A1l.other W4 p8)
  exact ⟨rfl, (((oKe.refl h0 [b3] [(b1, Jvm.RoadKit.slotOf Z sA "size" "I")]).wrA W1 (Or.inl (List.mem_of_getElem? (i := 0) rfl))).wrF W4 (Or.inl (List.mem_of_getElem? (i := 0) rfl))), f5, f4w⟩
set_option maxRecDepth 65536 in
set_option maxHeartbeats 40000000 in
theorem ac9_17 (l : Launch) (Z : State) (a0 : Array Value) (hw : oHw a0 Z) (h0 : Heap) (n0 : Nat) (Z0 : n0 ≤ h0.size) (b1 : Addr) (b2 : Addr) (b3 : Addr) (b4 : Addr) (b5 : Addr) (p1 : Fld Z h0 b1 "java/util/AbstractList" "modCount" "I" (.int 2)) (p2 : Exa Z h0 b1 sA) (p3 : n0 ≤ b1) (p4 : Fld Z h0 b1 sA "elementData" sG (.ref b3)) (p5 : Fld Z h0 b1 sA "size" "I" (.int 2)) (p6 : oArO Z h0 b3 sO [.ref b4, .ref b5, .null, .null, .null, .null, .null, .null, .null, .null]) (p7 : Exa Z h0 b2 sF) (p8 : b3 ≠ b1) (p9 : n0 ≤ b3) (p10 : b1 ≠ b3) :
    oMet l Z (⟨sA, "add", "(Ljava/lang/Object;)Z"⟩ : MethodName) jdk_38_method_25_code 2 (some .boolean) [] ({ frames := 1, cells := 0, slots := 0, locals := 15 } : Room) 0 0 n0 #[.ref b1, .ref b2] h0 (fun v h => v = some (.int 1) ∧ oKe h0 h [b3] [(b1, Jvm.RoadKit.slotOf Z "java/util/AbstractList" "modCount" "I"), (b1, Jvm.RoadKit.slotOf Z sA "size" "I")] ∧ Fld Z h b1 "java/util/AbstractList" "modCount" "I" (.int 3) ∧ Fld Z h b1 sA "size" "I" (.int 3) ∧ oArO Z h b3 sO [.ref b4, .ref b5, .ref b2, .null, .null, .null, .null, .null, .null, .null]) := by
  refine oMet.intro (plainFor_of_name pn_346561) (fun m => ef_9 m b1 b2) ?_
  intro op oe os m obl omt ocd C
  refine oAloadN C d9_0 rfl rfl rfl ?_
  refine oDup C d9_1 rfl rfl ?_
  refine oGetF C (w90 hw) (Via.of (w91 hw)) p1 d9_2 rfl ?_
  refine oIconst C d9_5 (z := 1) rfl rfl ?_
  refine oIadd C d9_6 rfl ?_
  refine oCastI (z' := (3 : Int32)) (by decide) ?_
  refine oPutF C (w90 hw) (Via.of (w91 hw)) p1 p2 (Or.inl (w72 hw)) (w53 hw) (ty := .int) (by decide) rfl rfl d9_7 rfl p3 fun h1 W1 => ?_
  have f1w := Fld.same W1 p1
  refine oAloadN C d9_10 rfl rfl rfl ?_
  refine oAloadN C d9_11 rfl rfl rfl ?_
  refine oAloadN C d9_12 rfl rfl rfl ?_
  have f2 := (Fld.other W1 p4 (Or.inr (oSn2 hw 1 0)))
  refine oGetF C (w74 hw) Via.refl f2 d9_13 rfl ?_
  refine oAloadN C d9_16 rfl rfl rfl ?_
  have f3 := (Fld.other W1 p5 (Or.inr (oSn2 hw 2 0)))
  refine oGetF C (w92 hw) Via.refl f3 d9_17 rfl ?_
  have f4 := (p6.other W1 p8)
  have f5 := (Exa.wr W1 p7)
  have f6 := (Exa.wr W1 p2)
  have z8 := (Nat.le_trans Z0 (Nat.le_of_eq W1.size.symm))
  refine oCallP C (w94 hw) (w96 hw) (w53 hw) (w95 hw) (w54 hw) (w98 hw) d9_20 f6 (by decide) pd_804065 rfl rfl (a := b1) (argsL := [.ref b2, .ref b3, .int 2]) (rest := []) rfl (W := 0) rfl (q := 23) rfl (by decide) (by decide) (by decide) (by decide) (ac10_16 l Z a0 hw _ n0 z8 b1 b2 b3 b4 b5 f4 f5 p9 f6 f3 p10 p3 p8) (oVQ ?_)
  rintro h7 ⟨K7, f7_0, f7_1⟩
  refine oIconst C d9_23 (z := 1) rfl rfl ?_
  refine oRetZ C d9_24 (z' := (1 : Int32)) rfl (by decide) (by decide) ?_
  have f9 := (K7.fld f1w (ninS p10 nin0) (oNF (Or.inr (oSn2 hw 0 2)) oN0))
  exact ⟨rfl, (((oKe.refl h0 [b3] [(b1, Jvm.RoadKit.slotOf Z "java/util/AbstractList" "modCount" "I"), (b1, Jvm.RoadKit.slotOf Z sA "size" "I")]).wrF W1 (Or.inl (List.mem_of_getElem? (i := 0) rfl))).trans K7 (allS (Or.inl (List.mem_of_getElem? (i := 0) rfl)) all0) (oAS (Or.inl (List.mem_of_getElem? (i := 1) rfl)) oA0)), f9, f7_1, f7_0⟩
set_option maxRecDepth 65536 in
set_option maxHeartbeats 40000000 in
theorem ac10_18 (l : Launch) (Z : State) (a0 : Array Value) (hw : oHw a0 Z) (h0 : Heap) (n0 : Nat) (Z0 : n0 ≤ h0.size) (b1 : Addr) (b2 : Addr) (b3 : Addr) (b4 : Addr) (b5 : Addr) (b6 : Addr) (p1 : oArO Z h0 b3 sO [.ref b4, .ref b5, .ref b6, .null, .null, .null, .null, .null, .null, .null]) (p2 : Exa Z h0 b2 sF) (p3 : n0 ≤ b3) (p4 : Exa Z h0 b1 sA) (p5 : Fld Z h0 b1 sA "size" "I" (.int 3)) (p6 : b1 ≠ b3) (p7 : n0 ≤ b1) (p8 : b3 ≠ b1) :
    oMet l Z (⟨sA, "add", "(Ljava/lang/Object;[Ljava/lang/Object;I)V"⟩ : MethodName) jdk_38_method_24_code 4 none [] ({ frames := 0, cells := 0, slots := 0, locals := 0 } : Room) 0 0 n0 #[.ref b1, .ref b2, .ref b3, .int 3] h0 (fun v h => v = none ∧ oKe h0 h [b3] [(b1, Jvm.RoadKit.slotOf Z sA "size" "I")] ∧ oArO Z h b3 sO [.ref b4, .ref b5, .ref b6, .ref b2, .null, .null, .null, .null, .null, .null] ∧ Fld Z h b1 sA "size" "I" (.int 4)) := by
  refine oMet.intro (plainFor_of_name pn_346561) (fun m => ef_10 m b1 b2 b3 (3 : Int32)) ?_
  intro op oe os m obl omt ocd C
  refine oIloadN C d10_0 rfl rfl ?_
  refine oAloadN C d10_1 rfl rfl rfl ?_
  refine oLenO C p1 (z := (10 : Int32)) rfl d10_2 rfl ?_
  refine oIcmp_ne C d10_3 (q := 11) (by decide) (by decide) (r := 6) rfl (fun hc3 => ?_) (fun hq => absurd hq ((by decide)))
  refine oAloadN C d10_11 rfl rfl rfl ?_
  refine oIloadN C d10_12 rfl rfl ?_
  refine oAloadN C d10_13 rfl rfl rfl ?_
  refine oAastore C p1 (Ins.of_exa p2 (w115 hw)) (by decide) (k := 3) rfl (v := .null) rfl d10_14 rfl p3 fun h1 W1 A1 => ?_
  have A1l : oArO Z h1 b3 sO [.ref b4, .ref b5, .ref b6, .ref b2, .null, .null, .null, .null, .null, .null] := A1
  refine oAloadN C d10_15 rfl rfl rfl ?_
  refine oIloadN C d10_16 rfl rfl ?_
  refine oIconst C d10_17 (z := 1) rfl rfl ?_
  refine oIadd C d10_18 rfl ?_
  refine oCastI (z' := (4 : Int32)) (by decide) ?_
  have f2 := (Exa.wr W1 p4)
  have f3 := (Fld.other W1 p5 (Or.inl p6))
  refine oPutF C (w92 hw) Via.refl f3 f2 (Or.inl (w93 hw)) (w53 hw) (ty := .int) (by decide) rfl rfl d10_19 rfl p7 fun h4 W4 => ?_
  have f4w := Fld.same W4 f3
  refine oRetV C d10_22 (by decide) (by decide) ?_
  have f5 := (A1l.other W4 p8)
  exact ⟨rfl, (((oKe.refl h0 [b3] [(b1, Jvm.RoadKit.slotOf Z sA "size" "I")]).wrA W1 (Or.inl (List.mem_of_getElem? (i := 0) rfl))).wrF W4 (Or.inl (List.mem_of_getElem? (i := 0) rfl))), f5, f4w⟩
set_option maxRecDepth 65536 in
set_option maxHeartbeats 40000000 in
theorem ac9_19 (l : Launch) (Z : State) (a0 : Array Value) (hw : oHw a0 Z) (h0 : Heap) (n0 : Nat) (Z0 : n0 ≤ h0.size) (b1 : Addr) (b2 : Addr) (b3 : Addr) (b4 : Addr) (b5 : Addr) (b6 : Addr) (p1 : Fld Z h0 b1 "java/util/AbstractList" "modCount" "I" (.int 3)) (p2 : Exa Z h0 b1 sA) (p3 : n0 ≤ b1) (p4 : Fld Z h0 b1 sA "elementData" sG (.ref b3)) (p5 : Fld Z h0 b1 sA "size" "I" (.int 3)) (p6 : oArO Z h0 b3 sO [.ref b4, .ref b5, .ref b6, .null, .null, .null, .null, .null, .null, .null]) (p7 : Exa Z h0 b2 sF) (p8 : b3 ≠ b1) (p9 : n0 ≤ b3) (p10 : b1 ≠ b3) :
    oMet l Z (⟨sA, "add", "(Ljava/lang/Object;)Z"⟩ : MethodName) jdk_38_method_25_code 2 (some .boolean) [] ({ frames := 1, cells := 0, slots := 0, locals := 15 } : Room) 0 0 n0 #[.ref b1, .ref b2] h0 (fun v h => v = some (.int 1) ∧ oKe h0 h [b3] [(b1, Jvm.RoadKit.slotOf Z "java/util/AbstractList" "modCount" "I"), (b1, Jvm.RoadKit.slotOf Z sA "size" "I")] ∧ Fld Z h b1 "java/util/AbstractList" "modCount" "I" (.int 4) ∧ Fld Z h b1 sA "size" "I" (.int 4) ∧ oArO Z h b3 sO [.ref b4, .ref b5, .ref b6, .ref b2, .null, .null, .null, .null, .null, .null]) := by
  refine oMet.intro (plainFor_of_name pn_346561) (fun m => ef_9 m b1 b2) ?_
  intro op oe os m obl omt ocd C
  refine oAloadN C d9_0 rfl rfl rfl ?_
  refine oDup C d9_1 rfl rfl ?_
  refine oGetF C (w90 hw) (Via.of (w91 hw)) p1 d9_2 rfl ?_
  refine oIconst C d9_5 (z := 1) rfl rfl ?_
  refine oIadd C d9_6 rfl ?_
  refine oCastI (z' := (4 : Int32)) (by decide) ?_
  refine oPutF C (w90 hw) (Via.of (w91 hw)) p1 p2 (Or.inl (w72 hw)) (w53 hw) (ty := .int) (by decide) rfl rfl d9_7 rfl p3 fun h1 W1 => ?_
  have f1w := Fld.same W1 p1
  refine oAloadN C d9_10 rfl rfl rfl ?_
  refine oAloadN C d9_11 rfl rfl rfl ?_
  refine oAloadN C d9_12 rfl rfl rfl ?_
  have f2 := (Fld.other W1 p4 (Or.inr (oSn2 hw 1 0)))
  refine oGetF C (w74 hw) Via.refl f2 d9_13 rfl ?_
  refine oAloadN C d9_16 rfl rfl rfl ?_
  have f3 := (Fld.other W1 p5 (Or.inr (oSn2 hw 2 0)))
  refine oGetF C (w92 hw) Via.refl f3 d9_17 rfl ?_
  have f4 := (p6.other W1 p8)
  have f5 := (Exa.wr W1 p7)
  have f6 := (Exa.wr W1 p2)
  have z8 := (Nat.le_trans Z0 (Nat.le_of_eq W1.size.symm))
  refine oCallP C (w94 hw) (w96 hw) (w53 hw) (w95 hw) (w54 hw) (w98 hw) d9_20 f6 (by decide) pd_804065 rfl rfl (a := b1) (argsL := [.ref b2, .ref b3, .int 3]) (rest := []) rfl (W := 0) rfl (q := 23) rfl (by decide) (by decide) (by decide) (by decide) (ac10_18 l Z a0 hw _ n0 z8 b1 b2 b3 b4 b5 b6 f4 f5 p9 f6 f3 p10 p3 p8) (oVQ ?_)
  rintro h7 ⟨K7, f7_0, f7_1⟩
  refine oIconst C d9_23 (z := 1) rfl rfl ?_
  refine oRetZ C d9_24 (z' := (1 : Int32)) rfl (by decide) (by decide) ?_
  have f9 := (K7.fld f1w (ninS p10 nin0) (oNF (Or.inr (oSn2 hw 0 2)) oN0))
  exact ⟨rfl, (((oKe.refl h0 [b3] [(b1, Jvm.RoadKit.slotOf Z "java/util/AbstractList" "modCount" "I"), (b1, Jvm.RoadKit.slotOf Z sA "size" "I")]).wrF W1 (Or.inl (List.mem_of_getElem? (i := 0) rfl))).trans K7 (allS (Or.inl (List.mem_of_getElem? (i := 0) rfl)) all0) (oAS (Or.inl (List.mem_of_getElem? (i := 1) rfl)) oA0)), f9, f7_1, f7_0⟩
def fA21 (c21 : Int64) : Int32 := (if c21 = (0 : Int64) then (0 : Int32) else (1 : Int32))
theorem fA21_def (c21 : Int64) : fA21 c21 = (if c21 = (0 : Int64) then (0 : Int32) else (1 : Int32)) := rfl
def fA31 (c31 : Int64) : Int32 := (if c31 = (0 : Int64) then (0 : Int32) else (1 : Int32))
theorem fA31_def (c31 : Int64) : fA31 c31 = (if c31 = (0 : Int64) then (0 : Int32) else (1 : Int32)) := rfl
def fA41 (c41 : Int64) : Int32 := (if c41 = (0 : Int64) then (0 : Int32) else (1 : Int32))
theorem fA41_def (c41 : Int64) : fA41 c41 = (if c41 = (0 : Int64) then (0 : Int32) else (1 : Int32)) := rfl
def fA32 (c32 : Int64) : Int32 := (if c32 = (0 : Int64) then (0 : Int32) else (1 : Int32))
theorem fA32_def (c32 : Int64) : fA32 c32 = (if c32 = (0 : Int64) then (0 : Int32) else (1 : Int32)) := rfl
def fA42 (c42 : Int64) : Int32 := (if c42 = (0 : Int64) then (0 : Int32) else (1 : Int32))
theorem fA42_def (c42 : Int64) : fA42 c42 = (if c42 = (0 : Int64) then (0 : Int32) else (1 : Int32)) := rfl
def fA43 (c43 : Int64) : Int32 := (if c43 = (0 : Int64) then (0 : Int32) else (1 : Int32))
theorem fA43_def (c43 : Int64) : fA43 c43 = (if c43 = (0 : Int64) then (0 : Int32) else (1 : Int32)) := rfl
def fR31 (c31 : Int64) (c32 : Int64) (c21 : Int64) : Int32 := (if (fA31 c31) = 0 then (if (fA32 c32) = 0 then (0 : Int32) else (if (fA21 c21) = 0 then (0 : Int32) else (1 : Int32))) else (1 : Int32))
theorem fR31_def (c31 : Int64) (c32 : Int64) (c21 : Int64) : fR31 c31 c32 c21 = (if (fA31 c31) = 0 then (if (fA32 c32) = 0 then (0 : Int32) else (if (fA21 c21) = 0 then (0 : Int32) else (1 : Int32))) else (1 : Int32)) := rfl
def fR42 (c42 : Int64) (c43 : Int64) (c32 : Int64) : Int32 := (if (fA42 c42) = 0 then (if (fA43 c43) = 0 then (0 : Int32) else (if (fA32 c32) = 0 then (0 : Int32) else (1 : Int32))) else (1 : Int32))
theorem fR42_def (c42 : Int64) (c43 : Int64) (c32 : Int64) : fR42 c42 c43 c32 = (if (fA42 c42) = 0 then (if (fA43 c43) = 0 then (0 : Int32) else (if (fA32 c32) = 0 then (0 : Int32) else (1 : Int32))) else (1 : Int32)) := rfl
def fR41 (c41 : Int64) (c43 : Int64) (c31 : Int64) (c32 : Int64) (c21 : Int64) (c42 : Int64) : Int32 := (if (fA41 c41) = 0 then (if (fA43 c43) = 0 then (if (fA42 c42) = 0 then (0 : Int32) else (if (fA21 c21) = 0 then (0 : Int32) else (1 : Int32))) else (if (fR31 c31 c32 c21) = 0 then (if (fA42 c42) = 0 then (0 : Int32) else (if (fA21 c21) = 0 then (0 : Int32) else (1 : Int32))) else (1 : Int32))) else (1 : Int32))
theorem fR41_def (c41 : Int64) (c43 : Int64) (c31 : Int64) (c32 : Int64) (c21 : Int64) (c42 : Int64) : fR41 c41 c43 c31 c32 c21 c42 = (if (fA41 c41) = 0 then (if (fA43 c43) = 0 then (if (fA42 c42) = 0 then (0 : Int32) else (if (fA21 c21) = 0 then (0 : Int32) else (1 : Int32))) else (if (fR31 c31 c32 c21) = 0 then (if (fA42 c42) = 0 then (0 : Int32) else (if (fA21 c21) = 0 then (0 : Int32) else (1 : Int32))) else (1 : Int32))) else (1 : Int32)) := rfl
theorem pd_947254 : parseMethodDescriptor "(II)Z" = some ⟨[.int, .int], some .boolean⟩ := by decide +kernel
theorem ef_14 (m : MethodId) (x0 : Addr) (x1 : Addr) (x2 : Int32) : entryFrame m #[.ref x0, .ref x1, .int x2] 8 = mkF m 0 #[.val (.ref x0), .val (.ref x1), .val (.int x2), .unset, .unset, .unset, .unset, .unset] [] := by first | (simp [entryFrame, mkF, argsToLocals, Value.category]; done) | rfl
theorem pn_399007 : plainName sP = true := by first | (simp [plainName, overriddenIn]; done) | decide +kernel
def oFL3 : List (String × String × String) := [(sP, "span", "I"), (sP, "words", "I"), (sP, "bits", "[J")]
theorem oLa3 {a0 : Array Value} {Z : State} (hw : oHw a0 Z) : ∀ p ∈ oFL3, Laid Z a0 sP p.1 p.2.1 p.2.2 ∧ ∃ t, parseFieldDescriptor p.2.2 = some t := by
  intro p hp
  simp only [oFL3, List.mem_cons, List.not_mem_nil, or_false] at hp
  rcases hp with rfl | rfl | rfl
  · exact ⟨(Or.inr (w124 hw)), _, (by decide : parseFieldDescriptor "I" = some .int)⟩
  · exact ⟨(Or.inr (w126 hw)), _, (by decide : parseFieldDescriptor "I" = some .int)⟩
  · exact ⟨(Or.inr (w138 hw)), _, (by decide : parseFieldDescriptor "[J" = some (.array .long))⟩
theorem oSn3 {a0 : Array Value} {Z : State} (hw : oHw a0 Z) (i j : Nat) {O n d O' n' d' : String} (hi : oFL3[i]? = some (O, n, d) := by rfl) (hj : oFL3[j]? = some (O', n', d') := by rfl) (hn : n ≠ n' := by decide) : Jvm.RoadKit.slotOf Z O n d ≠ Jvm.RoadKit.slotOf Z O' n' d' := by
  obtain ⟨l1, t1, e1⟩ := oLa3 hw _ (List.mem_of_getElem? hi)
  obtain ⟨l2, t2, e2⟩ := oLa3 hw _ (List.mem_of_getElem? hj)
  exact slot_ne l1 l2 hn e1 e2
theorem ef_15 (m : MethodId) (x0 : Addr) : entryFrame m #[.ref x0] 1 = mkF m 0 #[.val (.ref x0)] [] := by first | (simp [entryFrame, mkF, argsToLocals, Value.category]; done) | rfl
theorem d15_0 : decode jdk_38_method_8_code 0 = .ok (.aload_n 0, 1) := by decide +kernel
theorem d15_1 : decode jdk_38_method_8_code 1 = .ok (.getfield 48, 3) := by decide +kernel
theorem d15_4 : decode jdk_38_method_8_code 4 = .ok (.ireturn, 1) := by decide +kernel
set_option maxRecDepth 65536 in
set_option maxHeartbeats 40000000 in
theorem ac15_20 (l : Launch) (Z : State) (a0 : Array Value) (hw : oHw a0 Z) (h0 : Heap) (n0 : Nat) (Z0 : n0 ≤ h0.size) (b1 : Addr) (p1 : Fld Z h0 b1 sA "size" "I" (.int 4)) :
    oMet l Z (⟨sA, "size", "()I"⟩ : MethodName) jdk_38_method_8_code 1 (some .int) [] ({ frames := 0, cells := 0, slots := 0, locals := 0 } : Room) 0 0 n0 #[.ref b1] h0 (fun v h => v = some (.int 4) ∧ h = h0) := by
  refine oMet.intro (plainFor_of_name pn_346561) (fun m => ef_15 m b1) ?_
  intro op oe os m obl omt ocd C
  refine oAloadN C d15_0 rfl rfl rfl ?_
  refine oGetF C (w92 hw) Via.refl p1 d15_1 rfl ?_
  refine oRetI C d15_4 (by decide) (by decide) ?_
  exact ⟨rfl, rfl⟩
theorem pd_428473 : parseMethodDescriptor "()I" = some ⟨[], some .int⟩ := by decide +kernel
theorem ef_16 (m : MethodId) (x0 : Addr) (x1 : Int32) : entryFrame m #[.ref x0, .int x1] 2 = mkF m 0 #[.val (.ref x0), .val (.int x1)] [] := by first | (simp [entryFrame, mkF, argsToLocals, Value.category]; done) | rfl
theorem ef_17 (m : MethodId) (x0 : Int32) (x1 : Int32) : entryFrame m #[.int x0, .int x1] 2 = mkF m 0 #[.val (.int x0), .val (.int x1)] [] := by first | (simp [entryFrame, mkF, argsToLocals, Value.category]; done) | rfl
theorem pn_165728 : plainName "java/util/Objects" = true := by first | (simp [plainName, overriddenIn]; done) | decide +kernel
theorem ef_18n2 (m : MethodId) (x0 : Int32) (x1 : Int32) : entryFrame m #[.int x0, .int x1, .null] 3 = mkF m 0 #[.val (.int x0), .val (.int x1), .val (.null)] [] := by first | (simp [entryFrame, mkF, argsToLocals, Value.category]; done) | rfl
theorem pn_230011 : plainName "jdk/internal/util/Preconditions" = true := by first | (simp [plainName, overriddenIn]; done) | decide +kernel
theorem d18_0 : decode jdk_41_method_11_code 0 = .ok (.iload_n 0, 1) := by decide +kernel
theorem d18_1 : decode jdk_41_method_11_code 1 = .ok (.ifCond .lt 8, 3) := by decide +kernel
theorem d18_4 : decode jdk_41_method_11_code 4 = .ok (.iload_n 0, 1) := by decide +kernel
theorem d18_5 : decode jdk_41_method_11_code 5 = .ok (.iload_n 1, 1) := by decide +kernel
theorem d18_6 : decode jdk_41_method_11_code 6 = .ok (.if_icmp .lt 10, 3) := by decide +kernel
theorem d18_16 : decode jdk_41_method_11_code 16 = .ok (.iload_n 0, 1) := by decide +kernel
theorem d18_17 : decode jdk_41_method_11_code 17 = .ok (.ireturn, 1) := by decide +kernel
set_option maxRecDepth 65536 in
set_option maxHeartbeats 40000000 in
theorem ac18_21 (l : Launch) (Z : State) (a0 : Array Value) (hw : oHw a0 Z) (h0 : Heap) (n0 : Nat) (Z0 : n0 ≤ h0.size)   :
    oMet l Z (⟨"jdk/internal/util/Preconditions", "checkIndex", "(IILjava/util/function/BiFunction;)I"⟩ : MethodName) jdk_41_method_11_code 3 (some .int) [] ({ frames := 0, cells := 0, slots := 0, locals := 0 } : Room) 0 0 n0 #[.int 1, .int 4, .null] h0 (fun v h => v = some (.int 1) ∧ h = h0) := by
  refine oMet.intro (plainFor_of_name pn_230011) (fun m => ef_18n2 m (1 : Int32) (4 : Int32)) ?_
  intro op oe os m obl omt ocd C
  refine oIloadN C d18_0 rfl rfl ?_
  refine oIf_lt C d18_1 (q := 9) (by decide) (by decide) (r := 4) rfl (fun hq => absurd hq ((by decide))) (fun hc1 => ?_)
  refine oIloadN C d18_4 rfl rfl ?_
  refine oIloadN C d18_5 rfl rfl ?_
  refine oIcmp_lt C d18_6 (q := 16) (by decide) (by decide) (r := 9) rfl (fun hc6 => ?_) (fun hq => absurd hq ((by decide)))
  refine oIloadN C d18_16 rfl rfl ?_
  refine oRetI C d18_17 (by decide) (by decide) ?_
  exact ⟨rfl, rfl⟩
theorem pd_547608 : parseMethodDescriptor "(IILjava/util/function/BiFunction;)I" = some ⟨[.int, .int, (.object "java/util/function/BiFunction")], some .int⟩ := by decide +kernel
theorem d17_0 : decode jdk_31_method_17_code 0 = .ok (.iload_n 0, 1) := by decide +kernel
theorem d17_1 : decode jdk_31_method_17_code 1 = .ok (.iload_n 1, 1) := by decide +kernel
theorem d17_2 : decode jdk_31_method_17_code 2 = .ok (.aconst_null, 1) := by decide +kernel
theorem d17_3 : decode jdk_31_method_17_code 3 = .ok (.invokestatic 105, 3) := by decide +kernel
theorem d17_6 : decode jdk_31_method_17_code 6 = .ok (.ireturn, 1) := by decide +kernel
set_option maxRecDepth 65536 in
set_option maxHeartbeats 40000000 in
theorem ac17_22 (l : Launch) (Z : State) (a0 : Array Value) (hw : oHw a0 Z) (h0 : Heap) (n0 : Nat) (Z0 : n0 ≤ h0.size)   :
    oMet l Z (⟨"java/util/Objects", "checkIndex", "(II)I"⟩ : MethodName) jdk_31_method_17_code 2 (some .int) [] ({ frames := 1, cells := 0, slots := 0, locals := 14 } : Room) 0 0 n0 #[.int 1, .int 4] h0 (fun v h => v = some (.int 1) ∧ h = h0) := by
  refine oMet.intro (plainFor_of_name pn_165728) (fun m => ef_17 m (1 : Int32) (4 : Int32)) ?_
  intro op oe os m obl omt ocd C
  refine oIloadN C d17_0 rfl rfl ?_
  refine oIloadN C d17_1 rfl rfl ?_
  refine oNull C d17_2 rfl ?_
  refine oCallS C (w151 hw) (w152 hw) (w153 hw) (w154 hw) d17_3 (by decide) pd_547608 rfl rfl (argsL := [.int 1, .int 4, .null]) (rest := []) rfl (W := 0) rfl (q := 6) rfl (by decide) (by decide) (by decide) (by decide) (ac18_21 l Z a0 hw _ n0 Z0  ) (oPureK ?_)
  refine oRetI C d17_6 (by decide) (by decide) ?_
  exact ⟨rfl, rfl⟩
theorem ef_19 (m : MethodId) (x0 : Addr) (x1 : Int32) : entryFrame m #[.ref x0, .int x1] 2 = mkF m 0 #[.val (.ref x0), .val (.int x1)] [] := by first | (simp [entryFrame, mkF, argsToLocals, Value.category]; done) | rfl
theorem d19_0 : decode jdk_38_method_18_code 0 = .ok (.aload_n 0, 1) := by decide +kernel
theorem d19_1 : decode jdk_38_method_18_code 1 = .ok (.getfield 9, 3) := by decide +kernel
theorem d19_4 : decode jdk_38_method_18_code 4 = .ok (.iload_n 1, 1) := by decide +kernel
theorem d19_5 : decode jdk_38_method_18_code 5 = .ok (.aaload, 1) := by decide +kernel
theorem d19_6 : decode jdk_38_method_18_code 6 = .ok (.areturn, 1) := by decide +kernel
set_option maxRecDepth 65536 in
set_option maxHeartbeats 40000000 in
theorem ac19_23 (l : Launch) (Z : State) (a0 : Array Value) (hw : oHw a0 Z) (h0 : Heap) (n0 : Nat) (Z0 : n0 ≤ h0.size) (b1 : Addr) (b2 : Addr) (b3 : Addr) (b4 : Addr) (b5 : Addr) (b6 : Addr) (p1 : Fld Z h0 b1 sA "elementData" sG (.ref b2)) (p2 : oArO Z h0 b2 sO [.ref b3, .ref b4, .ref b5, .ref b6, .null, .null, .null, .null, .null, .null]) :
    oMet l Z (⟨sA, "elementData", "(I)Ljava/lang/Object;"⟩ : MethodName) jdk_38_method_18_code 2 (some (.object sO)) [] ({ frames := 0, cells := 0, slots := 0, locals := 0 } : Room) 0 0 n0 #[.ref b1, .int 1] h0 (fun v h => v = some (.ref b4) ∧ h = h0) := by
  refine oMet.intro (plainFor_of_name pn_346561) (fun m => ef_19 m b1 (1 : Int32)) ?_
  intro op oe os m obl omt ocd C
  refine oAloadN C d19_0 rfl rfl rfl ?_
  refine oGetF C (w74 hw) Via.refl p1 d19_1 rfl ?_
  refine oIloadN C d19_4 rfl rfl ?_
  refine oAaload C p2 (by decide) (k := 1) rfl (v := .ref b4) rfl d19_5 rfl ?_
  refine oRetA C rfl rfl d19_6 (by decide) (by decide) ?_
  exact ⟨rfl, rfl⟩
theorem pd_666516 : parseMethodDescriptor "(I)Ljava/lang/Object;" = some ⟨[.int], some (.object sO)⟩ := by decide +kernel
theorem d16_0 : decode jdk_38_method_20_code 0 = .ok (.iload_n 1, 1) := by decide +kernel
theorem d16_1 : decode jdk_38_method_20_code 1 = .ok (.aload_n 0, 1) := by decide +kernel
theorem d16_2 : decode jdk_38_method_20_code 2 = .ok (.getfield 48, 3) := by decide +kernel
theorem d16_5 : decode jdk_38_method_20_code 5 = .ok (.invokestatic 118, 3) := by decide +kernel
theorem d16_8 : decode jdk_38_method_20_code 8 = .ok (.pop, 1) := by decide +kernel
theorem d16_9 : decode jdk_38_method_20_code 9 = .ok (.aload_n 0, 1) := by decide +kernel
theorem d16_10 : decode jdk_38_method_20_code 10 = .ok (.iload_n 1, 1) := by decide +kernel
theorem d16_11 : decode jdk_38_method_20_code 11 = .ok (.invokevirtual 123, 3) := by decide +kernel
theorem d16_14 : decode jdk_38_method_20_code 14 = .ok (.areturn, 1) := by decide +kernel
set_option maxRecDepth 65536 in
set_option maxHeartbeats 40000000 in
theorem ac16_24 (l : Launch) (Z : State) (a0 : Array Value) (hw : oHw a0 Z) (h0 : Heap) (n0 : Nat) (Z0 : n0 ≤ h0.size) (b1 : Addr) (b2 : Addr) (b3 : Addr) (b4 : Addr) (b5 : Addr) (b6 : Addr) (p1 : Fld Z h0 b1 sA "size" "I" (.int 4)) (p2 : Fld Z h0 b1 sA "elementData" sG (.ref b2)) (p3 : oArO Z h0 b2 sO [.ref b3, .ref b4, .ref b5, .ref b6, .null, .null, .null, .null, .null, .null]) (p4 : Exa Z h0 b1 sA) :
    oMet l Z (⟨sA, "get", "(I)Ljava/lang/Object;"⟩ : MethodName) jdk_38_method_20_code 2 (some (.object sO)) [] ({ frames := 2, cells := 0, slots := 0, locals := 27 } : Room) 0 0 n0 #[.ref b1, .int 1] h0 (fun v h => v = some (.ref b4) ∧ h = h0) := by
  refine oMet.intro (plainFor_of_name pn_346561) (fun m => ef_16 m b1 (1 : Int32)) ?_
  intro op oe os m obl omt ocd C
  refine oIloadN C d16_0 rfl rfl ?_
  refine oAloadN C d16_1 rfl rfl rfl ?_
  refine oGetF C (w92 hw) Via.refl p1 d16_2 rfl ?_
  refine oCallS C (w147 hw) (w148 hw) (w149 hw) (w150 hw) d16_5 (by decide) pd_947237 rfl rfl (argsL := [.int 1, .int 4]) (rest := []) rfl (W := 0) rfl (q := 8) rfl (by decide) (by decide) (by decide) (by decide) (ac17_22 l Z a0 hw _ n0 Z0  ) (oPureK ?_)
  refine oPop C d16_8 rfl rfl ?_
  refine oAloadN C d16_9 rfl rfl rfl ?_
  refine oIloadN C d16_10 rfl rfl ?_
  refine oCallV C (w155 hw) (w156 hw) (w158 hw) (w157 hw) (w54 hw) (w159 hw) d16_11 p4 (by decide) pd_666516 rfl rfl (a := b1) (argsL := [.int 1]) (rest := []) rfl (W := 0) rfl (q := 14) rfl (by decide) (by decide) (by decide) (by decide) (ac19_23 l Z a0 hw _ n0 Z0 b1 b2 b3 b4 b5 b6 p2 p3) (oPureK ?_)
  refine oRetA C rfl rfl d16_14 (by decide) (by decide) ?_
  exact ⟨rfl, rfl⟩
set_option maxRecDepth 65536 in
set_option maxHeartbeats 40000000 in
theorem ac18_25 (l : Launch) (Z : State) (a0 : Array Value) (hw : oHw a0 Z) (h0 : Heap) (n0 : Nat) (Z0 : n0 ≤ h0.size)   :
    oMet l Z (⟨"jdk/internal/util/Preconditions", "checkIndex", "(IILjava/util/function/BiFunction;)I"⟩ : MethodName) jdk_41_method_11_code 3 (some .int) [] ({ frames := 0, cells := 0, slots := 0, locals := 0 } : Room) 0 0 n0 #[.int 2, .int 4, .null] h0 (fun v h => v = some (.int 2) ∧ h = h0) := by
  refine oMet.intro (plainFor_of_name pn_230011) (fun m => ef_18n2 m (2 : Int32) (4 : Int32)) ?_
  intro op oe os m obl omt ocd C
  refine oIloadN C d18_0 rfl rfl ?_
  refine oIf_lt C d18_1 (q := 9) (by decide) (by decide) (r := 4) rfl (fun hq => absurd hq ((by decide))) (fun hc1 => ?_)
  refine oIloadN C d18_4 rfl rfl ?_
  refine oIloadN C d18_5 rfl rfl ?_
  refine oIcmp_lt C d18_6 (q := 16) (by decide) (by decide) (r := 9) rfl (fun hc6 => ?_) (fun hq => absurd hq ((by decide)))
  refine oIloadN C d18_16 rfl rfl ?_
  refine oRetI C d18_17 (by decide) (by decide) ?_
  exact ⟨rfl, rfl⟩
set_option maxRecDepth 65536 in
set_option maxHeartbeats 40000000 in
theorem ac17_26 (l : Launch) (Z : State) (a0 : Array Value) (hw : oHw a0 Z) (h0 : Heap) (n0 : Nat) (Z0 : n0 ≤ h0.size)   :
    oMet l Z (⟨"java/util/Objects", "checkIndex", "(II)I"⟩ : MethodName) jdk_31_method_17_code 2 (some .int) [] ({ frames := 1, cells := 0, slots := 0, locals := 14 } : Room) 0 0 n0 #[.int 2, .int 4] h0 (fun v h => v = some (.int 2) ∧ h = h0) := by
  refine oMet.intro (plainFor_of_name pn_165728) (fun m => ef_17 m (2 : Int32) (4 : Int32)) ?_
  intro op oe os m obl omt ocd C
  refine oIloadN C d17_0 rfl rfl ?_
  refine oIloadN C d17_1 rfl rfl ?_
  refine oNull C d17_2 rfl ?_
  refine oCallS C (w151 hw) (w152 hw) (w153 hw) (w154 hw) d17_3 (by decide) pd_547608 rfl rfl (argsL := [.int 2, .int 4, .null]) (rest := []) rfl (W := 0) rfl (q := 6) rfl (by decide) (by decide) (by decide) (by decide) (ac18_25 l Z a0 hw _ n0 Z0  ) (oPureK ?_)
  refine oRetI C d17_6 (by decide) (by decide) ?_
  exact ⟨rfl, rfl⟩
set_option maxRecDepth 65536 in
set_option maxHeartbeats 40000000 in
theorem ac19_27 (l : Launch) (Z : State) (a0 : Array Value) (hw : oHw a0 Z) (h0 : Heap) (n0 : Nat) (Z0 : n0 ≤ h0.size) (b1 : Addr) (b2 : Addr) (b3 : Addr) (b4 : Addr) (b5 : Addr) (b6 : Addr) (p1 : Fld Z h0 b1 sA "elementData" sG (.ref b2)) (p2 : oArO Z h0 b2 sO [.ref b3, .ref b4, .ref b5, .ref b6, .null, .null, .null, .null, .null, .null]) :
    oMet l Z (⟨sA, "elementData", "(I)Ljava/lang/Object;"⟩ : MethodName) jdk_38_method_18_code 2 (some (.object sO)) [] ({ frames := 0, cells := 0, slots := 0, locals := 0 } : Room) 0 0 n0 #[.ref b1, .int 2] h0 (fun v h => v = some (.ref b5) ∧ h = h0) := by
  refine oMet.intro (plainFor_of_name pn_346561) (fun m => ef_19 m b1 (2 : Int32)) ?_
  intro op oe os m obl omt ocd C
  refine oAloadN C d19_0 rfl rfl rfl ?_
  refine oGetF C (w74 hw) Via.refl p1 d19_1 rfl ?_
  refine oIloadN C d19_4 rfl rfl ?_
  refine oAaload C p2 (by decide) (k := 2) rfl (v := .ref b5) rfl d19_5 rfl ?_
  refine oRetA C rfl rfl d19_6 (by decide) (by decide) ?_
  exact ⟨rfl, rfl⟩
set_option maxRecDepth 65536 in
set_option maxHeartbeats 40000000 in
theorem ac16_28 (l : Launch) (Z : State) (a0 : Array Value) (hw : oHw a0 Z) (h0 : Heap) (n0 : Nat) (Z0 : n0 ≤ h0.size) (b1 : Addr) (b2 : Addr) (b3 : Addr) (b4 : Addr) (b5 : Addr) (b6 : Addr) (p1 : Fld Z h0 b1 sA "size" "I" (.int 4)) (p2 : Fld Z h0 b1 sA "elementData" sG (.ref b2)) (p3 : oArO Z h0 b2 sO [.ref b3, .ref b4, .ref b5, .ref b6, .null, .null, .null, .null, .null, .null]) (p4 : Exa Z h0 b1 sA) :
    oMet l Z (⟨sA, "get", "(I)Ljava/lang/Object;"⟩ : MethodName) jdk_38_method_20_code 2 (some (.object sO)) [] ({ frames := 2, cells := 0, slots := 0, locals := 27 } : Room) 0 0 n0 #[.ref b1, .int 2] h0 (fun v h => v = some (.ref b5) ∧ h = h0) := by
  refine oMet.intro (plainFor_of_name pn_346561) (fun m => ef_16 m b1 (2 : Int32)) ?_
  intro op oe os m obl omt ocd C
  refine oIloadN C d16_0 rfl rfl ?_
  refine oAloadN C d16_1 rfl rfl rfl ?_
  refine oGetF C (w92 hw) Via.refl p1 d16_2 rfl ?_
  refine oCallS C (w147 hw) (w148 hw) (w149 hw) (w150 hw) d16_5 (by decide) pd_947237 rfl rfl (argsL := [.int 2, .int 4]) (rest := []) rfl (W := 0) rfl (q := 8) rfl (by decide) (by decide) (by decide) (by decide) (ac17_26 l Z a0 hw _ n0 Z0  ) (oPureK ?_)
  refine oPop C d16_8 rfl rfl ?_
  refine oAloadN C d16_9 rfl rfl rfl ?_
  refine oIloadN C d16_10 rfl rfl ?_
  refine oCallV C (w155 hw) (w156 hw) (w158 hw) (w157 hw) (w54 hw) (w159 hw) d16_11 p4 (by decide) pd_666516 rfl rfl (a := b1) (argsL := [.int 2]) (rest := []) rfl (W := 0) rfl (q := 14) rfl (by decide) (by decide) (by decide) (by decide) (ac19_27 l Z a0 hw _ n0 Z0 b1 b2 b3 b4 b5 b6 p2 p3) (oPureK ?_)
  refine oRetA C rfl rfl d16_14 (by decide) (by decide) ?_
  exact ⟨rfl, rfl⟩
set_option maxRecDepth 65536 in
set_option maxHeartbeats 40000000 in
theorem ac18_29 (l : Launch) (Z : State) (a0 : Array Value) (hw : oHw a0 Z) (h0 : Heap) (n0 : Nat) (Z0 : n0 ≤ h0.size)   :
    oMet l Z (⟨"jdk/internal/util/Preconditions", "checkIndex", "(IILjava/util/function/BiFunction;)I"⟩ : MethodName) jdk_41_method_11_code 3 (some .int) [] ({ frames := 0, cells := 0, slots := 0, locals := 0 } : Room) 0 0 n0 #[.int 3, .int 4, .null] h0 (fun v h => v = some (.int 3) ∧ h = h0) := by
  refine oMet.intro (plainFor_of_name pn_230011) (fun m => ef_18n2 m (3 : Int32) (4 : Int32)) ?_
  intro op oe os m obl omt ocd C
  refine oIloadN C d18_0 rfl rfl ?_
  refine oIf_lt C d18_1 (q := 9) (by decide) (by decide) (r := 4) rfl (fun hq => absurd hq ((by decide))) (fun hc1 => ?_)
  refine oIloadN C d18_4 rfl rfl ?_
  refine oIloadN C d18_5 rfl rfl ?_
  refine oIcmp_lt C d18_6 (q := 16) (by decide) (by decide) (r := 9) rfl (fun hc6 => ?_) (fun hq => absurd hq ((by decide)))
  refine oIloadN C d18_16 rfl rfl ?_
  refine oRetI C d18_17 (by decide) (by decide) ?_
  exact ⟨rfl, rfl⟩
set_option maxRecDepth 65536 in
set_option maxHeartbeats 40000000 in
theorem ac17_30 (l : Launch) (Z : State) (a0 : Array Value) (hw : oHw a0 Z) (h0 : Heap) (n0 : Nat) (Z0 : n0 ≤ h0.size)   :
    oMet l Z (⟨"java/util/Objects", "checkIndex", "(II)I"⟩ : MethodName) jdk_31_method_17_code 2 (some .int) [] ({ frames := 1, cells := 0, slots := 0, locals := 14 } : Room) 0 0 n0 #[.int 3, .int 4] h0 (fun v h => v = some (.int 3) ∧ h = h0) := by
  refine oMet.intro (plainFor_of_name pn_165728) (fun m => ef_17 m (3 : Int32) (4 : Int32)) ?_
  intro op oe os m obl omt ocd C
  refine oIloadN C d17_0 rfl rfl ?_
  refine oIloadN C d17_1 rfl rfl ?_
  refine oNull C d17_2 rfl ?_
  refine oCallS C (w151 hw) (w152 hw) (w153 hw) (w154 hw) d17_3 (by decide) pd_547608 rfl rfl (argsL := [.int 3, .int 4, .null]) (rest := []) rfl (W := 0) rfl (q := 6) rfl (by decide) (by decide) (by decide) (by decide) (ac18_29 l Z a0 hw _ n0 Z0  ) (oPureK ?_)
  refine oRetI C d17_6 (by decide) (by decide) ?_
  exact ⟨rfl, rfl⟩
set_option maxRecDepth 65536 in
set_option maxHeartbeats 40000000 in
theorem ac19_31 (l : Launch) (Z : State) (a0 : Array Value) (hw : oHw a0 Z) (h0 : Heap) (n0 : Nat) (Z0 : n0 ≤ h0.size) (b1 : Addr) (b2 : Addr) (b3 : Addr) (b4 : Addr) (b5 : Addr) (b6 : Addr) (p1 : Fld Z h0 b1 sA "elementData" sG (.ref b2)) (p2 : oArO Z h0 b2 sO [.ref b3, .ref b4, .ref b5, .ref b6, .null, .null, .null, .null, .null, .null]) :
    oMet l Z (⟨sA, "elementData", "(I)Ljava/lang/Object;"⟩ : MethodName) jdk_38_method_18_code 2 (some (.object sO)) [] ({ frames := 0, cells := 0, slots := 0, locals := 0 } : Room) 0 0 n0 #[.ref b1, .int 3] h0 (fun v h => v = some (.ref b6) ∧ h = h0) := by
  refine oMet.intro (plainFor_of_name pn_346561) (fun m => ef_19 m b1 (3 : Int32)) ?_
  intro op oe os m obl omt ocd C
  refine oAloadN C d19_0 rfl rfl rfl ?_
  refine oGetF C (w74 hw) Via.refl p1 d19_1 rfl ?_
  refine oIloadN C d19_4 rfl rfl ?_
  refine oAaload C p2 (by decide) (k := 3) rfl (v := .ref b6) rfl d19_5 rfl ?_
  refine oRetA C rfl rfl d19_6 (by decide) (by decide) ?_
  exact ⟨rfl, rfl⟩
set_option maxRecDepth 65536 in
set_option maxHeartbeats 40000000 in
theorem ac16_32 (l : Launch) (Z : State) (a0 : Array Value) (hw : oHw a0 Z) (h0 : Heap) (n0 : Nat) (Z0 : n0 ≤ h0.size) (b1 : Addr) (b2 : Addr) (b3 : Addr) (b4 : Addr) (b5 : Addr) (b6 : Addr) (p1 : Fld Z h0 b1 sA "size" "I" (.int 4)) (p2 : Fld Z h0 b1 sA "elementData" sG (.ref b2)) (p3 : oArO Z h0 b2 sO [.ref b3, .ref b4, .ref b5, .ref b6, .null, .null, .null, .null, .null, .null]) (p4 : Exa Z h0 b1 sA) :
    oMet l Z (⟨sA, "get", "(I)Ljava/lang/Object;"⟩ : MethodName) jdk_38_method_20_code 2 (some (.object sO)) [] ({ frames := 2, cells := 0, slots := 0, locals := 27 } : Room) 0 0 n0 #[.ref b1, .int 3] h0 (fun v h => v = some (.ref b6) ∧ h = h0) := by
  refine oMet.intro (plainFor_of_name pn_346561) (fun m => ef_16 m b1 (3 : Int32)) ?_
  intro op oe os m obl omt ocd C
  refine oIloadN C d16_0 rfl rfl ?_
  refine oAloadN C d16_1 rfl rfl rfl ?_
  refine oGetF C (w92 hw) Via.refl p1 d16_2 rfl ?_
  refine oCallS C (w147 hw) (w148 hw) (w149 hw) (w150 hw) d16_5 (by decide) pd_947237 rfl rfl (argsL := [.int 3, .int 4]) (rest := []) rfl (W := 0) rfl (q := 8) rfl (by decide) (by decide) (by decide) (by decide) (ac17_30 l Z a0 hw _ n0 Z0  ) (oPureK ?_)
  refine oPop C d16_8 rfl rfl ?_
  refine oAloadN C d16_9 rfl rfl rfl ?_
  refine oIloadN C d16_10 rfl rfl ?_
  refine oCallV C (w155 hw) (w156 hw) (w158 hw) (w157 hw) (w54 hw) (w159 hw) d16_11 p4 (by decide) pd_666516 rfl rfl (a := b1) (argsL := [.int 3]) (rest := []) rfl (W := 0) rfl (q := 14) rfl (by decide) (by decide) (by decide) (by decide) (ac19_31 l Z a0 hw _ n0 Z0 b1 b2 b3 b4 b5 b6 p2 p3) (oPureK ?_)
  refine oRetA C rfl rfl d16_14 (by decide) (by decide) ?_
  exact ⟨rfl, rfl⟩
theorem d14_0 : decode prog_13_method_1_code 0 = .ok (.aload_n 0, 1) := by decide +kernel
theorem d14_1 : decode prog_13_method_1_code 1 = .ok (.invokespecial 1, 3) := by decide +kernel
theorem d14_4 : decode prog_13_method_1_code 4 = .ok (.aload_n 0, 1) := by decide +kernel
theorem d14_5 : decode prog_13_method_1_code 5 = .ok (.iload_n 2, 1) := by decide +kernel
theorem d14_6 : decode prog_13_method_1_code 6 = .ok (.iconst 1, 1) := by decide +kernel
theorem d14_7 : decode prog_13_method_1_code 7 = .ok (.isub, 1) := by decide +kernel
theorem d14_8 : decode prog_13_method_1_code 8 = .ok (.putfield 7, 3) := by decide +kernel
theorem d14_11 : decode prog_13_method_1_code 11 = .ok (.aload_n 0, 1) := by decide +kernel
theorem d14_12 : decode prog_13_method_1_code 12 = .ok (.aload_n 0, 1) := by decide +kernel
theorem d14_13 : decode prog_13_method_1_code 13 = .ok (.getfield 7, 3) := by decide +kernel
theorem d14_16 : decode prog_13_method_1_code 16 = .ok (.bipush 64, 2) := by decide +kernel
theorem d14_18 : decode prog_13_method_1_code 18 = .ok (.iadd, 1) := by decide +kernel
theorem d14_19 : decode prog_13_method_1_code 19 = .ok (.iconst 1, 1) := by decide +kernel
theorem d14_20 : decode prog_13_method_1_code 20 = .ok (.isub, 1) := by decide +kernel
theorem d14_21 : decode prog_13_method_1_code 21 = .ok (.bipush 64, 2) := by decide +kernel
theorem d14_23 : decode prog_13_method_1_code 23 = .ok (.idiv, 1) := by decide +kernel
theorem d14_24 : decode prog_13_method_1_code 24 = .ok (.putfield 15, 3) := by decide +kernel
theorem d14_27 : decode prog_13_method_1_code 27 = .ok (.aload_n 1, 1) := by decide +kernel
theorem d14_28 : decode prog_13_method_1_code 28 = .ok (.invokeinterface 18 1, 5) := by decide +kernel
theorem d14_33 : decode prog_13_method_1_code 33 = .ok (.i2l, 1) := by decide +kernel
theorem d14_34 : decode prog_13_method_1_code 34 = .ok (.aload_n 0, 1) := by decide +kernel
theorem d14_35 : decode prog_13_method_1_code 35 = .ok (.getfield 15, 3) := by decide +kernel
theorem d14_38 : decode prog_13_method_1_code 38 = .ok (.i2l, 1) := by decide +kernel
theorem d14_39 : decode prog_13_method_1_code 39 = .ok (.lmul, 1) := by decide +kernel
theorem d14_40 : decode prog_13_method_1_code 40 = .ok (.lstore_n 3, 1) := by decide +kernel
theorem d14_41 : decode prog_13_method_1_code 41 = .ok (.lload_n 3, 1) := by decide +kernel
theorem d14_42 : decode prog_13_method_1_code 42 = .ok (.ldc2_w 26, 3) := by decide +kernel
theorem d14_45 : decode prog_13_method_1_code 45 = .ok (.lcmp, 1) := by decide +kernel
theorem d14_46 : decode prog_13_method_1_code 46 = .ok (.ifCond .le 26, 3) := by decide +kernel
theorem d14_72 : decode prog_13_method_1_code 72 = .ok (.aload_n 0, 1) := by decide +kernel
theorem d14_73 : decode prog_13_method_1_code 73 = .ok (.lload_n 3, 1) := by decide +kernel
theorem d14_74 : decode prog_13_method_1_code 74 = .ok (.l2i, 1) := by decide +kernel
theorem d14_75 : decode prog_13_method_1_code 75 = .ok (.newarray .long, 2) := by decide +kernel
theorem d14_77 : decode prog_13_method_1_code 77 = .ok (.putfield 37, 3) := by decide +kernel
theorem d14_80 : decode prog_13_method_1_code 80 = .ok (.iconst 2, 1) := by decide +kernel
theorem d14_81 : decode prog_13_method_1_code 81 = .ok (.istore 5, 2) := by decide +kernel
theorem d14_83 : decode prog_13_method_1_code 83 = .ok (.iload 5, 2) := by decide +kernel
theorem d14_85 : decode prog_13_method_1_code 85 = .ok (.aload_n 1, 1) := by decide +kernel
theorem d14_86 : decode prog_13_method_1_code 86 = .ok (.invokeinterface 18 1, 5) := by decide +kernel
theorem d14_91 : decode prog_13_method_1_code 91 = .ok (.if_icmp .gt 98, 3) := by decide +kernel
theorem d14_94 : decode prog_13_method_1_code 94 = .ok (.aload_n 1, 1) := by decide +kernel
theorem d14_95 : decode prog_13_method_1_code 95 = .ok (.iload 5, 2) := by decide +kernel
theorem d14_97 : decode prog_13_method_1_code 97 = .ok (.iconst 1, 1) := by decide +kernel
theorem d14_98 : decode prog_13_method_1_code 98 = .ok (.isub, 1) := by decide +kernel
theorem d14_99 : decode prog_13_method_1_code 99 = .ok (.invokeinterface 41 2, 5) := by decide +kernel
theorem d14_104 : decode prog_13_method_1_code 104 = .ok (.checkcast 45, 3) := by decide +kernel
theorem d14_107 : decode prog_13_method_1_code 107 = .ok (.astore 6, 2) := by decide +kernel
theorem d14_109 : decode prog_13_method_1_code 109 = .ok (.iconst 1, 1) := by decide +kernel
theorem d14_110 : decode prog_13_method_1_code 110 = .ok (.istore 7, 2) := by decide +kernel
theorem d14_112 : decode prog_13_method_1_code 112 = .ok (.iload 7, 2) := by decide +kernel
theorem d14_114 : decode prog_13_method_1_code 114 = .ok (.aload_n 0, 1) := by decide +kernel
theorem d14_115 : decode prog_13_method_1_code 115 = .ok (.getfield 7, 3) := by decide +kernel
theorem d14_118 : decode prog_13_method_1_code 118 = .ok (.iload 5, 2) := by decide +kernel
theorem d14_120 : decode prog_13_method_1_code 120 = .ok (.iconst 1, 1) := by decide +kernel
theorem d14_121 : decode prog_13_method_1_code 121 = .ok (.isub, 1) := by decide +kernel
theorem d14_122 : decode prog_13_method_1_code 122 = .ok (.invokestatic 47, 3) := by decide +kernel
theorem d14_125 : decode prog_13_method_1_code 125 = .ok (.if_icmp .gt 58, 3) := by decide +kernel
theorem d14_183 : decode prog_13_method_1_code 183 = .ok (.iinc 5 1, 3) := by decide +kernel
theorem d14_186 : decode prog_13_method_1_code 186 = .ok (.goto (-103), 3) := by decide +kernel
theorem d14_189 : decode prog_13_method_1_code 189 = .ok (.return_, 1) := by decide +kernel
set_option maxRecDepth 65536 in
set_option maxHeartbeats 40000000 in
theorem ac14_33 (l : Launch) (Z : State) (a0 : Array Value) (hw : oHw a0 Z) (h0 : Heap) (n0 : Nat) (Z0 : n0 ≤ h0.size) (b1 : Addr) (b2 : Addr) (b3 : Addr) (b4 : Addr) (b5 : Addr) (b6 : Addr) (b7 : Addr) (p1 : Exa Z h0 b1 sP) (p2 : Fld Z h0 b1 sP "span" "I" (.int 0)) (p3 : n0 ≤ b1) (p4 : Fld Z h0 b1 sP "words" "I" (.int 0)) (p5 : Exa Z h0 b2 sA) (p6 : Fld Z h0 b2 sA "size" "I" (.int 4)) (p7 : b2 ≠ b1) (p8 : Fld Z h0 b1 sP "bits" "[J" (.null)) (p9 : Fld Z h0 b2 sA "elementData" sG (.ref b3)) (p10 : oArO Z h0 b3 sO [.ref b4, .ref b5, .ref b6, .ref b7, .null, .null, .null, .null, .null, .null]) (p11 : b3 ≠ b1) (p12 : Exa Z h0 b5 sF) (p13 : Exa Z h0 b6 sF) (p14 : Exa Z h0 b7 sF) :
    oMet l Z (⟨sP, "<init>", "(Ljava/util/List;I)V"⟩ : MethodName) prog_13_method_1_code 8 none [] ({ frames := 3, cells := 1, slots := 16, locals := 40 } : Room) 1 16 n0 #[.ref b1, .ref b2, .int 1] h0 (fun v h => ∃ a9 : Addr, v = none ∧ oKe h0 h [] [(b1, Jvm.RoadKit.slotOf Z sP "span" "I"), (b1, Jvm.RoadKit.slotOf Z sP "words" "I"), (b1, Jvm.RoadKit.slotOf Z sP "bits" "[J")] ∧ h0.size ≤ a9 ∧ Fld Z h b1 sP "span" "I" (.int 0) ∧ Fld Z h b1 sP "words" "I" (.int 0) ∧ oAr Z h a9 .long [] ∧ Fld Z h b1 sP "bits" "[J" (.ref a9)) := by
  refine oMet.intro (plainFor_of_name pn_399007) (fun m => ef_14 m b1 b2 (1 : Int32)) ?_
  intro op oe os m obl omt ocd C
  refine oAloadN C d14_0 rfl rfl rfl ?_
  refine oInitO C (w122 hw) (w22 hw) (w23 hw) d14_1 rfl (W := 0) rfl rfl (by decide) (by decide) ?_
  refine oAloadN C d14_4 rfl rfl rfl ?_
  refine oIloadN C d14_5 rfl rfl ?_
  refine oIconst C d14_6 (z := 1) rfl rfl ?_
  refine oIsub C d14_7 rfl ?_
  refine oCastI (z' := (0 : Int32)) (by decide) ?_
  refine oPutF C (w123 hw) Via.refl p2 p1 (Or.inr ⟨(w124 hw), rfl, rfl⟩) (w117 hw) (ty := .int) (by decide) rfl rfl d14_8 rfl p3 fun h1 W1 => ?_
  have f1w := Fld.same W1 p2
  refine oAloadN C d14_11 rfl rfl rfl ?_
  refine oAloadN C d14_12 rfl rfl rfl ?_
  refine oGetF C (w123 hw) Via.refl f1w d14_13 rfl ?_
  refine oBipush C d14_16 (z := 64) rfl rfl ?_
  refine oIadd C d14_18 rfl ?_
  refine oCastI (z' := (64 : Int32)) (by decide) ?_
  refine oIconst C d14_19 (z := 1) rfl rfl ?_
  refine oIsub C d14_20 rfl ?_
  refine oCastI (z' := (63 : Int32)) (by decide) ?_
  refine oBipush C d14_21 (z := 64) rfl rfl ?_
  refine oIdiv C d14_23 (by decide) rfl ?_
  refine oCastI (z' := (0 : Int32)) (by decide) ?_
  have f2 := (Exa.wr W1 p1)
  have f3 := (Fld.other W1 p4 (Or.inr (oSn3 hw 1 0)))
  refine oPutF C (w125 hw) Via.refl f3 f2 (Or.inr ⟨(w126 hw), rfl, rfl⟩) (w117 hw) (ty := .int) (by decide) rfl rfl d14_24 rfl p3 fun h4 W4 => ?_
  have f4w := Fld.same W4 f3
  refine oAloadN C d14_27 rfl rfl rfl ?_
  have f5 := (Exa.wr W4 (Exa.wr W1 p5))
  have f6 := (Fld.other W4 (Fld.other W1 p6 (Or.inl p7)) (Or.inl p7))
  have z8 := (Nat.le_trans (Nat.le_trans Z0 (Nat.le_of_eq W1.size.symm)) (Nat.le_of_eq W4.size.symm))
  refine oCallI C (w127 hw) (w128 hw) (w129 hw) (w130 hw) (w131 hw) (w132 hw) (w133 hw) (w88 hw) (w54 hw) (w134 hw) d14_28 f5 (by decide) pd_428473 rfl rfl (a := b2) (argsL := []) (rest := []) rfl (W := 0) rfl (q := 33) rfl (by decide) (by decide) (by decide) (by decide) (ac15_20 l Z a0 hw _ n0 z8 b2 f6) (oPureK ?_)
  refine oI2L C d14_33 rfl ?_
  refine oCastL (z' := (4 : Int64)) (by decide) ?_
  refine oAloadN C d14_34 rfl rfl rfl ?_
  refine oGetF C (w125 hw) Via.refl f4w d14_35 rfl ?_
  refine oI2L C d14_38 rfl ?_
  refine oCastL (z' := (0 : Int64)) (by decide) ?_
  refine oLmul C d14_39 rfl ?_
  refine oCastL (z' := (0 : Int64)) (by decide) ?_
  refine oLstoreN C d14_40 (Ls' := #[.val (.ref b1), .val (.ref b2), .val (.int 1), .val (.long 0), .second, .unset, .unset, .unset]) rfl (q := 41) rfl ?_
  refine oLloadN C d14_41 rfl rfl ?_
  refine oLdc2 C (w135 hw) d14_42 rfl ?_
  refine oLcmp_le C d14_45 rfl d14_46 (q := 72) (by decide) (by decide) (r := 49) rfl (fun hc45 => ?_) (fun hq => absurd hq ((by decide)))
  refine oAloadN C d14_72 rfl rfl rfl ?_
  refine oLloadN C d14_73 rfl rfl ?_
  refine oL2I C d14_74 rfl ?_
  refine oCastI (z' := (0 : Int32)) (by decide) ?_
  refine oNewA C (w136 hw) rfl d14_75 rfl (by decide) (k := 0) rfl (by decide) (by decide) (cap := 0) (Nat.le_refl _) (by decide) (by decide) fun a9 h9 g_a9 E9 A9 => ?_
  have ge_a9 : n0 ≤ a9 := g_a9 ▸ z8
  have A9l : oAr Z h9 a9 .long [] := A9
  have f10 := (Exa.ext E9 (Exa.wr W4 f2))
  have f11 := (Fld.ext E9 (Fld.other W4 (Fld.other W1 p8 (Or.inr (oSn3 hw 2 0))) (Or.inr (oSn3 hw 2 1))))
  refine oPutF C (w137 hw) Via.refl f11 f10 (Or.inr ⟨(w138 hw), rfl, rfl⟩) (w117 hw) (ty := (.array .long)) (by decide) rfl rfl d14_77 rfl p3 fun h12 W12 => ?_
  have f12w := Fld.same W12 f11
  refine oIconst C d14_80 (z := 2) rfl rfl ?_
  refine oIstore C d14_81 (Ls' := #[.val (.ref b1), .val (.ref b2), .val (.int 1), .val (.long 0), .second, .val (.int 2), .unset, .unset]) rfl (q := 83) rfl ?_
  refine oIload C d14_83 rfl rfl ?_
  refine oAloadN C d14_85 rfl rfl rfl ?_
  have f13 := (Exa.wr W12 (Exa.ext E9 f5))
  have f14 := (Fld.other W12 (Fld.ext E9 f6) (Or.inl p7))
  have z16 := (Nat.le_trans (Nat.le_trans z8 E9.1) (Nat.le_of_eq W12.size.symm))
  refine oCallI C (w127 hw) (w128 hw) (w129 hw) (w130 hw) (w131 hw) (w132 hw) (w133 hw) (w88 hw) (w54 hw) (w134 hw) d14_86 f13 (by decide) pd_428473 rfl rfl (a := b2) (argsL := []) (rest := [.int 2]) rfl (W := 1) rfl (q := 91) rfl (by decide) (by decide) (by decide) (by decide) (ac15_20 l Z a0 hw _ n0 z16 b2 f14) (oPureK ?_)
  refine oIcmp_gt C d14_91 (q := 189) (by decide) (by decide) (r := 94) rfl (fun hq => absurd hq ((by decide))) (fun hc91 => ?_)
  refine oAloadN C d14_94 rfl rfl rfl ?_
  refine oIload C d14_95 rfl rfl ?_
  refine oIconst C d14_97 (z := 1) rfl rfl ?_
  refine oIsub C d14_98 rfl ?_
  refine oCastI (z' := (1 : Int32)) (by decide) ?_
  have f17 := (Fld.other W12 (Fld.ext E9 (Fld.other W4 (Fld.other W1 p9 (Or.inl p7)) (Or.inl p7))) (Or.inl p7))
  have f18 := ((((p10.other W1 p11).other W4 p11).ext E9).other W12 p11)
  refine oCallI C (w139 hw) (w140 hw) (w141 hw) (w142 hw) (w143 hw) (w144 hw) (w145 hw) (w88 hw) (w54 hw) (w146 hw) d14_99 f13 (by decide) pd_666516 rfl rfl (a := b2) (argsL := [.int 1]) (rest := []) rfl (W := 0) rfl (q := 104) rfl (by decide) (by decide) (by decide) (by decide) (ac16_24 l Z a0 hw _ n0 z16 b2 b3 b4 b5 b6 b7 f14 f17 f18 f13) (oPureK ?_)
  have f20 := (Exa.wr W12 (Exa.ext E9 (Exa.wr W4 (Exa.wr W1 p12))))
  refine oCast C (w160 hw) (Ins.self f20) d14_104 rfl ?_
  refine oAstore C d14_107 rfl (Ls' := #[.val (.ref b1), .val (.ref b2), .val (.int 1), .val (.long 0), .second, .val (.int 2), .val (.ref b5), .unset]) rfl (q := 109) rfl ?_
  refine oIconst C d14_109 (z := 1) rfl rfl ?_
  refine oIstore C d14_110 (Ls' := #[.val (.ref b1), .val (.ref b2), .val (.int 1), .val (.long 0), .second, .val (.int 2), .val (.ref b5), .val (.int 1)]) rfl (q := 112) rfl ?_
  refine oIload C d14_112 rfl rfl ?_
  refine oAloadN C d14_114 rfl rfl rfl ?_
  have f21 := (Fld.other W12 (Fld.ext E9 (Fld.other W4 f1w (Or.inr (oSn3 hw 0 1)))) (Or.inr (oSn3 hw 0 2)))
  refine oGetF C (w123 hw) Via.refl f21 d14_115 rfl ?_
  refine oIload C d14_118 rfl rfl ?_
  refine oIconst C d14_120 (z := 1) rfl rfl ?_
  refine oIsub C d14_121 rfl ?_
  refine oCastI (z' := (1 : Int32)) (by decide) ?_
  refine oCallS C (w162 hw) (w163 hw) (w111 hw) (w164 hw) d14_122 (by decide) pd_947237 rfl rfl (argsL := [.int 0, .int 1]) (rest := [.int 1]) rfl (W := 1) rfl (q := 125) rfl (by decide) (by decide) (by decide) (by decide) (mt_fMin l Z a0 hw _ n0 z16 (0 : Int32) (1 : Int32) ) (oPureK ?_)
  refine oCastI (z' := (0 : Int32)) (by decide) ?_
  refine oIcmp_gt C d14_125 (q := 183) (by decide) (by decide) (r := 128) rfl (fun hc125 => ?_) (fun hq => absurd hq ((by decide)))
  refine oIinc C d14_183 rfl (z := 1) rfl (w := (3 : Int32)) (by decide) (Ls' := #[.val (.ref b1), .val (.ref b2), .val (.int 1), .val (.long 0), .second, .val (.int 3), .val (.ref b5), .val (.int 1)]) rfl rfl ?_
  refine oGoto C d14_186 (q := 83) (by decide) (by decide) ?_
  refine oIload C d14_83 rfl rfl ?_
  refine oAloadN C d14_85 rfl rfl rfl ?_
  refine oCallI C (w127 hw) (w128 hw) (w129 hw) (w130 hw) (w131 hw) (w132 hw) (w133 hw) (w88 hw) (w54 hw) (w134 hw) d14_86 f13 (by decide) pd_428473 rfl rfl (a := b2) (argsL := []) (rest := [.int 3]) rfl (W := 1) rfl (q := 91) rfl (by decide) (by decide) (by decide) (by decide) (ac15_20 l Z a0 hw _ n0 z16 b2 f14) (oPureK ?_)
  refine oIcmp_gt C d14_91 (q := 189) (by decide) (by decide) (r := 94) rfl (fun hq => absurd hq ((by decide))) (fun hc91_1 => ?_)
  refine oAloadN C d14_94 rfl rfl rfl ?_
  refine oIload C d14_95 rfl rfl ?_
  refine oIconst C d14_97 (z := 1) rfl rfl ?_
  refine oIsub C d14_98 rfl ?_
  refine oCastI (z' := (2 : Int32)) (by decide) ?_
  refine oCallI C (w139 hw) (w140 hw) (w141 hw) (w142 hw) (w143 hw) (w144 hw) (w145 hw) (w88 hw) (w54 hw) (w146 hw) d14_99 f13 (by decide) pd_666516 rfl rfl (a := b2) (argsL := [.int 2]) (rest := []) rfl (W := 0) rfl (q := 104) rfl (by decide) (by decide) (by decide) (by decide) (ac16_28 l Z a0 hw _ n0 z16 b2 b3 b4 b5 b6 b7 f14 f17 f18 f13) (oPureK ?_)
  have f25 := (Exa.wr W12 (Exa.ext E9 (Exa.wr W4 (Exa.wr W1 p13))))
  refine oCast C (w160 hw) (Ins.self f25) d14_104 rfl ?_
  refine oAstore C d14_107 rfl (Ls' := #[.val (.ref b1), .val (.ref b2), .val (.int 1), .val (.long 0), .second, .val (.int 3), .val (.ref b6), .val (.int 1)]) rfl (q := 109) rfl ?_
  refine oIconst C d14_109 (z := 1) rfl rfl ?_
  refine oIstore C d14_110 (Ls' := #[.val (.ref b1), .val (.ref b2), .val (.int 1), .val (.long 0), .second, .val (.int 3), .val (.ref b6), .val (.int 1)]) rfl (q := 112) rfl ?_
  refine oIload C d14_112 rfl rfl ?_
  refine oAloadN C d14_114 rfl rfl rfl ?_
  refine oGetF C (w123 hw) Via.refl f21 d14_115 rfl ?_
  refine oIload C d14_118 rfl rfl ?_
  refine oIconst C d14_120 (z := 1) rfl rfl ?_
  refine oIsub C d14_121 rfl ?_
  refine oCastI (z' := (2 : Int32)) (by decide) ?_
  refine oCallS C (w162 hw) (w163 hw) (w111 hw) (w164 hw) d14_122 (by decide) pd_947237 rfl rfl (argsL := [.int 0, .int 2]) (rest := [.int 1]) rfl (W := 1) rfl (q := 125) rfl (by decide) (by decide) (by decide) (by decide) (mt_fMin l Z a0 hw _ n0 z16 (0 : Int32) (2 : Int32) ) (oPureK ?_)
  refine oCastI (z' := (0 : Int32)) (by decide) ?_
  refine oIcmp_gt C d14_125 (q := 183) (by decide) (by decide) (r := 128) rfl (fun hc125_1 => ?_) (fun hq => absurd hq ((by decide)))
  refine oIinc C d14_183 rfl (z := 1) rfl (w := (4 : Int32)) (by decide) (Ls' := #[.val (.ref b1), .val (.ref b2), .val (.int 1), .val (.long 0), .second, .val (.int 4), .val (.ref b6), .val (.int 1)]) rfl rfl ?_
  refine oGoto C d14_186 (q := 83) (by decide) (by decide) ?_
  refine oIload C d14_83 rfl rfl ?_
  refine oAloadN C d14_85 rfl rfl rfl ?_
  refine oCallI C (w127 hw) (w128 hw) (w129 hw) (w130 hw) (w131 hw) (w132 hw) (w133 hw) (w88 hw) (w54 hw) (w134 hw) d14_86 f13 (by decide) pd_428473 rfl rfl (a := b2) (argsL := []) (rest := [.int 4]) rfl (W := 1) rfl (q := 91) rfl (by decide) (by decide) (by decide) (by decide) (ac15_20 l Z a0 hw _ n0 z16 b2 f14) (oPureK ?_)
  refine oIcmp_gt C d14_91 (q := 189) (by decide) (by decide) (r := 94) rfl (fun hq => absurd hq ((by decide))) (fun hc91_2 => ?_)
  refine oAloadN C d14_94 rfl rfl rfl ?_
  refine oIload C d14_95 rfl rfl ?_
  refine oIconst C d14_97 (z := 1) rfl rfl ?_
  refine oIsub C d14_98 rfl ?_
  refine oCastI (z' := (3 : Int32)) (by decide) ?_
  refine oCallI C (w139 hw) (w140 hw) (w141 hw) (w142 hw) (w143 hw) (w144 hw) (w145 hw) (w88 hw) (w54 hw) (w146 hw) d14_99 f13 (by decide) pd_666516 rfl rfl (a := b2) (argsL := [.int 3]) (rest := []) rfl (W := 0) rfl (q := 104) rfl (by decide) (by decide) (by decide) (by decide) (ac16_32 l Z a0 hw _ n0 z16 b2 b3 b4 b5 b6 b7 f14 f17 f18 f13) (oPureK ?_)
  have f29 := (Exa.wr W12 (Exa.ext E9 (Exa.wr W4 (Exa.wr W1 p14))))
  refine oCast C (w160 hw) (Ins.self f29) d14_104 rfl ?_
  refine oAstore C d14_107 rfl (Ls' := #[.val (.ref b1), .val (.ref b2), .val (.int 1), .val (.long 0), .second, .val (.int 4), .val (.ref b7), .val (.int 1)]) rfl (q := 109) rfl ?_
  refine oIconst C d14_109 (z := 1) rfl rfl ?_
  refine oIstore C d14_110 (Ls' := #[.val (.ref b1), .val (.ref b2), .val (.int 1), .val (.long 0), .second, .val (.int 4), .val (.ref b7), .val (.int 1)]) rfl (q := 112) rfl ?_
  refine oIload C d14_112 rfl rfl ?_
  refine oAloadN C d14_114 rfl rfl rfl ?_
  refine oGetF C (w123 hw) Via.refl f21 d14_115 rfl ?_
  refine oIload C d14_118 rfl rfl ?_
  refine oIconst C d14_120 (z := 1) rfl rfl ?_
  refine oIsub C d14_121 rfl ?_
  refine oCastI (z' := (3 : Int32)) (by decide) ?_
  refine oCallS C (w162 hw) (w163 hw) (w111 hw) (w164 hw) d14_122 (by decide) pd_947237 rfl rfl (argsL := [.int 0, .int 3]) (rest := [.int 1]) rfl (W := 1) rfl (q := 125) rfl (by decide) (by decide) (by decide) (by decide) (mt_fMin l Z a0 hw _ n0 z16 (0 : Int32) (3 : Int32) ) (oPureK ?_)
  refine oCastI (z' := (0 : Int32)) (by decide) ?_
  refine oIcmp_gt C d14_125 (q := 183) (by decide) (by decide) (r := 128) rfl (fun hc125_2 => ?_) (fun hq => absurd hq ((by decide)))
  refine oIinc C d14_183 rfl (z := 1) rfl (w := (5 : Int32)) (by decide) (Ls' := #[.val (.ref b1), .val (.ref b2), .val (.int 1), .val (.long 0), .second, .val (.int 5), .val (.ref b7), .val (.int 1)]) rfl rfl ?_
  refine oGoto C d14_186 (q := 83) (by decide) (by decide) ?_
  refine oIload C d14_83 rfl rfl ?_
  refine oAloadN C d14_85 rfl rfl rfl ?_
  refine oCallI C (w127 hw) (w128 hw) (w129 hw) (w130 hw) (w131 hw) (w132 hw) (w133 hw) (w88 hw) (w54 hw) (w134 hw) d14_86 f13 (by decide) pd_428473 rfl rfl (a := b2) (argsL := []) (rest := [.int 5]) rfl (W := 1) rfl (q := 91) rfl (by decide) (by decide) (by decide) (by decide) (ac15_20 l Z a0 hw _ n0 z16 b2 f14) (oPureK ?_)
  refine oIcmp_gt C d14_91 (q := 189) (by decide) (by decide) (r := 94) rfl (fun hc91_3 => ?_) (fun hq => absurd hq ((by decide)))
  refine oRetV C d14_189 (by decide) (by decide) ?_
  have f32 := (Fld.other W12 (Fld.ext E9 f4w) (Or.inr (oSn3 hw 1 2)))
  have ne33 : b1 ≠ a9 := oNe' (Nat.lt_of_lt_of_le p1.lt (Nat.le_trans (Nat.le_of_eq W1.size.symm) (Nat.le_of_eq W4.size.symm))) (Nat.le_of_eq g_a9.symm)
  have f34 := (A9l.other W12 (Ne.symm ne33))
  exact ⟨_, rfl, (((((oKe.refl h0 [] [(b1, Jvm.RoadKit.slotOf Z sP "span" "I"), (b1, Jvm.RoadKit.slotOf Z sP "words" "I"), (b1, Jvm.RoadKit.slotOf Z sP "bits" "[J")]).wrF W1 (Or.inl (List.mem_of_getElem? (i := 0) rfl))).wrF W4 (Or.inl (List.mem_of_getElem? (i := 1) rfl))).ext E9).wrF W12 (Or.inl (List.mem_of_getElem? (i := 2) rfl))), (Nat.le_trans (((oKe.refl h0 [] [(b1, Jvm.RoadKit.slotOf Z sP "span" "I"), (b1, Jvm.RoadKit.slotOf Z sP "words" "I"), (b1, Jvm.RoadKit.slotOf Z sP "bits" "[J")]).wrF W1 (Or.inl (List.mem_of_getElem? (i := 0) rfl))).wrF W4 (Or.inl (List.mem_of_getElem? (i := 1) rfl))).1 (Nat.le_of_eq g_a9.symm)), f21, f32, f34, f12w⟩
theorem pd_928696 : parseMethodDescriptor "(Ljava/util/List;I)V" = some ⟨[(.object sL), .int], none⟩ := by decide +kernel
theorem ef_21 (m : MethodId) (x0 : Addr) (x1 : Int32) (x2 : Int32) : entryFrame m #[.ref x0, .int x1, .int x2] 4 = mkF m 0 #[.val (.ref x0), .val (.int x1), .val (.int x2), .unset] [] := by first | (simp [entryFrame, mkF, argsToLocals, Value.category]; done) | rfl
theorem d21_0 : decode prog_13_method_2_code 0 = .ok (.iload_n 1, 1) := by decide +kernel
theorem d21_1 : decode prog_13_method_2_code 1 = .ok (.iload_n 2, 1) := by decide +kernel
theorem d21_2 : decode prog_13_method_2_code 2 = .ok (.isub, 1) := by decide +kernel
theorem d21_3 : decode prog_13_method_2_code 3 = .ok (.iconst 1, 1) := by decide +kernel
theorem d21_4 : decode prog_13_method_2_code 4 = .ok (.isub, 1) := by decide +kernel
theorem d21_5 : decode prog_13_method_2_code 5 = .ok (.istore_n 3, 1) := by decide +kernel
theorem d21_6 : decode prog_13_method_2_code 6 = .ok (.aload_n 0, 1) := by decide +kernel
theorem d21_7 : decode prog_13_method_2_code 7 = .ok (.getfield 37, 3) := by decide +kernel
theorem d21_10 : decode prog_13_method_2_code 10 = .ok (.iload_n 1, 1) := by decide +kernel
theorem d21_11 : decode prog_13_method_2_code 11 = .ok (.iconst 1, 1) := by decide +kernel
theorem d21_12 : decode prog_13_method_2_code 12 = .ok (.isub, 1) := by decide +kernel
theorem d21_13 : decode prog_13_method_2_code 13 = .ok (.aload_n 0, 1) := by decide +kernel
theorem d21_14 : decode prog_13_method_2_code 14 = .ok (.getfield 15, 3) := by decide +kernel
theorem d21_17 : decode prog_13_method_2_code 17 = .ok (.imul, 1) := by decide +kernel
theorem d21_18 : decode prog_13_method_2_code 18 = .ok (.iload_n 3, 1) := by decide +kernel
theorem d21_19 : decode prog_13_method_2_code 19 = .ok (.bipush 6, 2) := by decide +kernel
theorem d21_21 : decode prog_13_method_2_code 21 = .ok (.iushr, 1) := by decide +kernel
theorem d21_22 : decode prog_13_method_2_code 22 = .ok (.iadd, 1) := by decide +kernel
theorem d21_23 : decode prog_13_method_2_code 23 = .ok (.laload, 1) := by decide +kernel
theorem d21_24 : decode prog_13_method_2_code 24 = .ok (.lconst 1, 1) := by decide +kernel
theorem d21_25 : decode prog_13_method_2_code 25 = .ok (.iload_n 3, 1) := by decide +kernel
theorem d21_26 : decode prog_13_method_2_code 26 = .ok (.lshl, 1) := by decide +kernel
theorem d21_27 : decode prog_13_method_2_code 27 = .ok (.land, 1) := by decide +kernel
theorem d21_28 : decode prog_13_method_2_code 28 = .ok (.lconst 0, 1) := by decide +kernel
theorem d21_29 : decode prog_13_method_2_code 29 = .ok (.lcmp, 1) := by decide +kernel
theorem d21_30 : decode prog_13_method_2_code 30 = .ok (.ifCond .eq 7, 3) := by decide +kernel
theorem d21_37 : decode prog_13_method_2_code 37 = .ok (.iconst 0, 1) := by decide +kernel
theorem d21_38 : decode prog_13_method_2_code 38 = .ok (.ireturn, 1) := by decide +kernel
set_option maxRecDepth 65536 in
set_option maxHeartbeats 40000000 in
theorem ac21_34 (l : Launch) (Z : State) (a0 : Array Value) (hw : oHw a0 Z) (h0 : Heap) (n0 : Nat) (Z0 : n0 ≤ h0.size) (b1 : Addr) (b2 : Addr) (x3 : Int32) (x4 : Nat) (y5 : Int64) (y6 : Int64) (p1 : Fld Z h0 b1 sP "bits" "[J" (.ref b2)) (p2 : Fld Z h0 b1 sP "words" "I" (.int x3)) (p3 : oAr Z h0 b2 .long (oRl x4 (0 : Int64) y5 y6 (0 : Int64))) (p4 : oKw x4 x3) :
    oMet l Z (⟨sP, "follows", "(II)Z"⟩ : MethodName) prog_13_method_2_code 4 (some .boolean) [] ({ frames := 0, cells := 0, slots := 0, locals := 0 } : Room) 0 0 n0 #[.ref b1, .int 4, .int 3] h0 (fun v h => v = some (.int 0) ∧ h = h0) := by
  refine oMet.intro (plainFor_of_name pn_399007) (fun m => ef_21 m b1 (4 : Int32) (3 : Int32)) ?_
  intro op oe os m obl omt ocd C
  refine oIloadN C d21_0 rfl rfl ?_
  refine oIloadN C d21_1 rfl rfl ?_
  refine oIsub C d21_2 rfl ?_
  refine oCastI (z' := (1 : Int32)) (by decide) ?_
  refine oIconst C d21_3 (z := 1) rfl rfl ?_
  refine oIsub C d21_4 rfl ?_
  refine oCastI (z' := (0 : Int32)) (by decide) ?_
  refine oIstoreN C d21_5 (Ls' := #[.val (.ref b1), .val (.int 4), .val (.int 3), .val (.int 0)]) rfl (q := 6) rfl ?_
  refine oAloadN C d21_6 rfl rfl rfl ?_
  refine oGetF C (w137 hw) Via.refl p1 d21_7 rfl ?_
  refine oIloadN C d21_10 rfl rfl ?_
  refine oIconst C d21_11 (z := 1) rfl rfl ?_
  refine oIsub C d21_12 rfl ?_
  refine oCastI (z' := (3 : Int32)) (by decide) ?_
  refine oAloadN C d21_13 rfl rfl rfl ?_
  refine oGetF C (w125 hw) Via.refl p2 d21_14 rfl ?_
  refine oImul C d21_17 rfl ?_
  refine oIloadN C d21_18 rfl rfl ?_
  refine oBipush C d21_19 (z := 6) rfl rfl ?_
  refine oIushr C d21_21 rfl ?_
  refine oCastI (z' := (0 : Int32)) (by decide) ?_
  refine oIadd C d21_22 rfl ?_
  refine oLaload C p3 (own_n3 p4) (k := (3 * x4)) (own_k3 p4) (v := .long 0) (own_v3 p4) d21_23 rfl ?_
  refine oLconst C d21_24 (z := 1) rfl rfl ?_
  refine oIloadN C d21_25 rfl rfl ?_
  refine oLshl C d21_26 rfl ?_
  refine oCastL (z' := (1 : Int64)) (by decide) ?_
  refine oLand C d21_27 rfl ?_
  refine oCastL (z' := (0 : Int64)) (by decide) ?_
  refine oLconst C d21_28 (z := 0) rfl rfl ?_
  refine oLcmp_eq C d21_29 rfl d21_30 (q := 37) (by decide) (by decide) (r := 33) rfl (fun hc29 => ?_) (fun hq => absurd hq ((by decide)))
  refine oIconst C d21_37 (z := 0) rfl rfl ?_
  refine oRetZ C d21_38 (z' := (0 : Int32)) rfl (by decide) (by decide) ?_
  exact ⟨rfl, rfl⟩
theorem ef_22 (m : MethodId) (x0 : Addr) (x1 : Addr) : entryFrame m #[.ref x0, .ref x1] 2 = mkF m 0 #[.val (.ref x0), .val (.ref x1)] [] := by first | (simp [entryFrame, mkF, argsToLocals, Value.category]; done) | rfl
theorem ef_23 (m : MethodId) (x0 : Addr) (x1 : Addr) : entryFrame m #[.ref x0, .ref x1] 2 = mkF m 0 #[.val (.ref x0), .val (.ref x1)] [] := by first | (simp [entryFrame, mkF, argsToLocals, Value.category]; done) | rfl
theorem d23_0 : decode prog_16_method_7_code 0 = .ok (.aload_n 1, 1) := by decide +kernel
theorem d23_1 : decode prog_16_method_7_code 1 = .ok (.getfield 7, 3) := by decide +kernel
theorem d23_4 : decode prog_16_method_7_code 4 = .ok (.aload_n 0, 1) := by decide +kernel
theorem d23_5 : decode prog_16_method_7_code 5 = .ok (.getfield 7, 3) := by decide +kernel
theorem d23_8 : decode prog_16_method_7_code 8 = .ok (.if_acmp .eq 24, 3) := by decide +kernel
theorem d23_32 : decode prog_16_method_7_code 32 = .ok (.return_, 1) := by decide +kernel
set_option maxRecDepth 65536 in
set_option maxHeartbeats 40000000 in
theorem ac23_35 (l : Launch) (Z : State) (a0 : Array Value) (hw : oHw a0 Z) (h0 : Heap) (n0 : Nat) (Z0 : n0 ≤ h0.size) (b1 : Addr) (b2 : Addr) (p1 : Fld Z h0 b2 sR "declaration" sJ (.null)) (p2 : Fld Z h0 b1 sR "declaration" sJ (.null)) :
    oMet l Z (⟨sR, "requireSameDeclaration", "(Lcom/example/orderloom/orderloom/RequestClass;)V"⟩ : MethodName) prog_16_method_7_code 2 none [] ({ frames := 0, cells := 0, slots := 0, locals := 0 } : Room) 0 0 n0 #[.ref b1, .ref b2] h0 (fun v h => v = none ∧ h = h0) := by
  refine oMet.intro (plainFor_of_name pn_618879) (fun m => ef_23 m b1 b2) ?_
  intro op oe os m obl omt ocd C
  refine oAloadN C d23_0 rfl rfl rfl ?_
  refine oGetF C (w24 hw) Via.refl p1 d23_1 rfl ?_
  refine oAloadN C d23_4 rfl rfl rfl ?_
  refine oGetF C (w24 hw) Via.refl p2 d23_5 rfl ?_
  refine oAcmp C rfl rfl (same := true) d23_8 (decide_eq_true rfl) (q := 32) (by decide) (by decide) ?_
  refine oRetV C d23_32 (by decide) (by decide) ?_
  exact ⟨rfl, rfl⟩
theorem pd_471014 : parseMethodDescriptor "(Lcom/example/orderloom/orderloom/RequestClass;)V" = some ⟨[(.object sR)], none⟩ := by decide +kernel
theorem ef_24 (m : MethodId) (x0 : Addr) : entryFrame m #[.ref x0] 1 = mkF m 0 #[.val (.ref x0)] [] := by first | (simp [entryFrame, mkF, argsToLocals, Value.category]; done) | rfl
theorem d24_0 : decode prog_16_method_9_code 0 = .ok (.aload_n 0, 1) := by decide +kernel
theorem d24_1 : decode prog_16_method_9_code 1 = .ok (.getfield 21, 3) := by decide +kernel
theorem d24_4 : decode prog_16_method_9_code 4 = .ok (.lreturn, 1) := by decide +kernel
set_option maxRecDepth 65536 in
set_option maxHeartbeats 40000000 in
theorem ac24_36 (l : Launch) (Z : State) (a0 : Array Value) (hw : oHw a0 Z) (h0 : Heap) (n0 : Nat) (Z0 : n0 ≤ h0.size) (b1 : Addr) (y2 : Int64) (p1 : Fld Z h0 b1 sR "conflicts" "J" (.long y2)) :
    oMet l Z (⟨sR, "conflicts", "()J"⟩ : MethodName) prog_16_method_9_code 1 (some .long) [] ({ frames := 0, cells := 0, slots := 0, locals := 0 } : Room) 0 0 n0 #[.ref b1] h0 (fun v h => v = some (.long y2) ∧ h = h0) := by
  refine oMet.intro (plainFor_of_name pn_618879) (fun m => ef_24 m b1) ?_
  intro op oe os m obl omt ocd C
  refine oAloadN C d24_0 rfl rfl rfl ?_
  refine oGetF C (w30 hw) Via.refl p1 d24_1 rfl ?_
  refine oRetL C d24_4 (by decide) (by decide) ?_
  exact ⟨rfl, rfl⟩
theorem pd_428474 : parseMethodDescriptor "()J" = some ⟨[], some .long⟩ := by decide +kernel
theorem ef_25 (m : MethodId) (x0 : Addr) : entryFrame m #[.ref x0] 1 = mkF m 0 #[.val (.ref x0)] [] := by first | (simp [entryFrame, mkF, argsToLocals, Value.category]; done) | rfl
theorem d25_0 : decode prog_16_method_8_code 0 = .ok (.aload_n 0, 1) := by decide +kernel
theorem d25_1 : decode prog_16_method_8_code 1 = .ok (.getfield 17, 3) := by decide +kernel
theorem d25_4 : decode prog_16_method_8_code 4 = .ok (.lreturn, 1) := by decide +kernel
set_option maxRecDepth 65536 in
set_option maxHeartbeats 40000000 in
theorem ac25_37 (l : Launch) (Z : State) (a0 : Array Value) (hw : oHw a0 Z) (h0 : Heap) (n0 : Nat) (Z0 : n0 ≤ h0.size) (b1 : Addr) (p1 : Fld Z h0 b1 sR "bit" "J" (.long 4)) :
    oMet l Z (⟨sR, "bit", "()J"⟩ : MethodName) prog_16_method_8_code 1 (some .long) [] ({ frames := 0, cells := 0, slots := 0, locals := 0 } : Room) 0 0 n0 #[.ref b1] h0 (fun v h => v = some (.long 4) ∧ h = h0) := by
  refine oMet.intro (plainFor_of_name pn_618879) (fun m => ef_25 m b1) ?_
  intro op oe os m obl omt ocd C
  refine oAloadN C d25_0 rfl rfl rfl ?_
  refine oGetF C (w28 hw) Via.refl p1 d25_1 rfl ?_
  refine oRetL C d25_4 (by decide) (by decide) ?_
  exact ⟨rfl, rfl⟩
theorem ef_26 (m : MethodId) (x0 : Int64) (x1 : Int64) (x2 : Int64) (x3 : Int64) (x4 : Int64) (x5 : Int64) : entryFrame m #[.long x0, .long x1, .long x2, .long x3, .long x4, .long x5] 12 = mkF m 0 #[.val (.long x0), .second, .val (.long x1), .second, .val (.long x2), .second, .val (.long x3), .second, .val (.long x4), .second, .val (.long x5), .second] [] := by first | (simp [entryFrame, mkF, argsToLocals, Value.category]; done) | rfl
theorem ef_27 (m : MethodId) (x0 : Int64) (x1 : Int64) (x2 : Int64) (x3 : Int64) : entryFrame m #[.long x0, .long x1, .long x2, .long x3] 8 = mkF m 0 #[.val (.long x0), .second, .val (.long x1), .second, .val (.long x2), .second, .val (.long x3), .second] [] := by first | (simp [entryFrame, mkF, argsToLocals, Value.category]; done) | rfl
theorem d27_0 : decode prog_11_method_7_code 0 = .ok (.lload_n 0, 1) := by decide +kernel
theorem d27_1 : decode prog_11_method_7_code 1 = .ok (.lload 6, 2) := by decide +kernel
theorem d27_3 : decode prog_11_method_7_code 3 = .ok (.lcmp, 1) := by decide +kernel
theorem d27_4 : decode prog_11_method_7_code 4 = .ok (.ifCond .gt 14, 3) := by decide +kernel
theorem d27_7 : decode prog_11_method_7_code 7 = .ok (.lload 4, 2) := by decide +kernel
theorem d27_9 : decode prog_11_method_7_code 9 = .ok (.lload_n 2, 1) := by decide +kernel
theorem d27_10 : decode prog_11_method_7_code 10 = .ok (.lcmp, 1) := by decide +kernel
theorem d27_11 : decode prog_11_method_7_code 11 = .ok (.ifCond .gt 7, 3) := by decide +kernel
theorem d27_14 : decode prog_11_method_7_code 14 = .ok (.iconst 1, 1) := by decide +kernel
theorem d27_15 : decode prog_11_method_7_code 15 = .ok (.goto 4, 3) := by decide +kernel
theorem d27_19 : decode prog_11_method_7_code 19 = .ok (.ireturn, 1) := by decide +kernel
set_option maxRecDepth 65536 in
set_option maxHeartbeats 40000000 in
theorem ac27_38 (l : Launch) (Z : State) (a0 : Array Value) (hw : oHw a0 Z) (h0 : Heap) (n0 : Nat) (Z0 : n0 ≤ h0.size)   :
    oMet l Z (⟨sF, "overlap", "(JJJJ)Z"⟩ : MethodName) prog_11_method_7_code 8 (some .boolean) [] ({ frames := 0, cells := 0, slots := 0, locals := 0 } : Room) 0 0 n0 #[.long (-9223372036854775808), .long 9223372036854775807, .long (-9223372036854775808), .long 9223372036854775807] h0 (fun v h => v = some (.int 1) ∧ h = h0) := by
  refine oMet.intro (plainFor_of_name pn_807394) (fun m => ef_27 m (-9223372036854775808 : Int64) (9223372036854775807 : Int64) (-9223372036854775808 : Int64) (9223372036854775807 : Int64)) ?_
  intro op oe os m obl omt ocd C
  refine oLloadN C d27_0 rfl rfl ?_
  refine oLload C d27_1 rfl rfl ?_
  refine oLcmp_gt C d27_3 rfl d27_4 (q := 18) (by decide) (by decide) (r := 7) rfl (fun hq => absurd hq ((by decide))) (fun hc3 => ?_)
  refine oLload C d27_7 rfl rfl ?_
  refine oLloadN C d27_9 rfl rfl ?_
  refine oLcmp_gt C d27_10 rfl d27_11 (q := 18) (by decide) (by decide) (r := 14) rfl (fun hq => absurd hq ((by decide))) (fun hc10 => ?_)
  refine oIconst C d27_14 (z := 1) rfl rfl ?_
  refine oGoto C d27_15 (q := 19) (by decide) (by decide) ?_
  refine oRetZ C d27_19 (z' := (1 : Int32)) rfl (by decide) (by decide) ?_
  exact ⟨rfl, rfl⟩
theorem pd_567745 : parseMethodDescriptor "(JJJJ)Z" = some ⟨[.long, .long, .long, .long], some .boolean⟩ := by decide +kernel
def ft26_0 (y1 : Int64) : Int32 := (if (y1 &&& (4 : Int64)) = (0 : Int64) then (0 : Int32) else (1 : Int32))
theorem ft26_0_def (y1 : Int64) : ft26_0 y1 = (if (y1 &&& (4 : Int64)) = (0 : Int64) then (0 : Int32) else (1 : Int32)) := rfl
theorem d26_0 : decode prog_11_method_6_code 0 = .ok (.lload_n 0, 1) := by decide +kernel
theorem d26_1 : decode prog_11_method_6_code 1 = .ok (.lload 6, 2) := by decide +kernel
theorem d26_3 : decode prog_11_method_6_code 3 = .ok (.land, 1) := by decide +kernel
theorem d26_4 : decode prog_11_method_6_code 4 = .ok (.lconst 0, 1) := by decide +kernel
theorem d26_5 : decode prog_11_method_6_code 5 = .ok (.lcmp, 1) := by decide +kernel
theorem d26_6 : decode prog_11_method_6_code 6 = .ok (.ifCond .eq 20, 3) := by decide +kernel
theorem d26_9 : decode prog_11_method_6_code 9 = .ok (.lload_n 2, 1) := by decide +kernel
theorem d26_10 : decode prog_11_method_6_code 10 = .ok (.lload 4, 2) := by decide +kernel
theorem d26_12 : decode prog_11_method_6_code 12 = .ok (.lload 8, 2) := by decide +kernel
theorem d26_14 : decode prog_11_method_6_code 14 = .ok (.lload 10, 2) := by decide +kernel
theorem d26_16 : decode prog_11_method_6_code 16 = .ok (.invokestatic 37, 3) := by decide +kernel
theorem d26_19 : decode prog_11_method_6_code 19 = .ok (.ifCond .eq 7, 3) := by decide +kernel
theorem d26_22 : decode prog_11_method_6_code 22 = .ok (.iconst 1, 1) := by decide +kernel
theorem d26_23 : decode prog_11_method_6_code 23 = .ok (.goto 4, 3) := by decide +kernel
theorem d26_26 : decode prog_11_method_6_code 26 = .ok (.iconst 0, 1) := by decide +kernel
theorem d26_27 : decode prog_11_method_6_code 27 = .ok (.ireturn, 1) := by decide +kernel
set_option maxRecDepth 65536 in
set_option maxHeartbeats 40000000 in
theorem ac26_39 (l : Launch) (Z : State) (a0 : Array Value) (hw : oHw a0 Z) (h0 : Heap) (n0 : Nat) (Z0 : n0 ≤ h0.size) (y1 : Int64)  :
    oMet l Z (⟨sF, "conflict", "(JJJJJJ)Z"⟩ : MethodName) prog_11_method_6_code 12 (some .boolean) [] ({ frames := 1, cells := 0, slots := 0, locals := 19 } : Room) 0 0 n0 #[.long y1, .long (-9223372036854775808), .long 9223372036854775807, .long 4, .long (-9223372036854775808), .long 9223372036854775807] h0 (fun v h => v = some (.int (ft26_0 y1)) ∧ h = h0) := by
  refine oMet.intro (plainFor_of_name pn_807394) (fun m => ef_26 m y1 (-9223372036854775808 : Int64) (9223372036854775807 : Int64) (4 : Int64) (-9223372036854775808 : Int64) (9223372036854775807 : Int64)) ?_
  intro op oe os m obl omt ocd C
  refine oLloadN C d26_0 rfl rfl ?_
  refine oLload C d26_1 rfl rfl ?_
  refine oLand C d26_3 rfl ?_
  refine oLconst C d26_4 (z := 0) rfl rfl ?_
  refine oLcmp_eq C d26_5 rfl d26_6 (q := 26) (by decide) (by decide) (r := 9) rfl (fun hc5 => ?_) (fun hc5 => ?_)
  ·
   refine oIconst C d26_26 (z := 0) rfl rfl ?_
   refine oRetZ C d26_27 (z' := (0 : Int32)) rfl (by decide) (by decide) ?_
   exact ⟨by rw [ft26_0_def, if_pos hc5], rfl⟩
  ·
   refine oLloadN C d26_9 rfl rfl ?_
   refine oLload C d26_10 rfl rfl ?_
   refine oLload C d26_12 rfl rfl ?_
   refine oLload C d26_14 rfl rfl ?_
   refine oCallS C (w194 hw) (w195 hw) (w34 hw) (w196 hw) d26_16 (by decide) pd_567745 rfl rfl (argsL := [.long (-9223372036854775808), .long 9223372036854775807, .long (-9223372036854775808), .long 9223372036854775807]) (rest := []) rfl (W := 0) rfl (q := 19) rfl (by decide) (by decide) (by decide) (by decide) (ac27_38 l Z a0 hw _ n0 Z0  ) (oPureK ?_)
   refine oIf_eq C d26_19 (q := 26) (by decide) (by decide) (r := 22) rfl (fun hq => absurd hq ((by decide))) (fun hc19 => ?_)
   refine oIconst C d26_22 (z := 1) rfl rfl ?_
   refine oGoto C d26_23 (q := 27) (by decide) (by decide) ?_
   refine oRetZ C d26_27 (z' := (1 : Int32)) rfl (by decide) (by decide) ?_
   exact ⟨by rw [ft26_0_def, if_neg hc5], rfl⟩
theorem pd_960385 : parseMethodDescriptor "(JJJJJJ)Z" = some ⟨[.long, .long, .long, .long, .long, .long], some .boolean⟩ := by decide +kernel
theorem d22_0 : decode prog_11_method_3_code 0 = .ok (.aload_n 0, 1) := by decide +kernel
theorem d22_1 : decode prog_11_method_3_code 1 = .ok (.getfield 7, 3) := by decide +kernel
theorem d22_4 : decode prog_11_method_3_code 4 = .ok (.aload_n 1, 1) := by decide +kernel
theorem d22_5 : decode prog_11_method_3_code 5 = .ok (.getfield 7, 3) := by decide +kernel
theorem d22_8 : decode prog_11_method_3_code 8 = .ok (.invokevirtual 20, 3) := by decide +kernel
theorem d22_11 : decode prog_11_method_3_code 11 = .ok (.aload_n 0, 1) := by decide +kernel
theorem d22_12 : decode prog_11_method_3_code 12 = .ok (.getfield 7, 3) := by decide +kernel
theorem d22_15 : decode prog_11_method_3_code 15 = .ok (.invokevirtual 26, 3) := by decide +kernel
theorem d22_18 : decode prog_11_method_3_code 18 = .ok (.aload_n 0, 1) := by decide +kernel
theorem d22_19 : decode prog_11_method_3_code 19 = .ok (.getfield 13, 3) := by decide +kernel
theorem d22_22 : decode prog_11_method_3_code 22 = .ok (.aload_n 0, 1) := by decide +kernel
theorem d22_23 : decode prog_11_method_3_code 23 = .ok (.getfield 17, 3) := by decide +kernel
theorem d22_26 : decode prog_11_method_3_code 26 = .ok (.aload_n 1, 1) := by decide +kernel
theorem d22_27 : decode prog_11_method_3_code 27 = .ok (.getfield 7, 3) := by decide +kernel
theorem d22_30 : decode prog_11_method_3_code 30 = .ok (.invokevirtual 30, 3) := by decide +kernel
theorem d22_33 : decode prog_11_method_3_code 33 = .ok (.aload_n 1, 1) := by decide +kernel
theorem d22_34 : decode prog_11_method_3_code 34 = .ok (.getfield 13, 3) := by decide +kernel
theorem d22_37 : decode prog_11_method_3_code 37 = .ok (.aload_n 1, 1) := by decide +kernel
theorem d22_38 : decode prog_11_method_3_code 38 = .ok (.getfield 17, 3) := by decide +kernel
theorem d22_41 : decode prog_11_method_3_code 41 = .ok (.invokestatic 33, 3) := by decide +kernel
theorem d22_44 : decode prog_11_method_3_code 44 = .ok (.ireturn, 1) := by decide +kernel
set_option maxRecDepth 65536 in
set_option maxHeartbeats 40000000 in
theorem ac22_40 (l : Launch) (Z : State) (a0 : Array Value) (hw : oHw a0 Z) (h0 : Heap) (n0 : Nat) (Z0 : n0 ≤ h0.size) (b1 : Addr) (b2 : Addr) (b3 : Addr) (b4 : Addr) (y5 : Int64) (p1 : Fld Z h0 b1 sF "requestClass" sK (.ref b3)) (p2 : Fld Z h0 b2 sF "requestClass" sK (.ref b4)) (p3 : Fld Z h0 b4 sR "declaration" sJ (.null)) (p4 : Fld Z h0 b3 sR "declaration" sJ (.null)) (p5 : Exa Z h0 b3 sR) (p6 : Fld Z h0 b3 sR "conflicts" "J" (.long y5)) (p7 : Fld Z h0 b1 sF "firstKey" "J" (.long (-9223372036854775808))) (p8 : Fld Z h0 b1 sF "lastKey" "J" (.long 9223372036854775807)) (p9 : Fld Z h0 b4 sR "bit" "J" (.long 4)) (p10 : Exa Z h0 b4 sR) (p11 : Fld Z h0 b2 sF "firstKey" "J" (.long (-9223372036854775808))) (p12 : Fld Z h0 b2 sF "lastKey" "J" (.long 9223372036854775807)) :
    oMet l Z (⟨sF, "conflictsWith", "(Lcom/example/orderloom/orderloom/Footprint;)Z"⟩ : MethodName) prog_11_method_3_code 2 (some .boolean) [] ({ frames := 2, cells := 0, slots := 0, locals := 42 } : Room) 0 0 n0 #[.ref b1, .ref b2] h0 (fun v h => v = some (.int (ft26_0 y5)) ∧ h = h0) := by
  refine oMet.intro (plainFor_of_name pn_807394) (fun m => ef_22 m b1 b2) ?_
  intro op oe os m obl omt ocd C
  refine oAloadN C d22_0 rfl rfl rfl ?_
  refine oGetF C (w41 hw) Via.refl p1 d22_1 rfl ?_
  refine oAloadN C d22_4 rfl rfl rfl ?_
  refine oGetF C (w41 hw) Via.refl p2 d22_5 rfl ?_
  refine oCallV C (w176 hw) (w177 hw) (w179 hw) (w178 hw) (w9 hw) (w180 hw) d22_8 p5 (by decide) pd_471014 rfl rfl (a := b3) (argsL := [.ref b4]) (rest := []) rfl (W := 0) rfl (q := 11) rfl (by decide) (by decide) (by decide) (by decide) (ac23_35 l Z a0 hw _ n0 Z0 b3 b4 p3 p4) (oVoidK ?_)
  refine oAloadN C d22_11 rfl rfl rfl ?_
  refine oGetF C (w41 hw) Via.refl p1 d22_12 rfl ?_
  refine oCallV C (w181 hw) (w182 hw) (w184 hw) (w183 hw) (w9 hw) (w185 hw) d22_15 p5 (by decide) pd_428474 rfl rfl (a := b3) (argsL := []) (rest := []) rfl (W := 0) rfl (q := 18) rfl (by decide) (by decide) (by decide) (by decide) (ac24_36 l Z a0 hw _ n0 Z0 b3 y5 p6) (oPureK ?_)
  refine oAloadN C d22_18 rfl rfl rfl ?_
  refine oGetF C (w43 hw) Via.refl p7 d22_19 rfl ?_
  refine oAloadN C d22_22 rfl rfl rfl ?_
  refine oGetF C (w45 hw) Via.refl p8 d22_23 rfl ?_
  refine oAloadN C d22_26 rfl rfl rfl ?_
  refine oGetF C (w41 hw) Via.refl p2 d22_27 rfl ?_
  refine oCallV C (w186 hw) (w187 hw) (w189 hw) (w188 hw) (w9 hw) (w190 hw) d22_30 p10 (by decide) pd_428474 rfl rfl (a := b4) (argsL := []) (rest := [.long 9223372036854775807, .long (-9223372036854775808), .long y5]) rfl (W := 6) rfl (q := 33) rfl (by decide) (by decide) (by decide) (by decide) (ac25_37 l Z a0 hw _ n0 Z0 b4 p9) (oPureK ?_)
  refine oAloadN C d22_33 rfl rfl rfl ?_
  refine oGetF C (w43 hw) Via.refl p11 d22_34 rfl ?_
  refine oAloadN C d22_37 rfl rfl rfl ?_
  refine oGetF C (w45 hw) Via.refl p12 d22_38 rfl ?_
  refine oCallS C (w191 hw) (w192 hw) (w34 hw) (w193 hw) d22_41 (by decide) pd_960385 rfl rfl (argsL := [.long y5, .long (-9223372036854775808), .long 9223372036854775807, .long 4, .long (-9223372036854775808), .long 9223372036854775807]) (rest := []) rfl (W := 0) rfl (q := 44) rfl (by decide) (by decide) (by decide) (by decide) (ac26_39 l Z a0 hw _ n0 Z0 y5 ) (oPureK ?_)
  refine oRetZ C d22_44 (z' := (ft26_0 y5)) (by rw [ft26_0_def]; split <;> rfl) (by decide) (by decide) ?_
  exact ⟨rfl, rfl⟩
theorem pd_138820 : parseMethodDescriptor "(Lcom/example/orderloom/orderloom/Footprint;)Z" = some ⟨[(.object sF)], some .boolean⟩ := by decide +kernel
theorem ef_28 (m : MethodId) (x0 : Addr) (x1 : Int32) (x2 : Int32) : entryFrame m #[.ref x0, .int x1, .int x2] 11 = mkF m 0 #[.val (.ref x0), .val (.int x1), .val (.int x2), .unset, .unset, .unset, .unset, .unset, .unset, .unset, .unset] [] := by first | (simp [entryFrame, mkF, argsToLocals, Value.category]; done) | rfl
theorem d28_0 : decode prog_13_method_3_code 0 = .ok (.iload_n 1, 1) := by decide +kernel
theorem d28_1 : decode prog_13_method_3_code 1 = .ok (.iload_n 2, 1) := by decide +kernel
theorem d28_2 : decode prog_13_method_3_code 2 = .ok (.isub, 1) := by decide +kernel
theorem d28_3 : decode prog_13_method_3_code 3 = .ok (.istore_n 3, 1) := by decide +kernel
theorem d28_4 : decode prog_13_method_3_code 4 = .ok (.iload_n 1, 1) := by decide +kernel
theorem d28_5 : decode prog_13_method_3_code 5 = .ok (.iconst 1, 1) := by decide +kernel
theorem d28_6 : decode prog_13_method_3_code 6 = .ok (.isub, 1) := by decide +kernel
theorem d28_7 : decode prog_13_method_3_code 7 = .ok (.aload_n 0, 1) := by decide +kernel
theorem d28_8 : decode prog_13_method_3_code 8 = .ok (.getfield 15, 3) := by decide +kernel
theorem d28_11 : decode prog_13_method_3_code 11 = .ok (.imul, 1) := by decide +kernel
theorem d28_12 : decode prog_13_method_3_code 12 = .ok (.istore 4, 2) := by decide +kernel
theorem d28_14 : decode prog_13_method_3_code 14 = .ok (.iload_n 2, 1) := by decide +kernel
theorem d28_15 : decode prog_13_method_3_code 15 = .ok (.iconst 1, 1) := by decide +kernel
theorem d28_16 : decode prog_13_method_3_code 16 = .ok (.isub, 1) := by decide +kernel
theorem d28_17 : decode prog_13_method_3_code 17 = .ok (.aload_n 0, 1) := by decide +kernel
theorem d28_18 : decode prog_13_method_3_code 18 = .ok (.getfield 15, 3) := by decide +kernel
theorem d28_21 : decode prog_13_method_3_code 21 = .ok (.imul, 1) := by decide +kernel
theorem d28_22 : decode prog_13_method_3_code 22 = .ok (.istore 5, 2) := by decide +kernel
theorem d28_24 : decode prog_13_method_3_code 24 = .ok (.iload_n 3, 1) := by decide +kernel
theorem d28_25 : decode prog_13_method_3_code 25 = .ok (.bipush 6, 2) := by decide +kernel
theorem d28_27 : decode prog_13_method_3_code 27 = .ok (.iushr, 1) := by decide +kernel
theorem d28_28 : decode prog_13_method_3_code 28 = .ok (.istore 6, 2) := by decide +kernel
theorem d28_30 : decode prog_13_method_3_code 30 = .ok (.iload_n 3, 1) := by decide +kernel
theorem d28_31 : decode prog_13_method_3_code 31 = .ok (.bipush 63, 2) := by decide +kernel
theorem d28_33 : decode prog_13_method_3_code 33 = .ok (.iand, 1) := by decide +kernel
theorem d28_34 : decode prog_13_method_3_code 34 = .ok (.istore 7, 2) := by decide +kernel
theorem d28_36 : decode prog_13_method_3_code 36 = .ok (.aload_n 0, 1) := by decide +kernel
theorem d28_37 : decode prog_13_method_3_code 37 = .ok (.getfield 15, 3) := by decide +kernel
theorem d28_40 : decode prog_13_method_3_code 40 = .ok (.iconst 1, 1) := by decide +kernel
theorem d28_41 : decode prog_13_method_3_code 41 = .ok (.isub, 1) := by decide +kernel
theorem d28_42 : decode prog_13_method_3_code 42 = .ok (.istore 8, 2) := by decide +kernel
theorem d28_44 : decode prog_13_method_3_code 44 = .ok (.iload 8, 2) := by decide +kernel
theorem d28_46 : decode prog_13_method_3_code 46 = .ok (.iload 6, 2) := by decide +kernel
theorem d28_48 : decode prog_13_method_3_code 48 = .ok (.if_icmp .lt 80, 3) := by decide +kernel
theorem d28_51 : decode prog_13_method_3_code 51 = .ok (.aload_n 0, 1) := by decide +kernel
theorem d28_52 : decode prog_13_method_3_code 52 = .ok (.getfield 37, 3) := by decide +kernel
theorem d28_55 : decode prog_13_method_3_code 55 = .ok (.iload 5, 2) := by decide +kernel
theorem d28_57 : decode prog_13_method_3_code 57 = .ok (.iload 8, 2) := by decide +kernel
theorem d28_59 : decode prog_13_method_3_code 59 = .ok (.iadd, 1) := by decide +kernel
theorem d28_60 : decode prog_13_method_3_code 60 = .ok (.iload 6, 2) := by decide +kernel
theorem d28_62 : decode prog_13_method_3_code 62 = .ok (.isub, 1) := by decide +kernel
theorem d28_63 : decode prog_13_method_3_code 63 = .ok (.laload, 1) := by decide +kernel
theorem d28_64 : decode prog_13_method_3_code 64 = .ok (.iload 7, 2) := by decide +kernel
theorem d28_66 : decode prog_13_method_3_code 66 = .ok (.lshl, 1) := by decide +kernel
theorem d28_67 : decode prog_13_method_3_code 67 = .ok (.lstore 9, 2) := by decide +kernel
theorem d28_69 : decode prog_13_method_3_code 69 = .ok (.iload 7, 2) := by decide +kernel
theorem d28_71 : decode prog_13_method_3_code 71 = .ok (.ifCond .eq 36, 3) := by decide +kernel
theorem d28_74 : decode prog_13_method_3_code 74 = .ok (.iload 8, 2) := by decide +kernel
theorem d28_76 : decode prog_13_method_3_code 76 = .ok (.iload 6, 2) := by decide +kernel
theorem d28_78 : decode prog_13_method_3_code 78 = .ok (.if_icmp .le 29, 3) := by decide +kernel
theorem d28_81 : decode prog_13_method_3_code 81 = .ok (.lload 9, 2) := by decide +kernel
theorem d28_83 : decode prog_13_method_3_code 83 = .ok (.aload_n 0, 1) := by decide +kernel
theorem d28_84 : decode prog_13_method_3_code 84 = .ok (.getfield 37, 3) := by decide +kernel
theorem d28_87 : decode prog_13_method_3_code 87 = .ok (.iload 5, 2) := by decide +kernel
theorem d28_89 : decode prog_13_method_3_code 89 = .ok (.iload 8, 2) := by decide +kernel
theorem d28_91 : decode prog_13_method_3_code 91 = .ok (.iadd, 1) := by decide +kernel
theorem d28_92 : decode prog_13_method_3_code 92 = .ok (.iload 6, 2) := by decide +kernel
theorem d28_94 : decode prog_13_method_3_code 94 = .ok (.isub, 1) := by decide +kernel
theorem d28_95 : decode prog_13_method_3_code 95 = .ok (.iconst 1, 1) := by decide +kernel
theorem d28_96 : decode prog_13_method_3_code 96 = .ok (.isub, 1) := by decide +kernel
theorem d28_97 : decode prog_13_method_3_code 97 = .ok (.laload, 1) := by decide +kernel
theorem d28_98 : decode prog_13_method_3_code 98 = .ok (.bipush 64, 2) := by decide +kernel
theorem d28_100 : decode prog_13_method_3_code 100 = .ok (.iload 7, 2) := by decide +kernel
theorem d28_102 : decode prog_13_method_3_code 102 = .ok (.isub, 1) := by decide +kernel
theorem d28_103 : decode prog_13_method_3_code 103 = .ok (.lushr, 1) := by decide +kernel
theorem d28_104 : decode prog_13_method_3_code 104 = .ok (.lor, 1) := by decide +kernel
theorem d28_105 : decode prog_13_method_3_code 105 = .ok (.lstore 9, 2) := by decide +kernel
theorem d28_107 : decode prog_13_method_3_code 107 = .ok (.aload_n 0, 1) := by decide +kernel
theorem d28_108 : decode prog_13_method_3_code 108 = .ok (.getfield 37, 3) := by decide +kernel
theorem d28_111 : decode prog_13_method_3_code 111 = .ok (.iload 4, 2) := by decide +kernel
theorem d28_113 : decode prog_13_method_3_code 113 = .ok (.iload 8, 2) := by decide +kernel
theorem d28_115 : decode prog_13_method_3_code 115 = .ok (.iadd, 1) := by decide +kernel
theorem d28_116 : decode prog_13_method_3_code 116 = .ok (.dup2, 1) := by decide +kernel
theorem d28_117 : decode prog_13_method_3_code 117 = .ok (.laload, 1) := by decide +kernel
theorem d28_118 : decode prog_13_method_3_code 118 = .ok (.lload 9, 2) := by decide +kernel
theorem d28_120 : decode prog_13_method_3_code 120 = .ok (.lor, 1) := by decide +kernel
theorem d28_121 : decode prog_13_method_3_code 121 = .ok (.lastore, 1) := by decide +kernel
theorem d28_122 : decode prog_13_method_3_code 122 = .ok (.iinc 8 (-1), 3) := by decide +kernel
theorem d28_125 : decode prog_13_method_3_code 125 = .ok (.goto (-81), 3) := by decide +kernel
theorem d28_128 : decode prog_13_method_3_code 128 = .ok (.iload_n 3, 1) := by decide +kernel
theorem d28_129 : decode prog_13_method_3_code 129 = .ok (.iconst 1, 1) := by decide +kernel
theorem d28_130 : decode prog_13_method_3_code 130 = .ok (.isub, 1) := by decide +kernel
theorem d28_131 : decode prog_13_method_3_code 131 = .ok (.istore 8, 2) := by decide +kernel
theorem d28_133 : decode prog_13_method_3_code 133 = .ok (.aload_n 0, 1) := by decide +kernel
theorem d28_134 : decode prog_13_method_3_code 134 = .ok (.getfield 37, 3) := by decide +kernel
theorem d28_137 : decode prog_13_method_3_code 137 = .ok (.iload 4, 2) := by decide +kernel
theorem d28_139 : decode prog_13_method_3_code 139 = .ok (.iload 8, 2) := by decide +kernel
theorem d28_141 : decode prog_13_method_3_code 141 = .ok (.bipush 6, 2) := by decide +kernel
theorem d28_143 : decode prog_13_method_3_code 143 = .ok (.iushr, 1) := by decide +kernel
theorem d28_144 : decode prog_13_method_3_code 144 = .ok (.iadd, 1) := by decide +kernel
theorem d28_145 : decode prog_13_method_3_code 145 = .ok (.dup2, 1) := by decide +kernel
theorem d28_146 : decode prog_13_method_3_code 146 = .ok (.laload, 1) := by decide +kernel
theorem d28_147 : decode prog_13_method_3_code 147 = .ok (.lconst 1, 1) := by decide +kernel
theorem d28_148 : decode prog_13_method_3_code 148 = .ok (.iload 8, 2) := by decide +kernel
theorem d28_150 : decode prog_13_method_3_code 150 = .ok (.lshl, 1) := by decide +kernel
theorem d28_151 : decode prog_13_method_3_code 151 = .ok (.lor, 1) := by decide +kernel
theorem d28_152 : decode prog_13_method_3_code 152 = .ok (.lastore, 1) := by decide +kernel
theorem d28_153 : decode prog_13_method_3_code 153 = .ok (.return_, 1) := by decide +kernel
set_option maxRecDepth 65536 in
set_option maxHeartbeats 40000000 in
theorem ac28_41 (l : Launch) (Z : State) (a0 : Array Value) (hw : oHw a0 Z) (h0 : Heap) (n0 : Nat) (Z0 : n0 ≤ h0.size) (b1 : Addr) (x2 : Int32) (b3 : Addr) (x4 : Nat) (y5 : Int64) (y6 : Int64) (p1 : Fld Z h0 b1 sP "words" "I" (.int x2)) (p2 : Fld Z h0 b1 sP "bits" "[J" (.ref b3)) (p3 : oAr Z h0 b3 .long (oRl x4 (0 : Int64) y5 y6 (0 : Int64))) (p4 : oKw x4 x2) (p5 : b1 ≠ b3) (p6 : n0 ≤ b3) (p7 : ((y6.toUInt64 >>> ((63 : Int32) &&& 0x3f).toInt64.toUInt64).toInt64) = (0 : Int64)) :
    oMet l Z (⟨sP, "followAlong", "(II)V"⟩ : MethodName) prog_13_method_3_code 11 none [] ({ frames := 0, cells := 0, slots := 0, locals := 0 } : Room) 0 0 n0 #[.ref b1, .int 4, .int 3] h0 (fun v h => v = none ∧ oKe h0 h [b3] [] ∧ oAr Z h b3 .long (oRl x4 (0 : Int64) y5 y6 (((0 : Int64) ||| (y6 <<< ((1 : Int32) &&& 0x3f).toInt64)) ||| (1 : Int64)))) := by
  refine oMet.intro (plainFor_of_name pn_399007) (fun m => ef_28 m b1 (4 : Int32) (3 : Int32)) ?_
  intro op oe os m obl omt ocd C
  refine oIloadN C d28_0 rfl rfl ?_
  refine oIloadN C d28_1 rfl rfl ?_
  refine oIsub C d28_2 rfl ?_
  refine oCastI (z' := (1 : Int32)) (by decide) ?_
  refine oIstoreN C d28_3 (Ls' := #[.val (.ref b1), .val (.int 4), .val (.int 3), .val (.int 1), .unset, .unset, .unset, .unset, .unset, .unset, .unset]) rfl (q := 4) rfl ?_
  refine oIloadN C d28_4 rfl rfl ?_
  refine oIconst C d28_5 (z := 1) rfl rfl ?_
  refine oIsub C d28_6 rfl ?_
  refine oCastI (z' := (3 : Int32)) (by decide) ?_
  refine oAloadN C d28_7 rfl rfl rfl ?_
  refine oGetF C (w125 hw) Via.refl p1 d28_8 rfl ?_
  refine oImul C d28_11 rfl ?_
  refine oIstore C d28_12 (Ls' := #[.val (.ref b1), .val (.int 4), .val (.int 3), .val (.int 1), .val (.int ((3 : Int32) * x2)), .unset, .unset, .unset, .unset, .unset, .unset]) rfl (q := 14) rfl ?_
  refine oIloadN C d28_14 rfl rfl ?_
  refine oIconst C d28_15 (z := 1) rfl rfl ?_
  refine oIsub C d28_16 rfl ?_
  refine oCastI (z' := (2 : Int32)) (by decide) ?_
  refine oAloadN C d28_17 rfl rfl rfl ?_
  refine oGetF C (w125 hw) Via.refl p1 d28_18 rfl ?_
  refine oImul C d28_21 rfl ?_
  refine oIstore C d28_22 (Ls' := #[.val (.ref b1), .val (.int 4), .val (.int 3), .val (.int 1), .val (.int ((3 : Int32) * x2)), .val (.int ((2 : Int32) * x2)), .unset, .unset, .unset, .unset, .unset]) rfl (q := 24) rfl ?_
  refine oIloadN C d28_24 rfl rfl ?_
  refine oBipush C d28_25 (z := 6) rfl rfl ?_
  refine oIushr C d28_27 rfl ?_
  refine oCastI (z' := (0 : Int32)) (by decide) ?_
  refine oIstore C d28_28 (Ls' := #[.val (.ref b1), .val (.int 4), .val (.int 3), .val (.int 1), .val (.int ((3 : Int32) * x2)), .val (.int ((2 : Int32) * x2)), .val (.int 0), .unset, .unset, .unset, .unset]) rfl (q := 30) rfl ?_
  refine oIloadN C d28_30 rfl rfl ?_
  refine oBipush C d28_31 (z := 63) rfl rfl ?_
  refine oIand C d28_33 rfl ?_
  refine oCastI (z' := (1 : Int32)) (by decide) ?_
  refine oIstore C d28_34 (Ls' := #[.val (.ref b1), .val (.int 4), .val (.int 3), .val (.int 1), .val (.int ((3 : Int32) * x2)), .val (.int ((2 : Int32) * x2)), .val (.int 0), .val (.int 1), .unset, .unset, .unset]) rfl (q := 36) rfl ?_
  refine oAloadN C d28_36 rfl rfl rfl ?_
  refine oGetF C (w125 hw) Via.refl p1 d28_37 rfl ?_
  refine oIconst C d28_40 (z := 1) rfl rfl ?_
  refine oIsub C d28_41 rfl ?_
  refine oIstore C d28_42 (Ls' := #[.val (.ref b1), .val (.int 4), .val (.int 3), .val (.int 1), .val (.int ((3 : Int32) * x2)), .val (.int ((2 : Int32) * x2)), .val (.int 0), .val (.int 1), .val (.int (x2 - (1 : Int32))), .unset, .unset]) rfl (q := 44) rfl ?_
  refine oLoop (α := Heap × Int32 × Bool) (fun t w => oKe h0 w.1 [b3] [] ∧ oAr Z w.1 b3 .long (oRl x4 (0 : Int64) y5 y6 (0 : Int64)) ∧ oNx x4 t w.2.1) (fun w => w.1) (fun w => (mkF m 44 #[.val (.ref b1), .val (.int 4), .val (.int 3), .val (.int 1), .val (.int ((3 : Int32) * x2)), .val (.int ((2 : Int32) * x2)), .val (.int 0), .val (.int 1), .val (.int w.2.1), (bif w.2.2 then .val (.long 0) else .unset), (bif w.2.2 then .second else .unset)] [])) (k := 0) (n := 0) ?_ (x4 - 1) (h0, (x2 - (1 : Int32)), false) ⟨oKe.refl _ _ _, p3, own_nx0 p4⟩
  rintro t ih ⟨hl, x, sl⟩ ⟨Kl0, Al0, nx⟩
  have Kl : oKe h0 hl [b3] [] := Kl0
  have Al : oAr Z hl b3 .long (oRl x4 (0 : Int64) y5 y6 (0 : Int64)) := Al0
  rcases t with _ | t <;> cases sl
  ·
   obtain rfl : x = 0 := nx.2
   show oW _ _ _ _ _ _ _ _ _ _ _ _ _ _ _ (mkF m 44 #[.val (.ref b1), .val (.int 4), .val (.int 3), .val (.int 1), .val (.int ((3 : Int32) * x2)), .val (.int ((2 : Int32) * x2)), .val (.int 0), .val (.int 1), .val (.int 0), .unset, .unset] [])
   refine oIload C d28_44 rfl rfl ?_
   refine oIload C d28_46 rfl rfl ?_
   refine oIcmp_lt C d28_48 (q := 128) (by decide) (by decide) (r := 51) rfl (fun hq => absurd hq ((by decide))) (fun hc48 => ?_)
   refine oAloadN C d28_51 rfl rfl rfl ?_
   have f2 := (Kl.fld p2 (ninS p5 nin0) oN0)
   refine oGetF C (w137 hw) Via.refl f2 d28_52 rfl ?_
   refine oIload C d28_55 rfl rfl ?_
   refine oIload C d28_57 rfl rfl ?_
   refine oIadd C d28_59 rfl ?_
   refine oIload C d28_60 rfl rfl ?_
   refine oIsub C d28_62 rfl ?_
   refine oCastI (z' := (((2 : Int32) * x2) + (0 : Int32))) (own_s0 (((2 : Int32) * x2) + (0 : Int32))) ?_
   refine oLaload C Al (own_n2 p4) (k := (2 * x4)) (own_k2 p4) (v := .long y6) (own_v2 p4) d28_63 rfl ?_
   refine oIload C d28_64 rfl rfl ?_
   refine oLshl C d28_66 rfl ?_
   refine oLstore C d28_67 (Ls' := #[.val (.ref b1), .val (.int 4), .val (.int 3), .val (.int 1), .val (.int ((3 : Int32) * x2)), .val (.int ((2 : Int32) * x2)), .val (.int 0), .val (.int 1), .val (.int 0), .val (.long (y6 <<< ((1 : Int32) &&& 0x3f).toInt64)), .second]) rfl (q := 69) rfl ?_
   refine oIload C d28_69 rfl rfl ?_
   refine oIf_eq C d28_71 (q := 107) (by decide) (by decide) (r := 74) rfl (fun hq => absurd hq ((by decide))) (fun hc71 => ?_)
   refine oIload C d28_74 rfl rfl ?_
   refine oIload C d28_76 rfl rfl ?_
   refine oIcmp_le C d28_78 (q := 107) (by decide) (by decide) (r := 81) rfl (fun hc78 => ?_) (fun hq => absurd hq ((by decide)))
   refine oAloadN C d28_107 rfl rfl rfl ?_
   refine oGetF C (w137 hw) Via.refl f2 d28_108 rfl ?_
   refine oIload C d28_111 rfl rfl ?_
   refine oIload C d28_113 rfl rfl ?_
   refine oIadd C d28_115 rfl ?_
   refine oDup2 C d28_116 rfl rfl rfl ?_
   refine oLaload C Al (own_n3 p4) (k := (3 * x4)) (own_k3 p4) (v := .long 0) (own_v3 p4) d28_117 rfl ?_
   refine oLload C d28_118 rfl rfl ?_
   refine oLor C d28_120 rfl ?_
   refine oLastore C Al (own_n3 p4) (k := (3 * x4)) (own_k3 p4) (v := .long 0) (own_v3 p4) (v' := .long ((0 : Int64) ||| (y6 <<< ((1 : Int32) &&& 0x3f).toInt64))) rfl d28_121 rfl p6 fun h3 W3 A3 => ?_
   have A3l : oAr Z h3 b3 .long (oRl x4 (0 : Int64) y5 y6 ((0 : Int64) ||| (y6 <<< ((1 : Int32) &&& 0x3f).toInt64))) := by rw [← own_t3 p4]; exact A3
   refine oIinc C d28_122 rfl (z := (-1)) rfl (w := (-1 : Int32)) (by decide) (Ls' := #[.val (.ref b1), .val (.int 4), .val (.int 3), .val (.int 1), .val (.int ((3 : Int32) * x2)), .val (.int ((2 : Int32) * x2)), .val (.int 0), .val (.int 1), .val (.int (-1)), .val (.long (y6 <<< ((1 : Int32) &&& 0x3f).toInt64)), .second]) rfl rfl ?_
   refine oGoto C d28_125 (q := 44) (by decide) (by decide) ?_
   refine oIload C d28_44 rfl rfl ?_
   refine oIload C d28_46 rfl rfl ?_
   refine oIcmp_lt C d28_48 (q := 128) (by decide) (by decide) (r := 51) rfl (fun hc48_1 => ?_) (fun hq => absurd hq ((by decide)))
   refine oIloadN C d28_128 rfl rfl ?_
   refine oIconst C d28_129 (z := 1) rfl rfl ?_
   refine oIsub C d28_130 rfl ?_
   refine oCastI (z' := (0 : Int32)) (by decide) ?_
   refine oIstore C d28_131 (Ls' := #[.val (.ref b1), .val (.int 4), .val (.int 3), .val (.int 1), .val (.int ((3 : Int32) * x2)), .val (.int ((2 : Int32) * x2)), .val (.int 0), .val (.int 1), .val (.int 0), .val (.long (y6 <<< ((1 : Int32) &&& 0x3f).toInt64)), .second]) rfl (q := 133) rfl ?_
   refine oAloadN C d28_133 rfl rfl rfl ?_
   have f4 := (Fld.other W3 f2 (Or.inl p5))
   refine oGetF C (w137 hw) Via.refl f4 d28_134 rfl ?_
   refine oIload C d28_137 rfl rfl ?_
   refine oIload C d28_139 rfl rfl ?_
   refine oBipush C d28_141 (z := 6) rfl rfl ?_
   refine oIushr C d28_143 rfl ?_
   refine oCastI (z' := (0 : Int32)) (by decide) ?_
   refine oIadd C d28_144 rfl ?_
   refine oDup2 C d28_145 rfl rfl rfl ?_
   refine oLaload C A3l (own_n3 p4) (k := (3 * x4)) (own_k3 p4) (v := .long ((0 : Int64) ||| (y6 <<< ((1 : Int32) &&& 0x3f).toInt64))) (own_v3 p4) d28_146 rfl ?_
   refine oLconst C d28_147 (z := 1) rfl rfl ?_
   refine oIload C d28_148 rfl rfl ?_
   refine oLshl C d28_150 rfl ?_
   refine oCastL (z' := (1 : Int64)) (by decide) ?_
   refine oLor C d28_151 rfl ?_
   refine oLastore C A3l (own_n3 p4) (k := (3 * x4)) (own_k3 p4) (v := .long ((0 : Int64) ||| (y6 <<< ((1 : Int32) &&& 0x3f).toInt64))) (own_v3 p4) (v' := .long (((0 : Int64) ||| (y6 <<< ((1 : Int32) &&& 0x3f).toInt64)) ||| (1 : Int64))) rfl d28_152 rfl p6 fun h5 W5 A5 => ?_
   have A5l : oAr Z h5 b3 .long (oRl x4 (0 : Int64) y5 y6 (((0 : Int64) ||| (y6 <<< ((1 : Int32) &&& 0x3f).toInt64)) ||| (1 : Int64))) := by rw [← own_t3 p4]; exact A5
   refine oRetV C d28_153 (by decide) (by decide) ?_
   exact ⟨rfl, ((((oKe.refl h0 [b3] []).trans Kl (allS (Or.inl (List.mem_of_getElem? (i := 0) rfl)) all0) oA0).wrA W3 (Or.inl (List.mem_of_getElem? (i := 0) rfl))).wrA W5 (Or.inl (List.mem_of_getElem? (i := 0) rfl))), A5l⟩
  ·
   obtain rfl : x = 0 := nx.2
   show oW _ _ _ _ _ _ _ _ _ _ _ _ _ _ _ (mkF m 44 #[.val (.ref b1), .val (.int 4), .val (.int 3), .val (.int 1), .val (.int ((3 : Int32) * x2)), .val (.int ((2 : Int32) * x2)), .val (.int 0), .val (.int 1), .val (.int 0), .val (.long 0), .second] [])
   refine oIload C d28_44 rfl rfl ?_
   refine oIload C d28_46 rfl rfl ?_
   refine oIcmp_lt C d28_48 (q := 128) (by decide) (by decide) (r := 51) rfl (fun hq => absurd hq ((by decide))) (fun hc48 => ?_)
   refine oAloadN C d28_51 rfl rfl rfl ?_
   have f6 := (Kl.fld p2 (ninS p5 nin0) oN0)
   refine oGetF C (w137 hw) Via.refl f6 d28_52 rfl ?_
   refine oIload C d28_55 rfl rfl ?_
   refine oIload C d28_57 rfl rfl ?_
   refine oIadd C d28_59 rfl ?_
   refine oIload C d28_60 rfl rfl ?_
   refine oIsub C d28_62 rfl ?_
   refine oCastI (z' := (((2 : Int32) * x2) + (0 : Int32))) (own_s0 (((2 : Int32) * x2) + (0 : Int32))) ?_
   refine oLaload C Al (own_n2 p4) (k := (2 * x4)) (own_k2 p4) (v := .long y6) (own_v2 p4) d28_63 rfl ?_
   refine oIload C d28_64 rfl rfl ?_
   refine oLshl C d28_66 rfl ?_
   refine oLstore C d28_67 (Ls' := #[.val (.ref b1), .val (.int 4), .val (.int 3), .val (.int 1), .val (.int ((3 : Int32) * x2)), .val (.int ((2 : Int32) * x2)), .val (.int 0), .val (.int 1), .val (.int 0), .val (.long (y6 <<< ((1 : Int32) &&& 0x3f).toInt64)), .second]) rfl (q := 69) rfl ?_
   refine oIload C d28_69 rfl rfl ?_
   refine oIf_eq C d28_71 (q := 107) (by decide) (by decide) (r := 74) rfl (fun hq => absurd hq ((by decide))) (fun hc71 => ?_)
   refine oIload C d28_74 rfl rfl ?_
   refine oIload C d28_76 rfl rfl ?_
   refine oIcmp_le C d28_78 (q := 107) (by decide) (by decide) (r := 81) rfl (fun hc78 => ?_) (fun hq => absurd hq ((by decide)))
   refine oAloadN C d28_107 rfl rfl rfl ?_
   refine oGetF C (w137 hw) Via.refl f6 d28_108 rfl ?_
   refine oIload C d28_111 rfl rfl ?_
   refine oIload C d28_113 rfl rfl ?_
   refine oIadd C d28_115 rfl ?_
   refine oDup2 C d28_116 rfl rfl rfl ?_
   refine oLaload C Al (own_n3 p4) (k := (3 * x4)) (own_k3 p4) (v := .long 0) (own_v3 p4) d28_117 rfl ?_
   refine oLload C d28_118 rfl rfl ?_
   refine oLor C d28_120 rfl ?_
   refine oLastore C Al (own_n3 p4) (k := (3 * x4)) (own_k3 p4) (v := .long 0) (own_v3 p4) (v' := .long ((0 : Int64) ||| (y6 <<< ((1 : Int32) &&& 0x3f).toInt64))) rfl d28_121 rfl p6 fun h7 W7 A7 => ?_
   have A7l : oAr Z h7 b3 .long (oRl x4 (0 : Int64) y5 y6 ((0 : Int64) ||| (y6 <<< ((1 : Int32) &&& 0x3f).toInt64))) := by rw [← own_t3 p4]; exact A7
   refine oIinc C d28_122 rfl (z := (-1)) rfl (w := (-1 : Int32)) (by decide) (Ls' := #[.val (.ref b1), .val (.int 4), .val (.int 3), .val (.int 1), .val (.int ((3 : Int32) * x2)), .val (.int ((2 : Int32) * x2)), .val (.int 0), .val (.int 1), .val (.int (-1)), .val (.long (y6 <<< ((1 : Int32) &&& 0x3f).toInt64)), .second]) rfl rfl ?_
   refine oGoto C d28_125 (q := 44) (by decide) (by decide) ?_
   refine oIload C d28_44 rfl rfl ?_
   refine oIload C d28_46 rfl rfl ?_
   refine oIcmp_lt C d28_48 (q := 128) (by decide) (by decide) (r := 51) rfl (fun hc48_1 => ?_) (fun hq => absurd hq ((by decide)))
   refine oIloadN C d28_128 rfl rfl ?_
   refine oIconst C d28_129 (z := 1) rfl rfl ?_
   refine oIsub C d28_130 rfl ?_
   refine oCastI (z' := (0 : Int32)) (by decide) ?_
   refine oIstore C d28_131 (Ls' := #[.val (.ref b1), .val (.int 4), .val (.int 3), .val (.int 1), .val (.int ((3 : Int32) * x2)), .val (.int ((2 : Int32) * x2)), .val (.int 0), .val (.int 1), .val (.int 0), .val (.long (y6 <<< ((1 : Int32) &&& 0x3f).toInt64)), .second]) rfl (q := 133) rfl ?_
   refine oAloadN C d28_133 rfl rfl rfl ?_
   have f8 := (Fld.other W7 f6 (Or.inl p5))
   refine oGetF C (w137 hw) Via.refl f8 d28_134 rfl ?_
   refine oIload C d28_137 rfl rfl ?_
   refine oIload C d28_139 rfl rfl ?_
   refine oBipush C d28_141 (z := 6) rfl rfl ?_
   refine oIushr C d28_143 rfl ?_
   refine oCastI (z' := (0 : Int32)) (by decide) ?_
   refine oIadd C d28_144 rfl ?_
   refine oDup2 C d28_145 rfl rfl rfl ?_
   refine oLaload C A7l (own_n3 p4) (k := (3 * x4)) (own_k3 p4) (v := .long ((0 : Int64) ||| (y6 <<< ((1 : Int32) &&& 0x3f).toInt64))) (own_v3 p4) d28_146 rfl ?_
   refine oLconst C d28_147 (z := 1) rfl rfl ?_
   refine oIload C d28_148 rfl rfl ?_
   refine oLshl C d28_150 rfl ?_
   refine oCastL (z' := (1 : Int64)) (by decide) ?_
   refine oLor C d28_151 rfl ?_
   refine oLastore C A7l (own_n3 p4) (k := (3 * x4)) (own_k3 p4) (v := .long ((0 : Int64) ||| (y6 <<< ((1 : Int32) &&& 0x3f).toInt64))) (own_v3 p4) (v' := .long (((0 : Int64) ||| (y6 <<< ((1 : Int32) &&& 0x3f).toInt64)) ||| (1 : Int64))) rfl d28_152 rfl p6 fun h9 W9 A9 => ?_
   have A9l : oAr Z h9 b3 .long (oRl x4 (0 : Int64) y5 y6 (((0 : Int64) ||| (y6 <<< ((1 : Int32) &&& 0x3f).toInt64)) ||| (1 : Int64))) := by rw [← own_t3 p4]; exact A9
   refine oRetV C d28_153 (by decide) (by decide) ?_
   exact ⟨rfl, ((((oKe.refl h0 [b3] []).trans Kl (allS (Or.inl (List.mem_of_getElem? (i := 0) rfl)) all0) oA0).wrA W7 (Or.inl (List.mem_of_getElem? (i := 0) rfl))).wrA W9 (Or.inl (List.mem_of_getElem? (i := 0) rfl))), A9l⟩
  ·
   show oW _ _ _ _ _ _ _ _ _ _ _ _ _ _ _ (mkF m 44 #[.val (.ref b1), .val (.int 4), .val (.int 3), .val (.int 1), .val (.int ((3 : Int32) * x2)), .val (.int ((2 : Int32) * x2)), .val (.int 0), .val (.int 1), .val (.int x), .unset, .unset] [])
   refine oIload C d28_44 rfl rfl ?_
   refine oIload C d28_46 rfl rfl ?_
   refine oIcmp_lt C d28_48 (q := 128) (by decide) (by decide) (r := 51) rfl (fun hq => absurd hq ((own_nl p4 nx))) (fun hc48 => ?_)
   refine oAloadN C d28_51 rfl rfl rfl ?_
   have f10 := (Kl.fld p2 (ninS p5 nin0) oN0)
   refine oGetF C (w137 hw) Via.refl f10 d28_52 rfl ?_
   refine oIload C d28_55 rfl rfl ?_
   refine oIload C d28_57 rfl rfl ?_
   refine oIadd C d28_59 rfl ?_
   refine oIload C d28_60 rfl rfl ?_
   refine oIsub C d28_62 rfl ?_
   refine oCastI (z' := (((2 : Int32) * x2) + x)) (own_s0 (((2 : Int32) * x2) + x)) ?_
   refine oLaload C Al (own_mn2 p4 nx) (k := (2 * x4 + (t + 1))) (own_mk2 p4 nx) (v := .long 0) (own_mv2 p4 nx) d28_63 rfl ?_
   refine oIload C d28_64 rfl rfl ?_
   refine oLshl C d28_66 rfl ?_
   refine oCastL (z' := (0 : Int64)) (by decide) ?_
   refine oLstore C d28_67 (Ls' := #[.val (.ref b1), .val (.int 4), .val (.int 3), .val (.int 1), .val (.int ((3 : Int32) * x2)), .val (.int ((2 : Int32) * x2)), .val (.int 0), .val (.int 1), .val (.int x), .val (.long 0), .second]) rfl (q := 69) rfl ?_
   refine oIload C d28_69 rfl rfl ?_
   refine oIf_eq C d28_71 (q := 107) (by decide) (by decide) (r := 74) rfl (fun hq => absurd hq ((by decide))) (fun hc71 => ?_)
   refine oIload C d28_74 rfl rfl ?_
   refine oIload C d28_76 rfl rfl ?_
   refine oIcmp_le C d28_78 (q := 107) (by decide) (by decide) (r := 81) rfl (fun hq => absurd hq ((not_not_intro (own_pl p4 nx)))) (fun hc78 => ?_)
   refine oLload C d28_81 rfl rfl ?_
   refine oAloadN C d28_83 rfl rfl rfl ?_
   refine oGetF C (w137 hw) Via.refl f10 d28_84 rfl ?_
   refine oIload C d28_87 rfl rfl ?_
   refine oIload C d28_89 rfl rfl ?_
   refine oIadd C d28_91 rfl ?_
   refine oIload C d28_92 rfl rfl ?_
   refine oIsub C d28_94 rfl ?_
   refine oCastI (z' := (((2 : Int32) * x2) + x)) (own_s0 (((2 : Int32) * x2) + x)) ?_
   refine oIconst C d28_95 (z := 1) rfl rfl ?_
   refine oIsub C d28_96 rfl ?_
   refine oLaload C Al (own_pn2 p4 nx) (k := (2 * x4 + t)) (own_pk2 p4 nx) (v := .long (oEl t y6)) (own_pv2 p4 nx) d28_97 rfl ?_
   refine oBipush C d28_98 (z := 64) rfl rfl ?_
   refine oIload C d28_100 rfl rfl ?_
   refine oIsub C d28_102 rfl ?_
   refine oCastI (z' := (63 : Int32)) (by decide) ?_
   refine oLushr C d28_103 rfl ?_
   refine oCastL (z' := (0 : Int64)) (own_es p7 (by decide)) ?_
   refine oLor C d28_104 rfl ?_
   refine oCastL (z' := (0 : Int64)) (by decide) ?_
   refine oLstore C d28_105 (Ls' := #[.val (.ref b1), .val (.int 4), .val (.int 3), .val (.int 1), .val (.int ((3 : Int32) * x2)), .val (.int ((2 : Int32) * x2)), .val (.int 0), .val (.int 1), .val (.int x), .val (.long 0), .second]) rfl (q := 107) rfl ?_
   refine oAloadN C d28_107 rfl rfl rfl ?_
   refine oGetF C (w137 hw) Via.refl f10 d28_108 rfl ?_
   refine oIload C d28_111 rfl rfl ?_
   refine oIload C d28_113 rfl rfl ?_
   refine oIadd C d28_115 rfl ?_
   refine oDup2 C d28_116 rfl rfl rfl ?_
   refine oLaload C Al (own_mn3 p4 nx) (k := (3 * x4 + (t + 1))) (own_mk3 p4 nx) (v := .long 0) (own_mv3 p4 nx) d28_117 rfl ?_
   refine oLload C d28_118 rfl rfl ?_
   refine oLor C d28_120 rfl ?_
   refine oCastL (z' := (0 : Int64)) (by decide) ?_
   refine oLastore C Al (own_mn3 p4 nx) (k := (3 * x4 + (t + 1))) (own_mk3 p4 nx) (v := .long 0) (own_mv3 p4 nx) (v' := .long 0) rfl d28_121 rfl p6 fun h11 W11 A11 => ?_
   have A11l : oAr Z h11 b3 .long (oRl x4 (0 : Int64) y5 y6 (0 : Int64)) := by rw [← own_mt3 p4 nx]; exact A11
   refine oIinc C d28_122 rfl (z := (-1)) rfl (w := (x + (-1 : Int32))) rfl (Ls' := #[.val (.ref b1), .val (.int 4), .val (.int 3), .val (.int 1), .val (.int ((3 : Int32) * x2)), .val (.int ((2 : Int32) * x2)), .val (.int 0), .val (.int 1), .val (.int (x + (-1 : Int32))), .val (.long 0), .second]) rfl rfl ?_
   refine oGoto C d28_125 (q := 44) (by decide) (by decide) ?_
   exact ih t (Nat.lt_succ_self t) (h11, (x + (-1 : Int32)), true) ⟨(((oKe.refl h0 [b3] []).trans Kl (allS (Or.inl (List.mem_of_getElem? (i := 0) rfl)) all0) oA0).wrA W11 (Or.inl (List.mem_of_getElem? (i := 0) rfl))), A11l, own_nxs p4 nx⟩
  ·
   show oW _ _ _ _ _ _ _ _ _ _ _ _ _ _ _ (mkF m 44 #[.val (.ref b1), .val (.int 4), .val (.int 3), .val (.int 1), .val (.int ((3 : Int32) * x2)), .val (.int ((2 : Int32) * x2)), .val (.int 0), .val (.int 1), .val (.int x), .val (.long 0), .second] [])
   refine oIload C d28_44 rfl rfl ?_
   refine oIload C d28_46 rfl rfl ?_
   refine oIcmp_lt C d28_48 (q := 128) (by decide) (by decide) (r := 51) rfl (fun hq => absurd hq ((own_nl p4 nx))) (fun hc48 => ?_)
   refine oAloadN C d28_51 rfl rfl rfl ?_
   have f12 := (Kl.fld p2 (ninS p5 nin0) oN0)
   refine oGetF C (w137 hw) Via.refl f12 d28_52 rfl ?_
   refine oIload C d28_55 rfl rfl ?_
   refine oIload C d28_57 rfl rfl ?_
   refine oIadd C d28_59 rfl ?_
   refine oIload C d28_60 rfl rfl ?_
   refine oIsub C d28_62 rfl ?_
   refine oCastI (z' := (((2 : Int32) * x2) + x)) (own_s0 (((2 : Int32) * x2) + x)) ?_
   refine oLaload C Al (own_mn2 p4 nx) (k := (2 * x4 + (t + 1))) (own_mk2 p4 nx) (v := .long 0) (own_mv2 p4 nx) d28_63 rfl ?_
   refine oIload C d28_64 rfl rfl ?_
   refine oLshl C d28_66 rfl ?_
   refine oCastL (z' := (0 : Int64)) (by decide) ?_
   refine oLstore C d28_67 (Ls' := #[.val (.ref b1), .val (.int 4), .val (.int 3), .val (.int 1), .val (.int ((3 : Int32) * x2)), .val (.int ((2 : Int32) * x2)), .val (.int 0), .val (.int 1), .val (.int x), .val (.long 0), .second]) rfl (q := 69) rfl ?_
   refine oIload C d28_69 rfl rfl ?_
   refine oIf_eq C d28_71 (q := 107) (by decide) (by decide) (r := 74) rfl (fun hq => absurd hq ((by decide))) (fun hc71 => ?_)
   refine oIload C d28_74 rfl rfl ?_
   refine oIload C d28_76 rfl rfl ?_
   refine oIcmp_le C d28_78 (q := 107) (by decide) (by decide) (r := 81) rfl (fun hq => absurd hq ((not_not_intro (own_pl p4 nx)))) (fun hc78 => ?_)
   refine oLload C d28_81 rfl rfl ?_
   refine oAloadN C d28_83 rfl rfl rfl ?_
   refine oGetF C (w137 hw) Via.refl f12 d28_84 rfl ?_
   refine oIload C d28_87 rfl rfl ?_
   refine oIload C d28_89 rfl rfl ?_
   refine oIadd C d28_91 rfl ?_
   refine oIload C d28_92 rfl rfl ?_
   refine oIsub C d28_94 rfl ?_
   refine oCastI (z' := (((2 : Int32) * x2) + x)) (own_s0 (((2 : Int32) * x2) + x)) ?_
   refine oIconst C d28_95 (z := 1) rfl rfl ?_
   refine oIsub C d28_96 rfl ?_
   refine oLaload C Al (own_pn2 p4 nx) (k := (2 * x4 + t)) (own_pk2 p4 nx) (v := .long (oEl t y6)) (own_pv2 p4 nx) d28_97 rfl ?_
   refine oBipush C d28_98 (z := 64) rfl rfl ?_
   refine oIload C d28_100 rfl rfl ?_
   refine oIsub C d28_102 rfl ?_
   refine oCastI (z' := (63 : Int32)) (by decide) ?_
   refine oLushr C d28_103 rfl ?_
   refine oCastL (z' := (0 : Int64)) (own_es p7 (by decide)) ?_
   refine oLor C d28_104 rfl ?_
   refine oCastL (z' := (0 : Int64)) (by decide) ?_
   refine oLstore C d28_105 (Ls' := #[.val (.ref b1), .val (.int 4), .val (.int 3), .val (.int 1), .val (.int ((3 : Int32) * x2)), .val (.int ((2 : Int32) * x2)), .val (.int 0), .val (.int 1), .val (.int x), .val (.long 0), .second]) rfl (q := 107) rfl ?_
   refine oAloadN C d28_107 rfl rfl rfl ?_
   refine oGetF C (w137 hw) Via.refl f12 d28_108 rfl ?_
   refine oIload C d28_111 rfl rfl ?_
   refine oIload C d28_113 rfl rfl ?_
   refine oIadd C d28_115 rfl ?_
   refine oDup2 C d28_116 rfl rfl rfl ?_
   refine oLaload C Al (own_mn3 p4 nx) (k := (3 * x4 + (t + 1))) (own_mk3 p4 nx) (v := .long 0) (own_mv3 p4 nx) d28_117 rfl ?_
   refine oLload C d28_118 rfl rfl ?_
   refine oLor C d28_120 rfl ?_
   refine oCastL (z' := (0 : Int64)) (by decide) ?_
   refine oLastore C Al (own_mn3 p4 nx) (k := (3 * x4 + (t + 1))) (own_mk3 p4 nx) (v := .long 0) (own_mv3 p4 nx) (v' := .long 0) rfl d28_121 rfl p6 fun h13 W13 A13 => ?_
   have A13l : oAr Z h13 b3 .long (oRl x4 (0 : Int64) y5 y6 (0 : Int64)) := by rw [← own_mt3 p4 nx]; exact A13
   refine oIinc C d28_122 rfl (z := (-1)) rfl (w := (x + (-1 : Int32))) rfl (Ls' := #[.val (.ref b1), .val (.int 4), .val (.int 3), .val (.int 1), .val (.int ((3 : Int32) * x2)), .val (.int ((2 : Int32) * x2)), .val (.int 0), .val (.int 1), .val (.int (x + (-1 : Int32))), .val (.long 0), .second]) rfl rfl ?_
   refine oGoto C d28_125 (q := 44) (by decide) (by decide) ?_
   exact ih t (Nat.lt_succ_self t) (h13, (x + (-1 : Int32)), true) ⟨(((oKe.refl h0 [b3] []).trans Kl (allS (Or.inl (List.mem_of_getElem? (i := 0) rfl)) all0) oA0).wrA W13 (Or.inl (List.mem_of_getElem? (i := 0) rfl))), A13l, own_nxs p4 nx⟩
theorem sh_0 (g0 g1 : Int64) : (((oUp (1 : Int64) ((1 : Int32) &&& 0x3f).toInt64 (0 : Int64) (oUp0 (1 : Int64) (0 : Int64) g0 (1 : Int64)) g1 (2 : Int64)).toUInt64 >>> ((63 : Int32) &&& 0x3f).toInt64.toUInt64).toInt64) = (0 : Int64) := by
  have z0 := oUp0_v (1 : Int64) (0 : Int64) g0 (1 : Int64)
  have z1 := oUp_v (1 : Int64) ((1 : Int32) &&& 0x3f).toInt64 (0 : Int64) (oUp0 (1 : Int64) (0 : Int64) g0 (1 : Int64)) g1 (2 : Int64)
  rcases z0 with z0 | z0 <;> rcases z1 with z1 | z1 <;> rw [z1] <;> (try rw [z0]) <;> decide
theorem pd_947250 : parseMethodDescriptor "(II)V" = some ⟨[.int, .int], none⟩ := by decide +kernel
set_option maxRecDepth 65536 in
set_option maxHeartbeats 40000000 in
theorem ac21_42 (l : Launch) (Z : State) (a0 : Array Value) (hw : oHw a0 Z) (h0 : Heap) (n0 : Nat) (Z0 : n0 ≤ h0.size) (b1 : Addr) (b2 : Addr) (x3 : Int32) (x4 : Nat) (y5 : Int64) (p1 : Fld Z h0 b1 sP "bits" "[J" (.ref b2)) (p2 : Fld Z h0 b1 sP "words" "I" (.int x3)) (p3 : oAr Z h0 b2 .long (oRl x4 (0 : Int64) y5 (0 : Int64) (0 : Int64))) (p4 : oKw x4 x3) :
    oMet l Z (⟨sP, "follows", "(II)Z"⟩ : MethodName) prog_13_method_2_code 4 (some .boolean) [] ({ frames := 0, cells := 0, slots := 0, locals := 0 } : Room) 0 0 n0 #[.ref b1, .int 3, .int 2] h0 (fun v h => v = some (.int 0) ∧ h = h0) := by
  refine oMet.intro (plainFor_of_name pn_399007) (fun m => ef_21 m b1 (3 : Int32) (2 : Int32)) ?_
  intro op oe os m obl omt ocd C
  refine oIloadN C d21_0 rfl rfl ?_
  refine oIloadN C d21_1 rfl rfl ?_
  refine oIsub C d21_2 rfl ?_
  refine oCastI (z' := (1 : Int32)) (by decide) ?_
  refine oIconst C d21_3 (z := 1) rfl rfl ?_
  refine oIsub C d21_4 rfl ?_
  refine oCastI (z' := (0 : Int32)) (by decide) ?_
  refine oIstoreN C d21_5 (Ls' := #[.val (.ref b1), .val (.int 3), .val (.int 2), .val (.int 0)]) rfl (q := 6) rfl ?_
  refine oAloadN C d21_6 rfl rfl rfl ?_
  refine oGetF C (w137 hw) Via.refl p1 d21_7 rfl ?_
  refine oIloadN C d21_10 rfl rfl ?_
  refine oIconst C d21_11 (z := 1) rfl rfl ?_
  refine oIsub C d21_12 rfl ?_
  refine oCastI (z' := (2 : Int32)) (by decide) ?_
  refine oAloadN C d21_13 rfl rfl rfl ?_
  refine oGetF C (w125 hw) Via.refl p2 d21_14 rfl ?_
  refine oImul C d21_17 rfl ?_
  refine oIloadN C d21_18 rfl rfl ?_
  refine oBipush C d21_19 (z := 6) rfl rfl ?_
  refine oIushr C d21_21 rfl ?_
  refine oCastI (z' := (0 : Int32)) (by decide) ?_
  refine oIadd C d21_22 rfl ?_
  refine oLaload C p3 (own_n2 p4) (k := (2 * x4)) (own_k2 p4) (v := .long 0) (own_v2 p4) d21_23 rfl ?_
  refine oLconst C d21_24 (z := 1) rfl rfl ?_
  refine oIloadN C d21_25 rfl rfl ?_
  refine oLshl C d21_26 rfl ?_
  refine oCastL (z' := (1 : Int64)) (by decide) ?_
  refine oLand C d21_27 rfl ?_
  refine oCastL (z' := (0 : Int64)) (by decide) ?_
  refine oLconst C d21_28 (z := 0) rfl rfl ?_
  refine oLcmp_eq C d21_29 rfl d21_30 (q := 37) (by decide) (by decide) (r := 33) rfl (fun hc29 => ?_) (fun hq => absurd hq ((by decide)))
  refine oIconst C d21_37 (z := 0) rfl rfl ?_
  refine oRetZ C d21_38 (z' := (0 : Int32)) rfl (by decide) (by decide) ?_
  exact ⟨rfl, rfl⟩
set_option maxRecDepth 65536 in
set_option maxHeartbeats 40000000 in
theorem ac25_43 (l : Launch) (Z : State) (a0 : Array Value) (hw : oHw a0 Z) (h0 : Heap) (n0 : Nat) (Z0 : n0 ≤ h0.size) (b1 : Addr) (p1 : Fld Z h0 b1 sR "bit" "J" (.long 2)) :
    oMet l Z (⟨sR, "bit", "()J"⟩ : MethodName) prog_16_method_8_code 1 (some .long) [] ({ frames := 0, cells := 0, slots := 0, locals := 0 } : Room) 0 0 n0 #[.ref b1] h0 (fun v h => v = some (.long 2) ∧ h = h0) := by
  refine oMet.intro (plainFor_of_name pn_618879) (fun m => ef_25 m b1) ?_
  intro op oe os m obl omt ocd C
  refine oAloadN C d25_0 rfl rfl rfl ?_
  refine oGetF C (w28 hw) Via.refl p1 d25_1 rfl ?_
  refine oRetL C d25_4 (by decide) (by decide) ?_
  exact ⟨rfl, rfl⟩
def ft26_1 (y1 : Int64) : Int32 := (if (y1 &&& (2 : Int64)) = (0 : Int64) then (0 : Int32) else (1 : Int32))
theorem ft26_1_def (y1 : Int64) : ft26_1 y1 = (if (y1 &&& (2 : Int64)) = (0 : Int64) then (0 : Int32) else (1 : Int32)) := rfl
set_option maxRecDepth 65536 in
set_option maxHeartbeats 40000000 in
theorem ac26_44 (l : Launch) (Z : State) (a0 : Array Value) (hw : oHw a0 Z) (h0 : Heap) (n0 : Nat) (Z0 : n0 ≤ h0.size) (y1 : Int64)  :
    oMet l Z (⟨sF, "conflict", "(JJJJJJ)Z"⟩ : MethodName) prog_11_method_6_code 12 (some .boolean) [] ({ frames := 1, cells := 0, slots := 0, locals := 19 } : Room) 0 0 n0 #[.long y1, .long (-9223372036854775808), .long 9223372036854775807, .long 2, .long (-9223372036854775808), .long 9223372036854775807] h0 (fun v h => v = some (.int (ft26_1 y1)) ∧ h = h0) := by
  refine oMet.intro (plainFor_of_name pn_807394) (fun m => ef_26 m y1 (-9223372036854775808 : Int64) (9223372036854775807 : Int64) (2 : Int64) (-9223372036854775808 : Int64) (9223372036854775807 : Int64)) ?_
  intro op oe os m obl omt ocd C
  refine oLloadN C d26_0 rfl rfl ?_
  refine oLload C d26_1 rfl rfl ?_
  refine oLand C d26_3 rfl ?_
  refine oLconst C d26_4 (z := 0) rfl rfl ?_
  refine oLcmp_eq C d26_5 rfl d26_6 (q := 26) (by decide) (by decide) (r := 9) rfl (fun hc5 => ?_) (fun hc5 => ?_)
  ·
   refine oIconst C d26_26 (z := 0) rfl rfl ?_
   refine oRetZ C d26_27 (z' := (0 : Int32)) rfl (by decide) (by decide) ?_
   exact ⟨by rw [ft26_1_def, if_pos hc5], rfl⟩
  ·
   refine oLloadN C d26_9 rfl rfl ?_
   refine oLload C d26_10 rfl rfl ?_
   refine oLload C d26_12 rfl rfl ?_
   refine oLload C d26_14 rfl rfl ?_
   refine oCallS C (w194 hw) (w195 hw) (w34 hw) (w196 hw) d26_16 (by decide) pd_567745 rfl rfl (argsL := [.long (-9223372036854775808), .long 9223372036854775807, .long (-9223372036854775808), .long 9223372036854775807]) (rest := []) rfl (W := 0) rfl (q := 19) rfl (by decide) (by decide) (by decide) (by decide) (ac27_38 l Z a0 hw _ n0 Z0  ) (oPureK ?_)
   refine oIf_eq C d26_19 (q := 26) (by decide) (by decide) (r := 22) rfl (fun hq => absurd hq ((by decide))) (fun hc19 => ?_)
   refine oIconst C d26_22 (z := 1) rfl rfl ?_
   refine oGoto C d26_23 (q := 27) (by decide) (by decide) ?_
   refine oRetZ C d26_27 (z' := (1 : Int32)) rfl (by decide) (by decide) ?_
   exact ⟨by rw [ft26_1_def, if_neg hc5], rfl⟩
set_option maxRecDepth 65536 in
set_option maxHeartbeats 40000000 in
theorem ac22_45 (l : Launch) (Z : State) (a0 : Array Value) (hw : oHw a0 Z) (h0 : Heap) (n0 : Nat) (Z0 : n0 ≤ h0.size) (b1 : Addr) (b2 : Addr) (b3 : Addr) (b4 : Addr) (y5 : Int64) (p1 : Fld Z h0 b1 sF "requestClass" sK (.ref b3)) (p2 : Fld Z h0 b2 sF "requestClass" sK (.ref b4)) (p3 : Fld Z h0 b4 sR "declaration" sJ (.null)) (p4 : Fld Z h0 b3 sR "declaration" sJ (.null)) (p5 : Exa Z h0 b3 sR) (p6 : Fld Z h0 b3 sR "conflicts" "J" (.long y5)) (p7 : Fld Z h0 b1 sF "firstKey" "J" (.long (-9223372036854775808))) (p8 : Fld Z h0 b1 sF "lastKey" "J" (.long 9223372036854775807)) (p9 : Fld Z h0 b4 sR "bit" "J" (.long 2)) (p10 : Exa Z h0 b4 sR) (p11 : Fld Z h0 b2 sF "firstKey" "J" (.long (-9223372036854775808))) (p12 : Fld Z h0 b2 sF "lastKey" "J" (.long 9223372036854775807)) :
    oMet l Z (⟨sF, "conflictsWith", "(Lcom/example/orderloom/orderloom/Footprint;)Z"⟩ : MethodName) prog_11_method_3_code 2 (some .boolean) [] ({ frames := 2, cells := 0, slots := 0, locals := 42 } : Room) 0 0 n0 #[.ref b1, .ref b2] h0 (fun v h => v = some (.int (ft26_1 y5)) ∧ h = h0) := by
  refine oMet.intro (plainFor_of_name pn_807394) (fun m => ef_22 m b1 b2) ?_
  intro op oe os m obl omt ocd C
  refine oAloadN C d22_0 rfl rfl rfl ?_
  refine oGetF C (w41 hw) Via.refl p1 d22_1 rfl ?_
  refine oAloadN C d22_4 rfl rfl rfl ?_
  refine oGetF C (w41 hw) Via.refl p2 d22_5 rfl ?_
  refine oCallV C (w176 hw) (w177 hw) (w179 hw) (w178 hw) (w9 hw) (w180 hw) d22_8 p5 (by decide) pd_471014 rfl rfl (a := b3) (argsL := [.ref b4]) (rest := []) rfl (W := 0) rfl (q := 11) rfl (by decide) (by decide) (by decide) (by decide) (ac23_35 l Z a0 hw _ n0 Z0 b3 b4 p3 p4) (oVoidK ?_)
  refine oAloadN C d22_11 rfl rfl rfl ?_
  refine oGetF C (w41 hw) Via.refl p1 d22_12 rfl ?_
  refine oCallV C (w181 hw) (w182 hw) (w184 hw) (w183 hw) (w9 hw) (w185 hw) d22_15 p5 (by decide) pd_428474 rfl rfl (a := b3) (argsL := []) (rest := []) rfl (W := 0) rfl (q := 18) rfl (by decide) (by decide) (by decide) (by decide) (ac24_36 l Z a0 hw _ n0 Z0 b3 y5 p6) (oPureK ?_)
  refine oAloadN C d22_18 rfl rfl rfl ?_
  refine oGetF C (w43 hw) Via.refl p7 d22_19 rfl ?_
  refine oAloadN C d22_22 rfl rfl rfl ?_
  refine oGetF C (w45 hw) Via.refl p8 d22_23 rfl ?_
  refine oAloadN C d22_26 rfl rfl rfl ?_
  refine oGetF C (w41 hw) Via.refl p2 d22_27 rfl ?_
  refine oCallV C (w186 hw) (w187 hw) (w189 hw) (w188 hw) (w9 hw) (w190 hw) d22_30 p10 (by decide) pd_428474 rfl rfl (a := b4) (argsL := []) (rest := [.long 9223372036854775807, .long (-9223372036854775808), .long y5]) rfl (W := 6) rfl (q := 33) rfl (by decide) (by decide) (by decide) (by decide) (ac25_43 l Z a0 hw _ n0 Z0 b4 p9) (oPureK ?_)
  refine oAloadN C d22_33 rfl rfl rfl ?_
  refine oGetF C (w43 hw) Via.refl p11 d22_34 rfl ?_
  refine oAloadN C d22_37 rfl rfl rfl ?_
  refine oGetF C (w45 hw) Via.refl p12 d22_38 rfl ?_
  refine oCallS C (w191 hw) (w192 hw) (w34 hw) (w193 hw) d22_41 (by decide) pd_960385 rfl rfl (argsL := [.long y5, .long (-9223372036854775808), .long 9223372036854775807, .long 2, .long (-9223372036854775808), .long 9223372036854775807]) (rest := []) rfl (W := 0) rfl (q := 44) rfl (by decide) (by decide) (by decide) (by decide) (ac26_44 l Z a0 hw _ n0 Z0 y5 ) (oPureK ?_)
  refine oRetZ C d22_44 (z' := (ft26_1 y5)) (by rw [ft26_1_def]; split <;> rfl) (by decide) (by decide) ?_
  exact ⟨rfl, rfl⟩
set_option maxRecDepth 65536 in
set_option maxHeartbeats 40000000 in
theorem ac28_46 (l : Launch) (Z : State) (a0 : Array Value) (hw : oHw a0 Z) (h0 : Heap) (n0 : Nat) (Z0 : n0 ≤ h0.size) (b1 : Addr) (x2 : Int32) (b3 : Addr) (x4 : Nat) (y5 : Int64) (p1 : Fld Z h0 b1 sP "words" "I" (.int x2)) (p2 : Fld Z h0 b1 sP "bits" "[J" (.ref b3)) (p3 : oAr Z h0 b3 .long (oRl x4 (0 : Int64) y5 (0 : Int64) (0 : Int64))) (p4 : oKw x4 x2) (p5 : b1 ≠ b3) (p6 : n0 ≤ b3) (p7 : ((y5.toUInt64 >>> ((63 : Int32) &&& 0x3f).toInt64.toUInt64).toInt64) = (0 : Int64)) :
    oMet l Z (⟨sP, "followAlong", "(II)V"⟩ : MethodName) prog_13_method_3_code 11 none [] ({ frames := 0, cells := 0, slots := 0, locals := 0 } : Room) 0 0 n0 #[.ref b1, .int 3, .int 2] h0 (fun v h => v = none ∧ oKe h0 h [b3] [] ∧ oAr Z h b3 .long (oRl x4 (0 : Int64) y5 (((0 : Int64) ||| (y5 <<< ((1 : Int32) &&& 0x3f).toInt64)) ||| (1 : Int64)) (0 : Int64))) := by
  refine oMet.intro (plainFor_of_name pn_399007) (fun m => ef_28 m b1 (3 : Int32) (2 : Int32)) ?_
  intro op oe os m obl omt ocd C
  refine oIloadN C d28_0 rfl rfl ?_
  refine oIloadN C d28_1 rfl rfl ?_
  refine oIsub C d28_2 rfl ?_
  refine oCastI (z' := (1 : Int32)) (by decide) ?_
  refine oIstoreN C d28_3 (Ls' := #[.val (.ref b1), .val (.int 3), .val (.int 2), .val (.int 1), .unset, .unset, .unset, .unset, .unset, .unset, .unset]) rfl (q := 4) rfl ?_
  refine oIloadN C d28_4 rfl rfl ?_
  refine oIconst C d28_5 (z := 1) rfl rfl ?_
  refine oIsub C d28_6 rfl ?_
  refine oCastI (z' := (2 : Int32)) (by decide) ?_
  refine oAloadN C d28_7 rfl rfl rfl ?_
  refine oGetF C (w125 hw) Via.refl p1 d28_8 rfl ?_
  refine oImul C d28_11 rfl ?_
  refine oIstore C d28_12 (Ls' := #[.val (.ref b1), .val (.int 3), .val (.int 2), .val (.int 1), .val (.int ((2 : Int32) * x2)), .unset, .unset, .unset, .unset, .unset, .unset]) rfl (q := 14) rfl ?_
  refine oIloadN C d28_14 rfl rfl ?_
  refine oIconst C d28_15 (z := 1) rfl rfl ?_
  refine oIsub C d28_16 rfl ?_
  refine oCastI (z' := (1 : Int32)) (by decide) ?_
  refine oAloadN C d28_17 rfl rfl rfl ?_
  refine oGetF C (w125 hw) Via.refl p1 d28_18 rfl ?_
  refine oImul C d28_21 rfl ?_
  refine oIstore C d28_22 (Ls' := #[.val (.ref b1), .val (.int 3), .val (.int 2), .val (.int 1), .val (.int ((2 : Int32) * x2)), .val (.int ((1 : Int32) * x2)), .unset, .unset, .unset, .unset, .unset]) rfl (q := 24) rfl ?_
  refine oIloadN C d28_24 rfl rfl ?_
  refine oBipush C d28_25 (z := 6) rfl rfl ?_
  refine oIushr C d28_27 rfl ?_
  refine oCastI (z' := (0 : Int32)) (by decide) ?_
  refine oIstore C d28_28 (Ls' := #[.val (.ref b1), .val (.int 3), .val (.int 2), .val (.int 1), .val (.int ((2 : Int32) * x2)), .val (.int ((1 : Int32) * x2)), .val (.int 0), .unset, .unset, .unset, .unset]) rfl (q := 30) rfl ?_
  refine oIloadN C d28_30 rfl rfl ?_
  refine oBipush C d28_31 (z := 63) rfl rfl ?_
  refine oIand C d28_33 rfl ?_
  refine oCastI (z' := (1 : Int32)) (by decide) ?_
  refine oIstore C d28_34 (Ls' := #[.val (.ref b1), .val (.int 3), .val (.int 2), .val (.int 1), .val (.int ((2 : Int32) * x2)), .val (.int ((1 : Int32) * x2)), .val (.int 0), .val (.int 1), .unset, .unset, .unset]) rfl (q := 36) rfl ?_
  refine oAloadN C d28_36 rfl rfl rfl ?_
  refine oGetF C (w125 hw) Via.refl p1 d28_37 rfl ?_
  refine oIconst C d28_40 (z := 1) rfl rfl ?_
  refine oIsub C d28_41 rfl ?_
  refine oIstore C d28_42 (Ls' := #[.val (.ref b1), .val (.int 3), .val (.int 2), .val (.int 1), .val (.int ((2 : Int32) * x2)), .val (.int ((1 : Int32) * x2)), .val (.int 0), .val (.int 1), .val (.int (x2 - (1 : Int32))), .unset, .unset]) rfl (q := 44) rfl ?_
  refine oLoop (α := Heap × Int32 × Bool) (fun t w => oKe h0 w.1 [b3] [] ∧ oAr Z w.1 b3 .long (oRl x4 (0 : Int64) y5 (0 : Int64) (0 : Int64)) ∧ oNx x4 t w.2.1) (fun w => w.1) (fun w => (mkF m 44 #[.val (.ref b1), .val (.int 3), .val (.int 2), .val (.int 1), .val (.int ((2 : Int32) * x2)), .val (.int ((1 : Int32) * x2)), .val (.int 0), .val (.int 1), .val (.int w.2.1), (bif w.2.2 then .val (.long 0) else .unset), (bif w.2.2 then .second else .unset)] [])) (k := 0) (n := 0) ?_ (x4 - 1) (h0, (x2 - (1 : Int32)), false) ⟨oKe.refl _ _ _, p3, own_nx0 p4⟩
  rintro t ih ⟨hl, x, sl⟩ ⟨Kl0, Al0, nx⟩
  have Kl : oKe h0 hl [b3] [] := Kl0
  have Al : oAr Z hl b3 .long (oRl x4 (0 : Int64) y5 (0 : Int64) (0 : Int64)) := Al0
  rcases t with _ | t <;> cases sl
  ·
   obtain rfl : x = 0 := nx.2
   show oW _ _ _ _ _ _ _ _ _ _ _ _ _ _ _ (mkF m 44 #[.val (.ref b1), .val (.int 3), .val (.int 2), .val (.int 1), .val (.int ((2 : Int32) * x2)), .val (.int ((1 : Int32) * x2)), .val (.int 0), .val (.int 1), .val (.int 0), .unset, .unset] [])
   refine oIload C d28_44 rfl rfl ?_
   refine oIload C d28_46 rfl rfl ?_
   refine oIcmp_lt C d28_48 (q := 128) (by decide) (by decide) (r := 51) rfl (fun hq => absurd hq ((by decide))) (fun hc48 => ?_)
   refine oAloadN C d28_51 rfl rfl rfl ?_
   have f2 := (Kl.fld p2 (ninS p5 nin0) oN0)
   refine oGetF C (w137 hw) Via.refl f2 d28_52 rfl ?_
   refine oIload C d28_55 rfl rfl ?_
   refine oIload C d28_57 rfl rfl ?_
   refine oIadd C d28_59 rfl ?_
   refine oIload C d28_60 rfl rfl ?_
   refine oIsub C d28_62 rfl ?_
   refine oCastI (z' := (((1 : Int32) * x2) + (0 : Int32))) (own_s0 (((1 : Int32) * x2) + (0 : Int32))) ?_
   refine oLaload C Al (own_n1 p4) (k := (1 * x4)) (own_k1 p4) (v := .long y5) (own_v1 p4) d28_63 rfl ?_
   refine oIload C d28_64 rfl rfl ?_
   refine oLshl C d28_66 rfl ?_
   refine oLstore C d28_67 (Ls' := #[.val (.ref b1), .val (.int 3), .val (.int 2), .val (.int 1), .val (.int ((2 : Int32) * x2)), .val (.int ((1 : Int32) * x2)), .val (.int 0), .val (.int 1), .val (.int 0), .val (.long (y5 <<< ((1 : Int32) &&& 0x3f).toInt64)), .second]) rfl (q := 69) rfl ?_
   refine oIload C d28_69 rfl rfl ?_
   refine oIf_eq C d28_71 (q := 107) (by decide) (by decide) (r := 74) rfl (fun hq => absurd hq ((by decide))) (fun hc71 => ?_)
   refine oIload C d28_74 rfl rfl ?_
   refine oIload C d28_76 rfl rfl ?_
   refine oIcmp_le C d28_78 (q := 107) (by decide) (by decide) (r := 81) rfl (fun hc78 => ?_) (fun hq => absurd hq ((by decide)))
   refine oAloadN C d28_107 rfl rfl rfl ?_
   refine oGetF C (w137 hw) Via.refl f2 d28_108 rfl ?_
   refine oIload C d28_111 rfl rfl ?_
   refine oIload C d28_113 rfl rfl ?_
   refine oIadd C d28_115 rfl ?_
   refine oDup2 C d28_116 rfl rfl rfl ?_
   refine oLaload C Al (own_n2 p4) (k := (2 * x4)) (own_k2 p4) (v := .long 0) (own_v2 p4) d28_117 rfl ?_
   refine oLload C d28_118 rfl rfl ?_
   refine oLor C d28_120 rfl ?_
   refine oLastore C Al (own_n2 p4) (k := (2 * x4)) (own_k2 p4) (v := .long 0) (own_v2 p4) (v' := .long ((0 : Int64) ||| (y5 <<< ((1 : Int32) &&& 0x3f).toInt64))) rfl d28_121 rfl p6 fun h3 W3 A3 => ?_
   have A3l : oAr Z h3 b3 .long (oRl x4 (0 : Int64) y5 ((0 : Int64) ||| (y5 <<< ((1 : Int32) &&& 0x3f).toInt64)) (0 : Int64)) := by rw [← own_t2 p4]; exact A3
   refine oIinc C d28_122 rfl (z := (-1)) rfl (w := (-1 : Int32)) (by decide) (Ls' := #[.val (.ref b1), .val (.int 3), .val (.int 2), .val (.int 1), .val (.int ((2 : Int32) * x2)), .val (.int ((1 : Int32) * x2)), .val (.int 0), .val (.int 1), .val (.int (-1)), .val (.long (y5 <<< ((1 : Int32) &&& 0x3f).toInt64)), .second]) rfl rfl ?_
   refine oGoto C d28_125 (q := 44) (by decide) (by decide) ?_
   refine oIload C d28_44 rfl rfl ?_
   refine oIload C d28_46 rfl rfl ?_
   refine oIcmp_lt C d28_48 (q := 128) (by decide) (by decide) (r := 51) rfl (fun hc48_1 => ?_) (fun hq => absurd hq ((by decide)))
   refine oIloadN C d28_128 rfl rfl ?_
   refine oIconst C d28_129 (z := 1) rfl rfl ?_
   refine oIsub C d28_130 rfl ?_
   refine oCastI (z' := (0 : Int32)) (by decide) ?_
   refine oIstore C d28_131 (Ls' := #[.val (.ref b1), .val (.int 3), .val (.int 2), .val (.int 1), .val (.int ((2 : Int32) * x2)), .val (.int ((1 : Int32) * x2)), .val (.int 0), .val (.int 1), .val (.int 0), .val (.long (y5 <<< ((1 : Int32) &&& 0x3f).toInt64)), .second]) rfl (q := 133) rfl ?_
   refine oAloadN C d28_133 rfl rfl rfl ?_
   have f4 := (Fld.other W3 f2 (Or.inl p5))
   refine oGetF C (w137 hw) Via.refl f4 d28_134 rfl ?_
   refine oIload C d28_137 rfl rfl ?_
   refine oIload C d28_139 rfl rfl ?_
   refine oBipush C d28_141 (z := 6) rfl rfl ?_
   refine oIushr C d28_143 rfl ?_
   refine oCastI (z' := (0 : Int32)) (by decide) ?_
   refine oIadd C d28_144 rfl ?_
   refine oDup2 C d28_145 rfl rfl rfl ?_
   refine oLaload C A3l (own_n2 p4) (k := (2 * x4)) (own_k2 p4) (v := .long ((0 : Int64) ||| (y5 <<< ((1 : Int32) &&& 0x3f).toInt64))) (own_v2 p4) d28_146 rfl ?_
   refine oLconst C d28_147 (z := 1) rfl rfl ?_
   refine oIload C d28_148 rfl rfl ?_
   refine oLshl C d28_150 rfl ?_
   refine oCastL (z' := (1 : Int64)) (by decide) ?_
   refine oLor C d28_151 rfl ?_
   refine oLastore C A3l (own_n2 p4) (k := (2 * x4)) (own_k2 p4) (v := .long ((0 : Int64) ||| (y5 <<< ((1 : Int32) &&& 0x3f).toInt64))) (own_v2 p4) (v' := .long (((0 : Int64) ||| (y5 <<< ((1 : Int32) &&& 0x3f).toInt64)) ||| (1 : Int64))) rfl d28_152 rfl p6 fun h5 W5 A5 => ?_
   have A5l : oAr Z h5 b3 .long (oRl x4 (0 : Int64) y5 (((0 : Int64) ||| (y5 <<< ((1 : Int32) &&& 0x3f).toInt64)) ||| (1 : Int64)) (0 : Int64)) := by rw [← own_t2 p4]; exact A5
   refine oRetV C d28_153 (by decide) (by decide) ?_
   exact ⟨rfl, ((((oKe.refl h0 [b3] []).trans Kl (allS (Or.inl (List.mem_of_getElem? (i := 0) rfl)) all0) oA0).wrA W3 (Or.inl (List.mem_of_getElem? (i := 0) rfl))).wrA W5 (Or.inl (List.mem_of_getElem? (i := 0) rfl))), A5l⟩
  ·
   obtain rfl : x = 0 := nx.2
   show oW _ _ _ _ _ _ _ _ _ _ _ _ _ _ _ (mkF m 44 #[.val (.ref b1), .val (.int 3), .val (.int 2), .val (.int 1), .val (.int ((2 : Int32) * x2)), .val (.int ((1 : Int32) * x2)), .val (.int 0), .val (.int 1), .val (.int 0), .val (.long 0), .second] [])
   refine oIload C d28_44 rfl rfl ?_
   refine oIload C d28_46 rfl rfl ?_
   refine oIcmp_lt C d28_48 (q := 128) (by decide) (by decide) (r := 51) rfl (fun hq => absurd hq ((by decide))) (fun hc48 => ?_)
   refine oAloadN C d28_51 rfl rfl rfl ?_
   have f6 := (Kl.fld p2 (ninS p5 nin0) oN0)
   refine oGetF C (w137 hw) Via.refl f6 d28_52 rfl ?_
   refine oIload C d28_55 rfl rfl ?_
   refine oIload C d28_57 rfl rfl ?_
   refine oIadd C d28_59 rfl ?_
   refine oIload C d28_60 rfl rfl ?_
   refine oIsub C d28_62 rfl ?_
   refine oCastI (z' := (((1 : Int32) * x2) + (0 : Int32))) (own_s0 (((1 : Int32) * x2) + (0 : Int32))) ?_
   refine oLaload C Al (own_n1 p4) (k := (1 * x4)) (own_k1 p4) (v := .long y5) (own_v1 p4) d28_63 rfl ?_
   refine oIload C d28_64 rfl rfl ?_
   refine oLshl C d28_66 rfl ?_
   refine oLstore C d28_67 (Ls' := #[.val (.ref b1), .val (.int 3), .val (.int 2), .val (.int 1), .val (.int ((2 : Int32) * x2)), .val (.int ((1 : Int32) * x2)), .val (.int 0), .val (.int 1), .val (.int 0), .val (.long (y5 <<< ((1 : Int32) &&& 0x3f).toInt64)), .second]) rfl (q := 69) rfl ?_
   refine oIload C d28_69 rfl rfl ?_
   refine oIf_eq C d28_71 (q := 107) (by decide) (by decide) (r := 74) rfl (fun hq => absurd hq ((by decide))) (fun hc71 => ?_)
   refine oIload C d28_74 rfl rfl ?_
   refine oIload C d28_76 rfl rfl ?_
   refine oIcmp_le C d28_78 (q := 107) (by decide) (by decide) (r := 81) rfl (fun hc78 => ?_) (fun hq => absurd hq ((by decide)))
   refine oAloadN C d28_107 rfl rfl rfl ?_
   refine oGetF C (w137 hw) Via.refl f6 d28_108 rfl ?_
   refine oIload C d28_111 rfl rfl ?_
   refine oIload C d28_113 rfl rfl ?_
   refine oIadd C d28_115 rfl ?_
   refine oDup2 C d28_116 rfl rfl rfl ?_
   refine oLaload C Al (own_n2 p4) (k := (2 * x4)) (own_k2 p4) (v := .long 0) (own_v2 p4) d28_117 rfl ?_
   refine oLload C d28_118 rfl rfl ?_
   refine oLor C d28_120 rfl ?_
   refine oLastore C Al (own_n2 p4) (k := (2 * x4)) (own_k2 p4) (v := .long 0) (own_v2 p4) (v' := .long ((0 : Int64) ||| (y5 <<< ((1 : Int32) &&& 0x3f).toInt64))) rfl d28_121 rfl p6 fun h7 W7 A7 => ?_
   have A7l : oAr Z h7 b3 .long (oRl x4 (0 : Int64) y5 ((0 : Int64) ||| (y5 <<< ((1 : Int32) &&& 0x3f).toInt64)) (0 : Int64)) := by rw [← own_t2 p4]; exact A7
   refine oIinc C d28_122 rfl (z := (-1)) rfl (w := (-1 : Int32)) (by decide) (Ls' := #[.val (.ref b1), .val (.int 3), .val (.int 2), .val (.int 1), .val (.int ((2 : Int32) * x2)), .val (.int ((1 : Int32) * x2)), .val (.int 0), .val (.int 1), .val (.int (-1)), .val (.long (y5 <<< ((1 : Int32) &&& 0x3f).toInt64)), .second]) rfl rfl ?_
   refine oGoto C d28_125 (q := 44) (by decide) (by decide) ?_
   refine oIload C d28_44 rfl rfl ?_
   refine oIload C d28_46 rfl rfl ?_
   refine oIcmp_lt C d28_48 (q := 128) (by decide) (by decide) (r := 51) rfl (fun hc48_1 => ?_) (fun hq => absurd hq ((by decide)))
   refine oIloadN C d28_128 rfl rfl ?_
   refine oIconst C d28_129 (z := 1) rfl rfl ?_
   refine oIsub C d28_130 rfl ?_
   refine oCastI (z' := (0 : Int32)) (by decide) ?_
   refine oIstore C d28_131 (Ls' := #[.val (.ref b1), .val (.int 3), .val (.int 2), .val (.int 1), .val (.int ((2 : Int32) * x2)), .val (.int ((1 : Int32) * x2)), .val (.int 0), .val (.int 1), .val (.int 0), .val (.long (y5 <<< ((1 : Int32) &&& 0x3f).toInt64)), .second]) rfl (q := 133) rfl ?_
   refine oAloadN C d28_133 rfl rfl rfl ?_
   have f8 := (Fld.other W7 f6 (Or.inl p5))
   refine oGetF C (w137 hw) Via.refl f8 d28_134 rfl ?_
   refine oIload C d28_137 rfl rfl ?_
   refine oIload C d28_139 rfl rfl ?_
   refine oBipush C d28_141 (z := 6) rfl rfl ?_
   refine oIushr C d28_143 rfl ?_
   refine oCastI (z' := (0 : Int32)) (by decide) ?_
   refine oIadd C d28_144 rfl ?_
   refine oDup2 C d28_145 rfl rfl rfl ?_
   refine oLaload C A7l (own_n2 p4) (k := (2 * x4)) (own_k2 p4) (v := .long ((0 : Int64) ||| (y5 <<< ((1 : Int32) &&& 0x3f).toInt64))) (own_v2 p4) d28_146 rfl ?_
   refine oLconst C d28_147 (z := 1) rfl rfl ?_
   refine oIload C d28_148 rfl rfl ?_
   refine oLshl C d28_150 rfl ?_
   refine oCastL (z' := (1 : Int64)) (by decide) ?_
   refine oLor C d28_151 rfl ?_
   refine oLastore C A7l (own_n2 p4) (k := (2 * x4)) (own_k2 p4) (v := .long ((0 : Int64) ||| (y5 <<< ((1 : Int32) &&& 0x3f).toInt64))) (own_v2 p4) (v' := .long (((0 : Int64) ||| (y5 <<< ((1 : Int32) &&& 0x3f).toInt64)) ||| (1 : Int64))) rfl d28_152 rfl p6 fun h9 W9 A9 => ?_
   have A9l : oAr Z h9 b3 .long (oRl x4 (0 : Int64) y5 (((0 : Int64) ||| (y5 <<< ((1 : Int32) &&& 0x3f).toInt64)) ||| (1 : Int64)) (0 : Int64)) := by rw [← own_t2 p4]; exact A9
   refine oRetV C d28_153 (by decide) (by decide) ?_
   exact ⟨rfl, ((((oKe.refl h0 [b3] []).trans Kl (allS (Or.inl (List.mem_of_getElem? (i := 0) rfl)) all0) oA0).wrA W7 (Or.inl (List.mem_of_getElem? (i := 0) rfl))).wrA W9 (Or.inl (List.mem_of_getElem? (i := 0) rfl))), A9l⟩
  ·
   show oW _ _ _ _ _ _ _ _ _ _ _ _ _ _ _ (mkF m 44 #[.val (.ref b1), .val (.int 3), .val (.int 2), .val (.int 1), .val (.int ((2 : Int32) * x2)), .val (.int ((1 : Int32) * x2)), .val (.int 0), .val (.int 1), .val (.int x), .unset, .unset] [])
   refine oIload C d28_44 rfl rfl ?_
   refine oIload C d28_46 rfl rfl ?_
   refine oIcmp_lt C d28_48 (q := 128) (by decide) (by decide) (r := 51) rfl (fun hq => absurd hq ((own_nl p4 nx))) (fun hc48 => ?_)
   refine oAloadN C d28_51 rfl rfl rfl ?_
   have f10 := (Kl.fld p2 (ninS p5 nin0) oN0)
   refine oGetF C (w137 hw) Via.refl f10 d28_52 rfl ?_
   refine oIload C d28_55 rfl rfl ?_
   refine oIload C d28_57 rfl rfl ?_
   refine oIadd C d28_59 rfl ?_
   refine oIload C d28_60 rfl rfl ?_
   refine oIsub C d28_62 rfl ?_
   refine oCastI (z' := (((1 : Int32) * x2) + x)) (own_s0 (((1 : Int32) * x2) + x)) ?_
   refine oLaload C Al (own_mn1 p4 nx) (k := (1 * x4 + (t + 1))) (own_mk1 p4 nx) (v := .long 0) (own_mv1 p4 nx) d28_63 rfl ?_
   refine oIload C d28_64 rfl rfl ?_
   refine oLshl C d28_66 rfl ?_
   refine oCastL (z' := (0 : Int64)) (by decide) ?_
   refine oLstore C d28_67 (Ls' := #[.val (.ref b1), .val (.int 3), .val (.int 2), .val (.int 1), .val (.int ((2 : Int32) * x2)), .val (.int ((1 : Int32) * x2)), .val (.int 0), .val (.int 1), .val (.int x), .val (.long 0), .second]) rfl (q := 69) rfl ?_
   refine oIload C d28_69 rfl rfl ?_
   refine oIf_eq C d28_71 (q := 107) (by decide) (by decide) (r := 74) rfl (fun hq => absurd hq ((by decide))) (fun hc71 => ?_)
   refine oIload C d28_74 rfl rfl ?_
   refine oIload C d28_76 rfl rfl ?_
   refine oIcmp_le C d28_78 (q := 107) (by decide) (by decide) (r := 81) rfl (fun hq => absurd hq ((not_not_intro (own_pl p4 nx)))) (fun hc78 => ?_)
   refine oLload C d28_81 rfl rfl ?_
   refine oAloadN C d28_83 rfl rfl rfl ?_
   refine oGetF C (w137 hw) Via.refl f10 d28_84 rfl ?_
   refine oIload C d28_87 rfl rfl ?_
   refine oIload C d28_89 rfl rfl ?_
   refine oIadd C d28_91 rfl ?_
   refine oIload C d28_92 rfl rfl ?_
   refine oIsub C d28_94 rfl ?_
   refine oCastI (z' := (((1 : Int32) * x2) + x)) (own_s0 (((1 : Int32) * x2) + x)) ?_
   refine oIconst C d28_95 (z := 1) rfl rfl ?_
   refine oIsub C d28_96 rfl ?_
   refine oLaload C Al (own_pn1 p4 nx) (k := (1 * x4 + t)) (own_pk1 p4 nx) (v := .long (oEl t y5)) (own_pv1 p4 nx) d28_97 rfl ?_
   refine oBipush C d28_98 (z := 64) rfl rfl ?_
   refine oIload C d28_100 rfl rfl ?_
   refine oIsub C d28_102 rfl ?_
   refine oCastI (z' := (63 : Int32)) (by decide) ?_
   refine oLushr C d28_103 rfl ?_
   refine oCastL (z' := (0 : Int64)) (own_es p7 (by decide)) ?_
   refine oLor C d28_104 rfl ?_
   refine oCastL (z' := (0 : Int64)) (by decide) ?_
   refine oLstore C d28_105 (Ls' := #[.val (.ref b1), .val (.int 3), .val (.int 2), .val (.int 1), .val (.int ((2 : Int32) * x2)), .val (.int ((1 : Int32) * x2)), .val (.int 0), .val (.int 1), .val (.int x), .val (.long 0), .second]) rfl (q := 107) rfl ?_
   refine oAloadN C d28_107 rfl rfl rfl ?_
   refine oGetF C (w137 hw) Via.refl f10 d28_108 rfl ?_
   refine oIload C d28_111 rfl rfl ?_
   refine oIload C d28_113 rfl rfl ?_
   refine oIadd C d28_115 rfl ?_
   refine oDup2 C d28_116 rfl rfl rfl ?_
   refine oLaload C Al (own_mn2 p4 nx) (k := (2 * x4 + (t + 1))) (own_mk2 p4 nx) (v := .long 0) (own_mv2 p4 nx) d28_117 rfl ?_
   refine oLload C d28_118 rfl rfl ?_
   refine oLor C d28_120 rfl ?_
   refine oCastL (z' := (0 : Int64)) (by decide) ?_
   refine oLastore C Al (own_mn2 p4 nx) (k := (2 * x4 + (t + 1))) (own_mk2 p4 nx) (v := .long 0) (own_mv2 p4 nx) (v' := .long 0) rfl d28_121 rfl p6 fun h11 W11 A11 => ?_
   have A11l : oAr Z h11 b3 .long (oRl x4 (0 : Int64) y5 (0 : Int64) (0 : Int64)) := by rw [← own_mt2 p4 nx]; exact A11
   refine oIinc C d28_122 rfl (z := (-1)) rfl (w := (x + (-1 : Int32))) rfl (Ls' := #[.val (.ref b1), .val (.int 3), .val (.int 2), .val (.int 1), .val (.int ((2 : Int32) * x2)), .val (.int ((1 : Int32) * x2)), .val (.int 0), .val (.int 1), .val (.int (x + (-1 : Int32))), .val (.long 0), .second]) rfl rfl ?_
   refine oGoto C d28_125 (q := 44) (by decide) (by decide) ?_
   exact ih t (Nat.lt_succ_self t) (h11, (x + (-1 : Int32)), true) ⟨(((oKe.refl h0 [b3] []).trans Kl (allS (Or.inl (List.mem_of_getElem? (i := 0) rfl)) all0) oA0).wrA W11 (Or.inl (List.mem_of_getElem? (i := 0) rfl))), A11l, own_nxs p4 nx⟩
  ·
   show oW _ _ _ _ _ _ _ _ _ _ _ _ _ _ _ (mkF m 44 #[.val (.ref b1), .val (.int 3), .val (.int 2), .val (.int 1), .val (.int ((2 : Int32) * x2)), .val (.int ((1 : Int32) * x2)), .val (.int 0), .val (.int 1), .val (.int x), .val (.long 0), .second] [])
   refine oIload C d28_44 rfl rfl ?_
   refine oIload C d28_46 rfl rfl ?_
   refine oIcmp_lt C d28_48 (q := 128) (by decide) (by decide) (r := 51) rfl (fun hq => absurd hq ((own_nl p4 nx))) (fun hc48 => ?_)
   refine oAloadN C d28_51 rfl rfl rfl ?_
   have f12 := (Kl.fld p2 (ninS p5 nin0) oN0)
   refine oGetF C (w137 hw) Via.refl f12 d28_52 rfl ?_
   refine oIload C d28_55 rfl rfl ?_
   refine oIload C d28_57 rfl rfl ?_
   refine oIadd C d28_59 rfl ?_
   refine oIload C d28_60 rfl rfl ?_
   refine oIsub C d28_62 rfl ?_
   refine oCastI (z' := (((1 : Int32) * x2) + x)) (own_s0 (((1 : Int32) * x2) + x)) ?_
   refine oLaload C Al (own_mn1 p4 nx) (k := (1 * x4 + (t + 1))) (own_mk1 p4 nx) (v := .long 0) (own_mv1 p4 nx) d28_63 rfl ?_
   refine oIload C d28_64 rfl rfl ?_
   refine oLshl C d28_66 rfl ?_
   refine oCastL (z' := (0 : Int64)) (by decide) ?_
   refine oLstore C d28_67 (Ls' := #[.val (.ref b1), .val (.int 3), .val (.int 2), .val (.int 1), .val (.int ((2 : Int32) * x2)), .val (.int ((1 : Int32) * x2)), .val (.int 0), .val (.int 1), .val (.int x), .val (.long 0), .second]) rfl (q := 69) rfl ?_
   refine oIload C d28_69 rfl rfl ?_
   refine oIf_eq C d28_71 (q := 107) (by decide) (by decide) (r := 74) rfl (fun hq => absurd hq ((by decide))) (fun hc71 => ?_)
   refine oIload C d28_74 rfl rfl ?_
   refine oIload C d28_76 rfl rfl ?_
   refine oIcmp_le C d28_78 (q := 107) (by decide) (by decide) (r := 81) rfl (fun hq => absurd hq ((not_not_intro (own_pl p4 nx)))) (fun hc78 => ?_)
   refine oLload C d28_81 rfl rfl ?_
   refine oAloadN C d28_83 rfl rfl rfl ?_
   refine oGetF C (w137 hw) Via.refl f12 d28_84 rfl ?_
   refine oIload C d28_87 rfl rfl ?_
   refine oIload C d28_89 rfl rfl ?_
   refine oIadd C d28_91 rfl ?_
   refine oIload C d28_92 rfl rfl ?_
   refine oIsub C d28_94 rfl ?_
   refine oCastI (z' := (((1 : Int32) * x2) + x)) (own_s0 (((1 : Int32) * x2) + x)) ?_
   refine oIconst C d28_95 (z := 1) rfl rfl ?_
   refine oIsub C d28_96 rfl ?_
   refine oLaload C Al (own_pn1 p4 nx) (k := (1 * x4 + t)) (own_pk1 p4 nx) (v := .long (oEl t y5)) (own_pv1 p4 nx) d28_97 rfl ?_
   refine oBipush C d28_98 (z := 64) rfl rfl ?_
   refine oIload C d28_100 rfl rfl ?_
   refine oIsub C d28_102 rfl ?_
   refine oCastI (z' := (63 : Int32)) (by decide) ?_
   refine oLushr C d28_103 rfl ?_
   refine oCastL (z' := (0 : Int64)) (own_es p7 (by decide)) ?_
   refine oLor C d28_104 rfl ?_
   refine oCastL (z' := (0 : Int64)) (by decide) ?_
   refine oLstore C d28_105 (Ls' := #[.val (.ref b1), .val (.int 3), .val (.int 2), .val (.int 1), .val (.int ((2 : Int32) * x2)), .val (.int ((1 : Int32) * x2)), .val (.int 0), .val (.int 1), .val (.int x), .val (.long 0), .second]) rfl (q := 107) rfl ?_
   refine oAloadN C d28_107 rfl rfl rfl ?_
   refine oGetF C (w137 hw) Via.refl f12 d28_108 rfl ?_
   refine oIload C d28_111 rfl rfl ?_
   refine oIload C d28_113 rfl rfl ?_
   refine oIadd C d28_115 rfl ?_
   refine oDup2 C d28_116 rfl rfl rfl ?_
   refine oLaload C Al (own_mn2 p4 nx) (k := (2 * x4 + (t + 1))) (own_mk2 p4 nx) (v := .long 0) (own_mv2 p4 nx) d28_117 rfl ?_
   refine oLload C d28_118 rfl rfl ?_
   refine oLor C d28_120 rfl ?_
   refine oCastL (z' := (0 : Int64)) (by decide) ?_
   refine oLastore C Al (own_mn2 p4 nx) (k := (2 * x4 + (t + 1))) (own_mk2 p4 nx) (v := .long 0) (own_mv2 p4 nx) (v' := .long 0) rfl d28_121 rfl p6 fun h13 W13 A13 => ?_
   have A13l : oAr Z h13 b3 .long (oRl x4 (0 : Int64) y5 (0 : Int64) (0 : Int64)) := by rw [← own_mt2 p4 nx]; exact A13
   refine oIinc C d28_122 rfl (z := (-1)) rfl (w := (x + (-1 : Int32))) rfl (Ls' := #[.val (.ref b1), .val (.int 3), .val (.int 2), .val (.int 1), .val (.int ((2 : Int32) * x2)), .val (.int ((1 : Int32) * x2)), .val (.int 0), .val (.int 1), .val (.int (x + (-1 : Int32))), .val (.long 0), .second]) rfl rfl ?_
   refine oGoto C d28_125 (q := 44) (by decide) (by decide) ?_
   exact ih t (Nat.lt_succ_self t) (h13, (x + (-1 : Int32)), true) ⟨(((oKe.refl h0 [b3] []).trans Kl (allS (Or.inl (List.mem_of_getElem? (i := 0) rfl)) all0) oA0).wrA W13 (Or.inl (List.mem_of_getElem? (i := 0) rfl))), A13l, own_nxs p4 nx⟩
theorem sh_1 (g0 : Int64) : (((oUp0 (1 : Int64) (0 : Int64) g0 (1 : Int64)).toUInt64 >>> ((63 : Int32) &&& 0x3f).toInt64.toUInt64).toInt64) = (0 : Int64) := by
  have z0 := oUp0_v (1 : Int64) (0 : Int64) g0 (1 : Int64)
  rcases z0 with z0 | z0 <;> rw [z0] <;> decide
set_option maxRecDepth 65536 in
set_option maxHeartbeats 40000000 in
theorem ac21_47 (l : Launch) (Z : State) (a0 : Array Value) (hw : oHw a0 Z) (h0 : Heap) (n0 : Nat) (Z0 : n0 ≤ h0.size) (b1 : Addr) (b2 : Addr) (x3 : Int32) (x4 : Nat) (p1 : Fld Z h0 b1 sP "bits" "[J" (.ref b2)) (p2 : Fld Z h0 b1 sP "words" "I" (.int x3)) (p3 : oAr Z h0 b2 .long (oRl x4 (0 : Int64) (0 : Int64) (0 : Int64) (0 : Int64))) (p4 : oKw x4 x3) :
    oMet l Z (⟨sP, "follows", "(II)Z"⟩ : MethodName) prog_13_method_2_code 4 (some .boolean) [] ({ frames := 0, cells := 0, slots := 0, locals := 0 } : Room) 0 0 n0 #[.ref b1, .int 2, .int 1] h0 (fun v h => v = some (.int 0) ∧ h = h0) := by
  refine oMet.intro (plainFor_of_name pn_399007) (fun m => ef_21 m b1 (2 : Int32) (1 : Int32)) ?_
  intro op oe os m obl omt ocd C
  refine oIloadN C d21_0 rfl rfl ?_
  refine oIloadN C d21_1 rfl rfl ?_
  refine oIsub C d21_2 rfl ?_
  refine oCastI (z' := (1 : Int32)) (by decide) ?_
  refine oIconst C d21_3 (z := 1) rfl rfl ?_
  refine oIsub C d21_4 rfl ?_
  refine oCastI (z' := (0 : Int32)) (by decide) ?_
  refine oIstoreN C d21_5 (Ls' := #[.val (.ref b1), .val (.int 2), .val (.int 1), .val (.int 0)]) rfl (q := 6) rfl ?_
  refine oAloadN C d21_6 rfl rfl rfl ?_
  refine oGetF C (w137 hw) Via.refl p1 d21_7 rfl ?_
  refine oIloadN C d21_10 rfl rfl ?_
  refine oIconst C d21_11 (z := 1) rfl rfl ?_
  refine oIsub C d21_12 rfl ?_
  refine oCastI (z' := (1 : Int32)) (by decide) ?_
  refine oAloadN C d21_13 rfl rfl rfl ?_
  refine oGetF C (w125 hw) Via.refl p2 d21_14 rfl ?_
  refine oImul C d21_17 rfl ?_
  refine oIloadN C d21_18 rfl rfl ?_
  refine oBipush C d21_19 (z := 6) rfl rfl ?_
  refine oIushr C d21_21 rfl ?_
  refine oCastI (z' := (0 : Int32)) (by decide) ?_
  refine oIadd C d21_22 rfl ?_
  refine oLaload C p3 (own_n1 p4) (k := (1 * x4)) (own_k1 p4) (v := .long 0) (own_v1 p4) d21_23 rfl ?_
  refine oLconst C d21_24 (z := 1) rfl rfl ?_
  refine oIloadN C d21_25 rfl rfl ?_
  refine oLshl C d21_26 rfl ?_
  refine oCastL (z' := (1 : Int64)) (by decide) ?_
  refine oLand C d21_27 rfl ?_
  refine oCastL (z' := (0 : Int64)) (by decide) ?_
  refine oLconst C d21_28 (z := 0) rfl rfl ?_
  refine oLcmp_eq C d21_29 rfl d21_30 (q := 37) (by decide) (by decide) (r := 33) rfl (fun hc29 => ?_) (fun hq => absurd hq ((by decide)))
  refine oIconst C d21_37 (z := 0) rfl rfl ?_
  refine oRetZ C d21_38 (z' := (0 : Int32)) rfl (by decide) (by decide) ?_
  exact ⟨rfl, rfl⟩
set_option maxRecDepth 65536 in
set_option maxHeartbeats 40000000 in
theorem ac18_48 (l : Launch) (Z : State) (a0 : Array Value) (hw : oHw a0 Z) (h0 : Heap) (n0 : Nat) (Z0 : n0 ≤ h0.size)   :
    oMet l Z (⟨"jdk/internal/util/Preconditions", "checkIndex", "(IILjava/util/function/BiFunction;)I"⟩ : MethodName) jdk_41_method_11_code 3 (some .int) [] ({ frames := 0, cells := 0, slots := 0, locals := 0 } : Room) 0 0 n0 #[.int 0, .int 4, .null] h0 (fun v h => v = some (.int 0) ∧ h = h0) := by
  refine oMet.intro (plainFor_of_name pn_230011) (fun m => ef_18n2 m (0 : Int32) (4 : Int32)) ?_
  intro op oe os m obl omt ocd C
  refine oIloadN C d18_0 rfl rfl ?_
  refine oIf_lt C d18_1 (q := 9) (by decide) (by decide) (r := 4) rfl (fun hq => absurd hq ((by decide))) (fun hc1 => ?_)
  refine oIloadN C d18_4 rfl rfl ?_
  refine oIloadN C d18_5 rfl rfl ?_
  refine oIcmp_lt C d18_6 (q := 16) (by decide) (by decide) (r := 9) rfl (fun hc6 => ?_) (fun hq => absurd hq ((by decide)))
  refine oIloadN C d18_16 rfl rfl ?_
  refine oRetI C d18_17 (by decide) (by decide) ?_
  exact ⟨rfl, rfl⟩
set_option maxRecDepth 65536 in
set_option maxHeartbeats 40000000 in
theorem ac17_49 (l : Launch) (Z : State) (a0 : Array Value) (hw : oHw a0 Z) (h0 : Heap) (n0 : Nat) (Z0 : n0 ≤ h0.size)   :
    oMet l Z (⟨"java/util/Objects", "checkIndex", "(II)I"⟩ : MethodName) jdk_31_method_17_code 2 (some .int) [] ({ frames := 1, cells := 0, slots := 0, locals := 14 } : Room) 0 0 n0 #[.int 0, .int 4] h0 (fun v h => v = some (.int 0) ∧ h = h0) := by
  refine oMet.intro (plainFor_of_name pn_165728) (fun m => ef_17 m (0 : Int32) (4 : Int32)) ?_
  intro op oe os m obl omt ocd C
  refine oIloadN C d17_0 rfl rfl ?_
  refine oIloadN C d17_1 rfl rfl ?_
  refine oNull C d17_2 rfl ?_
  refine oCallS C (w151 hw) (w152 hw) (w153 hw) (w154 hw) d17_3 (by decide) pd_547608 rfl rfl (argsL := [.int 0, .int 4, .null]) (rest := []) rfl (W := 0) rfl (q := 6) rfl (by decide) (by decide) (by decide) (by decide) (ac18_48 l Z a0 hw _ n0 Z0  ) (oPureK ?_)
  refine oRetI C d17_6 (by decide) (by decide) ?_
  exact ⟨rfl, rfl⟩
set_option maxRecDepth 65536 in
set_option maxHeartbeats 40000000 in
theorem ac19_50 (l : Launch) (Z : State) (a0 : Array Value) (hw : oHw a0 Z) (h0 : Heap) (n0 : Nat) (Z0 : n0 ≤ h0.size) (b1 : Addr) (b2 : Addr) (b3 : Addr) (b4 : Addr) (b5 : Addr) (b6 : Addr) (p1 : Fld Z h0 b1 sA "elementData" sG (.ref b2)) (p2 : oArO Z h0 b2 sO [.ref b3, .ref b4, .ref b5, .ref b6, .null, .null, .null, .null, .null, .null]) :
    oMet l Z (⟨sA, "elementData", "(I)Ljava/lang/Object;"⟩ : MethodName) jdk_38_method_18_code 2 (some (.object sO)) [] ({ frames := 0, cells := 0, slots := 0, locals := 0 } : Room) 0 0 n0 #[.ref b1, .int 0] h0 (fun v h => v = some (.ref b3) ∧ h = h0) := by
  refine oMet.intro (plainFor_of_name pn_346561) (fun m => ef_19 m b1 (0 : Int32)) ?_
  intro op oe os m obl omt ocd C
  refine oAloadN C d19_0 rfl rfl rfl ?_
  refine oGetF C (w74 hw) Via.refl p1 d19_1 rfl ?_
  refine oIloadN C d19_4 rfl rfl ?_
  refine oAaload C p2 (by decide) (k := 0) rfl (v := .ref b3) rfl d19_5 rfl ?_
  refine oRetA C rfl rfl d19_6 (by decide) (by decide) ?_
  exact ⟨rfl, rfl⟩
set_option maxRecDepth 65536 in
set_option maxHeartbeats 40000000 in
theorem ac16_51 (l : Launch) (Z : State) (a0 : Array Value) (hw : oHw a0 Z) (h0 : Heap) (n0 : Nat) (Z0 : n0 ≤ h0.size) (b1 : Addr) (b2 : Addr) (b3 : Addr) (b4 : Addr) (b5 : Addr) (b6 : Addr) (p1 : Fld Z h0 b1 sA "size" "I" (.int 4)) (p2 : Fld Z h0 b1 sA "elementData" sG (.ref b2)) (p3 : oArO Z h0 b2 sO [.ref b3, .ref b4, .ref b5, .ref b6, .null, .null, .null, .null, .null, .null]) (p4 : Exa Z h0 b1 sA) :
    oMet l Z (⟨sA, "get", "(I)Ljava/lang/Object;"⟩ : MethodName) jdk_38_method_20_code 2 (some (.object sO)) [] ({ frames := 2, cells := 0, slots := 0, locals := 27 } : Room) 0 0 n0 #[.ref b1, .int 0] h0 (fun v h => v = some (.ref b3) ∧ h = h0) := by
  refine oMet.intro (plainFor_of_name pn_346561) (fun m => ef_16 m b1 (0 : Int32)) ?_
  intro op oe os m obl omt ocd C
  refine oIloadN C d16_0 rfl rfl ?_
  refine oAloadN C d16_1 rfl rfl rfl ?_
  refine oGetF C (w92 hw) Via.refl p1 d16_2 rfl ?_
  refine oCallS C (w147 hw) (w148 hw) (w149 hw) (w150 hw) d16_5 (by decide) pd_947237 rfl rfl (argsL := [.int 0, .int 4]) (rest := []) rfl (W := 0) rfl (q := 8) rfl (by decide) (by decide) (by decide) (by decide) (ac17_49 l Z a0 hw _ n0 Z0  ) (oPureK ?_)
  refine oPop C d16_8 rfl rfl ?_
  refine oAloadN C d16_9 rfl rfl rfl ?_
  refine oIloadN C d16_10 rfl rfl ?_
  refine oCallV C (w155 hw) (w156 hw) (w158 hw) (w157 hw) (w54 hw) (w159 hw) d16_11 p4 (by decide) pd_666516 rfl rfl (a := b1) (argsL := [.int 0]) (rest := []) rfl (W := 0) rfl (q := 14) rfl (by decide) (by decide) (by decide) (by decide) (ac19_50 l Z a0 hw _ n0 Z0 b1 b2 b3 b4 b5 b6 p2 p3) (oPureK ?_)
  refine oRetA C rfl rfl d16_14 (by decide) (by decide) ?_
  exact ⟨rfl, rfl⟩
set_option maxRecDepth 65536 in
set_option maxHeartbeats 40000000 in
theorem ac25_52 (l : Launch) (Z : State) (a0 : Array Value) (hw : oHw a0 Z) (h0 : Heap) (n0 : Nat) (Z0 : n0 ≤ h0.size) (b1 : Addr) (p1 : Fld Z h0 b1 sR "bit" "J" (.long 1)) :
    oMet l Z (⟨sR, "bit", "()J"⟩ : MethodName) prog_16_method_8_code 1 (some .long) [] ({ frames := 0, cells := 0, slots := 0, locals := 0 } : Room) 0 0 n0 #[.ref b1] h0 (fun v h => v = some (.long 1) ∧ h = h0) := by
  refine oMet.intro (plainFor_of_name pn_618879) (fun m => ef_25 m b1) ?_
  intro op oe os m obl omt ocd C
  refine oAloadN C d25_0 rfl rfl rfl ?_
  refine oGetF C (w28 hw) Via.refl p1 d25_1 rfl ?_
  refine oRetL C d25_4 (by decide) (by decide) ?_
  exact ⟨rfl, rfl⟩
def ft26_2 (y1 : Int64) : Int32 := (if (y1 &&& (1 : Int64)) = (0 : Int64) then (0 : Int32) else (1 : Int32))
theorem ft26_2_def (y1 : Int64) : ft26_2 y1 = (if (y1 &&& (1 : Int64)) = (0 : Int64) then (0 : Int32) else (1 : Int32)) := rfl
set_option maxRecDepth 65536 in
set_option maxHeartbeats 40000000 in
theorem ac26_53 (l : Launch) (Z : State) (a0 : Array Value) (hw : oHw a0 Z) (h0 : Heap) (n0 : Nat) (Z0 : n0 ≤ h0.size) (y1 : Int64)  :
    oMet l Z (⟨sF, "conflict", "(JJJJJJ)Z"⟩ : MethodName) prog_11_method_6_code 12 (some .boolean) [] ({ frames := 1, cells := 0, slots := 0, locals := 19 } : Room) 0 0 n0 #[.long y1, .long (-9223372036854775808), .long 9223372036854775807, .long 1, .long (-9223372036854775808), .long 9223372036854775807] h0 (fun v h => v = some (.int (ft26_2 y1)) ∧ h = h0) := by
  refine oMet.intro (plainFor_of_name pn_807394) (fun m => ef_26 m y1 (-9223372036854775808 : Int64) (9223372036854775807 : Int64) (1 : Int64) (-9223372036854775808 : Int64) (9223372036854775807 : Int64)) ?_
  intro op oe os m obl omt ocd C
  refine oLloadN C d26_0 rfl rfl ?_
  refine oLload C d26_1 rfl rfl ?_
  refine oLand C d26_3 rfl ?_
  refine oLconst C d26_4 (z := 0) rfl rfl ?_
  refine oLcmp_eq C d26_5 rfl d26_6 (q := 26) (by decide) (by decide) (r := 9) rfl (fun hc5 => ?_) (fun hc5 => ?_)
  ·
   refine oIconst C d26_26 (z := 0) rfl rfl ?_
   refine oRetZ C d26_27 (z' := (0 : Int32)) rfl (by decide) (by decide) ?_
   exact ⟨by rw [ft26_2_def, if_pos hc5], rfl⟩
  ·
   refine oLloadN C d26_9 rfl rfl ?_
   refine oLload C d26_10 rfl rfl ?_
   refine oLload C d26_12 rfl rfl ?_
   refine oLload C d26_14 rfl rfl ?_
   refine oCallS C (w194 hw) (w195 hw) (w34 hw) (w196 hw) d26_16 (by decide) pd_567745 rfl rfl (argsL := [.long (-9223372036854775808), .long 9223372036854775807, .long (-9223372036854775808), .long 9223372036854775807]) (rest := []) rfl (W := 0) rfl (q := 19) rfl (by decide) (by decide) (by decide) (by decide) (ac27_38 l Z a0 hw _ n0 Z0  ) (oPureK ?_)
   refine oIf_eq C d26_19 (q := 26) (by decide) (by decide) (r := 22) rfl (fun hq => absurd hq ((by decide))) (fun hc19 => ?_)
   refine oIconst C d26_22 (z := 1) rfl rfl ?_
   refine oGoto C d26_23 (q := 27) (by decide) (by decide) ?_
   refine oRetZ C d26_27 (z' := (1 : Int32)) rfl (by decide) (by decide) ?_
   exact ⟨by rw [ft26_2_def, if_neg hc5], rfl⟩
set_option maxRecDepth 65536 in
set_option maxHeartbeats 40000000 in
theorem ac22_54 (l : Launch) (Z : State) (a0 : Array Value) (hw : oHw a0 Z) (h0 : Heap) (n0 : Nat) (Z0 : n0 ≤ h0.size) (b1 : Addr) (b2 : Addr) (b3 : Addr) (b4 : Addr) (y5 : Int64) (p1 : Fld Z h0 b1 sF "requestClass" sK (.ref b3)) (p2 : Fld Z h0 b2 sF "requestClass" sK (.ref b4)) (p3 : Fld Z h0 b4 sR "declaration" sJ (.null)) (p4 : Fld Z h0 b3 sR "declaration" sJ (.null)) (p5 : Exa Z h0 b3 sR) (p6 : Fld Z h0 b3 sR "conflicts" "J" (.long y5)) (p7 : Fld Z h0 b1 sF "firstKey" "J" (.long (-9223372036854775808))) (p8 : Fld Z h0 b1 sF "lastKey" "J" (.long 9223372036854775807)) (p9 : Fld Z h0 b4 sR "bit" "J" (.long 1)) (p10 : Exa Z h0 b4 sR) (p11 : Fld Z h0 b2 sF "firstKey" "J" (.long (-9223372036854775808))) (p12 : Fld Z h0 b2 sF "lastKey" "J" (.long 9223372036854775807)) :
    oMet l Z (⟨sF, "conflictsWith", "(Lcom/example/orderloom/orderloom/Footprint;)Z"⟩ : MethodName) prog_11_method_3_code 2 (some .boolean) [] ({ frames := 2, cells := 0, slots := 0, locals := 42 } : Room) 0 0 n0 #[.ref b1, .ref b2] h0 (fun v h => v = some (.int (ft26_2 y5)) ∧ h = h0) := by
  refine oMet.intro (plainFor_of_name pn_807394) (fun m => ef_22 m b1 b2) ?_
  intro op oe os m obl omt ocd C
  refine oAloadN C d22_0 rfl rfl rfl ?_
  refine oGetF C (w41 hw) Via.refl p1 d22_1 rfl ?_
  refine oAloadN C d22_4 rfl rfl rfl ?_
  refine oGetF C (w41 hw) Via.refl p2 d22_5 rfl ?_
  refine oCallV C (w176 hw) (w177 hw) (w179 hw) (w178 hw) (w9 hw) (w180 hw) d22_8 p5 (by decide) pd_471014 rfl rfl (a := b3) (argsL := [.ref b4]) (rest := []) rfl (W := 0) rfl (q := 11) rfl (by decide) (by decide) (by decide) (by decide) (ac23_35 l Z a0 hw _ n0 Z0 b3 b4 p3 p4) (oVoidK ?_)
  refine oAloadN C d22_11 rfl rfl rfl ?_
  refine oGetF C (w41 hw) Via.refl p1 d22_12 rfl ?_
  refine oCallV C (w181 hw) (w182 hw) (w184 hw) (w183 hw) (w9 hw) (w185 hw) d22_15 p5 (by decide) pd_428474 rfl rfl (a := b3) (argsL := []) (rest := []) rfl (W := 0) rfl (q := 18) rfl (by decide) (by decide) (by decide) (by decide) (ac24_36 l Z a0 hw _ n0 Z0 b3 y5 p6) (oPureK ?_)
  refine oAloadN C d22_18 rfl rfl rfl ?_
  refine oGetF C (w43 hw) Via.refl p7 d22_19 rfl ?_
  refine oAloadN C d22_22 rfl rfl rfl ?_
  refine oGetF C (w45 hw) Via.refl p8 d22_23 rfl ?_
  refine oAloadN C d22_26 rfl rfl rfl ?_
  refine oGetF C (w41 hw) Via.refl p2 d22_27 rfl ?_
  refine oCallV C (w186 hw) (w187 hw) (w189 hw) (w188 hw) (w9 hw) (w190 hw) d22_30 p10 (by decide) pd_428474 rfl rfl (a := b4) (argsL := []) (rest := [.long 9223372036854775807, .long (-9223372036854775808), .long y5]) rfl (W := 6) rfl (q := 33) rfl (by decide) (by decide) (by decide) (by decide) (ac25_52 l Z a0 hw _ n0 Z0 b4 p9) (oPureK ?_)
  refine oAloadN C d22_33 rfl rfl rfl ?_
  refine oGetF C (w43 hw) Via.refl p11 d22_34 rfl ?_
  refine oAloadN C d22_37 rfl rfl rfl ?_
  refine oGetF C (w45 hw) Via.refl p12 d22_38 rfl ?_
  refine oCallS C (w191 hw) (w192 hw) (w34 hw) (w193 hw) d22_41 (by decide) pd_960385 rfl rfl (argsL := [.long y5, .long (-9223372036854775808), .long 9223372036854775807, .long 1, .long (-9223372036854775808), .long 9223372036854775807]) (rest := []) rfl (W := 0) rfl (q := 44) rfl (by decide) (by decide) (by decide) (by decide) (ac26_53 l Z a0 hw _ n0 Z0 y5 ) (oPureK ?_)
  refine oRetZ C d22_44 (z' := (ft26_2 y5)) (by rw [ft26_2_def]; split <;> rfl) (by decide) (by decide) ?_
  exact ⟨rfl, rfl⟩
set_option maxRecDepth 65536 in
set_option maxHeartbeats 40000000 in
theorem ac28_55 (l : Launch) (Z : State) (a0 : Array Value) (hw : oHw a0 Z) (h0 : Heap) (n0 : Nat) (Z0 : n0 ≤ h0.size) (b1 : Addr) (x2 : Int32) (b3 : Addr) (x4 : Nat) (p1 : Fld Z h0 b1 sP "words" "I" (.int x2)) (p2 : Fld Z h0 b1 sP "bits" "[J" (.ref b3)) (p3 : oAr Z h0 b3 .long (oRl x4 (0 : Int64) (0 : Int64) (0 : Int64) (0 : Int64))) (p4 : oKw x4 x2) (p5 : b1 ≠ b3) (p6 : n0 ≤ b3) :
    oMet l Z (⟨sP, "followAlong", "(II)V"⟩ : MethodName) prog_13_method_3_code 11 none [] ({ frames := 0, cells := 0, slots := 0, locals := 0 } : Room) 0 0 n0 #[.ref b1, .int 2, .int 1] h0 (fun v h => v = none ∧ oKe h0 h [b3] [] ∧ oAr Z h b3 .long (oRl x4 (0 : Int64) (1 : Int64) (0 : Int64) (0 : Int64))) := by
  refine oMet.intro (plainFor_of_name pn_399007) (fun m => ef_28 m b1 (2 : Int32) (1 : Int32)) ?_
  intro op oe os m obl omt ocd C
  refine oIloadN C d28_0 rfl rfl ?_
  refine oIloadN C d28_1 rfl rfl ?_
  refine oIsub C d28_2 rfl ?_
  refine oCastI (z' := (1 : Int32)) (by decide) ?_
  refine oIstoreN C d28_3 (Ls' := #[.val (.ref b1), .val (.int 2), .val (.int 1), .val (.int 1), .unset, .unset, .unset, .unset, .unset, .unset, .unset]) rfl (q := 4) rfl ?_
  refine oIloadN C d28_4 rfl rfl ?_
  refine oIconst C d28_5 (z := 1) rfl rfl ?_
  refine oIsub C d28_6 rfl ?_
  refine oCastI (z' := (1 : Int32)) (by decide) ?_
  refine oAloadN C d28_7 rfl rfl rfl ?_
  refine oGetF C (w125 hw) Via.refl p1 d28_8 rfl ?_
  refine oImul C d28_11 rfl ?_
  refine oIstore C d28_12 (Ls' := #[.val (.ref b1), .val (.int 2), .val (.int 1), .val (.int 1), .val (.int ((1 : Int32) * x2)), .unset, .unset, .unset, .unset, .unset, .unset]) rfl (q := 14) rfl ?_
  refine oIloadN C d28_14 rfl rfl ?_
  refine oIconst C d28_15 (z := 1) rfl rfl ?_
  refine oIsub C d28_16 rfl ?_
  refine oCastI (z' := (0 : Int32)) (by decide) ?_
  refine oAloadN C d28_17 rfl rfl rfl ?_
  refine oGetF C (w125 hw) Via.refl p1 d28_18 rfl ?_
  refine oImul C d28_21 rfl ?_
  refine oIstore C d28_22 (Ls' := #[.val (.ref b1), .val (.int 2), .val (.int 1), .val (.int 1), .val (.int ((1 : Int32) * x2)), .val (.int ((0 : Int32) * x2)), .unset, .unset, .unset, .unset, .unset]) rfl (q := 24) rfl ?_
  refine oIloadN C d28_24 rfl rfl ?_
  refine oBipush C d28_25 (z := 6) rfl rfl ?_
  refine oIushr C d28_27 rfl ?_
  refine oCastI (z' := (0 : Int32)) (by decide) ?_
  refine oIstore C d28_28 (Ls' := #[.val (.ref b1), .val (.int 2), .val (.int 1), .val (.int 1), .val (.int ((1 : Int32) * x2)), .val (.int ((0 : Int32) * x2)), .val (.int 0), .unset, .unset, .unset, .unset]) rfl (q := 30) rfl ?_
  refine oIloadN C d28_30 rfl rfl ?_
  refine oBipush C d28_31 (z := 63) rfl rfl ?_
  refine oIand C d28_33 rfl ?_
  refine oCastI (z' := (1 : Int32)) (by decide) ?_
  refine oIstore C d28_34 (Ls' := #[.val (.ref b1), .val (.int 2), .val (.int 1), .val (.int 1), .val (.int ((1 : Int32) * x2)), .val (.int ((0 : Int32) * x2)), .val (.int 0), .val (.int 1), .unset, .unset, .unset]) rfl (q := 36) rfl ?_
  refine oAloadN C d28_36 rfl rfl rfl ?_
  refine oGetF C (w125 hw) Via.refl p1 d28_37 rfl ?_
  refine oIconst C d28_40 (z := 1) rfl rfl ?_
  refine oIsub C d28_41 rfl ?_
  refine oIstore C d28_42 (Ls' := #[.val (.ref b1), .val (.int 2), .val (.int 1), .val (.int 1), .val (.int ((1 : Int32) * x2)), .val (.int ((0 : Int32) * x2)), .val (.int 0), .val (.int 1), .val (.int (x2 - (1 : Int32))), .unset, .unset]) rfl (q := 44) rfl ?_
  refine oLoop (α := Heap × Int32 × Bool) (fun t w => oKe h0 w.1 [b3] [] ∧ oAr Z w.1 b3 .long (oRl x4 (0 : Int64) (0 : Int64) (0 : Int64) (0 : Int64)) ∧ oNx x4 t w.2.1) (fun w => w.1) (fun w => (mkF m 44 #[.val (.ref b1), .val (.int 2), .val (.int 1), .val (.int 1), .val (.int ((1 : Int32) * x2)), .val (.int ((0 : Int32) * x2)), .val (.int 0), .val (.int 1), .val (.int w.2.1), (bif w.2.2 then .val (.long 0) else .unset), (bif w.2.2 then .second else .unset)] [])) (k := 0) (n := 0) ?_ (x4 - 1) (h0, (x2 - (1 : Int32)), false) ⟨oKe.refl _ _ _, p3, own_nx0 p4⟩
  rintro t ih ⟨hl, x, sl⟩ ⟨Kl0, Al0, nx⟩
  have Kl : oKe h0 hl [b3] [] := Kl0
  have Al : oAr Z hl b3 .long (oRl x4 (0 : Int64) (0 : Int64) (0 : Int64) (0 : Int64)) := Al0
  rcases t with _ | t <;> cases sl
  ·
   obtain rfl : x = 0 := nx.2
   show oW _ _ _ _ _ _ _ _ _ _ _ _ _ _ _ (mkF m 44 #[.val (.ref b1), .val (.int 2), .val (.int 1), .val (.int 1), .val (.int ((1 : Int32) * x2)), .val (.int ((0 : Int32) * x2)), .val (.int 0), .val (.int 1), .val (.int 0), .unset, .unset] [])
   refine oIload C d28_44 rfl rfl ?_
   refine oIload C d28_46 rfl rfl ?_
   refine oIcmp_lt C d28_48 (q := 128) (by decide) (by decide) (r := 51) rfl (fun hq => absurd hq ((by decide))) (fun hc48 => ?_)
   refine oAloadN C d28_51 rfl rfl rfl ?_
   have f2 := (Kl.fld p2 (ninS p5 nin0) oN0)
   refine oGetF C (w137 hw) Via.refl f2 d28_52 rfl ?_
   refine oIload C d28_55 rfl rfl ?_
   refine oIload C d28_57 rfl rfl ?_
   refine oIadd C d28_59 rfl ?_
   refine oIload C d28_60 rfl rfl ?_
   refine oIsub C d28_62 rfl ?_
   refine oCastI (z' := (((0 : Int32) * x2) + (0 : Int32))) (own_s0 (((0 : Int32) * x2) + (0 : Int32))) ?_
   refine oLaload C Al (own_n0 p4) (k := (0 * x4)) (own_k0 p4) (v := .long 0) (own_v0 p4) d28_63 rfl ?_
   refine oIload C d28_64 rfl rfl ?_
   refine oLshl C d28_66 rfl ?_
   refine oCastL (z' := (0 : Int64)) (by decide) ?_
   refine oLstore C d28_67 (Ls' := #[.val (.ref b1), .val (.int 2), .val (.int 1), .val (.int 1), .val (.int ((1 : Int32) * x2)), .val (.int ((0 : Int32) * x2)), .val (.int 0), .val (.int 1), .val (.int 0), .val (.long 0), .second]) rfl (q := 69) rfl ?_
   refine oIload C d28_69 rfl rfl ?_
   refine oIf_eq C d28_71 (q := 107) (by decide) (by decide) (r := 74) rfl (fun hq => absurd hq ((by decide))) (fun hc71 => ?_)
   refine oIload C d28_74 rfl rfl ?_
   refine oIload C d28_76 rfl rfl ?_
   refine oIcmp_le C d28_78 (q := 107) (by decide) (by decide) (r := 81) rfl (fun hc78 => ?_) (fun hq => absurd hq ((by decide)))
   refine oAloadN C d28_107 rfl rfl rfl ?_
   refine oGetF C (w137 hw) Via.refl f2 d28_108 rfl ?_
   refine oIload C d28_111 rfl rfl ?_
   refine oIload C d28_113 rfl rfl ?_
   refine oIadd C d28_115 rfl ?_
   refine oDup2 C d28_116 rfl rfl rfl ?_
   refine oLaload C Al (own_n1 p4) (k := (1 * x4)) (own_k1 p4) (v := .long 0) (own_v1 p4) d28_117 rfl ?_
   refine oLload C d28_118 rfl rfl ?_
   refine oLor C d28_120 rfl ?_
   refine oCastL (z' := (0 : Int64)) (by decide) ?_
   refine oLastore C Al (own_n1 p4) (k := (1 * x4)) (own_k1 p4) (v := .long 0) (own_v1 p4) (v' := .long 0) rfl d28_121 rfl p6 fun h3 W3 A3 => ?_
   have A3l : oAr Z h3 b3 .long (oRl x4 (0 : Int64) (0 : Int64) (0 : Int64) (0 : Int64)) := by rw [← own_t1 p4]; exact A3
   refine oIinc C d28_122 rfl (z := (-1)) rfl (w := (-1 : Int32)) (by decide) (Ls' := #[.val (.ref b1), .val (.int 2), .val (.int 1), .val (.int 1), .val (.int ((1 : Int32) * x2)), .val (.int ((0 : Int32) * x2)), .val (.int 0), .val (.int 1), .val (.int (-1)), .val (.long 0), .second]) rfl rfl ?_
   refine oGoto C d28_125 (q := 44) (by decide) (by decide) ?_
   refine oIload C d28_44 rfl rfl ?_
   refine oIload C d28_46 rfl rfl ?_
   refine oIcmp_lt C d28_48 (q := 128) (by decide) (by decide) (r := 51) rfl (fun hc48_1 => ?_) (fun hq => absurd hq ((by decide)))
   refine oIloadN C d28_128 rfl rfl ?_
   refine oIconst C d28_129 (z := 1) rfl rfl ?_
   refine oIsub C d28_130 rfl ?_
   refine oCastI (z' := (0 : Int32)) (by decide) ?_
   refine oIstore C d28_131 (Ls' := #[.val (.ref b1), .val (.int 2), .val (.int 1), .val (.int 1), .val (.int ((1 : Int32) * x2)), .val (.int ((0 : Int32) * x2)), .val (.int 0), .val (.int 1), .val (.int 0), .val (.long 0), .second]) rfl (q := 133) rfl ?_
   refine oAloadN C d28_133 rfl rfl rfl ?_
   have f4 := (Fld.other W3 f2 (Or.inl p5))
   refine oGetF C (w137 hw) Via.refl f4 d28_134 rfl ?_
   refine oIload C d28_137 rfl rfl ?_
   refine oIload C d28_139 rfl rfl ?_
   refine oBipush C d28_141 (z := 6) rfl rfl ?_
   refine oIushr C d28_143 rfl ?_
   refine oCastI (z' := (0 : Int32)) (by decide) ?_
   refine oIadd C d28_144 rfl ?_
   refine oDup2 C d28_145 rfl rfl rfl ?_
   refine oLaload C A3l (own_n1 p4) (k := (1 * x4)) (own_k1 p4) (v := .long 0) (own_v1 p4) d28_146 rfl ?_
   refine oLconst C d28_147 (z := 1) rfl rfl ?_
   refine oIload C d28_148 rfl rfl ?_
   refine oLshl C d28_150 rfl ?_
   refine oCastL (z' := (1 : Int64)) (by decide) ?_
   refine oLor C d28_151 rfl ?_
   refine oCastL (z' := (1 : Int64)) (by decide) ?_
   refine oLastore C A3l (own_n1 p4) (k := (1 * x4)) (own_k1 p4) (v := .long 0) (own_v1 p4) (v' := .long 1) rfl d28_152 rfl p6 fun h5 W5 A5 => ?_
   have A5l : oAr Z h5 b3 .long (oRl x4 (0 : Int64) (1 : Int64) (0 : Int64) (0 : Int64)) := by rw [← own_t1 p4]; exact A5
   refine oRetV C d28_153 (by decide) (by decide) ?_
   exact ⟨rfl, ((((oKe.refl h0 [b3] []).trans Kl (allS (Or.inl (List.mem_of_getElem? (i := 0) rfl)) all0) oA0).wrA W3 (Or.inl (List.mem_of_getElem? (i := 0) rfl))).wrA W5 (Or.inl (List.mem_of_getElem? (i := 0) rfl))), A5l⟩
  ·
   obtain rfl : x = 0 := nx.2
   show oW _ _ _ _ _ _ _ _ _ _ _ _ _ _ _ (mkF m 44 #[.val (.ref b1), .val (.int 2), .val (.int 1), .val (.int 1), .val (.int ((1 : Int32) * x2)), .val (.int ((0 : Int32) * x2)), .val (.int 0), .val (.int 1), .val (.int 0), .val (.long 0), .second] [])
   refine oIload C d28_44 rfl rfl ?_
   refine oIload C d28_46 rfl rfl ?_
   refine oIcmp_lt C d28_48 (q := 128) (by decide) (by decide) (r := 51) rfl (fun hq => absurd hq ((by decide))) (fun hc48 => ?_)
   refine oAloadN C d28_51 rfl rfl rfl ?_
   have f6 := (Kl.fld p2 (ninS p5 nin0) oN0)
   refine oGetF C (w137 hw) Via.refl f6 d28_52 rfl ?_
   refine oIload C d28_55 rfl rfl ?_
   refine oIload C d28_57 rfl rfl ?_
   refine oIadd C d28_59 rfl ?_
   refine oIload C d28_60 rfl rfl ?_
   refine oIsub C d28_62 rfl ?_
   refine oCastI (z' := (((0 : Int32) * x2) + (0 : Int32))) (own_s0 (((0 : Int32) * x2) + (0 : Int32))) ?_
   refine oLaload C Al (own_n0 p4) (k := (0 * x4)) (own_k0 p4) (v := .long 0) (own_v0 p4) d28_63 rfl ?_
   refine oIload C d28_64 rfl rfl ?_
   refine oLshl C d28_66 rfl ?_
   refine oCastL (z' := (0 : Int64)) (by decide) ?_
   refine oLstore C d28_67 (Ls' := #[.val (.ref b1), .val (.int 2), .val (.int 1), .val (.int 1), .val (.int ((1 : Int32) * x2)), .val (.int ((0 : Int32) * x2)), .val (.int 0), .val (.int 1), .val (.int 0), .val (.long 0), .second]) rfl (q := 69) rfl ?_
   refine oIload C d28_69 rfl rfl ?_
   refine oIf_eq C d28_71 (q := 107) (by decide) (by decide) (r := 74) rfl (fun hq => absurd hq ((by decide))) (fun hc71 => ?_)
   refine oIload C d28_74 rfl rfl ?_
   refine oIload C d28_76 rfl rfl ?_
   refine oIcmp_le C d28_78 (q := 107) (by decide) (by decide) (r := 81) rfl (fun hc78 => ?_) (fun hq => absurd hq ((by decide)))
   refine oAloadN C d28_107 rfl rfl rfl ?_
   refine oGetF C (w137 hw) Via.refl f6 d28_108 rfl ?_
   refine oIload C d28_111 rfl rfl ?_
   refine oIload C d28_113 rfl rfl ?_
   refine oIadd C d28_115 rfl ?_
   refine oDup2 C d28_116 rfl rfl rfl ?_
   refine oLaload C Al (own_n1 p4) (k := (1 * x4)) (own_k1 p4) (v := .long 0) (own_v1 p4) d28_117 rfl ?_
   refine oLload C d28_118 rfl rfl ?_
   refine oLor C d28_120 rfl ?_
   refine oCastL (z' := (0 : Int64)) (by decide) ?_
   refine oLastore C Al (own_n1 p4) (k := (1 * x4)) (own_k1 p4) (v := .long 0) (own_v1 p4) (v' := .long 0) rfl d28_121 rfl p6 fun h7 W7 A7 => ?_
   have A7l : oAr Z h7 b3 .long (oRl x4 (0 : Int64) (0 : Int64) (0 : Int64) (0 : Int64)) := by rw [← own_t1 p4]; exact A7
   refine oIinc C d28_122 rfl (z := (-1)) rfl (w := (-1 : Int32)) (by decide) (Ls' := #[.val (.ref b1), .val (.int 2), .val (.int 1), .val (.int 1), .val (.int ((1 : Int32) * x2)), .val (.int ((0 : Int32) * x2)), .val (.int 0), .val (.int 1), .val (.int (-1)), .val (.long 0), .second]) rfl rfl ?_
   refine oGoto C d28_125 (q := 44) (by decide) (by decide) ?_
   refine oIload C d28_44 rfl rfl ?_
   refine oIload C d28_46 rfl rfl ?_
   refine oIcmp_lt C d28_48 (q := 128) (by decide) (by decide) (r := 51) rfl (fun hc48_1 => ?_) (fun hq => absurd hq ((by decide)))
   refine oIloadN C d28_128 rfl rfl ?_
   refine oIconst C d28_129 (z := 1) rfl rfl ?_
   refine oIsub C d28_130 rfl ?_
   refine oCastI (z' := (0 : Int32)) (by decide) ?_
   refine oIstore C d28_131 (Ls' := #[.val (.ref b1), .val (.int 2), .val (.int 1), .val (.int 1), .val (.int ((1 : Int32) * x2)), .val (.int ((0 : Int32) * x2)), .val (.int 0), .val (.int 1), .val (.int 0), .val (.long 0), .second]) rfl (q := 133) rfl ?_
   refine oAloadN C d28_133 rfl rfl rfl ?_
   have f8 := (Fld.other W7 f6 (Or.inl p5))
   refine oGetF C (w137 hw) Via.refl f8 d28_134 rfl ?_
   refine oIload C d28_137 rfl rfl ?_
   refine oIload C d28_139 rfl rfl ?_
   refine oBipush C d28_141 (z := 6) rfl rfl ?_
   refine oIushr C d28_143 rfl ?_
   refine oCastI (z' := (0 : Int32)) (by decide) ?_
   refine oIadd C d28_144 rfl ?_
   refine oDup2 C d28_145 rfl rfl rfl ?_
   refine oLaload C A7l (own_n1 p4) (k := (1 * x4)) (own_k1 p4) (v := .long 0) (own_v1 p4) d28_146 rfl ?_
   refine oLconst C d28_147 (z := 1) rfl rfl ?_
   refine oIload C d28_148 rfl rfl ?_
   refine oLshl C d28_150 rfl ?_
   refine oCastL (z' := (1 : Int64)) (by decide) ?_
   refine oLor C d28_151 rfl ?_
   refine oCastL (z' := (1 : Int64)) (by decide) ?_
   refine oLastore C A7l (own_n1 p4) (k := (1 * x4)) (own_k1 p4) (v := .long 0) (own_v1 p4) (v' := .long 1) rfl d28_152 rfl p6 fun h9 W9 A9 => ?_
   have A9l : oAr Z h9 b3 .long (oRl x4 (0 : Int64) (1 : Int64) (0 : Int64) (0 : Int64)) := by rw [← own_t1 p4]; exact A9
   refine oRetV C d28_153 (by decide) (by decide) ?_
   exact ⟨rfl, ((((oKe.refl h0 [b3] []).trans Kl (allS (Or.inl (List.mem_of_getElem? (i := 0) rfl)) all0) oA0).wrA W7 (Or.inl (List.mem_of_getElem? (i := 0) rfl))).wrA W9 (Or.inl (List.mem_of_getElem? (i := 0) rfl))), A9l⟩
  ·
   show oW _ _ _ _ _ _ _ _ _ _ _ _ _ _ _ (mkF m 44 #[.val (.ref b1), .val (.int 2), .val (.int 1), .val (.int 1), .val (.int ((1 : Int32) * x2)), .val (.int ((0 : Int32) * x2)), .val (.int 0), .val (.int 1), .val (.int x), .unset, .unset] [])
   refine oIload C d28_44 rfl rfl ?_
   refine oIload C d28_46 rfl rfl ?_
   refine oIcmp_lt C d28_48 (q := 128) (by decide) (by decide) (r := 51) rfl (fun hq => absurd hq ((own_nl p4 nx))) (fun hc48 => ?_)
   refine oAloadN C d28_51 rfl rfl rfl ?_
   have f10 := (Kl.fld p2 (ninS p5 nin0) oN0)
   refine oGetF C (w137 hw) Via.refl f10 d28_52 rfl ?_
   refine oIload C d28_55 rfl rfl ?_
   refine oIload C d28_57 rfl rfl ?_
   refine oIadd C d28_59 rfl ?_
   refine oIload C d28_60 rfl rfl ?_
   refine oIsub C d28_62 rfl ?_
   refine oCastI (z' := (((0 : Int32) * x2) + x)) (own_s0 (((0 : Int32) * x2) + x)) ?_
   refine oLaload C Al (own_mn0 p4 nx) (k := (0 * x4 + (t + 1))) (own_mk0 p4 nx) (v := .long 0) (own_mv0 p4 nx) d28_63 rfl ?_
   refine oIload C d28_64 rfl rfl ?_
   refine oLshl C d28_66 rfl ?_
   refine oCastL (z' := (0 : Int64)) (by decide) ?_
   refine oLstore C d28_67 (Ls' := #[.val (.ref b1), .val (.int 2), .val (.int 1), .val (.int 1), .val (.int ((1 : Int32) * x2)), .val (.int ((0 : Int32) * x2)), .val (.int 0), .val (.int 1), .val (.int x), .val (.long 0), .second]) rfl (q := 69) rfl ?_
   refine oIload C d28_69 rfl rfl ?_
   refine oIf_eq C d28_71 (q := 107) (by decide) (by decide) (r := 74) rfl (fun hq => absurd hq ((by decide))) (fun hc71 => ?_)
   refine oIload C d28_74 rfl rfl ?_
   refine oIload C d28_76 rfl rfl ?_
   refine oIcmp_le C d28_78 (q := 107) (by decide) (by decide) (r := 81) rfl (fun hq => absurd hq ((not_not_intro (own_pl p4 nx)))) (fun hc78 => ?_)
   refine oLload C d28_81 rfl rfl ?_
   refine oAloadN C d28_83 rfl rfl rfl ?_
   refine oGetF C (w137 hw) Via.refl f10 d28_84 rfl ?_
   refine oIload C d28_87 rfl rfl ?_
   refine oIload C d28_89 rfl rfl ?_
   refine oIadd C d28_91 rfl ?_
   refine oIload C d28_92 rfl rfl ?_
   refine oIsub C d28_94 rfl ?_
   refine oCastI (z' := (((0 : Int32) * x2) + x)) (own_s0 (((0 : Int32) * x2) + x)) ?_
   refine oIconst C d28_95 (z := 1) rfl rfl ?_
   refine oIsub C d28_96 rfl ?_
   refine oLaload C Al (own_pn0 p4 nx) (k := (0 * x4 + t)) (own_pk0 p4 nx) (v := .long (oEl t (0 : Int64))) (own_pv0 p4 nx) d28_97 rfl ?_
   refine oBipush C d28_98 (z := 64) rfl rfl ?_
   refine oIload C d28_100 rfl rfl ?_
   refine oIsub C d28_102 rfl ?_
   refine oCastI (z' := (63 : Int32)) (by decide) ?_
   refine oLushr C d28_103 rfl ?_
   refine oCastL (z' := (0 : Int64)) (own_es (by decide) (by decide)) ?_
   refine oLor C d28_104 rfl ?_
   refine oCastL (z' := (0 : Int64)) (by decide) ?_
   refine oLstore C d28_105 (Ls' := #[.val (.ref b1), .val (.int 2), .val (.int 1), .val (.int 1), .val (.int ((1 : Int32) * x2)), .val (.int ((0 : Int32) * x2)), .val (.int 0), .val (.int 1), .val (.int x), .val (.long 0), .second]) rfl (q := 107) rfl ?_
   refine oAloadN C d28_107 rfl rfl rfl ?_
   refine oGetF C (w137 hw) Via.refl f10 d28_108 rfl ?_
   refine oIload C d28_111 rfl rfl ?_
   refine oIload C d28_113 rfl rfl ?_
   refine oIadd C d28_115 rfl ?_
   refine oDup2 C d28_116 rfl rfl rfl ?_
   refine oLaload C Al (own_mn1 p4 nx) (k := (1 * x4 + (t + 1))) (own_mk1 p4 nx) (v := .long 0) (own_mv1 p4 nx) d28_117 rfl ?_
   refine oLload C d28_118 rfl rfl ?_
   refine oLor C d28_120 rfl ?_
   refine oCastL (z' := (0 : Int64)) (by decide) ?_
   refine oLastore C Al (own_mn1 p4 nx) (k := (1 * x4 + (t + 1))) (own_mk1 p4 nx) (v := .long 0) (own_mv1 p4 nx) (v' := .long 0) rfl d28_121 rfl p6 fun h11 W11 A11 => ?_
   have A11l : oAr Z h11 b3 .long (oRl x4 (0 : Int64) (0 : Int64) (0 : Int64) (0 : Int64)) := by rw [← own_mt1 p4 nx]; exact A11
   refine oIinc C d28_122 rfl (z := (-1)) rfl (w := (x + (-1 : Int32))) rfl (Ls' := #[.val (.ref b1), .val (.int 2), .val (.int 1), .val (.int 1), .val (.int ((1 : Int32) * x2)), .val (.int ((0 : Int32) * x2)), .val (.int 0), .val (.int 1), .val (.int (x + (-1 : Int32))), .val (.long 0), .second]) rfl rfl ?_
   refine oGoto C d28_125 (q := 44) (by decide) (by decide) ?_
   exact ih t (Nat.lt_succ_self t) (h11, (x + (-1 : Int32)), true) ⟨(((oKe.refl h0 [b3] []).trans Kl (allS (Or.inl (List.mem_of_getElem? (i := 0) rfl)) all0) oA0).wrA W11 (Or.inl (List.mem_of_getElem? (i := 0) rfl))), A11l, own_nxs p4 nx⟩
  ·
   show oW _ _ _ _ _ _ _ _ _ _ _ _ _ _ _ (mkF m 44 #[.val (.ref b1), .val (.int 2), .val (.int 1), .val (.int 1), .val (.int ((1 : Int32) * x2)), .val (.int ((0 : Int32) * x2)), .val (.int 0), .val (.int 1), .val (.int x), .val (.long 0), .second] [])
   refine oIload C d28_44 rfl rfl ?_
   refine oIload C d28_46 rfl rfl ?_
   refine oIcmp_lt C d28_48 (q := 128) (by decide) (by decide) (r := 51) rfl (fun hq => absurd hq ((own_nl p4 nx))) (fun hc48 => ?_)
   refine oAloadN C d28_51 rfl rfl rfl ?_
   have f12 := (Kl.fld p2 (ninS p5 nin0) oN0)
   refine oGetF C (w137 hw) Via.refl f12 d28_52 rfl ?_
   refine oIload C d28_55 rfl rfl ?_
   refine oIload C d28_57 rfl rfl ?_
   refine oIadd C d28_59 rfl ?_
   refine oIload C d28_60 rfl rfl ?_
   refine oIsub C d28_62 rfl ?_
   refine oCastI (z' := (((0 : Int32) * x2) + x)) (own_s0 (((0 : Int32) * x2) + x)) ?_
   refine oLaload C Al (own_mn0 p4 nx) (k := (0 * x4 + (t + 1))) (own_mk0 p4 nx) (v := .long 0) (own_mv0 p4 nx) d28_63 rfl ?_
   refine oIload C d28_64 rfl rfl ?_
   refine oLshl C d28_66 rfl ?_
   refine oCastL (z' := (0 : Int64)) (by decide) ?_
   refine oLstore C d28_67 (Ls' := #[.val (.ref b1), .val (.int 2), .val (.int 1), .val (.int 1), .val (.int ((1 : Int32) * x2)), .val (.int ((0 : Int32) * x2)), .val (.int 0), .val (.int 1), .val (.int x), .val (.long 0), .second]) rfl (q := 69) rfl ?_
   refine oIload C d28_69 rfl rfl ?_
   refine oIf_eq C d28_71 (q := 107) (by decide) (by decide) (r := 74) rfl (fun hq => absurd hq ((by decide))) (fun hc71 => ?_)
   refine oIload C d28_74 rfl rfl ?_
   refine oIload C d28_76 rfl rfl ?_
   refine oIcmp_le C d28_78 (q := 107) (by decide) (by decide) (r := 81) rfl (fun hq => absurd hq ((not_not_intro (own_pl p4 nx)))) (fun hc78 => ?_)
   refine oLload C d28_81 rfl rfl ?_
   refine oAloadN C d28_83 rfl rfl rfl ?_
   refine oGetF C (w137 hw) Via.refl f12 d28_84 rfl ?_
   refine oIload C d28_87 rfl rfl ?_
   refine oIload C d28_89 rfl rfl ?_
   refine oIadd C d28_91 rfl ?_
   refine oIload C d28_92 rfl rfl ?_
   refine oIsub C d28_94 rfl ?_
   refine oCastI (z' := (((0 : Int32) * x2) + x)) (own_s0 (((0 : Int32) * x2) + x)) ?_
   refine oIconst C d28_95 (z := 1) rfl rfl ?_
   refine oIsub C d28_96 rfl ?_
   refine oLaload C Al (own_pn0 p4 nx) (k := (0 * x4 + t)) (own_pk0 p4 nx) (v := .long (oEl t (0 : Int64))) (own_pv0 p4 nx) d28_97 rfl ?_
   refine oBipush C d28_98 (z := 64) rfl rfl ?_
   refine oIload C d28_100 rfl rfl ?_
   refine oIsub C d28_102 rfl ?_
   refine oCastI (z' := (63 : Int32)) (by decide) ?_
   refine oLushr C d28_103 rfl ?_
   refine oCastL (z' := (0 : Int64)) (own_es (by decide) (by decide)) ?_
   refine oLor C d28_104 rfl ?_
   refine oCastL (z' := (0 : Int64)) (by decide) ?_
   refine oLstore C d28_105 (Ls' := #[.val (.ref b1), .val (.int 2), .val (.int 1), .val (.int 1), .val (.int ((1 : Int32) * x2)), .val (.int ((0 : Int32) * x2)), .val (.int 0), .val (.int 1), .val (.int x), .val (.long 0), .second]) rfl (q := 107) rfl ?_
   refine oAloadN C d28_107 rfl rfl rfl ?_
   refine oGetF C (w137 hw) Via.refl f12 d28_108 rfl ?_
   refine oIload C d28_111 rfl rfl ?_
   refine oIload C d28_113 rfl rfl ?_
   refine oIadd C d28_115 rfl ?_
   refine oDup2 C d28_116 rfl rfl rfl ?_
   refine oLaload C Al (own_mn1 p4 nx) (k := (1 * x4 + (t + 1))) (own_mk1 p4 nx) (v := .long 0) (own_mv1 p4 nx) d28_117 rfl ?_
   refine oLload C d28_118 rfl rfl ?_
   refine oLor C d28_120 rfl ?_
   refine oCastL (z' := (0 : Int64)) (by decide) ?_
   refine oLastore C Al (own_mn1 p4 nx) (k := (1 * x4 + (t + 1))) (own_mk1 p4 nx) (v := .long 0) (own_mv1 p4 nx) (v' := .long 0) rfl d28_121 rfl p6 fun h13 W13 A13 => ?_
   have A13l : oAr Z h13 b3 .long (oRl x4 (0 : Int64) (0 : Int64) (0 : Int64) (0 : Int64)) := by rw [← own_mt1 p4 nx]; exact A13
   refine oIinc C d28_122 rfl (z := (-1)) rfl (w := (x + (-1 : Int32))) rfl (Ls' := #[.val (.ref b1), .val (.int 2), .val (.int 1), .val (.int 1), .val (.int ((1 : Int32) * x2)), .val (.int ((0 : Int32) * x2)), .val (.int 0), .val (.int 1), .val (.int (x + (-1 : Int32))), .val (.long 0), .second]) rfl rfl ?_
   refine oGoto C d28_125 (q := 44) (by decide) (by decide) ?_
   exact ih t (Nat.lt_succ_self t) (h13, (x + (-1 : Int32)), true) ⟨(((oKe.refl h0 [b3] []).trans Kl (allS (Or.inl (List.mem_of_getElem? (i := 0) rfl)) all0) oA0).wrA W13 (Or.inl (List.mem_of_getElem? (i := 0) rfl))), A13l, own_nxs p4 nx⟩
theorem d14_128 : decode prog_13_method_1_code 128 = .ok (.aload_n 0, 1) := by decide +kernel
theorem d14_129 : decode prog_13_method_1_code 129 = .ok (.iload 5, 2) := by decide +kernel
theorem d14_131 : decode prog_13_method_1_code 131 = .ok (.iload 5, 2) := by decide +kernel
theorem d14_133 : decode prog_13_method_1_code 133 = .ok (.iload 7, 2) := by decide +kernel
theorem d14_135 : decode prog_13_method_1_code 135 = .ok (.isub, 1) := by decide +kernel
theorem d14_136 : decode prog_13_method_1_code 136 = .ok (.invokevirtual 53, 3) := by decide +kernel
theorem d14_139 : decode prog_13_method_1_code 139 = .ok (.ifCond .ne 38, 3) := by decide +kernel
theorem d14_142 : decode prog_13_method_1_code 142 = .ok (.aload 6, 2) := by decide +kernel
theorem d14_144 : decode prog_13_method_1_code 144 = .ok (.aload_n 1, 1) := by decide +kernel
theorem d14_145 : decode prog_13_method_1_code 145 = .ok (.iload 5, 2) := by decide +kernel
theorem d14_147 : decode prog_13_method_1_code 147 = .ok (.iload 7, 2) := by decide +kernel
theorem d14_149 : decode prog_13_method_1_code 149 = .ok (.isub, 1) := by decide +kernel
theorem d14_150 : decode prog_13_method_1_code 150 = .ok (.iconst 1, 1) := by decide +kernel
theorem d14_151 : decode prog_13_method_1_code 151 = .ok (.isub, 1) := by decide +kernel
theorem d14_152 : decode prog_13_method_1_code 152 = .ok (.invokeinterface 41 2, 5) := by decide +kernel
theorem d14_157 : decode prog_13_method_1_code 157 = .ok (.checkcast 45, 3) := by decide +kernel
theorem d14_160 : decode prog_13_method_1_code 160 = .ok (.invokevirtual 57, 3) := by decide +kernel
theorem d14_163 : decode prog_13_method_1_code 163 = .ok (.ifCond .eq 14, 3) := by decide +kernel
theorem d14_166 : decode prog_13_method_1_code 166 = .ok (.aload_n 0, 1) := by decide +kernel
theorem d14_167 : decode prog_13_method_1_code 167 = .ok (.iload 5, 2) := by decide +kernel
theorem d14_169 : decode prog_13_method_1_code 169 = .ok (.iload 5, 2) := by decide +kernel
theorem d14_171 : decode prog_13_method_1_code 171 = .ok (.iload 7, 2) := by decide +kernel
theorem d14_173 : decode prog_13_method_1_code 173 = .ok (.isub, 1) := by decide +kernel
theorem d14_174 : decode prog_13_method_1_code 174 = .ok (.invokevirtual 61, 3) := by decide +kernel
theorem d14_177 : decode prog_13_method_1_code 177 = .ok (.iinc 7 1, 3) := by decide +kernel
theorem d14_180 : decode prog_13_method_1_code 180 = .ok (.goto (-68), 3) := by decide +kernel
set_option maxRecDepth 65536 in
set_option maxHeartbeats 40000000 in
theorem ac14_56 (l : Launch) (Z : State) (a0 : Array Value) (hw : oHw a0 Z) (h0 : Heap) (n0 : Nat) (Z0 : n0 ≤ h0.size) (b1 : Addr) (b2 : Addr) (x3 : Int32) (x4 : Int32) (x5 : Nat) (b6 : Addr) (b7 : Addr) (b8 : Addr) (b9 : Addr) (b10 : Addr) (b11 : Addr) (y12 : Int64) (b13 : Addr) (y14 : Int64) (b15 : Addr) (y16 : Int64) (b17 : Addr) (p1 : Exa Z h0 b1 sP) (p2 : Fld Z h0 b1 sP "span" "I" (.int 0)) (p3 : n0 ≤ b1) (p4 : ((((x3 - (1 : Int32)) + (64 : Int32)) - (1 : Int32)) / (64 : Int32)) = x4) (p5 : Fld Z h0 b1 sP "words" "I" (.int 0)) (p6 : Exa Z h0 b2 sA) (p7 : Fld Z h0 b2 sA "size" "I" (.int 4)) (p8 : b2 ≠ b1) (p9 : oKw x5 x4) (p10 : Fld Z h0 b1 sP "bits" "[J" (.null)) (p11 : Fld Z h0 b2 sA "elementData" sG (.ref b6)) (p12 : oArO Z h0 b6 sO [.ref b7, .ref b8, .ref b9, .ref b10, .null, .null, .null, .null, .null, .null]) (p13 : b6 ≠ b1) (p14 : Exa Z h0 b8 sF) (p15 : (fMin (x3 - (1 : Int32)) (1 : Int32)) = (1 : Int32)) (p16 : Fld Z h0 b8 sF "requestClass" sK (.ref b11)) (p17 : b8 ≠ b1) (p18 : Fld Z h0 b11 sR "conflicts" "J" (.long y12)) (p19 : b11 ≠ b1) (p20 : Exa Z h0 b9 sF) (p21 : (fMin (x3 - (1 : Int32)) (2 : Int32)) = (1 : Int32)) (p22 : Fld Z h0 b9 sF "requestClass" sK (.ref b13)) (p23 : b9 ≠ b1) (p24 : Fld Z h0 b13 sR "conflicts" "J" (.long y14)) (p25 : b13 ≠ b1) (p26 : Exa Z h0 b10 sF) (p27 : (fMin (x3 - (1 : Int32)) (3 : Int32)) = (1 : Int32)) (p28 : Fld Z h0 b10 sF "requestClass" sK (.ref b15)) (p29 : b10 ≠ b1) (p30 : Fld Z h0 b15 sR "conflicts" "J" (.long y16)) (p31 : b15 ≠ b1) (p32 : Fld Z h0 b13 sR "declaration" sJ (.null)) (p33 : Fld Z h0 b15 sR "declaration" sJ (.null)) (p34 : Exa Z h0 b15 sR) (p35 : Fld Z h0 b10 sF "firstKey" "J" (.long (-9223372036854775808))) (p36 : Fld Z h0 b10 sF "lastKey" "J" (.long 9223372036854775807)) (p37 : Fld Z h0 b13 sR "bit" "J" (.long 4)) (p38 : Exa Z h0 b13 sR) (p39 : Fld Z h0 b9 sF "firstKey" "J" (.long (-9223372036854775808))) (p40 : Fld Z h0 b9 sF "lastKey" "J" (.long 9223372036854775807)) (p41 : Fld Z h0 b11 sR "declaration" sJ (.null)) (p42 : Fld Z h0 b11 sR "bit" "J" (.long 2)) (p43 : Exa Z h0 b11 sR) (p44 : Fld Z h0 b8 sF "firstKey" "J" (.long (-9223372036854775808))) (p45 : Fld Z h0 b8 sF "lastKey" "J" (.long 9223372036854775807)) (p46 : Exa Z h0 b7 sF) (p47 : Fld Z h0 b7 sF "requestClass" sK (.ref b17)) (p48 : Fld Z h0 b17 sR "declaration" sJ (.null)) (p49 : Fld Z h0 b17 sR "bit" "J" (.long 1)) (p50 : Exa Z h0 b17 sR) (p51 : Fld Z h0 b7 sF "firstKey" "J" (.long (-9223372036854775808))) (p52 : Fld Z h0 b7 sF "lastKey" "J" (.long 9223372036854775807)) (p53 : b7 ≠ b1) (p54 : b17 ≠ b1) :
    oMet l Z (⟨sP, "<init>", "(Ljava/util/List;I)V"⟩ : MethodName) prog_13_method_1_code 8 none [] ({ frames := 3, cells := 1, slots := 16, locals := 55 } : Room) 1 16 n0 #[.ref b1, .ref b2, .int x3] h0 (fun v h => ∃ a9 : Addr, v = none ∧ oKe h0 h [] [(b1, Jvm.RoadKit.slotOf Z sP "span" "I"), (b1, Jvm.RoadKit.slotOf Z sP "words" "I"), (b1, Jvm.RoadKit.slotOf Z sP "bits" "[J")] ∧ h0.size ≤ a9 ∧ Fld Z h b1 sP "span" "I" (.int (x3 - (1 : Int32))) ∧ Fld Z h b1 sP "words" "I" (.int x4) ∧ oAr Z h a9 .long (oRl x5 (0 : Int64) (oUp0 (1 : Int64) (0 : Int64) y12 (1 : Int64)) (oUp (1 : Int64) ((1 : Int32) &&& 0x3f).toInt64 (0 : Int64) (oUp0 (1 : Int64) (0 : Int64) y12 (1 : Int64)) y14 (2 : Int64)) (oUp (1 : Int64) ((1 : Int32) &&& 0x3f).toInt64 (0 : Int64) (oUp (1 : Int64) ((1 : Int32) &&& 0x3f).toInt64 (0 : Int64) (oUp0 (1 : Int64) (0 : Int64) y12 (1 : Int64)) y14 (2 : Int64)) y16 (4 : Int64))) ∧ Fld Z h b1 sP "bits" "[J" (.ref a9)) := by
  refine oMet.intro (plainFor_of_name pn_399007) (fun m => ef_14 m b1 b2 x3) ?_
  intro op oe os m obl omt ocd C
  refine oAloadN C d14_0 rfl rfl rfl ?_
  refine oInitO C (w122 hw) (w22 hw) (w23 hw) d14_1 rfl (W := 0) rfl rfl (by decide) (by decide) ?_
  refine oAloadN C d14_4 rfl rfl rfl ?_
  refine oIloadN C d14_5 rfl rfl ?_
  refine oIconst C d14_6 (z := 1) rfl rfl ?_
  refine oIsub C d14_7 rfl ?_
  refine oPutF C (w123 hw) Via.refl p2 p1 (Or.inr ⟨(w124 hw), rfl, rfl⟩) (w117 hw) (ty := .int) (by decide) rfl rfl d14_8 rfl p3 fun h1 W1 => ?_
  have f1w := Fld.same W1 p2
  refine oAloadN C d14_11 rfl rfl rfl ?_
  refine oAloadN C d14_12 rfl rfl rfl ?_
  refine oGetF C (w123 hw) Via.refl f1w d14_13 rfl ?_
  refine oBipush C d14_16 (z := 64) rfl rfl ?_
  refine oIadd C d14_18 rfl ?_
  refine oIconst C d14_19 (z := 1) rfl rfl ?_
  refine oIsub C d14_20 rfl ?_
  refine oBipush C d14_21 (z := 64) rfl rfl ?_
  refine oIdiv C d14_23 (by decide) rfl ?_
  refine oCastI (z' := x4) p4 ?_
  have f2 := (Exa.wr W1 p1)
  have f3 := (Fld.other W1 p5 (Or.inr (oSn3 hw 1 0)))
  refine oPutF C (w125 hw) Via.refl f3 f2 (Or.inr ⟨(w126 hw), rfl, rfl⟩) (w117 hw) (ty := .int) (by decide) rfl rfl d14_24 rfl p3 fun h4 W4 => ?_
  have f4w := Fld.same W4 f3
  refine oAloadN C d14_27 rfl rfl rfl ?_
  have f5 := (Exa.wr W4 (Exa.wr W1 p6))
  have f6 := (Fld.other W4 (Fld.other W1 p7 (Or.inl p8)) (Or.inl p8))
  have z8 := (Nat.le_trans (Nat.le_trans Z0 (Nat.le_of_eq W1.size.symm)) (Nat.le_of_eq W4.size.symm))
  refine oCallI C (w127 hw) (w128 hw) (w129 hw) (w130 hw) (w131 hw) (w132 hw) (w133 hw) (w88 hw) (w54 hw) (w134 hw) d14_28 f5 (by decide) pd_428473 rfl rfl (a := b2) (argsL := []) (rest := []) rfl (W := 0) rfl (q := 33) rfl (by decide) (by decide) (by decide) (by decide) (ac15_20 l Z a0 hw _ n0 z8 b2 f6) (oPureK ?_)
  refine oI2L C d14_33 rfl ?_
  refine oCastL (z' := (4 : Int64)) (by decide) ?_
  refine oAloadN C d14_34 rfl rfl rfl ?_
  refine oGetF C (w125 hw) Via.refl f4w d14_35 rfl ?_
  refine oI2L C d14_38 rfl ?_
  refine oLmul C d14_39 rfl ?_
  refine oLstoreN C d14_40 (Ls' := #[.val (.ref b1), .val (.ref b2), .val (.int x3), .val (.long ((4 : Int64) * (x4.toInt64))), .second, .unset, .unset, .unset]) rfl (q := 41) rfl ?_
  refine oLloadN C d14_41 rfl rfl ?_
  refine oLdc2 C (w135 hw) d14_42 rfl ?_
  refine oLcmp_le C d14_45 rfl d14_46 (q := 72) (by decide) (by decide) (r := 49) rfl (fun hc45 => ?_) (fun hq => absurd hq ((own_a0 p9)))
  refine oAloadN C d14_72 rfl rfl rfl ?_
  refine oLloadN C d14_73 rfl rfl ?_
  refine oL2I C d14_74 rfl ?_
  have hk4 := own_a3 p9
  refine oNewA C (w136 hw) rfl d14_75 rfl (own_a1 p9) (k := 4 * x5) (own_a2 p9) (by omega) (by decide) (cap := 16) (own_a3 p9) (by decide) (by decide) fun a9 h9 g_a9 E9 A9 => ?_
  have ge_a9 : n0 ≤ a9 := g_a9 ▸ z8
  have Arl : oAr Z h9 a9 .long (oRl x5 (0 : Int64) (0 : Int64) (0 : Int64) (0 : Int64)) := by rw [← own_a5 p9]; exact A9
  have f10 := (Exa.ext E9 (Exa.wr W4 f2))
  have f11 := (Fld.ext E9 (Fld.other W4 (Fld.other W1 p10 (Or.inr (oSn3 hw 2 0))) (Or.inr (oSn3 hw 2 1))))
  refine oPutF C (w137 hw) Via.refl f11 f10 (Or.inr ⟨(w138 hw), rfl, rfl⟩) (w117 hw) (ty := (.array .long)) (by decide) rfl rfl d14_77 rfl p3 fun h12 W12 => ?_
  have f12w := Fld.same W12 f11
  refine oIconst C d14_80 (z := 2) rfl rfl ?_
  refine oIstore C d14_81 (Ls' := #[.val (.ref b1), .val (.ref b2), .val (.int x3), .val (.long ((4 : Int64) * (x4.toInt64))), .second, .val (.int 2), .unset, .unset]) rfl (q := 83) rfl ?_
  refine oIload C d14_83 rfl rfl ?_
  refine oAloadN C d14_85 rfl rfl rfl ?_
  have f13 := (Exa.wr W12 (Exa.ext E9 f5))
  have f14 := (Fld.other W12 (Fld.ext E9 f6) (Or.inl p8))
  have z16 := (Nat.le_trans (Nat.le_trans z8 E9.1) (Nat.le_of_eq W12.size.symm))
  refine oCallI C (w127 hw) (w128 hw) (w129 hw) (w130 hw) (w131 hw) (w132 hw) (w133 hw) (w88 hw) (w54 hw) (w134 hw) d14_86 f13 (by decide) pd_428473 rfl rfl (a := b2) (argsL := []) (rest := [.int 2]) rfl (W := 1) rfl (q := 91) rfl (by decide) (by decide) (by decide) (by decide) (ac15_20 l Z a0 hw _ n0 z16 b2 f14) (oPureK ?_)
  refine oIcmp_gt C d14_91 (q := 189) (by decide) (by decide) (r := 94) rfl (fun hq => absurd hq ((by decide))) (fun hc91 => ?_)
  refine oAloadN C d14_94 rfl rfl rfl ?_
  refine oIload C d14_95 rfl rfl ?_
  refine oIconst C d14_97 (z := 1) rfl rfl ?_
  refine oIsub C d14_98 rfl ?_
  refine oCastI (z' := (1 : Int32)) (by decide) ?_
  have f17 := (Fld.other W12 (Fld.ext E9 (Fld.other W4 (Fld.other W1 p11 (Or.inl p8)) (Or.inl p8))) (Or.inl p8))
  have f18 := ((((p12.other W1 p13).other W4 p13).ext E9).other W12 p13)
  refine oCallI C (w139 hw) (w140 hw) (w141 hw) (w142 hw) (w143 hw) (w144 hw) (w145 hw) (w88 hw) (w54 hw) (w146 hw) d14_99 f13 (by decide) pd_666516 rfl rfl (a := b2) (argsL := [.int 1]) (rest := []) rfl (W := 0) rfl (q := 104) rfl (by decide) (by decide) (by decide) (by decide) (ac16_24 l Z a0 hw _ n0 z16 b2 b6 b7 b8 b9 b10 f14 f17 f18 f13) (oPureK ?_)
  have f20 := (Exa.wr W12 (Exa.ext E9 (Exa.wr W4 (Exa.wr W1 p14))))
  refine oCast C (w160 hw) (Ins.self f20) d14_104 rfl ?_
  refine oAstore C d14_107 rfl (Ls' := #[.val (.ref b1), .val (.ref b2), .val (.int x3), .val (.long ((4 : Int64) * (x4.toInt64))), .second, .val (.int 2), .val (.ref b8), .unset]) rfl (q := 109) rfl ?_
  refine oIconst C d14_109 (z := 1) rfl rfl ?_
  refine oIstore C d14_110 (Ls' := #[.val (.ref b1), .val (.ref b2), .val (.int x3), .val (.long ((4 : Int64) * (x4.toInt64))), .second, .val (.int 2), .val (.ref b8), .val (.int 1)]) rfl (q := 112) rfl ?_
  refine oIload C d14_112 rfl rfl ?_
  refine oAloadN C d14_114 rfl rfl rfl ?_
  have f21 := (Fld.other W12 (Fld.ext E9 (Fld.other W4 f1w (Or.inr (oSn3 hw 0 1)))) (Or.inr (oSn3 hw 0 2)))
  refine oGetF C (w123 hw) Via.refl f21 d14_115 rfl ?_
  refine oIload C d14_118 rfl rfl ?_
  refine oIconst C d14_120 (z := 1) rfl rfl ?_
  refine oIsub C d14_121 rfl ?_
  refine oCastI (z' := (1 : Int32)) (by decide) ?_
  refine oCallS C (w162 hw) (w163 hw) (w111 hw) (w164 hw) d14_122 (by decide) pd_947237 rfl rfl (argsL := [.int (x3 - (1 : Int32)), .int 1]) (rest := [.int 1]) rfl (W := 1) rfl (q := 125) rfl (by decide) (by decide) (by decide) (by decide) (mt_fMin l Z a0 hw _ n0 z16 (x3 - (1 : Int32)) (1 : Int32) ) (oPureK ?_)
  refine oCastI (z' := (1 : Int32)) p15 ?_
  refine oIcmp_gt C d14_125 (q := 183) (by decide) (by decide) (r := 128) rfl (fun hq => absurd hq ((by decide))) (fun hc125 => ?_)
  have f23 := (Fld.other W12 (Fld.ext E9 (Fld.other W4 (Fld.other W1 p16 (Or.inl p17)) (Or.inl p17))) (Or.inl p17))
  have f24 := (Fld.other W12 (Fld.ext E9 (Fld.other W4 (Fld.other W1 p18 (Or.inl p19)) (Or.inl p19))) (Or.inl p19))
  refine oJoin (α := Heap) (fun w => oKe h12 w [a9] [] ∧ oAr Z w a9 .long (oRl x5 (0 : Int64) (oUp0 (1 : Int64) (0 : Int64) y12 (1 : Int64)) (0 : Int64) (0 : Int64))) (fun w => w) (fun _ => (mkF m 177 #[.val (.ref b1), .val (.ref b2), .val (.int x3), .val (.long ((4 : Int64) * (x4.toInt64))), .second, .val (.int 2), .val (.ref b8), .val (.int 1)] [])) (k := 1) (n := 16) (fun hj25 PJ => ?_) (fun J177 => ?_)
  ·
   obtain ⟨Kj25, Aj25⟩ := PJ
   show oW _ _ _ _ _ _ _ _ _ _ _ _ _ _ _ (mkF m 177 #[.val (.ref b1), .val (.ref b2), .val (.int x3), .val (.long ((4 : Int64) * (x4.toInt64))), .second, .val (.int 2), .val (.ref b8), .val (.int 1)] [])
   refine oIinc C d14_177 rfl (z := 1) rfl (w := (2 : Int32)) (by decide) (Ls' := #[.val (.ref b1), .val (.ref b2), .val (.int x3), .val (.long ((4 : Int64) * (x4.toInt64))), .second, .val (.int 2), .val (.ref b8), .val (.int 2)]) rfl rfl ?_
   refine oGoto C d14_180 (q := 112) (by decide) (by decide) ?_
   refine oIload C d14_112 rfl rfl ?_
   refine oAloadN C d14_114 rfl rfl rfl ?_
   have ne26 : b1 ≠ a9 := oNe' f4w.lt (Nat.le_of_eq g_a9.symm)
   have f27 := (Kj25.fld f21 (ninS ne26 nin0) oN0)
   refine oGetF C (w123 hw) Via.refl f27 d14_115 rfl ?_
   refine oIload C d14_118 rfl rfl ?_
   refine oIconst C d14_120 (z := 1) rfl rfl ?_
   refine oIsub C d14_121 rfl ?_
   refine oCastI (z' := (1 : Int32)) (by decide) ?_
   have z28 := (Nat.le_trans z16 Kj25.1)
   refine oCallS C (w162 hw) (w163 hw) (w111 hw) (w164 hw) d14_122 (by decide) pd_947237 rfl rfl (argsL := [.int (x3 - (1 : Int32)), .int 1]) (rest := [.int 2]) rfl (W := 1) rfl (q := 125) rfl (by decide) (by decide) (by decide) (by decide) (mt_fMin l Z a0 hw _ n0 z28 (x3 - (1 : Int32)) (1 : Int32) ) (oPureK ?_)
   refine oCastI (z' := (1 : Int32)) p15 ?_
   refine oIcmp_gt C d14_125 (q := 183) (by decide) (by decide) (r := 128) rfl (fun hc125_1 => ?_) (fun hq => absurd hq ((by decide)))
   refine oIinc C d14_183 rfl (z := 1) rfl (w := (3 : Int32)) (by decide) (Ls' := #[.val (.ref b1), .val (.ref b2), .val (.int x3), .val (.long ((4 : Int64) * (x4.toInt64))), .second, .val (.int 3), .val (.ref b8), .val (.int 2)]) rfl rfl ?_
   refine oGoto C d14_186 (q := 83) (by decide) (by decide) ?_
   refine oIload C d14_83 rfl rfl ?_
   refine oAloadN C d14_85 rfl rfl rfl ?_
   have f30 := (Kj25.exa f13)
   have ne31 : b2 ≠ a9 := oNe' (Nat.lt_of_lt_of_le p6.lt (Nat.le_trans (Nat.le_of_eq W1.size.symm) (Nat.le_of_eq W4.size.symm))) (Nat.le_of_eq g_a9.symm)
   have f32 := (Kj25.fld f14 (ninS ne31 nin0) oN0)
   refine oCallI C (w127 hw) (w128 hw) (w129 hw) (w130 hw) (w131 hw) (w132 hw) (w133 hw) (w88 hw) (w54 hw) (w134 hw) d14_86 f30 (by decide) pd_428473 rfl rfl (a := b2) (argsL := []) (rest := [.int 3]) rfl (W := 1) rfl (q := 91) rfl (by decide) (by decide) (by decide) (by decide) (ac15_20 l Z a0 hw _ n0 z28 b2 f32) (oPureK ?_)
   refine oIcmp_gt C d14_91 (q := 189) (by decide) (by decide) (r := 94) rfl (fun hq => absurd hq ((by decide))) (fun hc91_1 => ?_)
   refine oAloadN C d14_94 rfl rfl rfl ?_
   refine oIload C d14_95 rfl rfl ?_
   refine oIconst C d14_97 (z := 1) rfl rfl ?_
   refine oIsub C d14_98 rfl ?_
   refine oCastI (z' := (2 : Int32)) (by decide) ?_
   have f34 := (Kj25.fld f17 (ninS ne31 nin0) oN0)
   have ne35 : b6 ≠ a9 := oNe' (Nat.lt_of_lt_of_le p12.lt (Nat.le_trans (Nat.le_of_eq W1.size.symm) (Nat.le_of_eq W4.size.symm))) (Nat.le_of_eq g_a9.symm)
   have f36 := (Kj25.arrO f18 (ninS ne35 nin0) oA0)
   refine oCallI C (w139 hw) (w140 hw) (w141 hw) (w142 hw) (w143 hw) (w144 hw) (w145 hw) (w88 hw) (w54 hw) (w146 hw) d14_99 f30 (by decide) pd_666516 rfl rfl (a := b2) (argsL := [.int 2]) (rest := []) rfl (W := 0) rfl (q := 104) rfl (by decide) (by decide) (by decide) (by decide) (ac16_28 l Z a0 hw _ n0 z28 b2 b6 b7 b8 b9 b10 f32 f34 f36 f30) (oPureK ?_)
   have f38 := (Kj25.exa (Exa.wr W12 (Exa.ext E9 (Exa.wr W4 (Exa.wr W1 p20)))))
   refine oCast C (w160 hw) (Ins.self f38) d14_104 rfl ?_
   refine oAstore C d14_107 rfl (Ls' := #[.val (.ref b1), .val (.ref b2), .val (.int x3), .val (.long ((4 : Int64) * (x4.toInt64))), .second, .val (.int 3), .val (.ref b9), .val (.int 2)]) rfl (q := 109) rfl ?_
   refine oIconst C d14_109 (z := 1) rfl rfl ?_
   refine oIstore C d14_110 (Ls' := #[.val (.ref b1), .val (.ref b2), .val (.int x3), .val (.long ((4 : Int64) * (x4.toInt64))), .second, .val (.int 3), .val (.ref b9), .val (.int 1)]) rfl (q := 112) rfl ?_
   refine oIload C d14_112 rfl rfl ?_
   refine oAloadN C d14_114 rfl rfl rfl ?_
   refine oGetF C (w123 hw) Via.refl f27 d14_115 rfl ?_
   refine oIload C d14_118 rfl rfl ?_
   refine oIconst C d14_120 (z := 1) rfl rfl ?_
   refine oIsub C d14_121 rfl ?_
   refine oCastI (z' := (2 : Int32)) (by decide) ?_
   refine oCallS C (w162 hw) (w163 hw) (w111 hw) (w164 hw) d14_122 (by decide) pd_947237 rfl rfl (argsL := [.int (x3 - (1 : Int32)), .int 2]) (rest := [.int 1]) rfl (W := 1) rfl (q := 125) rfl (by decide) (by decide) (by decide) (by decide) (mt_fMin l Z a0 hw _ n0 z28 (x3 - (1 : Int32)) (2 : Int32) ) (oPureK ?_)
   refine oCastI (z' := (1 : Int32)) p21 ?_
   refine oIcmp_gt C d14_125 (q := 183) (by decide) (by decide) (r := 128) rfl (fun hq => absurd hq ((by decide))) (fun hc125_2 => ?_)
   have f40 := (Kj25.fld f12w (ninS ne26 nin0) oN0)
   have ne41 : b9 ≠ a9 := oNe' (Nat.lt_of_lt_of_le p22.lt (Nat.le_trans (Nat.le_of_eq W1.size.symm) (Nat.le_of_eq W4.size.symm))) (Nat.le_of_eq g_a9.symm)
   have f42 := (Kj25.fld (Fld.other W12 (Fld.ext E9 (Fld.other W4 (Fld.other W1 p22 (Or.inl p23)) (Or.inl p23))) (Or.inl p23)) (ninS ne41 nin0) oN0)
   have ne43 : b13 ≠ a9 := oNe' (Nat.lt_of_lt_of_le p24.lt (Nat.le_trans (Nat.le_of_eq W1.size.symm) (Nat.le_of_eq W4.size.symm))) (Nat.le_of_eq g_a9.symm)
   have f44 := (Kj25.fld (Fld.other W12 (Fld.ext E9 (Fld.other W4 (Fld.other W1 p24 (Or.inl p25)) (Or.inl p25))) (Or.inl p25)) (ninS ne43 nin0) oN0)
   refine oJoin (α := Heap) (fun w => oKe hj25 w [a9] [] ∧ oAr Z w a9 .long (oRl x5 (0 : Int64) (oUp0 (1 : Int64) (0 : Int64) y12 (1 : Int64)) (oUp (1 : Int64) ((1 : Int32) &&& 0x3f).toInt64 (0 : Int64) (oUp0 (1 : Int64) (0 : Int64) y12 (1 : Int64)) y14 (2 : Int64)) (0 : Int64))) (fun w => w) (fun _ => (mkF m 177 #[.val (.ref b1), .val (.ref b2), .val (.int x3), .val (.long ((4 : Int64) * (x4.toInt64))), .second, .val (.int 3), .val (.ref b9), .val (.int 1)] [])) (k := 1) (n := 16) (fun hj45 PJ => ?_) (fun J177 => ?_)
   ·
    obtain ⟨Kj45, Aj45⟩ := PJ
    show oW _ _ _ _ _ _ _ _ _ _ _ _ _ _ _ (mkF m 177 #[.val (.ref b1), .val (.ref b2), .val (.int x3), .val (.long ((4 : Int64) * (x4.toInt64))), .second, .val (.int 3), .val (.ref b9), .val (.int 1)] [])
    refine oIinc C d14_177 rfl (z := 1) rfl (w := (2 : Int32)) (by decide) (Ls' := #[.val (.ref b1), .val (.ref b2), .val (.int x3), .val (.long ((4 : Int64) * (x4.toInt64))), .second, .val (.int 3), .val (.ref b9), .val (.int 2)]) rfl rfl ?_
    refine oGoto C d14_180 (q := 112) (by decide) (by decide) ?_
    refine oIload C d14_112 rfl rfl ?_
    refine oAloadN C d14_114 rfl rfl rfl ?_
    have f46 := (Kj45.fld f27 (ninS ne26 nin0) oN0)
    refine oGetF C (w123 hw) Via.refl f46 d14_115 rfl ?_
    refine oIload C d14_118 rfl rfl ?_
    refine oIconst C d14_120 (z := 1) rfl rfl ?_
    refine oIsub C d14_121 rfl ?_
    refine oCastI (z' := (2 : Int32)) (by decide) ?_
    have z47 := (Nat.le_trans z28 Kj45.1)
    refine oCallS C (w162 hw) (w163 hw) (w111 hw) (w164 hw) d14_122 (by decide) pd_947237 rfl rfl (argsL := [.int (x3 - (1 : Int32)), .int 2]) (rest := [.int 2]) rfl (W := 1) rfl (q := 125) rfl (by decide) (by decide) (by decide) (by decide) (mt_fMin l Z a0 hw _ n0 z47 (x3 - (1 : Int32)) (2 : Int32) ) (oPureK ?_)
    refine oCastI (z' := (1 : Int32)) p21 ?_
    refine oIcmp_gt C d14_125 (q := 183) (by decide) (by decide) (r := 128) rfl (fun hc125_3 => ?_) (fun hq => absurd hq ((by decide)))
    refine oIinc C d14_183 rfl (z := 1) rfl (w := (4 : Int32)) (by decide) (Ls' := #[.val (.ref b1), .val (.ref b2), .val (.int x3), .val (.long ((4 : Int64) * (x4.toInt64))), .second, .val (.int 4), .val (.ref b9), .val (.int 2)]) rfl rfl ?_
    refine oGoto C d14_186 (q := 83) (by decide) (by decide) ?_
    refine oIload C d14_83 rfl rfl ?_
    refine oAloadN C d14_85 rfl rfl rfl ?_
    have f49 := (Kj45.exa f30)
    have f50 := (Kj45.fld f32 (ninS ne31 nin0) oN0)
    refine oCallI C (w127 hw) (w128 hw) (w129 hw) (w130 hw) (w131 hw) (w132 hw) (w133 hw) (w88 hw) (w54 hw) (w134 hw) d14_86 f49 (by decide) pd_428473 rfl rfl (a := b2) (argsL := []) (rest := [.int 4]) rfl (W := 1) rfl (q := 91) rfl (by decide) (by decide) (by decide) (by decide) (ac15_20 l Z a0 hw _ n0 z47 b2 f50) (oPureK ?_)
    refine oIcmp_gt C d14_91 (q := 189) (by decide) (by decide) (r := 94) rfl (fun hq => absurd hq ((by decide))) (fun hc91_2 => ?_)
    refine oAloadN C d14_94 rfl rfl rfl ?_
    refine oIload C d14_95 rfl rfl ?_
    refine oIconst C d14_97 (z := 1) rfl rfl ?_
    refine oIsub C d14_98 rfl ?_
    refine oCastI (z' := (3 : Int32)) (by decide) ?_
    have f52 := (Kj45.fld f34 (ninS ne31 nin0) oN0)
    have f53 := (Kj45.arrO f36 (ninS ne35 nin0) oA0)
    refine oCallI C (w139 hw) (w140 hw) (w141 hw) (w142 hw) (w143 hw) (w144 hw) (w145 hw) (w88 hw) (w54 hw) (w146 hw) d14_99 f49 (by decide) pd_666516 rfl rfl (a := b2) (argsL := [.int 3]) (rest := []) rfl (W := 0) rfl (q := 104) rfl (by decide) (by decide) (by decide) (by decide) (ac16_32 l Z a0 hw _ n0 z47 b2 b6 b7 b8 b9 b10 f50 f52 f53 f49) (oPureK ?_)
    have f55 := (Kj45.exa (Kj25.exa (Exa.wr W12 (Exa.ext E9 (Exa.wr W4 (Exa.wr W1 p26))))))
    refine oCast C (w160 hw) (Ins.self f55) d14_104 rfl ?_
    refine oAstore C d14_107 rfl (Ls' := #[.val (.ref b1), .val (.ref b2), .val (.int x3), .val (.long ((4 : Int64) * (x4.toInt64))), .second, .val (.int 4), .val (.ref b10), .val (.int 2)]) rfl (q := 109) rfl ?_
    refine oIconst C d14_109 (z := 1) rfl rfl ?_
    refine oIstore C d14_110 (Ls' := #[.val (.ref b1), .val (.ref b2), .val (.int x3), .val (.long ((4 : Int64) * (x4.toInt64))), .second, .val (.int 4), .val (.ref b10), .val (.int 1)]) rfl (q := 112) rfl ?_
    refine oIload C d14_112 rfl rfl ?_
    refine oAloadN C d14_114 rfl rfl rfl ?_
    refine oGetF C (w123 hw) Via.refl f46 d14_115 rfl ?_
    refine oIload C d14_118 rfl rfl ?_
    refine oIconst C d14_120 (z := 1) rfl rfl ?_
    refine oIsub C d14_121 rfl ?_
    refine oCastI (z' := (3 : Int32)) (by decide) ?_
    refine oCallS C (w162 hw) (w163 hw) (w111 hw) (w164 hw) d14_122 (by decide) pd_947237 rfl rfl (argsL := [.int (x3 - (1 : Int32)), .int 3]) (rest := [.int 1]) rfl (W := 1) rfl (q := 125) rfl (by decide) (by decide) (by decide) (by decide) (mt_fMin l Z a0 hw _ n0 z47 (x3 - (1 : Int32)) (3 : Int32) ) (oPureK ?_)
    refine oCastI (z' := (1 : Int32)) p27 ?_
    refine oIcmp_gt C d14_125 (q := 183) (by decide) (by decide) (r := 128) rfl (fun hq => absurd hq ((by decide))) (fun hc125_4 => ?_)
    have f57 := (Kj45.fld f40 (ninS ne26 nin0) oN0)
    have ne58 : b10 ≠ a9 := oNe' (Nat.lt_of_lt_of_le p28.lt (Nat.le_trans (Nat.le_of_eq W1.size.symm) (Nat.le_of_eq W4.size.symm))) (Nat.le_of_eq g_a9.symm)
    have f59 := (Kj45.fld (Kj25.fld (Fld.other W12 (Fld.ext E9 (Fld.other W4 (Fld.other W1 p28 (Or.inl p29)) (Or.inl p29))) (Or.inl p29)) (ninS ne58 nin0) oN0) (ninS ne58 nin0) oN0)
    have ne60 : b15 ≠ a9 := oNe' (Nat.lt_of_lt_of_le p30.lt (Nat.le_trans (Nat.le_of_eq W1.size.symm) (Nat.le_of_eq W4.size.symm))) (Nat.le_of_eq g_a9.symm)
    have f61 := (Kj45.fld (Kj25.fld (Fld.other W12 (Fld.ext E9 (Fld.other W4 (Fld.other W1 p30 (Or.inl p31)) (Or.inl p31))) (Or.inl p31)) (ninS ne60 nin0) oN0) (ninS ne60 nin0) oN0)
    refine oJoin (α := Heap) (fun w => oKe hj45 w [a9] [] ∧ oAr Z w a9 .long (oRl x5 (0 : Int64) (oUp0 (1 : Int64) (0 : Int64) y12 (1 : Int64)) (oUp (1 : Int64) ((1 : Int32) &&& 0x3f).toInt64 (0 : Int64) (oUp0 (1 : Int64) (0 : Int64) y12 (1 : Int64)) y14 (2 : Int64)) (oUp (1 : Int64) ((1 : Int32) &&& 0x3f).toInt64 (0 : Int64) (oUp (1 : Int64) ((1 : Int32) &&& 0x3f).toInt64 (0 : Int64) (oUp0 (1 : Int64) (0 : Int64) y12 (1 : Int64)) y14 (2 : Int64)) y16 (4 : Int64)))) (fun w => w) (fun _ => (mkF m 177 #[.val (.ref b1), .val (.ref b2), .val (.int x3), .val (.long ((4 : Int64) * (x4.toInt64))), .second, .val (.int 4), .val (.ref b10), .val (.int 1)] [])) (k := 1) (n := 16) (fun hj62 PJ => ?_) (fun J177 => ?_)
    ·
     obtain ⟨Kj62, Aj62⟩ := PJ
     show oW _ _ _ _ _ _ _ _ _ _ _ _ _ _ _ (mkF m 177 #[.val (.ref b1), .val (.ref b2), .val (.int x3), .val (.long ((4 : Int64) * (x4.toInt64))), .second, .val (.int 4), .val (.ref b10), .val (.int 1)] [])
     refine oIinc C d14_177 rfl (z := 1) rfl (w := (2 : Int32)) (by decide) (Ls' := #[.val (.ref b1), .val (.ref b2), .val (.int x3), .val (.long ((4 : Int64) * (x4.toInt64))), .second, .val (.int 4), .val (.ref b10), .val (.int 2)]) rfl rfl ?_
     refine oGoto C d14_180 (q := 112) (by decide) (by decide) ?_
     refine oIload C d14_112 rfl rfl ?_
     refine oAloadN C d14_114 rfl rfl rfl ?_
     have f63 := (Kj62.fld f46 (ninS ne26 nin0) oN0)
     refine oGetF C (w123 hw) Via.refl f63 d14_115 rfl ?_
     refine oIload C d14_118 rfl rfl ?_
     refine oIconst C d14_120 (z := 1) rfl rfl ?_
     refine oIsub C d14_121 rfl ?_
     refine oCastI (z' := (3 : Int32)) (by decide) ?_
     have z64 := (Nat.le_trans z47 Kj62.1)
     refine oCallS C (w162 hw) (w163 hw) (w111 hw) (w164 hw) d14_122 (by decide) pd_947237 rfl rfl (argsL := [.int (x3 - (1 : Int32)), .int 3]) (rest := [.int 2]) rfl (W := 1) rfl (q := 125) rfl (by decide) (by decide) (by decide) (by decide) (mt_fMin l Z a0 hw _ n0 z64 (x3 - (1 : Int32)) (3 : Int32) ) (oPureK ?_)
     refine oCastI (z' := (1 : Int32)) p27 ?_
     refine oIcmp_gt C d14_125 (q := 183) (by decide) (by decide) (r := 128) rfl (fun hc125_5 => ?_) (fun hq => absurd hq ((by decide)))
     refine oIinc C d14_183 rfl (z := 1) rfl (w := (5 : Int32)) (by decide) (Ls' := #[.val (.ref b1), .val (.ref b2), .val (.int x3), .val (.long ((4 : Int64) * (x4.toInt64))), .second, .val (.int 5), .val (.ref b10), .val (.int 2)]) rfl rfl ?_
     refine oGoto C d14_186 (q := 83) (by decide) (by decide) ?_
     refine oIload C d14_83 rfl rfl ?_
     refine oAloadN C d14_85 rfl rfl rfl ?_
     have f66 := (Kj62.exa f49)
     have f67 := (Kj62.fld f50 (ninS ne31 nin0) oN0)
     refine oCallI C (w127 hw) (w128 hw) (w129 hw) (w130 hw) (w131 hw) (w132 hw) (w133 hw) (w88 hw) (w54 hw) (w134 hw) d14_86 f66 (by decide) pd_428473 rfl rfl (a := b2) (argsL := []) (rest := [.int 5]) rfl (W := 1) rfl (q := 91) rfl (by decide) (by decide) (by decide) (by decide) (ac15_20 l Z a0 hw _ n0 z64 b2 f67) (oPureK ?_)
     refine oIcmp_gt C d14_91 (q := 189) (by decide) (by decide) (r := 94) rfl (fun hc91_3 => ?_) (fun hq => absurd hq ((by decide)))
     refine oRetV C d14_189 (by decide) (by decide) ?_
     have f69 := (Kj62.fld (Kj45.fld (Kj25.fld (Fld.other W12 (Fld.ext E9 f4w) (Or.inr (oSn3 hw 1 2))) (ninS ne26 nin0) oN0) (ninS ne26 nin0) oN0) (ninS ne26 nin0) oN0)
     have f70 := (Kj62.fld f57 (ninS ne26 nin0) oN0)
     exact ⟨_, rfl, ((((((((oKe.refl h0 [] [(b1, Jvm.RoadKit.slotOf Z sP "span" "I"), (b1, Jvm.RoadKit.slotOf Z sP "words" "I"), (b1, Jvm.RoadKit.slotOf Z sP "bits" "[J")]).wrF W1 (Or.inl (List.mem_of_getElem? (i := 0) rfl))).wrF W4 (Or.inl (List.mem_of_getElem? (i := 1) rfl))).ext E9).wrF W12 (Or.inl (List.mem_of_getElem? (i := 2) rfl))).trans Kj25 (allS (Or.inr (Nat.le_trans (((oKe.refl h0 [] [(b1, Jvm.RoadKit.slotOf Z sP "span" "I"), (b1, Jvm.RoadKit.slotOf Z sP "words" "I"), (b1, Jvm.RoadKit.slotOf Z sP "bits" "[J")]).wrF W1 (Or.inl (List.mem_of_getElem? (i := 0) rfl))).wrF W4 (Or.inl (List.mem_of_getElem? (i := 1) rfl))).1 (Nat.le_of_eq g_a9.symm))) all0) oA0).trans Kj45 (allS (Or.inr (Nat.le_trans (((oKe.refl h0 [] [(b1, Jvm.RoadKit.slotOf Z sP "span" "I"), (b1, Jvm.RoadKit.slotOf Z sP "words" "I"), (b1, Jvm.RoadKit.slotOf Z sP "bits" "[J")]).wrF W1 (Or.inl (List.mem_of_getElem? (i := 0) rfl))).wrF W4 (Or.inl (List.mem_of_getElem? (i := 1) rfl))).1 (Nat.le_of_eq g_a9.symm))) all0) oA0).trans Kj62 (allS (Or.inr (Nat.le_trans (((oKe.refl h0 [] [(b1, Jvm.RoadKit.slotOf Z sP "span" "I"), (b1, Jvm.RoadKit.slotOf Z sP "words" "I"), (b1, Jvm.RoadKit.slotOf Z sP "bits" "[J")]).wrF W1 (Or.inl (List.mem_of_getElem? (i := 0) rfl))).wrF W4 (Or.inl (List.mem_of_getElem? (i := 1) rfl))).1 (Nat.le_of_eq g_a9.symm))) all0) oA0), (Nat.le_trans (((oKe.refl h0 [] [(b1, Jvm.RoadKit.slotOf Z sP "span" "I"), (b1, Jvm.RoadKit.slotOf Z sP "words" "I"), (b1, Jvm.RoadKit.slotOf Z sP "bits" "[J")]).wrF W1 (Or.inl (List.mem_of_getElem? (i := 0) rfl))).wrF W4 (Or.inl (List.mem_of_getElem? (i := 1) rfl))).1 (Nat.le_of_eq g_a9.symm)), f63, f69, Aj62, f70⟩
    ·
     refine oAloadN C d14_128 rfl rfl rfl ?_
     refine oIload C d14_129 rfl rfl ?_
     refine oIload C d14_131 rfl rfl ?_
     refine oIload C d14_133 rfl rfl ?_
     refine oIsub C d14_135 rfl ?_
     refine oCastI (z' := (3 : Int32)) (by decide) ?_
     have f71 := (Kj45.fld (Kj25.fld (Fld.other W12 (Fld.ext E9 f4w) (Or.inr (oSn3 hw 1 2))) (ninS ne26 nin0) oN0) (ninS ne26 nin0) oN0)
     have f73 := (Kj45.exa (Kj25.exa (Exa.wr W12 f10)))
     refine oCallV C (w166 hw) (w167 hw) (w169 hw) (w168 hw) (w118 hw) (w170 hw) d14_136 f73 (by decide) pd_947254 rfl rfl (a := b1) (argsL := [.int 4, .int 3]) (rest := []) rfl (W := 0) rfl (q := 139) rfl (by decide) (by decide) (by decide) (by decide) (ac21_34 l Z a0 hw _ n0 z47 b1 a9 x4 x5 (oUp0 (1 : Int64) (0 : Int64) y12 (1 : Int64)) (oUp (1 : Int64) ((1 : Int32) &&& 0x3f).toInt64 (0 : Int64) (oUp0 (1 : Int64) (0 : Int64) y12 (1 : Int64)) y14 (2 : Int64)) f57 f71 Aj45 p9) (oPureK ?_)
     refine oIf_ne C d14_139 (q := 177) (by decide) (by decide) (r := 142) rfl (fun hq => absurd hq ((by decide))) (fun hc139 => ?_)
     refine oAload C d14_142 rfl rfl rfl ?_
     refine oAloadN C d14_144 rfl rfl rfl ?_
     refine oIload C d14_145 rfl rfl ?_
     refine oIload C d14_147 rfl rfl ?_
     refine oIsub C d14_149 rfl ?_
     refine oCastI (z' := (3 : Int32)) (by decide) ?_
     refine oIconst C d14_150 (z := 1) rfl rfl ?_
     refine oIsub C d14_151 rfl ?_
     refine oCastI (z' := (2 : Int32)) (by decide) ?_
     refine oCallI C (w139 hw) (w140 hw) (w141 hw) (w142 hw) (w143 hw) (w144 hw) (w145 hw) (w88 hw) (w54 hw) (w146 hw) d14_152 f49 (by decide) pd_666516 rfl rfl (a := b2) (argsL := [.int 2]) (rest := [.ref b10]) rfl (W := 1) rfl (q := 157) rfl (by decide) (by decide) (by decide) (by decide) (ac16_28 l Z a0 hw _ n0 z47 b2 b6 b7 b8 b9 b10 f50 f52 f53 f49) (oPureK ?_)
     have f75 := (Kj45.exa f38)
     refine oCast C (w160 hw) (Ins.self f75) d14_157 rfl ?_
     have f76 := (Kj45.fld f42 (ninS ne41 nin0) oN0)
     have f77 := (Kj45.fld (Kj25.fld (Fld.other W12 (Fld.ext E9 (Fld.other W4 (Fld.other W1 p32 (Or.inl p25)) (Or.inl p25))) (Or.inl p25)) (ninS ne43 nin0) oN0) (ninS ne43 nin0) oN0)
     have f78 := (Kj45.fld (Kj25.fld (Fld.other W12 (Fld.ext E9 (Fld.other W4 (Fld.other W1 p33 (Or.inl p31)) (Or.inl p31))) (Or.inl p31)) (ninS ne60 nin0) oN0) (ninS ne60 nin0) oN0)
     have f79 := (Kj45.exa (Kj25.exa (Exa.wr W12 (Exa.ext E9 (Exa.wr W4 (Exa.wr W1 p34))))))
     have f80 := (Kj45.fld (Kj25.fld (Fld.other W12 (Fld.ext E9 (Fld.other W4 (Fld.other W1 p35 (Or.inl p29)) (Or.inl p29))) (Or.inl p29)) (ninS ne58 nin0) oN0) (ninS ne58 nin0) oN0)
     have f81 := (Kj45.fld (Kj25.fld (Fld.other W12 (Fld.ext E9 (Fld.other W4 (Fld.other W1 p36 (Or.inl p29)) (Or.inl p29))) (Or.inl p29)) (ninS ne58 nin0) oN0) (ninS ne58 nin0) oN0)
     have f82 := (Kj45.fld (Kj25.fld (Fld.other W12 (Fld.ext E9 (Fld.other W4 (Fld.other W1 p37 (Or.inl p25)) (Or.inl p25))) (Or.inl p25)) (ninS ne43 nin0) oN0) (ninS ne43 nin0) oN0)
     have f83 := (Kj45.exa (Kj25.exa (Exa.wr W12 (Exa.ext E9 (Exa.wr W4 (Exa.wr W1 p38))))))
     have f84 := (Kj45.fld (Kj25.fld (Fld.other W12 (Fld.ext E9 (Fld.other W4 (Fld.other W1 p39 (Or.inl p23)) (Or.inl p23))) (Or.inl p23)) (ninS ne41 nin0) oN0) (ninS ne41 nin0) oN0)
     have f85 := (Kj45.fld (Kj25.fld (Fld.other W12 (Fld.ext E9 (Fld.other W4 (Fld.other W1 p40 (Or.inl p23)) (Or.inl p23))) (Or.inl p23)) (ninS ne41 nin0) oN0) (ninS ne41 nin0) oN0)
     refine oCallV C (w171 hw) (w172 hw) (w174 hw) (w173 hw) (w34 hw) (w175 hw) d14_160 f55 (by decide) pd_138820 rfl rfl (a := b10) (argsL := [.ref b9]) (rest := []) rfl (W := 0) rfl (q := 163) rfl (by decide) (by decide) (by decide) (by decide) (ac22_40 l Z a0 hw _ n0 z47 b10 b9 b15 b13 y16 f59 f76 f77 f78 f79 f61 f80 f81 f82 f83 f84 f85) (oPureK ?_)
     refine oIf_eq C d14_163 (q := 177) (by decide) (by decide) (r := 166) rfl (fun hc163 => ?_) (fun hc163 => ?_)
     ·
      exact J177 _ ⟨(oKe.refl hj45 [a9] []), by rw [show (oUp (1 : Int64) ((1 : Int32) &&& 0x3f).toInt64 (0 : Int64) (oUp (1 : Int64) ((1 : Int32) &&& 0x3f).toInt64 (0 : Int64) (oUp0 (1 : Int64) (0 : Int64) y12 (1 : Int64)) y14 (2 : Int64)) y16 (4 : Int64)) = (0 : Int64) from oUp_b (by decide) (by have q := hc163; rw [ft26_0_def, own_z] at q; exact q)]; exact Aj45⟩
     ·
      refine oAloadN C d14_166 rfl rfl rfl ?_
      refine oIload C d14_167 rfl rfl ?_
      refine oIload C d14_169 rfl rfl ?_
      refine oIload C d14_171 rfl rfl ?_
      refine oIsub C d14_173 rfl ?_
      refine oCastI (z' := (3 : Int32)) (by decide) ?_
      refine oCallP C (w197 hw) (w199 hw) (w117 hw) (w198 hw) (w118 hw) (w200 hw) d14_174 f73 (by decide) pd_947250 rfl rfl (a := b1) (argsL := [.int 4, .int 3]) (rest := []) rfl (W := 0) rfl (q := 177) rfl (by decide) (by decide) (by decide) (by decide) (ac28_41 l Z a0 hw _ n0 z47 b1 x4 a9 x5 (oUp0 (1 : Int64) (0 : Int64) y12 (1 : Int64)) (oUp (1 : Int64) ((1 : Int32) &&& 0x3f).toInt64 (0 : Int64) (oUp0 (1 : Int64) (0 : Int64) y12 (1 : Int64)) y14 (2 : Int64)) f71 f57 Aj45 p9 ne26 ge_a9 (sh_0 y12 y14)) (oVQ ?_)
      rintro h87 ⟨K87, f87_0⟩
      exact J177 _ ⟨((oKe.refl hj45 [a9] []).trans K87 (allS (Or.inl (List.mem_of_getElem? (i := 0) rfl)) all0) oA0), by rw [show (oUp (1 : Int64) ((1 : Int32) &&& 0x3f).toInt64 (0 : Int64) (oUp (1 : Int64) ((1 : Int32) &&& 0x3f).toInt64 (0 : Int64) (oUp0 (1 : Int64) (0 : Int64) y12 (1 : Int64)) y14 (2 : Int64)) y16 (4 : Int64)) = (((0 : Int64) ||| ((oUp (1 : Int64) ((1 : Int32) &&& 0x3f).toInt64 (0 : Int64) (oUp0 (1 : Int64) (0 : Int64) y12 (1 : Int64)) y14 (2 : Int64)) <<< ((1 : Int32) &&& 0x3f).toInt64)) ||| (1 : Int64)) from oUp_c (by decide) (by have q := hc163; rw [ft26_0_def, own_z] at q; exact q)]; exact f87_0⟩
   ·
    refine oAloadN C d14_128 rfl rfl rfl ?_
    refine oIload C d14_129 rfl rfl ?_
    refine oIload C d14_131 rfl rfl ?_
    refine oIload C d14_133 rfl rfl ?_
    refine oIsub C d14_135 rfl ?_
    refine oCastI (z' := (2 : Int32)) (by decide) ?_
    have f88 := (Kj25.fld (Fld.other W12 (Fld.ext E9 f4w) (Or.inr (oSn3 hw 1 2))) (ninS ne26 nin0) oN0)
    have f90 := (Kj25.exa (Exa.wr W12 f10))
    refine oCallV C (w166 hw) (w167 hw) (w169 hw) (w168 hw) (w118 hw) (w170 hw) d14_136 f90 (by decide) pd_947254 rfl rfl (a := b1) (argsL := [.int 3, .int 2]) (rest := []) rfl (W := 0) rfl (q := 139) rfl (by decide) (by decide) (by decide) (by decide) (ac21_42 l Z a0 hw _ n0 z28 b1 a9 x4 x5 (oUp0 (1 : Int64) (0 : Int64) y12 (1 : Int64)) f40 f88 Aj25 p9) (oPureK ?_)
    refine oIf_ne C d14_139 (q := 177) (by decide) (by decide) (r := 142) rfl (fun hq => absurd hq ((by decide))) (fun hc139 => ?_)
    refine oAload C d14_142 rfl rfl rfl ?_
    refine oAloadN C d14_144 rfl rfl rfl ?_
    refine oIload C d14_145 rfl rfl ?_
    refine oIload C d14_147 rfl rfl ?_
    refine oIsub C d14_149 rfl ?_
    refine oCastI (z' := (2 : Int32)) (by decide) ?_
    refine oIconst C d14_150 (z := 1) rfl rfl ?_
    refine oIsub C d14_151 rfl ?_
    refine oCastI (z' := (1 : Int32)) (by decide) ?_
    refine oCallI C (w139 hw) (w140 hw) (w141 hw) (w142 hw) (w143 hw) (w144 hw) (w145 hw) (w88 hw) (w54 hw) (w146 hw) d14_152 f30 (by decide) pd_666516 rfl rfl (a := b2) (argsL := [.int 1]) (rest := [.ref b9]) rfl (W := 1) rfl (q := 157) rfl (by decide) (by decide) (by decide) (by decide) (ac16_24 l Z a0 hw _ n0 z28 b2 b6 b7 b8 b9 b10 f32 f34 f36 f30) (oPureK ?_)
    have f92 := (Kj25.exa f20)
    refine oCast C (w160 hw) (Ins.self f92) d14_157 rfl ?_
    have ne93 : b8 ≠ a9 := oNe' (Nat.lt_of_lt_of_le p44.lt (Nat.le_trans (Nat.le_of_eq W1.size.symm) (Nat.le_of_eq W4.size.symm))) (Nat.le_of_eq g_a9.symm)
    have f94 := (Kj25.fld f23 (ninS ne93 nin0) oN0)
    have ne95 : b11 ≠ a9 := oNe' (Nat.lt_of_lt_of_le p41.lt (Nat.le_trans (Nat.le_of_eq W1.size.symm) (Nat.le_of_eq W4.size.symm))) (Nat.le_of_eq g_a9.symm)
    have f96 := (Kj25.fld (Fld.other W12 (Fld.ext E9 (Fld.other W4 (Fld.other W1 p41 (Or.inl p19)) (Or.inl p19))) (Or.inl p19)) (ninS ne95 nin0) oN0)
    have f97 := (Kj25.fld (Fld.other W12 (Fld.ext E9 (Fld.other W4 (Fld.other W1 p32 (Or.inl p25)) (Or.inl p25))) (Or.inl p25)) (ninS ne43 nin0) oN0)
    have f98 := (Kj25.exa (Exa.wr W12 (Exa.ext E9 (Exa.wr W4 (Exa.wr W1 p38)))))
    have f99 := (Kj25.fld (Fld.other W12 (Fld.ext E9 (Fld.other W4 (Fld.other W1 p39 (Or.inl p23)) (Or.inl p23))) (Or.inl p23)) (ninS ne41 nin0) oN0)
    have f100 := (Kj25.fld (Fld.other W12 (Fld.ext E9 (Fld.other W4 (Fld.other W1 p40 (Or.inl p23)) (Or.inl p23))) (Or.inl p23)) (ninS ne41 nin0) oN0)
    have f101 := (Kj25.fld (Fld.other W12 (Fld.ext E9 (Fld.other W4 (Fld.other W1 p42 (Or.inl p19)) (Or.inl p19))) (Or.inl p19)) (ninS ne95 nin0) oN0)
    have f102 := (Kj25.exa (Exa.wr W12 (Exa.ext E9 (Exa.wr W4 (Exa.wr W1 p43)))))
    have f103 := (Kj25.fld (Fld.other W12 (Fld.ext E9 (Fld.other W4 (Fld.other W1 p44 (Or.inl p17)) (Or.inl p17))) (Or.inl p17)) (ninS ne93 nin0) oN0)
    have f104 := (Kj25.fld (Fld.other W12 (Fld.ext E9 (Fld.other W4 (Fld.other W1 p45 (Or.inl p17)) (Or.inl p17))) (Or.inl p17)) (ninS ne93 nin0) oN0)
    refine oCallV C (w171 hw) (w172 hw) (w174 hw) (w173 hw) (w34 hw) (w175 hw) d14_160 f38 (by decide) pd_138820 rfl rfl (a := b9) (argsL := [.ref b8]) (rest := []) rfl (W := 0) rfl (q := 163) rfl (by decide) (by decide) (by decide) (by decide) (ac22_45 l Z a0 hw _ n0 z28 b9 b8 b13 b11 y14 f42 f94 f96 f97 f98 f44 f99 f100 f101 f102 f103 f104) (oPureK ?_)
    refine oIf_eq C d14_163 (q := 177) (by decide) (by decide) (r := 166) rfl (fun hc163 => ?_) (fun hc163 => ?_)
    ·
     exact J177 _ ⟨(oKe.refl hj25 [a9] []), by rw [show (oUp (1 : Int64) ((1 : Int32) &&& 0x3f).toInt64 (0 : Int64) (oUp0 (1 : Int64) (0 : Int64) y12 (1 : Int64)) y14 (2 : Int64)) = (0 : Int64) from oUp_b (by decide) (by have q := hc163; rw [ft26_1_def, own_z] at q; exact q)]; exact Aj25⟩
    ·
     refine oAloadN C d14_166 rfl rfl rfl ?_
     refine oIload C d14_167 rfl rfl ?_
     refine oIload C d14_169 rfl rfl ?_
     refine oIload C d14_171 rfl rfl ?_
     refine oIsub C d14_173 rfl ?_
     refine oCastI (z' := (2 : Int32)) (by decide) ?_
     refine oCallP C (w197 hw) (w199 hw) (w117 hw) (w198 hw) (w118 hw) (w200 hw) d14_174 f90 (by decide) pd_947250 rfl rfl (a := b1) (argsL := [.int 3, .int 2]) (rest := []) rfl (W := 0) rfl (q := 177) rfl (by decide) (by decide) (by decide) (by decide) (ac28_46 l Z a0 hw _ n0 z28 b1 x4 a9 x5 (oUp0 (1 : Int64) (0 : Int64) y12 (1 : Int64)) f88 f40 Aj25 p9 ne26 ge_a9 (sh_1 y12)) (oVQ ?_)
     rintro h106 ⟨K106, f106_0⟩
     exact J177 _ ⟨((oKe.refl hj25 [a9] []).trans K106 (allS (Or.inl (List.mem_of_getElem? (i := 0) rfl)) all0) oA0), by rw [show (oUp (1 : Int64) ((1 : Int32) &&& 0x3f).toInt64 (0 : Int64) (oUp0 (1 : Int64) (0 : Int64) y12 (1 : Int64)) y14 (2 : Int64)) = (((0 : Int64) ||| ((oUp0 (1 : Int64) (0 : Int64) y12 (1 : Int64)) <<< ((1 : Int32) &&& 0x3f).toInt64)) ||| (1 : Int64)) from oUp_c (by decide) (by have q := hc163; rw [ft26_1_def, own_z] at q; exact q)]; exact f106_0⟩
  ·
   refine oAloadN C d14_128 rfl rfl rfl ?_
   refine oIload C d14_129 rfl rfl ?_
   refine oIload C d14_131 rfl rfl ?_
   refine oIload C d14_133 rfl rfl ?_
   refine oIsub C d14_135 rfl ?_
   refine oCastI (z' := (1 : Int32)) (by decide) ?_
   have f107 := (Fld.other W12 (Fld.ext E9 f4w) (Or.inr (oSn3 hw 1 2)))
   have ne108 : b1 ≠ a9 := oNe' (Nat.lt_of_lt_of_le p1.lt (Nat.le_trans (Nat.le_of_eq W1.size.symm) (Nat.le_of_eq W4.size.symm))) (Nat.le_of_eq g_a9.symm)
   have f109 := (Arl.other W12 (Ne.symm ne108))
   have f111 := (Exa.wr W12 f10)
   refine oCallV C (w166 hw) (w167 hw) (w169 hw) (w168 hw) (w118 hw) (w170 hw) d14_136 f111 (by decide) pd_947254 rfl rfl (a := b1) (argsL := [.int 2, .int 1]) (rest := []) rfl (W := 0) rfl (q := 139) rfl (by decide) (by decide) (by decide) (by decide) (ac21_47 l Z a0 hw _ n0 z16 b1 a9 x4 x5 f12w f107 f109 p9) (oPureK ?_)
   refine oIf_ne C d14_139 (q := 177) (by decide) (by decide) (r := 142) rfl (fun hq => absurd hq ((by decide))) (fun hc139 => ?_)
   refine oAload C d14_142 rfl rfl rfl ?_
   refine oAloadN C d14_144 rfl rfl rfl ?_
   refine oIload C d14_145 rfl rfl ?_
   refine oIload C d14_147 rfl rfl ?_
   refine oIsub C d14_149 rfl ?_
   refine oCastI (z' := (1 : Int32)) (by decide) ?_
   refine oIconst C d14_150 (z := 1) rfl rfl ?_
   refine oIsub C d14_151 rfl ?_
   refine oCastI (z' := (0 : Int32)) (by decide) ?_
   refine oCallI C (w139 hw) (w140 hw) (w141 hw) (w142 hw) (w143 hw) (w144 hw) (w145 hw) (w88 hw) (w54 hw) (w146 hw) d14_152 f13 (by decide) pd_666516 rfl rfl (a := b2) (argsL := [.int 0]) (rest := [.ref b8]) rfl (W := 1) rfl (q := 157) rfl (by decide) (by decide) (by decide) (by decide) (ac16_51 l Z a0 hw _ n0 z16 b2 b6 b7 b8 b9 b10 f14 f17 f18 f13) (oPureK ?_)
   have f113 := (Exa.wr W12 (Exa.ext E9 (Exa.wr W4 (Exa.wr W1 p46))))
   refine oCast C (w160 hw) (Ins.self f113) d14_157 rfl ?_
   have f114 := (Fld.other W12 (Fld.ext E9 (Fld.other W4 (Fld.other W1 p47 (Or.inl p53)) (Or.inl p53))) (Or.inl p53))
   have f115 := (Fld.other W12 (Fld.ext E9 (Fld.other W4 (Fld.other W1 p48 (Or.inl p54)) (Or.inl p54))) (Or.inl p54))
   have f116 := (Fld.other W12 (Fld.ext E9 (Fld.other W4 (Fld.other W1 p41 (Or.inl p19)) (Or.inl p19))) (Or.inl p19))
   have f117 := (Exa.wr W12 (Exa.ext E9 (Exa.wr W4 (Exa.wr W1 p43))))
   have f118 := (Fld.other W12 (Fld.ext E9 (Fld.other W4 (Fld.other W1 p44 (Or.inl p17)) (Or.inl p17))) (Or.inl p17))
   have f119 := (Fld.other W12 (Fld.ext E9 (Fld.other W4 (Fld.other W1 p45 (Or.inl p17)) (Or.inl p17))) (Or.inl p17))
   have f120 := (Fld.other W12 (Fld.ext E9 (Fld.other W4 (Fld.other W1 p49 (Or.inl p54)) (Or.inl p54))) (Or.inl p54))
   have f121 := (Exa.wr W12 (Exa.ext E9 (Exa.wr W4 (Exa.wr W1 p50))))
   have f122 := (Fld.other W12 (Fld.ext E9 (Fld.other W4 (Fld.other W1 p51 (Or.inl p53)) (Or.inl p53))) (Or.inl p53))
   have f123 := (Fld.other W12 (Fld.ext E9 (Fld.other W4 (Fld.other W1 p52 (Or.inl p53)) (Or.inl p53))) (Or.inl p53))
   refine oCallV C (w171 hw) (w172 hw) (w174 hw) (w173 hw) (w34 hw) (w175 hw) d14_160 f20 (by decide) pd_138820 rfl rfl (a := b8) (argsL := [.ref b7]) (rest := []) rfl (W := 0) rfl (q := 163) rfl (by decide) (by decide) (by decide) (by decide) (ac22_54 l Z a0 hw _ n0 z16 b8 b7 b11 b17 y12 f23 f114 f115 f116 f117 f24 f118 f119 f120 f121 f122 f123) (oPureK ?_)
   refine oIf_eq C d14_163 (q := 177) (by decide) (by decide) (r := 166) rfl (fun hc163 => ?_) (fun hc163 => ?_)
   ·
    exact J177 _ ⟨(oKe.refl h12 [a9] []), by rw [show (oUp0 (1 : Int64) (0 : Int64) y12 (1 : Int64)) = (0 : Int64) from oUp0_b (by decide) (by have q := hc163; rw [ft26_2_def, own_z] at q; exact q)]; exact f109⟩
   ·
    refine oAloadN C d14_166 rfl rfl rfl ?_
    refine oIload C d14_167 rfl rfl ?_
    refine oIload C d14_169 rfl rfl ?_
    refine oIload C d14_171 rfl rfl ?_
    refine oIsub C d14_173 rfl ?_
    refine oCastI (z' := (1 : Int32)) (by decide) ?_
    refine oCallP C (w197 hw) (w199 hw) (w117 hw) (w198 hw) (w118 hw) (w200 hw) d14_174 f111 (by decide) pd_947250 rfl rfl (a := b1) (argsL := [.int 2, .int 1]) (rest := []) rfl (W := 0) rfl (q := 177) rfl (by decide) (by decide) (by decide) (by decide) (ac28_55 l Z a0 hw _ n0 z16 b1 x4 a9 x5 f107 f12w f109 p9 ne108 ge_a9) (oVQ ?_)
    rintro h125 ⟨K125, f125_0⟩
    exact J177 _ ⟨((oKe.refl h12 [a9] []).trans K125 (allS (Or.inl (List.mem_of_getElem? (i := 0) rfl)) all0) oA0), by rw [show (oUp0 (1 : Int64) (0 : Int64) y12 (1 : Int64)) = (1 : Int64) from (oUp0_c (by decide) (by have q := hc163; rw [ft26_2_def, own_z] at q; exact q)).trans (by decide)]; exact f125_0⟩
def ft21_3 (y5 : Int64) : Int32 := (if (y5 &&& (1 : Int64)) = (0 : Int64) then (0 : Int32) else (1 : Int32))
theorem ft21_3_def (y5 : Int64) : ft21_3 y5 = (if (y5 &&& (1 : Int64)) = (0 : Int64) then (0 : Int32) else (1 : Int32)) := rfl
theorem d21_33 : decode prog_13_method_2_code 33 = .ok (.iconst 1, 1) := by decide +kernel
theorem d21_34 : decode prog_13_method_2_code 34 = .ok (.goto 4, 3) := by decide +kernel
set_option maxRecDepth 65536 in
set_option maxHeartbeats 40000000 in
theorem ac21_57 (l : Launch) (Z : State) (a0 : Array Value) (hw : oHw a0 Z) (h0 : Heap) (n0 : Nat) (Z0 : n0 ≤ h0.size) (b1 : Addr) (b2 : Addr) (x3 : Int32) (x4 : Nat) (y5 : Int64) (y6 : Int64) (y7 : Int64) (p1 : Fld Z h0 b1 sP "bits" "[J" (.ref b2)) (p2 : Fld Z h0 b1 sP "words" "I" (.int x3)) (p3 : oAr Z h0 b2 .long (oRl x4 (0 : Int64) y5 y6 y7)) (p4 : oKw x4 x3) :
    oMet l Z (⟨sP, "follows", "(II)Z"⟩ : MethodName) prog_13_method_2_code 4 (some .boolean) [] ({ frames := 0, cells := 0, slots := 0, locals := 0 } : Room) 0 0 n0 #[.ref b1, .int 2, .int 1] h0 (fun v h => v = some (.int (ft21_3 y5)) ∧ h = h0) := by
  refine oMet.intro (plainFor_of_name pn_399007) (fun m => ef_21 m b1 (2 : Int32) (1 : Int32)) ?_
  intro op oe os m obl omt ocd C
  refine oIloadN C d21_0 rfl rfl ?_
  refine oIloadN C d21_1 rfl rfl ?_
  refine oIsub C d21_2 rfl ?_
  refine oCastI (z' := (1 : Int32)) (by decide) ?_
  refine oIconst C d21_3 (z := 1) rfl rfl ?_
  refine oIsub C d21_4 rfl ?_
  refine oCastI (z' := (0 : Int32)) (by decide) ?_
  refine oIstoreN C d21_5 (Ls' := #[.val (.ref b1), .val (.int 2), .val (.int 1), .val (.int 0)]) rfl (q := 6) rfl ?_
  refine oAloadN C d21_6 rfl rfl rfl ?_
  refine oGetF C (w137 hw) Via.refl p1 d21_7 rfl ?_
  refine oIloadN C d21_10 rfl rfl ?_
  refine oIconst C d21_11 (z := 1) rfl rfl ?_
  refine oIsub C d21_12 rfl ?_
  refine oCastI (z' := (1 : Int32)) (by decide) ?_
  refine oAloadN C d21_13 rfl rfl rfl ?_
  refine oGetF C (w125 hw) Via.refl p2 d21_14 rfl ?_
  refine oImul C d21_17 rfl ?_
  refine oIloadN C d21_18 rfl rfl ?_
  refine oBipush C d21_19 (z := 6) rfl rfl ?_
  refine oIushr C d21_21 rfl ?_
  refine oCastI (z' := (0 : Int32)) (by decide) ?_
  refine oIadd C d21_22 rfl ?_
  refine oLaload C p3 (own_n1 p4) (k := (1 * x4)) (own_k1 p4) (v := .long y5) (own_v1 p4) d21_23 rfl ?_
  refine oLconst C d21_24 (z := 1) rfl rfl ?_
  refine oIloadN C d21_25 rfl rfl ?_
  refine oLshl C d21_26 rfl ?_
  refine oCastL (z' := (1 : Int64)) (by decide) ?_
  refine oLand C d21_27 rfl ?_
  refine oLconst C d21_28 (z := 0) rfl rfl ?_
  refine oLcmp_eq C d21_29 rfl d21_30 (q := 37) (by decide) (by decide) (r := 33) rfl (fun hc29 => ?_) (fun hc29 => ?_)
  ·
   refine oIconst C d21_37 (z := 0) rfl rfl ?_
   refine oRetZ C d21_38 (z' := (0 : Int32)) rfl (by decide) (by decide) ?_
   exact ⟨by rw [ft21_3_def, if_pos hc29], rfl⟩
  ·
   refine oIconst C d21_33 (z := 1) rfl rfl ?_
   refine oGoto C d21_34 (q := 38) (by decide) (by decide) ?_
   refine oRetZ C d21_38 (z' := (1 : Int32)) rfl (by decide) (by decide) ?_
   exact ⟨by rw [ft21_3_def, if_neg hc29], rfl⟩
set_option maxRecDepth 65536 in
set_option maxHeartbeats 40000000 in
theorem fin0 (c21 c32 c42 : Int64) (dc21 : c21 = 0 ∨ c21 = 1) (dc32 : c32 = 0 ∨ c32 = 1) (dc42 : c42 = 0 ∨ c42 = 1) : (ft21_3 (oUp0 (1 : Int64) (0 : Int64) (((c21 ||| (2 : Int64)) ||| (c32 <<< ((2 : Int32) &&& 0x3f).toInt64)) ||| (c42 <<< ((3 : Int32) &&& 0x3f).toInt64)) (1 : Int64))) = (fA21 c21) := by
  rcases dc21 with rfl | rfl <;> rcases dc32 with rfl | rfl <;> rcases dc42 with rfl | rfl <;> decide +kernel
def ft21_4 (y6 : Int64) : Int32 := (if (y6 &&& (1 : Int64)) = (0 : Int64) then (0 : Int32) else (1 : Int32))
theorem ft21_4_def (y6 : Int64) : ft21_4 y6 = (if (y6 &&& (1 : Int64)) = (0 : Int64) then (0 : Int32) else (1 : Int32)) := rfl
set_option maxRecDepth 65536 in
set_option maxHeartbeats 40000000 in
theorem ac21_58 (l : Launch) (Z : State) (a0 : Array Value) (hw : oHw a0 Z) (h0 : Heap) (n0 : Nat) (Z0 : n0 ≤ h0.size) (b1 : Addr) (b2 : Addr) (x3 : Int32) (x4 : Nat) (y5 : Int64) (y6 : Int64) (y7 : Int64) (p1 : Fld Z h0 b1 sP "bits" "[J" (.ref b2)) (p2 : Fld Z h0 b1 sP "words" "I" (.int x3)) (p3 : oAr Z h0 b2 .long (oRl x4 (0 : Int64) y5 y6 y7)) (p4 : oKw x4 x3) :
    oMet l Z (⟨sP, "follows", "(II)Z"⟩ : MethodName) prog_13_method_2_code 4 (some .boolean) [] ({ frames := 0, cells := 0, slots := 0, locals := 0 } : Room) 0 0 n0 #[.ref b1, .int 3, .int 2] h0 (fun v h => v = some (.int (ft21_4 y6)) ∧ h = h0) := by
  refine oMet.intro (plainFor_of_name pn_399007) (fun m => ef_21 m b1 (3 : Int32) (2 : Int32)) ?_
  intro op oe os m obl omt ocd C
  refine oIloadN C d21_0 rfl rfl ?_
  refine oIloadN C d21_1 rfl rfl ?_
  refine oIsub C d21_2 rfl ?_
  refine oCastI (z' := (1 : Int32)) (by decide) ?_
  refine oIconst C d21_3 (z := 1) rfl rfl ?_
  refine oIsub C d21_4 rfl ?_
  refine oCastI (z' := (0 : Int32)) (by decide) ?_
  refine oIstoreN C d21_5 (Ls' := #[.val (.ref b1), .val (.int 3), .val (.int 2), .val (.int 0)]) rfl (q := 6) rfl ?_
  refine oAloadN C d21_6 rfl rfl rfl ?_
  refine oGetF C (w137 hw) Via.refl p1 d21_7 rfl ?_
  refine oIloadN C d21_10 rfl rfl ?_
  refine oIconst C d21_11 (z := 1) rfl rfl ?_
  refine oIsub C d21_12 rfl ?_
  refine oCastI (z' := (2 : Int32)) (by decide) ?_
  refine oAloadN C d21_13 rfl rfl rfl ?_
  refine oGetF C (w125 hw) Via.refl p2 d21_14 rfl ?_
  refine oImul C d21_17 rfl ?_
  refine oIloadN C d21_18 rfl rfl ?_
  refine oBipush C d21_19 (z := 6) rfl rfl ?_
  refine oIushr C d21_21 rfl ?_
  refine oCastI (z' := (0 : Int32)) (by decide) ?_
  refine oIadd C d21_22 rfl ?_
  refine oLaload C p3 (own_n2 p4) (k := (2 * x4)) (own_k2 p4) (v := .long y6) (own_v2 p4) d21_23 rfl ?_
  refine oLconst C d21_24 (z := 1) rfl rfl ?_
  refine oIloadN C d21_25 rfl rfl ?_
  refine oLshl C d21_26 rfl ?_
  refine oCastL (z' := (1 : Int64)) (by decide) ?_
  refine oLand C d21_27 rfl ?_
  refine oLconst C d21_28 (z := 0) rfl rfl ?_
  refine oLcmp_eq C d21_29 rfl d21_30 (q := 37) (by decide) (by decide) (r := 33) rfl (fun hc29 => ?_) (fun hc29 => ?_)
  ·
   refine oIconst C d21_37 (z := 0) rfl rfl ?_
   refine oRetZ C d21_38 (z' := (0 : Int32)) rfl (by decide) (by decide) ?_
   exact ⟨by rw [ft21_4_def, if_pos hc29], rfl⟩
  ·
   refine oIconst C d21_33 (z := 1) rfl rfl ?_
   refine oGoto C d21_34 (q := 38) (by decide) (by decide) ?_
   refine oRetZ C d21_38 (z' := (1 : Int32)) rfl (by decide) (by decide) ?_
   exact ⟨by rw [ft21_4_def, if_neg hc29], rfl⟩
set_option maxRecDepth 65536 in
set_option maxHeartbeats 40000000 in
theorem fin1 (c21 c31 c32 c42 c43 : Int64) (dc21 : c21 = 0 ∨ c21 = 1) (dc31 : c31 = 0 ∨ c31 = 1) (dc32 : c32 = 0 ∨ c32 = 1) (dc42 : c42 = 0 ∨ c42 = 1) (dc43 : c43 = 0 ∨ c43 = 1) : (ft21_4 (oUp (1 : Int64) ((1 : Int32) &&& 0x3f).toInt64 (0 : Int64) (oUp0 (1 : Int64) (0 : Int64) (((c21 ||| (2 : Int64)) ||| (c32 <<< ((2 : Int32) &&& 0x3f).toInt64)) ||| (c42 <<< ((3 : Int32) &&& 0x3f).toInt64)) (1 : Int64)) (((c31 ||| (c32 <<< ((1 : Int32) &&& 0x3f).toInt64)) ||| (4 : Int64)) ||| (c43 <<< ((3 : Int32) &&& 0x3f).toInt64)) (2 : Int64))) = (fA32 c32) := by
  rcases dc21 with rfl | rfl <;> rcases dc31 with rfl | rfl <;> rcases dc32 with rfl | rfl <;> rcases dc42 with rfl | rfl <;> rcases dc43 with rfl | rfl <;> decide +kernel
def ft21_5 (y7 : Int64) : Int32 := (if (y7 &&& (1 : Int64)) = (0 : Int64) then (0 : Int32) else (1 : Int32))
theorem ft21_5_def (y7 : Int64) : ft21_5 y7 = (if (y7 &&& (1 : Int64)) = (0 : Int64) then (0 : Int32) else (1 : Int32)) := rfl
set_option maxRecDepth 65536 in
set_option maxHeartbeats 40000000 in
theorem ac21_59 (l : Launch) (Z : State) (a0 : Array Value) (hw : oHw a0 Z) (h0 : Heap) (n0 : Nat) (Z0 : n0 ≤ h0.size) (b1 : Addr) (b2 : Addr) (x3 : Int32) (x4 : Nat) (y5 : Int64) (y6 : Int64) (y7 : Int64) (p1 : Fld Z h0 b1 sP "bits" "[J" (.ref b2)) (p2 : Fld Z h0 b1 sP "words" "I" (.int x3)) (p3 : oAr Z h0 b2 .long (oRl x4 (0 : Int64) y5 y6 y7)) (p4 : oKw x4 x3) :
    oMet l Z (⟨sP, "follows", "(II)Z"⟩ : MethodName) prog_13_method_2_code 4 (some .boolean) [] ({ frames := 0, cells := 0, slots := 0, locals := 0 } : Room) 0 0 n0 #[.ref b1, .int 4, .int 3] h0 (fun v h => v = some (.int (ft21_5 y7)) ∧ h = h0) := by
  refine oMet.intro (plainFor_of_name pn_399007) (fun m => ef_21 m b1 (4 : Int32) (3 : Int32)) ?_
  intro op oe os m obl omt ocd C
  refine oIloadN C d21_0 rfl rfl ?_
  refine oIloadN C d21_1 rfl rfl ?_
  refine oIsub C d21_2 rfl ?_
  refine oCastI (z' := (1 : Int32)) (by decide) ?_
  refine oIconst C d21_3 (z := 1) rfl rfl ?_
  refine oIsub C d21_4 rfl ?_
  refine oCastI (z' := (0 : Int32)) (by decide) ?_
  refine oIstoreN C d21_5 (Ls' := #[.val (.ref b1), .val (.int 4), .val (.int 3), .val (.int 0)]) rfl (q := 6) rfl ?_
  refine oAloadN C d21_6 rfl rfl rfl ?_
  refine oGetF C (w137 hw) Via.refl p1 d21_7 rfl ?_
  refine oIloadN C d21_10 rfl rfl ?_
  refine oIconst C d21_11 (z := 1) rfl rfl ?_
  refine oIsub C d21_12 rfl ?_
  refine oCastI (z' := (3 : Int32)) (by decide) ?_
  refine oAloadN C d21_13 rfl rfl rfl ?_
  refine oGetF C (w125 hw) Via.refl p2 d21_14 rfl ?_
  refine oImul C d21_17 rfl ?_
  refine oIloadN C d21_18 rfl rfl ?_
  refine oBipush C d21_19 (z := 6) rfl rfl ?_
  refine oIushr C d21_21 rfl ?_
  refine oCastI (z' := (0 : Int32)) (by decide) ?_
  refine oIadd C d21_22 rfl ?_
  refine oLaload C p3 (own_n3 p4) (k := (3 * x4)) (own_k3 p4) (v := .long y7) (own_v3 p4) d21_23 rfl ?_
  refine oLconst C d21_24 (z := 1) rfl rfl ?_
  refine oIloadN C d21_25 rfl rfl ?_
  refine oLshl C d21_26 rfl ?_
  refine oCastL (z' := (1 : Int64)) (by decide) ?_
  refine oLand C d21_27 rfl ?_
  refine oLconst C d21_28 (z := 0) rfl rfl ?_
  refine oLcmp_eq C d21_29 rfl d21_30 (q := 37) (by decide) (by decide) (r := 33) rfl (fun hc29 => ?_) (fun hc29 => ?_)
  ·
   refine oIconst C d21_37 (z := 0) rfl rfl ?_
   refine oRetZ C d21_38 (z' := (0 : Int32)) rfl (by decide) (by decide) ?_
   exact ⟨by rw [ft21_5_def, if_pos hc29], rfl⟩
  ·
   refine oIconst C d21_33 (z := 1) rfl rfl ?_
   refine oGoto C d21_34 (q := 38) (by decide) (by decide) ?_
   refine oRetZ C d21_38 (z' := (1 : Int32)) rfl (by decide) (by decide) ?_
   exact ⟨by rw [ft21_5_def, if_neg hc29], rfl⟩
set_option maxRecDepth 65536 in
set_option maxHeartbeats 40000000 in
theorem fin2 (c21 c31 c41 c32 c42 c43 : Int64) (dc21 : c21 = 0 ∨ c21 = 1) (dc31 : c31 = 0 ∨ c31 = 1) (dc41 : c41 = 0 ∨ c41 = 1) (dc32 : c32 = 0 ∨ c32 = 1) (dc42 : c42 = 0 ∨ c42 = 1) (dc43 : c43 = 0 ∨ c43 = 1) : (ft21_5 (oUp (1 : Int64) ((1 : Int32) &&& 0x3f).toInt64 (0 : Int64) (oUp (1 : Int64) ((1 : Int32) &&& 0x3f).toInt64 (0 : Int64) (oUp0 (1 : Int64) (0 : Int64) (((c21 ||| (2 : Int64)) ||| (c32 <<< ((2 : Int32) &&& 0x3f).toInt64)) ||| (c42 <<< ((3 : Int32) &&& 0x3f).toInt64)) (1 : Int64)) (((c31 ||| (c32 <<< ((1 : Int32) &&& 0x3f).toInt64)) ||| (4 : Int64)) ||| (c43 <<< ((3 : Int32) &&& 0x3f).toInt64)) (2 : Int64)) (((c41 ||| (c42 <<< ((1 : Int32) &&& 0x3f).toInt64)) ||| (c43 <<< ((2 : Int32) &&& 0x3f).toInt64)) ||| (8 : Int64)) (4 : Int64))) = (fA43 c43) := by
  rcases dc21 with rfl | rfl <;> rcases dc31 with rfl | rfl <;> rcases dc41 with rfl | rfl <;> rcases dc32 with rfl | rfl <;> rcases dc42 with rfl | rfl <;> rcases dc43 with rfl | rfl <;> decide +kernel
def ft21_6 (y7 : Int64) : Int32 := (if (y7 &&& (2 : Int64)) = (0 : Int64) then (0 : Int32) else (1 : Int32))
theorem ft21_6_def (y7 : Int64) : ft21_6 y7 = (if (y7 &&& (2 : Int64)) = (0 : Int64) then (0 : Int32) else (1 : Int32)) := rfl
set_option maxRecDepth 65536 in
set_option maxHeartbeats 40000000 in
theorem ac21_60 (l : Launch) (Z : State) (a0 : Array Value) (hw : oHw a0 Z) (h0 : Heap) (n0 : Nat) (Z0 : n0 ≤ h0.size) (b1 : Addr) (b2 : Addr) (x3 : Int32) (x4 : Nat) (y5 : Int64) (y6 : Int64) (y7 : Int64) (p1 : Fld Z h0 b1 sP "bits" "[J" (.ref b2)) (p2 : Fld Z h0 b1 sP "words" "I" (.int x3)) (p3 : oAr Z h0 b2 .long (oRl x4 (0 : Int64) y5 y6 y7)) (p4 : oKw x4 x3) :
    oMet l Z (⟨sP, "follows", "(II)Z"⟩ : MethodName) prog_13_method_2_code 4 (some .boolean) [] ({ frames := 0, cells := 0, slots := 0, locals := 0 } : Room) 0 0 n0 #[.ref b1, .int 4, .int 2] h0 (fun v h => v = some (.int (ft21_6 y7)) ∧ h = h0) := by
  refine oMet.intro (plainFor_of_name pn_399007) (fun m => ef_21 m b1 (4 : Int32) (2 : Int32)) ?_
  intro op oe os m obl omt ocd C
  refine oIloadN C d21_0 rfl rfl ?_
  refine oIloadN C d21_1 rfl rfl ?_
  refine oIsub C d21_2 rfl ?_
  refine oCastI (z' := (2 : Int32)) (by decide) ?_
  refine oIconst C d21_3 (z := 1) rfl rfl ?_
  refine oIsub C d21_4 rfl ?_
  refine oCastI (z' := (1 : Int32)) (by decide) ?_
  refine oIstoreN C d21_5 (Ls' := #[.val (.ref b1), .val (.int 4), .val (.int 2), .val (.int 1)]) rfl (q := 6) rfl ?_
  refine oAloadN C d21_6 rfl rfl rfl ?_
  refine oGetF C (w137 hw) Via.refl p1 d21_7 rfl ?_
  refine oIloadN C d21_10 rfl rfl ?_
  refine oIconst C d21_11 (z := 1) rfl rfl ?_
  refine oIsub C d21_12 rfl ?_
  refine oCastI (z' := (3 : Int32)) (by decide) ?_
  refine oAloadN C d21_13 rfl rfl rfl ?_
  refine oGetF C (w125 hw) Via.refl p2 d21_14 rfl ?_
  refine oImul C d21_17 rfl ?_
  refine oIloadN C d21_18 rfl rfl ?_
  refine oBipush C d21_19 (z := 6) rfl rfl ?_
  refine oIushr C d21_21 rfl ?_
  refine oCastI (z' := (0 : Int32)) (by decide) ?_
  refine oIadd C d21_22 rfl ?_
  refine oLaload C p3 (own_n3 p4) (k := (3 * x4)) (own_k3 p4) (v := .long y7) (own_v3 p4) d21_23 rfl ?_
  refine oLconst C d21_24 (z := 1) rfl rfl ?_
  refine oIloadN C d21_25 rfl rfl ?_
  refine oLshl C d21_26 rfl ?_
  refine oCastL (z' := (2 : Int64)) (by decide) ?_
  refine oLand C d21_27 rfl ?_
  refine oLconst C d21_28 (z := 0) rfl rfl ?_
  refine oLcmp_eq C d21_29 rfl d21_30 (q := 37) (by decide) (by decide) (r := 33) rfl (fun hc29 => ?_) (fun hc29 => ?_)
  ·
   refine oIconst C d21_37 (z := 0) rfl rfl ?_
   refine oRetZ C d21_38 (z' := (0 : Int32)) rfl (by decide) (by decide) ?_
   exact ⟨by rw [ft21_6_def, if_pos hc29], rfl⟩
  ·
   refine oIconst C d21_33 (z := 1) rfl rfl ?_
   refine oGoto C d21_34 (q := 38) (by decide) (by decide) ?_
   refine oRetZ C d21_38 (z' := (1 : Int32)) rfl (by decide) (by decide) ?_
   exact ⟨by rw [ft21_6_def, if_neg hc29], rfl⟩
set_option maxRecDepth 65536 in
set_option maxHeartbeats 40000000 in
theorem ac28_61 (l : Launch) (Z : State) (a0 : Array Value) (hw : oHw a0 Z) (h0 : Heap) (n0 : Nat) (Z0 : n0 ≤ h0.size) (b1 : Addr) (x2 : Int32) (b3 : Addr) (x4 : Nat) (y5 : Int64) (y6 : Int64) (y7 : Int64) (p1 : Fld Z h0 b1 sP "words" "I" (.int x2)) (p2 : Fld Z h0 b1 sP "bits" "[J" (.ref b3)) (p3 : oAr Z h0 b3 .long (oRl x4 (0 : Int64) y5 y6 y7)) (p4 : oKw x4 x2) (p5 : b1 ≠ b3) (p6 : n0 ≤ b3) (p7 : ((y5.toUInt64 >>> ((62 : Int32) &&& 0x3f).toInt64.toUInt64).toInt64) = (0 : Int64)) :
    oMet l Z (⟨sP, "followAlong", "(II)V"⟩ : MethodName) prog_13_method_3_code 11 none [] ({ frames := 0, cells := 0, slots := 0, locals := 0 } : Room) 0 0 n0 #[.ref b1, .int 4, .int 2] h0 (fun v h => v = none ∧ oKe h0 h [b3] [] ∧ oAr Z h b3 .long (oRl x4 (0 : Int64) y5 y6 ((y7 ||| (y5 <<< ((2 : Int32) &&& 0x3f).toInt64)) ||| (2 : Int64)))) := by
  refine oMet.intro (plainFor_of_name pn_399007) (fun m => ef_28 m b1 (4 : Int32) (2 : Int32)) ?_
  intro op oe os m obl omt ocd C
  refine oIloadN C d28_0 rfl rfl ?_
  refine oIloadN C d28_1 rfl rfl ?_
  refine oIsub C d28_2 rfl ?_
  refine oCastI (z' := (2 : Int32)) (by decide) ?_
  refine oIstoreN C d28_3 (Ls' := #[.val (.ref b1), .val (.int 4), .val (.int 2), .val (.int 2), .unset, .unset, .unset, .unset, .unset, .unset, .unset]) rfl (q := 4) rfl ?_
  refine oIloadN C d28_4 rfl rfl ?_
  refine oIconst C d28_5 (z := 1) rfl rfl ?_
  refine oIsub C d28_6 rfl ?_
  refine oCastI (z' := (3 : Int32)) (by decide) ?_
  refine oAloadN C d28_7 rfl rfl rfl ?_
  refine oGetF C (w125 hw) Via.refl p1 d28_8 rfl ?_
  refine oImul C d28_11 rfl ?_
  refine oIstore C d28_12 (Ls' := #[.val (.ref b1), .val (.int 4), .val (.int 2), .val (.int 2), .val (.int ((3 : Int32) * x2)), .unset, .unset, .unset, .unset, .unset, .unset]) rfl (q := 14) rfl ?_
  refine oIloadN C d28_14 rfl rfl ?_
  refine oIconst C d28_15 (z := 1) rfl rfl ?_
  refine oIsub C d28_16 rfl ?_
  refine oCastI (z' := (1 : Int32)) (by decide) ?_
  refine oAloadN C d28_17 rfl rfl rfl ?_
  refine oGetF C (w125 hw) Via.refl p1 d28_18 rfl ?_
  refine oImul C d28_21 rfl ?_
  refine oIstore C d28_22 (Ls' := #[.val (.ref b1), .val (.int 4), .val (.int 2), .val (.int 2), .val (.int ((3 : Int32) * x2)), .val (.int ((1 : Int32) * x2)), .unset, .unset, .unset, .unset, .unset]) rfl (q := 24) rfl ?_
  refine oIloadN C d28_24 rfl rfl ?_
  refine oBipush C d28_25 (z := 6) rfl rfl ?_
  refine oIushr C d28_27 rfl ?_
  refine oCastI (z' := (0 : Int32)) (by decide) ?_
  refine oIstore C d28_28 (Ls' := #[.val (.ref b1), .val (.int 4), .val (.int 2), .val (.int 2), .val (.int ((3 : Int32) * x2)), .val (.int ((1 : Int32) * x2)), .val (.int 0), .unset, .unset, .unset, .unset]) rfl (q := 30) rfl ?_
  refine oIloadN C d28_30 rfl rfl ?_
  refine oBipush C d28_31 (z := 63) rfl rfl ?_
  refine oIand C d28_33 rfl ?_
  refine oCastI (z' := (2 : Int32)) (by decide) ?_
  refine oIstore C d28_34 (Ls' := #[.val (.ref b1), .val (.int 4), .val (.int 2), .val (.int 2), .val (.int ((3 : Int32) * x2)), .val (.int ((1 : Int32) * x2)), .val (.int 0), .val (.int 2), .unset, .unset, .unset]) rfl (q := 36) rfl ?_
  refine oAloadN C d28_36 rfl rfl rfl ?_
  refine oGetF C (w125 hw) Via.refl p1 d28_37 rfl ?_
  refine oIconst C d28_40 (z := 1) rfl rfl ?_
  refine oIsub C d28_41 rfl ?_
  refine oIstore C d28_42 (Ls' := #[.val (.ref b1), .val (.int 4), .val (.int 2), .val (.int 2), .val (.int ((3 : Int32) * x2)), .val (.int ((1 : Int32) * x2)), .val (.int 0), .val (.int 2), .val (.int (x2 - (1 : Int32))), .unset, .unset]) rfl (q := 44) rfl ?_
  refine oLoop (α := Heap × Int32 × Bool) (fun t w => oKe h0 w.1 [b3] [] ∧ oAr Z w.1 b3 .long (oRl x4 (0 : Int64) y5 y6 y7) ∧ oNx x4 t w.2.1) (fun w => w.1) (fun w => (mkF m 44 #[.val (.ref b1), .val (.int 4), .val (.int 2), .val (.int 2), .val (.int ((3 : Int32) * x2)), .val (.int ((1 : Int32) * x2)), .val (.int 0), .val (.int 2), .val (.int w.2.1), (bif w.2.2 then .val (.long 0) else .unset), (bif w.2.2 then .second else .unset)] [])) (k := 0) (n := 0) ?_ (x4 - 1) (h0, (x2 - (1 : Int32)), false) ⟨oKe.refl _ _ _, p3, own_nx0 p4⟩
  rintro t ih ⟨hl, x, sl⟩ ⟨Kl0, Al0, nx⟩
  have Kl : oKe h0 hl [b3] [] := Kl0
  have Al : oAr Z hl b3 .long (oRl x4 (0 : Int64) y5 y6 y7) := Al0
  rcases t with _ | t <;> cases sl
  ·
   obtain rfl : x = 0 := nx.2
   show oW _ _ _ _ _ _ _ _ _ _ _ _ _ _ _ (mkF m 44 #[.val (.ref b1), .val (.int 4), .val (.int 2), .val (.int 2), .val (.int ((3 : Int32) * x2)), .val (.int ((1 : Int32) * x2)), .val (.int 0), .val (.int 2), .val (.int 0), .unset, .unset] [])
   refine oIload C d28_44 rfl rfl ?_
   refine oIload C d28_46 rfl rfl ?_
   refine oIcmp_lt C d28_48 (q := 128) (by decide) (by decide) (r := 51) rfl (fun hq => absurd hq ((by decide))) (fun hc48 => ?_)
   refine oAloadN C d28_51 rfl rfl rfl ?_
   have f2 := (Kl.fld p2 (ninS p5 nin0) oN0)
   refine oGetF C (w137 hw) Via.refl f2 d28_52 rfl ?_
   refine oIload C d28_55 rfl rfl ?_
   refine oIload C d28_57 rfl rfl ?_
   refine oIadd C d28_59 rfl ?_
   refine oIload C d28_60 rfl rfl ?_
   refine oIsub C d28_62 rfl ?_
   refine oCastI (z' := (((1 : Int32) * x2) + (0 : Int32))) (own_s0 (((1 : Int32) * x2) + (0 : Int32))) ?_
   refine oLaload C Al (own_n1 p4) (k := (1 * x4)) (own_k1 p4) (v := .long y5) (own_v1 p4) d28_63 rfl ?_
   refine oIload C d28_64 rfl rfl ?_
   refine oLshl C d28_66 rfl ?_
   refine oLstore C d28_67 (Ls' := #[.val (.ref b1), .val (.int 4), .val (.int 2), .val (.int 2), .val (.int ((3 : Int32) * x2)), .val (.int ((1 : Int32) * x2)), .val (.int 0), .val (.int 2), .val (.int 0), .val (.long (y5 <<< ((2 : Int32) &&& 0x3f).toInt64)), .second]) rfl (q := 69) rfl ?_
   refine oIload C d28_69 rfl rfl ?_
   refine oIf_eq C d28_71 (q := 107) (by decide) (by decide) (r := 74) rfl (fun hq => absurd hq ((by decide))) (fun hc71 => ?_)
   refine oIload C d28_74 rfl rfl ?_
   refine oIload C d28_76 rfl rfl ?_
   refine oIcmp_le C d28_78 (q := 107) (by decide) (by decide) (r := 81) rfl (fun hc78 => ?_) (fun hq => absurd hq ((by decide)))
   refine oAloadN C d28_107 rfl rfl rfl ?_
   refine oGetF C (w137 hw) Via.refl f2 d28_108 rfl ?_
   refine oIload C d28_111 rfl rfl ?_
   refine oIload C d28_113 rfl rfl ?_
   refine oIadd C d28_115 rfl ?_
   refine oDup2 C d28_116 rfl rfl rfl ?_
   refine oLaload C Al (own_n3 p4) (k := (3 * x4)) (own_k3 p4) (v := .long y7) (own_v3 p4) d28_117 rfl ?_
   refine oLload C d28_118 rfl rfl ?_
   refine oLor C d28_120 rfl ?_
   refine oLastore C Al (own_n3 p4) (k := (3 * x4)) (own_k3 p4) (v := .long y7) (own_v3 p4) (v' := .long (y7 ||| (y5 <<< ((2 : Int32) &&& 0x3f).toInt64))) rfl d28_121 rfl p6 fun h3 W3 A3 => ?_
   have A3l : oAr Z h3 b3 .long (oRl x4 (0 : Int64) y5 y6 (y7 ||| (y5 <<< ((2 : Int32) &&& 0x3f).toInt64))) := by rw [← own_t3 p4]; exact A3
   refine oIinc C d28_122 rfl (z := (-1)) rfl (w := (-1 : Int32)) (by decide) (Ls' := #[.val (.ref b1), .val (.int 4), .val (.int 2), .val (.int 2), .val (.int ((3 : Int32) * x2)), .val (.int ((1 : Int32) * x2)), .val (.int 0), .val (.int 2), .val (.int (-1)), .val (.long (y5 <<< ((2 : Int32) &&& 0x3f).toInt64)), .second]) rfl rfl ?_
   refine oGoto C d28_125 (q := 44) (by decide) (by decide) ?_
   refine oIload C d28_44 rfl rfl ?_
   refine oIload C d28_46 rfl rfl ?_
   refine oIcmp_lt C d28_48 (q := 128) (by decide) (by decide) (r := 51) rfl (fun hc48_1 => ?_) (fun hq => absurd hq ((by decide)))
   refine oIloadN C d28_128 rfl rfl ?_
   refine oIconst C d28_129 (z := 1) rfl rfl ?_
   refine oIsub C d28_130 rfl ?_
   refine oCastI (z' := (1 : Int32)) (by decide) ?_
   refine oIstore C d28_131 (Ls' := #[.val (.ref b1), .val (.int 4), .val (.int 2), .val (.int 2), .val (.int ((3 : Int32) * x2)), .val (.int ((1 : Int32) * x2)), .val (.int 0), .val (.int 2), .val (.int 1), .val (.long (y5 <<< ((2 : Int32) &&& 0x3f).toInt64)), .second]) rfl (q := 133) rfl ?_
   refine oAloadN C d28_133 rfl rfl rfl ?_
   have f4 := (Fld.other W3 f2 (Or.inl p5))
   refine oGetF C (w137 hw) Via.refl f4 d28_134 rfl ?_
   refine oIload C d28_137 rfl rfl ?_
   refine oIload C d28_139 rfl rfl ?_
   refine oBipush C d28_141 (z := 6) rfl rfl ?_
   refine oIushr C d28_143 rfl ?_
   refine oCastI (z' := (0 : Int32)) (by decide) ?_
   refine oIadd C d28_144 rfl ?_
   refine oDup2 C d28_145 rfl rfl rfl ?_
   refine oLaload C A3l (own_n3 p4) (k := (3 * x4)) (own_k3 p4) (v := .long (y7 ||| (y5 <<< ((2 : Int32) &&& 0x3f).toInt64))) (own_v3 p4) d28_146 rfl ?_
   refine oLconst C d28_147 (z := 1) rfl rfl ?_
   refine oIload C d28_148 rfl rfl ?_
   refine oLshl C d28_150 rfl ?_
   refine oCastL (z' := (2 : Int64)) (by decide) ?_
   refine oLor C d28_151 rfl ?_
   refine oLastore C A3l (own_n3 p4) (k := (3 * x4)) (own_k3 p4) (v := .long (y7 ||| (y5 <<< ((2 : Int32) &&& 0x3f).toInt64))) (own_v3 p4) (v' := .long ((y7 ||| (y5 <<< ((2 : Int32) &&& 0x3f).toInt64)) ||| (2 : Int64))) rfl d28_152 rfl p6 fun h5 W5 A5 => ?_
   have A5l : oAr Z h5 b3 .long (oRl x4 (0 : Int64) y5 y6 ((y7 ||| (y5 <<< ((2 : Int32) &&& 0x3f).toInt64)) ||| (2 : Int64))) := by rw [← own_t3 p4]; exact A5
   refine oRetV C d28_153 (by decide) (by decide) ?_
   exact ⟨rfl, ((((oKe.refl h0 [b3] []).trans Kl (allS (Or.inl (List.mem_of_getElem? (i := 0) rfl)) all0) oA0).wrA W3 (Or.inl (List.mem_of_getElem? (i := 0) rfl))).wrA W5 (Or.inl (List.mem_of_getElem? (i := 0) rfl))), A5l⟩
  ·
   obtain rfl : x = 0 := nx.2
   show oW _ _ _ _ _ _ _ _ _ _ _ _ _ _ _ (mkF m 44 #[.val (.ref b1), .val (.int 4), .val (.int 2), .val (.int 2), .val (.int ((3 : Int32) * x2)), .val (.int ((1 : Int32) * x2)), .val (.int 0), .val (.int 2), .val (.int 0), .val (.long 0), .second] [])
   refine oIload C d28_44 rfl rfl ?_
   refine oIload C d28_46 rfl rfl ?_
   refine oIcmp_lt C d28_48 (q := 128) (by decide) (by decide) (r := 51) rfl (fun hq => absurd hq ((by decide))) (fun hc48 => ?_)
   refine oAloadN C d28_51 rfl rfl rfl ?_
   have f6 := (Kl.fld p2 (ninS p5 nin0) oN0)
   refine oGetF C (w137 hw) Via.refl f6 d28_52 rfl ?_
   refine oIload C d28_55 rfl rfl ?_
   refine oIload C d28_57 rfl rfl ?_
   refine oIadd C d28_59 rfl ?_
   refine oIload C d28_60 rfl rfl ?_
   refine oIsub C d28_62 rfl ?_
   refine oCastI (z' := (((1 : Int32) * x2) + (0 : Int32))) (own_s0 (((1 : Int32) * x2) + (0 : Int32))) ?_
   refine oLaload C Al (own_n1 p4) (k := (1 * x4)) (own_k1 p4) (v := .long y5) (own_v1 p4) d28_63 rfl ?_
   refine oIload C d28_64 rfl rfl ?_
   refine oLshl C d28_66 rfl ?_
   refine oLstore C d28_67 (Ls' := #[.val (.ref b1), .val (.int 4), .val (.int 2), .val (.int 2), .val (.int ((3 : Int32) * x2)), .val (.int ((1 : Int32) * x2)), .val (.int 0), .val (.int 2), .val (.int 0), .val (.long (y5 <<< ((2 : Int32) &&& 0x3f).toInt64)), .second]) rfl (q := 69) rfl ?_
   refine oIload C d28_69 rfl rfl ?_
   refine oIf_eq C d28_71 (q := 107) (by decide) (by decide) (r := 74) rfl (fun hq => absurd hq ((by decide))) (fun hc71 => ?_)
   refine oIload C d28_74 rfl rfl ?_
   refine oIload C d28_76 rfl rfl ?_
   refine oIcmp_le C d28_78 (q := 107) (by decide) (by decide) (r := 81) rfl (fun hc78 => ?_) (fun hq => absurd hq ((by decide)))
   refine oAloadN C d28_107 rfl rfl rfl ?_
   refine oGetF C (w137 hw) Via.refl f6 d28_108 rfl ?_
   refine oIload C d28_111 rfl rfl ?_
   refine oIload C d28_113 rfl rfl ?_
   refine oIadd C d28_115 rfl ?_
   refine oDup2 C d28_116 rfl rfl rfl ?_
   refine oLaload C Al (own_n3 p4) (k := (3 * x4)) (own_k3 p4) (v := .long y7) (own_v3 p4) d28_117 rfl ?_
   refine oLload C d28_118 rfl rfl ?_
   refine oLor C d28_120 rfl ?_
   refine oLastore C Al (own_n3 p4) (k := (3 * x4)) (own_k3 p4) (v := .long y7) (own_v3 p4) (v' := .long (y7 ||| (y5 <<< ((2 : Int32) &&& 0x3f).toInt64))) rfl d28_121 rfl p6 fun h7 W7 A7 => ?_
   have A7l : oAr Z h7 b3 .long (oRl x4 (0 : Int64) y5 y6 (y7 ||| (y5 <<< ((2 : Int32) &&& 0x3f).toInt64))) := by rw [← own_t3 p4]; exact A7
   refine oIinc C d28_122 rfl (z := (-1)) rfl (w := (-1 : Int32)) (by decide) (Ls' := #[.val (.ref b1), .val (.int 4), .val (.int 2), .val (.int 2), .val (.int ((3 : Int32) * x2)), .val (.int ((1 : Int32) * x2)), .val (.int 0), .val (.int 2), .val (.int (-1)), .val (.long (y5 <<< ((2 : Int32) &&& 0x3f).toInt64)), .second]) rfl rfl ?_
   refine oGoto C d28_125 (q := 44) (by decide) (by decide) ?_
   refine oIload C d28_44 rfl rfl ?_
   refine oIload C d28_46 rfl rfl ?_
   refine oIcmp_lt C d28_48 (q := 128) (by decide) (by decide) (r := 51) rfl (fun hc48_1 => ?_) (fun hq => absurd hq ((by decide)))
   refine oIloadN C d28_128 rfl rfl ?_
   refine oIconst C d28_129 (z := 1) rfl rfl ?_
   refine oIsub C d28_130 rfl ?_
   refine oCastI (z' := (1 : Int32)) (by decide) ?_
   refine oIstore C d28_131 (Ls' := #[.val (.ref b1), .val (.int 4), .val (.int 2), .val (.int 2), .val (.int ((3 : Int32) * x2)), .val (.int ((1 : Int32) * x2)), .val (.int 0), .val (.int 2), .val (.int 1), .val (.long (y5 <<< ((2 : Int32) &&& 0x3f).toInt64)), .second]) rfl (q := 133) rfl ?_
   refine oAloadN C d28_133 rfl rfl rfl ?_
   have f8 := (Fld.other W7 f6 (Or.inl p5))
   refine oGetF C (w137 hw) Via.refl f8 d28_134 rfl ?_
   refine oIload C d28_137 rfl rfl ?_
   refine oIload C d28_139 rfl rfl ?_
   refine oBipush C d28_141 (z := 6) rfl rfl ?_
   refine oIushr C d28_143 rfl ?_
   refine oCastI (z' := (0 : Int32)) (by decide) ?_
   refine oIadd C d28_144 rfl ?_
   refine oDup2 C d28_145 rfl rfl rfl ?_
   refine oLaload C A7l (own_n3 p4) (k := (3 * x4)) (own_k3 p4) (v := .long (y7 ||| (y5 <<< ((2 : Int32) &&& 0x3f).toInt64))) (own_v3 p4) d28_146 rfl ?_
   refine oLconst C d28_147 (z := 1) rfl rfl ?_
   refine oIload C d28_148 rfl rfl ?_
   refine oLshl C d28_150 rfl ?_
   refine oCastL (z' := (2 : Int64)) (by decide) ?_
   refine oLor C d28_151 rfl ?_
   refine oLastore C A7l (own_n3 p4) (k := (3 * x4)) (own_k3 p4) (v := .long (y7 ||| (y5 <<< ((2 : Int32) &&& 0x3f).toInt64))) (own_v3 p4) (v' := .long ((y7 ||| (y5 <<< ((2 : Int32) &&& 0x3f).toInt64)) ||| (2 : Int64))) rfl d28_152 rfl p6 fun h9 W9 A9 => ?_
   have A9l : oAr Z h9 b3 .long (oRl x4 (0 : Int64) y5 y6 ((y7 ||| (y5 <<< ((2 : Int32) &&& 0x3f).toInt64)) ||| (2 : Int64))) := by rw [← own_t3 p4]; exact A9
   refine oRetV C d28_153 (by decide) (by decide) ?_
   exact ⟨rfl, ((((oKe.refl h0 [b3] []).trans Kl (allS (Or.inl (List.mem_of_getElem? (i := 0) rfl)) all0) oA0).wrA W7 (Or.inl (List.mem_of_getElem? (i := 0) rfl))).wrA W9 (Or.inl (List.mem_of_getElem? (i := 0) rfl))), A9l⟩
  ·
   show oW _ _ _ _ _ _ _ _ _ _ _ _ _ _ _ (mkF m 44 #[.val (.ref b1), .val (.int 4), .val (.int 2), .val (.int 2), .val (.int ((3 : Int32) * x2)), .val (.int ((1 : Int32) * x2)), .val (.int 0), .val (.int 2), .val (.int x), .unset, .unset] [])
   refine oIload C d28_44 rfl rfl ?_
   refine oIload C d28_46 rfl rfl ?_
   refine oIcmp_lt C d28_48 (q := 128) (by decide) (by decide) (r := 51) rfl (fun hq => absurd hq ((own_nl p4 nx))) (fun hc48 => ?_)
   refine oAloadN C d28_51 rfl rfl rfl ?_
   have f10 := (Kl.fld p2 (ninS p5 nin0) oN0)
   refine oGetF C (w137 hw) Via.refl f10 d28_52 rfl ?_
   refine oIload C d28_55 rfl rfl ?_
   refine oIload C d28_57 rfl rfl ?_
   refine oIadd C d28_59 rfl ?_
   refine oIload C d28_60 rfl rfl ?_
   refine oIsub C d28_62 rfl ?_
   refine oCastI (z' := (((1 : Int32) * x2) + x)) (own_s0 (((1 : Int32) * x2) + x)) ?_
   refine oLaload C Al (own_mn1 p4 nx) (k := (1 * x4 + (t + 1))) (own_mk1 p4 nx) (v := .long 0) (own_mv1 p4 nx) d28_63 rfl ?_
   refine oIload C d28_64 rfl rfl ?_
   refine oLshl C d28_66 rfl ?_
   refine oCastL (z' := (0 : Int64)) (by decide) ?_
   refine oLstore C d28_67 (Ls' := #[.val (.ref b1), .val (.int 4), .val (.int 2), .val (.int 2), .val (.int ((3 : Int32) * x2)), .val (.int ((1 : Int32) * x2)), .val (.int 0), .val (.int 2), .val (.int x), .val (.long 0), .second]) rfl (q := 69) rfl ?_
   refine oIload C d28_69 rfl rfl ?_
   refine oIf_eq C d28_71 (q := 107) (by decide) (by decide) (r := 74) rfl (fun hq => absurd hq ((by decide))) (fun hc71 => ?_)
   refine oIload C d28_74 rfl rfl ?_
   refine oIload C d28_76 rfl rfl ?_
   refine oIcmp_le C d28_78 (q := 107) (by decide) (by decide) (r := 81) rfl (fun hq => absurd hq ((not_not_intro (own_pl p4 nx)))) (fun hc78 => ?_)
   refine oLload C d28_81 rfl rfl ?_
   refine oAloadN C d28_83 rfl rfl rfl ?_
   refine oGetF C (w137 hw) Via.refl f10 d28_84 rfl ?_
   refine oIload C d28_87 rfl rfl ?_
   refine oIload C d28_89 rfl rfl ?_
   refine oIadd C d28_91 rfl ?_
   refine oIload C d28_92 rfl rfl ?_
   refine oIsub C d28_94 rfl ?_
   refine oCastI (z' := (((1 : Int32) * x2) + x)) (own_s0 (((1 : Int32) * x2) + x)) ?_
   refine oIconst C d28_95 (z := 1) rfl rfl ?_
   refine oIsub C d28_96 rfl ?_
   refine oLaload C Al (own_pn1 p4 nx) (k := (1 * x4 + t)) (own_pk1 p4 nx) (v := .long (oEl t y5)) (own_pv1 p4 nx) d28_97 rfl ?_
   refine oBipush C d28_98 (z := 64) rfl rfl ?_
   refine oIload C d28_100 rfl rfl ?_
   refine oIsub C d28_102 rfl ?_
   refine oCastI (z' := (62 : Int32)) (by decide) ?_
   refine oLushr C d28_103 rfl ?_
   refine oCastL (z' := (0 : Int64)) (own_es p7 (by decide)) ?_
   refine oLor C d28_104 rfl ?_
   refine oCastL (z' := (0 : Int64)) (by decide) ?_
   refine oLstore C d28_105 (Ls' := #[.val (.ref b1), .val (.int 4), .val (.int 2), .val (.int 2), .val (.int ((3 : Int32) * x2)), .val (.int ((1 : Int32) * x2)), .val (.int 0), .val (.int 2), .val (.int x), .val (.long 0), .second]) rfl (q := 107) rfl ?_
   refine oAloadN C d28_107 rfl rfl rfl ?_
   refine oGetF C (w137 hw) Via.refl f10 d28_108 rfl ?_
   refine oIload C d28_111 rfl rfl ?_
   refine oIload C d28_113 rfl rfl ?_
   refine oIadd C d28_115 rfl ?_
   refine oDup2 C d28_116 rfl rfl rfl ?_
   refine oLaload C Al (own_mn3 p4 nx) (k := (3 * x4 + (t + 1))) (own_mk3 p4 nx) (v := .long 0) (own_mv3 p4 nx) d28_117 rfl ?_
   refine oLload C d28_118 rfl rfl ?_
   refine oLor C d28_120 rfl ?_
   refine oCastL (z' := (0 : Int64)) (by decide) ?_
   refine oLastore C Al (own_mn3 p4 nx) (k := (3 * x4 + (t + 1))) (own_mk3 p4 nx) (v := .long 0) (own_mv3 p4 nx) (v' := .long 0) rfl d28_121 rfl p6 fun h11 W11 A11 => ?_
   have A11l : oAr Z h11 b3 .long (oRl x4 (0 : Int64) y5 y6 y7) := by rw [← own_mt3 p4 nx]; exact A11
   refine oIinc C d28_122 rfl (z := (-1)) rfl (w := (x + (-1 : Int32))) rfl (Ls' := #[.val (.ref b1), .val (.int 4), .val (.int 2), .val (.int 2), .val (.int ((3 : Int32) * x2)), .val (.int ((1 : Int32) * x2)), .val (.int 0), .val (.int 2), .val (.int (x + (-1 : Int32))), .val (.long 0), .second]) rfl rfl ?_
   refine oGoto C d28_125 (q := 44) (by decide) (by decide) ?_
   exact ih t (Nat.lt_succ_self t) (h11, (x + (-1 : Int32)), true) ⟨(((oKe.refl h0 [b3] []).trans Kl (allS (Or.inl (List.mem_of_getElem? (i := 0) rfl)) all0) oA0).wrA W11 (Or.inl (List.mem_of_getElem? (i := 0) rfl))), A11l, own_nxs p4 nx⟩
  ·
   show oW _ _ _ _ _ _ _ _ _ _ _ _ _ _ _ (mkF m 44 #[.val (.ref b1), .val (.int 4), .val (.int 2), .val (.int 2), .val (.int ((3 : Int32) * x2)), .val (.int ((1 : Int32) * x2)), .val (.int 0), .val (.int 2), .val (.int x), .val (.long 0), .second] [])
   refine oIload C d28_44 rfl rfl ?_
   refine oIload C d28_46 rfl rfl ?_
   refine oIcmp_lt C d28_48 (q := 128) (by decide) (by decide) (r := 51) rfl (fun hq => absurd hq ((own_nl p4 nx))) (fun hc48 => ?_)
   refine oAloadN C d28_51 rfl rfl rfl ?_
   have f12 := (Kl.fld p2 (ninS p5 nin0) oN0)
   refine oGetF C (w137 hw) Via.refl f12 d28_52 rfl ?_
   refine oIload C d28_55 rfl rfl ?_
   refine oIload C d28_57 rfl rfl ?_
   refine oIadd C d28_59 rfl ?_
   refine oIload C d28_60 rfl rfl ?_
   refine oIsub C d28_62 rfl ?_
   refine oCastI (z' := (((1 : Int32) * x2) + x)) (own_s0 (((1 : Int32) * x2) + x)) ?_
   refine oLaload C Al (own_mn1 p4 nx) (k := (1 * x4 + (t + 1))) (own_mk1 p4 nx) (v := .long 0) (own_mv1 p4 nx) d28_63 rfl ?_
   refine oIload C d28_64 rfl rfl ?_
   refine oLshl C d28_66 rfl ?_
   refine oCastL (z' := (0 : Int64)) (by decide) ?_
   refine oLstore C d28_67 (Ls' := #[.val (.ref b1), .val (.int 4), .val (.int 2), .val (.int 2), .val (.int ((3 : Int32) * x2)), .val (.int ((1 : Int32) * x2)), .val (.int 0), .val (.int 2), .val (.int x), .val (.long 0), .second]) rfl (q := 69) rfl ?_
   refine oIload C d28_69 rfl rfl ?_
   refine oIf_eq C d28_71 (q := 107) (by decide) (by decide) (r := 74) rfl (fun hq => absurd hq ((by decide))) (fun hc71 => ?_)
   refine oIload C d28_74 rfl rfl ?_
   refine oIload C d28_76 rfl rfl ?_
   refine oIcmp_le C d28_78 (q := 107) (by decide) (by decide) (r := 81) rfl (fun hq => absurd hq ((not_not_intro (own_pl p4 nx)))) (fun hc78 => ?_)
   refine oLload C d28_81 rfl rfl ?_
   refine oAloadN C d28_83 rfl rfl rfl ?_
   refine oGetF C (w137 hw) Via.refl f12 d28_84 rfl ?_
   refine oIload C d28_87 rfl rfl ?_
   refine oIload C d28_89 rfl rfl ?_
   refine oIadd C d28_91 rfl ?_
   refine oIload C d28_92 rfl rfl ?_
   refine oIsub C d28_94 rfl ?_
   refine oCastI (z' := (((1 : Int32) * x2) + x)) (own_s0 (((1 : Int32) * x2) + x)) ?_
   refine oIconst C d28_95 (z := 1) rfl rfl ?_
   refine oIsub C d28_96 rfl ?_
   refine oLaload C Al (own_pn1 p4 nx) (k := (1 * x4 + t)) (own_pk1 p4 nx) (v := .long (oEl t y5)) (own_pv1 p4 nx) d28_97 rfl ?_
   refine oBipush C d28_98 (z := 64) rfl rfl ?_
   refine oIload C d28_100 rfl rfl ?_
   refine oIsub C d28_102 rfl ?_
   refine oCastI (z' := (62 : Int32)) (by decide) ?_
   refine oLushr C d28_103 rfl ?_
   refine oCastL (z' := (0 : Int64)) (own_es p7 (by decide)) ?_
   refine oLor C d28_104 rfl ?_
   refine oCastL (z' := (0 : Int64)) (by decide) ?_
   refine oLstore C d28_105 (Ls' := #[.val (.ref b1), .val (.int 4), .val (.int 2), .val (.int 2), .val (.int ((3 : Int32) * x2)), .val (.int ((1 : Int32) * x2)), .val (.int 0), .val (.int 2), .val (.int x), .val (.long 0), .second]) rfl (q := 107) rfl ?_
   refine oAloadN C d28_107 rfl rfl rfl ?_
   refine oGetF C (w137 hw) Via.refl f12 d28_108 rfl ?_
   refine oIload C d28_111 rfl rfl ?_
   refine oIload C d28_113 rfl rfl ?_
   refine oIadd C d28_115 rfl ?_
   refine oDup2 C d28_116 rfl rfl rfl ?_
   refine oLaload C Al (own_mn3 p4 nx) (k := (3 * x4 + (t + 1))) (own_mk3 p4 nx) (v := .long 0) (own_mv3 p4 nx) d28_117 rfl ?_
   refine oLload C d28_118 rfl rfl ?_
   refine oLor C d28_120 rfl ?_
   refine oCastL (z' := (0 : Int64)) (by decide) ?_
   refine oLastore C Al (own_mn3 p4 nx) (k := (3 * x4 + (t + 1))) (own_mk3 p4 nx) (v := .long 0) (own_mv3 p4 nx) (v' := .long 0) rfl d28_121 rfl p6 fun h13 W13 A13 => ?_
   have A13l : oAr Z h13 b3 .long (oRl x4 (0 : Int64) y5 y6 y7) := by rw [← own_mt3 p4 nx]; exact A13
   refine oIinc C d28_122 rfl (z := (-1)) rfl (w := (x + (-1 : Int32))) rfl (Ls' := #[.val (.ref b1), .val (.int 4), .val (.int 2), .val (.int 2), .val (.int ((3 : Int32) * x2)), .val (.int ((1 : Int32) * x2)), .val (.int 0), .val (.int 2), .val (.int (x + (-1 : Int32))), .val (.long 0), .second]) rfl rfl ?_
   refine oGoto C d28_125 (q := 44) (by decide) (by decide) ?_
   exact ih t (Nat.lt_succ_self t) (h13, (x + (-1 : Int32)), true) ⟨(((oKe.refl h0 [b3] []).trans Kl (allS (Or.inl (List.mem_of_getElem? (i := 0) rfl)) all0) oA0).wrA W13 (Or.inl (List.mem_of_getElem? (i := 0) rfl))), A13l, own_nxs p4 nx⟩
theorem sh_2 (g0 : Int64) : (((oUp0 (1 : Int64) (0 : Int64) g0 (1 : Int64)).toUInt64 >>> ((62 : Int32) &&& 0x3f).toInt64.toUInt64).toInt64) = (0 : Int64) := by
  have z0 := oUp0_v (1 : Int64) (0 : Int64) g0 (1 : Int64)
  rcases z0 with z0 | z0 <;> rw [z0] <;> decide
theorem sh_3 (g0 g1 : Int64) : (((oUp0 (2 : Int64) (oUp (1 : Int64) ((1 : Int32) &&& 0x3f).toInt64 (0 : Int64) (oUp0 (1 : Int64) (0 : Int64) g0 (1 : Int64)) g1 (2 : Int64)) g1 (1 : Int64)).toUInt64 >>> ((63 : Int32) &&& 0x3f).toInt64.toUInt64).toInt64) = (0 : Int64) := by
  have z0 := oUp0_v (1 : Int64) (0 : Int64) g0 (1 : Int64)
  have z1 := oUp_v (1 : Int64) ((1 : Int32) &&& 0x3f).toInt64 (0 : Int64) (oUp0 (1 : Int64) (0 : Int64) g0 (1 : Int64)) g1 (2 : Int64)
  have z2 := oUp0_v (2 : Int64) (oUp (1 : Int64) ((1 : Int32) &&& 0x3f).toInt64 (0 : Int64) (oUp0 (1 : Int64) (0 : Int64) g0 (1 : Int64)) g1 (2 : Int64)) g1 (1 : Int64)
  rcases z0 with z0 | z0 <;> rcases z1 with z1 | z1 <;> rcases z2 with z2 | z2 <;> rw [z2] <;> (try rw [z1]) <;> (try rw [z0]) <;> decide
def ft21_7 (y6 : Int64) : Int32 := (if (y6 &&& (2 : Int64)) = (0 : Int64) then (0 : Int32) else (1 : Int32))
theorem ft21_7_def (y6 : Int64) : ft21_7 y6 = (if (y6 &&& (2 : Int64)) = (0 : Int64) then (0 : Int32) else (1 : Int32)) := rfl
set_option maxRecDepth 65536 in
set_option maxHeartbeats 40000000 in
theorem ac21_62 (l : Launch) (Z : State) (a0 : Array Value) (hw : oHw a0 Z) (h0 : Heap) (n0 : Nat) (Z0 : n0 ≤ h0.size) (b1 : Addr) (b2 : Addr) (x3 : Int32) (x4 : Nat) (y5 : Int64) (y6 : Int64) (p1 : Fld Z h0 b1 sP "bits" "[J" (.ref b2)) (p2 : Fld Z h0 b1 sP "words" "I" (.int x3)) (p3 : oAr Z h0 b2 .long (oRl x4 (0 : Int64) y5 y6 (0 : Int64))) (p4 : oKw x4 x3) :
    oMet l Z (⟨sP, "follows", "(II)Z"⟩ : MethodName) prog_13_method_2_code 4 (some .boolean) [] ({ frames := 0, cells := 0, slots := 0, locals := 0 } : Room) 0 0 n0 #[.ref b1, .int 3, .int 1] h0 (fun v h => v = some (.int (ft21_7 y6)) ∧ h = h0) := by
  refine oMet.intro (plainFor_of_name pn_399007) (fun m => ef_21 m b1 (3 : Int32) (1 : Int32)) ?_
  intro op oe os m obl omt ocd C
  refine oIloadN C d21_0 rfl rfl ?_
  refine oIloadN C d21_1 rfl rfl ?_
  refine oIsub C d21_2 rfl ?_
  refine oCastI (z' := (2 : Int32)) (by decide) ?_
  refine oIconst C d21_3 (z := 1) rfl rfl ?_
  refine oIsub C d21_4 rfl ?_
  refine oCastI (z' := (1 : Int32)) (by decide) ?_
  refine oIstoreN C d21_5 (Ls' := #[.val (.ref b1), .val (.int 3), .val (.int 1), .val (.int 1)]) rfl (q := 6) rfl ?_
  refine oAloadN C d21_6 rfl rfl rfl ?_
  refine oGetF C (w137 hw) Via.refl p1 d21_7 rfl ?_
  refine oIloadN C d21_10 rfl rfl ?_
  refine oIconst C d21_11 (z := 1) rfl rfl ?_
  refine oIsub C d21_12 rfl ?_
  refine oCastI (z' := (2 : Int32)) (by decide) ?_
  refine oAloadN C d21_13 rfl rfl rfl ?_
  refine oGetF C (w125 hw) Via.refl p2 d21_14 rfl ?_
  refine oImul C d21_17 rfl ?_
  refine oIloadN C d21_18 rfl rfl ?_
  refine oBipush C d21_19 (z := 6) rfl rfl ?_
  refine oIushr C d21_21 rfl ?_
  refine oCastI (z' := (0 : Int32)) (by decide) ?_
  refine oIadd C d21_22 rfl ?_
  refine oLaload C p3 (own_n2 p4) (k := (2 * x4)) (own_k2 p4) (v := .long y6) (own_v2 p4) d21_23 rfl ?_
  refine oLconst C d21_24 (z := 1) rfl rfl ?_
  refine oIloadN C d21_25 rfl rfl ?_
  refine oLshl C d21_26 rfl ?_
  refine oCastL (z' := (2 : Int64)) (by decide) ?_
  refine oLand C d21_27 rfl ?_
  refine oLconst C d21_28 (z := 0) rfl rfl ?_
  refine oLcmp_eq C d21_29 rfl d21_30 (q := 37) (by decide) (by decide) (r := 33) rfl (fun hc29 => ?_) (fun hc29 => ?_)
  ·
   refine oIconst C d21_37 (z := 0) rfl rfl ?_
   refine oRetZ C d21_38 (z' := (0 : Int32)) rfl (by decide) (by decide) ?_
   exact ⟨by rw [ft21_7_def, if_pos hc29], rfl⟩
  ·
   refine oIconst C d21_33 (z := 1) rfl rfl ?_
   refine oGoto C d21_34 (q := 38) (by decide) (by decide) ?_
   refine oRetZ C d21_38 (z' := (1 : Int32)) rfl (by decide) (by decide) ?_
   exact ⟨by rw [ft21_7_def, if_neg hc29], rfl⟩
set_option maxRecDepth 65536 in
set_option maxHeartbeats 40000000 in
theorem ac28_63 (l : Launch) (Z : State) (a0 : Array Value) (hw : oHw a0 Z) (h0 : Heap) (n0 : Nat) (Z0 : n0 ≤ h0.size) (b1 : Addr) (x2 : Int32) (b3 : Addr) (x4 : Nat) (y5 : Int64) (y6 : Int64) (p1 : Fld Z h0 b1 sP "words" "I" (.int x2)) (p2 : Fld Z h0 b1 sP "bits" "[J" (.ref b3)) (p3 : oAr Z h0 b3 .long (oRl x4 (0 : Int64) y5 y6 (0 : Int64))) (p4 : oKw x4 x2) (p5 : b1 ≠ b3) (p6 : n0 ≤ b3) :
    oMet l Z (⟨sP, "followAlong", "(II)V"⟩ : MethodName) prog_13_method_3_code 11 none [] ({ frames := 0, cells := 0, slots := 0, locals := 0 } : Room) 0 0 n0 #[.ref b1, .int 3, .int 1] h0 (fun v h => v = none ∧ oKe h0 h [b3] [] ∧ oAr Z h b3 .long (oRl x4 (0 : Int64) y5 ((y6 ||| (0 : Int64)) ||| (2 : Int64)) (0 : Int64))) := by
  refine oMet.intro (plainFor_of_name pn_399007) (fun m => ef_28 m b1 (3 : Int32) (1 : Int32)) ?_
  intro op oe os m obl omt ocd C
  refine oIloadN C d28_0 rfl rfl ?_
  refine oIloadN C d28_1 rfl rfl ?_
  refine oIsub C d28_2 rfl ?_
  refine oCastI (z' := (2 : Int32)) (by decide) ?_
  refine oIstoreN C d28_3 (Ls' := #[.val (.ref b1), .val (.int 3), .val (.int 1), .val (.int 2), .unset, .unset, .unset, .unset, .unset, .unset, .unset]) rfl (q := 4) rfl ?_
  refine oIloadN C d28_4 rfl rfl ?_
  refine oIconst C d28_5 (z := 1) rfl rfl ?_
  refine oIsub C d28_6 rfl ?_
  refine oCastI (z' := (2 : Int32)) (by decide) ?_
  refine oAloadN C d28_7 rfl rfl rfl ?_
  refine oGetF C (w125 hw) Via.refl p1 d28_8 rfl ?_
  refine oImul C d28_11 rfl ?_
  refine oIstore C d28_12 (Ls' := #[.val (.ref b1), .val (.int 3), .val (.int 1), .val (.int 2), .val (.int ((2 : Int32) * x2)), .unset, .unset, .unset, .unset, .unset, .unset]) rfl (q := 14) rfl ?_
  refine oIloadN C d28_14 rfl rfl ?_
  refine oIconst C d28_15 (z := 1) rfl rfl ?_
  refine oIsub C d28_16 rfl ?_
  refine oCastI (z' := (0 : Int32)) (by decide) ?_
  refine oAloadN C d28_17 rfl rfl rfl ?_
  refine oGetF C (w125 hw) Via.refl p1 d28_18 rfl ?_
  refine oImul C d28_21 rfl ?_
  refine oIstore C d28_22 (Ls' := #[.val (.ref b1), .val (.int 3), .val (.int 1), .val (.int 2), .val (.int ((2 : Int32) * x2)), .val (.int ((0 : Int32) * x2)), .unset, .unset, .unset, .unset, .unset]) rfl (q := 24) rfl ?_
  refine oIloadN C d28_24 rfl rfl ?_
  refine oBipush C d28_25 (z := 6) rfl rfl ?_
  refine oIushr C d28_27 rfl ?_
  refine oCastI (z' := (0 : Int32)) (by decide) ?_
  refine oIstore C d28_28 (Ls' := #[.val (.ref b1), .val (.int 3), .val (.int 1), .val (.int 2), .val (.int ((2 : Int32) * x2)), .val (.int ((0 : Int32) * x2)), .val (.int 0), .unset, .unset, .unset, .unset]) rfl (q := 30) rfl ?_
  refine oIloadN C d28_30 rfl rfl ?_
  refine oBipush C d28_31 (z := 63) rfl rfl ?_
  refine oIand C d28_33 rfl ?_
  refine oCastI (z' := (2 : Int32)) (by decide) ?_
  refine oIstore C d28_34 (Ls' := #[.val (.ref b1), .val (.int 3), .val (.int 1), .val (.int 2), .val (.int ((2 : Int32) * x2)), .val (.int ((0 : Int32) * x2)), .val (.int 0), .val (.int 2), .unset, .unset, .unset]) rfl (q := 36) rfl ?_
  refine oAloadN C d28_36 rfl rfl rfl ?_
  refine oGetF C (w125 hw) Via.refl p1 d28_37 rfl ?_
  refine oIconst C d28_40 (z := 1) rfl rfl ?_
  refine oIsub C d28_41 rfl ?_
  refine oIstore C d28_42 (Ls' := #[.val (.ref b1), .val (.int 3), .val (.int 1), .val (.int 2), .val (.int ((2 : Int32) * x2)), .val (.int ((0 : Int32) * x2)), .val (.int 0), .val (.int 2), .val (.int (x2 - (1 : Int32))), .unset, .unset]) rfl (q := 44) rfl ?_
  refine oLoop (α := Heap × Int32 × Bool) (fun t w => oKe h0 w.1 [b3] [] ∧ oAr Z w.1 b3 .long (oRl x4 (0 : Int64) y5 y6 (0 : Int64)) ∧ oNx x4 t w.2.1) (fun w => w.1) (fun w => (mkF m 44 #[.val (.ref b1), .val (.int 3), .val (.int 1), .val (.int 2), .val (.int ((2 : Int32) * x2)), .val (.int ((0 : Int32) * x2)), .val (.int 0), .val (.int 2), .val (.int w.2.1), (bif w.2.2 then .val (.long 0) else .unset), (bif w.2.2 then .second else .unset)] [])) (k := 0) (n := 0) ?_ (x4 - 1) (h0, (x2 - (1 : Int32)), false) ⟨oKe.refl _ _ _, p3, own_nx0 p4⟩
  rintro t ih ⟨hl, x, sl⟩ ⟨Kl0, Al0, nx⟩
  have Kl : oKe h0 hl [b3] [] := Kl0
  have Al : oAr Z hl b3 .long (oRl x4 (0 : Int64) y5 y6 (0 : Int64)) := Al0
  rcases t with _ | t <;> cases sl
  ·
   obtain rfl : x = 0 := nx.2
   show oW _ _ _ _ _ _ _ _ _ _ _ _ _ _ _ (mkF m 44 #[.val (.ref b1), .val (.int 3), .val (.int 1), .val (.int 2), .val (.int ((2 : Int32) * x2)), .val (.int ((0 : Int32) * x2)), .val (.int 0), .val (.int 2), .val (.int 0), .unset, .unset] [])
   refine oIload C d28_44 rfl rfl ?_
   refine oIload C d28_46 rfl rfl ?_
   refine oIcmp_lt C d28_48 (q := 128) (by decide) (by decide) (r := 51) rfl (fun hq => absurd hq ((by decide))) (fun hc48 => ?_)
   refine oAloadN C d28_51 rfl rfl rfl ?_
   have f2 := (Kl.fld p2 (ninS p5 nin0) oN0)
   refine oGetF C (w137 hw) Via.refl f2 d28_52 rfl ?_
   refine oIload C d28_55 rfl rfl ?_
   refine oIload C d28_57 rfl rfl ?_
   refine oIadd C d28_59 rfl ?_
   refine oIload C d28_60 rfl rfl ?_
   refine oIsub C d28_62 rfl ?_
   refine oCastI (z' := (((0 : Int32) * x2) + (0 : Int32))) (own_s0 (((0 : Int32) * x2) + (0 : Int32))) ?_
   refine oLaload C Al (own_n0 p4) (k := (0 * x4)) (own_k0 p4) (v := .long 0) (own_v0 p4) d28_63 rfl ?_
   refine oIload C d28_64 rfl rfl ?_
   refine oLshl C d28_66 rfl ?_
   refine oCastL (z' := (0 : Int64)) (by decide) ?_
   refine oLstore C d28_67 (Ls' := #[.val (.ref b1), .val (.int 3), .val (.int 1), .val (.int 2), .val (.int ((2 : Int32) * x2)), .val (.int ((0 : Int32) * x2)), .val (.int 0), .val (.int 2), .val (.int 0), .val (.long 0), .second]) rfl (q := 69) rfl ?_
   refine oIload C d28_69 rfl rfl ?_
   refine oIf_eq C d28_71 (q := 107) (by decide) (by decide) (r := 74) rfl (fun hq => absurd hq ((by decide))) (fun hc71 => ?_)
   refine oIload C d28_74 rfl rfl ?_
   refine oIload C d28_76 rfl rfl ?_
   refine oIcmp_le C d28_78 (q := 107) (by decide) (by decide) (r := 81) rfl (fun hc78 => ?_) (fun hq => absurd hq ((by decide)))
   refine oAloadN C d28_107 rfl rfl rfl ?_
   refine oGetF C (w137 hw) Via.refl f2 d28_108 rfl ?_
   refine oIload C d28_111 rfl rfl ?_
   refine oIload C d28_113 rfl rfl ?_
   refine oIadd C d28_115 rfl ?_
   refine oDup2 C d28_116 rfl rfl rfl ?_
   refine oLaload C Al (own_n2 p4) (k := (2 * x4)) (own_k2 p4) (v := .long y6) (own_v2 p4) d28_117 rfl ?_
   refine oLload C d28_118 rfl rfl ?_
   refine oLor C d28_120 rfl ?_
   refine oLastore C Al (own_n2 p4) (k := (2 * x4)) (own_k2 p4) (v := .long y6) (own_v2 p4) (v' := .long (y6 ||| (0 : Int64))) rfl d28_121 rfl p6 fun h3 W3 A3 => ?_
   have A3l : oAr Z h3 b3 .long (oRl x4 (0 : Int64) y5 (y6 ||| (0 : Int64)) (0 : Int64)) := by rw [← own_t2 p4]; exact A3
   refine oIinc C d28_122 rfl (z := (-1)) rfl (w := (-1 : Int32)) (by decide) (Ls' := #[.val (.ref b1), .val (.int 3), .val (.int 1), .val (.int 2), .val (.int ((2 : Int32) * x2)), .val (.int ((0 : Int32) * x2)), .val (.int 0), .val (.int 2), .val (.int (-1)), .val (.long 0), .second]) rfl rfl ?_
   refine oGoto C d28_125 (q := 44) (by decide) (by decide) ?_
   refine oIload C d28_44 rfl rfl ?_
   refine oIload C d28_46 rfl rfl ?_
   refine oIcmp_lt C d28_48 (q := 128) (by decide) (by decide) (r := 51) rfl (fun hc48_1 => ?_) (fun hq => absurd hq ((by decide)))
   refine oIloadN C d28_128 rfl rfl ?_
   refine oIconst C d28_129 (z := 1) rfl rfl ?_
   refine oIsub C d28_130 rfl ?_
   refine oCastI (z' := (1 : Int32)) (by decide) ?_
   refine oIstore C d28_131 (Ls' := #[.val (.ref b1), .val (.int 3), .val (.int 1), .val (.int 2), .val (.int ((2 : Int32) * x2)), .val (.int ((0 : Int32) * x2)), .val (.int 0), .val (.int 2), .val (.int 1), .val (.long 0), .second]) rfl (q := 133) rfl ?_
   refine oAloadN C d28_133 rfl rfl rfl ?_
   have f4 := (Fld.other W3 f2 (Or.inl p5))
   refine oGetF C (w137 hw) Via.refl f4 d28_134 rfl ?_
   refine oIload C d28_137 rfl rfl ?_
   refine oIload C d28_139 rfl rfl ?_
   refine oBipush C d28_141 (z := 6) rfl rfl ?_
   refine oIushr C d28_143 rfl ?_
   refine oCastI (z' := (0 : Int32)) (by decide) ?_
   refine oIadd C d28_144 rfl ?_
   refine oDup2 C d28_145 rfl rfl rfl ?_
   refine oLaload C A3l (own_n2 p4) (k := (2 * x4)) (own_k2 p4) (v := .long (y6 ||| (0 : Int64))) (own_v2 p4) d28_146 rfl ?_
   refine oLconst C d28_147 (z := 1) rfl rfl ?_
   refine oIload C d28_148 rfl rfl ?_
   refine oLshl C d28_150 rfl ?_
   refine oCastL (z' := (2 : Int64)) (by decide) ?_
   refine oLor C d28_151 rfl ?_
   refine oLastore C A3l (own_n2 p4) (k := (2 * x4)) (own_k2 p4) (v := .long (y6 ||| (0 : Int64))) (own_v2 p4) (v' := .long ((y6 ||| (0 : Int64)) ||| (2 : Int64))) rfl d28_152 rfl p6 fun h5 W5 A5 => ?_
   have A5l : oAr Z h5 b3 .long (oRl x4 (0 : Int64) y5 ((y6 ||| (0 : Int64)) ||| (2 : Int64)) (0 : Int64)) := by rw [← own_t2 p4]; exact A5
   refine oRetV C d28_153 (by decide) (by decide) ?_
   exact ⟨rfl, ((((oKe.refl h0 [b3] []).trans Kl (allS (Or.inl (List.mem_of_getElem? (i := 0) rfl)) all0) oA0).wrA W3 (Or.inl (List.mem_of_getElem? (i := 0) rfl))).wrA W5 (Or.inl (List.mem_of_getElem? (i := 0) rfl))), A5l⟩
  ·
   obtain rfl : x = 0 := nx.2
   show oW _ _ _ _ _ _ _ _ _ _ _ _ _ _ _ (mkF m 44 #[.val (.ref b1), .val (.int 3), .val (.int 1), .val (.int 2), .val (.int ((2 : Int32) * x2)), .val (.int ((0 : Int32) * x2)), .val (.int 0), .val (.int 2), .val (.int 0), .val (.long 0), .second] [])
   refine oIload C d28_44 rfl rfl ?_
   refine oIload C d28_46 rfl rfl ?_
   refine oIcmp_lt C d28_48 (q := 128) (by decide) (by decide) (r := 51) rfl (fun hq => absurd hq ((by decide))) (fun hc48 => ?_)
   refine oAloadN C d28_51 rfl rfl rfl ?_
   have f6 := (Kl.fld p2 (ninS p5 nin0) oN0)
   refine oGetF C (w137 hw) Via.refl f6 d28_52 rfl ?_
   refine oIload C d28_55 rfl rfl ?_
   refine oIload C d28_57 rfl rfl ?_
   refine oIadd C d28_59 rfl ?_
   refine oIload C d28_60 rfl rfl ?_
   refine oIsub C d28_62 rfl ?_
   refine oCastI (z' := (((0 : Int32) * x2) + (0 : Int32))) (own_s0 (((0 : Int32) * x2) + (0 : Int32))) ?_
   refine oLaload C Al (own_n0 p4) (k := (0 * x4)) (own_k0 p4) (v := .long 0) (own_v0 p4) d28_63 rfl ?_
   refine oIload C d28_64 rfl rfl ?_
   refine oLshl C d28_66 rfl ?_
   refine oCastL (z' := (0 : Int64)) (by decide) ?_
   refine oLstore C d28_67 (Ls' := #[.val (.ref b1), .val (.int 3), .val (.int 1), .val (.int 2), .val (.int ((2 : Int32) * x2)), .val (.int ((0 : Int32) * x2)), .val (.int 0), .val (.int 2), .val (.int 0), .val (.long 0), .second]) rfl (q := 69) rfl ?_
   refine oIload C d28_69 rfl rfl ?_
   refine oIf_eq C d28_71 (q := 107) (by decide) (by decide) (r := 74) rfl (fun hq => absurd hq ((by decide))) (fun hc71 => ?_)
   refine oIload C d28_74 rfl rfl ?_
   refine oIload C d28_76 rfl rfl ?_
   refine oIcmp_le C d28_78 (q := 107) (by decide) (by decide) (r := 81) rfl (fun hc78 => ?_) (fun hq => absurd hq ((by decide)))
   refine oAloadN C d28_107 rfl rfl rfl ?_
   refine oGetF C (w137 hw) Via.refl f6 d28_108 rfl ?_
   refine oIload C d28_111 rfl rfl ?_
   refine oIload C d28_113 rfl rfl ?_
   refine oIadd C d28_115 rfl ?_
   refine oDup2 C d28_116 rfl rfl rfl ?_
   refine oLaload C Al (own_n2 p4) (k := (2 * x4)) (own_k2 p4) (v := .long y6) (own_v2 p4) d28_117 rfl ?_
   refine oLload C d28_118 rfl rfl ?_
   refine oLor C d28_120 rfl ?_
   refine oLastore C Al (own_n2 p4) (k := (2 * x4)) (own_k2 p4) (v := .long y6) (own_v2 p4) (v' := .long (y6 ||| (0 : Int64))) rfl d28_121 rfl p6 fun h7 W7 A7 => ?_
   have A7l : oAr Z h7 b3 .long (oRl x4 (0 : Int64) y5 (y6 ||| (0 : Int64)) (0 : Int64)) := by rw [← own_t2 p4]; exact A7
   refine oIinc C d28_122 rfl (z := (-1)) rfl (w := (-1 : Int32)) (by decide) (Ls' := #[.val (.ref b1), .val (.int 3), .val (.int 1), .val (.int 2), .val (.int ((2 : Int32) * x2)), .val (.int ((0 : Int32) * x2)), .val (.int 0), .val (.int 2), .val (.int (-1)), .val (.long 0), .second]) rfl rfl ?_
   refine oGoto C d28_125 (q := 44) (by decide) (by decide) ?_
   refine oIload C d28_44 rfl rfl ?_
   refine oIload C d28_46 rfl rfl ?_
   refine oIcmp_lt C d28_48 (q := 128) (by decide) (by decide) (r := 51) rfl (fun hc48_1 => ?_) (fun hq => absurd hq ((by decide)))
   refine oIloadN C d28_128 rfl rfl ?_
   refine oIconst C d28_129 (z := 1) rfl rfl ?_
   refine oIsub C d28_130 rfl ?_
   refine oCastI (z' := (1 : Int32)) (by decide) ?_
   refine oIstore C d28_131 (Ls' := #[.val (.ref b1), .val (.int 3), .val (.int 1), .val (.int 2), .val (.int ((2 : Int32) * x2)), .val (.int ((0 : Int32) * x2)), .val (.int 0), .val (.int 2), .val (.int 1), .val (.long 0), .second]) rfl (q := 133) rfl ?_
   refine oAloadN C d28_133 rfl rfl rfl ?_
   have f8 := (Fld.other W7 f6 (Or.inl p5))
   refine oGetF C (w137 hw) Via.refl f8 d28_134 rfl ?_
   refine oIload C d28_137 rfl rfl ?_
   refine oIload C d28_139 rfl rfl ?_
   refine oBipush C d28_141 (z := 6) rfl rfl ?_
   refine oIushr C d28_143 rfl ?_
   refine oCastI (z' := (0 : Int32)) (by decide) ?_
   refine oIadd C d28_144 rfl ?_
   refine oDup2 C d28_145 rfl rfl rfl ?_
   refine oLaload C A7l (own_n2 p4) (k := (2 * x4)) (own_k2 p4) (v := .long (y6 ||| (0 : Int64))) (own_v2 p4) d28_146 rfl ?_
   refine oLconst C d28_147 (z := 1) rfl rfl ?_
   refine oIload C d28_148 rfl rfl ?_
   refine oLshl C d28_150 rfl ?_
   refine oCastL (z' := (2 : Int64)) (by decide) ?_
   refine oLor C d28_151 rfl ?_
   refine oLastore C A7l (own_n2 p4) (k := (2 * x4)) (own_k2 p4) (v := .long (y6 ||| (0 : Int64))) (own_v2 p4) (v' := .long ((y6 ||| (0 : Int64)) ||| (2 : Int64))) rfl d28_152 rfl p6 fun h9 W9 A9 => ?_
   have A9l : oAr Z h9 b3 .long (oRl x4 (0 : Int64) y5 ((y6 ||| (0 : Int64)) ||| (2 : Int64)) (0 : Int64)) := by rw [← own_t2 p4]; exact A9
   refine oRetV C d28_153 (by decide) (by decide) ?_
   exact ⟨rfl, ((((oKe.refl h0 [b3] []).trans Kl (allS (Or.inl (List.mem_of_getElem? (i := 0) rfl)) all0) oA0).wrA W7 (Or.inl (List.mem_of_getElem? (i := 0) rfl))).wrA W9 (Or.inl (List.mem_of_getElem? (i := 0) rfl))), A9l⟩
  ·
   show oW _ _ _ _ _ _ _ _ _ _ _ _ _ _ _ (mkF m 44 #[.val (.ref b1), .val (.int 3), .val (.int 1), .val (.int 2), .val (.int ((2 : Int32) * x2)), .val (.int ((0 : Int32) * x2)), .val (.int 0), .val (.int 2), .val (.int x), .unset, .unset] [])
   refine oIload C d28_44 rfl rfl ?_
   refine oIload C d28_46 rfl rfl ?_
   refine oIcmp_lt C d28_48 (q := 128) (by decide) (by decide) (r := 51) rfl (fun hq => absurd hq ((own_nl p4 nx))) (fun hc48 => ?_)
   refine oAloadN C d28_51 rfl rfl rfl ?_
   have f10 := (Kl.fld p2 (ninS p5 nin0) oN0)
   refine oGetF C (w137 hw) Via.refl f10 d28_52 rfl ?_
   refine oIload C d28_55 rfl rfl ?_
   refine oIload C d28_57 rfl rfl ?_
   refine oIadd C d28_59 rfl ?_
   refine oIload C d28_60 rfl rfl ?_
   refine oIsub C d28_62 rfl ?_
   refine oCastI (z' := (((0 : Int32) * x2) + x)) (own_s0 (((0 : Int32) * x2) + x)) ?_
   refine oLaload C Al (own_mn0 p4 nx) (k := (0 * x4 + (t + 1))) (own_mk0 p4 nx) (v := .long 0) (own_mv0 p4 nx) d28_63 rfl ?_
   refine oIload C d28_64 rfl rfl ?_
   refine oLshl C d28_66 rfl ?_
   refine oCastL (z' := (0 : Int64)) (by decide) ?_
   refine oLstore C d28_67 (Ls' := #[.val (.ref b1), .val (.int 3), .val (.int 1), .val (.int 2), .val (.int ((2 : Int32) * x2)), .val (.int ((0 : Int32) * x2)), .val (.int 0), .val (.int 2), .val (.int x), .val (.long 0), .second]) rfl (q := 69) rfl ?_
   refine oIload C d28_69 rfl rfl ?_
   refine oIf_eq C d28_71 (q := 107) (by decide) (by decide) (r := 74) rfl (fun hq => absurd hq ((by decide))) (fun hc71 => ?_)
   refine oIload C d28_74 rfl rfl ?_
   refine oIload C d28_76 rfl rfl ?_
   refine oIcmp_le C d28_78 (q := 107) (by decide) (by decide) (r := 81) rfl (fun hq => absurd hq ((not_not_intro (own_pl p4 nx)))) (fun hc78 => ?_)
   refine oLload C d28_81 rfl rfl ?_
   refine oAloadN C d28_83 rfl rfl rfl ?_
   refine oGetF C (w137 hw) Via.refl f10 d28_84 rfl ?_
   refine oIload C d28_87 rfl rfl ?_
   refine oIload C d28_89 rfl rfl ?_
   refine oIadd C d28_91 rfl ?_
   refine oIload C d28_92 rfl rfl ?_
   refine oIsub C d28_94 rfl ?_
   refine oCastI (z' := (((0 : Int32) * x2) + x)) (own_s0 (((0 : Int32) * x2) + x)) ?_
   refine oIconst C d28_95 (z := 1) rfl rfl ?_
   refine oIsub C d28_96 rfl ?_
   refine oLaload C Al (own_pn0 p4 nx) (k := (0 * x4 + t)) (own_pk0 p4 nx) (v := .long (oEl t (0 : Int64))) (own_pv0 p4 nx) d28_97 rfl ?_
   refine oBipush C d28_98 (z := 64) rfl rfl ?_
   refine oIload C d28_100 rfl rfl ?_
   refine oIsub C d28_102 rfl ?_
   refine oCastI (z' := (62 : Int32)) (by decide) ?_
   refine oLushr C d28_103 rfl ?_
   refine oCastL (z' := (0 : Int64)) (own_es (by decide) (by decide)) ?_
   refine oLor C d28_104 rfl ?_
   refine oCastL (z' := (0 : Int64)) (by decide) ?_
   refine oLstore C d28_105 (Ls' := #[.val (.ref b1), .val (.int 3), .val (.int 1), .val (.int 2), .val (.int ((2 : Int32) * x2)), .val (.int ((0 : Int32) * x2)), .val (.int 0), .val (.int 2), .val (.int x), .val (.long 0), .second]) rfl (q := 107) rfl ?_
   refine oAloadN C d28_107 rfl rfl rfl ?_
   refine oGetF C (w137 hw) Via.refl f10 d28_108 rfl ?_
   refine oIload C d28_111 rfl rfl ?_
   refine oIload C d28_113 rfl rfl ?_
   refine oIadd C d28_115 rfl ?_
   refine oDup2 C d28_116 rfl rfl rfl ?_
   refine oLaload C Al (own_mn2 p4 nx) (k := (2 * x4 + (t + 1))) (own_mk2 p4 nx) (v := .long 0) (own_mv2 p4 nx) d28_117 rfl ?_
   refine oLload C d28_118 rfl rfl ?_
   refine oLor C d28_120 rfl ?_
   refine oCastL (z' := (0 : Int64)) (by decide) ?_
   refine oLastore C Al (own_mn2 p4 nx) (k := (2 * x4 + (t + 1))) (own_mk2 p4 nx) (v := .long 0) (own_mv2 p4 nx) (v' := .long 0) rfl d28_121 rfl p6 fun h11 W11 A11 => ?_
   have A11l : oAr Z h11 b3 .long (oRl x4 (0 : Int64) y5 y6 (0 : Int64)) := by rw [← own_mt2 p4 nx]; exact A11
   refine oIinc C d28_122 rfl (z := (-1)) rfl (w := (x + (-1 : Int32))) rfl (Ls' := #[.val (.ref b1), .val (.int 3), .val (.int 1), .val (.int 2), .val (.int ((2 : Int32) * x2)), .val (.int ((0 : Int32) * x2)), .val (.int 0), .val (.int 2), .val (.int (x + (-1 : Int32))), .val (.long 0), .second]) rfl rfl ?_
   refine oGoto C d28_125 (q := 44) (by decide) (by decide) ?_
   exact ih t (Nat.lt_succ_self t) (h11, (x + (-1 : Int32)), true) ⟨(((oKe.refl h0 [b3] []).trans Kl (allS (Or.inl (List.mem_of_getElem? (i := 0) rfl)) all0) oA0).wrA W11 (Or.inl (List.mem_of_getElem? (i := 0) rfl))), A11l, own_nxs p4 nx⟩
  ·
   show oW _ _ _ _ _ _ _ _ _ _ _ _ _ _ _ (mkF m 44 #[.val (.ref b1), .val (.int 3), .val (.int 1), .val (.int 2), .val (.int ((2 : Int32) * x2)), .val (.int ((0 : Int32) * x2)), .val (.int 0), .val (.int 2), .val (.int x), .val (.long 0), .second] [])
   refine oIload C d28_44 rfl rfl ?_
   refine oIload C d28_46 rfl rfl ?_
   refine oIcmp_lt C d28_48 (q := 128) (by decide) (by decide) (r := 51) rfl (fun hq => absurd hq ((own_nl p4 nx))) (fun hc48 => ?_)
   refine oAloadN C d28_51 rfl rfl rfl ?_
   have f12 := (Kl.fld p2 (ninS p5 nin0) oN0)
   refine oGetF C (w137 hw) Via.refl f12 d28_52 rfl ?_
   refine oIload C d28_55 rfl rfl ?_
   refine oIload C d28_57 rfl rfl ?_
   refine oIadd C d28_59 rfl ?_
   refine oIload C d28_60 rfl rfl ?_
   refine oIsub C d28_62 rfl ?_
   refine oCastI (z' := (((0 : Int32) * x2) + x)) (own_s0 (((0 : Int32) * x2) + x)) ?_
   refine oLaload C Al (own_mn0 p4 nx) (k := (0 * x4 + (t + 1))) (own_mk0 p4 nx) (v := .long 0) (own_mv0 p4 nx) d28_63 rfl ?_
   refine oIload C d28_64 rfl rfl ?_
   refine oLshl C d28_66 rfl ?_
   refine oCastL (z' := (0 : Int64)) (by decide) ?_
   refine oLstore C d28_67 (Ls' := #[.val (.ref b1), .val (.int 3), .val (.int 1), .val (.int 2), .val (.int ((2 : Int32) * x2)), .val (.int ((0 : Int32) * x2)), .val (.int 0), .val (.int 2), .val (.int x), .val (.long 0), .second]) rfl (q := 69) rfl ?_
   refine oIload C d28_69 rfl rfl ?_
   refine oIf_eq C d28_71 (q := 107) (by decide) (by decide) (r := 74) rfl (fun hq => absurd hq ((by decide))) (fun hc71 => ?_)
   refine oIload C d28_74 rfl rfl ?_
   refine oIload C d28_76 rfl rfl ?_
   refine oIcmp_le C d28_78 (q := 107) (by decide) (by decide) (r := 81) rfl (fun hq => absurd hq ((not_not_intro (own_pl p4 nx)))) (fun hc78 => ?_)
   refine oLload C d28_81 rfl rfl ?_
   refine oAloadN C d28_83 rfl rfl rfl ?_
   refine oGetF C (w137 hw) Via.refl f12 d28_84 rfl ?_
   refine oIload C d28_87 rfl rfl ?_
   refine oIload C d28_89 rfl rfl ?_
   refine oIadd C d28_91 rfl ?_
   refine oIload C d28_92 rfl rfl ?_
   refine oIsub C d28_94 rfl ?_
   refine oCastI (z' := (((0 : Int32) * x2) + x)) (own_s0 (((0 : Int32) * x2) + x)) ?_
   refine oIconst C d28_95 (z := 1) rfl rfl ?_
   refine oIsub C d28_96 rfl ?_
   refine oLaload C Al (own_pn0 p4 nx) (k := (0 * x4 + t)) (own_pk0 p4 nx) (v := .long (oEl t (0 : Int64))) (own_pv0 p4 nx) d28_97 rfl ?_
   refine oBipush C d28_98 (z := 64) rfl rfl ?_
   refine oIload C d28_100 rfl rfl ?_
   refine oIsub C d28_102 rfl ?_
   refine oCastI (z' := (62 : Int32)) (by decide) ?_
   refine oLushr C d28_103 rfl ?_
   refine oCastL (z' := (0 : Int64)) (own_es (by decide) (by decide)) ?_
   refine oLor C d28_104 rfl ?_
   refine oCastL (z' := (0 : Int64)) (by decide) ?_
   refine oLstore C d28_105 (Ls' := #[.val (.ref b1), .val (.int 3), .val (.int 1), .val (.int 2), .val (.int ((2 : Int32) * x2)), .val (.int ((0 : Int32) * x2)), .val (.int 0), .val (.int 2), .val (.int x), .val (.long 0), .second]) rfl (q := 107) rfl ?_
   refine oAloadN C d28_107 rfl rfl rfl ?_
   refine oGetF C (w137 hw) Via.refl f12 d28_108 rfl ?_
   refine oIload C d28_111 rfl rfl ?_
   refine oIload C d28_113 rfl rfl ?_
   refine oIadd C d28_115 rfl ?_
   refine oDup2 C d28_116 rfl rfl rfl ?_
   refine oLaload C Al (own_mn2 p4 nx) (k := (2 * x4 + (t + 1))) (own_mk2 p4 nx) (v := .long 0) (own_mv2 p4 nx) d28_117 rfl ?_
   refine oLload C d28_118 rfl rfl ?_
   refine oLor C d28_120 rfl ?_
   refine oCastL (z' := (0 : Int64)) (by decide) ?_
   refine oLastore C Al (own_mn2 p4 nx) (k := (2 * x4 + (t + 1))) (own_mk2 p4 nx) (v := .long 0) (own_mv2 p4 nx) (v' := .long 0) rfl d28_121 rfl p6 fun h13 W13 A13 => ?_
   have A13l : oAr Z h13 b3 .long (oRl x4 (0 : Int64) y5 y6 (0 : Int64)) := by rw [← own_mt2 p4 nx]; exact A13
   refine oIinc C d28_122 rfl (z := (-1)) rfl (w := (x + (-1 : Int32))) rfl (Ls' := #[.val (.ref b1), .val (.int 3), .val (.int 1), .val (.int 2), .val (.int ((2 : Int32) * x2)), .val (.int ((0 : Int32) * x2)), .val (.int 0), .val (.int 2), .val (.int (x + (-1 : Int32))), .val (.long 0), .second]) rfl rfl ?_
   refine oGoto C d28_125 (q := 44) (by decide) (by decide) ?_
   exact ih t (Nat.lt_succ_self t) (h13, (x + (-1 : Int32)), true) ⟨(((oKe.refl h0 [b3] []).trans Kl (allS (Or.inl (List.mem_of_getElem? (i := 0) rfl)) all0) oA0).wrA W13 (Or.inl (List.mem_of_getElem? (i := 0) rfl))), A13l, own_nxs p4 nx⟩
set_option maxRecDepth 65536 in
set_option maxHeartbeats 40000000 in
theorem ac14_64 (l : Launch) (Z : State) (a0 : Array Value) (hw : oHw a0 Z) (h0 : Heap) (n0 : Nat) (Z0 : n0 ≤ h0.size) (b1 : Addr) (b2 : Addr) (x3 : Int32) (x4 : Int32) (x5 : Nat) (b6 : Addr) (b7 : Addr) (b8 : Addr) (b9 : Addr) (b10 : Addr) (b11 : Addr) (y12 : Int64) (b13 : Addr) (y14 : Int64) (b15 : Addr) (y16 : Int64) (b17 : Addr) (p1 : Exa Z h0 b1 sP) (p2 : Fld Z h0 b1 sP "span" "I" (.int 0)) (p3 : n0 ≤ b1) (p4 : ((((x3 - (1 : Int32)) + (64 : Int32)) - (1 : Int32)) / (64 : Int32)) = x4) (p5 : Fld Z h0 b1 sP "words" "I" (.int 0)) (p6 : Exa Z h0 b2 sA) (p7 : Fld Z h0 b2 sA "size" "I" (.int 4)) (p8 : b2 ≠ b1) (p9 : oKw x5 x4) (p10 : Fld Z h0 b1 sP "bits" "[J" (.null)) (p11 : Fld Z h0 b2 sA "elementData" sG (.ref b6)) (p12 : oArO Z h0 b6 sO [.ref b7, .ref b8, .ref b9, .ref b10, .null, .null, .null, .null, .null, .null]) (p13 : b6 ≠ b1) (p14 : Exa Z h0 b8 sF) (p15 : (fMin (x3 - (1 : Int32)) (1 : Int32)) = (1 : Int32)) (p16 : Fld Z h0 b8 sF "requestClass" sK (.ref b11)) (p17 : b8 ≠ b1) (p18 : Fld Z h0 b11 sR "conflicts" "J" (.long y12)) (p19 : b11 ≠ b1) (p20 : Exa Z h0 b9 sF) (p21 : (fMin (x3 - (1 : Int32)) (2 : Int32)) = (2 : Int32)) (p22 : Fld Z h0 b9 sF "requestClass" sK (.ref b13)) (p23 : b9 ≠ b1) (p24 : Fld Z h0 b13 sR "conflicts" "J" (.long y14)) (p25 : b13 ≠ b1) (p26 : Exa Z h0 b10 sF) (p27 : (fMin (x3 - (1 : Int32)) (3 : Int32)) = (2 : Int32)) (p28 : Fld Z h0 b10 sF "requestClass" sK (.ref b15)) (p29 : b10 ≠ b1) (p30 : Fld Z h0 b15 sR "conflicts" "J" (.long y16)) (p31 : b15 ≠ b1) (p32 : Fld Z h0 b11 sR "declaration" sJ (.null)) (p33 : Fld Z h0 b15 sR "declaration" sJ (.null)) (p34 : Exa Z h0 b15 sR) (p35 : Fld Z h0 b10 sF "firstKey" "J" (.long (-9223372036854775808))) (p36 : Fld Z h0 b10 sF "lastKey" "J" (.long 9223372036854775807)) (p37 : Fld Z h0 b11 sR "bit" "J" (.long 2)) (p38 : Exa Z h0 b11 sR) (p39 : Fld Z h0 b8 sF "firstKey" "J" (.long (-9223372036854775808))) (p40 : Fld Z h0 b8 sF "lastKey" "J" (.long 9223372036854775807)) (p41 : Fld Z h0 b13 sR "declaration" sJ (.null)) (p42 : Fld Z h0 b13 sR "bit" "J" (.long 4)) (p43 : Exa Z h0 b13 sR) (p44 : Fld Z h0 b9 sF "firstKey" "J" (.long (-9223372036854775808))) (p45 : Fld Z h0 b9 sF "lastKey" "J" (.long 9223372036854775807)) (p46 : Exa Z h0 b7 sF) (p47 : Fld Z h0 b7 sF "requestClass" sK (.ref b17)) (p48 : Fld Z h0 b17 sR "declaration" sJ (.null)) (p49 : Fld Z h0 b17 sR "bit" "J" (.long 1)) (p50 : Exa Z h0 b17 sR) (p51 : Fld Z h0 b7 sF "firstKey" "J" (.long (-9223372036854775808))) (p52 : Fld Z h0 b7 sF "lastKey" "J" (.long 9223372036854775807)) (p53 : b7 ≠ b1) (p54 : b17 ≠ b1) :
    oMet l Z (⟨sP, "<init>", "(Ljava/util/List;I)V"⟩ : MethodName) prog_13_method_1_code 8 none [] ({ frames := 3, cells := 1, slots := 16, locals := 55 } : Room) 1 16 n0 #[.ref b1, .ref b2, .int x3] h0 (fun v h => ∃ a9 : Addr, v = none ∧ oKe h0 h [] [(b1, Jvm.RoadKit.slotOf Z sP "span" "I"), (b1, Jvm.RoadKit.slotOf Z sP "words" "I"), (b1, Jvm.RoadKit.slotOf Z sP "bits" "[J")] ∧ h0.size ≤ a9 ∧ Fld Z h b1 sP "span" "I" (.int (x3 - (1 : Int32))) ∧ Fld Z h b1 sP "words" "I" (.int x4) ∧ oAr Z h a9 .long (oRl x5 (0 : Int64) (oUp0 (1 : Int64) (0 : Int64) y12 (1 : Int64)) (oUp0 (2 : Int64) (oUp (1 : Int64) ((1 : Int32) &&& 0x3f).toInt64 (0 : Int64) (oUp0 (1 : Int64) (0 : Int64) y12 (1 : Int64)) y14 (2 : Int64)) y14 (1 : Int64)) (oUp (2 : Int64) ((2 : Int32) &&& 0x3f).toInt64 (oUp (1 : Int64) ((1 : Int32) &&& 0x3f).toInt64 (0 : Int64) (oUp0 (2 : Int64) (oUp (1 : Int64) ((1 : Int32) &&& 0x3f).toInt64 (0 : Int64) (oUp0 (1 : Int64) (0 : Int64) y12 (1 : Int64)) y14 (2 : Int64)) y14 (1 : Int64)) y16 (4 : Int64)) (oUp0 (1 : Int64) (0 : Int64) y12 (1 : Int64)) y16 (2 : Int64))) ∧ Fld Z h b1 sP "bits" "[J" (.ref a9)) := by
  refine oMet.intro (plainFor_of_name pn_399007) (fun m => ef_14 m b1 b2 x3) ?_
  intro op oe os m obl omt ocd C
  refine oAloadN C d14_0 rfl rfl rfl ?_
  refine oInitO C (w122 hw) (w22 hw) (w23 hw) d14_1 rfl (W := 0) rfl rfl (by decide) (by decide) ?_
  refine oAloadN C d14_4 rfl rfl rfl ?_
  refine oIloadN C d14_5 rfl rfl ?_
  refine oIconst C d14_6 (z := 1) rfl rfl ?_
  refine oIsub C d14_7 rfl ?_
  refine oPutF C (w123 hw) Via.refl p2 p1 (Or.inr ⟨(w124 hw), rfl, rfl⟩) (w117 hw) (ty := .int) (by decide) rfl rfl d14_8 rfl p3 fun h1 W1 => ?_
  have f1w := Fld.same W1 p2
  refine oAloadN C d14_11 rfl rfl rfl ?_
  refine oAloadN C d14_12 rfl rfl rfl ?_
  refine oGetF C (w123 hw) Via.refl f1w d14_13 rfl ?_
  refine oBipush C d14_16 (z := 64) rfl rfl ?_
  refine oIadd C d14_18 rfl ?_
  refine oIconst C d14_19 (z := 1) rfl rfl ?_
  refine oIsub C d14_20 rfl ?_
  refine oBipush C d14_21 (z := 64) rfl rfl ?_
  refine oIdiv C d14_23 (by decide) rfl ?_
  refine oCastI (z' := x4) p4 ?_
  have f2 := (Exa.wr W1 p1)
  have f3 := (Fld.other W1 p5 (Or.inr (oSn3 hw 1 0)))
  refine oPutF C (w125 hw) Via.refl f3 f2 (Or.inr ⟨(w126 hw), rfl, rfl⟩) (w117 hw) (ty := .int) (by decide) rfl rfl d14_24 rfl p3 fun h4 W4 => ?_
  have f4w := Fld.same W4 f3
  refine oAloadN C d14_27 rfl rfl rfl ?_
  have f5 := (Exa.wr W4 (Exa.wr W1 p6))
  have f6 := (Fld.other W4 (Fld.other W1 p7 (Or.inl p8)) (Or.inl p8))
  have z8 := (Nat.le_trans (Nat.le_trans Z0 (Nat.le_of_eq W1.size.symm)) (Nat.le_of_eq W4.size.symm))
  refine oCallI C (w127 hw) (w128 hw) (w129 hw) (w130 hw) (w131 hw) (w132 hw) (w133 hw) (w88 hw) (w54 hw) (w134 hw) d14_28 f5 (by decide) pd_428473 rfl rfl (a := b2) (argsL := []) (rest := []) rfl (W := 0) rfl (q := 33) rfl (by decide) (by decide) (by decide) (by decide) (ac15_20 l Z a0 hw _ n0 z8 b2 f6) (oPureK ?_)
  refine oI2L C d14_33 rfl ?_
  refine oCastL (z' := (4 : Int64)) (by decide) ?_
  refine oAloadN C d14_34 rfl rfl rfl ?_
  refine oGetF C (w125 hw) Via.refl f4w d14_35 rfl ?_
  refine oI2L C d14_38 rfl ?_
  refine oLmul C d14_39 rfl ?_
  refine oLstoreN C d14_40 (Ls' := #[.val (.ref b1), .val (.ref b2), .val (.int x3), .val (.long ((4 : Int64) * (x4.toInt64))), .second, .unset, .unset, .unset]) rfl (q := 41) rfl ?_
  refine oLloadN C d14_41 rfl rfl ?_
  refine oLdc2 C (w135 hw) d14_42 rfl ?_
  refine oLcmp_le C d14_45 rfl d14_46 (q := 72) (by decide) (by decide) (r := 49) rfl (fun hc45 => ?_) (fun hq => absurd hq ((own_a0 p9)))
  refine oAloadN C d14_72 rfl rfl rfl ?_
  refine oLloadN C d14_73 rfl rfl ?_
  refine oL2I C d14_74 rfl ?_
  have hk4 := own_a3 p9
  refine oNewA C (w136 hw) rfl d14_75 rfl (own_a1 p9) (k := 4 * x5) (own_a2 p9) (by omega) (by decide) (cap := 16) (own_a3 p9) (by decide) (by decide) fun a9 h9 g_a9 E9 A9 => ?_
  have ge_a9 : n0 ≤ a9 := g_a9 ▸ z8
  have Arl : oAr Z h9 a9 .long (oRl x5 (0 : Int64) (0 : Int64) (0 : Int64) (0 : Int64)) := by rw [← own_a5 p9]; exact A9
  have f10 := (Exa.ext E9 (Exa.wr W4 f2))
  have f11 := (Fld.ext E9 (Fld.other W4 (Fld.other W1 p10 (Or.inr (oSn3 hw 2 0))) (Or.inr (oSn3 hw 2 1))))
  refine oPutF C (w137 hw) Via.refl f11 f10 (Or.inr ⟨(w138 hw), rfl, rfl⟩) (w117 hw) (ty := (.array .long)) (by decide) rfl rfl d14_77 rfl p3 fun h12 W12 => ?_
  have f12w := Fld.same W12 f11
  refine oIconst C d14_80 (z := 2) rfl rfl ?_
  refine oIstore C d14_81 (Ls' := #[.val (.ref b1), .val (.ref b2), .val (.int x3), .val (.long ((4 : Int64) * (x4.toInt64))), .second, .val (.int 2), .unset, .unset]) rfl (q := 83) rfl ?_
  refine oIload C d14_83 rfl rfl ?_
  refine oAloadN C d14_85 rfl rfl rfl ?_
  have f13 := (Exa.wr W12 (Exa.ext E9 f5))
  have f14 := (Fld.other W12 (Fld.ext E9 f6) (Or.inl p8))
  have z16 := (Nat.le_trans (Nat.le_trans z8 E9.1) (Nat.le_of_eq W12.size.symm))
  refine oCallI C (w127 hw) (w128 hw) (w129 hw) (w130 hw) (w131 hw) (w132 hw) (w133 hw) (w88 hw) (w54 hw) (w134 hw) d14_86 f13 (by decide) pd_428473 rfl rfl (a := b2) (argsL := []) (rest := [.int 2]) rfl (W := 1) rfl (q := 91) rfl (by decide) (by decide) (by decide) (by decide) (ac15_20 l Z a0 hw _ n0 z16 b2 f14) (oPureK ?_)
  refine oIcmp_gt C d14_91 (q := 189) (by decide) (by decide) (r := 94) rfl (fun hq => absurd hq ((by decide))) (fun hc91 => ?_)
  refine oAloadN C d14_94 rfl rfl rfl ?_
  refine oIload C d14_95 rfl rfl ?_
  refine oIconst C d14_97 (z := 1) rfl rfl ?_
  refine oIsub C d14_98 rfl ?_
  refine oCastI (z' := (1 : Int32)) (by decide) ?_
  have f17 := (Fld.other W12 (Fld.ext E9 (Fld.other W4 (Fld.other W1 p11 (Or.inl p8)) (Or.inl p8))) (Or.inl p8))
  have f18 := ((((p12.other W1 p13).other W4 p13).ext E9).other W12 p13)
  refine oCallI C (w139 hw) (w140 hw) (w141 hw) (w142 hw) (w143 hw) (w144 hw) (w145 hw) (w88 hw) (w54 hw) (w146 hw) d14_99 f13 (by decide) pd_666516 rfl rfl (a := b2) (argsL := [.int 1]) (rest := []) rfl (W := 0) rfl (q := 104) rfl (by decide) (by decide) (by decide) (by decide) (ac16_24 l Z a0 hw _ n0 z16 b2 b6 b7 b8 b9 b10 f14 f17 f18 f13) (oPureK ?_)
  have f20 := (Exa.wr W12 (Exa.ext E9 (Exa.wr W4 (Exa.wr W1 p14))))
  refine oCast C (w160 hw) (Ins.self f20) d14_104 rfl ?_
  refine oAstore C d14_107 rfl (Ls' := #[.val (.ref b1), .val (.ref b2), .val (.int x3), .val (.long ((4 : Int64) * (x4.toInt64))), .second, .val (.int 2), .val (.ref b8), .unset]) rfl (q := 109) rfl ?_
  refine oIconst C d14_109 (z := 1) rfl rfl ?_
  refine oIstore C d14_110 (Ls' := #[.val (.ref b1), .val (.ref b2), .val (.int x3), .val (.long ((4 : Int64) * (x4.toInt64))), .second, .val (.int 2), .val (.ref b8), .val (.int 1)]) rfl (q := 112) rfl ?_
  refine oIload C d14_112 rfl rfl ?_
  refine oAloadN C d14_114 rfl rfl rfl ?_
  have f21 := (Fld.other W12 (Fld.ext E9 (Fld.other W4 f1w (Or.inr (oSn3 hw 0 1)))) (Or.inr (oSn3 hw 0 2)))
  refine oGetF C (w123 hw) Via.refl f21 d14_115 rfl ?_
  refine oIload C d14_118 rfl rfl ?_
  refine oIconst C d14_120 (z := 1) rfl rfl ?_
  refine oIsub C d14_121 rfl ?_
  refine oCastI (z' := (1 : Int32)) (by decide) ?_
  refine oCallS C (w162 hw) (w163 hw) (w111 hw) (w164 hw) d14_122 (by decide) pd_947237 rfl rfl (argsL := [.int (x3 - (1 : Int32)), .int 1]) (rest := [.int 1]) rfl (W := 1) rfl (q := 125) rfl (by decide) (by decide) (by decide) (by decide) (mt_fMin l Z a0 hw _ n0 z16 (x3 - (1 : Int32)) (1 : Int32) ) (oPureK ?_)
  refine oCastI (z' := (1 : Int32)) p15 ?_
  refine oIcmp_gt C d14_125 (q := 183) (by decide) (by decide) (r := 128) rfl (fun hq => absurd hq ((by decide))) (fun hc125 => ?_)
  have f23 := (Fld.other W12 (Fld.ext E9 (Fld.other W4 (Fld.other W1 p16 (Or.inl p17)) (Or.inl p17))) (Or.inl p17))
  have f24 := (Fld.other W12 (Fld.ext E9 (Fld.other W4 (Fld.other W1 p18 (Or.inl p19)) (Or.inl p19))) (Or.inl p19))
  refine oJoin (α := Heap) (fun w => oKe h12 w [a9] [] ∧ oAr Z w a9 .long (oRl x5 (0 : Int64) (oUp0 (1 : Int64) (0 : Int64) y12 (1 : Int64)) (0 : Int64) (0 : Int64))) (fun w => w) (fun _ => (mkF m 177 #[.val (.ref b1), .val (.ref b2), .val (.int x3), .val (.long ((4 : Int64) * (x4.toInt64))), .second, .val (.int 2), .val (.ref b8), .val (.int 1)] [])) (k := 1) (n := 16) (fun hj25 PJ => ?_) (fun J177 => ?_)
  ·
   obtain ⟨Kj25, Aj25⟩ := PJ
   show oW _ _ _ _ _ _ _ _ _ _ _ _ _ _ _ (mkF m 177 #[.val (.ref b1), .val (.ref b2), .val (.int x3), .val (.long ((4 : Int64) * (x4.toInt64))), .second, .val (.int 2), .val (.ref b8), .val (.int 1)] [])
   refine oIinc C d14_177 rfl (z := 1) rfl (w := (2 : Int32)) (by decide) (Ls' := #[.val (.ref b1), .val (.ref b2), .val (.int x3), .val (.long ((4 : Int64) * (x4.toInt64))), .second, .val (.int 2), .val (.ref b8), .val (.int 2)]) rfl rfl ?_
   refine oGoto C d14_180 (q := 112) (by decide) (by decide) ?_
   refine oIload C d14_112 rfl rfl ?_
   refine oAloadN C d14_114 rfl rfl rfl ?_
   have ne26 : b1 ≠ a9 := oNe' f4w.lt (Nat.le_of_eq g_a9.symm)
   have f27 := (Kj25.fld f21 (ninS ne26 nin0) oN0)
   refine oGetF C (w123 hw) Via.refl f27 d14_115 rfl ?_
   refine oIload C d14_118 rfl rfl ?_
   refine oIconst C d14_120 (z := 1) rfl rfl ?_
   refine oIsub C d14_121 rfl ?_
   refine oCastI (z' := (1 : Int32)) (by decide) ?_
   have z28 := (Nat.le_trans z16 Kj25.1)
   refine oCallS C (w162 hw) (w163 hw) (w111 hw) (w164 hw) d14_122 (by decide) pd_947237 rfl rfl (argsL := [.int (x3 - (1 : Int32)), .int 1]) (rest := [.int 2]) rfl (W := 1) rfl (q := 125) rfl (by decide) (by decide) (by decide) (by decide) (mt_fMin l Z a0 hw _ n0 z28 (x3 - (1 : Int32)) (1 : Int32) ) (oPureK ?_)
   refine oCastI (z' := (1 : Int32)) p15 ?_
   refine oIcmp_gt C d14_125 (q := 183) (by decide) (by decide) (r := 128) rfl (fun hc125_1 => ?_) (fun hq => absurd hq ((by decide)))
   refine oIinc C d14_183 rfl (z := 1) rfl (w := (3 : Int32)) (by decide) (Ls' := #[.val (.ref b1), .val (.ref b2), .val (.int x3), .val (.long ((4 : Int64) * (x4.toInt64))), .second, .val (.int 3), .val (.ref b8), .val (.int 2)]) rfl rfl ?_
   refine oGoto C d14_186 (q := 83) (by decide) (by decide) ?_
   refine oIload C d14_83 rfl rfl ?_
   refine oAloadN C d14_85 rfl rfl rfl ?_
   have f30 := (Kj25.exa f13)
   have ne31 : b2 ≠ a9 := oNe' (Nat.lt_of_lt_of_le p6.lt (Nat.le_trans (Nat.le_of_eq W1.size.symm) (Nat.le_of_eq W4.size.symm))) (Nat.le_of_eq g_a9.symm)
   have f32 := (Kj25.fld f14 (ninS ne31 nin0) oN0)
   refine oCallI C (w127 hw) (w128 hw) (w129 hw) (w130 hw) (w131 hw) (w132 hw) (w133 hw) (w88 hw) (w54 hw) (w134 hw) d14_86 f30 (by decide) pd_428473 rfl rfl (a := b2) (argsL := []) (rest := [.int 3]) rfl (W := 1) rfl (q := 91) rfl (by decide) (by decide) (by decide) (by decide) (ac15_20 l Z a0 hw _ n0 z28 b2 f32) (oPureK ?_)
   refine oIcmp_gt C d14_91 (q := 189) (by decide) (by decide) (r := 94) rfl (fun hq => absurd hq ((by decide))) (fun hc91_1 => ?_)
   refine oAloadN C d14_94 rfl rfl rfl ?_
   refine oIload C d14_95 rfl rfl ?_
   refine oIconst C d14_97 (z := 1) rfl rfl ?_
   refine oIsub C d14_98 rfl ?_
   refine oCastI (z' := (2 : Int32)) (by decide) ?_
   have f34 := (Kj25.fld f17 (ninS ne31 nin0) oN0)
   have ne35 : b6 ≠ a9 := oNe' (Nat.lt_of_lt_of_le p12.lt (Nat.le_trans (Nat.le_of_eq W1.size.symm) (Nat.le_of_eq W4.size.symm))) (Nat.le_of_eq g_a9.symm)
   have f36 := (Kj25.arrO f18 (ninS ne35 nin0) oA0)
   refine oCallI C (w139 hw) (w140 hw) (w141 hw) (w142 hw) (w143 hw) (w144 hw) (w145 hw) (w88 hw) (w54 hw) (w146 hw) d14_99 f30 (by decide) pd_666516 rfl rfl (a := b2) (argsL := [.int 2]) (rest := []) rfl (W := 0) rfl (q := 104) rfl (by decide) (by decide) (by decide) (by decide) (ac16_28 l Z a0 hw _ n0 z28 b2 b6 b7 b8 b9 b10 f32 f34 f36 f30) (oPureK ?_)
   have f38 := (Kj25.exa (Exa.wr W12 (Exa.ext E9 (Exa.wr W4 (Exa.wr W1 p20)))))
   refine oCast C (w160 hw) (Ins.self f38) d14_104 rfl ?_
   refine oAstore C d14_107 rfl (Ls' := #[.val (.ref b1), .val (.ref b2), .val (.int x3), .val (.long ((4 : Int64) * (x4.toInt64))), .second, .val (.int 3), .val (.ref b9), .val (.int 2)]) rfl (q := 109) rfl ?_
   refine oIconst C d14_109 (z := 1) rfl rfl ?_
   refine oIstore C d14_110 (Ls' := #[.val (.ref b1), .val (.ref b2), .val (.int x3), .val (.long ((4 : Int64) * (x4.toInt64))), .second, .val (.int 3), .val (.ref b9), .val (.int 1)]) rfl (q := 112) rfl ?_
   refine oIload C d14_112 rfl rfl ?_
   refine oAloadN C d14_114 rfl rfl rfl ?_
   refine oGetF C (w123 hw) Via.refl f27 d14_115 rfl ?_
   refine oIload C d14_118 rfl rfl ?_
   refine oIconst C d14_120 (z := 1) rfl rfl ?_
   refine oIsub C d14_121 rfl ?_
   refine oCastI (z' := (2 : Int32)) (by decide) ?_
   refine oCallS C (w162 hw) (w163 hw) (w111 hw) (w164 hw) d14_122 (by decide) pd_947237 rfl rfl (argsL := [.int (x3 - (1 : Int32)), .int 2]) (rest := [.int 1]) rfl (W := 1) rfl (q := 125) rfl (by decide) (by decide) (by decide) (by decide) (mt_fMin l Z a0 hw _ n0 z28 (x3 - (1 : Int32)) (2 : Int32) ) (oPureK ?_)
   refine oCastI (z' := (2 : Int32)) p21 ?_
   refine oIcmp_gt C d14_125 (q := 183) (by decide) (by decide) (r := 128) rfl (fun hq => absurd hq ((by decide))) (fun hc125_2 => ?_)
   have f40 := (Kj25.fld f12w (ninS ne26 nin0) oN0)
   have ne41 : b9 ≠ a9 := oNe' (Nat.lt_of_lt_of_le p22.lt (Nat.le_trans (Nat.le_of_eq W1.size.symm) (Nat.le_of_eq W4.size.symm))) (Nat.le_of_eq g_a9.symm)
   have f42 := (Kj25.fld (Fld.other W12 (Fld.ext E9 (Fld.other W4 (Fld.other W1 p22 (Or.inl p23)) (Or.inl p23))) (Or.inl p23)) (ninS ne41 nin0) oN0)
   have ne43 : b13 ≠ a9 := oNe' (Nat.lt_of_lt_of_le p24.lt (Nat.le_trans (Nat.le_of_eq W1.size.symm) (Nat.le_of_eq W4.size.symm))) (Nat.le_of_eq g_a9.symm)
   have f44 := (Kj25.fld (Fld.other W12 (Fld.ext E9 (Fld.other W4 (Fld.other W1 p24 (Or.inl p25)) (Or.inl p25))) (Or.inl p25)) (ninS ne43 nin0) oN0)
   refine oJoin (α := Heap) (fun w => oKe hj25 w [a9] [] ∧ oAr Z w a9 .long (oRl x5 (0 : Int64) (oUp0 (1 : Int64) (0 : Int64) y12 (1 : Int64)) (oUp (1 : Int64) ((1 : Int32) &&& 0x3f).toInt64 (0 : Int64) (oUp0 (1 : Int64) (0 : Int64) y12 (1 : Int64)) y14 (2 : Int64)) (0 : Int64))) (fun w => w) (fun _ => (mkF m 177 #[.val (.ref b1), .val (.ref b2), .val (.int x3), .val (.long ((4 : Int64) * (x4.toInt64))), .second, .val (.int 3), .val (.ref b9), .val (.int 1)] [])) (k := 1) (n := 16) (fun hj45 PJ => ?_) (fun J177 => ?_)
   ·
    obtain ⟨Kj45, Aj45⟩ := PJ
    show oW _ _ _ _ _ _ _ _ _ _ _ _ _ _ _ (mkF m 177 #[.val (.ref b1), .val (.ref b2), .val (.int x3), .val (.long ((4 : Int64) * (x4.toInt64))), .second, .val (.int 3), .val (.ref b9), .val (.int 1)] [])
    refine oIinc C d14_177 rfl (z := 1) rfl (w := (2 : Int32)) (by decide) (Ls' := #[.val (.ref b1), .val (.ref b2), .val (.int x3), .val (.long ((4 : Int64) * (x4.toInt64))), .second, .val (.int 3), .val (.ref b9), .val (.int 2)]) rfl rfl ?_
    refine oGoto C d14_180 (q := 112) (by decide) (by decide) ?_
    refine oIload C d14_112 rfl rfl ?_
    refine oAloadN C d14_114 rfl rfl rfl ?_
    have f46 := (Kj45.fld f27 (ninS ne26 nin0) oN0)
    refine oGetF C (w123 hw) Via.refl f46 d14_115 rfl ?_
    refine oIload C d14_118 rfl rfl ?_
    refine oIconst C d14_120 (z := 1) rfl rfl ?_
    refine oIsub C d14_121 rfl ?_
    refine oCastI (z' := (2 : Int32)) (by decide) ?_
    have z47 := (Nat.le_trans z28 Kj45.1)
    refine oCallS C (w162 hw) (w163 hw) (w111 hw) (w164 hw) d14_122 (by decide) pd_947237 rfl rfl (argsL := [.int (x3 - (1 : Int32)), .int 2]) (rest := [.int 2]) rfl (W := 1) rfl (q := 125) rfl (by decide) (by decide) (by decide) (by decide) (mt_fMin l Z a0 hw _ n0 z47 (x3 - (1 : Int32)) (2 : Int32) ) (oPureK ?_)
    refine oCastI (z' := (2 : Int32)) p21 ?_
    refine oIcmp_gt C d14_125 (q := 183) (by decide) (by decide) (r := 128) rfl (fun hq => absurd hq ((by decide))) (fun hc125_3 => ?_)
    have f49 := (Kj45.fld f40 (ninS ne26 nin0) oN0)
    have f50 := (Kj45.fld f42 (ninS ne41 nin0) oN0)
    have f51 := (Kj45.fld f44 (ninS ne43 nin0) oN0)
    refine oJoin (α := Heap) (fun w => oKe hj45 w [a9] [] ∧ oAr Z w a9 .long (oRl x5 (0 : Int64) (oUp0 (1 : Int64) (0 : Int64) y12 (1 : Int64)) (oUp0 (2 : Int64) (oUp (1 : Int64) ((1 : Int32) &&& 0x3f).toInt64 (0 : Int64) (oUp0 (1 : Int64) (0 : Int64) y12 (1 : Int64)) y14 (2 : Int64)) y14 (1 : Int64)) (0 : Int64))) (fun w => w) (fun _ => (mkF m 177 #[.val (.ref b1), .val (.ref b2), .val (.int x3), .val (.long ((4 : Int64) * (x4.toInt64))), .second, .val (.int 3), .val (.ref b9), .val (.int 2)] [])) (k := 1) (n := 16) (fun hj52 PJ => ?_) (fun J177 => ?_)
    ·
     obtain ⟨Kj52, Aj52⟩ := PJ
     show oW _ _ _ _ _ _ _ _ _ _ _ _ _ _ _ (mkF m 177 #[.val (.ref b1), .val (.ref b2), .val (.int x3), .val (.long ((4 : Int64) * (x4.toInt64))), .second, .val (.int 3), .val (.ref b9), .val (.int 2)] [])
     refine oIinc C d14_177 rfl (z := 1) rfl (w := (3 : Int32)) (by decide) (Ls' := #[.val (.ref b1), .val (.ref b2), .val (.int x3), .val (.long ((4 : Int64) * (x4.toInt64))), .second, .val (.int 3), .val (.ref b9), .val (.int 3)]) rfl rfl ?_
     refine oGoto C d14_180 (q := 112) (by decide) (by decide) ?_
     refine oIload C d14_112 rfl rfl ?_
     refine oAloadN C d14_114 rfl rfl rfl ?_
     have f53 := (Kj52.fld f46 (ninS ne26 nin0) oN0)
     refine oGetF C (w123 hw) Via.refl f53 d14_115 rfl ?_
     refine oIload C d14_118 rfl rfl ?_
     refine oIconst C d14_120 (z := 1) rfl rfl ?_
     refine oIsub C d14_121 rfl ?_
     refine oCastI (z' := (2 : Int32)) (by decide) ?_
     have z54 := (Nat.le_trans z47 Kj52.1)
     refine oCallS C (w162 hw) (w163 hw) (w111 hw) (w164 hw) d14_122 (by decide) pd_947237 rfl rfl (argsL := [.int (x3 - (1 : Int32)), .int 2]) (rest := [.int 3]) rfl (W := 1) rfl (q := 125) rfl (by decide) (by decide) (by decide) (by decide) (mt_fMin l Z a0 hw _ n0 z54 (x3 - (1 : Int32)) (2 : Int32) ) (oPureK ?_)
     refine oCastI (z' := (2 : Int32)) p21 ?_
     refine oIcmp_gt C d14_125 (q := 183) (by decide) (by decide) (r := 128) rfl (fun hc125_4 => ?_) (fun hq => absurd hq ((by decide)))
     refine oIinc C d14_183 rfl (z := 1) rfl (w := (4 : Int32)) (by decide) (Ls' := #[.val (.ref b1), .val (.ref b2), .val (.int x3), .val (.long ((4 : Int64) * (x4.toInt64))), .second, .val (.int 4), .val (.ref b9), .val (.int 3)]) rfl rfl ?_
     refine oGoto C d14_186 (q := 83) (by decide) (by decide) ?_
     refine oIload C d14_83 rfl rfl ?_
     refine oAloadN C d14_85 rfl rfl rfl ?_
     have f56 := (Kj52.exa (Kj45.exa f30))
     have f57 := (Kj52.fld (Kj45.fld f32 (ninS ne31 nin0) oN0) (ninS ne31 nin0) oN0)
     refine oCallI C (w127 hw) (w128 hw) (w129 hw) (w130 hw) (w131 hw) (w132 hw) (w133 hw) (w88 hw) (w54 hw) (w134 hw) d14_86 f56 (by decide) pd_428473 rfl rfl (a := b2) (argsL := []) (rest := [.int 4]) rfl (W := 1) rfl (q := 91) rfl (by decide) (by decide) (by decide) (by decide) (ac15_20 l Z a0 hw _ n0 z54 b2 f57) (oPureK ?_)
     refine oIcmp_gt C d14_91 (q := 189) (by decide) (by decide) (r := 94) rfl (fun hq => absurd hq ((by decide))) (fun hc91_2 => ?_)
     refine oAloadN C d14_94 rfl rfl rfl ?_
     refine oIload C d14_95 rfl rfl ?_
     refine oIconst C d14_97 (z := 1) rfl rfl ?_
     refine oIsub C d14_98 rfl ?_
     refine oCastI (z' := (3 : Int32)) (by decide) ?_
     have f59 := (Kj52.fld (Kj45.fld f34 (ninS ne31 nin0) oN0) (ninS ne31 nin0) oN0)
     have f60 := (Kj52.arrO (Kj45.arrO f36 (ninS ne35 nin0) oA0) (ninS ne35 nin0) oA0)
     refine oCallI C (w139 hw) (w140 hw) (w141 hw) (w142 hw) (w143 hw) (w144 hw) (w145 hw) (w88 hw) (w54 hw) (w146 hw) d14_99 f56 (by decide) pd_666516 rfl rfl (a := b2) (argsL := [.int 3]) (rest := []) rfl (W := 0) rfl (q := 104) rfl (by decide) (by decide) (by decide) (by decide) (ac16_32 l Z a0 hw _ n0 z54 b2 b6 b7 b8 b9 b10 f57 f59 f60 f56) (oPureK ?_)
     have f62 := (Kj52.exa (Kj45.exa (Kj25.exa (Exa.wr W12 (Exa.ext E9 (Exa.wr W4 (Exa.wr W1 p26)))))))
     refine oCast C (w160 hw) (Ins.self f62) d14_104 rfl ?_
     refine oAstore C d14_107 rfl (Ls' := #[.val (.ref b1), .val (.ref b2), .val (.int x3), .val (.long ((4 : Int64) * (x4.toInt64))), .second, .val (.int 4), .val (.ref b10), .val (.int 3)]) rfl (q := 109) rfl ?_
     refine oIconst C d14_109 (z := 1) rfl rfl ?_
     refine oIstore C d14_110 (Ls' := #[.val (.ref b1), .val (.ref b2), .val (.int x3), .val (.long ((4 : Int64) * (x4.toInt64))), .second, .val (.int 4), .val (.ref b10), .val (.int 1)]) rfl (q := 112) rfl ?_
     refine oIload C d14_112 rfl rfl ?_
     refine oAloadN C d14_114 rfl rfl rfl ?_
     refine oGetF C (w123 hw) Via.refl f53 d14_115 rfl ?_
     refine oIload C d14_118 rfl rfl ?_
     refine oIconst C d14_120 (z := 1) rfl rfl ?_
     refine oIsub C d14_121 rfl ?_
     refine oCastI (z' := (3 : Int32)) (by decide) ?_
     refine oCallS C (w162 hw) (w163 hw) (w111 hw) (w164 hw) d14_122 (by decide) pd_947237 rfl rfl (argsL := [.int (x3 - (1 : Int32)), .int 3]) (rest := [.int 1]) rfl (W := 1) rfl (q := 125) rfl (by decide) (by decide) (by decide) (by decide) (mt_fMin l Z a0 hw _ n0 z54 (x3 - (1 : Int32)) (3 : Int32) ) (oPureK ?_)
     refine oCastI (z' := (2 : Int32)) p27 ?_
     refine oIcmp_gt C d14_125 (q := 183) (by decide) (by decide) (r := 128) rfl (fun hq => absurd hq ((by decide))) (fun hc125_5 => ?_)
     have f64 := (Kj52.fld f49 (ninS ne26 nin0) oN0)
     have ne65 : b10 ≠ a9 := oNe' (Nat.lt_of_lt_of_le p28.lt (Nat.le_trans (Nat.le_of_eq W1.size.symm) (Nat.le_of_eq W4.size.symm))) (Nat.le_of_eq g_a9.symm)
     have f66 := (Kj52.fld (Kj45.fld (Kj25.fld (Fld.other W12 (Fld.ext E9 (Fld.other W4 (Fld.other W1 p28 (Or.inl p29)) (Or.inl p29))) (Or.inl p29)) (ninS ne65 nin0) oN0) (ninS ne65 nin0) oN0) (ninS ne65 nin0) oN0)
     have ne67 : b15 ≠ a9 := oNe' (Nat.lt_of_lt_of_le p30.lt (Nat.le_trans (Nat.le_of_eq W1.size.symm) (Nat.le_of_eq W4.size.symm))) (Nat.le_of_eq g_a9.symm)
     have f68 := (Kj52.fld (Kj45.fld (Kj25.fld (Fld.other W12 (Fld.ext E9 (Fld.other W4 (Fld.other W1 p30 (Or.inl p31)) (Or.inl p31))) (Or.inl p31)) (ninS ne67 nin0) oN0) (ninS ne67 nin0) oN0) (ninS ne67 nin0) oN0)
     refine oJoin (α := Heap) (fun w => oKe hj52 w [a9] [] ∧ oAr Z w a9 .long (oRl x5 (0 : Int64) (oUp0 (1 : Int64) (0 : Int64) y12 (1 : Int64)) (oUp0 (2 : Int64) (oUp (1 : Int64) ((1 : Int32) &&& 0x3f).toInt64 (0 : Int64) (oUp0 (1 : Int64) (0 : Int64) y12 (1 : Int64)) y14 (2 : Int64)) y14 (1 : Int64)) (oUp (1 : Int64) ((1 : Int32) &&& 0x3f).toInt64 (0 : Int64) (oUp0 (2 : Int64) (oUp (1 : Int64) ((1 : Int32) &&& 0x3f).toInt64 (0 : Int64) (oUp0 (1 : Int64) (0 : Int64) y12 (1 : Int64)) y14 (2 : Int64)) y14 (1 : Int64)) y16 (4 : Int64)))) (fun w => w) (fun _ => (mkF m 177 #[.val (.ref b1), .val (.ref b2), .val (.int x3), .val (.long ((4 : Int64) * (x4.toInt64))), .second, .val (.int 4), .val (.ref b10), .val (.int 1)] [])) (k := 1) (n := 16) (fun hj69 PJ => ?_) (fun J177 => ?_)
     ·
      obtain ⟨Kj69, Aj69⟩ := PJ
      show oW _ _ _ _ _ _ _ _ _ _ _ _ _ _ _ (mkF m 177 #[.val (.ref b1), .val (.ref b2), .val (.int x3), .val (.long ((4 : Int64) * (x4.toInt64))), .second, .val (.int 4), .val (.ref b10), .val (.int 1)] [])
      refine oIinc C d14_177 rfl (z := 1) rfl (w := (2 : Int32)) (by decide) (Ls' := #[.val (.ref b1), .val (.ref b2), .val (.int x3), .val (.long ((4 : Int64) * (x4.toInt64))), .second, .val (.int 4), .val (.ref b10), .val (.int 2)]) rfl rfl ?_
      refine oGoto C d14_180 (q := 112) (by decide) (by decide) ?_
      refine oIload C d14_112 rfl rfl ?_
      refine oAloadN C d14_114 rfl rfl rfl ?_
      have f70 := (Kj69.fld f53 (ninS ne26 nin0) oN0)
      refine oGetF C (w123 hw) Via.refl f70 d14_115 rfl ?_
      refine oIload C d14_118 rfl rfl ?_
      refine oIconst C d14_120 (z := 1) rfl rfl ?_
      refine oIsub C d14_121 rfl ?_
      refine oCastI (z' := (3 : Int32)) (by decide) ?_
      have z71 := (Nat.le_trans z54 Kj69.1)
      refine oCallS C (w162 hw) (w163 hw) (w111 hw) (w164 hw) d14_122 (by decide) pd_947237 rfl rfl (argsL := [.int (x3 - (1 : Int32)), .int 3]) (rest := [.int 2]) rfl (W := 1) rfl (q := 125) rfl (by decide) (by decide) (by decide) (by decide) (mt_fMin l Z a0 hw _ n0 z71 (x3 - (1 : Int32)) (3 : Int32) ) (oPureK ?_)
      refine oCastI (z' := (2 : Int32)) p27 ?_
      refine oIcmp_gt C d14_125 (q := 183) (by decide) (by decide) (r := 128) rfl (fun hq => absurd hq ((by decide))) (fun hc125_6 => ?_)
      have f73 := (Kj69.fld f64 (ninS ne26 nin0) oN0)
      have f74 := (Kj69.fld f66 (ninS ne65 nin0) oN0)
      have f75 := (Kj69.fld f68 (ninS ne67 nin0) oN0)
      refine oJoin (α := Heap) (fun w => oKe hj69 w [a9] [] ∧ oAr Z w a9 .long (oRl x5 (0 : Int64) (oUp0 (1 : Int64) (0 : Int64) y12 (1 : Int64)) (oUp0 (2 : Int64) (oUp (1 : Int64) ((1 : Int32) &&& 0x3f).toInt64 (0 : Int64) (oUp0 (1 : Int64) (0 : Int64) y12 (1 : Int64)) y14 (2 : Int64)) y14 (1 : Int64)) (oUp (2 : Int64) ((2 : Int32) &&& 0x3f).toInt64 (oUp (1 : Int64) ((1 : Int32) &&& 0x3f).toInt64 (0 : Int64) (oUp0 (2 : Int64) (oUp (1 : Int64) ((1 : Int32) &&& 0x3f).toInt64 (0 : Int64) (oUp0 (1 : Int64) (0 : Int64) y12 (1 : Int64)) y14 (2 : Int64)) y14 (1 : Int64)) y16 (4 : Int64)) (oUp0 (1 : Int64) (0 : Int64) y12 (1 : Int64)) y16 (2 : Int64)))) (fun w => w) (fun _ => (mkF m 177 #[.val (.ref b1), .val (.ref b2), .val (.int x3), .val (.long ((4 : Int64) * (x4.toInt64))), .second, .val (.int 4), .val (.ref b10), .val (.int 2)] [])) (k := 1) (n := 16) (fun hj76 PJ => ?_) (fun J177 => ?_)
      ·
       obtain ⟨Kj76, Aj76⟩ := PJ
       show oW _ _ _ _ _ _ _ _ _ _ _ _ _ _ _ (mkF m 177 #[.val (.ref b1), .val (.ref b2), .val (.int x3), .val (.long ((4 : Int64) * (x4.toInt64))), .second, .val (.int 4), .val (.ref b10), .val (.int 2)] [])
       refine oIinc C d14_177 rfl (z := 1) rfl (w := (3 : Int32)) (by decide) (Ls' := #[.val (.ref b1), .val (.ref b2), .val (.int x3), .val (.long ((4 : Int64) * (x4.toInt64))), .second, .val (.int 4), .val (.ref b10), .val (.int 3)]) rfl rfl ?_
       refine oGoto C d14_180 (q := 112) (by decide) (by decide) ?_
       refine oIload C d14_112 rfl rfl ?_
       refine oAloadN C d14_114 rfl rfl rfl ?_
       have f77 := (Kj76.fld f70 (ninS ne26 nin0) oN0)
       refine oGetF C (w123 hw) Via.refl f77 d14_115 rfl ?_
       refine oIload C d14_118 rfl rfl ?_
       refine oIconst C d14_120 (z := 1) rfl rfl ?_
       refine oIsub C d14_121 rfl ?_
       refine oCastI (z' := (3 : Int32)) (by decide) ?_
       have z78 := (Nat.le_trans z71 Kj76.1)
       refine oCallS C (w162 hw) (w163 hw) (w111 hw) (w164 hw) d14_122 (by decide) pd_947237 rfl rfl (argsL := [.int (x3 - (1 : Int32)), .int 3]) (rest := [.int 3]) rfl (W := 1) rfl (q := 125) rfl (by decide) (by decide) (by decide) (by decide) (mt_fMin l Z a0 hw _ n0 z78 (x3 - (1 : Int32)) (3 : Int32) ) (oPureK ?_)
       refine oCastI (z' := (2 : Int32)) p27 ?_
       refine oIcmp_gt C d14_125 (q := 183) (by decide) (by decide) (r := 128) rfl (fun hc125_7 => ?_) (fun hq => absurd hq ((by decide)))
       refine oIinc C d14_183 rfl (z := 1) rfl (w := (5 : Int32)) (by decide) (Ls' := #[.val (.ref b1), .val (.ref b2), .val (.int x3), .val (.long ((4 : Int64) * (x4.toInt64))), .second, .val (.int 5), .val (.ref b10), .val (.int 3)]) rfl rfl ?_
       refine oGoto C d14_186 (q := 83) (by decide) (by decide) ?_
       refine oIload C d14_83 rfl rfl ?_
       refine oAloadN C d14_85 rfl rfl rfl ?_
       have f80 := (Kj76.exa (Kj69.exa f56))
       have f81 := (Kj76.fld (Kj69.fld f57 (ninS ne31 nin0) oN0) (ninS ne31 nin0) oN0)
       refine oCallI C (w127 hw) (w128 hw) (w129 hw) (w130 hw) (w131 hw) (w132 hw) (w133 hw) (w88 hw) (w54 hw) (w134 hw) d14_86 f80 (by decide) pd_428473 rfl rfl (a := b2) (argsL := []) (rest := [.int 5]) rfl (W := 1) rfl (q := 91) rfl (by decide) (by decide) (by decide) (by decide) (ac15_20 l Z a0 hw _ n0 z78 b2 f81) (oPureK ?_)
       refine oIcmp_gt C d14_91 (q := 189) (by decide) (by decide) (r := 94) rfl (fun hc91_3 => ?_) (fun hq => absurd hq ((by decide)))
       refine oRetV C d14_189 (by decide) (by decide) ?_
       have f83 := (Kj76.fld (Kj69.fld (Kj52.fld (Kj45.fld (Kj25.fld (Fld.other W12 (Fld.ext E9 f4w) (Or.inr (oSn3 hw 1 2))) (ninS ne26 nin0) oN0) (ninS ne26 nin0) oN0) (ninS ne26 nin0) oN0) (ninS ne26 nin0) oN0) (ninS ne26 nin0) oN0)
       have f84 := (Kj76.fld f73 (ninS ne26 nin0) oN0)
       exact ⟨_, rfl, ((((((((((oKe.refl h0 [] [(b1, Jvm.RoadKit.slotOf Z sP "span" "I"), (b1, Jvm.RoadKit.slotOf Z sP "words" "I"), (b1, Jvm.RoadKit.slotOf Z sP "bits" "[J")]).wrF W1 (Or.inl (List.mem_of_getElem? (i := 0) rfl))).wrF W4 (Or.inl (List.mem_of_getElem? (i := 1) rfl))).ext E9).wrF W12 (Or.inl (List.mem_of_getElem? (i := 2) rfl))).trans Kj25 (allS (Or.inr (Nat.le_trans (((oKe.refl h0 [] [(b1, Jvm.RoadKit.slotOf Z sP "span" "I"), (b1, Jvm.RoadKit.slotOf Z sP "words" "I"), (b1, Jvm.RoadKit.slotOf Z sP "bits" "[J")]).wrF W1 (Or.inl (List.mem_of_getElem? (i := 0) rfl))).wrF W4 (Or.inl (List.mem_of_getElem? (i := 1) rfl))).1 (Nat.le_of_eq g_a9.symm))) all0) oA0).trans Kj45 (allS (Or.inr (Nat.le_trans (((oKe.refl h0 [] [(b1, Jvm.RoadKit.slotOf Z sP "span" "I"), (b1, Jvm.RoadKit.slotOf Z sP "words" "I"), (b1, Jvm.RoadKit.slotOf Z sP "bits" "[J")]).wrF W1 (Or.inl (List.mem_of_getElem? (i := 0) rfl))).wrF W4 (Or.inl (List.mem_of_getElem? (i := 1) rfl))).1 (Nat.le_of_eq g_a9.symm))) all0) oA0).trans Kj52 (allS (Or.inr (Nat.le_trans (((oKe.refl h0 [] [(b1, Jvm.RoadKit.slotOf Z sP "span" "I"), (b1, Jvm.RoadKit.slotOf Z sP "words" "I"), (b1, Jvm.RoadKit.slotOf Z sP "bits" "[J")]).wrF W1 (Or.inl (List.mem_of_getElem? (i := 0) rfl))).wrF W4 (Or.inl (List.mem_of_getElem? (i := 1) rfl))).1 (Nat.le_of_eq g_a9.symm))) all0) oA0).trans Kj69 (allS (Or.inr (Nat.le_trans (((oKe.refl h0 [] [(b1, Jvm.RoadKit.slotOf Z sP "span" "I"), (b1, Jvm.RoadKit.slotOf Z sP "words" "I"), (b1, Jvm.RoadKit.slotOf Z sP "bits" "[J")]).wrF W1 (Or.inl (List.mem_of_getElem? (i := 0) rfl))).wrF W4 (Or.inl (List.mem_of_getElem? (i := 1) rfl))).1 (Nat.le_of_eq g_a9.symm))) all0) oA0).trans Kj76 (allS (Or.inr (Nat.le_trans (((oKe.refl h0 [] [(b1, Jvm.RoadKit.slotOf Z sP "span" "I"), (b1, Jvm.RoadKit.slotOf Z sP "words" "I"), (b1, Jvm.RoadKit.slotOf Z sP "bits" "[J")]).wrF W1 (Or.inl (List.mem_of_getElem? (i := 0) rfl))).wrF W4 (Or.inl (List.mem_of_getElem? (i := 1) rfl))).1 (Nat.le_of_eq g_a9.symm))) all0) oA0), (Nat.le_trans (((oKe.refl h0 [] [(b1, Jvm.RoadKit.slotOf Z sP "span" "I"), (b1, Jvm.RoadKit.slotOf Z sP "words" "I"), (b1, Jvm.RoadKit.slotOf Z sP "bits" "[J")]).wrF W1 (Or.inl (List.mem_of_getElem? (i := 0) rfl))).wrF W4 (Or.inl (List.mem_of_getElem? (i := 1) rfl))).1 (Nat.le_of_eq g_a9.symm)), f77, f83, Aj76, f84⟩
      ·
       refine oAloadN C d14_128 rfl rfl rfl ?_
       refine oIload C d14_129 rfl rfl ?_
       refine oIload C d14_131 rfl rfl ?_
       refine oIload C d14_133 rfl rfl ?_
       refine oIsub C d14_135 rfl ?_
       refine oCastI (z' := (2 : Int32)) (by decide) ?_
       have f85 := (Kj69.fld (Kj52.fld (Kj45.fld (Kj25.fld (Fld.other W12 (Fld.ext E9 f4w) (Or.inr (oSn3 hw 1 2))) (ninS ne26 nin0) oN0) (ninS ne26 nin0) oN0) (ninS ne26 nin0) oN0) (ninS ne26 nin0) oN0)
       have f87 := (Kj69.exa (Kj52.exa (Kj45.exa (Kj25.exa (Exa.wr W12 f10)))))
       refine oCallV C (w166 hw) (w167 hw) (w169 hw) (w168 hw) (w118 hw) (w170 hw) d14_136 f87 (by decide) pd_947254 rfl rfl (a := b1) (argsL := [.int 4, .int 2]) (rest := []) rfl (W := 0) rfl (q := 139) rfl (by decide) (by decide) (by decide) (by decide) (ac21_60 l Z a0 hw _ n0 z71 b1 a9 x4 x5 (oUp0 (1 : Int64) (0 : Int64) y12 (1 : Int64)) (oUp0 (2 : Int64) (oUp (1 : Int64) ((1 : Int32) &&& 0x3f).toInt64 (0 : Int64) (oUp0 (1 : Int64) (0 : Int64) y12 (1 : Int64)) y14 (2 : Int64)) y14 (1 : Int64)) (oUp (1 : Int64) ((1 : Int32) &&& 0x3f).toInt64 (0 : Int64) (oUp0 (2 : Int64) (oUp (1 : Int64) ((1 : Int32) &&& 0x3f).toInt64 (0 : Int64) (oUp0 (1 : Int64) (0 : Int64) y12 (1 : Int64)) y14 (2 : Int64)) y14 (1 : Int64)) y16 (4 : Int64)) f73 f85 Aj69 p9) (oPureK ?_)
       refine oIf_ne C d14_139 (q := 177) (by decide) (by decide) (r := 142) rfl (fun hc139 => ?_) (fun hc139 => ?_)
       ·
        exact J177 _ ⟨(oKe.refl hj69 [a9] []), by rw [show (oUp (2 : Int64) ((2 : Int32) &&& 0x3f).toInt64 (oUp (1 : Int64) ((1 : Int32) &&& 0x3f).toInt64 (0 : Int64) (oUp0 (2 : Int64) (oUp (1 : Int64) ((1 : Int32) &&& 0x3f).toInt64 (0 : Int64) (oUp0 (1 : Int64) (0 : Int64) y12 (1 : Int64)) y14 (2 : Int64)) y14 (1 : Int64)) y16 (4 : Int64)) (oUp0 (1 : Int64) (0 : Int64) y12 (1 : Int64)) y16 (2 : Int64)) = (oUp (1 : Int64) ((1 : Int32) &&& 0x3f).toInt64 (0 : Int64) (oUp0 (2 : Int64) (oUp (1 : Int64) ((1 : Int32) &&& 0x3f).toInt64 (0 : Int64) (oUp0 (1 : Int64) (0 : Int64) y12 (1 : Int64)) y14 (2 : Int64)) y14 (1 : Int64)) y16 (4 : Int64)) from oUp_a (by have q := hc139; rw [ft21_6_def, own_z] at q; exact q)]; exact Aj69⟩
       ·
        refine oAload C d14_142 rfl rfl rfl ?_
        refine oAloadN C d14_144 rfl rfl rfl ?_
        refine oIload C d14_145 rfl rfl ?_
        refine oIload C d14_147 rfl rfl ?_
        refine oIsub C d14_149 rfl ?_
        refine oCastI (z' := (2 : Int32)) (by decide) ?_
        refine oIconst C d14_150 (z := 1) rfl rfl ?_
        refine oIsub C d14_151 rfl ?_
        refine oCastI (z' := (1 : Int32)) (by decide) ?_
        have f88 := (Kj69.exa f56)
        have f89 := (Kj69.fld f57 (ninS ne31 nin0) oN0)
        have f90 := (Kj69.fld f59 (ninS ne31 nin0) oN0)
        have f91 := (Kj69.arrO f60 (ninS ne35 nin0) oA0)
        refine oCallI C (w139 hw) (w140 hw) (w141 hw) (w142 hw) (w143 hw) (w144 hw) (w145 hw) (w88 hw) (w54 hw) (w146 hw) d14_152 f88 (by decide) pd_666516 rfl rfl (a := b2) (argsL := [.int 1]) (rest := [.ref b10]) rfl (W := 1) rfl (q := 157) rfl (by decide) (by decide) (by decide) (by decide) (ac16_24 l Z a0 hw _ n0 z71 b2 b6 b7 b8 b9 b10 f89 f90 f91 f88) (oPureK ?_)
        have f93 := (Kj69.exa (Kj52.exa (Kj45.exa (Kj25.exa f20))))
        refine oCast C (w160 hw) (Ins.self f93) d14_157 rfl ?_
        have ne94 : b8 ≠ a9 := oNe' (Nat.lt_of_lt_of_le p39.lt (Nat.le_trans (Nat.le_of_eq W1.size.symm) (Nat.le_of_eq W4.size.symm))) (Nat.le_of_eq g_a9.symm)
        have f95 := (Kj69.fld (Kj52.fld (Kj45.fld (Kj25.fld f23 (ninS ne94 nin0) oN0) (ninS ne94 nin0) oN0) (ninS ne94 nin0) oN0) (ninS ne94 nin0) oN0)
        have ne96 : b11 ≠ a9 := oNe' (Nat.lt_of_lt_of_le p32.lt (Nat.le_trans (Nat.le_of_eq W1.size.symm) (Nat.le_of_eq W4.size.symm))) (Nat.le_of_eq g_a9.symm)
        have f97 := (Kj69.fld (Kj52.fld (Kj45.fld (Kj25.fld (Fld.other W12 (Fld.ext E9 (Fld.other W4 (Fld.other W1 p32 (Or.inl p19)) (Or.inl p19))) (Or.inl p19)) (ninS ne96 nin0) oN0) (ninS ne96 nin0) oN0) (ninS ne96 nin0) oN0) (ninS ne96 nin0) oN0)
        have f98 := (Kj69.fld (Kj52.fld (Kj45.fld (Kj25.fld (Fld.other W12 (Fld.ext E9 (Fld.other W4 (Fld.other W1 p33 (Or.inl p31)) (Or.inl p31))) (Or.inl p31)) (ninS ne67 nin0) oN0) (ninS ne67 nin0) oN0) (ninS ne67 nin0) oN0) (ninS ne67 nin0) oN0)
        have f99 := (Kj69.exa (Kj52.exa (Kj45.exa (Kj25.exa (Exa.wr W12 (Exa.ext E9 (Exa.wr W4 (Exa.wr W1 p34))))))))
        have f100 := (Kj69.fld (Kj52.fld (Kj45.fld (Kj25.fld (Fld.other W12 (Fld.ext E9 (Fld.other W4 (Fld.other W1 p35 (Or.inl p29)) (Or.inl p29))) (Or.inl p29)) (ninS ne65 nin0) oN0) (ninS ne65 nin0) oN0) (ninS ne65 nin0) oN0) (ninS ne65 nin0) oN0)
        have f101 := (Kj69.fld (Kj52.fld (Kj45.fld (Kj25.fld (Fld.other W12 (Fld.ext E9 (Fld.other W4 (Fld.other W1 p36 (Or.inl p29)) (Or.inl p29))) (Or.inl p29)) (ninS ne65 nin0) oN0) (ninS ne65 nin0) oN0) (ninS ne65 nin0) oN0) (ninS ne65 nin0) oN0)
        have f102 := (Kj69.fld (Kj52.fld (Kj45.fld (Kj25.fld (Fld.other W12 (Fld.ext E9 (Fld.other W4 (Fld.other W1 p37 (Or.inl p19)) (Or.inl p19))) (Or.inl p19)) (ninS ne96 nin0) oN0) (ninS ne96 nin0) oN0) (ninS ne96 nin0) oN0) (ninS ne96 nin0) oN0)
        have f103 := (Kj69.exa (Kj52.exa (Kj45.exa (Kj25.exa (Exa.wr W12 (Exa.ext E9 (Exa.wr W4 (Exa.wr W1 p38))))))))
        have f104 := (Kj69.fld (Kj52.fld (Kj45.fld (Kj25.fld (Fld.other W12 (Fld.ext E9 (Fld.other W4 (Fld.other W1 p39 (Or.inl p17)) (Or.inl p17))) (Or.inl p17)) (ninS ne94 nin0) oN0) (ninS ne94 nin0) oN0) (ninS ne94 nin0) oN0) (ninS ne94 nin0) oN0)
        have f105 := (Kj69.fld (Kj52.fld (Kj45.fld (Kj25.fld (Fld.other W12 (Fld.ext E9 (Fld.other W4 (Fld.other W1 p40 (Or.inl p17)) (Or.inl p17))) (Or.inl p17)) (ninS ne94 nin0) oN0) (ninS ne94 nin0) oN0) (ninS ne94 nin0) oN0) (ninS ne94 nin0) oN0)
        have f107 := (Kj69.exa f62)
        refine oCallV C (w171 hw) (w172 hw) (w174 hw) (w173 hw) (w34 hw) (w175 hw) d14_160 f107 (by decide) pd_138820 rfl rfl (a := b10) (argsL := [.ref b8]) (rest := []) rfl (W := 0) rfl (q := 163) rfl (by decide) (by decide) (by decide) (by decide) (ac22_45 l Z a0 hw _ n0 z71 b10 b8 b15 b11 y16 f74 f95 f97 f98 f99 f75 f100 f101 f102 f103 f104 f105) (oPureK ?_)
        refine oIf_eq C d14_163 (q := 177) (by decide) (by decide) (r := 166) rfl (fun hc163 => ?_) (fun hc163 => ?_)
        ·
         exact J177 _ ⟨(oKe.refl hj69 [a9] []), by rw [show (oUp (2 : Int64) ((2 : Int32) &&& 0x3f).toInt64 (oUp (1 : Int64) ((1 : Int32) &&& 0x3f).toInt64 (0 : Int64) (oUp0 (2 : Int64) (oUp (1 : Int64) ((1 : Int32) &&& 0x3f).toInt64 (0 : Int64) (oUp0 (1 : Int64) (0 : Int64) y12 (1 : Int64)) y14 (2 : Int64)) y14 (1 : Int64)) y16 (4 : Int64)) (oUp0 (1 : Int64) (0 : Int64) y12 (1 : Int64)) y16 (2 : Int64)) = (oUp (1 : Int64) ((1 : Int32) &&& 0x3f).toInt64 (0 : Int64) (oUp0 (2 : Int64) (oUp (1 : Int64) ((1 : Int32) &&& 0x3f).toInt64 (0 : Int64) (oUp0 (1 : Int64) (0 : Int64) y12 (1 : Int64)) y14 (2 : Int64)) y14 (1 : Int64)) y16 (4 : Int64)) from oUp_b (by have q := hc139; rw [ft21_6_def, own_z] at q; exact q) (by have q := hc163; rw [ft26_1_def, own_z] at q; exact q)]; exact Aj69⟩
        ·
         refine oAloadN C d14_166 rfl rfl rfl ?_
         refine oIload C d14_167 rfl rfl ?_
         refine oIload C d14_169 rfl rfl ?_
         refine oIload C d14_171 rfl rfl ?_
         refine oIsub C d14_173 rfl ?_
         refine oCastI (z' := (2 : Int32)) (by decide) ?_
         refine oCallP C (w197 hw) (w199 hw) (w117 hw) (w198 hw) (w118 hw) (w200 hw) d14_174 f87 (by decide) pd_947250 rfl rfl (a := b1) (argsL := [.int 4, .int 2]) (rest := []) rfl (W := 0) rfl (q := 177) rfl (by decide) (by decide) (by decide) (by decide) (ac28_61 l Z a0 hw _ n0 z71 b1 x4 a9 x5 (oUp0 (1 : Int64) (0 : Int64) y12 (1 : Int64)) (oUp0 (2 : Int64) (oUp (1 : Int64) ((1 : Int32) &&& 0x3f).toInt64 (0 : Int64) (oUp0 (1 : Int64) (0 : Int64) y12 (1 : Int64)) y14 (2 : Int64)) y14 (1 : Int64)) (oUp (1 : Int64) ((1 : Int32) &&& 0x3f).toInt64 (0 : Int64) (oUp0 (2 : Int64) (oUp (1 : Int64) ((1 : Int32) &&& 0x3f).toInt64 (0 : Int64) (oUp0 (1 : Int64) (0 : Int64) y12 (1 : Int64)) y14 (2 : Int64)) y14 (1 : Int64)) y16 (4 : Int64)) f85 f73 Aj69 p9 ne26 ge_a9 (sh_2 y12)) (oVQ ?_)
         rintro h108 ⟨K108, f108_0⟩
         exact J177 _ ⟨((oKe.refl hj69 [a9] []).trans K108 (allS (Or.inl (List.mem_of_getElem? (i := 0) rfl)) all0) oA0), by rw [show (oUp (2 : Int64) ((2 : Int32) &&& 0x3f).toInt64 (oUp (1 : Int64) ((1 : Int32) &&& 0x3f).toInt64 (0 : Int64) (oUp0 (2 : Int64) (oUp (1 : Int64) ((1 : Int32) &&& 0x3f).toInt64 (0 : Int64) (oUp0 (1 : Int64) (0 : Int64) y12 (1 : Int64)) y14 (2 : Int64)) y14 (1 : Int64)) y16 (4 : Int64)) (oUp0 (1 : Int64) (0 : Int64) y12 (1 : Int64)) y16 (2 : Int64)) = (((oUp (1 : Int64) ((1 : Int32) &&& 0x3f).toInt64 (0 : Int64) (oUp0 (2 : Int64) (oUp (1 : Int64) ((1 : Int32) &&& 0x3f).toInt64 (0 : Int64) (oUp0 (1 : Int64) (0 : Int64) y12 (1 : Int64)) y14 (2 : Int64)) y14 (1 : Int64)) y16 (4 : Int64)) ||| ((oUp0 (1 : Int64) (0 : Int64) y12 (1 : Int64)) <<< ((2 : Int32) &&& 0x3f).toInt64)) ||| (2 : Int64)) from oUp_c (by have q := hc139; rw [ft21_6_def, own_z] at q; exact q) (by have q := hc163; rw [ft26_1_def, own_z] at q; exact q)]; exact f108_0⟩
     ·
      refine oAloadN C d14_128 rfl rfl rfl ?_
      refine oIload C d14_129 rfl rfl ?_
      refine oIload C d14_131 rfl rfl ?_
      refine oIload C d14_133 rfl rfl ?_
      refine oIsub C d14_135 rfl ?_
      refine oCastI (z' := (3 : Int32)) (by decide) ?_
      have f109 := (Kj52.fld (Kj45.fld (Kj25.fld (Fld.other W12 (Fld.ext E9 f4w) (Or.inr (oSn3 hw 1 2))) (ninS ne26 nin0) oN0) (ninS ne26 nin0) oN0) (ninS ne26 nin0) oN0)
      have f111 := (Kj52.exa (Kj45.exa (Kj25.exa (Exa.wr W12 f10))))
      refine oCallV C (w166 hw) (w167 hw) (w169 hw) (w168 hw) (w118 hw) (w170 hw) d14_136 f111 (by decide) pd_947254 rfl rfl (a := b1) (argsL := [.int 4, .int 3]) (rest := []) rfl (W := 0) rfl (q := 139) rfl (by decide) (by decide) (by decide) (by decide) (ac21_34 l Z a0 hw _ n0 z54 b1 a9 x4 x5 (oUp0 (1 : Int64) (0 : Int64) y12 (1 : Int64)) (oUp0 (2 : Int64) (oUp (1 : Int64) ((1 : Int32) &&& 0x3f).toInt64 (0 : Int64) (oUp0 (1 : Int64) (0 : Int64) y12 (1 : Int64)) y14 (2 : Int64)) y14 (1 : Int64)) f64 f109 Aj52 p9) (oPureK ?_)
      refine oIf_ne C d14_139 (q := 177) (by decide) (by decide) (r := 142) rfl (fun hq => absurd hq ((by decide))) (fun hc139 => ?_)
      refine oAload C d14_142 rfl rfl rfl ?_
      refine oAloadN C d14_144 rfl rfl rfl ?_
      refine oIload C d14_145 rfl rfl ?_
      refine oIload C d14_147 rfl rfl ?_
      refine oIsub C d14_149 rfl ?_
      refine oCastI (z' := (3 : Int32)) (by decide) ?_
      refine oIconst C d14_150 (z := 1) rfl rfl ?_
      refine oIsub C d14_151 rfl ?_
      refine oCastI (z' := (2 : Int32)) (by decide) ?_
      refine oCallI C (w139 hw) (w140 hw) (w141 hw) (w142 hw) (w143 hw) (w144 hw) (w145 hw) (w88 hw) (w54 hw) (w146 hw) d14_152 f56 (by decide) pd_666516 rfl rfl (a := b2) (argsL := [.int 2]) (rest := [.ref b10]) rfl (W := 1) rfl (q := 157) rfl (by decide) (by decide) (by decide) (by decide) (ac16_28 l Z a0 hw _ n0 z54 b2 b6 b7 b8 b9 b10 f57 f59 f60 f56) (oPureK ?_)
      have f113 := (Kj52.exa (Kj45.exa f38))
      refine oCast C (w160 hw) (Ins.self f113) d14_157 rfl ?_
      have f114 := (Kj52.fld f50 (ninS ne41 nin0) oN0)
      have f115 := (Kj52.fld (Kj45.fld (Kj25.fld (Fld.other W12 (Fld.ext E9 (Fld.other W4 (Fld.other W1 p41 (Or.inl p25)) (Or.inl p25))) (Or.inl p25)) (ninS ne43 nin0) oN0) (ninS ne43 nin0) oN0) (ninS ne43 nin0) oN0)
      have f116 := (Kj52.fld (Kj45.fld (Kj25.fld (Fld.other W12 (Fld.ext E9 (Fld.other W4 (Fld.other W1 p33 (Or.inl p31)) (Or.inl p31))) (Or.inl p31)) (ninS ne67 nin0) oN0) (ninS ne67 nin0) oN0) (ninS ne67 nin0) oN0)
      have f117 := (Kj52.exa (Kj45.exa (Kj25.exa (Exa.wr W12 (Exa.ext E9 (Exa.wr W4 (Exa.wr W1 p34)))))))
      have f118 := (Kj52.fld (Kj45.fld (Kj25.fld (Fld.other W12 (Fld.ext E9 (Fld.other W4 (Fld.other W1 p35 (Or.inl p29)) (Or.inl p29))) (Or.inl p29)) (ninS ne65 nin0) oN0) (ninS ne65 nin0) oN0) (ninS ne65 nin0) oN0)
      have f119 := (Kj52.fld (Kj45.fld (Kj25.fld (Fld.other W12 (Fld.ext E9 (Fld.other W4 (Fld.other W1 p36 (Or.inl p29)) (Or.inl p29))) (Or.inl p29)) (ninS ne65 nin0) oN0) (ninS ne65 nin0) oN0) (ninS ne65 nin0) oN0)
      have f120 := (Kj52.fld (Kj45.fld (Kj25.fld (Fld.other W12 (Fld.ext E9 (Fld.other W4 (Fld.other W1 p42 (Or.inl p25)) (Or.inl p25))) (Or.inl p25)) (ninS ne43 nin0) oN0) (ninS ne43 nin0) oN0) (ninS ne43 nin0) oN0)
      have f121 := (Kj52.exa (Kj45.exa (Kj25.exa (Exa.wr W12 (Exa.ext E9 (Exa.wr W4 (Exa.wr W1 p43)))))))
      have f122 := (Kj52.fld (Kj45.fld (Kj25.fld (Fld.other W12 (Fld.ext E9 (Fld.other W4 (Fld.other W1 p44 (Or.inl p23)) (Or.inl p23))) (Or.inl p23)) (ninS ne41 nin0) oN0) (ninS ne41 nin0) oN0) (ninS ne41 nin0) oN0)
      have f123 := (Kj52.fld (Kj45.fld (Kj25.fld (Fld.other W12 (Fld.ext E9 (Fld.other W4 (Fld.other W1 p45 (Or.inl p23)) (Or.inl p23))) (Or.inl p23)) (ninS ne41 nin0) oN0) (ninS ne41 nin0) oN0) (ninS ne41 nin0) oN0)
      refine oCallV C (w171 hw) (w172 hw) (w174 hw) (w173 hw) (w34 hw) (w175 hw) d14_160 f62 (by decide) pd_138820 rfl rfl (a := b10) (argsL := [.ref b9]) (rest := []) rfl (W := 0) rfl (q := 163) rfl (by decide) (by decide) (by decide) (by decide) (ac22_40 l Z a0 hw _ n0 z54 b10 b9 b15 b13 y16 f66 f114 f115 f116 f117 f68 f118 f119 f120 f121 f122 f123) (oPureK ?_)
      refine oIf_eq C d14_163 (q := 177) (by decide) (by decide) (r := 166) rfl (fun hc163 => ?_) (fun hc163 => ?_)
      ·
       exact J177 _ ⟨(oKe.refl hj52 [a9] []), by rw [show (oUp (1 : Int64) ((1 : Int32) &&& 0x3f).toInt64 (0 : Int64) (oUp0 (2 : Int64) (oUp (1 : Int64) ((1 : Int32) &&& 0x3f).toInt64 (0 : Int64) (oUp0 (1 : Int64) (0 : Int64) y12 (1 : Int64)) y14 (2 : Int64)) y14 (1 : Int64)) y16 (4 : Int64)) = (0 : Int64) from oUp_b (by decide) (by have q := hc163; rw [ft26_0_def, own_z] at q; exact q)]; exact Aj52⟩
      ·
       refine oAloadN C d14_166 rfl rfl rfl ?_
       refine oIload C d14_167 rfl rfl ?_
       refine oIload C d14_169 rfl rfl ?_
       refine oIload C d14_171 rfl rfl ?_
       refine oIsub C d14_173 rfl ?_
       refine oCastI (z' := (3 : Int32)) (by decide) ?_
       refine oCallP C (w197 hw) (w199 hw) (w117 hw) (w198 hw) (w118 hw) (w200 hw) d14_174 f111 (by decide) pd_947250 rfl rfl (a := b1) (argsL := [.int 4, .int 3]) (rest := []) rfl (W := 0) rfl (q := 177) rfl (by decide) (by decide) (by decide) (by decide) (ac28_41 l Z a0 hw _ n0 z54 b1 x4 a9 x5 (oUp0 (1 : Int64) (0 : Int64) y12 (1 : Int64)) (oUp0 (2 : Int64) (oUp (1 : Int64) ((1 : Int32) &&& 0x3f).toInt64 (0 : Int64) (oUp0 (1 : Int64) (0 : Int64) y12 (1 : Int64)) y14 (2 : Int64)) y14 (1 : Int64)) f109 f64 Aj52 p9 ne26 ge_a9 (sh_3 y12 y14)) (oVQ ?_)
       rintro h125 ⟨K125, f125_0⟩
       exact J177 _ ⟨((oKe.refl hj52 [a9] []).trans K125 (allS (Or.inl (List.mem_of_getElem? (i := 0) rfl)) all0) oA0), by rw [show (oUp (1 : Int64) ((1 : Int32) &&& 0x3f).toInt64 (0 : Int64) (oUp0 (2 : Int64) (oUp (1 : Int64) ((1 : Int32) &&& 0x3f).toInt64 (0 : Int64) (oUp0 (1 : Int64) (0 : Int64) y12 (1 : Int64)) y14 (2 : Int64)) y14 (1 : Int64)) y16 (4 : Int64)) = (((0 : Int64) ||| ((oUp0 (2 : Int64) (oUp (1 : Int64) ((1 : Int32) &&& 0x3f).toInt64 (0 : Int64) (oUp0 (1 : Int64) (0 : Int64) y12 (1 : Int64)) y14 (2 : Int64)) y14 (1 : Int64)) <<< ((1 : Int32) &&& 0x3f).toInt64)) ||| (1 : Int64)) from oUp_c (by decide) (by have q := hc163; rw [ft26_0_def, own_z] at q; exact q)]; exact f125_0⟩
    ·
     refine oAloadN C d14_128 rfl rfl rfl ?_
     refine oIload C d14_129 rfl rfl ?_
     refine oIload C d14_131 rfl rfl ?_
     refine oIload C d14_133 rfl rfl ?_
     refine oIsub C d14_135 rfl ?_
     refine oCastI (z' := (1 : Int32)) (by decide) ?_
     have f126 := (Kj45.fld (Kj25.fld (Fld.other W12 (Fld.ext E9 f4w) (Or.inr (oSn3 hw 1 2))) (ninS ne26 nin0) oN0) (ninS ne26 nin0) oN0)
     have f128 := (Kj45.exa (Kj25.exa (Exa.wr W12 f10)))
     refine oCallV C (w166 hw) (w167 hw) (w169 hw) (w168 hw) (w118 hw) (w170 hw) d14_136 f128 (by decide) pd_947254 rfl rfl (a := b1) (argsL := [.int 3, .int 1]) (rest := []) rfl (W := 0) rfl (q := 139) rfl (by decide) (by decide) (by decide) (by decide) (ac21_62 l Z a0 hw _ n0 z47 b1 a9 x4 x5 (oUp0 (1 : Int64) (0 : Int64) y12 (1 : Int64)) (oUp (1 : Int64) ((1 : Int32) &&& 0x3f).toInt64 (0 : Int64) (oUp0 (1 : Int64) (0 : Int64) y12 (1 : Int64)) y14 (2 : Int64)) f49 f126 Aj45 p9) (oPureK ?_)
     refine oIf_ne C d14_139 (q := 177) (by decide) (by decide) (r := 142) rfl (fun hc139 => ?_) (fun hc139 => ?_)
     ·
      exact J177 _ ⟨(oKe.refl hj45 [a9] []), by rw [show (oUp0 (2 : Int64) (oUp (1 : Int64) ((1 : Int32) &&& 0x3f).toInt64 (0 : Int64) (oUp0 (1 : Int64) (0 : Int64) y12 (1 : Int64)) y14 (2 : Int64)) y14 (1 : Int64)) = (oUp (1 : Int64) ((1 : Int32) &&& 0x3f).toInt64 (0 : Int64) (oUp0 (1 : Int64) (0 : Int64) y12 (1 : Int64)) y14 (2 : Int64)) from oUp0_a (by have q := hc139; rw [ft21_7_def, own_z] at q; exact q)]; exact Aj45⟩
     ·
      refine oAload C d14_142 rfl rfl rfl ?_
      refine oAloadN C d14_144 rfl rfl rfl ?_
      refine oIload C d14_145 rfl rfl ?_
      refine oIload C d14_147 rfl rfl ?_
      refine oIsub C d14_149 rfl ?_
      refine oCastI (z' := (1 : Int32)) (by decide) ?_
      refine oIconst C d14_150 (z := 1) rfl rfl ?_
      refine oIsub C d14_151 rfl ?_
      refine oCastI (z' := (0 : Int32)) (by decide) ?_
      have f129 := (Kj45.exa f30)
      have f130 := (Kj45.fld f32 (ninS ne31 nin0) oN0)
      have f131 := (Kj45.fld f34 (ninS ne31 nin0) oN0)
      have f132 := (Kj45.arrO f36 (ninS ne35 nin0) oA0)
      refine oCallI C (w139 hw) (w140 hw) (w141 hw) (w142 hw) (w143 hw) (w144 hw) (w145 hw) (w88 hw) (w54 hw) (w146 hw) d14_152 f129 (by decide) pd_666516 rfl rfl (a := b2) (argsL := [.int 0]) (rest := [.ref b9]) rfl (W := 1) rfl (q := 157) rfl (by decide) (by decide) (by decide) (by decide) (ac16_51 l Z a0 hw _ n0 z47 b2 b6 b7 b8 b9 b10 f130 f131 f132 f129) (oPureK ?_)
      have f134 := (Kj45.exa (Kj25.exa (Exa.wr W12 (Exa.ext E9 (Exa.wr W4 (Exa.wr W1 p46))))))
      refine oCast C (w160 hw) (Ins.self f134) d14_157 rfl ?_
      have ne135 : b7 ≠ a9 := oNe' (Nat.lt_of_lt_of_le p47.lt (Nat.le_trans (Nat.le_of_eq W1.size.symm) (Nat.le_of_eq W4.size.symm))) (Nat.le_of_eq g_a9.symm)
      have f136 := (Kj45.fld (Kj25.fld (Fld.other W12 (Fld.ext E9 (Fld.other W4 (Fld.other W1 p47 (Or.inl p53)) (Or.inl p53))) (Or.inl p53)) (ninS ne135 nin0) oN0) (ninS ne135 nin0) oN0)
      have ne137 : b17 ≠ a9 := oNe' (Nat.lt_of_lt_of_le p48.lt (Nat.le_trans (Nat.le_of_eq W1.size.symm) (Nat.le_of_eq W4.size.symm))) (Nat.le_of_eq g_a9.symm)
      have f138 := (Kj45.fld (Kj25.fld (Fld.other W12 (Fld.ext E9 (Fld.other W4 (Fld.other W1 p48 (Or.inl p54)) (Or.inl p54))) (Or.inl p54)) (ninS ne137 nin0) oN0) (ninS ne137 nin0) oN0)
      have f139 := (Kj45.fld (Kj25.fld (Fld.other W12 (Fld.ext E9 (Fld.other W4 (Fld.other W1 p41 (Or.inl p25)) (Or.inl p25))) (Or.inl p25)) (ninS ne43 nin0) oN0) (ninS ne43 nin0) oN0)
      have f140 := (Kj45.exa (Kj25.exa (Exa.wr W12 (Exa.ext E9 (Exa.wr W4 (Exa.wr W1 p43))))))
      have f141 := (Kj45.fld (Kj25.fld (Fld.other W12 (Fld.ext E9 (Fld.other W4 (Fld.other W1 p44 (Or.inl p23)) (Or.inl p23))) (Or.inl p23)) (ninS ne41 nin0) oN0) (ninS ne41 nin0) oN0)
      have f142 := (Kj45.fld (Kj25.fld (Fld.other W12 (Fld.ext E9 (Fld.other W4 (Fld.other W1 p45 (Or.inl p23)) (Or.inl p23))) (Or.inl p23)) (ninS ne41 nin0) oN0) (ninS ne41 nin0) oN0)
      have f143 := (Kj45.fld (Kj25.fld (Fld.other W12 (Fld.ext E9 (Fld.other W4 (Fld.other W1 p49 (Or.inl p54)) (Or.inl p54))) (Or.inl p54)) (ninS ne137 nin0) oN0) (ninS ne137 nin0) oN0)
      have f144 := (Kj45.exa (Kj25.exa (Exa.wr W12 (Exa.ext E9 (Exa.wr W4 (Exa.wr W1 p50))))))
      have f145 := (Kj45.fld (Kj25.fld (Fld.other W12 (Fld.ext E9 (Fld.other W4 (Fld.other W1 p51 (Or.inl p53)) (Or.inl p53))) (Or.inl p53)) (ninS ne135 nin0) oN0) (ninS ne135 nin0) oN0)
      have f146 := (Kj45.fld (Kj25.fld (Fld.other W12 (Fld.ext E9 (Fld.other W4 (Fld.other W1 p52 (Or.inl p53)) (Or.inl p53))) (Or.inl p53)) (ninS ne135 nin0) oN0) (ninS ne135 nin0) oN0)
      have f148 := (Kj45.exa f38)
      refine oCallV C (w171 hw) (w172 hw) (w174 hw) (w173 hw) (w34 hw) (w175 hw) d14_160 f148 (by decide) pd_138820 rfl rfl (a := b9) (argsL := [.ref b7]) (rest := []) rfl (W := 0) rfl (q := 163) rfl (by decide) (by decide) (by decide) (by decide) (ac22_54 l Z a0 hw _ n0 z47 b9 b7 b13 b17 y14 f50 f136 f138 f139 f140 f51 f141 f142 f143 f144 f145 f146) (oPureK ?_)
      refine oIf_eq C d14_163 (q := 177) (by decide) (by decide) (r := 166) rfl (fun hc163 => ?_) (fun hc163 => ?_)
      ·
       exact J177 _ ⟨(oKe.refl hj45 [a9] []), by rw [show (oUp0 (2 : Int64) (oUp (1 : Int64) ((1 : Int32) &&& 0x3f).toInt64 (0 : Int64) (oUp0 (1 : Int64) (0 : Int64) y12 (1 : Int64)) y14 (2 : Int64)) y14 (1 : Int64)) = (oUp (1 : Int64) ((1 : Int32) &&& 0x3f).toInt64 (0 : Int64) (oUp0 (1 : Int64) (0 : Int64) y12 (1 : Int64)) y14 (2 : Int64)) from oUp0_b (by have q := hc139; rw [ft21_7_def, own_z] at q; exact q) (by have q := hc163; rw [ft26_2_def, own_z] at q; exact q)]; exact Aj45⟩
      ·
       refine oAloadN C d14_166 rfl rfl rfl ?_
       refine oIload C d14_167 rfl rfl ?_
       refine oIload C d14_169 rfl rfl ?_
       refine oIload C d14_171 rfl rfl ?_
       refine oIsub C d14_173 rfl ?_
       refine oCastI (z' := (1 : Int32)) (by decide) ?_
       refine oCallP C (w197 hw) (w199 hw) (w117 hw) (w198 hw) (w118 hw) (w200 hw) d14_174 f128 (by decide) pd_947250 rfl rfl (a := b1) (argsL := [.int 3, .int 1]) (rest := []) rfl (W := 0) rfl (q := 177) rfl (by decide) (by decide) (by decide) (by decide) (ac28_63 l Z a0 hw _ n0 z47 b1 x4 a9 x5 (oUp0 (1 : Int64) (0 : Int64) y12 (1 : Int64)) (oUp (1 : Int64) ((1 : Int32) &&& 0x3f).toInt64 (0 : Int64) (oUp0 (1 : Int64) (0 : Int64) y12 (1 : Int64)) y14 (2 : Int64)) f126 f49 Aj45 p9 ne26 ge_a9) (oVQ ?_)
       rintro h149 ⟨K149, f149_0⟩
       exact J177 _ ⟨((oKe.refl hj45 [a9] []).trans K149 (allS (Or.inl (List.mem_of_getElem? (i := 0) rfl)) all0) oA0), by rw [show (oUp0 (2 : Int64) (oUp (1 : Int64) ((1 : Int32) &&& 0x3f).toInt64 (0 : Int64) (oUp0 (1 : Int64) (0 : Int64) y12 (1 : Int64)) y14 (2 : Int64)) y14 (1 : Int64)) = (((oUp (1 : Int64) ((1 : Int32) &&& 0x3f).toInt64 (0 : Int64) (oUp0 (1 : Int64) (0 : Int64) y12 (1 : Int64)) y14 (2 : Int64)) ||| (0 : Int64)) ||| (2 : Int64)) from oUp0_c (by have q := hc139; rw [ft21_7_def, own_z] at q; exact q) (by have q := hc163; rw [ft26_2_def, own_z] at q; exact q)]; exact f149_0⟩
   ·
    refine oAloadN C d14_128 rfl rfl rfl ?_
    refine oIload C d14_129 rfl rfl ?_
    refine oIload C d14_131 rfl rfl ?_
    refine oIload C d14_133 rfl rfl ?_
    refine oIsub C d14_135 rfl ?_
    refine oCastI (z' := (2 : Int32)) (by decide) ?_
    have f150 := (Kj25.fld (Fld.other W12 (Fld.ext E9 f4w) (Or.inr (oSn3 hw 1 2))) (ninS ne26 nin0) oN0)
    have f152 := (Kj25.exa (Exa.wr W12 f10))
    refine oCallV C (w166 hw) (w167 hw) (w169 hw) (w168 hw) (w118 hw) (w170 hw) d14_136 f152 (by decide) pd_947254 rfl rfl (a := b1) (argsL := [.int 3, .int 2]) (rest := []) rfl (W := 0) rfl (q := 139) rfl (by decide) (by decide) (by decide) (by decide) (ac21_42 l Z a0 hw _ n0 z28 b1 a9 x4 x5 (oUp0 (1 : Int64) (0 : Int64) y12 (1 : Int64)) f40 f150 Aj25 p9) (oPureK ?_)
    refine oIf_ne C d14_139 (q := 177) (by decide) (by decide) (r := 142) rfl (fun hq => absurd hq ((by decide))) (fun hc139 => ?_)
    refine oAload C d14_142 rfl rfl rfl ?_
    refine oAloadN C d14_144 rfl rfl rfl ?_
    refine oIload C d14_145 rfl rfl ?_
    refine oIload C d14_147 rfl rfl ?_
    refine oIsub C d14_149 rfl ?_
    refine oCastI (z' := (2 : Int32)) (by decide) ?_
    refine oIconst C d14_150 (z := 1) rfl rfl ?_
    refine oIsub C d14_151 rfl ?_
    refine oCastI (z' := (1 : Int32)) (by decide) ?_
    refine oCallI C (w139 hw) (w140 hw) (w141 hw) (w142 hw) (w143 hw) (w144 hw) (w145 hw) (w88 hw) (w54 hw) (w146 hw) d14_152 f30 (by decide) pd_666516 rfl rfl (a := b2) (argsL := [.int 1]) (rest := [.ref b9]) rfl (W := 1) rfl (q := 157) rfl (by decide) (by decide) (by decide) (by decide) (ac16_24 l Z a0 hw _ n0 z28 b2 b6 b7 b8 b9 b10 f32 f34 f36 f30) (oPureK ?_)
    have f154 := (Kj25.exa f20)
    refine oCast C (w160 hw) (Ins.self f154) d14_157 rfl ?_
    have ne155 : b8 ≠ a9 := oNe' (Nat.lt_of_lt_of_le p39.lt (Nat.le_trans (Nat.le_of_eq W1.size.symm) (Nat.le_of_eq W4.size.symm))) (Nat.le_of_eq g_a9.symm)
    have f156 := (Kj25.fld f23 (ninS ne155 nin0) oN0)
    have ne157 : b11 ≠ a9 := oNe' (Nat.lt_of_lt_of_le p32.lt (Nat.le_trans (Nat.le_of_eq W1.size.symm) (Nat.le_of_eq W4.size.symm))) (Nat.le_of_eq g_a9.symm)
    have f158 := (Kj25.fld (Fld.other W12 (Fld.ext E9 (Fld.other W4 (Fld.other W1 p32 (Or.inl p19)) (Or.inl p19))) (Or.inl p19)) (ninS ne157 nin0) oN0)
    have f159 := (Kj25.fld (Fld.other W12 (Fld.ext E9 (Fld.other W4 (Fld.other W1 p41 (Or.inl p25)) (Or.inl p25))) (Or.inl p25)) (ninS ne43 nin0) oN0)
    have f160 := (Kj25.exa (Exa.wr W12 (Exa.ext E9 (Exa.wr W4 (Exa.wr W1 p43)))))
    have f161 := (Kj25.fld (Fld.other W12 (Fld.ext E9 (Fld.other W4 (Fld.other W1 p44 (Or.inl p23)) (Or.inl p23))) (Or.inl p23)) (ninS ne41 nin0) oN0)
    have f162 := (Kj25.fld (Fld.other W12 (Fld.ext E9 (Fld.other W4 (Fld.other W1 p45 (Or.inl p23)) (Or.inl p23))) (Or.inl p23)) (ninS ne41 nin0) oN0)
    have f163 := (Kj25.fld (Fld.other W12 (Fld.ext E9 (Fld.other W4 (Fld.other W1 p37 (Or.inl p19)) (Or.inl p19))) (Or.inl p19)) (ninS ne157 nin0) oN0)
    have f164 := (Kj25.exa (Exa.wr W12 (Exa.ext E9 (Exa.wr W4 (Exa.wr W1 p38)))))
    have f165 := (Kj25.fld (Fld.other W12 (Fld.ext E9 (Fld.other W4 (Fld.other W1 p39 (Or.inl p17)) (Or.inl p17))) (Or.inl p17)) (ninS ne155 nin0) oN0)
    have f166 := (Kj25.fld (Fld.other W12 (Fld.ext E9 (Fld.other W4 (Fld.other W1 p40 (Or.inl p17)) (Or.inl p17))) (Or.inl p17)) (ninS ne155 nin0) oN0)
    refine oCallV C (w171 hw) (w172 hw) (w174 hw) (w173 hw) (w34 hw) (w175 hw) d14_160 f38 (by decide) pd_138820 rfl rfl (a := b9) (argsL := [.ref b8]) (rest := []) rfl (W := 0) rfl (q := 163) rfl (by decide) (by decide) (by decide) (by decide) (ac22_45 l Z a0 hw _ n0 z28 b9 b8 b13 b11 y14 f42 f156 f158 f159 f160 f44 f161 f162 f163 f164 f165 f166) (oPureK ?_)
    refine oIf_eq C d14_163 (q := 177) (by decide) (by decide) (r := 166) rfl (fun hc163 => ?_) (fun hc163 => ?_)
    ·
     exact J177 _ ⟨(oKe.refl hj25 [a9] []), by rw [show (oUp (1 : Int64) ((1 : Int32) &&& 0x3f).toInt64 (0 : Int64) (oUp0 (1 : Int64) (0 : Int64) y12 (1 : Int64)) y14 (2 : Int64)) = (0 : Int64) from oUp_b (by decide) (by have q := hc163; rw [ft26_1_def, own_z] at q; exact q)]; exact Aj25⟩
    ·
     refine oAloadN C d14_166 rfl rfl rfl ?_
     refine oIload C d14_167 rfl rfl ?_
     refine oIload C d14_169 rfl rfl ?_
     refine oIload C d14_171 rfl rfl ?_
     refine oIsub C d14_173 rfl ?_
     refine oCastI (z' := (2 : Int32)) (by decide) ?_
     refine oCallP C (w197 hw) (w199 hw) (w117 hw) (w198 hw) (w118 hw) (w200 hw) d14_174 f152 (by decide) pd_947250 rfl rfl (a := b1) (argsL := [.int 3, .int 2]) (rest := []) rfl (W := 0) rfl (q := 177) rfl (by decide) (by decide) (by decide) (by decide) (ac28_46 l Z a0 hw _ n0 z28 b1 x4 a9 x5 (oUp0 (1 : Int64) (0 : Int64) y12 (1 : Int64)) f150 f40 Aj25 p9 ne26 ge_a9 (sh_1 y12)) (oVQ ?_)
     rintro h168 ⟨K168, f168_0⟩
     exact J177 _ ⟨((oKe.refl hj25 [a9] []).trans K168 (allS (Or.inl (List.mem_of_getElem? (i := 0) rfl)) all0) oA0), by rw [show (oUp (1 : Int64) ((1 : Int32) &&& 0x3f).toInt64 (0 : Int64) (oUp0 (1 : Int64) (0 : Int64) y12 (1 : Int64)) y14 (2 : Int64)) = (((0 : Int64) ||| ((oUp0 (1 : Int64) (0 : Int64) y12 (1 : Int64)) <<< ((1 : Int32) &&& 0x3f).toInt64)) ||| (1 : Int64)) from oUp_c (by decide) (by have q := hc163; rw [ft26_1_def, own_z] at q; exact q)]; exact f168_0⟩
  ·
   refine oAloadN C d14_128 rfl rfl rfl ?_
   refine oIload C d14_129 rfl rfl ?_
   refine oIload C d14_131 rfl rfl ?_
   refine oIload C d14_133 rfl rfl ?_
   refine oIsub C d14_135 rfl ?_
   refine oCastI (z' := (1 : Int32)) (by decide) ?_
   have f169 := (Fld.other W12 (Fld.ext E9 f4w) (Or.inr (oSn3 hw 1 2)))
   have ne170 : b1 ≠ a9 := oNe' (Nat.lt_of_lt_of_le p1.lt (Nat.le_trans (Nat.le_of_eq W1.size.symm) (Nat.le_of_eq W4.size.symm))) (Nat.le_of_eq g_a9.symm)
   have f171 := (Arl.other W12 (Ne.symm ne170))
   have f173 := (Exa.wr W12 f10)
   refine oCallV C (w166 hw) (w167 hw) (w169 hw) (w168 hw) (w118 hw) (w170 hw) d14_136 f173 (by decide) pd_947254 rfl rfl (a := b1) (argsL := [.int 2, .int 1]) (rest := []) rfl (W := 0) rfl (q := 139) rfl (by decide) (by decide) (by decide) (by decide) (ac21_47 l Z a0 hw _ n0 z16 b1 a9 x4 x5 f12w f169 f171 p9) (oPureK ?_)
   refine oIf_ne C d14_139 (q := 177) (by decide) (by decide) (r := 142) rfl (fun hq => absurd hq ((by decide))) (fun hc139 => ?_)
   refine oAload C d14_142 rfl rfl rfl ?_
   refine oAloadN C d14_144 rfl rfl rfl ?_
   refine oIload C d14_145 rfl rfl ?_
   refine oIload C d14_147 rfl rfl ?_
   refine oIsub C d14_149 rfl ?_
   refine oCastI (z' := (1 : Int32)) (by decide) ?_
   refine oIconst C d14_150 (z := 1) rfl rfl ?_
   refine oIsub C d14_151 rfl ?_
   refine oCastI (z' := (0 : Int32)) (by decide) ?_
   refine oCallI C (w139 hw) (w140 hw) (w141 hw) (w142 hw) (w143 hw) (w144 hw) (w145 hw) (w88 hw) (w54 hw) (w146 hw) d14_152 f13 (by decide) pd_666516 rfl rfl (a := b2) (argsL := [.int 0]) (rest := [.ref b8]) rfl (W := 1) rfl (q := 157) rfl (by decide) (by decide) (by decide) (by decide) (ac16_51 l Z a0 hw _ n0 z16 b2 b6 b7 b8 b9 b10 f14 f17 f18 f13) (oPureK ?_)
   have f175 := (Exa.wr W12 (Exa.ext E9 (Exa.wr W4 (Exa.wr W1 p46))))
   refine oCast C (w160 hw) (Ins.self f175) d14_157 rfl ?_
   have f176 := (Fld.other W12 (Fld.ext E9 (Fld.other W4 (Fld.other W1 p47 (Or.inl p53)) (Or.inl p53))) (Or.inl p53))
   have f177 := (Fld.other W12 (Fld.ext E9 (Fld.other W4 (Fld.other W1 p48 (Or.inl p54)) (Or.inl p54))) (Or.inl p54))
   have f178 := (Fld.other W12 (Fld.ext E9 (Fld.other W4 (Fld.other W1 p32 (Or.inl p19)) (Or.inl p19))) (Or.inl p19))
   have f179 := (Exa.wr W12 (Exa.ext E9 (Exa.wr W4 (Exa.wr W1 p38))))
   have f180 := (Fld.other W12 (Fld.ext E9 (Fld.other W4 (Fld.other W1 p39 (Or.inl p17)) (Or.inl p17))) (Or.inl p17))
   have f181 := (Fld.other W12 (Fld.ext E9 (Fld.other W4 (Fld.other W1 p40 (Or.inl p17)) (Or.inl p17))) (Or.inl p17))
   have f182 := (Fld.other W12 (Fld.ext E9 (Fld.other W4 (Fld.other W1 p49 (Or.inl p54)) (Or.inl p54))) (Or.inl p54))
   have f183 := (Exa.wr W12 (Exa.ext E9 (Exa.wr W4 (Exa.wr W1 p50))))
   have f184 := (Fld.other W12 (Fld.ext E9 (Fld.other W4 (Fld.other W1 p51 (Or.inl p53)) (Or.inl p53))) (Or.inl p53))
   have f185 := (Fld.other W12 (Fld.ext E9 (Fld.other W4 (Fld.other W1 p52 (Or.inl p53)) (Or.inl p53))) (Or.inl p53))
   refine oCallV C (w171 hw) (w172 hw) (w174 hw) (w173 hw) (w34 hw) (w175 hw) d14_160 f20 (by decide) pd_138820 rfl rfl (a := b8) (argsL := [.ref b7]) (rest := []) rfl (W := 0) rfl (q := 163) rfl (by decide) (by decide) (by decide) (by decide) (ac22_54 l Z a0 hw _ n0 z16 b8 b7 b11 b17 y12 f23 f176 f177 f178 f179 f24 f180 f181 f182 f183 f184 f185) (oPureK ?_)
   refine oIf_eq C d14_163 (q := 177) (by decide) (by decide) (r := 166) rfl (fun hc163 => ?_) (fun hc163 => ?_)
   ·
    exact J177 _ ⟨(oKe.refl h12 [a9] []), by rw [show (oUp0 (1 : Int64) (0 : Int64) y12 (1 : Int64)) = (0 : Int64) from oUp0_b (by decide) (by have q := hc163; rw [ft26_2_def, own_z] at q; exact q)]; exact f171⟩
   ·
    refine oAloadN C d14_166 rfl rfl rfl ?_
    refine oIload C d14_167 rfl rfl ?_
    refine oIload C d14_169 rfl rfl ?_
    refine oIload C d14_171 rfl rfl ?_
    refine oIsub C d14_173 rfl ?_
    refine oCastI (z' := (1 : Int32)) (by decide) ?_
    refine oCallP C (w197 hw) (w199 hw) (w117 hw) (w198 hw) (w118 hw) (w200 hw) d14_174 f173 (by decide) pd_947250 rfl rfl (a := b1) (argsL := [.int 2, .int 1]) (rest := []) rfl (W := 0) rfl (q := 177) rfl (by decide) (by decide) (by decide) (by decide) (ac28_55 l Z a0 hw _ n0 z16 b1 x4 a9 x5 f169 f12w f171 p9 ne170 ge_a9) (oVQ ?_)
    rintro h187 ⟨K187, f187_0⟩
    exact J177 _ ⟨((oKe.refl h12 [a9] []).trans K187 (allS (Or.inl (List.mem_of_getElem? (i := 0) rfl)) all0) oA0), by rw [show (oUp0 (1 : Int64) (0 : Int64) y12 (1 : Int64)) = (1 : Int64) from (oUp0_c (by decide) (by have q := hc163; rw [ft26_2_def, own_z] at q; exact q)).trans (by decide)]; exact f187_0⟩
set_option maxRecDepth 65536 in
set_option maxHeartbeats 40000000 in
theorem fin3 (c21 c31 c32 c42 c43 : Int64) (dc21 : c21 = 0 ∨ c21 = 1) (dc31 : c31 = 0 ∨ c31 = 1) (dc32 : c32 = 0 ∨ c32 = 1) (dc42 : c42 = 0 ∨ c42 = 1) (dc43 : c43 = 0 ∨ c43 = 1) : (ft21_4 (oUp0 (2 : Int64) (oUp (1 : Int64) ((1 : Int32) &&& 0x3f).toInt64 (0 : Int64) (oUp0 (1 : Int64) (0 : Int64) (((c21 ||| (2 : Int64)) ||| (c32 <<< ((2 : Int32) &&& 0x3f).toInt64)) ||| (c42 <<< ((3 : Int32) &&& 0x3f).toInt64)) (1 : Int64)) (((c31 ||| (c32 <<< ((1 : Int32) &&& 0x3f).toInt64)) ||| (4 : Int64)) ||| (c43 <<< ((3 : Int32) &&& 0x3f).toInt64)) (2 : Int64)) (((c31 ||| (c32 <<< ((1 : Int32) &&& 0x3f).toInt64)) ||| (4 : Int64)) ||| (c43 <<< ((3 : Int32) &&& 0x3f).toInt64)) (1 : Int64))) = (fA32 c32) := by
  rcases dc21 with rfl | rfl <;> rcases dc31 with rfl | rfl <;> rcases dc32 with rfl | rfl <;> rcases dc42 with rfl | rfl <;> rcases dc43 with rfl | rfl <;> decide +kernel
set_option maxRecDepth 65536 in
set_option maxHeartbeats 40000000 in
theorem fin4 (c21 c31 c41 c32 c42 c43 : Int64) (dc21 : c21 = 0 ∨ c21 = 1) (dc31 : c31 = 0 ∨ c31 = 1) (dc41 : c41 = 0 ∨ c41 = 1) (dc32 : c32 = 0 ∨ c32 = 1) (dc42 : c42 = 0 ∨ c42 = 1) (dc43 : c43 = 0 ∨ c43 = 1) : (ft21_5 (oUp (2 : Int64) ((2 : Int32) &&& 0x3f).toInt64 (oUp (1 : Int64) ((1 : Int32) &&& 0x3f).toInt64 (0 : Int64) (oUp0 (2 : Int64) (oUp (1 : Int64) ((1 : Int32) &&& 0x3f).toInt64 (0 : Int64) (oUp0 (1 : Int64) (0 : Int64) (((c21 ||| (2 : Int64)) ||| (c32 <<< ((2 : Int32) &&& 0x3f).toInt64)) ||| (c42 <<< ((3 : Int32) &&& 0x3f).toInt64)) (1 : Int64)) (((c31 ||| (c32 <<< ((1 : Int32) &&& 0x3f).toInt64)) ||| (4 : Int64)) ||| (c43 <<< ((3 : Int32) &&& 0x3f).toInt64)) (2 : Int64)) (((c31 ||| (c32 <<< ((1 : Int32) &&& 0x3f).toInt64)) ||| (4 : Int64)) ||| (c43 <<< ((3 : Int32) &&& 0x3f).toInt64)) (1 : Int64)) (((c41 ||| (c42 <<< ((1 : Int32) &&& 0x3f).toInt64)) ||| (c43 <<< ((2 : Int32) &&& 0x3f).toInt64)) ||| (8 : Int64)) (4 : Int64)) (oUp0 (1 : Int64) (0 : Int64) (((c21 ||| (2 : Int64)) ||| (c32 <<< ((2 : Int32) &&& 0x3f).toInt64)) ||| (c42 <<< ((3 : Int32) &&& 0x3f).toInt64)) (1 : Int64)) (((c41 ||| (c42 <<< ((1 : Int32) &&& 0x3f).toInt64)) ||| (c43 <<< ((2 : Int32) &&& 0x3f).toInt64)) ||| (8 : Int64)) (2 : Int64))) = (fA43 c43) := by
  rcases dc21 with rfl | rfl <;> rcases dc31 with rfl | rfl <;> rcases dc41 with rfl | rfl <;> rcases dc32 with rfl | rfl <;> rcases dc42 with rfl | rfl <;> rcases dc43 with rfl | rfl <;> decide +kernel
set_option maxRecDepth 65536 in
set_option maxHeartbeats 40000000 in
theorem ac21_65 (l : Launch) (Z : State) (a0 : Array Value) (hw : oHw a0 Z) (h0 : Heap) (n0 : Nat) (Z0 : n0 ≤ h0.size) (b1 : Addr) (b2 : Addr) (x3 : Int32) (x4 : Nat) (y5 : Int64) (y6 : Int64) (y7 : Int64) (p1 : Fld Z h0 b1 sP "bits" "[J" (.ref b2)) (p2 : Fld Z h0 b1 sP "words" "I" (.int x3)) (p3 : oAr Z h0 b2 .long (oRl x4 (0 : Int64) y5 y6 y7)) (p4 : oKw x4 x3) :
    oMet l Z (⟨sP, "follows", "(II)Z"⟩ : MethodName) prog_13_method_2_code 4 (some .boolean) [] ({ frames := 0, cells := 0, slots := 0, locals := 0 } : Room) 0 0 n0 #[.ref b1, .int 3, .int 1] h0 (fun v h => v = some (.int (ft21_7 y6)) ∧ h = h0) := by
  refine oMet.intro (plainFor_of_name pn_399007) (fun m => ef_21 m b1 (3 : Int32) (1 : Int32)) ?_
  intro op oe os m obl omt ocd C
  refine oIloadN C d21_0 rfl rfl ?_
  refine oIloadN C d21_1 rfl rfl ?_
  refine oIsub C d21_2 rfl ?_
  refine oCastI (z' := (2 : Int32)) (by decide) ?_
  refine oIconst C d21_3 (z := 1) rfl rfl ?_
  refine oIsub C d21_4 rfl ?_
  refine oCastI (z' := (1 : Int32)) (by decide) ?_
  refine oIstoreN C d21_5 (Ls' := #[.val (.ref b1), .val (.int 3), .val (.int 1), .val (.int 1)]) rfl (q := 6) rfl ?_
  refine oAloadN C d21_6 rfl rfl rfl ?_
  refine oGetF C (w137 hw) Via.refl p1 d21_7 rfl ?_
  refine oIloadN C d21_10 rfl rfl ?_
  refine oIconst C d21_11 (z := 1) rfl rfl ?_
  refine oIsub C d21_12 rfl ?_
  refine oCastI (z' := (2 : Int32)) (by decide) ?_
  refine oAloadN C d21_13 rfl rfl rfl ?_
  refine oGetF C (w125 hw) Via.refl p2 d21_14 rfl ?_
  refine oImul C d21_17 rfl ?_
  refine oIloadN C d21_18 rfl rfl ?_
  refine oBipush C d21_19 (z := 6) rfl rfl ?_
  refine oIushr C d21_21 rfl ?_
  refine oCastI (z' := (0 : Int32)) (by decide) ?_
  refine oIadd C d21_22 rfl ?_
  refine oLaload C p3 (own_n2 p4) (k := (2 * x4)) (own_k2 p4) (v := .long y6) (own_v2 p4) d21_23 rfl ?_
  refine oLconst C d21_24 (z := 1) rfl rfl ?_
  refine oIloadN C d21_25 rfl rfl ?_
  refine oLshl C d21_26 rfl ?_
  refine oCastL (z' := (2 : Int64)) (by decide) ?_
  refine oLand C d21_27 rfl ?_
  refine oLconst C d21_28 (z := 0) rfl rfl ?_
  refine oLcmp_eq C d21_29 rfl d21_30 (q := 37) (by decide) (by decide) (r := 33) rfl (fun hc29 => ?_) (fun hc29 => ?_)
  ·
   refine oIconst C d21_37 (z := 0) rfl rfl ?_
   refine oRetZ C d21_38 (z' := (0 : Int32)) rfl (by decide) (by decide) ?_
   exact ⟨by rw [ft21_7_def, if_pos hc29], rfl⟩
  ·
   refine oIconst C d21_33 (z := 1) rfl rfl ?_
   refine oGoto C d21_34 (q := 38) (by decide) (by decide) ?_
   refine oRetZ C d21_38 (z' := (1 : Int32)) rfl (by decide) (by decide) ?_
   exact ⟨by rw [ft21_7_def, if_neg hc29], rfl⟩
set_option maxRecDepth 65536 in
set_option maxHeartbeats 40000000 in
theorem fin5 (c21 c31 c32 c42 c43 : Int64) (dc21 : c21 = 0 ∨ c21 = 1) (dc31 : c31 = 0 ∨ c31 = 1) (dc32 : c32 = 0 ∨ c32 = 1) (dc42 : c42 = 0 ∨ c42 = 1) (dc43 : c43 = 0 ∨ c43 = 1) : (ft21_7 (oUp0 (2 : Int64) (oUp (1 : Int64) ((1 : Int32) &&& 0x3f).toInt64 (0 : Int64) (oUp0 (1 : Int64) (0 : Int64) (((c21 ||| (2 : Int64)) ||| (c32 <<< ((2 : Int32) &&& 0x3f).toInt64)) ||| (c42 <<< ((3 : Int32) &&& 0x3f).toInt64)) (1 : Int64)) (((c31 ||| (c32 <<< ((1 : Int32) &&& 0x3f).toInt64)) ||| (4 : Int64)) ||| (c43 <<< ((3 : Int32) &&& 0x3f).toInt64)) (2 : Int64)) (((c31 ||| (c32 <<< ((1 : Int32) &&& 0x3f).toInt64)) ||| (4 : Int64)) ||| (c43 <<< ((3 : Int32) &&& 0x3f).toInt64)) (1 : Int64))) = (fR31 c31 c32 c21) := by
  rcases dc21 with rfl | rfl <;> rcases dc31 with rfl | rfl <;> rcases dc32 with rfl | rfl <;> rcases dc42 with rfl | rfl <;> rcases dc43 with rfl | rfl <;> decide +kernel
set_option maxRecDepth 65536 in
set_option maxHeartbeats 40000000 in
theorem fin6 (c21 c31 c41 c32 c42 c43 : Int64) (dc21 : c21 = 0 ∨ c21 = 1) (dc31 : c31 = 0 ∨ c31 = 1) (dc41 : c41 = 0 ∨ c41 = 1) (dc32 : c32 = 0 ∨ c32 = 1) (dc42 : c42 = 0 ∨ c42 = 1) (dc43 : c43 = 0 ∨ c43 = 1) : (ft21_6 (oUp (2 : Int64) ((2 : Int32) &&& 0x3f).toInt64 (oUp (1 : Int64) ((1 : Int32) &&& 0x3f).toInt64 (0 : Int64) (oUp0 (2 : Int64) (oUp (1 : Int64) ((1 : Int32) &&& 0x3f).toInt64 (0 : Int64) (oUp0 (1 : Int64) (0 : Int64) (((c21 ||| (2 : Int64)) ||| (c32 <<< ((2 : Int32) &&& 0x3f).toInt64)) ||| (c42 <<< ((3 : Int32) &&& 0x3f).toInt64)) (1 : Int64)) (((c31 ||| (c32 <<< ((1 : Int32) &&& 0x3f).toInt64)) ||| (4 : Int64)) ||| (c43 <<< ((3 : Int32) &&& 0x3f).toInt64)) (2 : Int64)) (((c31 ||| (c32 <<< ((1 : Int32) &&& 0x3f).toInt64)) ||| (4 : Int64)) ||| (c43 <<< ((3 : Int32) &&& 0x3f).toInt64)) (1 : Int64)) (((c41 ||| (c42 <<< ((1 : Int32) &&& 0x3f).toInt64)) ||| (c43 <<< ((2 : Int32) &&& 0x3f).toInt64)) ||| (8 : Int64)) (4 : Int64)) (oUp0 (1 : Int64) (0 : Int64) (((c21 ||| (2 : Int64)) ||| (c32 <<< ((2 : Int32) &&& 0x3f).toInt64)) ||| (c42 <<< ((3 : Int32) &&& 0x3f).toInt64)) (1 : Int64)) (((c41 ||| (c42 <<< ((1 : Int32) &&& 0x3f).toInt64)) ||| (c43 <<< ((2 : Int32) &&& 0x3f).toInt64)) ||| (8 : Int64)) (2 : Int64))) = (fR42 c42 c43 c32) := by
  rcases dc21 with rfl | rfl <;> rcases dc31 with rfl | rfl <;> rcases dc41 with rfl | rfl <;> rcases dc32 with rfl | rfl <;> rcases dc42 with rfl | rfl <;> rcases dc43 with rfl | rfl <;> decide +kernel
def ft21_8 (y7 : Int64) : Int32 := (if (y7 &&& (4 : Int64)) = (0 : Int64) then (0 : Int32) else (1 : Int32))
theorem ft21_8_def (y7 : Int64) : ft21_8 y7 = (if (y7 &&& (4 : Int64)) = (0 : Int64) then (0 : Int32) else (1 : Int32)) := rfl
set_option maxRecDepth 65536 in
set_option maxHeartbeats 40000000 in
theorem ac21_66 (l : Launch) (Z : State) (a0 : Array Value) (hw : oHw a0 Z) (h0 : Heap) (n0 : Nat) (Z0 : n0 ≤ h0.size) (b1 : Addr) (b2 : Addr) (x3 : Int32) (x4 : Nat) (y5 : Int64) (y6 : Int64) (y7 : Int64) (p1 : Fld Z h0 b1 sP "bits" "[J" (.ref b2)) (p2 : Fld Z h0 b1 sP "words" "I" (.int x3)) (p3 : oAr Z h0 b2 .long (oRl x4 (0 : Int64) y5 y6 y7)) (p4 : oKw x4 x3) :
    oMet l Z (⟨sP, "follows", "(II)Z"⟩ : MethodName) prog_13_method_2_code 4 (some .boolean) [] ({ frames := 0, cells := 0, slots := 0, locals := 0 } : Room) 0 0 n0 #[.ref b1, .int 4, .int 1] h0 (fun v h => v = some (.int (ft21_8 y7)) ∧ h = h0) := by
  refine oMet.intro (plainFor_of_name pn_399007) (fun m => ef_21 m b1 (4 : Int32) (1 : Int32)) ?_
  intro op oe os m obl omt ocd C
  refine oIloadN C d21_0 rfl rfl ?_
  refine oIloadN C d21_1 rfl rfl ?_
  refine oIsub C d21_2 rfl ?_
  refine oCastI (z' := (3 : Int32)) (by decide) ?_
  refine oIconst C d21_3 (z := 1) rfl rfl ?_
  refine oIsub C d21_4 rfl ?_
  refine oCastI (z' := (2 : Int32)) (by decide) ?_
  refine oIstoreN C d21_5 (Ls' := #[.val (.ref b1), .val (.int 4), .val (.int 1), .val (.int 2)]) rfl (q := 6) rfl ?_
  refine oAloadN C d21_6 rfl rfl rfl ?_
  refine oGetF C (w137 hw) Via.refl p1 d21_7 rfl ?_
  refine oIloadN C d21_10 rfl rfl ?_
  refine oIconst C d21_11 (z := 1) rfl rfl ?_
  refine oIsub C d21_12 rfl ?_
  refine oCastI (z' := (3 : Int32)) (by decide) ?_
  refine oAloadN C d21_13 rfl rfl rfl ?_
  refine oGetF C (w125 hw) Via.refl p2 d21_14 rfl ?_
  refine oImul C d21_17 rfl ?_
  refine oIloadN C d21_18 rfl rfl ?_
  refine oBipush C d21_19 (z := 6) rfl rfl ?_
  refine oIushr C d21_21 rfl ?_
  refine oCastI (z' := (0 : Int32)) (by decide) ?_
  refine oIadd C d21_22 rfl ?_
  refine oLaload C p3 (own_n3 p4) (k := (3 * x4)) (own_k3 p4) (v := .long y7) (own_v3 p4) d21_23 rfl ?_
  refine oLconst C d21_24 (z := 1) rfl rfl ?_
  refine oIloadN C d21_25 rfl rfl ?_
  refine oLshl C d21_26 rfl ?_
  refine oCastL (z' := (4 : Int64)) (by decide) ?_
  refine oLand C d21_27 rfl ?_
  refine oLconst C d21_28 (z := 0) rfl rfl ?_
  refine oLcmp_eq C d21_29 rfl d21_30 (q := 37) (by decide) (by decide) (r := 33) rfl (fun hc29 => ?_) (fun hc29 => ?_)
  ·
   refine oIconst C d21_37 (z := 0) rfl rfl ?_
   refine oRetZ C d21_38 (z' := (0 : Int32)) rfl (by decide) (by decide) ?_
   exact ⟨by rw [ft21_8_def, if_pos hc29], rfl⟩
  ·
   refine oIconst C d21_33 (z := 1) rfl rfl ?_
   refine oGoto C d21_34 (q := 38) (by decide) (by decide) ?_
   refine oRetZ C d21_38 (z' := (1 : Int32)) rfl (by decide) (by decide) ?_
   exact ⟨by rw [ft21_8_def, if_neg hc29], rfl⟩
set_option maxRecDepth 65536 in
set_option maxHeartbeats 40000000 in
theorem ac28_67 (l : Launch) (Z : State) (a0 : Array Value) (hw : oHw a0 Z) (h0 : Heap) (n0 : Nat) (Z0 : n0 ≤ h0.size) (b1 : Addr) (x2 : Int32) (b3 : Addr) (x4 : Nat) (y5 : Int64) (y6 : Int64) (y7 : Int64) (p1 : Fld Z h0 b1 sP "words" "I" (.int x2)) (p2 : Fld Z h0 b1 sP "bits" "[J" (.ref b3)) (p3 : oAr Z h0 b3 .long (oRl x4 (0 : Int64) y5 y6 y7)) (p4 : oKw x4 x2) (p5 : b1 ≠ b3) (p6 : n0 ≤ b3) :
    oMet l Z (⟨sP, "followAlong", "(II)V"⟩ : MethodName) prog_13_method_3_code 11 none [] ({ frames := 0, cells := 0, slots := 0, locals := 0 } : Room) 0 0 n0 #[.ref b1, .int 4, .int 1] h0 (fun v h => v = none ∧ oKe h0 h [b3] [] ∧ oAr Z h b3 .long (oRl x4 (0 : Int64) y5 y6 ((y7 ||| (0 : Int64)) ||| (4 : Int64)))) := by
  refine oMet.intro (plainFor_of_name pn_399007) (fun m => ef_28 m b1 (4 : Int32) (1 : Int32)) ?_
  intro op oe os m obl omt ocd C
  refine oIloadN C d28_0 rfl rfl ?_
  refine oIloadN C d28_1 rfl rfl ?_
  refine oIsub C d28_2 rfl ?_
  refine oCastI (z' := (3 : Int32)) (by decide) ?_
  refine oIstoreN C d28_3 (Ls' := #[.val (.ref b1), .val (.int 4), .val (.int 1), .val (.int 3), .unset, .unset, .unset, .unset, .unset, .unset, .unset]) rfl (q := 4) rfl ?_
  refine oIloadN C d28_4 rfl rfl ?_
  refine oIconst C d28_5 (z := 1) rfl rfl ?_
  refine oIsub C d28_6 rfl ?_
  refine oCastI (z' := (3 : Int32)) (by decide) ?_
  refine oAloadN C d28_7 rfl rfl rfl ?_
  refine oGetF C (w125 hw) Via.refl p1 d28_8 rfl ?_
  refine oImul C d28_11 rfl ?_
  refine oIstore C d28_12 (Ls' := #[.val (.ref b1), .val (.int 4), .val (.int 1), .val (.int 3), .val (.int ((3 : Int32) * x2)), .unset, .unset, .unset, .unset, .unset, .unset]) rfl (q := 14) rfl ?_
  refine oIloadN C d28_14 rfl rfl ?_
  refine oIconst C d28_15 (z := 1) rfl rfl ?_
  refine oIsub C d28_16 rfl ?_
  refine oCastI (z' := (0 : Int32)) (by decide) ?_
  refine oAloadN C d28_17 rfl rfl rfl ?_
  refine oGetF C (w125 hw) Via.refl p1 d28_18 rfl ?_
  refine oImul C d28_21 rfl ?_
  refine oIstore C d28_22 (Ls' := #[.val (.ref b1), .val (.int 4), .val (.int 1), .val (.int 3), .val (.int ((3 : Int32) * x2)), .val (.int ((0 : Int32) * x2)), .unset, .unset, .unset, .unset, .unset]) rfl (q := 24) rfl ?_
  refine oIloadN C d28_24 rfl rfl ?_
  refine oBipush C d28_25 (z := 6) rfl rfl ?_
  refine oIushr C d28_27 rfl ?_
  refine oCastI (z' := (0 : Int32)) (by decide) ?_
  refine oIstore C d28_28 (Ls' := #[.val (.ref b1), .val (.int 4), .val (.int 1), .val (.int 3), .val (.int ((3 : Int32) * x2)), .val (.int ((0 : Int32) * x2)), .val (.int 0), .unset, .unset, .unset, .unset]) rfl (q := 30) rfl ?_
  refine oIloadN C d28_30 rfl rfl ?_
  refine oBipush C d28_31 (z := 63) rfl rfl ?_
  refine oIand C d28_33 rfl ?_
  refine oCastI (z' := (3 : Int32)) (by decide) ?_
  refine oIstore C d28_34 (Ls' := #[.val (.ref b1), .val (.int 4), .val (.int 1), .val (.int 3), .val (.int ((3 : Int32) * x2)), .val (.int ((0 : Int32) * x2)), .val (.int 0), .val (.int 3), .unset, .unset, .unset]) rfl (q := 36) rfl ?_
  refine oAloadN C d28_36 rfl rfl rfl ?_
  refine oGetF C (w125 hw) Via.refl p1 d28_37 rfl ?_
  refine oIconst C d28_40 (z := 1) rfl rfl ?_
  refine oIsub C d28_41 rfl ?_
  refine oIstore C d28_42 (Ls' := #[.val (.ref b1), .val (.int 4), .val (.int 1), .val (.int 3), .val (.int ((3 : Int32) * x2)), .val (.int ((0 : Int32) * x2)), .val (.int 0), .val (.int 3), .val (.int (x2 - (1 : Int32))), .unset, .unset]) rfl (q := 44) rfl ?_
  refine oLoop (α := Heap × Int32 × Bool) (fun t w => oKe h0 w.1 [b3] [] ∧ oAr Z w.1 b3 .long (oRl x4 (0 : Int64) y5 y6 y7) ∧ oNx x4 t w.2.1) (fun w => w.1) (fun w => (mkF m 44 #[.val (.ref b1), .val (.int 4), .val (.int 1), .val (.int 3), .val (.int ((3 : Int32) * x2)), .val (.int ((0 : Int32) * x2)), .val (.int 0), .val (.int 3), .val (.int w.2.1), (bif w.2.2 then .val (.long 0) else .unset), (bif w.2.2 then .second else .unset)] [])) (k := 0) (n := 0) ?_ (x4 - 1) (h0, (x2 - (1 : Int32)), false) ⟨oKe.refl _ _ _, p3, own_nx0 p4⟩
  rintro t ih ⟨hl, x, sl⟩ ⟨Kl0, Al0, nx⟩
  have Kl : oKe h0 hl [b3] [] := Kl0
  have Al : oAr Z hl b3 .long (oRl x4 (0 : Int64) y5 y6 y7) := Al0
  rcases t with _ | t <;> cases sl
  ·
   obtain rfl : x = 0 := nx.2
   show oW _ _ _ _ _ _ _ _ _ _ _ _ _ _ _ (mkF m 44 #[.val (.ref b1), .val (.int 4), .val (.int 1), .val (.int 3), .val (.int ((3 : Int32) * x2)), .val (.int ((0 : Int32) * x2)), .val (.int 0), .val (.int 3), .val (.int 0), .unset, .unset] [])
   refine oIload C d28_44 rfl rfl ?_
   refine oIload C d28_46 rfl rfl ?_
   refine oIcmp_lt C d28_48 (q := 128) (by decide) (by decide) (r := 51) rfl (fun hq => absurd hq ((by decide))) (fun hc48 => ?_)
   refine oAloadN C d28_51 rfl rfl rfl ?_
   have f2 := (Kl.fld p2 (ninS p5 nin0) oN0)
   refine oGetF C (w137 hw) Via.refl f2 d28_52 rfl ?_
   refine oIload C d28_55 rfl rfl ?_
   refine oIload C d28_57 rfl rfl ?_
   refine oIadd C d28_59 rfl ?_
   refine oIload C d28_60 rfl rfl ?_
   refine oIsub C d28_62 rfl ?_
   refine oCastI (z' := (((0 : Int32) * x2) + (0 : Int32))) (own_s0 (((0 : Int32) * x2) + (0 : Int32))) ?_
   refine oLaload C Al (own_n0 p4) (k := (0 * x4)) (own_k0 p4) (v := .long 0) (own_v0 p4) d28_63 rfl ?_
   refine oIload C d28_64 rfl rfl ?_
   refine oLshl C d28_66 rfl ?_
   refine oCastL (z' := (0 : Int64)) (by decide) ?_
   refine oLstore C d28_67 (Ls' := #[.val (.ref b1), .val (.int 4), .val (.int 1), .val (.int 3), .val (.int ((3 : Int32) * x2)), .val (.int ((0 : Int32) * x2)), .val (.int 0), .val (.int 3), .val (.int 0), .val (.long 0), .second]) rfl (q := 69) rfl ?_
   refine oIload C d28_69 rfl rfl ?_
   refine oIf_eq C d28_71 (q := 107) (by decide) (by decide) (r := 74) rfl (fun hq => absurd hq ((by decide))) (fun hc71 => ?_)
   refine oIload C d28_74 rfl rfl ?_
   refine oIload C d28_76 rfl rfl ?_
   refine oIcmp_le C d28_78 (q := 107) (by decide) (by decide) (r := 81) rfl (fun hc78 => ?_) (fun hq => absurd hq ((by decide)))
   refine oAloadN C d28_107 rfl rfl rfl ?_
   refine oGetF C (w137 hw) Via.refl f2 d28_108 rfl ?_
   refine oIload C d28_111 rfl rfl ?_
   refine oIload C d28_113 rfl rfl ?_
   refine oIadd C d28_115 rfl ?_
   refine oDup2 C d28_116 rfl rfl rfl ?_
   refine oLaload C Al (own_n3 p4) (k := (3 * x4)) (own_k3 p4) (v := .long y7) (own_v3 p4) d28_117 rfl ?_
   refine oLload C d28_118 rfl rfl ?_
   refine oLor C d28_120 rfl ?_
   refine oLastore C Al (own_n3 p4) (k := (3 * x4)) (own_k3 p4) (v := .long y7) (own_v3 p4) (v' := .long (y7 ||| (0 : Int64))) rfl d28_121 rfl p6 fun h3 W3 A3 => ?_
   have A3l : oAr Z h3 b3 .long (oRl x4 (0 : Int64) y5 y6 (y7 ||| (0 : Int64))) := by rw [← own_t3 p4]; exact A3
   refine oIinc C d28_122 rfl (z := (-1)) rfl (w := (-1 : Int32)) (by decide) (Ls' := #[.val (.ref b1), .val (.int 4), .val (.int 1), .val (.int 3), .val (.int ((3 : Int32) * x2)), .val (.int ((0 : Int32) * x2)), .val (.int 0), .val (.int 3), .val (.int (-1)), .val (.long 0), .second]) rfl rfl ?_
   refine oGoto C d28_125 (q := 44) (by decide) (by decide) ?_
   refine oIload C d28_44 rfl rfl ?_
   refine oIload C d28_46 rfl rfl ?_
   refine oIcmp_lt C d28_48 (q := 128) (by decide) (by decide) (r := 51) rfl (fun hc48_1 => ?_) (fun hq => absurd hq ((by decide)))
   refine oIloadN C d28_128 rfl rfl ?_
   refine oIconst C d28_129 (z := 1) rfl rfl ?_
   refine oIsub C d28_130 rfl ?_
   refine oCastI (z' := (2 : Int32)) (by decide) ?_
   refine oIstore C d28_131 (Ls' := #[.val (.ref b1), .val (.int 4), .val (.int 1), .val (.int 3), .val (.int ((3 : Int32) * x2)), .val (.int ((0 : Int32) * x2)), .val (.int 0), .val (.int 3), .val (.int 2), .val (.long 0), .second]) rfl (q := 133) rfl ?_
   refine oAloadN C d28_133 rfl rfl rfl ?_
   have f4 := (Fld.other W3 f2 (Or.inl p5))
   refine oGetF C (w137 hw) Via.refl f4 d28_134 rfl ?_
   refine oIload C d28_137 rfl rfl ?_
   refine oIload C d28_139 rfl rfl ?_
   refine oBipush C d28_141 (z := 6) rfl rfl ?_
   refine oIushr C d28_143 rfl ?_
   refine oCastI (z' := (0 : Int32)) (by decide) ?_
   refine oIadd C d28_144 rfl ?_
   refine oDup2 C d28_145 rfl rfl rfl ?_
   refine oLaload C A3l (own_n3 p4) (k := (3 * x4)) (own_k3 p4) (v := .long (y7 ||| (0 : Int64))) (own_v3 p4) d28_146 rfl ?_
   refine oLconst C d28_147 (z := 1) rfl rfl ?_
   refine oIload C d28_148 rfl rfl ?_
   refine oLshl C d28_150 rfl ?_
   refine oCastL (z' := (4 : Int64)) (by decide) ?_
   refine oLor C d28_151 rfl ?_
   refine oLastore C A3l (own_n3 p4) (k := (3 * x4)) (own_k3 p4) (v := .long (y7 ||| (0 : Int64))) (own_v3 p4) (v' := .long ((y7 ||| (0 : Int64)) ||| (4 : Int64))) rfl d28_152 rfl p6 fun h5 W5 A5 => ?_
   have A5l : oAr Z h5 b3 .long (oRl x4 (0 : Int64) y5 y6 ((y7 ||| (0 : Int64)) ||| (4 : Int64))) := by rw [← own_t3 p4]; exact A5
   refine oRetV C d28_153 (by decide) (by decide) ?_
   exact ⟨rfl, ((((oKe.refl h0 [b3] []).trans Kl (allS (Or.inl (List.mem_of_getElem? (i := 0) rfl)) all0) oA0).wrA W3 (Or.inl (List.mem_of_getElem? (i := 0) rfl))).wrA W5 (Or.inl (List.mem_of_getElem? (i := 0) rfl))), A5l⟩
  ·
   obtain rfl : x = 0 := nx.2
   show oW _ _ _ _ _ _ _ _ _ _ _ _ _ _ _ (mkF m 44 #[.val (.ref b1), .val (.int 4), .val (.int 1), .val (.int 3), .val (.int ((3 : Int32) * x2)), .val (.int ((0 : Int32) * x2)), .val (.int 0), .val (.int 3), .val (.int 0), .val (.long 0), .second] [])
   refine oIload C d28_44 rfl rfl ?_
   refine oIload C d28_46 rfl rfl ?_
   refine oIcmp_lt C d28_48 (q := 128) (by decide) (by decide) (r := 51) rfl (fun hq => absurd hq ((by decide))) (fun hc48 => ?_)
   refine oAloadN C d28_51 rfl rfl rfl ?_
   have f6 := (Kl.fld p2 (ninS p5 nin0) oN0)
   refine oGetF C (w137 hw) Via.refl f6 d28_52 rfl ?_
   refine oIload C d28_55 rfl rfl ?_
   refine oIload C d28_57 rfl rfl ?_
   refine oIadd C d28_59 rfl ?_
   refine oIload C d28_60 rfl rfl ?_
   refine oIsub C d28_62 rfl ?_
   refine oCastI (z' := (((0 : Int32) * x2) + (0 : Int32))) (own_s0 (((0 : Int32) * x2) + (0 : Int32))) ?_
   refine oLaload C Al (own_n0 p4) (k := (0 * x4)) (own_k0 p4) (v := .long 0) (own_v0 p4) d28_63 rfl ?_
   refine oIload C d28_64 rfl rfl ?_
   refine oLshl C d28_66 rfl ?_
   refine oCastL (z' := (0 : Int64)) (by decide) ?_
   refine oLstore C d28_67 (Ls' := #[.val (.ref b1), .val (.int 4), .val (.int 1), .val (.int 3), .val (.int ((3 : Int32) * x2)), .val (.int ((0 : Int32) * x2)), .val (.int 0), .val (.int 3), .val (.int 0), .val (.long 0), .second]) rfl (q := 69) rfl ?_
   refine oIload C d28_69 rfl rfl ?_
   refine oIf_eq C d28_71 (q := 107) (by decide) (by decide) (r := 74) rfl (fun hq => absurd hq ((by decide))) (fun hc71 => ?_)
   refine oIload C d28_74 rfl rfl ?_
   refine oIload C d28_76 rfl rfl ?_
   refine oIcmp_le C d28_78 (q := 107) (by decide) (by decide) (r := 81) rfl (fun hc78 => ?_) (fun hq => absurd hq ((by decide)))
   refine oAloadN C d28_107 rfl rfl rfl ?_
   refine oGetF C (w137 hw) Via.refl f6 d28_108 rfl ?_
   refine oIload C d28_111 rfl rfl ?_
   refine oIload C d28_113 rfl rfl ?_
   refine oIadd C d28_115 rfl ?_
   refine oDup2 C d28_116 rfl rfl rfl ?_
   refine oLaload C Al (own_n3 p4) (k := (3 * x4)) (own_k3 p4) (v := .long y7) (own_v3 p4) d28_117 rfl ?_
   refine oLload C d28_118 rfl rfl ?_
   refine oLor C d28_120 rfl ?_
   refine oLastore C Al (own_n3 p4) (k := (3 * x4)) (own_k3 p4) (v := .long y7) (own_v3 p4) (v' := .long (y7 ||| (0 : Int64))) rfl d28_121 rfl p6 fun h7 W7 A7 => ?_
   have A7l : oAr Z h7 b3 .long (oRl x4 (0 : Int64) y5 y6 (y7 ||| (0 : Int64))) := by rw [← own_t3 p4]; exact A7
   refine oIinc C d28_122 rfl (z := (-1)) rfl (w := (-1 : Int32)) (by decide) (Ls' := #[.val (.ref b1), .val (.int 4), .val (.int 1), .val (.int 3), .val (.int ((3 : Int32) * x2)), .val (.int ((0 : Int32) * x2)), .val (.int 0), .val (.int 3), .val (.int (-1)), .val (.long 0), .second]) rfl rfl ?_
   refine oGoto C d28_125 (q := 44) (by decide) (by decide) ?_
   refine oIload C d28_44 rfl rfl ?_
   refine oIload C d28_46 rfl rfl ?_
   refine oIcmp_lt C d28_48 (q := 128) (by decide) (by decide) (r := 51) rfl (fun hc48_1 => ?_) (fun hq => absurd hq ((by decide)))
   refine oIloadN C d28_128 rfl rfl ?_
   refine oIconst C d28_129 (z := 1) rfl rfl ?_
   refine oIsub C d28_130 rfl ?_
   refine oCastI (z' := (2 : Int32)) (by decide) ?_
   refine oIstore C d28_131 (Ls' := #[.val (.ref b1), .val (.int 4), .val (.int 1), .val (.int 3), .val (.int ((3 : Int32) * x2)), .val (.int ((0 : Int32) * x2)), .val (.int 0), .val (.int 3), .val (.int 2), .val (.long 0), .second]) rfl (q := 133) rfl ?_
   refine oAloadN C d28_133 rfl rfl rfl ?_
   have f8 := (Fld.other W7 f6 (Or.inl p5))
   refine oGetF C (w137 hw) Via.refl f8 d28_134 rfl ?_
   refine oIload C d28_137 rfl rfl ?_
   refine oIload C d28_139 rfl rfl ?_
   refine oBipush C d28_141 (z := 6) rfl rfl ?_
   refine oIushr C d28_143 rfl ?_
   refine oCastI (z' := (0 : Int32)) (by decide) ?_
   refine oIadd C d28_144 rfl ?_
   refine oDup2 C d28_145 rfl rfl rfl ?_
   refine oLaload C A7l (own_n3 p4) (k := (3 * x4)) (own_k3 p4) (v := .long (y7 ||| (0 : Int64))) (own_v3 p4) d28_146 rfl ?_
   refine oLconst C d28_147 (z := 1) rfl rfl ?_
   refine oIload C d28_148 rfl rfl ?_
   refine oLshl C d28_150 rfl ?_
   refine oCastL (z' := (4 : Int64)) (by decide) ?_
   refine oLor C d28_151 rfl ?_
   refine oLastore C A7l (own_n3 p4) (k := (3 * x4)) (own_k3 p4) (v := .long (y7 ||| (0 : Int64))) (own_v3 p4) (v' := .long ((y7 ||| (0 : Int64)) ||| (4 : Int64))) rfl d28_152 rfl p6 fun h9 W9 A9 => ?_
   have A9l : oAr Z h9 b3 .long (oRl x4 (0 : Int64) y5 y6 ((y7 ||| (0 : Int64)) ||| (4 : Int64))) := by rw [← own_t3 p4]; exact A9
   refine oRetV C d28_153 (by decide) (by decide) ?_
   exact ⟨rfl, ((((oKe.refl h0 [b3] []).trans Kl (allS (Or.inl (List.mem_of_getElem? (i := 0) rfl)) all0) oA0).wrA W7 (Or.inl (List.mem_of_getElem? (i := 0) rfl))).wrA W9 (Or.inl (List.mem_of_getElem? (i := 0) rfl))), A9l⟩
  ·
   show oW _ _ _ _ _ _ _ _ _ _ _ _ _ _ _ (mkF m 44 #[.val (.ref b1), .val (.int 4), .val (.int 1), .val (.int 3), .val (.int ((3 : Int32) * x2)), .val (.int ((0 : Int32) * x2)), .val (.int 0), .val (.int 3), .val (.int x), .unset, .unset] [])
   refine oIload C d28_44 rfl rfl ?_
   refine oIload C d28_46 rfl rfl ?_
   refine oIcmp_lt C d28_48 (q := 128) (by decide) (by decide) (r := 51) rfl (fun hq => absurd hq ((own_nl p4 nx))) (fun hc48 => ?_)
   refine oAloadN C d28_51 rfl rfl rfl ?_
   have f10 := (Kl.fld p2 (ninS p5 nin0) oN0)
   refine oGetF C (w137 hw) Via.refl f10 d28_52 rfl ?_
   refine oIload C d28_55 rfl rfl ?_
   refine oIload C d28_57 rfl rfl ?_
   refine oIadd C d28_59 rfl ?_
   refine oIload C d28_60 rfl rfl ?_
   refine oIsub C d28_62 rfl ?_
   refine oCastI (z' := (((0 : Int32) * x2) + x)) (own_s0 (((0 : Int32) * x2) + x)) ?_
   refine oLaload C Al (own_mn0 p4 nx) (k := (0 * x4 + (t + 1))) (own_mk0 p4 nx) (v := .long 0) (own_mv0 p4 nx) d28_63 rfl ?_
   refine oIload C d28_64 rfl rfl ?_
   refine oLshl C d28_66 rfl ?_
   refine oCastL (z' := (0 : Int64)) (by decide) ?_
   refine oLstore C d28_67 (Ls' := #[.val (.ref b1), .val (.int 4), .val (.int 1), .val (.int 3), .val (.int ((3 : Int32) * x2)), .val (.int ((0 : Int32) * x2)), .val (.int 0), .val (.int 3), .val (.int x), .val (.long 0), .second]) rfl (q := 69) rfl ?_
   refine oIload C d28_69 rfl rfl ?_
   refine oIf_eq C d28_71 (q := 107) (by decide) (by decide) (r := 74) rfl (fun hq => absurd hq ((by decide))) (fun hc71 => ?_)
   refine oIload C d28_74 rfl rfl ?_
   refine oIload C d28_76 rfl rfl ?_
   refine oIcmp_le C d28_78 (q := 107) (by decide) (by decide) (r := 81) rfl (fun hq => absurd hq ((not_not_intro (own_pl p4 nx)))) (fun hc78 => ?_)
   refine oLload C d28_81 rfl rfl ?_
   refine oAloadN C d28_83 rfl rfl rfl ?_
   refine oGetF C (w137 hw) Via.refl f10 d28_84 rfl ?_
   refine oIload C d28_87 rfl rfl ?_
   refine oIload C d28_89 rfl rfl ?_
   refine oIadd C d28_91 rfl ?_
   refine oIload C d28_92 rfl rfl ?_
   refine oIsub C d28_94 rfl ?_
   refine oCastI (z' := (((0 : Int32) * x2) + x)) (own_s0 (((0 : Int32) * x2) + x)) ?_
   refine oIconst C d28_95 (z := 1) rfl rfl ?_
   refine oIsub C d28_96 rfl ?_
   refine oLaload C Al (own_pn0 p4 nx) (k := (0 * x4 + t)) (own_pk0 p4 nx) (v := .long (oEl t (0 : Int64))) (own_pv0 p4 nx) d28_97 rfl ?_
   refine oBipush C d28_98 (z := 64) rfl rfl ?_
   refine oIload C d28_100 rfl rfl ?_
   refine oIsub C d28_102 rfl ?_
   refine oCastI (z' := (61 : Int32)) (by decide) ?_
   refine oLushr C d28_103 rfl ?_
   refine oCastL (z' := (0 : Int64)) (own_es (by decide) (by decide)) ?_
   refine oLor C d28_104 rfl ?_
   refine oCastL (z' := (0 : Int64)) (by decide) ?_
   refine oLstore C d28_105 (Ls' := #[.val (.ref b1), .val (.int 4), .val (.int 1), .val (.int 3), .val (.int ((3 : Int32) * x2)), .val (.int ((0 : Int32) * x2)), .val (.int 0), .val (.int 3), .val (.int x), .val (.long 0), .second]) rfl (q := 107) rfl ?_
   refine oAloadN C d28_107 rfl rfl rfl ?_
   refine oGetF C (w137 hw) Via.refl f10 d28_108 rfl ?_
   refine oIload C d28_111 rfl rfl ?_
   refine oIload C d28_113 rfl rfl ?_
   refine oIadd C d28_115 rfl ?_
   refine oDup2 C d28_116 rfl rfl rfl ?_
   refine oLaload C Al (own_mn3 p4 nx) (k := (3 * x4 + (t + 1))) (own_mk3 p4 nx) (v := .long 0) (own_mv3 p4 nx) d28_117 rfl ?_
   refine oLload C d28_118 rfl rfl ?_
   refine oLor C d28_120 rfl ?_
   refine oCastL (z' := (0 : Int64)) (by decide) ?_
   refine oLastore C Al (own_mn3 p4 nx) (k := (3 * x4 + (t + 1))) (own_mk3 p4 nx) (v := .long 0) (own_mv3 p4 nx) (v' := .long 0) rfl d28_121 rfl p6 fun h11 W11 A11 => ?_
   have A11l : oAr Z h11 b3 .long (oRl x4 (0 : Int64) y5 y6 y7) := by rw [← own_mt3 p4 nx]; exact A11
   refine oIinc C d28_122 rfl (z := (-1)) rfl (w := (x + (-1 : Int32))) rfl (Ls' := #[.val (.ref b1), .val (.int 4), .val (.int 1), .val (.int 3), .val (.int ((3 : Int32) * x2)), .val (.int ((0 : Int32) * x2)), .val (.int 0), .val (.int 3), .val (.int (x + (-1 : Int32))), .val (.long 0), .second]) rfl rfl ?_
   refine oGoto C d28_125 (q := 44) (by decide) (by decide) ?_
   exact ih t (Nat.lt_succ_self t) (h11, (x + (-1 : Int32)), true) ⟨(((oKe.refl h0 [b3] []).trans Kl (allS (Or.inl (List.mem_of_getElem? (i := 0) rfl)) all0) oA0).wrA W11 (Or.inl (List.mem_of_getElem? (i := 0) rfl))), A11l, own_nxs p4 nx⟩
  ·
   show oW _ _ _ _ _ _ _ _ _ _ _ _ _ _ _ (mkF m 44 #[.val (.ref b1), .val (.int 4), .val (.int 1), .val (.int 3), .val (.int ((3 : Int32) * x2)), .val (.int ((0 : Int32) * x2)), .val (.int 0), .val (.int 3), .val (.int x), .val (.long 0), .second] [])
   refine oIload C d28_44 rfl rfl ?_
   refine oIload C d28_46 rfl rfl ?_
   refine oIcmp_lt C d28_48 (q := 128) (by decide) (by decide) (r := 51) rfl (fun hq => absurd hq ((own_nl p4 nx))) (fun hc48 => ?_)
   refine oAloadN C d28_51 rfl rfl rfl ?_
   have f12 := (Kl.fld p2 (ninS p5 nin0) oN0)
   refine oGetF C (w137 hw) Via.refl f12 d28_52 rfl ?_
   refine oIload C d28_55 rfl rfl ?_
   refine oIload C d28_57 rfl rfl ?_
   refine oIadd C d28_59 rfl ?_
   refine oIload C d28_60 rfl rfl ?_
   refine oIsub C d28_62 rfl ?_
   refine oCastI (z' := (((0 : Int32) * x2) + x)) (own_s0 (((0 : Int32) * x2) + x)) ?_
   refine oLaload C Al (own_mn0 p4 nx) (k := (0 * x4 + (t + 1))) (own_mk0 p4 nx) (v := .long 0) (own_mv0 p4 nx) d28_63 rfl ?_
   refine oIload C d28_64 rfl rfl ?_
   refine oLshl C d28_66 rfl ?_
   refine oCastL (z' := (0 : Int64)) (by decide) ?_
   refine oLstore C d28_67 (Ls' := #[.val (.ref b1), .val (.int 4), .val (.int 1), .val (.int 3), .val (.int ((3 : Int32) * x2)), .val (.int ((0 : Int32) * x2)), .val (.int 0), .val (.int 3), .val (.int x), .val (.long 0), .second]) rfl (q := 69) rfl ?_
   refine oIload C d28_69 rfl rfl ?_
   refine oIf_eq C d28_71 (q := 107) (by decide) (by decide) (r := 74) rfl (fun hq => absurd hq ((by decide))) (fun hc71 => ?_)
   refine oIload C d28_74 rfl rfl ?_
   refine oIload C d28_76 rfl rfl ?_
   refine oIcmp_le C d28_78 (q := 107) (by decide) (by decide) (r := 81) rfl (fun hq => absurd hq ((not_not_intro (own_pl p4 nx)))) (fun hc78 => ?_)
   refine oLload C d28_81 rfl rfl ?_
   refine oAloadN C d28_83 rfl rfl rfl ?_
   refine oGetF C (w137 hw) Via.refl f12 d28_84 rfl ?_
   refine oIload C d28_87 rfl rfl ?_
   refine oIload C d28_89 rfl rfl ?_
   refine oIadd C d28_91 rfl ?_
   refine oIload C d28_92 rfl rfl ?_
   refine oIsub C d28_94 rfl ?_
   refine oCastI (z' := (((0 : Int32) * x2) + x)) (own_s0 (((0 : Int32) * x2) + x)) ?_
   refine oIconst C d28_95 (z := 1) rfl rfl ?_
   refine oIsub C d28_96 rfl ?_
   refine oLaload C Al (own_pn0 p4 nx) (k := (0 * x4 + t)) (own_pk0 p4 nx) (v := .long (oEl t (0 : Int64))) (own_pv0 p4 nx) d28_97 rfl ?_
   refine oBipush C d28_98 (z := 64) rfl rfl ?_
   refine oIload C d28_100 rfl rfl ?_
   refine oIsub C d28_102 rfl ?_
   refine oCastI (z' := (61 : Int32)) (by decide) ?_
   refine oLushr C d28_103 rfl ?_
   refine oCastL (z' := (0 : Int64)) (own_es (by decide) (by decide)) ?_
   refine oLor C d28_104 rfl ?_
   refine oCastL (z' := (0 : Int64)) (by decide) ?_
   refine oLstore C d28_105 (Ls' := #[.val (.ref b1), .val (.int 4), .val (.int 1), .val (.int 3), .val (.int ((3 : Int32) * x2)), .val (.int ((0 : Int32) * x2)), .val (.int 0), .val (.int 3), .val (.int x), .val (.long 0), .second]) rfl (q := 107) rfl ?_
   refine oAloadN C d28_107 rfl rfl rfl ?_
   refine oGetF C (w137 hw) Via.refl f12 d28_108 rfl ?_
   refine oIload C d28_111 rfl rfl ?_
   refine oIload C d28_113 rfl rfl ?_
   refine oIadd C d28_115 rfl ?_
   refine oDup2 C d28_116 rfl rfl rfl ?_
   refine oLaload C Al (own_mn3 p4 nx) (k := (3 * x4 + (t + 1))) (own_mk3 p4 nx) (v := .long 0) (own_mv3 p4 nx) d28_117 rfl ?_
   refine oLload C d28_118 rfl rfl ?_
   refine oLor C d28_120 rfl ?_
   refine oCastL (z' := (0 : Int64)) (by decide) ?_
   refine oLastore C Al (own_mn3 p4 nx) (k := (3 * x4 + (t + 1))) (own_mk3 p4 nx) (v := .long 0) (own_mv3 p4 nx) (v' := .long 0) rfl d28_121 rfl p6 fun h13 W13 A13 => ?_
   have A13l : oAr Z h13 b3 .long (oRl x4 (0 : Int64) y5 y6 y7) := by rw [← own_mt3 p4 nx]; exact A13
   refine oIinc C d28_122 rfl (z := (-1)) rfl (w := (x + (-1 : Int32))) rfl (Ls' := #[.val (.ref b1), .val (.int 4), .val (.int 1), .val (.int 3), .val (.int ((3 : Int32) * x2)), .val (.int ((0 : Int32) * x2)), .val (.int 0), .val (.int 3), .val (.int (x + (-1 : Int32))), .val (.long 0), .second]) rfl rfl ?_
   refine oGoto C d28_125 (q := 44) (by decide) (by decide) ?_
   exact ih t (Nat.lt_succ_self t) (h13, (x + (-1 : Int32)), true) ⟨(((oKe.refl h0 [b3] []).trans Kl (allS (Or.inl (List.mem_of_getElem? (i := 0) rfl)) all0) oA0).wrA W13 (Or.inl (List.mem_of_getElem? (i := 0) rfl))), A13l, own_nxs p4 nx⟩
set_option maxRecDepth 65536 in
set_option maxHeartbeats 40000000 in
theorem ac14_68 (l : Launch) (Z : State) (a0 : Array Value) (hw : oHw a0 Z) (h0 : Heap) (n0 : Nat) (Z0 : n0 ≤ h0.size) (b1 : Addr) (b2 : Addr) (x3 : Int32) (x4 : Int32) (x5 : Nat) (b6 : Addr) (b7 : Addr) (b8 : Addr) (b9 : Addr) (b10 : Addr) (b11 : Addr) (y12 : Int64) (b13 : Addr) (y14 : Int64) (b15 : Addr) (y16 : Int64) (b17 : Addr) (p1 : Exa Z h0 b1 sP) (p2 : Fld Z h0 b1 sP "span" "I" (.int 0)) (p3 : n0 ≤ b1) (p4 : ((((x3 - (1 : Int32)) + (64 : Int32)) - (1 : Int32)) / (64 : Int32)) = x4) (p5 : Fld Z h0 b1 sP "words" "I" (.int 0)) (p6 : Exa Z h0 b2 sA) (p7 : Fld Z h0 b2 sA "size" "I" (.int 4)) (p8 : b2 ≠ b1) (p9 : oKw x5 x4) (p10 : Fld Z h0 b1 sP "bits" "[J" (.null)) (p11 : Fld Z h0 b2 sA "elementData" sG (.ref b6)) (p12 : oArO Z h0 b6 sO [.ref b7, .ref b8, .ref b9, .ref b10, .null, .null, .null, .null, .null, .null]) (p13 : b6 ≠ b1) (p14 : Exa Z h0 b8 sF) (p15 : (fMin (x3 - (1 : Int32)) (1 : Int32)) = (1 : Int32)) (p16 : Fld Z h0 b8 sF "requestClass" sK (.ref b11)) (p17 : b8 ≠ b1) (p18 : Fld Z h0 b11 sR "conflicts" "J" (.long y12)) (p19 : b11 ≠ b1) (p20 : Exa Z h0 b9 sF) (p21 : (fMin (x3 - (1 : Int32)) (2 : Int32)) = (2 : Int32)) (p22 : Fld Z h0 b9 sF "requestClass" sK (.ref b13)) (p23 : b9 ≠ b1) (p24 : Fld Z h0 b13 sR "conflicts" "J" (.long y14)) (p25 : b13 ≠ b1) (p26 : Exa Z h0 b10 sF) (p27 : (fMin (x3 - (1 : Int32)) (3 : Int32)) = (3 : Int32)) (p28 : Fld Z h0 b10 sF "requestClass" sK (.ref b15)) (p29 : b10 ≠ b1) (p30 : Fld Z h0 b15 sR "conflicts" "J" (.long y16)) (p31 : b15 ≠ b1) (p32 : Exa Z h0 b7 sF) (p33 : Fld Z h0 b7 sF "requestClass" sK (.ref b17)) (p34 : Fld Z h0 b17 sR "declaration" sJ (.null)) (p35 : Fld Z h0 b15 sR "declaration" sJ (.null)) (p36 : Exa Z h0 b15 sR) (p37 : Fld Z h0 b10 sF "firstKey" "J" (.long (-9223372036854775808))) (p38 : Fld Z h0 b10 sF "lastKey" "J" (.long 9223372036854775807)) (p39 : Fld Z h0 b17 sR "bit" "J" (.long 1)) (p40 : Exa Z h0 b17 sR) (p41 : Fld Z h0 b7 sF "firstKey" "J" (.long (-9223372036854775808))) (p42 : Fld Z h0 b7 sF "lastKey" "J" (.long 9223372036854775807)) (p43 : b7 ≠ b1) (p44 : b17 ≠ b1) (p45 : Fld Z h0 b11 sR "declaration" sJ (.null)) (p46 : Fld Z h0 b11 sR "bit" "J" (.long 2)) (p47 : Exa Z h0 b11 sR) (p48 : Fld Z h0 b8 sF "firstKey" "J" (.long (-9223372036854775808))) (p49 : Fld Z h0 b8 sF "lastKey" "J" (.long 9223372036854775807)) (p50 : Fld Z h0 b13 sR "declaration" sJ (.null)) (p51 : Fld Z h0 b13 sR "bit" "J" (.long 4)) (p52 : Exa Z h0 b13 sR) (p53 : Fld Z h0 b9 sF "firstKey" "J" (.long (-9223372036854775808))) (p54 : Fld Z h0 b9 sF "lastKey" "J" (.long 9223372036854775807)) :
    oMet l Z (⟨sP, "<init>", "(Ljava/util/List;I)V"⟩ : MethodName) prog_13_method_1_code 8 none [] ({ frames := 3, cells := 1, slots := 16, locals := 55 } : Room) 1 16 n0 #[.ref b1, .ref b2, .int x3] h0 (fun v h => ∃ a9 : Addr, v = none ∧ oKe h0 h [] [(b1, Jvm.RoadKit.slotOf Z sP "span" "I"), (b1, Jvm.RoadKit.slotOf Z sP "words" "I"), (b1, Jvm.RoadKit.slotOf Z sP "bits" "[J")] ∧ h0.size ≤ a9 ∧ Fld Z h b1 sP "span" "I" (.int (x3 - (1 : Int32))) ∧ Fld Z h b1 sP "words" "I" (.int x4) ∧ oAr Z h a9 .long (oRl x5 (0 : Int64) (oUp0 (1 : Int64) (0 : Int64) y12 (1 : Int64)) (oUp0 (2 : Int64) (oUp (1 : Int64) ((1 : Int32) &&& 0x3f).toInt64 (0 : Int64) (oUp0 (1 : Int64) (0 : Int64) y12 (1 : Int64)) y14 (2 : Int64)) y14 (1 : Int64)) (oUp0 (4 : Int64) (oUp (2 : Int64) ((2 : Int32) &&& 0x3f).toInt64 (oUp (1 : Int64) ((1 : Int32) &&& 0x3f).toInt64 (0 : Int64) (oUp0 (2 : Int64) (oUp (1 : Int64) ((1 : Int32) &&& 0x3f).toInt64 (0 : Int64) (oUp0 (1 : Int64) (0 : Int64) y12 (1 : Int64)) y14 (2 : Int64)) y14 (1 : Int64)) y16 (4 : Int64)) (oUp0 (1 : Int64) (0 : Int64) y12 (1 : Int64)) y16 (2 : Int64)) y16 (1 : Int64))) ∧ Fld Z h b1 sP "bits" "[J" (.ref a9)) := by
  refine oMet.intro (plainFor_of_name pn_399007) (fun m => ef_14 m b1 b2 x3) ?_
  intro op oe os m obl omt ocd C
  refine oAloadN C d14_0 rfl rfl rfl ?_
  refine oInitO C (w122 hw) (w22 hw) (w23 hw) d14_1 rfl (W := 0) rfl rfl (by decide) (by decide) ?_
  refine oAloadN C d14_4 rfl rfl rfl ?_
  refine oIloadN C d14_5 rfl rfl ?_
  refine oIconst C d14_6 (z := 1) rfl rfl ?_
  refine oIsub C d14_7 rfl ?_
  refine oPutF C (w123 hw) Via.refl p2 p1 (Or.inr ⟨(w124 hw), rfl, rfl⟩) (w117 hw) (ty := .int) (by decide) rfl rfl d14_8 rfl p3 fun h1 W1 => ?_
  have f1w := Fld.same W1 p2
  refine oAloadN C d14_11 rfl rfl rfl ?_
  refine oAloadN C d14_12 rfl rfl rfl ?_
  refine oGetF C (w123 hw) Via.refl f1w d14_13 rfl ?_
  refine oBipush C d14_16 (z := 64) rfl rfl ?_
  refine oIadd C d14_18 rfl ?_
  refine oIconst C d14_19 (z := 1) rfl rfl ?_
  refine oIsub C d14_20 rfl ?_
  refine oBipush C d14_21 (z := 64) rfl rfl ?_
  refine oIdiv C d14_23 (by decide) rfl ?_
  refine oCastI (z' := x4) p4 ?_
  have f2 := (Exa.wr W1 p1)
  have f3 := (Fld.other W1 p5 (Or.inr (oSn3 hw 1 0)))
  refine oPutF C (w125 hw) Via.refl f3 f2 (Or.inr ⟨(w126 hw), rfl, rfl⟩) (w117 hw) (ty := .int) (by decide) rfl rfl d14_24 rfl p3 fun h4 W4 => ?_
  have f4w := Fld.same W4 f3
  refine oAloadN C d14_27 rfl rfl rfl ?_
  have f5 := (Exa.wr W4 (Exa.wr W1 p6))
  have f6 := (Fld.other W4 (Fld.other W1 p7 (Or.inl p8)) (Or.inl p8))
  have z8 := (Nat.le_trans (Nat.le_trans Z0 (Nat.le_of_eq W1.size.symm)) (Nat.le_of_eq W4.size.symm))
  refine oCallI C (w127 hw) (w128 hw) (w129 hw) (w130 hw) (w131 hw) (w132 hw) (w133 hw) (w88 hw) (w54 hw) (w134 hw) d14_28 f5 (by decide) pd_428473 rfl rfl (a := b2) (argsL := []) (rest := []) rfl (W := 0) rfl (q := 33) rfl (by decide) (by decide) (by decide) (by decide) (ac15_20 l Z a0 hw _ n0 z8 b2 f6) (oPureK ?_)
  refine oI2L C d14_33 rfl ?_
  refine oCastL (z' := (4 : Int64)) (by decide) ?_
  refine oAloadN C d14_34 rfl rfl rfl ?_
  refine oGetF C (w125 hw) Via.refl f4w d14_35 rfl ?_
  refine oI2L C d14_38 rfl ?_
  refine oLmul C d14_39 rfl ?_
  refine oLstoreN C d14_40 (Ls' := #[.val (.ref b1), .val (.ref b2), .val (.int x3), .val (.long ((4 : Int64) * (x4.toInt64))), .second, .unset, .unset, .unset]) rfl (q := 41) rfl ?_
  refine oLloadN C d14_41 rfl rfl ?_
  refine oLdc2 C (w135 hw) d14_42 rfl ?_
  refine oLcmp_le C d14_45 rfl d14_46 (q := 72) (by decide) (by decide) (r := 49) rfl (fun hc45 => ?_) (fun hq => absurd hq ((own_a0 p9)))
  refine oAloadN C d14_72 rfl rfl rfl ?_
  refine oLloadN C d14_73 rfl rfl ?_
  refine oL2I C d14_74 rfl ?_
  have hk4 := own_a3 p9
  refine oNewA C (w136 hw) rfl d14_75 rfl (own_a1 p9) (k := 4 * x5) (own_a2 p9) (by omega) (by decide) (cap := 16) (own_a3 p9) (by decide) (by decide) fun a9 h9 g_a9 E9 A9 => ?_
  have ge_a9 : n0 ≤ a9 := g_a9 ▸ z8
  have Arl : oAr Z h9 a9 .long (oRl x5 (0 : Int64) (0 : Int64) (0 : Int64) (0 : Int64)) := by rw [← own_a5 p9]; exact A9
  have f10 := (Exa.ext E9 (Exa.wr W4 f2))
  have f11 := (Fld.ext E9 (Fld.other W4 (Fld.other W1 p10 (Or.inr (oSn3 hw 2 0))) (Or.inr (oSn3 hw 2 1))))
  refine oPutF C (w137 hw) Via.refl f11 f10 (Or.inr ⟨(w138 hw), rfl, rfl⟩) (w117 hw) (ty := (.array .long)) (by decide) rfl rfl d14_77 rfl p3 fun h12 W12 => ?_
  have f12w := Fld.same W12 f11
  refine oIconst C d14_80 (z := 2) rfl rfl ?_
  refine oIstore C d14_81 (Ls' := #[.val (.ref b1), .val (.ref b2), .val (.int x3), .val (.long ((4 : Int64) * (x4.toInt64))), .second, .val (.int 2), .unset, .unset]) rfl (q := 83) rfl ?_
  refine oIload C d14_83 rfl rfl ?_
  refine oAloadN C d14_85 rfl rfl rfl ?_
  have f13 := (Exa.wr W12 (Exa.ext E9 f5))
  have f14 := (Fld.other W12 (Fld.ext E9 f6) (Or.inl p8))
  have z16 := (Nat.le_trans (Nat.le_trans z8 E9.1) (Nat.le_of_eq W12.size.symm))
  refine oCallI C (w127 hw) (w128 hw) (w129 hw) (w130 hw) (w131 hw) (w132 hw) (w133 hw) (w88 hw) (w54 hw) (w134 hw) d14_86 f13 (by decide) pd_428473 rfl rfl (a := b2) (argsL := []) (rest := [.int 2]) rfl (W := 1) rfl (q := 91) rfl (by decide) (by decide) (by decide) (by decide) (ac15_20 l Z a0 hw _ n0 z16 b2 f14) (oPureK ?_)
  refine oIcmp_gt C d14_91 (q := 189) (by decide) (by decide) (r := 94) rfl (fun hq => absurd hq ((by decide))) (fun hc91 => ?_)
  refine oAloadN C d14_94 rfl rfl rfl ?_
  refine oIload C d14_95 rfl rfl ?_
  refine oIconst C d14_97 (z := 1) rfl rfl ?_
  refine oIsub C d14_98 rfl ?_
  refine oCastI (z' := (1 : Int32)) (by decide) ?_
  have f17 := (Fld.other W12 (Fld.ext E9 (Fld.other W4 (Fld.other W1 p11 (Or.inl p8)) (Or.inl p8))) (Or.inl p8))
  have f18 := ((((p12.other W1 p13).other W4 p13).ext E9).other W12 p13)
  refine oCallI C (w139 hw) (w140 hw) (w141 hw) (w142 hw) (w143 hw) (w144 hw) (w145 hw) (w88 hw) (w54 hw) (w146 hw) d14_99 f13 (by decide) pd_666516 rfl rfl (a := b2) (argsL := [.int 1]) (rest := []) rfl (W := 0) rfl (q := 104) rfl (by decide) (by decide) (by decide) (by decide) (ac16_24 l Z a0 hw _ n0 z16 b2 b6 b7 b8 b9 b10 f14 f17 f18 f13) (oPureK ?_)
  have f20 := (Exa.wr W12 (Exa.ext E9 (Exa.wr W4 (Exa.wr W1 p14))))
  refine oCast C (w160 hw) (Ins.self f20) d14_104 rfl ?_
  refine oAstore C d14_107 rfl (Ls' := #[.val (.ref b1), .val (.ref b2), .val (.int x3), .val (.long ((4 : Int64) * (x4.toInt64))), .second, .val (.int 2), .val (.ref b8), .unset]) rfl (q := 109) rfl ?_
  refine oIconst C d14_109 (z := 1) rfl rfl ?_
  refine oIstore C d14_110 (Ls' := #[.val (.ref b1), .val (.ref b2), .val (.int x3), .val (.long ((4 : Int64) * (x4.toInt64))), .second, .val (.int 2), .val (.ref b8), .val (.int 1)]) rfl (q := 112) rfl ?_
  refine oIload C d14_112 rfl rfl ?_
  refine oAloadN C d14_114 rfl rfl rfl ?_
  have f21 := (Fld.other W12 (Fld.ext E9 (Fld.other W4 f1w (Or.inr (oSn3 hw 0 1)))) (Or.inr (oSn3 hw 0 2)))
  refine oGetF C (w123 hw) Via.refl f21 d14_115 rfl ?_
  refine oIload C d14_118 rfl rfl ?_
  refine oIconst C d14_120 (z := 1) rfl rfl ?_
  refine oIsub C d14_121 rfl ?_
  refine oCastI (z' := (1 : Int32)) (by decide) ?_
  refine oCallS C (w162 hw) (w163 hw) (w111 hw) (w164 hw) d14_122 (by decide) pd_947237 rfl rfl (argsL := [.int (x3 - (1 : Int32)), .int 1]) (rest := [.int 1]) rfl (W := 1) rfl (q := 125) rfl (by decide) (by decide) (by decide) (by decide) (mt_fMin l Z a0 hw _ n0 z16 (x3 - (1 : Int32)) (1 : Int32) ) (oPureK ?_)
  refine oCastI (z' := (1 : Int32)) p15 ?_
  refine oIcmp_gt C d14_125 (q := 183) (by decide) (by decide) (r := 128) rfl (fun hq => absurd hq ((by decide))) (fun hc125 => ?_)
  have f23 := (Fld.other W12 (Fld.ext E9 (Fld.other W4 (Fld.other W1 p16 (Or.inl p17)) (Or.inl p17))) (Or.inl p17))
  have f24 := (Fld.other W12 (Fld.ext E9 (Fld.other W4 (Fld.other W1 p18 (Or.inl p19)) (Or.inl p19))) (Or.inl p19))
  refine oJoin (α := Heap) (fun w => oKe h12 w [a9] [] ∧ oAr Z w a9 .long (oRl x5 (0 : Int64) (oUp0 (1 : Int64) (0 : Int64) y12 (1 : Int64)) (0 : Int64) (0 : Int64))) (fun w => w) (fun _ => (mkF m 177 #[.val (.ref b1), .val (.ref b2), .val (.int x3), .val (.long ((4 : Int64) * (x4.toInt64))), .second, .val (.int 2), .val (.ref b8), .val (.int 1)] [])) (k := 1) (n := 16) (fun hj25 PJ => ?_) (fun J177 => ?_)
  ·
   obtain ⟨Kj25, Aj25⟩ := PJ
   show oW _ _ _ _ _ _ _ _ _ _ _ _ _ _ _ (mkF m 177 #[.val (.ref b1), .val (.ref b2), .val (.int x3), .val (.long ((4 : Int64) * (x4.toInt64))), .second, .val (.int 2), .val (.ref b8), .val (.int 1)] [])
   refine oIinc C d14_177 rfl (z := 1) rfl (w := (2 : Int32)) (by decide) (Ls' := #[.val (.ref b1), .val (.ref b2), .val (.int x3), .val (.long ((4 : Int64) * (x4.toInt64))), .second, .val (.int 2), .val (.ref b8), .val (.int 2)]) rfl rfl ?_
   refine oGoto C d14_180 (q := 112) (by decide) (by decide) ?_
   refine oIload C d14_112 rfl rfl ?_
   refine oAloadN C d14_114 rfl rfl rfl ?_
   have ne26 : b1 ≠ a9 := oNe' f4w.lt (Nat.le_of_eq g_a9.symm)
   have f27 := (Kj25.fld f21 (ninS ne26 nin0) oN0)
   refine oGetF C (w123 hw) Via.refl f27 d14_115 rfl ?_
   refine oIload C d14_118 rfl rfl ?_
   refine oIconst C d14_120 (z := 1) rfl rfl ?_
   refine oIsub C d14_121 rfl ?_
   refine oCastI (z' := (1 : Int32)) (by decide) ?_
   have z28 := (Nat.le_trans z16 Kj25.1)
   refine oCallS C (w162 hw) (w163 hw) (w111 hw) (w164 hw) d14_122 (by decide) pd_947237 rfl rfl (argsL := [.int (x3 - (1 : Int32)), .int 1]) (rest := [.int 2]) rfl (W := 1) rfl (q := 125) rfl (by decide) (by decide) (by decide) (by decide) (mt_fMin l Z a0 hw _ n0 z28 (x3 - (1 : Int32)) (1 : Int32) ) (oPureK ?_)
   refine oCastI (z' := (1 : Int32)) p15 ?_
   refine oIcmp_gt C d14_125 (q := 183) (by decide) (by decide) (r := 128) rfl (fun hc125_1 => ?_) (fun hq => absurd hq ((by decide)))
   refine oIinc C d14_183 rfl (z := 1) rfl (w := (3 : Int32)) (by decide) (Ls' := #[.val (.ref b1), .val (.ref b2), .val (.int x3), .val (.long ((4 : Int64) * (x4.toInt64))), .second, .val (.int 3), .val (.ref b8), .val (.int 2)]) rfl rfl ?_
   refine oGoto C d14_186 (q := 83) (by decide) (by decide) ?_
   refine oIload C d14_83 rfl rfl ?_
   refine oAloadN C d14_85 rfl rfl rfl ?_
   have f30 := (Kj25.exa f13)
   have ne31 : b2 ≠ a9 := oNe' (Nat.lt_of_lt_of_le p6.lt (Nat.le_trans (Nat.le_of_eq W1.size.symm) (Nat.le_of_eq W4.size.symm))) (Nat.le_of_eq g_a9.symm)
   have f32 := (Kj25.fld f14 (ninS ne31 nin0) oN0)
   refine oCallI C (w127 hw) (w128 hw) (w129 hw) (w130 hw) (w131 hw) (w132 hw) (w133 hw) (w88 hw) (w54 hw) (w134 hw) d14_86 f30 (by decide) pd_428473 rfl rfl (a := b2) (argsL := []) (rest := [.int 3]) rfl (W := 1) rfl (q := 91) rfl (by decide) (by decide) (by decide) (by decide) (ac15_20 l Z a0 hw _ n0 z28 b2 f32) (oPureK ?_)
   refine oIcmp_gt C d14_91 (q := 189) (by decide) (by decide) (r := 94) rfl (fun hq => absurd hq ((by decide))) (fun hc91_1 => ?_)
   refine oAloadN C d14_94 rfl rfl rfl ?_
   refine oIload C d14_95 rfl rfl ?_
   refine oIconst C d14_97 (z := 1) rfl rfl ?_
   refine oIsub C d14_98 rfl ?_
   refine oCastI (z' := (2 : Int32)) (by decide) ?_
   have f34 := (Kj25.fld f17 (ninS ne31 nin0) oN0)
   have ne35 : b6 ≠ a9 := oNe' (Nat.lt_of_lt_of_le p12.lt (Nat.le_trans (Nat.le_of_eq W1.size.symm) (Nat.le_of_eq W4.size.symm))) (Nat.le_of_eq g_a9.symm)
   have f36 := (Kj25.arrO f18 (ninS ne35 nin0) oA0)
   refine oCallI C (w139 hw) (w140 hw) (w141 hw) (w142 hw) (w143 hw) (w144 hw) (w145 hw) (w88 hw) (w54 hw) (w146 hw) d14_99 f30 (by decide) pd_666516 rfl rfl (a := b2) (argsL := [.int 2]) (rest := []) rfl (W := 0) rfl (q := 104) rfl (by decide) (by decide) (by decide) (by decide) (ac16_28 l Z a0 hw _ n0 z28 b2 b6 b7 b8 b9 b10 f32 f34 f36 f30) (oPureK ?_)
   have f38 := (Kj25.exa (Exa.wr W12 (Exa.ext E9 (Exa.wr W4 (Exa.wr W1 p20)))))
   refine oCast C (w160 hw) (Ins.self f38) d14_104 rfl ?_
   refine oAstore C d14_107 rfl (Ls' := #[.val (.ref b1), .val (.ref b2), .val (.int x3), .val (.long ((4 : Int64) * (x4.toInt64))), .second, .val (.int 3), .val (.ref b9), .val (.int 2)]) rfl (q := 109) rfl ?_
   refine oIconst C d14_109 (z := 1) rfl rfl ?_
   refine oIstore C d14_110 (Ls' := #[.val (.ref b1), .val (.ref b2), .val (.int x3), .val (.long ((4 : Int64) * (x4.toInt64))), .second, .val (.int 3), .val (.ref b9), .val (.int 1)]) rfl (q := 112) rfl ?_
   refine oIload C d14_112 rfl rfl ?_
   refine oAloadN C d14_114 rfl rfl rfl ?_
   refine oGetF C (w123 hw) Via.refl f27 d14_115 rfl ?_
   refine oIload C d14_118 rfl rfl ?_
   refine oIconst C d14_120 (z := 1) rfl rfl ?_
   refine oIsub C d14_121 rfl ?_
   refine oCastI (z' := (2 : Int32)) (by decide) ?_
   refine oCallS C (w162 hw) (w163 hw) (w111 hw) (w164 hw) d14_122 (by decide) pd_947237 rfl rfl (argsL := [.int (x3 - (1 : Int32)), .int 2]) (rest := [.int 1]) rfl (W := 1) rfl (q := 125) rfl (by decide) (by decide) (by decide) (by decide) (mt_fMin l Z a0 hw _ n0 z28 (x3 - (1 : Int32)) (2 : Int32) ) (oPureK ?_)
   refine oCastI (z' := (2 : Int32)) p21 ?_
   refine oIcmp_gt C d14_125 (q := 183) (by decide) (by decide) (r := 128) rfl (fun hq => absurd hq ((by decide))) (fun hc125_2 => ?_)
   have f40 := (Kj25.fld f12w (ninS ne26 nin0) oN0)
   have ne41 : b9 ≠ a9 := oNe' (Nat.lt_of_lt_of_le p22.lt (Nat.le_trans (Nat.le_of_eq W1.size.symm) (Nat.le_of_eq W4.size.symm))) (Nat.le_of_eq g_a9.symm)
   have f42 := (Kj25.fld (Fld.other W12 (Fld.ext E9 (Fld.other W4 (Fld.other W1 p22 (Or.inl p23)) (Or.inl p23))) (Or.inl p23)) (ninS ne41 nin0) oN0)
   have ne43 : b13 ≠ a9 := oNe' (Nat.lt_of_lt_of_le p24.lt (Nat.le_trans (Nat.le_of_eq W1.size.symm) (Nat.le_of_eq W4.size.symm))) (Nat.le_of_eq g_a9.symm)
   have f44 := (Kj25.fld (Fld.other W12 (Fld.ext E9 (Fld.other W4 (Fld.other W1 p24 (Or.inl p25)) (Or.inl p25))) (Or.inl p25)) (ninS ne43 nin0) oN0)
   refine oJoin (α := Heap) (fun w => oKe hj25 w [a9] [] ∧ oAr Z w a9 .long (oRl x5 (0 : Int64) (oUp0 (1 : Int64) (0 : Int64) y12 (1 : Int64)) (oUp (1 : Int64) ((1 : Int32) &&& 0x3f).toInt64 (0 : Int64) (oUp0 (1 : Int64) (0 : Int64) y12 (1 : Int64)) y14 (2 : Int64)) (0 : Int64))) (fun w => w) (fun _ => (mkF m 177 #[.val (.ref b1), .val (.ref b2), .val (.int x3), .val (.long ((4 : Int64) * (x4.toInt64))), .second, .val (.int 3), .val (.ref b9), .val (.int 1)] [])) (k := 1) (n := 16) (fun hj45 PJ => ?_) (fun J177 => ?_)
   ·
    obtain ⟨Kj45, Aj45⟩ := PJ
    show oW _ _ _ _ _ _ _ _ _ _ _ _ _ _ _ (mkF m 177 #[.val (.ref b1), .val (.ref b2), .val (.int x3), .val (.long ((4 : Int64) * (x4.toInt64))), .second, .val (.int 3), .val (.ref b9), .val (.int 1)] [])
    refine oIinc C d14_177 rfl (z := 1) rfl (w := (2 : Int32)) (by decide) (Ls' := #[.val (.ref b1), .val (.ref b2), .val (.int x3), .val (.long ((4 : Int64) * (x4.toInt64))), .second, .val (.int 3), .val (.ref b9), .val (.int 2)]) rfl rfl ?_
    refine oGoto C d14_180 (q := 112) (by decide) (by decide) ?_
    refine oIload C d14_112 rfl rfl ?_
    refine oAloadN C d14_114 rfl rfl rfl ?_
    have f46 := (Kj45.fld f27 (ninS ne26 nin0) oN0)
    refine oGetF C (w123 hw) Via.refl f46 d14_115 rfl ?_
    refine oIload C d14_118 rfl rfl ?_
    refine oIconst C d14_120 (z := 1) rfl rfl ?_
    refine oIsub C d14_121 rfl ?_
    refine oCastI (z' := (2 : Int32)) (by decide) ?_
    have z47 := (Nat.le_trans z28 Kj45.1)
    refine oCallS C (w162 hw) (w163 hw) (w111 hw) (w164 hw) d14_122 (by decide) pd_947237 rfl rfl (argsL := [.int (x3 - (1 : Int32)), .int 2]) (rest := [.int 2]) rfl (W := 1) rfl (q := 125) rfl (by decide) (by decide) (by decide) (by decide) (mt_fMin l Z a0 hw _ n0 z47 (x3 - (1 : Int32)) (2 : Int32) ) (oPureK ?_)
    refine oCastI (z' := (2 : Int32)) p21 ?_
    refine oIcmp_gt C d14_125 (q := 183) (by decide) (by decide) (r := 128) rfl (fun hq => absurd hq ((by decide))) (fun hc125_3 => ?_)
    have f49 := (Kj45.fld f40 (ninS ne26 nin0) oN0)
    have f50 := (Kj45.fld f42 (ninS ne41 nin0) oN0)
    have f51 := (Kj45.fld f44 (ninS ne43 nin0) oN0)
    refine oJoin (α := Heap) (fun w => oKe hj45 w [a9] [] ∧ oAr Z w a9 .long (oRl x5 (0 : Int64) (oUp0 (1 : Int64) (0 : Int64) y12 (1 : Int64)) (oUp0 (2 : Int64) (oUp (1 : Int64) ((1 : Int32) &&& 0x3f).toInt64 (0 : Int64) (oUp0 (1 : Int64) (0 : Int64) y12 (1 : Int64)) y14 (2 : Int64)) y14 (1 : Int64)) (0 : Int64))) (fun w => w) (fun _ => (mkF m 177 #[.val (.ref b1), .val (.ref b2), .val (.int x3), .val (.long ((4 : Int64) * (x4.toInt64))), .second, .val (.int 3), .val (.ref b9), .val (.int 2)] [])) (k := 1) (n := 16) (fun hj52 PJ => ?_) (fun J177 => ?_)
    ·
     obtain ⟨Kj52, Aj52⟩ := PJ
     show oW _ _ _ _ _ _ _ _ _ _ _ _ _ _ _ (mkF m 177 #[.val (.ref b1), .val (.ref b2), .val (.int x3), .val (.long ((4 : Int64) * (x4.toInt64))), .second, .val (.int 3), .val (.ref b9), .val (.int 2)] [])
     refine oIinc C d14_177 rfl (z := 1) rfl (w := (3 : Int32)) (by decide) (Ls' := #[.val (.ref b1), .val (.ref b2), .val (.int x3), .val (.long ((4 : Int64) * (x4.toInt64))), .second, .val (.int 3), .val (.ref b9), .val (.int 3)]) rfl rfl ?_
     refine oGoto C d14_180 (q := 112) (by decide) (by decide) ?_
     refine oIload C d14_112 rfl rfl ?_
     refine oAloadN C d14_114 rfl rfl rfl ?_
     have f53 := (Kj52.fld f46 (ninS ne26 nin0) oN0)
     refine oGetF C (w123 hw) Via.refl f53 d14_115 rfl ?_
     refine oIload C d14_118 rfl rfl ?_
     refine oIconst C d14_120 (z := 1) rfl rfl ?_
     refine oIsub C d14_121 rfl ?_
     refine oCastI (z' := (2 : Int32)) (by decide) ?_
     have z54 := (Nat.le_trans z47 Kj52.1)
     refine oCallS C (w162 hw) (w163 hw) (w111 hw) (w164 hw) d14_122 (by decide) pd_947237 rfl rfl (argsL := [.int (x3 - (1 : Int32)), .int 2]) (rest := [.int 3]) rfl (W := 1) rfl (q := 125) rfl (by decide) (by decide) (by decide) (by decide) (mt_fMin l Z a0 hw _ n0 z54 (x3 - (1 : Int32)) (2 : Int32) ) (oPureK ?_)
     refine oCastI (z' := (2 : Int32)) p21 ?_
     refine oIcmp_gt C d14_125 (q := 183) (by decide) (by decide) (r := 128) rfl (fun hc125_4 => ?_) (fun hq => absurd hq ((by decide)))
     refine oIinc C d14_183 rfl (z := 1) rfl (w := (4 : Int32)) (by decide) (Ls' := #[.val (.ref b1), .val (.ref b2), .val (.int x3), .val (.long ((4 : Int64) * (x4.toInt64))), .second, .val (.int 4), .val (.ref b9), .val (.int 3)]) rfl rfl ?_
     refine oGoto C d14_186 (q := 83) (by decide) (by decide) ?_
     refine oIload C d14_83 rfl rfl ?_
     refine oAloadN C d14_85 rfl rfl rfl ?_
     have f56 := (Kj52.exa (Kj45.exa f30))
     have f57 := (Kj52.fld (Kj45.fld f32 (ninS ne31 nin0) oN0) (ninS ne31 nin0) oN0)
     refine oCallI C (w127 hw) (w128 hw) (w129 hw) (w130 hw) (w131 hw) (w132 hw) (w133 hw) (w88 hw) (w54 hw) (w134 hw) d14_86 f56 (by decide) pd_428473 rfl rfl (a := b2) (argsL := []) (rest := [.int 4]) rfl (W := 1) rfl (q := 91) rfl (by decide) (by decide) (by decide) (by decide) (ac15_20 l Z a0 hw _ n0 z54 b2 f57) (oPureK ?_)
     refine oIcmp_gt C d14_91 (q := 189) (by decide) (by decide) (r := 94) rfl (fun hq => absurd hq ((by decide))) (fun hc91_2 => ?_)
     refine oAloadN C d14_94 rfl rfl rfl ?_
     refine oIload C d14_95 rfl rfl ?_
     refine oIconst C d14_97 (z := 1) rfl rfl ?_
     refine oIsub C d14_98 rfl ?_
     refine oCastI (z' := (3 : Int32)) (by decide) ?_
     have f59 := (Kj52.fld (Kj45.fld f34 (ninS ne31 nin0) oN0) (ninS ne31 nin0) oN0)
     have f60 := (Kj52.arrO (Kj45.arrO f36 (ninS ne35 nin0) oA0) (ninS ne35 nin0) oA0)
     refine oCallI C (w139 hw) (w140 hw) (w141 hw) (w142 hw) (w143 hw) (w144 hw) (w145 hw) (w88 hw) (w54 hw) (w146 hw) d14_99 f56 (by decide) pd_666516 rfl rfl (a := b2) (argsL := [.int 3]) (rest := []) rfl (W := 0) rfl (q := 104) rfl (by decide) (by decide) (by decide) (by decide) (ac16_32 l Z a0 hw _ n0 z54 b2 b6 b7 b8 b9 b10 f57 f59 f60 f56) (oPureK ?_)
     have f62 := (Kj52.exa (Kj45.exa (Kj25.exa (Exa.wr W12 (Exa.ext E9 (Exa.wr W4 (Exa.wr W1 p26)))))))
     refine oCast C (w160 hw) (Ins.self f62) d14_104 rfl ?_
     refine oAstore C d14_107 rfl (Ls' := #[.val (.ref b1), .val (.ref b2), .val (.int x3), .val (.long ((4 : Int64) * (x4.toInt64))), .second, .val (.int 4), .val (.ref b10), .val (.int 3)]) rfl (q := 109) rfl ?_
     refine oIconst C d14_109 (z := 1) rfl rfl ?_
     refine oIstore C d14_110 (Ls' := #[.val (.ref b1), .val (.ref b2), .val (.int x3), .val (.long ((4 : Int64) * (x4.toInt64))), .second, .val (.int 4), .val (.ref b10), .val (.int 1)]) rfl (q := 112) rfl ?_
     refine oIload C d14_112 rfl rfl ?_
     refine oAloadN C d14_114 rfl rfl rfl ?_
     refine oGetF C (w123 hw) Via.refl f53 d14_115 rfl ?_
     refine oIload C d14_118 rfl rfl ?_
     refine oIconst C d14_120 (z := 1) rfl rfl ?_
     refine oIsub C d14_121 rfl ?_
     refine oCastI (z' := (3 : Int32)) (by decide) ?_
     refine oCallS C (w162 hw) (w163 hw) (w111 hw) (w164 hw) d14_122 (by decide) pd_947237 rfl rfl (argsL := [.int (x3 - (1 : Int32)), .int 3]) (rest := [.int 1]) rfl (W := 1) rfl (q := 125) rfl (by decide) (by decide) (by decide) (by decide) (mt_fMin l Z a0 hw _ n0 z54 (x3 - (1 : Int32)) (3 : Int32) ) (oPureK ?_)
     refine oCastI (z' := (3 : Int32)) p27 ?_
     refine oIcmp_gt C d14_125 (q := 183) (by decide) (by decide) (r := 128) rfl (fun hq => absurd hq ((by decide))) (fun hc125_5 => ?_)
     have f64 := (Kj52.fld f49 (ninS ne26 nin0) oN0)
     have ne65 : b10 ≠ a9 := oNe' (Nat.lt_of_lt_of_le p28.lt (Nat.le_trans (Nat.le_of_eq W1.size.symm) (Nat.le_of_eq W4.size.symm))) (Nat.le_of_eq g_a9.symm)
     have f66 := (Kj52.fld (Kj45.fld (Kj25.fld (Fld.other W12 (Fld.ext E9 (Fld.other W4 (Fld.other W1 p28 (Or.inl p29)) (Or.inl p29))) (Or.inl p29)) (ninS ne65 nin0) oN0) (ninS ne65 nin0) oN0) (ninS ne65 nin0) oN0)
     have ne67 : b15 ≠ a9 := oNe' (Nat.lt_of_lt_of_le p30.lt (Nat.le_trans (Nat.le_of_eq W1.size.symm) (Nat.le_of_eq W4.size.symm))) (Nat.le_of_eq g_a9.symm)
     have f68 := (Kj52.fld (Kj45.fld (Kj25.fld (Fld.other W12 (Fld.ext E9 (Fld.other W4 (Fld.other W1 p30 (Or.inl p31)) (Or.inl p31))) (Or.inl p31)) (ninS ne67 nin0) oN0) (ninS ne67 nin0) oN0) (ninS ne67 nin0) oN0)
     refine oJoin (α := Heap) (fun w => oKe hj52 w [a9] [] ∧ oAr Z w a9 .long (oRl x5 (0 : Int64) (oUp0 (1 : Int64) (0 : Int64) y12 (1 : Int64)) (oUp0 (2 : Int64) (oUp (1 : Int64) ((1 : Int32) &&& 0x3f).toInt64 (0 : Int64) (oUp0 (1 : Int64) (0 : Int64) y12 (1 : Int64)) y14 (2 : Int64)) y14 (1 : Int64)) (oUp (1 : Int64) ((1 : Int32) &&& 0x3f).toInt64 (0 : Int64) (oUp0 (2 : Int64) (oUp (1 : Int64) ((1 : Int32) &&& 0x3f).toInt64 (0 : Int64) (oUp0 (1 : Int64) (0 : Int64) y12 (1 : Int64)) y14 (2 : Int64)) y14 (1 : Int64)) y16 (4 : Int64)))) (fun w => w) (fun _ => (mkF m 177 #[.val (.ref b1), .val (.ref b2), .val (.int x3), .val (.long ((4 : Int64) * (x4.toInt64))), .second, .val (.int 4), .val (.ref b10), .val (.int 1)] [])) (k := 1) (n := 16) (fun hj69 PJ => ?_) (fun J177 => ?_)
     ·
      obtain ⟨Kj69, Aj69⟩ := PJ
      show oW _ _ _ _ _ _ _ _ _ _ _ _ _ _ _ (mkF m 177 #[.val (.ref b1), .val (.ref b2), .val (.int x3), .val (.long ((4 : Int64) * (x4.toInt64))), .second, .val (.int 4), .val (.ref b10), .val (.int 1)] [])
      refine oIinc C d14_177 rfl (z := 1) rfl (w := (2 : Int32)) (by decide) (Ls' := #[.val (.ref b1), .val (.ref b2), .val (.int x3), .val (.long ((4 : Int64) * (x4.toInt64))), .second, .val (.int 4), .val (.ref b10), .val (.int 2)]) rfl rfl ?_
      refine oGoto C d14_180 (q := 112) (by decide) (by decide) ?_
      refine oIload C d14_112 rfl rfl ?_
      refine oAloadN C d14_114 rfl rfl rfl ?_
      have f70 := (Kj69.fld f53 (ninS ne26 nin0) oN0)
      refine oGetF C (w123 hw) Via.refl f70 d14_115 rfl ?_
      refine oIload C d14_118 rfl rfl ?_
      refine oIconst C d14_120 (z := 1) rfl rfl ?_
      refine oIsub C d14_121 rfl ?_
      refine oCastI (z' := (3 : Int32)) (by decide) ?_
      have z71 := (Nat.le_trans z54 Kj69.1)
      refine oCallS C (w162 hw) (w163 hw) (w111 hw) (w164 hw) d14_122 (by decide) pd_947237 rfl rfl (argsL := [.int (x3 - (1 : Int32)), .int 3]) (rest := [.int 2]) rfl (W := 1) rfl (q := 125) rfl (by decide) (by decide) (by decide) (by decide) (mt_fMin l Z a0 hw _ n0 z71 (x3 - (1 : Int32)) (3 : Int32) ) (oPureK ?_)
      refine oCastI (z' := (3 : Int32)) p27 ?_
      refine oIcmp_gt C d14_125 (q := 183) (by decide) (by decide) (r := 128) rfl (fun hq => absurd hq ((by decide))) (fun hc125_6 => ?_)
      have f73 := (Kj69.fld f64 (ninS ne26 nin0) oN0)
      have f74 := (Kj69.fld f66 (ninS ne65 nin0) oN0)
      have f75 := (Kj69.fld f68 (ninS ne67 nin0) oN0)
      refine oJoin (α := Heap) (fun w => oKe hj69 w [a9] [] ∧ oAr Z w a9 .long (oRl x5 (0 : Int64) (oUp0 (1 : Int64) (0 : Int64) y12 (1 : Int64)) (oUp0 (2 : Int64) (oUp (1 : Int64) ((1 : Int32) &&& 0x3f).toInt64 (0 : Int64) (oUp0 (1 : Int64) (0 : Int64) y12 (1 : Int64)) y14 (2 : Int64)) y14 (1 : Int64)) (oUp (2 : Int64) ((2 : Int32) &&& 0x3f).toInt64 (oUp (1 : Int64) ((1 : Int32) &&& 0x3f).toInt64 (0 : Int64) (oUp0 (2 : Int64) (oUp (1 : Int64) ((1 : Int32) &&& 0x3f).toInt64 (0 : Int64) (oUp0 (1 : Int64) (0 : Int64) y12 (1 : Int64)) y14 (2 : Int64)) y14 (1 : Int64)) y16 (4 : Int64)) (oUp0 (1 : Int64) (0 : Int64) y12 (1 : Int64)) y16 (2 : Int64)))) (fun w => w) (fun _ => (mkF m 177 #[.val (.ref b1), .val (.ref b2), .val (.int x3), .val (.long ((4 : Int64) * (x4.toInt64))), .second, .val (.int 4), .val (.ref b10), .val (.int 2)] [])) (k := 1) (n := 16) (fun hj76 PJ => ?_) (fun J177 => ?_)
      ·
       obtain ⟨Kj76, Aj76⟩ := PJ
       show oW _ _ _ _ _ _ _ _ _ _ _ _ _ _ _ (mkF m 177 #[.val (.ref b1), .val (.ref b2), .val (.int x3), .val (.long ((4 : Int64) * (x4.toInt64))), .second, .val (.int 4), .val (.ref b10), .val (.int 2)] [])
       refine oIinc C d14_177 rfl (z := 1) rfl (w := (3 : Int32)) (by decide) (Ls' := #[.val (.ref b1), .val (.ref b2), .val (.int x3), .val (.long ((4 : Int64) * (x4.toInt64))), .second, .val (.int 4), .val (.ref b10), .val (.int 3)]) rfl rfl ?_
       refine oGoto C d14_180 (q := 112) (by decide) (by decide) ?_
       refine oIload C d14_112 rfl rfl ?_
       refine oAloadN C d14_114 rfl rfl rfl ?_
       have f77 := (Kj76.fld f70 (ninS ne26 nin0) oN0)
       refine oGetF C (w123 hw) Via.refl f77 d14_115 rfl ?_
       refine oIload C d14_118 rfl rfl ?_
       refine oIconst C d14_120 (z := 1) rfl rfl ?_
       refine oIsub C d14_121 rfl ?_
       refine oCastI (z' := (3 : Int32)) (by decide) ?_
       have z78 := (Nat.le_trans z71 Kj76.1)
       refine oCallS C (w162 hw) (w163 hw) (w111 hw) (w164 hw) d14_122 (by decide) pd_947237 rfl rfl (argsL := [.int (x3 - (1 : Int32)), .int 3]) (rest := [.int 3]) rfl (W := 1) rfl (q := 125) rfl (by decide) (by decide) (by decide) (by decide) (mt_fMin l Z a0 hw _ n0 z78 (x3 - (1 : Int32)) (3 : Int32) ) (oPureK ?_)
       refine oCastI (z' := (3 : Int32)) p27 ?_
       refine oIcmp_gt C d14_125 (q := 183) (by decide) (by decide) (r := 128) rfl (fun hq => absurd hq ((by decide))) (fun hc125_7 => ?_)
       have f80 := (Kj76.fld f73 (ninS ne26 nin0) oN0)
       have f81 := (Kj76.fld f74 (ninS ne65 nin0) oN0)
       have f82 := (Kj76.fld f75 (ninS ne67 nin0) oN0)
       refine oJoin (α := Heap) (fun w => oKe hj76 w [a9] [] ∧ oAr Z w a9 .long (oRl x5 (0 : Int64) (oUp0 (1 : Int64) (0 : Int64) y12 (1 : Int64)) (oUp0 (2 : Int64) (oUp (1 : Int64) ((1 : Int32) &&& 0x3f).toInt64 (0 : Int64) (oUp0 (1 : Int64) (0 : Int64) y12 (1 : Int64)) y14 (2 : Int64)) y14 (1 : Int64)) (oUp0 (4 : Int64) (oUp (2 : Int64) ((2 : Int32) &&& 0x3f).toInt64 (oUp (1 : Int64) ((1 : Int32) &&& 0x3f).toInt64 (0 : Int64) (oUp0 (2 : Int64) (oUp (1 : Int64) ((1 : Int32) &&& 0x3f).toInt64 (0 : Int64) (oUp0 (1 : Int64) (0 : Int64) y12 (1 : Int64)) y14 (2 : Int64)) y14 (1 : Int64)) y16 (4 : Int64)) (oUp0 (1 : Int64) (0 : Int64) y12 (1 : Int64)) y16 (2 : Int64)) y16 (1 : Int64)))) (fun w => w) (fun _ => (mkF m 177 #[.val (.ref b1), .val (.ref b2), .val (.int x3), .val (.long ((4 : Int64) * (x4.toInt64))), .second, .val (.int 4), .val (.ref b10), .val (.int 3)] [])) (k := 1) (n := 16) (fun hj83 PJ => ?_) (fun J177 => ?_)
       ·
        obtain ⟨Kj83, Aj83⟩ := PJ
        show oW _ _ _ _ _ _ _ _ _ _ _ _ _ _ _ (mkF m 177 #[.val (.ref b1), .val (.ref b2), .val (.int x3), .val (.long ((4 : Int64) * (x4.toInt64))), .second, .val (.int 4), .val (.ref b10), .val (.int 3)] [])
        refine oIinc C d14_177 rfl (z := 1) rfl (w := (4 : Int32)) (by decide) (Ls' := #[.val (.ref b1), .val (.ref b2), .val (.int x3), .val (.long ((4 : Int64) * (x4.toInt64))), .second, .val (.int 4), .val (.ref b10), .val (.int 4)]) rfl rfl ?_
        refine oGoto C d14_180 (q := 112) (by decide) (by decide) ?_
        refine oIload C d14_112 rfl rfl ?_
        refine oAloadN C d14_114 rfl rfl rfl ?_
        have f84 := (Kj83.fld f77 (ninS ne26 nin0) oN0)
        refine oGetF C (w123 hw) Via.refl f84 d14_115 rfl ?_
        refine oIload C d14_118 rfl rfl ?_
        refine oIconst C d14_120 (z := 1) rfl rfl ?_
        refine oIsub C d14_121 rfl ?_
        refine oCastI (z' := (3 : Int32)) (by decide) ?_
        have z85 := (Nat.le_trans z78 Kj83.1)
        refine oCallS C (w162 hw) (w163 hw) (w111 hw) (w164 hw) d14_122 (by decide) pd_947237 rfl rfl (argsL := [.int (x3 - (1 : Int32)), .int 3]) (rest := [.int 4]) rfl (W := 1) rfl (q := 125) rfl (by decide) (by decide) (by decide) (by decide) (mt_fMin l Z a0 hw _ n0 z85 (x3 - (1 : Int32)) (3 : Int32) ) (oPureK ?_)
        refine oCastI (z' := (3 : Int32)) p27 ?_
        refine oIcmp_gt C d14_125 (q := 183) (by decide) (by decide) (r := 128) rfl (fun hc125_8 => ?_) (fun hq => absurd hq ((by decide)))
        refine oIinc C d14_183 rfl (z := 1) rfl (w := (5 : Int32)) (by decide) (Ls' := #[.val (.ref b1), .val (.ref b2), .val (.int x3), .val (.long ((4 : Int64) * (x4.toInt64))), .second, .val (.int 5), .val (.ref b10), .val (.int 4)]) rfl rfl ?_
        refine oGoto C d14_186 (q := 83) (by decide) (by decide) ?_
        refine oIload C d14_83 rfl rfl ?_
        refine oAloadN C d14_85 rfl rfl rfl ?_
        have f87 := (Kj83.exa (Kj76.exa (Kj69.exa f56)))
        have f88 := (Kj83.fld (Kj76.fld (Kj69.fld f57 (ninS ne31 nin0) oN0) (ninS ne31 nin0) oN0) (ninS ne31 nin0) oN0)
        refine oCallI C (w127 hw) (w128 hw) (w129 hw) (w130 hw) (w131 hw) (w132 hw) (w133 hw) (w88 hw) (w54 hw) (w134 hw) d14_86 f87 (by decide) pd_428473 rfl rfl (a := b2) (argsL := []) (rest := [.int 5]) rfl (W := 1) rfl (q := 91) rfl (by decide) (by decide) (by decide) (by decide) (ac15_20 l Z a0 hw _ n0 z85 b2 f88) (oPureK ?_)
        refine oIcmp_gt C d14_91 (q := 189) (by decide) (by decide) (r := 94) rfl (fun hc91_3 => ?_) (fun hq => absurd hq ((by decide)))
        refine oRetV C d14_189 (by decide) (by decide) ?_
        have f90 := (Kj83.fld (Kj76.fld (Kj69.fld (Kj52.fld (Kj45.fld (Kj25.fld (Fld.other W12 (Fld.ext E9 f4w) (Or.inr (oSn3 hw 1 2))) (ninS ne26 nin0) oN0) (ninS ne26 nin0) oN0) (ninS ne26 nin0) oN0) (ninS ne26 nin0) oN0) (ninS ne26 nin0) oN0) (ninS ne26 nin0) oN0)
        have f91 := (Kj83.fld f80 (ninS ne26 nin0) oN0)
        exact ⟨_, rfl, (((((((((((oKe.refl h0 [] [(b1, Jvm.RoadKit.slotOf Z sP "span" "I"), (b1, Jvm.RoadKit.slotOf Z sP "words" "I"), (b1, Jvm.RoadKit.slotOf Z sP "bits" "[J")]).wrF W1 (Or.inl (List.mem_of_getElem? (i := 0) rfl))).wrF W4 (Or.inl (List.mem_of_getElem? (i := 1) rfl))).ext E9).wrF W12 (Or.inl (List.mem_of_getElem? (i := 2) rfl))).trans Kj25 (allS (Or.inr (Nat.le_trans (((oKe.refl h0 [] [(b1, Jvm.RoadKit.slotOf Z sP "span" "I"), (b1, Jvm.RoadKit.slotOf Z sP "words" "I"), (b1, Jvm.RoadKit.slotOf Z sP "bits" "[J")]).wrF W1 (Or.inl (List.mem_of_getElem? (i := 0) rfl))).wrF W4 (Or.inl (List.mem_of_getElem? (i := 1) rfl))).1 (Nat.le_of_eq g_a9.symm))) all0) oA0).trans Kj45 (allS (Or.inr (Nat.le_trans (((oKe.refl h0 [] [(b1, Jvm.RoadKit.slotOf Z sP "span" "I"), (b1, Jvm.RoadKit.slotOf Z sP "words" "I"), (b1, Jvm.RoadKit.slotOf Z sP "bits" "[J")]).wrF W1 (Or.inl (List.mem_of_getElem? (i := 0) rfl))).wrF W4 (Or.inl (List.mem_of_getElem? (i := 1) rfl))).1 (Nat.le_of_eq g_a9.symm))) all0) oA0).trans Kj52 (allS (Or.inr (Nat.le_trans (((oKe.refl h0 [] [(b1, Jvm.RoadKit.slotOf Z sP "span" "I"), (b1, Jvm.RoadKit.slotOf Z sP "words" "I"), (b1, Jvm.RoadKit.slotOf Z sP "bits" "[J")]).wrF W1 (Or.inl (List.mem_of_getElem? (i := 0) rfl))).wrF W4 (Or.inl (List.mem_of_getElem? (i := 1) rfl))).1 (Nat.le_of_eq g_a9.symm))) all0) oA0).trans Kj69 (allS (Or.inr (Nat.le_trans (((oKe.refl h0 [] [(b1, Jvm.RoadKit.slotOf Z sP "span" "I"), (b1, Jvm.RoadKit.slotOf Z sP "words" "I"), (b1, Jvm.RoadKit.slotOf Z sP "bits" "[J")]).wrF W1 (Or.inl (List.mem_of_getElem? (i := 0) rfl))).wrF W4 (Or.inl (List.mem_of_getElem? (i := 1) rfl))).1 (Nat.le_of_eq g_a9.symm))) all0) oA0).trans Kj76 (allS (Or.inr (Nat.le_trans (((oKe.refl h0 [] [(b1, Jvm.RoadKit.slotOf Z sP "span" "I"), (b1, Jvm.RoadKit.slotOf Z sP "words" "I"), (b1, Jvm.RoadKit.slotOf Z sP "bits" "[J")]).wrF W1 (Or.inl (List.mem_of_getElem? (i := 0) rfl))).wrF W4 (Or.inl (List.mem_of_getElem? (i := 1) rfl))).1 (Nat.le_of_eq g_a9.symm))) all0) oA0).trans Kj83 (allS (Or.inr (Nat.le_trans (((oKe.refl h0 [] [(b1, Jvm.RoadKit.slotOf Z sP "span" "I"), (b1, Jvm.RoadKit.slotOf Z sP "words" "I"), (b1, Jvm.RoadKit.slotOf Z sP "bits" "[J")]).wrF W1 (Or.inl (List.mem_of_getElem? (i := 0) rfl))).wrF W4 (Or.inl (List.mem_of_getElem? (i := 1) rfl))).1 (Nat.le_of_eq g_a9.symm))) all0) oA0), (Nat.le_trans (((oKe.refl h0 [] [(b1, Jvm.RoadKit.slotOf Z sP "span" "I"), (b1, Jvm.RoadKit.slotOf Z sP "words" "I"), (b1, Jvm.RoadKit.slotOf Z sP "bits" "[J")]).wrF W1 (Or.inl (List.mem_of_getElem? (i := 0) rfl))).wrF W4 (Or.inl (List.mem_of_getElem? (i := 1) rfl))).1 (Nat.le_of_eq g_a9.symm)), f84, f90, Aj83, f91⟩
       ·
        refine oAloadN C d14_128 rfl rfl rfl ?_
        refine oIload C d14_129 rfl rfl ?_
        refine oIload C d14_131 rfl rfl ?_
        refine oIload C d14_133 rfl rfl ?_
        refine oIsub C d14_135 rfl ?_
        refine oCastI (z' := (1 : Int32)) (by decide) ?_
        have f92 := (Kj76.fld (Kj69.fld (Kj52.fld (Kj45.fld (Kj25.fld (Fld.other W12 (Fld.ext E9 f4w) (Or.inr (oSn3 hw 1 2))) (ninS ne26 nin0) oN0) (ninS ne26 nin0) oN0) (ninS ne26 nin0) oN0) (ninS ne26 nin0) oN0) (ninS ne26 nin0) oN0)
        have f94 := (Kj76.exa (Kj69.exa (Kj52.exa (Kj45.exa (Kj25.exa (Exa.wr W12 f10))))))
        refine oCallV C (w166 hw) (w167 hw) (w169 hw) (w168 hw) (w118 hw) (w170 hw) d14_136 f94 (by decide) pd_947254 rfl rfl (a := b1) (argsL := [.int 4, .int 1]) (rest := []) rfl (W := 0) rfl (q := 139) rfl (by decide) (by decide) (by decide) (by decide) (ac21_66 l Z a0 hw _ n0 z78 b1 a9 x4 x5 (oUp0 (1 : Int64) (0 : Int64) y12 (1 : Int64)) (oUp0 (2 : Int64) (oUp (1 : Int64) ((1 : Int32) &&& 0x3f).toInt64 (0 : Int64) (oUp0 (1 : Int64) (0 : Int64) y12 (1 : Int64)) y14 (2 : Int64)) y14 (1 : Int64)) (oUp (2 : Int64) ((2 : Int32) &&& 0x3f).toInt64 (oUp (1 : Int64) ((1 : Int32) &&& 0x3f).toInt64 (0 : Int64) (oUp0 (2 : Int64) (oUp (1 : Int64) ((1 : Int32) &&& 0x3f).toInt64 (0 : Int64) (oUp0 (1 : Int64) (0 : Int64) y12 (1 : Int64)) y14 (2 : Int64)) y14 (1 : Int64)) y16 (4 : Int64)) (oUp0 (1 : Int64) (0 : Int64) y12 (1 : Int64)) y16 (2 : Int64)) f80 f92 Aj76 p9) (oPureK ?_)
        refine oIf_ne C d14_139 (q := 177) (by decide) (by decide) (r := 142) rfl (fun hc139 => ?_) (fun hc139 => ?_)
        ·
         exact J177 _ ⟨(oKe.refl hj76 [a9] []), by rw [show (oUp0 (4 : Int64) (oUp (2 : Int64) ((2 : Int32) &&& 0x3f).toInt64 (oUp (1 : Int64) ((1 : Int32) &&& 0x3f).toInt64 (0 : Int64) (oUp0 (2 : Int64) (oUp (1 : Int64) ((1 : Int32) &&& 0x3f).toInt64 (0 : Int64) (oUp0 (1 : Int64) (0 : Int64) y12 (1 : Int64)) y14 (2 : Int64)) y14 (1 : Int64)) y16 (4 : Int64)) (oUp0 (1 : Int64) (0 : Int64) y12 (1 : Int64)) y16 (2 : Int64)) y16 (1 : Int64)) = (oUp (2 : Int64) ((2 : Int32) &&& 0x3f).toInt64 (oUp (1 : Int64) ((1 : Int32) &&& 0x3f).toInt64 (0 : Int64) (oUp0 (2 : Int64) (oUp (1 : Int64) ((1 : Int32) &&& 0x3f).toInt64 (0 : Int64) (oUp0 (1 : Int64) (0 : Int64) y12 (1 : Int64)) y14 (2 : Int64)) y14 (1 : Int64)) y16 (4 : Int64)) (oUp0 (1 : Int64) (0 : Int64) y12 (1 : Int64)) y16 (2 : Int64)) from oUp0_a (by have q := hc139; rw [ft21_8_def, own_z] at q; exact q)]; exact Aj76⟩
        ·
         refine oAload C d14_142 rfl rfl rfl ?_
         refine oAloadN C d14_144 rfl rfl rfl ?_
         refine oIload C d14_145 rfl rfl ?_
         refine oIload C d14_147 rfl rfl ?_
         refine oIsub C d14_149 rfl ?_
         refine oCastI (z' := (1 : Int32)) (by decide) ?_
         refine oIconst C d14_150 (z := 1) rfl rfl ?_
         refine oIsub C d14_151 rfl ?_
         refine oCastI (z' := (0 : Int32)) (by decide) ?_
         have f95 := (Kj76.exa (Kj69.exa f56))
         have f96 := (Kj76.fld (Kj69.fld f57 (ninS ne31 nin0) oN0) (ninS ne31 nin0) oN0)
         have f97 := (Kj76.fld (Kj69.fld f59 (ninS ne31 nin0) oN0) (ninS ne31 nin0) oN0)
         have f98 := (Kj76.arrO (Kj69.arrO f60 (ninS ne35 nin0) oA0) (ninS ne35 nin0) oA0)
         refine oCallI C (w139 hw) (w140 hw) (w141 hw) (w142 hw) (w143 hw) (w144 hw) (w145 hw) (w88 hw) (w54 hw) (w146 hw) d14_152 f95 (by decide) pd_666516 rfl rfl (a := b2) (argsL := [.int 0]) (rest := [.ref b10]) rfl (W := 1) rfl (q := 157) rfl (by decide) (by decide) (by decide) (by decide) (ac16_51 l Z a0 hw _ n0 z78 b2 b6 b7 b8 b9 b10 f96 f97 f98 f95) (oPureK ?_)
         have f100 := (Kj76.exa (Kj69.exa (Kj52.exa (Kj45.exa (Kj25.exa (Exa.wr W12 (Exa.ext E9 (Exa.wr W4 (Exa.wr W1 p32)))))))))
         refine oCast C (w160 hw) (Ins.self f100) d14_157 rfl ?_
         have ne101 : b7 ≠ a9 := oNe' (Nat.lt_of_lt_of_le p33.lt (Nat.le_trans (Nat.le_of_eq W1.size.symm) (Nat.le_of_eq W4.size.symm))) (Nat.le_of_eq g_a9.symm)
         have f102 := (Kj76.fld (Kj69.fld (Kj52.fld (Kj45.fld (Kj25.fld (Fld.other W12 (Fld.ext E9 (Fld.other W4 (Fld.other W1 p33 (Or.inl p43)) (Or.inl p43))) (Or.inl p43)) (ninS ne101 nin0) oN0) (ninS ne101 nin0) oN0) (ninS ne101 nin0) oN0) (ninS ne101 nin0) oN0) (ninS ne101 nin0) oN0)
         have ne103 : b17 ≠ a9 := oNe' (Nat.lt_of_lt_of_le p34.lt (Nat.le_trans (Nat.le_of_eq W1.size.symm) (Nat.le_of_eq W4.size.symm))) (Nat.le_of_eq g_a9.symm)
         have f104 := (Kj76.fld (Kj69.fld (Kj52.fld (Kj45.fld (Kj25.fld (Fld.other W12 (Fld.ext E9 (Fld.other W4 (Fld.other W1 p34 (Or.inl p44)) (Or.inl p44))) (Or.inl p44)) (ninS ne103 nin0) oN0) (ninS ne103 nin0) oN0) (ninS ne103 nin0) oN0) (ninS ne103 nin0) oN0) (ninS ne103 nin0) oN0)
         have f105 := (Kj76.fld (Kj69.fld (Kj52.fld (Kj45.fld (Kj25.fld (Fld.other W12 (Fld.ext E9 (Fld.other W4 (Fld.other W1 p35 (Or.inl p31)) (Or.inl p31))) (Or.inl p31)) (ninS ne67 nin0) oN0) (ninS ne67 nin0) oN0) (ninS ne67 nin0) oN0) (ninS ne67 nin0) oN0) (ninS ne67 nin0) oN0)
         have f106 := (Kj76.exa (Kj69.exa (Kj52.exa (Kj45.exa (Kj25.exa (Exa.wr W12 (Exa.ext E9 (Exa.wr W4 (Exa.wr W1 p36)))))))))
         have f107 := (Kj76.fld (Kj69.fld (Kj52.fld (Kj45.fld (Kj25.fld (Fld.other W12 (Fld.ext E9 (Fld.other W4 (Fld.other W1 p37 (Or.inl p29)) (Or.inl p29))) (Or.inl p29)) (ninS ne65 nin0) oN0) (ninS ne65 nin0) oN0) (ninS ne65 nin0) oN0) (ninS ne65 nin0) oN0) (ninS ne65 nin0) oN0)
         have f108 := (Kj76.fld (Kj69.fld (Kj52.fld (Kj45.fld (Kj25.fld (Fld.other W12 (Fld.ext E9 (Fld.other W4 (Fld.other W1 p38 (Or.inl p29)) (Or.inl p29))) (Or.inl p29)) (ninS ne65 nin0) oN0) (ninS ne65 nin0) oN0) (ninS ne65 nin0) oN0) (ninS ne65 nin0) oN0) (ninS ne65 nin0) oN0)
         have f109 := (Kj76.fld (Kj69.fld (Kj52.fld (Kj45.fld (Kj25.fld (Fld.other W12 (Fld.ext E9 (Fld.other W4 (Fld.other W1 p39 (Or.inl p44)) (Or.inl p44))) (Or.inl p44)) (ninS ne103 nin0) oN0) (ninS ne103 nin0) oN0) (ninS ne103 nin0) oN0) (ninS ne103 nin0) oN0) (ninS ne103 nin0) oN0)
         have f110 := (Kj76.exa (Kj69.exa (Kj52.exa (Kj45.exa (Kj25.exa (Exa.wr W12 (Exa.ext E9 (Exa.wr W4 (Exa.wr W1 p40)))))))))
         have f111 := (Kj76.fld (Kj69.fld (Kj52.fld (Kj45.fld (Kj25.fld (Fld.other W12 (Fld.ext E9 (Fld.other W4 (Fld.other W1 p41 (Or.inl p43)) (Or.inl p43))) (Or.inl p43)) (ninS ne101 nin0) oN0) (ninS ne101 nin0) oN0) (ninS ne101 nin0) oN0) (ninS ne101 nin0) oN0) (ninS ne101 nin0) oN0)
         have f112 := (Kj76.fld (Kj69.fld (Kj52.fld (Kj45.fld (Kj25.fld (Fld.other W12 (Fld.ext E9 (Fld.other W4 (Fld.other W1 p42 (Or.inl p43)) (Or.inl p43))) (Or.inl p43)) (ninS ne101 nin0) oN0) (ninS ne101 nin0) oN0) (ninS ne101 nin0) oN0) (ninS ne101 nin0) oN0) (ninS ne101 nin0) oN0)
         have f114 := (Kj76.exa (Kj69.exa f62))
         refine oCallV C (w171 hw) (w172 hw) (w174 hw) (w173 hw) (w34 hw) (w175 hw) d14_160 f114 (by decide) pd_138820 rfl rfl (a := b10) (argsL := [.ref b7]) (rest := []) rfl (W := 0) rfl (q := 163) rfl (by decide) (by decide) (by decide) (by decide) (ac22_54 l Z a0 hw _ n0 z78 b10 b7 b15 b17 y16 f81 f102 f104 f105 f106 f82 f107 f108 f109 f110 f111 f112) (oPureK ?_)
         refine oIf_eq C d14_163 (q := 177) (by decide) (by decide) (r := 166) rfl (fun hc163 => ?_) (fun hc163 => ?_)
         ·
          exact J177 _ ⟨(oKe.refl hj76 [a9] []), by rw [show (oUp0 (4 : Int64) (oUp (2 : Int64) ((2 : Int32) &&& 0x3f).toInt64 (oUp (1 : Int64) ((1 : Int32) &&& 0x3f).toInt64 (0 : Int64) (oUp0 (2 : Int64) (oUp (1 : Int64) ((1 : Int32) &&& 0x3f).toInt64 (0 : Int64) (oUp0 (1 : Int64) (0 : Int64) y12 (1 : Int64)) y14 (2 : Int64)) y14 (1 : Int64)) y16 (4 : Int64)) (oUp0 (1 : Int64) (0 : Int64) y12 (1 : Int64)) y16 (2 : Int64)) y16 (1 : Int64)) = (oUp (2 : Int64) ((2 : Int32) &&& 0x3f).toInt64 (oUp (1 : Int64) ((1 : Int32) &&& 0x3f).toInt64 (0 : Int64) (oUp0 (2 : Int64) (oUp (1 : Int64) ((1 : Int32) &&& 0x3f).toInt64 (0 : Int64) (oUp0 (1 : Int64) (0 : Int64) y12 (1 : Int64)) y14 (2 : Int64)) y14 (1 : Int64)) y16 (4 : Int64)) (oUp0 (1 : Int64) (0 : Int64) y12 (1 : Int64)) y16 (2 : Int64)) from oUp0_b (by have q := hc139; rw [ft21_8_def, own_z] at q; exact q) (by have q := hc163; rw [ft26_2_def, own_z] at q; exact q)]; exact Aj76⟩
         ·
          refine oAloadN C d14_166 rfl rfl rfl ?_
          refine oIload C d14_167 rfl rfl ?_
          refine oIload C d14_169 rfl rfl ?_
          refine oIload C d14_171 rfl rfl ?_
          refine oIsub C d14_173 rfl ?_
          refine oCastI (z' := (1 : Int32)) (by decide) ?_
          refine oCallP C (w197 hw) (w199 hw) (w117 hw) (w198 hw) (w118 hw) (w200 hw) d14_174 f94 (by decide) pd_947250 rfl rfl (a := b1) (argsL := [.int 4, .int 1]) (rest := []) rfl (W := 0) rfl (q := 177) rfl (by decide) (by decide) (by decide) (by decide) (ac28_67 l Z a0 hw _ n0 z78 b1 x4 a9 x5 (oUp0 (1 : Int64) (0 : Int64) y12 (1 : Int64)) (oUp0 (2 : Int64) (oUp (1 : Int64) ((1 : Int32) &&& 0x3f).toInt64 (0 : Int64) (oUp0 (1 : Int64) (0 : Int64) y12 (1 : Int64)) y14 (2 : Int64)) y14 (1 : Int64)) (oUp (2 : Int64) ((2 : Int32) &&& 0x3f).toInt64 (oUp (1 : Int64) ((1 : Int32) &&& 0x3f).toInt64 (0 : Int64) (oUp0 (2 : Int64) (oUp (1 : Int64) ((1 : Int32) &&& 0x3f).toInt64 (0 : Int64) (oUp0 (1 : Int64) (0 : Int64) y12 (1 : Int64)) y14 (2 : Int64)) y14 (1 : Int64)) y16 (4 : Int64)) (oUp0 (1 : Int64) (0 : Int64) y12 (1 : Int64)) y16 (2 : Int64)) f92 f80 Aj76 p9 ne26 ge_a9) (oVQ ?_)
          rintro h115 ⟨K115, f115_0⟩
          exact J177 _ ⟨((oKe.refl hj76 [a9] []).trans K115 (allS (Or.inl (List.mem_of_getElem? (i := 0) rfl)) all0) oA0), by rw [show (oUp0 (4 : Int64) (oUp (2 : Int64) ((2 : Int32) &&& 0x3f).toInt64 (oUp (1 : Int64) ((1 : Int32) &&& 0x3f).toInt64 (0 : Int64) (oUp0 (2 : Int64) (oUp (1 : Int64) ((1 : Int32) &&& 0x3f).toInt64 (0 : Int64) (oUp0 (1 : Int64) (0 : Int64) y12 (1 : Int64)) y14 (2 : Int64)) y14 (1 : Int64)) y16 (4 : Int64)) (oUp0 (1 : Int64) (0 : Int64) y12 (1 : Int64)) y16 (2 : Int64)) y16 (1 : Int64)) = (((oUp (2 : Int64) ((2 : Int32) &&& 0x3f).toInt64 (oUp (1 : Int64) ((1 : Int32) &&& 0x3f).toInt64 (0 : Int64) (oUp0 (2 : Int64) (oUp (1 : Int64) ((1 : Int32) &&& 0x3f).toInt64 (0 : Int64) (oUp0 (1 : Int64) (0 : Int64) y12 (1 : Int64)) y14 (2 : Int64)) y14 (1 : Int64)) y16 (4 : Int64)) (oUp0 (1 : Int64) (0 : Int64) y12 (1 : Int64)) y16 (2 : Int64)) ||| (0 : Int64)) ||| (4 : Int64)) from oUp0_c (by have q := hc139; rw [ft21_8_def, own_z] at q; exact q) (by have q := hc163; rw [ft26_2_def, own_z] at q; exact q)]; exact f115_0⟩
      ·
       refine oAloadN C d14_128 rfl rfl rfl ?_
       refine oIload C d14_129 rfl rfl ?_
       refine oIload C d14_131 rfl rfl ?_
       refine oIload C d14_133 rfl rfl ?_
       refine oIsub C d14_135 rfl ?_
       refine oCastI (z' := (2 : Int32)) (by decide) ?_
       have f116 := (Kj69.fld (Kj52.fld (Kj45.fld (Kj25.fld (Fld.other W12 (Fld.ext E9 f4w) (Or.inr (oSn3 hw 1 2))) (ninS ne26 nin0) oN0) (ninS ne26 nin0) oN0) (ninS ne26 nin0) oN0) (ninS ne26 nin0) oN0)
       have f118 := (Kj69.exa (Kj52.exa (Kj45.exa (Kj25.exa (Exa.wr W12 f10)))))
       refine oCallV C (w166 hw) (w167 hw) (w169 hw) (w168 hw) (w118 hw) (w170 hw) d14_136 f118 (by decide) pd_947254 rfl rfl (a := b1) (argsL := [.int 4, .int 2]) (rest := []) rfl (W := 0) rfl (q := 139) rfl (by decide) (by decide) (by decide) (by decide) (ac21_60 l Z a0 hw _ n0 z71 b1 a9 x4 x5 (oUp0 (1 : Int64) (0 : Int64) y12 (1 : Int64)) (oUp0 (2 : Int64) (oUp (1 : Int64) ((1 : Int32) &&& 0x3f).toInt64 (0 : Int64) (oUp0 (1 : Int64) (0 : Int64) y12 (1 : Int64)) y14 (2 : Int64)) y14 (1 : Int64)) (oUp (1 : Int64) ((1 : Int32) &&& 0x3f).toInt64 (0 : Int64) (oUp0 (2 : Int64) (oUp (1 : Int64) ((1 : Int32) &&& 0x3f).toInt64 (0 : Int64) (oUp0 (1 : Int64) (0 : Int64) y12 (1 : Int64)) y14 (2 : Int64)) y14 (1 : Int64)) y16 (4 : Int64)) f73 f116 Aj69 p9) (oPureK ?_)
       refine oIf_ne C d14_139 (q := 177) (by decide) (by decide) (r := 142) rfl (fun hc139 => ?_) (fun hc139 => ?_)
       ·
        exact J177 _ ⟨(oKe.refl hj69 [a9] []), by rw [show (oUp (2 : Int64) ((2 : Int32) &&& 0x3f).toInt64 (oUp (1 : Int64) ((1 : Int32) &&& 0x3f).toInt64 (0 : Int64) (oUp0 (2 : Int64) (oUp (1 : Int64) ((1 : Int32) &&& 0x3f).toInt64 (0 : Int64) (oUp0 (1 : Int64) (0 : Int64) y12 (1 : Int64)) y14 (2 : Int64)) y14 (1 : Int64)) y16 (4 : Int64)) (oUp0 (1 : Int64) (0 : Int64) y12 (1 : Int64)) y16 (2 : Int64)) = (oUp (1 : Int64) ((1 : Int32) &&& 0x3f).toInt64 (0 : Int64) (oUp0 (2 : Int64) (oUp (1 : Int64) ((1 : Int32) &&& 0x3f).toInt64 (0 : Int64) (oUp0 (1 : Int64) (0 : Int64) y12 (1 : Int64)) y14 (2 : Int64)) y14 (1 : Int64)) y16 (4 : Int64)) from oUp_a (by have q := hc139; rw [ft21_6_def, own_z] at q; exact q)]; exact Aj69⟩
       ·
        refine oAload C d14_142 rfl rfl rfl ?_
        refine oAloadN C d14_144 rfl rfl rfl ?_
        refine oIload C d14_145 rfl rfl ?_
        refine oIload C d14_147 rfl rfl ?_
        refine oIsub C d14_149 rfl ?_
        refine oCastI (z' := (2 : Int32)) (by decide) ?_
        refine oIconst C d14_150 (z := 1) rfl rfl ?_
        refine oIsub C d14_151 rfl ?_
        refine oCastI (z' := (1 : Int32)) (by decide) ?_
        have f119 := (Kj69.exa f56)
        have f120 := (Kj69.fld f57 (ninS ne31 nin0) oN0)
        have f121 := (Kj69.fld f59 (ninS ne31 nin0) oN0)
        have f122 := (Kj69.arrO f60 (ninS ne35 nin0) oA0)
        refine oCallI C (w139 hw) (w140 hw) (w141 hw) (w142 hw) (w143 hw) (w144 hw) (w145 hw) (w88 hw) (w54 hw) (w146 hw) d14_152 f119 (by decide) pd_666516 rfl rfl (a := b2) (argsL := [.int 1]) (rest := [.ref b10]) rfl (W := 1) rfl (q := 157) rfl (by decide) (by decide) (by decide) (by decide) (ac16_24 l Z a0 hw _ n0 z71 b2 b6 b7 b8 b9 b10 f120 f121 f122 f119) (oPureK ?_)
        have f124 := (Kj69.exa (Kj52.exa (Kj45.exa (Kj25.exa f20))))
        refine oCast C (w160 hw) (Ins.self f124) d14_157 rfl ?_
        have ne125 : b8 ≠ a9 := oNe' (Nat.lt_of_lt_of_le p48.lt (Nat.le_trans (Nat.le_of_eq W1.size.symm) (Nat.le_of_eq W4.size.symm))) (Nat.le_of_eq g_a9.symm)
        have f126 := (Kj69.fld (Kj52.fld (Kj45.fld (Kj25.fld f23 (ninS ne125 nin0) oN0) (ninS ne125 nin0) oN0) (ninS ne125 nin0) oN0) (ninS ne125 nin0) oN0)
        have ne127 : b11 ≠ a9 := oNe' (Nat.lt_of_lt_of_le p45.lt (Nat.le_trans (Nat.le_of_eq W1.size.symm) (Nat.le_of_eq W4.size.symm))) (Nat.le_of_eq g_a9.symm)
        have f128 := (Kj69.fld (Kj52.fld (Kj45.fld (Kj25.fld (Fld.other W12 (Fld.ext E9 (Fld.other W4 (Fld.other W1 p45 (Or.inl p19)) (Or.inl p19))) (Or.inl p19)) (ninS ne127 nin0) oN0) (ninS ne127 nin0) oN0) (ninS ne127 nin0) oN0) (ninS ne127 nin0) oN0)
        have f129 := (Kj69.fld (Kj52.fld (Kj45.fld (Kj25.fld (Fld.other W12 (Fld.ext E9 (Fld.other W4 (Fld.other W1 p35 (Or.inl p31)) (Or.inl p31))) (Or.inl p31)) (ninS ne67 nin0) oN0) (ninS ne67 nin0) oN0) (ninS ne67 nin0) oN0) (ninS ne67 nin0) oN0)
        have f130 := (Kj69.exa (Kj52.exa (Kj45.exa (Kj25.exa (Exa.wr W12 (Exa.ext E9 (Exa.wr W4 (Exa.wr W1 p36))))))))
        have f131 := (Kj69.fld (Kj52.fld (Kj45.fld (Kj25.fld (Fld.other W12 (Fld.ext E9 (Fld.other W4 (Fld.other W1 p37 (Or.inl p29)) (Or.inl p29))) (Or.inl p29)) (ninS ne65 nin0) oN0) (ninS ne65 nin0) oN0) (ninS ne65 nin0) oN0) (ninS ne65 nin0) oN0)
        have f132 := (Kj69.fld (Kj52.fld (Kj45.fld (Kj25.fld (Fld.other W12 (Fld.ext E9 (Fld.other W4 (Fld.other W1 p38 (Or.inl p29)) (Or.inl p29))) (Or.inl p29)) (ninS ne65 nin0) oN0) (ninS ne65 nin0) oN0) (ninS ne65 nin0) oN0) (ninS ne65 nin0) oN0)
        have f133 := (Kj69.fld (Kj52.fld (Kj45.fld (Kj25.fld (Fld.other W12 (Fld.ext E9 (Fld.other W4 (Fld.other W1 p46 (Or.inl p19)) (Or.inl p19))) (Or.inl p19)) (ninS ne127 nin0) oN0) (ninS ne127 nin0) oN0) (ninS ne127 nin0) oN0) (ninS ne127 nin0) oN0)
        have f134 := (Kj69.exa (Kj52.exa (Kj45.exa (Kj25.exa (Exa.wr W12 (Exa.ext E9 (Exa.wr W4 (Exa.wr W1 p47))))))))
        have f135 := (Kj69.fld (Kj52.fld (Kj45.fld (Kj25.fld (Fld.other W12 (Fld.ext E9 (Fld.other W4 (Fld.other W1 p48 (Or.inl p17)) (Or.inl p17))) (Or.inl p17)) (ninS ne125 nin0) oN0) (ninS ne125 nin0) oN0) (ninS ne125 nin0) oN0) (ninS ne125 nin0) oN0)
        have f136 := (Kj69.fld (Kj52.fld (Kj45.fld (Kj25.fld (Fld.other W12 (Fld.ext E9 (Fld.other W4 (Fld.other W1 p49 (Or.inl p17)) (Or.inl p17))) (Or.inl p17)) (ninS ne125 nin0) oN0) (ninS ne125 nin0) oN0) (ninS ne125 nin0) oN0) (ninS ne125 nin0) oN0)
        have f138 := (Kj69.exa f62)
        refine oCallV C (w171 hw) (w172 hw) (w174 hw) (w173 hw) (w34 hw) (w175 hw) d14_160 f138 (by decide) pd_138820 rfl rfl (a := b10) (argsL := [.ref b8]) (rest := []) rfl (W := 0) rfl (q := 163) rfl (by decide) (by decide) (by decide) (by decide) (ac22_45 l Z a0 hw _ n0 z71 b10 b8 b15 b11 y16 f74 f126 f128 f129 f130 f75 f131 f132 f133 f134 f135 f136) (oPureK ?_)
        refine oIf_eq C d14_163 (q := 177) (by decide) (by decide) (r := 166) rfl (fun hc163 => ?_) (fun hc163 => ?_)
        ·
         exact J177 _ ⟨(oKe.refl hj69 [a9] []), by rw [show (oUp (2 : Int64) ((2 : Int32) &&& 0x3f).toInt64 (oUp (1 : Int64) ((1 : Int32) &&& 0x3f).toInt64 (0 : Int64) (oUp0 (2 : Int64) (oUp (1 : Int64) ((1 : Int32) &&& 0x3f).toInt64 (0 : Int64) (oUp0 (1 : Int64) (0 : Int64) y12 (1 : Int64)) y14 (2 : Int64)) y14 (1 : Int64)) y16 (4 : Int64)) (oUp0 (1 : Int64) (0 : Int64) y12 (1 : Int64)) y16 (2 : Int64)) = (oUp (1 : Int64) ((1 : Int32) &&& 0x3f).toInt64 (0 : Int64) (oUp0 (2 : Int64) (oUp (1 : Int64) ((1 : Int32) &&& 0x3f).toInt64 (0 : Int64) (oUp0 (1 : Int64) (0 : Int64) y12 (1 : Int64)) y14 (2 : Int64)) y14 (1 : Int64)) y16 (4 : Int64)) from oUp_b (by have q := hc139; rw [ft21_6_def, own_z] at q; exact q) (by have q := hc163; rw [ft26_1_def, own_z] at q; exact q)]; exact Aj69⟩
        ·
         refine oAloadN C d14_166 rfl rfl rfl ?_
         refine oIload C d14_167 rfl rfl ?_
         refine oIload C d14_169 rfl rfl ?_
         refine oIload C d14_171 rfl rfl ?_
         refine oIsub C d14_173 rfl ?_
         refine oCastI (z' := (2 : Int32)) (by decide) ?_
         refine oCallP C (w197 hw) (w199 hw) (w117 hw) (w198 hw) (w118 hw) (w200 hw) d14_174 f118 (by decide) pd_947250 rfl rfl (a := b1) (argsL := [.int 4, .int 2]) (rest := []) rfl (W := 0) rfl (q := 177) rfl (by decide) (by decide) (by decide) (by decide) (ac28_61 l Z a0 hw _ n0 z71 b1 x4 a9 x5 (oUp0 (1 : Int64) (0 : Int64) y12 (1 : Int64)) (oUp0 (2 : Int64) (oUp (1 : Int64) ((1 : Int32) &&& 0x3f).toInt64 (0 : Int64) (oUp0 (1 : Int64) (0 : Int64) y12 (1 : Int64)) y14 (2 : Int64)) y14 (1 : Int64)) (oUp (1 : Int64) ((1 : Int32) &&& 0x3f).toInt64 (0 : Int64) (oUp0 (2 : Int64) (oUp (1 : Int64) ((1 : Int32) &&& 0x3f).toInt64 (0 : Int64) (oUp0 (1 : Int64) (0 : Int64) y12 (1 : Int64)) y14 (2 : Int64)) y14 (1 : Int64)) y16 (4 : Int64)) f116 f73 Aj69 p9 ne26 ge_a9 (sh_2 y12)) (oVQ ?_)
         rintro h139 ⟨K139, f139_0⟩
         exact J177 _ ⟨((oKe.refl hj69 [a9] []).trans K139 (allS (Or.inl (List.mem_of_getElem? (i := 0) rfl)) all0) oA0), by rw [show (oUp (2 : Int64) ((2 : Int32) &&& 0x3f).toInt64 (oUp (1 : Int64) ((1 : Int32) &&& 0x3f).toInt64 (0 : Int64) (oUp0 (2 : Int64) (oUp (1 : Int64) ((1 : Int32) &&& 0x3f).toInt64 (0 : Int64) (oUp0 (1 : Int64) (0 : Int64) y12 (1 : Int64)) y14 (2 : Int64)) y14 (1 : Int64)) y16 (4 : Int64)) (oUp0 (1 : Int64) (0 : Int64) y12 (1 : Int64)) y16 (2 : Int64)) = (((oUp (1 : Int64) ((1 : Int32) &&& 0x3f).toInt64 (0 : Int64) (oUp0 (2 : Int64) (oUp (1 : Int64) ((1 : Int32) &&& 0x3f).toInt64 (0 : Int64) (oUp0 (1 : Int64) (0 : Int64) y12 (1 : Int64)) y14 (2 : Int64)) y14 (1 : Int64)) y16 (4 : Int64)) ||| ((oUp0 (1 : Int64) (0 : Int64) y12 (1 : Int64)) <<< ((2 : Int32) &&& 0x3f).toInt64)) ||| (2 : Int64)) from oUp_c (by have q := hc139; rw [ft21_6_def, own_z] at q; exact q) (by have q := hc163; rw [ft26_1_def, own_z] at q; exact q)]; exact f139_0⟩
     ·
      refine oAloadN C d14_128 rfl rfl rfl ?_
      refine oIload C d14_129 rfl rfl ?_
      refine oIload C d14_131 rfl rfl ?_
      refine oIload C d14_133 rfl rfl ?_
      refine oIsub C d14_135 rfl ?_
      refine oCastI (z' := (3 : Int32)) (by decide) ?_
      have f140 := (Kj52.fld (Kj45.fld (Kj25.fld (Fld.other W12 (Fld.ext E9 f4w) (Or.inr (oSn3 hw 1 2))) (ninS ne26 nin0) oN0) (ninS ne26 nin0) oN0) (ninS ne26 nin0) oN0)
      have f142 := (Kj52.exa (Kj45.exa (Kj25.exa (Exa.wr W12 f10))))
      refine oCallV C (w166 hw) (w167 hw) (w169 hw) (w168 hw) (w118 hw) (w170 hw) d14_136 f142 (by decide) pd_947254 rfl rfl (a := b1) (argsL := [.int 4, .int 3]) (rest := []) rfl (W := 0) rfl (q := 139) rfl (by decide) (by decide) (by decide) (by decide) (ac21_34 l Z a0 hw _ n0 z54 b1 a9 x4 x5 (oUp0 (1 : Int64) (0 : Int64) y12 (1 : Int64)) (oUp0 (2 : Int64) (oUp (1 : Int64) ((1 : Int32) &&& 0x3f).toInt64 (0 : Int64) (oUp0 (1 : Int64) (0 : Int64) y12 (1 : Int64)) y14 (2 : Int64)) y14 (1 : Int64)) f64 f140 Aj52 p9) (oPureK ?_)
      refine oIf_ne C d14_139 (q := 177) (by decide) (by decide) (r := 142) rfl (fun hq => absurd hq ((by decide))) (fun hc139 => ?_)
      refine oAload C d14_142 rfl rfl rfl ?_
      refine oAloadN C d14_144 rfl rfl rfl ?_
      refine oIload C d14_145 rfl rfl ?_
      refine oIload C d14_147 rfl rfl ?_
      refine oIsub C d14_149 rfl ?_
      refine oCastI (z' := (3 : Int32)) (by decide) ?_
      refine oIconst C d14_150 (z := 1) rfl rfl ?_
      refine oIsub C d14_151 rfl ?_
      refine oCastI (z' := (2 : Int32)) (by decide) ?_
      refine oCallI C (w139 hw) (w140 hw) (w141 hw) (w142 hw) (w143 hw) (w144 hw) (w145 hw) (w88 hw) (w54 hw) (w146 hw) d14_152 f56 (by decide) pd_666516 rfl rfl (a := b2) (argsL := [.int 2]) (rest := [.ref b10]) rfl (W := 1) rfl (q := 157) rfl (by decide) (by decide) (by decide) (by decide) (ac16_28 l Z a0 hw _ n0 z54 b2 b6 b7 b8 b9 b10 f57 f59 f60 f56) (oPureK ?_)
      have f144 := (Kj52.exa (Kj45.exa f38))
      refine oCast C (w160 hw) (Ins.self f144) d14_157 rfl ?_
      have f145 := (Kj52.fld f50 (ninS ne41 nin0) oN0)
      have f146 := (Kj52.fld (Kj45.fld (Kj25.fld (Fld.other W12 (Fld.ext E9 (Fld.other W4 (Fld.other W1 p50 (Or.inl p25)) (Or.inl p25))) (Or.inl p25)) (ninS ne43 nin0) oN0) (ninS ne43 nin0) oN0) (ninS ne43 nin0) oN0)
      have f147 := (Kj52.fld (Kj45.fld (Kj25.fld (Fld.other W12 (Fld.ext E9 (Fld.other W4 (Fld.other W1 p35 (Or.inl p31)) (Or.inl p31))) (Or.inl p31)) (ninS ne67 nin0) oN0) (ninS ne67 nin0) oN0) (ninS ne67 nin0) oN0)
      have f148 := (Kj52.exa (Kj45.exa (Kj25.exa (Exa.wr W12 (Exa.ext E9 (Exa.wr W4 (Exa.wr W1 p36)))))))
      have f149 := (Kj52.fld (Kj45.fld (Kj25.fld (Fld.other W12 (Fld.ext E9 (Fld.other W4 (Fld.other W1 p37 (Or.inl p29)) (Or.inl p29))) (Or.inl p29)) (ninS ne65 nin0) oN0) (ninS ne65 nin0) oN0) (ninS ne65 nin0) oN0)
      have f150 := (Kj52.fld (Kj45.fld (Kj25.fld (Fld.other W12 (Fld.ext E9 (Fld.other W4 (Fld.other W1 p38 (Or.inl p29)) (Or.inl p29))) (Or.inl p29)) (ninS ne65 nin0) oN0) (ninS ne65 nin0) oN0) (ninS ne65 nin0) oN0)
      have f151 := (Kj52.fld (Kj45.fld (Kj25.fld (Fld.other W12 (Fld.ext E9 (Fld.other W4 (Fld.other W1 p51 (Or.inl p25)) (Or.inl p25))) (Or.inl p25)) (ninS ne43 nin0) oN0) (ninS ne43 nin0) oN0) (ninS ne43 nin0) oN0)
      have f152 := (Kj52.exa (Kj45.exa (Kj25.exa (Exa.wr W12 (Exa.ext E9 (Exa.wr W4 (Exa.wr W1 p52)))))))
      have f153 := (Kj52.fld (Kj45.fld (Kj25.fld (Fld.other W12 (Fld.ext E9 (Fld.other W4 (Fld.other W1 p53 (Or.inl p23)) (Or.inl p23))) (Or.inl p23)) (ninS ne41 nin0) oN0) (ninS ne41 nin0) oN0) (ninS ne41 nin0) oN0)
      have f154 := (Kj52.fld (Kj45.fld (Kj25.fld (Fld.other W12 (Fld.ext E9 (Fld.other W4 (Fld.other W1 p54 (Or.inl p23)) (Or.inl p23))) (Or.inl p23)) (ninS ne41 nin0) oN0) (ninS ne41 nin0) oN0) (ninS ne41 nin0) oN0)
      refine oCallV C (w171 hw) (w172 hw) (w174 hw) (w173 hw) (w34 hw) (w175 hw) d14_160 f62 (by decide) pd_138820 rfl rfl (a := b10) (argsL := [.ref b9]) (rest := []) rfl (W := 0) rfl (q := 163) rfl (by decide) (by decide) (by decide) (by decide) (ac22_40 l Z a0 hw _ n0 z54 b10 b9 b15 b13 y16 f66 f145 f146 f147 f148 f68 f149 f150 f151 f152 f153 f154) (oPureK ?_)
      refine oIf_eq C d14_163 (q := 177) (by decide) (by decide) (r := 166) rfl (fun hc163 => ?_) (fun hc163 => ?_)
      ·
       exact J177 _ ⟨(oKe.refl hj52 [a9] []), by rw [show (oUp (1 : Int64) ((1 : Int32) &&& 0x3f).toInt64 (0 : Int64) (oUp0 (2 : Int64) (oUp (1 : Int64) ((1 : Int32) &&& 0x3f).toInt64 (0 : Int64) (oUp0 (1 : Int64) (0 : Int64) y12 (1 : Int64)) y14 (2 : Int64)) y14 (1 : Int64)) y16 (4 : Int64)) = (0 : Int64) from oUp_b (by decide) (by have q := hc163; rw [ft26_0_def, own_z] at q; exact q)]; exact Aj52⟩
      ·
       refine oAloadN C d14_166 rfl rfl rfl ?_
       refine oIload C d14_167 rfl rfl ?_
       refine oIload C d14_169 rfl rfl ?_
       refine oIload C d14_171 rfl rfl ?_
       refine oIsub C d14_173 rfl ?_
       refine oCastI (z' := (3 : Int32)) (by decide) ?_
       refine oCallP C (w197 hw) (w199 hw) (w117 hw) (w198 hw) (w118 hw) (w200 hw) d14_174 f142 (by decide) pd_947250 rfl rfl (a := b1) (argsL := [.int 4, .int 3]) (rest := []) rfl (W := 0) rfl (q := 177) rfl (by decide) (by decide) (by decide) (by decide) (ac28_41 l Z a0 hw _ n0 z54 b1 x4 a9 x5 (oUp0 (1 : Int64) (0 : Int64) y12 (1 : Int64)) (oUp0 (2 : Int64) (oUp (1 : Int64) ((1 : Int32) &&& 0x3f).toInt64 (0 : Int64) (oUp0 (1 : Int64) (0 : Int64) y12 (1 : Int64)) y14 (2 : Int64)) y14 (1 : Int64)) f140 f64 Aj52 p9 ne26 ge_a9 (sh_3 y12 y14)) (oVQ ?_)
       rintro h156 ⟨K156, f156_0⟩
       exact J177 _ ⟨((oKe.refl hj52 [a9] []).trans K156 (allS (Or.inl (List.mem_of_getElem? (i := 0) rfl)) all0) oA0), by rw [show (oUp (1 : Int64) ((1 : Int32) &&& 0x3f).toInt64 (0 : Int64) (oUp0 (2 : Int64) (oUp (1 : Int64) ((1 : Int32) &&& 0x3f).toInt64 (0 : Int64) (oUp0 (1 : Int64) (0 : Int64) y12 (1 : Int64)) y14 (2 : Int64)) y14 (1 : Int64)) y16 (4 : Int64)) = (((0 : Int64) ||| ((oUp0 (2 : Int64) (oUp (1 : Int64) ((1 : Int32) &&& 0x3f).toInt64 (0 : Int64) (oUp0 (1 : Int64) (0 : Int64) y12 (1 : Int64)) y14 (2 : Int64)) y14 (1 : Int64)) <<< ((1 : Int32) &&& 0x3f).toInt64)) ||| (1 : Int64)) from oUp_c (by decide) (by have q := hc163; rw [ft26_0_def, own_z] at q; exact q)]; exact f156_0⟩
    ·
     refine oAloadN C d14_128 rfl rfl rfl ?_
     refine oIload C d14_129 rfl rfl ?_
     refine oIload C d14_131 rfl rfl ?_
     refine oIload C d14_133 rfl rfl ?_
     refine oIsub C d14_135 rfl ?_
     refine oCastI (z' := (1 : Int32)) (by decide) ?_
     have f157 := (Kj45.fld (Kj25.fld (Fld.other W12 (Fld.ext E9 f4w) (Or.inr (oSn3 hw 1 2))) (ninS ne26 nin0) oN0) (ninS ne26 nin0) oN0)
     have f159 := (Kj45.exa (Kj25.exa (Exa.wr W12 f10)))
     refine oCallV C (w166 hw) (w167 hw) (w169 hw) (w168 hw) (w118 hw) (w170 hw) d14_136 f159 (by decide) pd_947254 rfl rfl (a := b1) (argsL := [.int 3, .int 1]) (rest := []) rfl (W := 0) rfl (q := 139) rfl (by decide) (by decide) (by decide) (by decide) (ac21_62 l Z a0 hw _ n0 z47 b1 a9 x4 x5 (oUp0 (1 : Int64) (0 : Int64) y12 (1 : Int64)) (oUp (1 : Int64) ((1 : Int32) &&& 0x3f).toInt64 (0 : Int64) (oUp0 (1 : Int64) (0 : Int64) y12 (1 : Int64)) y14 (2 : Int64)) f49 f157 Aj45 p9) (oPureK ?_)
     refine oIf_ne C d14_139 (q := 177) (by decide) (by decide) (r := 142) rfl (fun hc139 => ?_) (fun hc139 => ?_)
     ·
      exact J177 _ ⟨(oKe.refl hj45 [a9] []), by rw [show (oUp0 (2 : Int64) (oUp (1 : Int64) ((1 : Int32) &&& 0x3f).toInt64 (0 : Int64) (oUp0 (1 : Int64) (0 : Int64) y12 (1 : Int64)) y14 (2 : Int64)) y14 (1 : Int64)) = (oUp (1 : Int64) ((1 : Int32) &&& 0x3f).toInt64 (0 : Int64) (oUp0 (1 : Int64) (0 : Int64) y12 (1 : Int64)) y14 (2 : Int64)) from oUp0_a (by have q := hc139; rw [ft21_7_def, own_z] at q; exact q)]; exact Aj45⟩
     ·
      refine oAload C d14_142 rfl rfl rfl ?_
      refine oAloadN C d14_144 rfl rfl rfl ?_
      refine oIload C d14_145 rfl rfl ?_
      refine oIload C d14_147 rfl rfl ?_
      refine oIsub C d14_149 rfl ?_
      refine oCastI (z' := (1 : Int32)) (by decide) ?_
      refine oIconst C d14_150 (z := 1) rfl rfl ?_
      refine oIsub C d14_151 rfl ?_
      refine oCastI (z' := (0 : Int32)) (by decide) ?_
      have f160 := (Kj45.exa f30)
      have f161 := (Kj45.fld f32 (ninS ne31 nin0) oN0)
      have f162 := (Kj45.fld f34 (ninS ne31 nin0) oN0)
      have f163 := (Kj45.arrO f36 (ninS ne35 nin0) oA0)
      refine oCallI C (w139 hw) (w140 hw) (w141 hw) (w142 hw) (w143 hw) (w144 hw) (w145 hw) (w88 hw) (w54 hw) (w146 hw) d14_152 f160 (by decide) pd_666516 rfl rfl (a := b2) (argsL := [.int 0]) (rest := [.ref b9]) rfl (W := 1) rfl (q := 157) rfl (by decide) (by decide) (by decide) (by decide) (ac16_51 l Z a0 hw _ n0 z47 b2 b6 b7 b8 b9 b10 f161 f162 f163 f160) (oPureK ?_)
      have f165 := (Kj45.exa (Kj25.exa (Exa.wr W12 (Exa.ext E9 (Exa.wr W4 (Exa.wr W1 p32))))))
      refine oCast C (w160 hw) (Ins.self f165) d14_157 rfl ?_
      have ne166 : b7 ≠ a9 := oNe' (Nat.lt_of_lt_of_le p33.lt (Nat.le_trans (Nat.le_of_eq W1.size.symm) (Nat.le_of_eq W4.size.symm))) (Nat.le_of_eq g_a9.symm)
      have f167 := (Kj45.fld (Kj25.fld (Fld.other W12 (Fld.ext E9 (Fld.other W4 (Fld.other W1 p33 (Or.inl p43)) (Or.inl p43))) (Or.inl p43)) (ninS ne166 nin0) oN0) (ninS ne166 nin0) oN0)
      have ne168 : b17 ≠ a9 := oNe' (Nat.lt_of_lt_of_le p34.lt (Nat.le_trans (Nat.le_of_eq W1.size.symm) (Nat.le_of_eq W4.size.symm))) (Nat.le_of_eq g_a9.symm)
      have f169 := (Kj45.fld (Kj25.fld (Fld.other W12 (Fld.ext E9 (Fld.other W4 (Fld.other W1 p34 (Or.inl p44)) (Or.inl p44))) (Or.inl p44)) (ninS ne168 nin0) oN0) (ninS ne168 nin0) oN0)
      have f170 := (Kj45.fld (Kj25.fld (Fld.other W12 (Fld.ext E9 (Fld.other W4 (Fld.other W1 p50 (Or.inl p25)) (Or.inl p25))) (Or.inl p25)) (ninS ne43 nin0) oN0) (ninS ne43 nin0) oN0)
      have f171 := (Kj45.exa (Kj25.exa (Exa.wr W12 (Exa.ext E9 (Exa.wr W4 (Exa.wr W1 p52))))))
      have f172 := (Kj45.fld (Kj25.fld (Fld.other W12 (Fld.ext E9 (Fld.other W4 (Fld.other W1 p53 (Or.inl p23)) (Or.inl p23))) (Or.inl p23)) (ninS ne41 nin0) oN0) (ninS ne41 nin0) oN0)
      have f173 := (Kj45.fld (Kj25.fld (Fld.other W12 (Fld.ext E9 (Fld.other W4 (Fld.other W1 p54 (Or.inl p23)) (Or.inl p23))) (Or.inl p23)) (ninS ne41 nin0) oN0) (ninS ne41 nin0) oN0)
      have f174 := (Kj45.fld (Kj25.fld (Fld.other W12 (Fld.ext E9 (Fld.other W4 (Fld.other W1 p39 (Or.inl p44)) (Or.inl p44))) (Or.inl p44)) (ninS ne168 nin0) oN0) (ninS ne168 nin0) oN0)
      have f175 := (Kj45.exa (Kj25.exa (Exa.wr W12 (Exa.ext E9 (Exa.wr W4 (Exa.wr W1 p40))))))
      have f176 := (Kj45.fld (Kj25.fld (Fld.other W12 (Fld.ext E9 (Fld.other W4 (Fld.other W1 p41 (Or.inl p43)) (Or.inl p43))) (Or.inl p43)) (ninS ne166 nin0) oN0) (ninS ne166 nin0) oN0)
      have f177 := (Kj45.fld (Kj25.fld (Fld.other W12 (Fld.ext E9 (Fld.other W4 (Fld.other W1 p42 (Or.inl p43)) (Or.inl p43))) (Or.inl p43)) (ninS ne166 nin0) oN0) (ninS ne166 nin0) oN0)
      have f179 := (Kj45.exa f38)
      refine oCallV C (w171 hw) (w172 hw) (w174 hw) (w173 hw) (w34 hw) (w175 hw) d14_160 f179 (by decide) pd_138820 rfl rfl (a := b9) (argsL := [.ref b7]) (rest := []) rfl (W := 0) rfl (q := 163) rfl (by decide) (by decide) (by decide) (by decide) (ac22_54 l Z a0 hw _ n0 z47 b9 b7 b13 b17 y14 f50 f167 f169 f170 f171 f51 f172 f173 f174 f175 f176 f177) (oPureK ?_)
      refine oIf_eq C d14_163 (q := 177) (by decide) (by decide) (r := 166) rfl (fun hc163 => ?_) (fun hc163 => ?_)
      ·
       exact J177 _ ⟨(oKe.refl hj45 [a9] []), by rw [show (oUp0 (2 : Int64) (oUp (1 : Int64) ((1 : Int32) &&& 0x3f).toInt64 (0 : Int64) (oUp0 (1 : Int64) (0 : Int64) y12 (1 : Int64)) y14 (2 : Int64)) y14 (1 : Int64)) = (oUp (1 : Int64) ((1 : Int32) &&& 0x3f).toInt64 (0 : Int64) (oUp0 (1 : Int64) (0 : Int64) y12 (1 : Int64)) y14 (2 : Int64)) from oUp0_b (by have q := hc139; rw [ft21_7_def, own_z] at q; exact q) (by have q := hc163; rw [ft26_2_def, own_z] at q; exact q)]; exact Aj45⟩
      ·
       refine oAloadN C d14_166 rfl rfl rfl ?_
       refine oIload C d14_167 rfl rfl ?_
       refine oIload C d14_169 rfl rfl ?_
       refine oIload C d14_171 rfl rfl ?_
       refine oIsub C d14_173 rfl ?_
       refine oCastI (z' := (1 : Int32)) (by decide) ?_
       refine oCallP C (w197 hw) (w199 hw) (w117 hw) (w198 hw) (w118 hw) (w200 hw) d14_174 f159 (by decide) pd_947250 rfl rfl (a := b1) (argsL := [.int 3, .int 1]) (rest := []) rfl (W := 0) rfl (q := 177) rfl (by decide) (by decide) (by decide) (by decide) (ac28_63 l Z a0 hw _ n0 z47 b1 x4 a9 x5 (oUp0 (1 : Int64) (0 : Int64) y12 (1 : Int64)) (oUp (1 : Int64) ((1 : Int32) &&& 0x3f).toInt64 (0 : Int64) (oUp0 (1 : Int64) (0 : Int64) y12 (1 : Int64)) y14 (2 : Int64)) f157 f49 Aj45 p9 ne26 ge_a9) (oVQ ?_)
       rintro h180 ⟨K180, f180_0⟩
       exact J177 _ ⟨((oKe.refl hj45 [a9] []).trans K180 (allS (Or.inl (List.mem_of_getElem? (i := 0) rfl)) all0) oA0), by rw [show (oUp0 (2 : Int64) (oUp (1 : Int64) ((1 : Int32) &&& 0x3f).toInt64 (0 : Int64) (oUp0 (1 : Int64) (0 : Int64) y12 (1 : Int64)) y14 (2 : Int64)) y14 (1 : Int64)) = (((oUp (1 : Int64) ((1 : Int32) &&& 0x3f).toInt64 (0 : Int64) (oUp0 (1 : Int64) (0 : Int64) y12 (1 : Int64)) y14 (2 : Int64)) ||| (0 : Int64)) ||| (2 : Int64)) from oUp0_c (by have q := hc139; rw [ft21_7_def, own_z] at q; exact q) (by have q := hc163; rw [ft26_2_def, own_z] at q; exact q)]; exact f180_0⟩
   ·
    refine oAloadN C d14_128 rfl rfl rfl ?_
    refine oIload C d14_129 rfl rfl ?_
    refine oIload C d14_131 rfl rfl ?_
    refine oIload C d14_133 rfl rfl ?_
    refine oIsub C d14_135 rfl ?_
    refine oCastI (z' := (2 : Int32)) (by decide) ?_
    have f181 := (Kj25.fld (Fld.other W12 (Fld.ext E9 f4w) (Or.inr (oSn3 hw 1 2))) (ninS ne26 nin0) oN0)
    have f183 := (Kj25.exa (Exa.wr W12 f10))
    refine oCallV C (w166 hw) (w167 hw) (w169 hw) (w168 hw) (w118 hw) (w170 hw) d14_136 f183 (by decide) pd_947254 rfl rfl (a := b1) (argsL := [.int 3, .int 2]) (rest := []) rfl (W := 0) rfl (q := 139) rfl (by decide) (by decide) (by decide) (by decide) (ac21_42 l Z a0 hw _ n0 z28 b1 a9 x4 x5 (oUp0 (1 : Int64) (0 : Int64) y12 (1 : Int64)) f40 f181 Aj25 p9) (oPureK ?_)
    refine oIf_ne C d14_139 (q := 177) (by decide) (by decide) (r := 142) rfl (fun hq => absurd hq ((by decide))) (fun hc139 => ?_)
    refine oAload C d14_142 rfl rfl rfl ?_
    refine oAloadN C d14_144 rfl rfl rfl ?_
    refine oIload C d14_145 rfl rfl ?_
    refine oIload C d14_147 rfl rfl ?_
    refine oIsub C d14_149 rfl ?_
    refine oCastI (z' := (2 : Int32)) (by decide) ?_
    refine oIconst C d14_150 (z := 1) rfl rfl ?_
    refine oIsub C d14_151 rfl ?_
    refine oCastI (z' := (1 : Int32)) (by decide) ?_
    refine oCallI C (w139 hw) (w140 hw) (w141 hw) (w142 hw) (w143 hw) (w144 hw) (w145 hw) (w88 hw) (w54 hw) (w146 hw) d14_152 f30 (by decide) pd_666516 rfl rfl (a := b2) (argsL := [.int 1]) (rest := [.ref b9]) rfl (W := 1) rfl (q := 157) rfl (by decide) (by decide) (by decide) (by decide) (ac16_24 l Z a0 hw _ n0 z28 b2 b6 b7 b8 b9 b10 f32 f34 f36 f30) (oPureK ?_)
    have f185 := (Kj25.exa f20)
    refine oCast C (w160 hw) (Ins.self f185) d14_157 rfl ?_
    have ne186 : b8 ≠ a9 := oNe' (Nat.lt_of_lt_of_le p48.lt (Nat.le_trans (Nat.le_of_eq W1.size.symm) (Nat.le_of_eq W4.size.symm))) (Nat.le_of_eq g_a9.symm)
    have f187 := (Kj25.fld f23 (ninS ne186 nin0) oN0)
    have ne188 : b11 ≠ a9 := oNe' (Nat.lt_of_lt_of_le p45.lt (Nat.le_trans (Nat.le_of_eq W1.size.symm) (Nat.le_of_eq W4.size.symm))) (Nat.le_of_eq g_a9.symm)
    have f189 := (Kj25.fld (Fld.other W12 (Fld.ext E9 (Fld.other W4 (Fld.other W1 p45 (Or.inl p19)) (Or.inl p19))) (Or.inl p19)) (ninS ne188 nin0) oN0)
    have f190 := (Kj25.fld (Fld.other W12 (Fld.ext E9 (Fld.other W4 (Fld.other W1 p50 (Or.inl p25)) (Or.inl p25))) (Or.inl p25)) (ninS ne43 nin0) oN0)
    have f191 := (Kj25.exa (Exa.wr W12 (Exa.ext E9 (Exa.wr W4 (Exa.wr W1 p52)))))
    have f192 := (Kj25.fld (Fld.other W12 (Fld.ext E9 (Fld.other W4 (Fld.other W1 p53 (Or.inl p23)) (Or.inl p23))) (Or.inl p23)) (ninS ne41 nin0) oN0)
    have f193 := (Kj25.fld (Fld.other W12 (Fld.ext E9 (Fld.other W4 (Fld.other W1 p54 (Or.inl p23)) (Or.inl p23))) (Or.inl p23)) (ninS ne41 nin0) oN0)
    have f194 := (Kj25.fld (Fld.other W12 (Fld.ext E9 (Fld.other W4 (Fld.other W1 p46 (Or.inl p19)) (Or.inl p19))) (Or.inl p19)) (ninS ne188 nin0) oN0)
    have f195 := (Kj25.exa (Exa.wr W12 (Exa.ext E9 (Exa.wr W4 (Exa.wr W1 p47)))))
    have f196 := (Kj25.fld (Fld.other W12 (Fld.ext E9 (Fld.other W4 (Fld.other W1 p48 (Or.inl p17)) (Or.inl p17))) (Or.inl p17)) (ninS ne186 nin0) oN0)
    have f197 := (Kj25.fld (Fld.other W12 (Fld.ext E9 (Fld.other W4 (Fld.other W1 p49 (Or.inl p17)) (Or.inl p17))) (Or.inl p17)) (ninS ne186 nin0) oN0)
    refine oCallV C (w171 hw) (w172 hw) (w174 hw) (w173 hw) (w34 hw) (w175 hw) d14_160 f38 (by decide) pd_138820 rfl rfl (a := b9) (argsL := [.ref b8]) (rest := []) rfl (W := 0) rfl (q := 163) rfl (by decide) (by decide) (by decide) (by decide) (ac22_45 l Z a0 hw _ n0 z28 b9 b8 b13 b11 y14 f42 f187 f189 f190 f191 f44 f192 f193 f194 f195 f196 f197) (oPureK ?_)
    refine oIf_eq C d14_163 (q := 177) (by decide) (by decide) (r := 166) rfl (fun hc163 => ?_) (fun hc163 => ?_)
    ·
     exact J177 _ ⟨(oKe.refl hj25 [a9] []), by rw [show (oUp (1 : Int64) ((1 : Int32) &&& 0x3f).toInt64 (0 : Int64) (oUp0 (1 : Int64) (0 : Int64) y12 (1 : Int64)) y14 (2 : Int64)) = (0 : Int64) from oUp_b (by decide) (by have q := hc163; rw [ft26_1_def, own_z] at q; exact q)]; exact Aj25⟩
    ·
     refine oAloadN C d14_166 rfl rfl rfl ?_
     refine oIload C d14_167 rfl rfl ?_
     refine oIload C d14_169 rfl rfl ?_
     refine oIload C d14_171 rfl rfl ?_
     refine oIsub C d14_173 rfl ?_
     refine oCastI (z' := (2 : Int32)) (by decide) ?_
     refine oCallP C (w197 hw) (w199 hw) (w117 hw) (w198 hw) (w118 hw) (w200 hw) d14_174 f183 (by decide) pd_947250 rfl rfl (a := b1) (argsL := [.int 3, .int 2]) (rest := []) rfl (W := 0) rfl (q := 177) rfl (by decide) (by decide) (by decide) (by decide) (ac28_46 l Z a0 hw _ n0 z28 b1 x4 a9 x5 (oUp0 (1 : Int64) (0 : Int64) y12 (1 : Int64)) f181 f40 Aj25 p9 ne26 ge_a9 (sh_1 y12)) (oVQ ?_)
     rintro h199 ⟨K199, f199_0⟩
     exact J177 _ ⟨((oKe.refl hj25 [a9] []).trans K199 (allS (Or.inl (List.mem_of_getElem? (i := 0) rfl)) all0) oA0), by rw [show (oUp (1 : Int64) ((1 : Int32) &&& 0x3f).toInt64 (0 : Int64) (oUp0 (1 : Int64) (0 : Int64) y12 (1 : Int64)) y14 (2 : Int64)) = (((0 : Int64) ||| ((oUp0 (1 : Int64) (0 : Int64) y12 (1 : Int64)) <<< ((1 : Int32) &&& 0x3f).toInt64)) ||| (1 : Int64)) from oUp_c (by decide) (by have q := hc163; rw [ft26_1_def, own_z] at q; exact q)]; exact f199_0⟩
  ·
   refine oAloadN C d14_128 rfl rfl rfl ?_
   refine oIload C d14_129 rfl rfl ?_
   refine oIload C d14_131 rfl rfl ?_
   refine oIload C d14_133 rfl rfl ?_
   refine oIsub C d14_135 rfl ?_
   refine oCastI (z' := (1 : Int32)) (by decide) ?_
   have f200 := (Fld.other W12 (Fld.ext E9 f4w) (Or.inr (oSn3 hw 1 2)))
   have ne201 : b1 ≠ a9 := oNe' (Nat.lt_of_lt_of_le p1.lt (Nat.le_trans (Nat.le_of_eq W1.size.symm) (Nat.le_of_eq W4.size.symm))) (Nat.le_of_eq g_a9.symm)
   have f202 := (Arl.other W12 (Ne.symm ne201))
   have f204 := (Exa.wr W12 f10)
   refine oCallV C (w166 hw) (w167 hw) (w169 hw) (w168 hw) (w118 hw) (w170 hw) d14_136 f204 (by decide) pd_947254 rfl rfl (a := b1) (argsL := [.int 2, .int 1]) (rest := []) rfl (W := 0) rfl (q := 139) rfl (by decide) (by decide) (by decide) (by decide) (ac21_47 l Z a0 hw _ n0 z16 b1 a9 x4 x5 f12w f200 f202 p9) (oPureK ?_)
   refine oIf_ne C d14_139 (q := 177) (by decide) (by decide) (r := 142) rfl (fun hq => absurd hq ((by decide))) (fun hc139 => ?_)
   refine oAload C d14_142 rfl rfl rfl ?_
   refine oAloadN C d14_144 rfl rfl rfl ?_
   refine oIload C d14_145 rfl rfl ?_
   refine oIload C d14_147 rfl rfl ?_
   refine oIsub C d14_149 rfl ?_
   refine oCastI (z' := (1 : Int32)) (by decide) ?_
   refine oIconst C d14_150 (z := 1) rfl rfl ?_
   refine oIsub C d14_151 rfl ?_
   refine oCastI (z' := (0 : Int32)) (by decide) ?_
   refine oCallI C (w139 hw) (w140 hw) (w141 hw) (w142 hw) (w143 hw) (w144 hw) (w145 hw) (w88 hw) (w54 hw) (w146 hw) d14_152 f13 (by decide) pd_666516 rfl rfl (a := b2) (argsL := [.int 0]) (rest := [.ref b8]) rfl (W := 1) rfl (q := 157) rfl (by decide) (by decide) (by decide) (by decide) (ac16_51 l Z a0 hw _ n0 z16 b2 b6 b7 b8 b9 b10 f14 f17 f18 f13) (oPureK ?_)
   have f206 := (Exa.wr W12 (Exa.ext E9 (Exa.wr W4 (Exa.wr W1 p32))))
   refine oCast C (w160 hw) (Ins.self f206) d14_157 rfl ?_
   have f207 := (Fld.other W12 (Fld.ext E9 (Fld.other W4 (Fld.other W1 p33 (Or.inl p43)) (Or.inl p43))) (Or.inl p43))
   have f208 := (Fld.other W12 (Fld.ext E9 (Fld.other W4 (Fld.other W1 p34 (Or.inl p44)) (Or.inl p44))) (Or.inl p44))
   have f209 := (Fld.other W12 (Fld.ext E9 (Fld.other W4 (Fld.other W1 p45 (Or.inl p19)) (Or.inl p19))) (Or.inl p19))
   have f210 := (Exa.wr W12 (Exa.ext E9 (Exa.wr W4 (Exa.wr W1 p47))))
   have f211 := (Fld.other W12 (Fld.ext E9 (Fld.other W4 (Fld.other W1 p48 (Or.inl p17)) (Or.inl p17))) (Or.inl p17))
   have f212 := (Fld.other W12 (Fld.ext E9 (Fld.other W4 (Fld.other W1 p49 (Or.inl p17)) (Or.inl p17))) (Or.inl p17))
   have f213 := (Fld.other W12 (Fld.ext E9 (Fld.other W4 (Fld.other W1 p39 (Or.inl p44)) (Or.inl p44))) (Or.inl p44))
   have f214 := (Exa.wr W12 (Exa.ext E9 (Exa.wr W4 (Exa.wr W1 p40))))
   have f215 := (Fld.other W12 (Fld.ext E9 (Fld.other W4 (Fld.other W1 p41 (Or.inl p43)) (Or.inl p43))) (Or.inl p43))
   have f216 := (Fld.other W12 (Fld.ext E9 (Fld.other W4 (Fld.other W1 p42 (Or.inl p43)) (Or.inl p43))) (Or.inl p43))
   refine oCallV C (w171 hw) (w172 hw) (w174 hw) (w173 hw) (w34 hw) (w175 hw) d14_160 f20 (by decide) pd_138820 rfl rfl (a := b8) (argsL := [.ref b7]) (rest := []) rfl (W := 0) rfl (q := 163) rfl (by decide) (by decide) (by decide) (by decide) (ac22_54 l Z a0 hw _ n0 z16 b8 b7 b11 b17 y12 f23 f207 f208 f209 f210 f24 f211 f212 f213 f214 f215 f216) (oPureK ?_)
   refine oIf_eq C d14_163 (q := 177) (by decide) (by decide) (r := 166) rfl (fun hc163 => ?_) (fun hc163 => ?_)
   ·
    exact J177 _ ⟨(oKe.refl h12 [a9] []), by rw [show (oUp0 (1 : Int64) (0 : Int64) y12 (1 : Int64)) = (0 : Int64) from oUp0_b (by decide) (by have q := hc163; rw [ft26_2_def, own_z] at q; exact q)]; exact f202⟩
   ·
    refine oAloadN C d14_166 rfl rfl rfl ?_
    refine oIload C d14_167 rfl rfl ?_
    refine oIload C d14_169 rfl rfl ?_
    refine oIload C d14_171 rfl rfl ?_
    refine oIsub C d14_173 rfl ?_
    refine oCastI (z' := (1 : Int32)) (by decide) ?_
    refine oCallP C (w197 hw) (w199 hw) (w117 hw) (w198 hw) (w118 hw) (w200 hw) d14_174 f204 (by decide) pd_947250 rfl rfl (a := b1) (argsL := [.int 2, .int 1]) (rest := []) rfl (W := 0) rfl (q := 177) rfl (by decide) (by decide) (by decide) (by decide) (ac28_55 l Z a0 hw _ n0 z16 b1 x4 a9 x5 f200 f12w f202 p9 ne201 ge_a9) (oVQ ?_)
    rintro h218 ⟨K218, f218_0⟩
    exact J177 _ ⟨((oKe.refl h12 [a9] []).trans K218 (allS (Or.inl (List.mem_of_getElem? (i := 0) rfl)) all0) oA0), by rw [show (oUp0 (1 : Int64) (0 : Int64) y12 (1 : Int64)) = (1 : Int64) from (oUp0_c (by decide) (by have q := hc163; rw [ft26_2_def, own_z] at q; exact q)).trans (by decide)]; exact f218_0⟩
set_option maxRecDepth 65536 in
set_option maxHeartbeats 40000000 in
theorem fin7 (c21 c31 c41 c32 c42 c43 : Int64) (dc21 : c21 = 0 ∨ c21 = 1) (dc31 : c31 = 0 ∨ c31 = 1) (dc41 : c41 = 0 ∨ c41 = 1) (dc32 : c32 = 0 ∨ c32 = 1) (dc42 : c42 = 0 ∨ c42 = 1) (dc43 : c43 = 0 ∨ c43 = 1) : (ft21_5 (oUp0 (4 : Int64) (oUp (2 : Int64) ((2 : Int32) &&& 0x3f).toInt64 (oUp (1 : Int64) ((1 : Int32) &&& 0x3f).toInt64 (0 : Int64) (oUp0 (2 : Int64) (oUp (1 : Int64) ((1 : Int32) &&& 0x3f).toInt64 (0 : Int64) (oUp0 (1 : Int64) (0 : Int64) (((c21 ||| (2 : Int64)) ||| (c32 <<< ((2 : Int32) &&& 0x3f).toInt64)) ||| (c42 <<< ((3 : Int32) &&& 0x3f).toInt64)) (1 : Int64)) (((c31 ||| (c32 <<< ((1 : Int32) &&& 0x3f).toInt64)) ||| (4 : Int64)) ||| (c43 <<< ((3 : Int32) &&& 0x3f).toInt64)) (2 : Int64)) (((c31 ||| (c32 <<< ((1 : Int32) &&& 0x3f).toInt64)) ||| (4 : Int64)) ||| (c43 <<< ((3 : Int32) &&& 0x3f).toInt64)) (1 : Int64)) (((c41 ||| (c42 <<< ((1 : Int32) &&& 0x3f).toInt64)) ||| (c43 <<< ((2 : Int32) &&& 0x3f).toInt64)) ||| (8 : Int64)) (4 : Int64)) (oUp0 (1 : Int64) (0 : Int64) (((c21 ||| (2 : Int64)) ||| (c32 <<< ((2 : Int32) &&& 0x3f).toInt64)) ||| (c42 <<< ((3 : Int32) &&& 0x3f).toInt64)) (1 : Int64)) (((c41 ||| (c42 <<< ((1 : Int32) &&& 0x3f).toInt64)) ||| (c43 <<< ((2 : Int32) &&& 0x3f).toInt64)) ||| (8 : Int64)) (2 : Int64)) (((c41 ||| (c42 <<< ((1 : Int32) &&& 0x3f).toInt64)) ||| (c43 <<< ((2 : Int32) &&& 0x3f).toInt64)) ||| (8 : Int64)) (1 : Int64))) = (fA43 c43) := by
  rcases dc21 with rfl | rfl <;> rcases dc31 with rfl | rfl <;> rcases dc41 with rfl | rfl <;> rcases dc32 with rfl | rfl <;> rcases dc42 with rfl | rfl <;> rcases dc43 with rfl | rfl <;> decide +kernel
set_option maxRecDepth 65536 in
set_option maxHeartbeats 40000000 in
theorem fin8 (c21 c31 c41 c32 c42 c43 : Int64) (dc21 : c21 = 0 ∨ c21 = 1) (dc31 : c31 = 0 ∨ c31 = 1) (dc41 : c41 = 0 ∨ c41 = 1) (dc32 : c32 = 0 ∨ c32 = 1) (dc42 : c42 = 0 ∨ c42 = 1) (dc43 : c43 = 0 ∨ c43 = 1) : (ft21_6 (oUp0 (4 : Int64) (oUp (2 : Int64) ((2 : Int32) &&& 0x3f).toInt64 (oUp (1 : Int64) ((1 : Int32) &&& 0x3f).toInt64 (0 : Int64) (oUp0 (2 : Int64) (oUp (1 : Int64) ((1 : Int32) &&& 0x3f).toInt64 (0 : Int64) (oUp0 (1 : Int64) (0 : Int64) (((c21 ||| (2 : Int64)) ||| (c32 <<< ((2 : Int32) &&& 0x3f).toInt64)) ||| (c42 <<< ((3 : Int32) &&& 0x3f).toInt64)) (1 : Int64)) (((c31 ||| (c32 <<< ((1 : Int32) &&& 0x3f).toInt64)) ||| (4 : Int64)) ||| (c43 <<< ((3 : Int32) &&& 0x3f).toInt64)) (2 : Int64)) (((c31 ||| (c32 <<< ((1 : Int32) &&& 0x3f).toInt64)) ||| (4 : Int64)) ||| (c43 <<< ((3 : Int32) &&& 0x3f).toInt64)) (1 : Int64)) (((c41 ||| (c42 <<< ((1 : Int32) &&& 0x3f).toInt64)) ||| (c43 <<< ((2 : Int32) &&& 0x3f).toInt64)) ||| (8 : Int64)) (4 : Int64)) (oUp0 (1 : Int64) (0 : Int64) (((c21 ||| (2 : Int64)) ||| (c32 <<< ((2 : Int32) &&& 0x3f).toInt64)) ||| (c42 <<< ((3 : Int32) &&& 0x3f).toInt64)) (1 : Int64)) (((c41 ||| (c42 <<< ((1 : Int32) &&& 0x3f).toInt64)) ||| (c43 <<< ((2 : Int32) &&& 0x3f).toInt64)) ||| (8 : Int64)) (2 : Int64)) (((c41 ||| (c42 <<< ((1 : Int32) &&& 0x3f).toInt64)) ||| (c43 <<< ((2 : Int32) &&& 0x3f).toInt64)) ||| (8 : Int64)) (1 : Int64))) = (fR42 c42 c43 c32) := by
  rcases dc21 with rfl | rfl <;> rcases dc31 with rfl | rfl <;> rcases dc41 with rfl | rfl <;> rcases dc32 with rfl | rfl <;> rcases dc42 with rfl | rfl <;> rcases dc43 with rfl | rfl <;> decide +kernel
set_option maxRecDepth 65536 in
set_option maxHeartbeats 40000000 in
theorem fin9 (c21 c31 c41 c32 c42 c43 : Int64) (dc21 : c21 = 0 ∨ c21 = 1) (dc31 : c31 = 0 ∨ c31 = 1) (dc41 : c41 = 0 ∨ c41 = 1) (dc32 : c32 = 0 ∨ c32 = 1) (dc42 : c42 = 0 ∨ c42 = 1) (dc43 : c43 = 0 ∨ c43 = 1) : (ft21_8 (oUp0 (4 : Int64) (oUp (2 : Int64) ((2 : Int32) &&& 0x3f).toInt64 (oUp (1 : Int64) ((1 : Int32) &&& 0x3f).toInt64 (0 : Int64) (oUp0 (2 : Int64) (oUp (1 : Int64) ((1 : Int32) &&& 0x3f).toInt64 (0 : Int64) (oUp0 (1 : Int64) (0 : Int64) (((c21 ||| (2 : Int64)) ||| (c32 <<< ((2 : Int32) &&& 0x3f).toInt64)) ||| (c42 <<< ((3 : Int32) &&& 0x3f).toInt64)) (1 : Int64)) (((c31 ||| (c32 <<< ((1 : Int32) &&& 0x3f).toInt64)) ||| (4 : Int64)) ||| (c43 <<< ((3 : Int32) &&& 0x3f).toInt64)) (2 : Int64)) (((c31 ||| (c32 <<< ((1 : Int32) &&& 0x3f).toInt64)) ||| (4 : Int64)) ||| (c43 <<< ((3 : Int32) &&& 0x3f).toInt64)) (1 : Int64)) (((c41 ||| (c42 <<< ((1 : Int32) &&& 0x3f).toInt64)) ||| (c43 <<< ((2 : Int32) &&& 0x3f).toInt64)) ||| (8 : Int64)) (4 : Int64)) (oUp0 (1 : Int64) (0 : Int64) (((c21 ||| (2 : Int64)) ||| (c32 <<< ((2 : Int32) &&& 0x3f).toInt64)) ||| (c42 <<< ((3 : Int32) &&& 0x3f).toInt64)) (1 : Int64)) (((c41 ||| (c42 <<< ((1 : Int32) &&& 0x3f).toInt64)) ||| (c43 <<< ((2 : Int32) &&& 0x3f).toInt64)) ||| (8 : Int64)) (2 : Int64)) (((c41 ||| (c42 <<< ((1 : Int32) &&& 0x3f).toInt64)) ||| (c43 <<< ((2 : Int32) &&& 0x3f).toInt64)) ||| (8 : Int64)) (1 : Int64))) = (fR41 c41 c43 c31 c32 c21 c42) := by
  rcases dc21 with rfl | rfl <;> rcases dc31 with rfl | rfl <;> rcases dc41 with rfl | rfl <;> rcases dc32 with rfl | rfl <;> rcases dc42 with rfl | rfl <;> rcases dc43 with rfl | rfl <;> decide +kernel
set_option maxRecDepth 65536 in
set_option maxHeartbeats 40000000 in
theorem mt_law (l : Launch) (Z : State) (a0 : Array Value) (hw : oHw a0 Z) (h0 : Heap) (n0 : Nat) (Z0 : n0 ≤ h0.size) (b : Int32) (e : Int32) (q : Int32) (dd : Addr) (Sdd : oSta Z n0 h0 sA sD sG (.ref dd)) (Add : oAr Z h0 dd (.object sO) []) :
    oMetW l Z x code maxLocals ret tables_1 room_1 40 4352 n0 #[.int b, .int e, .int q] h0 (fun v h => v = some (.int 1)) := by
  refine oMetW.intro (plainFor_of_name pn_247139) (fun m => ef_0 m b e q) ?_
  intro op oe os m obl omt ocd C hS hk
  refine oIconst C at_0 (z := 1) rfl rfl ?_
  refine oIloadN C at_1 rfl rfl ?_
  refine oSipush C at_2 (z := 255) rfl rfl ?_
  refine oIand C at_5 rfl ?_
  refine oIadd C at_6 rfl ?_
  obtain ⟨bd, e_bd⟩ : ∃ z, z = ((1 : Int32) + (b &&& (255 : Int32))) := ⟨_, rfl⟩
  refine oCastI e_bd.symm ?_
  refine oIstoreN C at_7 (Ls' := #[.val (.int b), .val (.int e), .val (.int q), .val (.int bd), .unset, .unset, .unset, .unset, .unset, .unset, .unset, .unset, .unset, .unset, .unset, .unset, .unset, .unset, .unset, .unset, .unset, .unset, .unset, .unset, .unset, .unset, .unset, .unset, .unset, .unset, .unset, .unset, .unset, .unset, .unset, .unset, .unset, .unset, .unset, .unset, .unset, .unset, .unset]) rfl (q := 8) rfl ?_
  refine oIloadN C at_8 rfl rfl ?_
  refine oIconst C at_9 (z := 0) rfl rfl ?_
  refine oCallS C (w0 hw) (w1 hw) (w2 hw) (w3 hw) at_10 (by decide) pd_947238 rfl rfl (argsL := [.int e, .int 0]) (rest := []) rfl (W := 0) rfl (q := 13) rfl (by decide) (by decide) (by decide) (by decide) (mt_fEdge l Z a0 hw _ n0 Z0 e (0 : Int32) ) (oPureK ?_)
  obtain ⟨c21, e_c21⟩ : ∃ z, z = (fEdge e (0 : Int32)) := ⟨_, rfl⟩
  refine oCastL e_c21.symm ?_
  have dc21 : c21 = 0 ∨ c21 = 1 := by rw [e_c21]; exact own_edge _ _
  refine oLstore C at_13 (Ls' := #[.val (.int b), .val (.int e), .val (.int q), .val (.int bd), .val (.long c21), .second, .unset, .unset, .unset, .unset, .unset, .unset, .unset, .unset, .unset, .unset, .unset, .unset, .unset, .unset, .unset, .unset, .unset, .unset, .unset, .unset, .unset, .unset, .unset, .unset, .unset, .unset, .unset, .unset, .unset, .unset, .unset, .unset, .unset, .unset, .unset, .unset, .unset]) rfl (q := 15) rfl ?_
  refine oIloadN C at_15 rfl rfl ?_
  refine oIconst C at_16 (z := 1) rfl rfl ?_
  refine oCallS C (w0 hw) (w1 hw) (w2 hw) (w3 hw) at_17 (by decide) pd_947238 rfl rfl (argsL := [.int e, .int 1]) (rest := []) rfl (W := 0) rfl (q := 20) rfl (by decide) (by decide) (by decide) (by decide) (mt_fEdge l Z a0 hw _ n0 Z0 e (1 : Int32) ) (oPureK ?_)
  obtain ⟨c31, e_c31⟩ : ∃ z, z = (fEdge e (1 : Int32)) := ⟨_, rfl⟩
  refine oCastL e_c31.symm ?_
  have dc31 : c31 = 0 ∨ c31 = 1 := by rw [e_c31]; exact own_edge _ _
  refine oLstore C at_20 (Ls' := #[.val (.int b), .val (.int e), .val (.int q), .val (.int bd), .val (.long c21), .second, .val (.long c31), .second, .unset, .unset, .unset, .unset, .unset, .unset, .unset, .unset, .unset, .unset, .unset, .unset, .unset, .unset, .unset, .unset, .unset, .unset, .unset, .unset, .unset, .unset, .unset, .unset, .unset, .unset, .unset, .unset, .unset, .unset, .unset, .unset, .unset, .unset, .unset]) rfl (q := 22) rfl ?_
  refine oIloadN C at_22 rfl rfl ?_
  refine oIconst C at_23 (z := 2) rfl rfl ?_
  refine oCallS C (w0 hw) (w1 hw) (w2 hw) (w3 hw) at_24 (by decide) pd_947238 rfl rfl (argsL := [.int e, .int 2]) (rest := []) rfl (W := 0) rfl (q := 27) rfl (by decide) (by decide) (by decide) (by decide) (mt_fEdge l Z a0 hw _ n0 Z0 e (2 : Int32) ) (oPureK ?_)
  obtain ⟨c41, e_c41⟩ : ∃ z, z = (fEdge e (2 : Int32)) := ⟨_, rfl⟩
  refine oCastL e_c41.symm ?_
  have dc41 : c41 = 0 ∨ c41 = 1 := by rw [e_c41]; exact own_edge _ _
  refine oLstore C at_27 (Ls' := #[.val (.int b), .val (.int e), .val (.int q), .val (.int bd), .val (.long c21), .second, .val (.long c31), .second, .val (.long c41), .second, .unset, .unset, .unset, .unset, .unset, .unset, .unset, .unset, .unset, .unset, .unset, .unset, .unset, .unset, .unset, .unset, .unset, .unset, .unset, .unset, .unset, .unset, .unset, .unset, .unset, .unset, .unset, .unset, .unset, .unset, .unset, .unset, .unset]) rfl (q := 29) rfl ?_
  refine oIloadN C at_29 rfl rfl ?_
  refine oIconst C at_30 (z := 3) rfl rfl ?_
  refine oCallS C (w0 hw) (w1 hw) (w2 hw) (w3 hw) at_31 (by decide) pd_947238 rfl rfl (argsL := [.int e, .int 3]) (rest := []) rfl (W := 0) rfl (q := 34) rfl (by decide) (by decide) (by decide) (by decide) (mt_fEdge l Z a0 hw _ n0 Z0 e (3 : Int32) ) (oPureK ?_)
  obtain ⟨c32, e_c32⟩ : ∃ z, z = (fEdge e (3 : Int32)) := ⟨_, rfl⟩
  refine oCastL e_c32.symm ?_
  have dc32 : c32 = 0 ∨ c32 = 1 := by rw [e_c32]; exact own_edge _ _
  refine oLstore C at_34 (Ls' := #[.val (.int b), .val (.int e), .val (.int q), .val (.int bd), .val (.long c21), .second, .val (.long c31), .second, .val (.long c41), .second, .val (.long c32), .second, .unset, .unset, .unset, .unset, .unset, .unset, .unset, .unset, .unset, .unset, .unset, .unset, .unset, .unset, .unset, .unset, .unset, .unset, .unset, .unset, .unset, .unset, .unset, .unset, .unset, .unset, .unset, .unset, .unset, .unset, .unset]) rfl (q := 36) rfl ?_
  refine oIloadN C at_36 rfl rfl ?_
  refine oIconst C at_37 (z := 4) rfl rfl ?_
  refine oCallS C (w0 hw) (w1 hw) (w2 hw) (w3 hw) at_38 (by decide) pd_947238 rfl rfl (argsL := [.int e, .int 4]) (rest := []) rfl (W := 0) rfl (q := 41) rfl (by decide) (by decide) (by decide) (by decide) (mt_fEdge l Z a0 hw _ n0 Z0 e (4 : Int32) ) (oPureK ?_)
  obtain ⟨c42, e_c42⟩ : ∃ z, z = (fEdge e (4 : Int32)) := ⟨_, rfl⟩
  refine oCastL e_c42.symm ?_
  have dc42 : c42 = 0 ∨ c42 = 1 := by rw [e_c42]; exact own_edge _ _
  refine oLstore C at_41 (Ls' := #[.val (.int b), .val (.int e), .val (.int q), .val (.int bd), .val (.long c21), .second, .val (.long c31), .second, .val (.long c41), .second, .val (.long c32), .second, .val (.long c42), .second, .unset, .unset, .unset, .unset, .unset, .unset, .unset, .unset, .unset, .unset, .unset, .unset, .unset, .unset, .unset, .unset, .unset, .unset, .unset, .unset, .unset, .unset, .unset, .unset, .unset, .unset, .unset, .unset, .unset]) rfl (q := 43) rfl ?_
  refine oIloadN C at_43 rfl rfl ?_
  refine oIconst C at_44 (z := 5) rfl rfl ?_
  refine oCallS C (w0 hw) (w1 hw) (w2 hw) (w3 hw) at_45 (by decide) pd_947238 rfl rfl (argsL := [.int e, .int 5]) (rest := []) rfl (W := 0) rfl (q := 48) rfl (by decide) (by decide) (by decide) (by decide) (mt_fEdge l Z a0 hw _ n0 Z0 e (5 : Int32) ) (oPureK ?_)
  obtain ⟨c43, e_c43⟩ : ∃ z, z = (fEdge e (5 : Int32)) := ⟨_, rfl⟩
  refine oCastL e_c43.symm ?_
  have dc43 : c43 = 0 ∨ c43 = 1 := by rw [e_c43]; exact own_edge _ _
  refine oLstore C at_48 (Ls' := #[.val (.int b), .val (.int e), .val (.int q), .val (.int bd), .val (.long c21), .second, .val (.long c31), .second, .val (.long c41), .second, .val (.long c32), .second, .val (.long c42), .second, .val (.long c43), .second, .unset, .unset, .unset, .unset, .unset, .unset, .unset, .unset, .unset, .unset, .unset, .unset, .unset, .unset, .unset, .unset, .unset, .unset, .unset, .unset, .unset, .unset, .unset, .unset, .unset, .unset, .unset]) rfl (q := 50) rfl ?_
  refine oLconst C at_50 (z := 1) rfl rfl ?_
  refine oLload C at_51 rfl rfl ?_
  refine oIconst C at_53 (z := 1) rfl rfl ?_
  refine oLshl C at_54 rfl ?_
  refine oLor C at_55 rfl ?_
  refine oLload C at_56 rfl rfl ?_
  refine oIconst C at_58 (z := 2) rfl rfl ?_
  refine oLshl C at_59 rfl ?_
  refine oLor C at_60 rfl ?_
  refine oLload C at_61 rfl rfl ?_
  refine oIconst C at_63 (z := 3) rfl rfl ?_
  refine oLshl C at_64 rfl ?_
  refine oLor C at_65 rfl ?_
  obtain ⟨m1, e_m1⟩ : ∃ z, z = ((((1 : Int64) ||| (c21 <<< ((1 : Int32) &&& 0x3f).toInt64)) ||| (c31 <<< ((2 : Int32) &&& 0x3f).toInt64)) ||| (c41 <<< ((3 : Int32) &&& 0x3f).toInt64)) := ⟨_, rfl⟩
  refine oCastL e_m1.symm ?_
  refine oLstore C at_66 (Ls' := #[.val (.int b), .val (.int e), .val (.int q), .val (.int bd), .val (.long c21), .second, .val (.long c31), .second, .val (.long c41), .second, .val (.long c32), .second, .val (.long c42), .second, .val (.long c43), .second, .val (.long m1), .second, .unset, .unset, .unset, .unset, .unset, .unset, .unset, .unset, .unset, .unset, .unset, .unset, .unset, .unset, .unset, .unset, .unset, .unset, .unset, .unset, .unset, .unset, .unset, .unset, .unset]) rfl (q := 68) rfl ?_
  refine oLload C at_68 rfl rfl ?_
  refine oLdc2 C (w4 hw) at_70 rfl ?_
  refine oLor C at_73 rfl ?_
  refine oLload C at_74 rfl rfl ?_
  refine oIconst C at_76 (z := 2) rfl rfl ?_
  refine oLshl C at_77 rfl ?_
  refine oLor C at_78 rfl ?_
  refine oLload C at_79 rfl rfl ?_
  refine oIconst C at_81 (z := 3) rfl rfl ?_
  refine oLshl C at_82 rfl ?_
  refine oLor C at_83 rfl ?_
  obtain ⟨m2, e_m2⟩ : ∃ z, z = (((c21 ||| (2 : Int64)) ||| (c32 <<< ((2 : Int32) &&& 0x3f).toInt64)) ||| (c42 <<< ((3 : Int32) &&& 0x3f).toInt64)) := ⟨_, rfl⟩
  refine oCastL e_m2.symm ?_
  refine oLstore C at_84 (Ls' := #[.val (.int b), .val (.int e), .val (.int q), .val (.int bd), .val (.long c21), .second, .val (.long c31), .second, .val (.long c41), .second, .val (.long c32), .second, .val (.long c42), .second, .val (.long c43), .second, .val (.long m1), .second, .val (.long m2), .second, .unset, .unset, .unset, .unset, .unset, .unset, .unset, .unset, .unset, .unset, .unset, .unset, .unset, .unset, .unset, .unset, .unset, .unset, .unset, .unset, .unset, .unset, .unset]) rfl (q := 86) rfl ?_
  refine oLload C at_86 rfl rfl ?_
  refine oLload C at_88 rfl rfl ?_
  refine oIconst C at_90 (z := 1) rfl rfl ?_
  refine oLshl C at_91 rfl ?_
  refine oLor C at_92 rfl ?_
  refine oLdc2 C (w5 hw) at_93 rfl ?_
  refine oLor C at_96 rfl ?_
  refine oLload C at_97 rfl rfl ?_
  refine oIconst C at_99 (z := 3) rfl rfl ?_
  refine oLshl C at_100 rfl ?_
  refine oLor C at_101 rfl ?_
  obtain ⟨m3, e_m3⟩ : ∃ z, z = (((c31 ||| (c32 <<< ((1 : Int32) &&& 0x3f).toInt64)) ||| (4 : Int64)) ||| (c43 <<< ((3 : Int32) &&& 0x3f).toInt64)) := ⟨_, rfl⟩
  refine oCastL e_m3.symm ?_
  refine oLstore C at_102 (Ls' := #[.val (.int b), .val (.int e), .val (.int q), .val (.int bd), .val (.long c21), .second, .val (.long c31), .second, .val (.long c41), .second, .val (.long c32), .second, .val (.long c42), .second, .val (.long c43), .second, .val (.long m1), .second, .val (.long m2), .second, .val (.long m3), .second, .unset, .unset, .unset, .unset, .unset, .unset, .unset, .unset, .unset, .unset, .unset, .unset, .unset, .unset, .unset, .unset, .unset, .unset, .unset, .unset, .unset]) rfl (q := 104) rfl ?_
  refine oLload C at_104 rfl rfl ?_
  refine oLload C at_106 rfl rfl ?_
  refine oIconst C at_108 (z := 1) rfl rfl ?_
  refine oLshl C at_109 rfl ?_
  refine oLor C at_110 rfl ?_
  refine oLload C at_111 rfl rfl ?_
  refine oIconst C at_113 (z := 2) rfl rfl ?_
  refine oLshl C at_114 rfl ?_
  refine oLor C at_115 rfl ?_
  refine oLdc2 C (w6 hw) at_116 rfl ?_
  refine oLor C at_119 rfl ?_
  obtain ⟨m4, e_m4⟩ : ∃ z, z = (((c41 ||| (c42 <<< ((1 : Int32) &&& 0x3f).toInt64)) ||| (c43 <<< ((2 : Int32) &&& 0x3f).toInt64)) ||| (8 : Int64)) := ⟨_, rfl⟩
  refine oCastL e_m4.symm ?_
  refine oLstore C at_120 (Ls' := #[.val (.int b), .val (.int e), .val (.int q), .val (.int bd), .val (.long c21), .second, .val (.long c31), .second, .val (.long c41), .second, .val (.long c32), .second, .val (.long c42), .second, .val (.long c43), .second, .val (.long m1), .second, .val (.long m2), .second, .val (.long m3), .second, .val (.long m4), .second, .unset, .unset, .unset, .unset, .unset, .unset, .unset, .unset, .unset, .unset, .unset, .unset, .unset, .unset, .unset, .unset, .unset, .unset, .unset]) rfl (q := 122) rfl ?_
  refine oNew C (w7 hw) (w8 hw) (w9 hw) at_122 rfl (by decide) (by decide) fun a7 h7 g_a7 E7 X7 D7 => ?_
  have ge_a7 : n0 ≤ a7 := g_a7 ▸ Z0
  have f7_declaration : Fld Z h7 a7 sR "declaration" sJ (.null) := D7 (Or.inr (w25 hw)) (ty := (.object "com/example/orderloom/orderloom/RequestClasses")) (by decide)
  have f7_name : Fld Z h7 a7 sR "name" "Ljava/lang/String;" (.null) := D7 (Or.inr (w27 hw)) (ty := (.object "java/lang/String")) (by decide)
  have f7_bit : Fld Z h7 a7 sR "bit" "J" (.long 0) := D7 (Or.inr (w29 hw)) (ty := .long) (by decide)
  have f7_conflicts : Fld Z h7 a7 sR "conflicts" "J" (.long 0) := D7 (Or.inr (w31 hw)) (ty := .long) (by decide)
  have f7_allKeys : Fld Z h7 a7 sR "allKeys" "Lcom/example/orderloom/orderloom/Footprint;" (.null) := D7 (Or.inr (w48 hw)) (ty := (.object sF)) (by decide)
  refine oDup C at_125 rfl rfl ?_
  refine oNull C at_126 rfl ?_
  refine oLdcS C hS (Nat.le_trans hk E7.1) (w10 hw) (oWS hw) at_127 rfl (N := 4) (by decide) (by decide) (by decide) (by decide) ?_
  intro a8 h8 vm8 k8 C hS hk E8
  refine oIconst C at_129 (z := 0) rfl rfl ?_
  refine oLload C at_130 rfl rfl ?_
  have f9 := (Exa.ext E8 X7)
  have f10 := (Fld.ext E8 f7_declaration)
  have f11 := (Fld.ext E8 f7_name)
  have f12 := (Fld.ext E8 f7_bit)
  have f13 := (Fld.ext E8 f7_conflicts)
  have f14 := (Fld.ext E8 f7_allKeys)
  have z16 := (Nat.le_trans (Nat.le_trans Z0 E7.1) E8.1)
  refine oCallC C (w18 hw) (w19 hw) (w9 hw) (w20 hw) at_132 rfl (by decide) pd_999420 rfl rfl (a := a7) (argsL := [.null, .ref a8, .int 0, .long m1]) (rest := [.ref a7]) rfl (W := 1) rfl (q := 135) rfl (by decide) (by decide) (by decide) (by decide) (ac2_1 l Z a0 hw _ n0 z16 a7 a8 m1 f9 f10 ge_a7 f11 f12 f13 f14) ?_
  rintro _ h15 ⟨a15_0, rfl, K15, s15, f15_0, f15_1, f15_2, f15_3, f15_4, f15_5, f15_6, f15_7, f15_8⟩
  show oW _ _ _ _ _ _ _ _ _ _ _ _ _ _ _ (mkF m 135 #[.val (.int b), .val (.int e), .val (.int q), .val (.int bd), .val (.long c21), .second, .val (.long c31), .second, .val (.long c41), .second, .val (.long c32), .second, .val (.long c42), .second, .val (.long c43), .second, .val (.long m1), .second, .val (.long m2), .second, .val (.long m3), .second, .val (.long m4), .second, .unset, .unset, .unset, .unset, .unset, .unset, .unset, .unset, .unset, .unset, .unset, .unset, .unset, .unset, .unset, .unset, .unset, .unset, .unset] [.ref a7])
  refine oAstore C at_135 rfl (Ls' := #[.val (.int b), .val (.int e), .val (.int q), .val (.int bd), .val (.long c21), .second, .val (.long c31), .second, .val (.long c41), .second, .val (.long c32), .second, .val (.long c42), .second, .val (.long c43), .second, .val (.long m1), .second, .val (.long m2), .second, .val (.long m3), .second, .val (.long m4), .second, .val (.ref a7), .unset, .unset, .unset, .unset, .unset, .unset, .unset, .unset, .unset, .unset, .unset, .unset, .unset, .unset, .unset, .unset, .unset, .unset]) rfl (q := 137) rfl ?_
  refine oNew C (w7 hw) (w8 hw) (w9 hw) at_137 rfl (by decide) (by decide) fun a17 h17 g_a17 E17 X17 D17 => ?_
  have z18 := (Nat.le_trans z16 K15.1)
  have ge_a17 : n0 ≤ a17 := g_a17 ▸ z18
  have f17_declaration : Fld Z h17 a17 sR "declaration" sJ (.null) := D17 (Or.inr (w25 hw)) (ty := (.object "com/example/orderloom/orderloom/RequestClasses")) (by decide)
  have f17_name : Fld Z h17 a17 sR "name" "Ljava/lang/String;" (.null) := D17 (Or.inr (w27 hw)) (ty := (.object "java/lang/String")) (by decide)
  have f17_bit : Fld Z h17 a17 sR "bit" "J" (.long 0) := D17 (Or.inr (w29 hw)) (ty := .long) (by decide)
  have f17_conflicts : Fld Z h17 a17 sR "conflicts" "J" (.long 0) := D17 (Or.inr (w31 hw)) (ty := .long) (by decide)
  have f17_allKeys : Fld Z h17 a17 sR "allKeys" "Lcom/example/orderloom/orderloom/Footprint;" (.null) := D17 (Or.inr (w48 hw)) (ty := (.object sF)) (by decide)
  refine oDup C at_140 rfl rfl ?_
  refine oNull C at_141 rfl ?_
  refine oLdcS C hS (Nat.le_trans (Nat.le_trans hk K15.1) E17.1) (w49 hw) (oWS hw) at_142 rfl (N := 4) (by decide) (by decide) (by decide) (by decide) ?_
  intro a19 h19 vm19 k19 C hS hk E19
  refine oIconst C at_144 (z := 1) rfl rfl ?_
  refine oLload C at_145 rfl rfl ?_
  have f20 := (Exa.ext E19 X17)
  have f21 := (Fld.ext E19 f17_declaration)
  have f22 := (Fld.ext E19 f17_name)
  have f23 := (Fld.ext E19 f17_bit)
  have f24 := (Fld.ext E19 f17_conflicts)
  have f25 := (Fld.ext E19 f17_allKeys)
  have z27 := (Nat.le_trans (Nat.le_trans z18 E17.1) E19.1)
  refine oCallC C (w18 hw) (w19 hw) (w9 hw) (w20 hw) at_147 rfl (by decide) pd_999420 rfl rfl (a := a17) (argsL := [.null, .ref a19, .int 1, .long m2]) (rest := [.ref a17]) rfl (W := 1) rfl (q := 150) rfl (by decide) (by decide) (by decide) (by decide) (ac2_2 l Z a0 hw _ n0 z27 a17 a19 m2 f20 f21 ge_a17 f22 f23 f24 f25) ?_
  rintro _ h26 ⟨a26_0, rfl, K26, s26, f26_0, f26_1, f26_2, f26_3, f26_4, f26_5, f26_6, f26_7, f26_8⟩
  show oW _ _ _ _ _ _ _ _ _ _ _ _ _ _ _ (mkF m 150 #[.val (.int b), .val (.int e), .val (.int q), .val (.int bd), .val (.long c21), .second, .val (.long c31), .second, .val (.long c41), .second, .val (.long c32), .second, .val (.long c42), .second, .val (.long c43), .second, .val (.long m1), .second, .val (.long m2), .second, .val (.long m3), .second, .val (.long m4), .second, .val (.ref a7), .unset, .unset, .unset, .unset, .unset, .unset, .unset, .unset, .unset, .unset, .unset, .unset, .unset, .unset, .unset, .unset, .unset, .unset] [.ref a17])
  refine oAstore C at_150 rfl (Ls' := #[.val (.int b), .val (.int e), .val (.int q), .val (.int bd), .val (.long c21), .second, .val (.long c31), .second, .val (.long c41), .second, .val (.long c32), .second, .val (.long c42), .second, .val (.long c43), .second, .val (.long m1), .second, .val (.long m2), .second, .val (.long m3), .second, .val (.long m4), .second, .val (.ref a7), .val (.ref a17), .unset, .unset, .unset, .unset, .unset, .unset, .unset, .unset, .unset, .unset, .unset, .unset, .unset, .unset, .unset, .unset, .unset]) rfl (q := 152) rfl ?_
  refine oNew C (w7 hw) (w8 hw) (w9 hw) at_152 rfl (by decide) (by decide) fun a28 h28 g_a28 E28 X28 D28 => ?_
  have z29 := (Nat.le_trans z27 K26.1)
  have ge_a28 : n0 ≤ a28 := g_a28 ▸ z29
  have f28_declaration : Fld Z h28 a28 sR "declaration" sJ (.null) := D28 (Or.inr (w25 hw)) (ty := (.object "com/example/orderloom/orderloom/RequestClasses")) (by decide)
  have f28_name : Fld Z h28 a28 sR "name" "Ljava/lang/String;" (.null) := D28 (Or.inr (w27 hw)) (ty := (.object "java/lang/String")) (by decide)
  have f28_bit : Fld Z h28 a28 sR "bit" "J" (.long 0) := D28 (Or.inr (w29 hw)) (ty := .long) (by decide)
  have f28_conflicts : Fld Z h28 a28 sR "conflicts" "J" (.long 0) := D28 (Or.inr (w31 hw)) (ty := .long) (by decide)
  have f28_allKeys : Fld Z h28 a28 sR "allKeys" "Lcom/example/orderloom/orderloom/Footprint;" (.null) := D28 (Or.inr (w48 hw)) (ty := (.object sF)) (by decide)
  refine oDup C at_155 rfl rfl ?_
  refine oNull C at_156 rfl ?_
  refine oLdcS C hS (Nat.le_trans (Nat.le_trans hk K26.1) E28.1) (w50 hw) (oWS hw) at_157 rfl (N := 4) (by decide) (by decide) (by decide) (by decide) ?_
  intro a30 h30 vm30 k30 C hS hk E30
  refine oIconst C at_159 (z := 2) rfl rfl ?_
  refine oLload C at_160 rfl rfl ?_
  have f31 := (Exa.ext E30 X28)
  have f32 := (Fld.ext E30 f28_declaration)
  have f33 := (Fld.ext E30 f28_name)
  have f34 := (Fld.ext E30 f28_bit)
  have f35 := (Fld.ext E30 f28_conflicts)
  have f36 := (Fld.ext E30 f28_allKeys)
  have z38 := (Nat.le_trans (Nat.le_trans z29 E28.1) E30.1)
  refine oCallC C (w18 hw) (w19 hw) (w9 hw) (w20 hw) at_162 rfl (by decide) pd_999420 rfl rfl (a := a28) (argsL := [.null, .ref a30, .int 2, .long m3]) (rest := [.ref a28]) rfl (W := 1) rfl (q := 165) rfl (by decide) (by decide) (by decide) (by decide) (ac2_3 l Z a0 hw _ n0 z38 a28 a30 m3 f31 f32 ge_a28 f33 f34 f35 f36) ?_
  rintro _ h37 ⟨a37_0, rfl, K37, s37, f37_0, f37_1, f37_2, f37_3, f37_4, f37_5, f37_6, f37_7, f37_8⟩
  show oW _ _ _ _ _ _ _ _ _ _ _ _ _ _ _ (mkF m 165 #[.val (.int b), .val (.int e), .val (.int q), .val (.int bd), .val (.long c21), .second, .val (.long c31), .second, .val (.long c41), .second, .val (.long c32), .second, .val (.long c42), .second, .val (.long c43), .second, .val (.long m1), .second, .val (.long m2), .second, .val (.long m3), .second, .val (.long m4), .second, .val (.ref a7), .val (.ref a17), .unset, .unset, .unset, .unset, .unset, .unset, .unset, .unset, .unset, .unset, .unset, .unset, .unset, .unset, .unset, .unset, .unset] [.ref a28])
  refine oAstore C at_165 rfl (Ls' := #[.val (.int b), .val (.int e), .val (.int q), .val (.int bd), .val (.long c21), .second, .val (.long c31), .second, .val (.long c41), .second, .val (.long c32), .second, .val (.long c42), .second, .val (.long c43), .second, .val (.long m1), .second, .val (.long m2), .second, .val (.long m3), .second, .val (.long m4), .second, .val (.ref a7), .val (.ref a17), .val (.ref a28), .unset, .unset, .unset, .unset, .unset, .unset, .unset, .unset, .unset, .unset, .unset, .unset, .unset, .unset, .unset, .unset]) rfl (q := 167) rfl ?_
  refine oNew C (w7 hw) (w8 hw) (w9 hw) at_167 rfl (by decide) (by decide) fun a39 h39 g_a39 E39 X39 D39 => ?_
  have z40 := (Nat.le_trans z38 K37.1)
  have ge_a39 : n0 ≤ a39 := g_a39 ▸ z40
  have f39_declaration : Fld Z h39 a39 sR "declaration" sJ (.null) := D39 (Or.inr (w25 hw)) (ty := (.object "com/example/orderloom/orderloom/RequestClasses")) (by decide)
  have f39_name : Fld Z h39 a39 sR "name" "Ljava/lang/String;" (.null) := D39 (Or.inr (w27 hw)) (ty := (.object "java/lang/String")) (by decide)
  have f39_bit : Fld Z h39 a39 sR "bit" "J" (.long 0) := D39 (Or.inr (w29 hw)) (ty := .long) (by decide)
  have f39_conflicts : Fld Z h39 a39 sR "conflicts" "J" (.long 0) := D39 (Or.inr (w31 hw)) (ty := .long) (by decide)
  have f39_allKeys : Fld Z h39 a39 sR "allKeys" "Lcom/example/orderloom/orderloom/Footprint;" (.null) := D39 (Or.inr (w48 hw)) (ty := (.object sF)) (by decide)
  refine oDup C at_170 rfl rfl ?_
  refine oNull C at_171 rfl ?_
  refine oLdcS C hS (Nat.le_trans (Nat.le_trans hk K37.1) E39.1) (w51 hw) (oWS hw) at_172 rfl (N := 4) (by decide) (by decide) (by decide) (by decide) ?_
  intro a41 h41 vm41 k41 C hS hk E41
  refine oIconst C at_174 (z := 3) rfl rfl ?_
  refine oLload C at_175 rfl rfl ?_
  have f42 := (Exa.ext E41 X39)
  have f43 := (Fld.ext E41 f39_declaration)
  have f44 := (Fld.ext E41 f39_name)
  have f45 := (Fld.ext E41 f39_bit)
  have f46 := (Fld.ext E41 f39_conflicts)
  have f47 := (Fld.ext E41 f39_allKeys)
  have z49 := (Nat.le_trans (Nat.le_trans z40 E39.1) E41.1)
  refine oCallC C (w18 hw) (w19 hw) (w9 hw) (w20 hw) at_177 rfl (by decide) pd_999420 rfl rfl (a := a39) (argsL := [.null, .ref a41, .int 3, .long m4]) (rest := [.ref a39]) rfl (W := 1) rfl (q := 180) rfl (by decide) (by decide) (by decide) (by decide) (ac2_4 l Z a0 hw _ n0 z49 a39 a41 m4 f42 f43 ge_a39 f44 f45 f46 f47) ?_
  rintro _ h48 ⟨a48_0, rfl, K48, s48, f48_0, f48_1, f48_2, f48_3, f48_4, f48_5, f48_6, f48_7, f48_8⟩
  show oW _ _ _ _ _ _ _ _ _ _ _ _ _ _ _ (mkF m 180 #[.val (.int b), .val (.int e), .val (.int q), .val (.int bd), .val (.long c21), .second, .val (.long c31), .second, .val (.long c41), .second, .val (.long c32), .second, .val (.long c42), .second, .val (.long c43), .second, .val (.long m1), .second, .val (.long m2), .second, .val (.long m3), .second, .val (.long m4), .second, .val (.ref a7), .val (.ref a17), .val (.ref a28), .unset, .unset, .unset, .unset, .unset, .unset, .unset, .unset, .unset, .unset, .unset, .unset, .unset, .unset, .unset, .unset] [.ref a39])
  refine oAstore C at_180 rfl (Ls' := #[.val (.int b), .val (.int e), .val (.int q), .val (.int bd), .val (.long c21), .second, .val (.long c31), .second, .val (.long c41), .second, .val (.long c32), .second, .val (.long c42), .second, .val (.long c43), .second, .val (.long m1), .second, .val (.long m2), .second, .val (.long m3), .second, .val (.long m4), .second, .val (.ref a7), .val (.ref a17), .val (.ref a28), .val (.ref a39), .unset, .unset, .unset, .unset, .unset, .unset, .unset, .unset, .unset, .unset, .unset, .unset, .unset, .unset, .unset]) rfl (q := 182) rfl ?_
  refine oNew C (w52 hw) (w53 hw) (w54 hw) at_182 rfl (by decide) (by decide) fun a50 h50 g_a50 E50 X50 D50 => ?_
  have z51 := (Nat.le_trans z49 K48.1)
  have ge_a50 : n0 ≤ a50 := g_a50 ▸ z51
  have f50_modCount : Fld Z h50 a50 "java/util/AbstractList" "modCount" "I" (.int 0) := D50 (Or.inl (w72 hw)) (ty := .int) (by decide)
  have f50_elementData : Fld Z h50 a50 sA "elementData" sG (.null) := D50 (Or.inl (w75 hw)) (ty := (.array (.object sO))) (by decide)
  have f50_size : Fld Z h50 a50 sA "size" "I" (.int 0) := D50 (Or.inl (w93 hw)) (ty := .int) (by decide)
  refine oDup C at_185 rfl rfl ?_
  have f52 := ((K48.sta (((K37.sta (((K26.sta (((K15.sta ((Sdd.ext E7).ext E8) all0 (oAS ge_a7 (oAS ge_a7 (oAS ge_a7 (oAS ge_a7 (oAS ge_a7 oA0)))))).ext E17).ext E19) all0 (oAS ge_a17 (oAS ge_a17 (oAS ge_a17 (oAS ge_a17 (oAS ge_a17 oA0)))))).ext E28).ext E30) all0 (oAS ge_a28 (oAS ge_a28 (oAS ge_a28 (oAS ge_a28 (oAS ge_a28 oA0)))))).ext E39).ext E41) all0 (oAS ge_a39 (oAS ge_a39 (oAS ge_a39 (oAS ge_a39 (oAS ge_a39 oA0)))))).ext E50)
  have z54 := (Nat.le_trans z51 E50.1)
  refine oCallC C (w55 hw) (w56 hw) (w54 hw) (w57 hw) at_186 rfl (by decide) pd_428486 rfl rfl (a := a50) (argsL := []) (rest := [.ref a50]) rfl (W := 1) rfl (q := 189) rfl (by decide) (by decide) (by decide) (by decide) (ac5_7 l Z a0 hw _ n0 z54 a50 dd X50 f50_modCount ge_a50 f52 f50_elementData) (oVQ ?_)
  rintro h53 ⟨K53, f53_0, f53_1⟩
  refine oAstore C at_189 rfl (Ls' := #[.val (.int b), .val (.int e), .val (.int q), .val (.int bd), .val (.long c21), .second, .val (.long c31), .second, .val (.long c41), .second, .val (.long c32), .second, .val (.long c42), .second, .val (.long c43), .second, .val (.long m1), .second, .val (.long m2), .second, .val (.long m3), .second, .val (.long m4), .second, .val (.ref a7), .val (.ref a17), .val (.ref a28), .val (.ref a39), .val (.ref a50), .unset, .unset, .unset, .unset, .unset, .unset, .unset, .unset, .unset, .unset, .unset, .unset, .unset, .unset]) rfl (q := 191) rfl ?_
  refine oAload C at_191 rfl rfl rfl ?_
  refine oAload C at_193 rfl rfl rfl ?_
  have ne55 : a7 ≠ a17 := oNe' f15_0.lt (Nat.le_of_eq g_a17.symm)
  have ne56 : a7 ≠ a28 := oNe' (Nat.lt_of_lt_of_le f15_0.lt (Nat.le_trans (Nat.le_trans E17.1 E19.1) K26.1)) (Nat.le_of_eq g_a28.symm)
  have ne57 : a7 ≠ a39 := oNe' (Nat.lt_of_lt_of_le f15_0.lt (Nat.le_trans (Nat.le_trans (Nat.le_trans (Nat.le_trans (Nat.le_trans E17.1 E19.1) K26.1) E28.1) E30.1) K37.1)) (Nat.le_of_eq g_a39.symm)
  have ne58 : a7 ≠ a50 := oNe' (Nat.lt_of_lt_of_le f15_0.lt (Nat.le_trans (Nat.le_trans (Nat.le_trans (Nat.le_trans (Nat.le_trans (Nat.le_trans (Nat.le_trans (Nat.le_trans E17.1 E19.1) K26.1) E28.1) E30.1) K37.1) E39.1) E41.1) K48.1)) (Nat.le_of_eq g_a50.symm)
  have f59 := (K53.fld (Fld.ext E50 (K48.fld (Fld.ext E41 (Fld.ext E39 (K37.fld (Fld.ext E30 (Fld.ext E28 (K26.fld (Fld.ext E19 (Fld.ext E17 f15_8)) nin0 (oNF (Or.inl ne55) (oNF (Or.inl ne55) (oNF (Or.inl ne55) (oNF (Or.inl ne55) (oNF (Or.inl ne55) oN0)))))))) nin0 (oNF (Or.inl ne56) (oNF (Or.inl ne56) (oNF (Or.inl ne56) (oNF (Or.inl ne56) (oNF (Or.inl ne56) oN0)))))))) nin0 (oNF (Or.inl ne57) (oNF (Or.inl ne57) (oNF (Or.inl ne57) (oNF (Or.inl ne57) (oNF (Or.inl ne57) oN0))))))) nin0 (oNF (Or.inl ne58) (oNF (Or.inl ne58) oN0)))
  have f61 := (K53.exa (Exa.ext E50 (K48.exa (Exa.ext E41 (Exa.ext E39 (K37.exa (Exa.ext E30 (Exa.ext E28 (K26.exa (Exa.ext E19 (Exa.ext E17 (K15.exa f9))))))))))))
  have z62 := (Nat.le_trans z54 K53.1)
  refine oCallV C (w76 hw) (w77 hw) (w79 hw) (w78 hw) (w9 hw) (w80 hw) at_195 f61 (by decide) pd_966329 rfl rfl (a := a7) (argsL := []) (rest := [.ref a50]) rfl (W := 1) rfl (q := 198) rfl (by decide) (by decide) (by decide) (by decide) (ac8_8 l Z a0 hw _ n0 z62 a7 a15_0 f59) (oPureK ?_)
  have f63 := (K53.exa X50)
  have f64 := (K53.fld f50_size nin0 (oNF (Or.inr (oSn2 hw 2 0)) (oNF (Or.inr (oSn2 hw 2 1)) oN0)))
  have ne65 : dd ≠ a7 := oNe' Add.lt (Nat.le_of_eq g_a7.symm)
  have ne66 : dd ≠ a17 := oNe' (Nat.lt_of_lt_of_le Add.lt (Nat.le_trans (Nat.le_trans E7.1 E8.1) K15.1)) (Nat.le_of_eq g_a17.symm)
  have ne67 : dd ≠ a28 := oNe' (Nat.lt_of_lt_of_le Add.lt (Nat.le_trans (Nat.le_trans (Nat.le_trans (Nat.le_trans (Nat.le_trans E7.1 E8.1) K15.1) E17.1) E19.1) K26.1)) (Nat.le_of_eq g_a28.symm)
  have ne68 : dd ≠ a39 := oNe' (Nat.lt_of_lt_of_le Add.lt (Nat.le_trans (Nat.le_trans (Nat.le_trans (Nat.le_trans (Nat.le_trans (Nat.le_trans (Nat.le_trans (Nat.le_trans E7.1 E8.1) K15.1) E17.1) E19.1) K26.1) E28.1) E30.1) K37.1)) (Nat.le_of_eq g_a39.symm)
  have ne69 : dd ≠ a50 := oNe' (Nat.lt_of_lt_of_le Add.lt (Nat.le_trans (Nat.le_trans (Nat.le_trans (Nat.le_trans (Nat.le_trans (Nat.le_trans (Nat.le_trans (Nat.le_trans (Nat.le_trans (Nat.le_trans (Nat.le_trans E7.1 E8.1) K15.1) E17.1) E19.1) K26.1) E28.1) E30.1) K37.1) E39.1) E41.1) K48.1)) (Nat.le_of_eq g_a50.symm)
  have f70 := (K53.arr ((K48.arr (((K37.arr (((K26.arr (((K15.arr ((Add.ext E7).ext E8) nin0 (oAS ne65 (oAS ne65 (oAS ne65 (oAS ne65 (oAS ne65 oA0)))))).ext E17).ext E19) nin0 (oAS ne66 (oAS ne66 (oAS ne66 (oAS ne66 (oAS ne66 oA0)))))).ext E28).ext E30) nin0 (oAS ne67 (oAS ne67 (oAS ne67 (oAS ne67 (oAS ne67 oA0)))))).ext E39).ext E41) nin0 (oAS ne68 (oAS ne68 (oAS ne68 (oAS ne68 (oAS ne68 oA0)))))).ext E50) nin0 (oAS ne69 (oAS ne69 oA0)))
  have f71 := (K53.sta f52 all0 (oAS ge_a50 (oAS ge_a50 oA0)))
  have f72 := (K53.exa (Exa.ext E50 (K48.exa (Exa.ext E41 (Exa.ext E39 (K37.exa (Exa.ext E30 (Exa.ext E28 (K26.exa (Exa.ext E19 (Exa.ext E17 f15_4)))))))))))
  refine oCallI C (w81 hw) (w82 hw) (w83 hw) (w84 hw) (w85 hw) (w86 hw) (w87 hw) (w88 hw) (w54 hw) (w89 hw) at_198 f63 (by decide) pd_43457 rfl rfl (a := a50) (argsL := [.ref a15_0]) (rest := []) rfl (W := 0) rfl (q := 203) rfl (by decide) (by decide) (by decide) (by decide) (ac9_13 l Z a0 hw _ n0 z62 a50 a15_0 dd f53_0 f63 ge_a50 f53_1 f64 f70 f71 f72 ne69) ?_
  rintro _ h73 ⟨a73_0, rfl, K73, s73, f73_0, f73_1, f73_2, f73_3⟩
  show oW _ _ _ _ _ _ _ _ _ _ _ _ _ _ _ (mkF m 203 #[.val (.int b), .val (.int e), .val (.int q), .val (.int bd), .val (.long c21), .second, .val (.long c31), .second, .val (.long c41), .second, .val (.long c32), .second, .val (.long c42), .second, .val (.long c43), .second, .val (.long m1), .second, .val (.long m2), .second, .val (.long m3), .second, .val (.long m4), .second, .val (.ref a7), .val (.ref a17), .val (.ref a28), .val (.ref a39), .val (.ref a50), .unset, .unset, .unset, .unset, .unset, .unset, .unset, .unset, .unset, .unset, .unset, .unset, .unset, .unset] [.int 1])
  refine oPop C at_203 rfl rfl ?_
  refine oAload C at_204 rfl rfl rfl ?_
  refine oAload C at_206 rfl rfl rfl ?_
  have ne74 : a17 ≠ a28 := oNe' f26_0.lt (Nat.le_of_eq g_a28.symm)
  have ne75 : a17 ≠ a39 := oNe' (Nat.lt_of_lt_of_le f26_0.lt (Nat.le_trans (Nat.le_trans E28.1 E30.1) K37.1)) (Nat.le_of_eq g_a39.symm)
  have ne76 : a17 ≠ a50 := oNe' (Nat.lt_of_lt_of_le f26_0.lt (Nat.le_trans (Nat.le_trans (Nat.le_trans (Nat.le_trans (Nat.le_trans E28.1 E30.1) K37.1) E39.1) E41.1) K48.1)) (Nat.le_of_eq g_a50.symm)
  have f77 := (K73.fld (K53.fld (Fld.ext E50 (K48.fld (Fld.ext E41 (Fld.ext E39 (K37.fld (Fld.ext E30 (Fld.ext E28 f26_8)) nin0 (oNF (Or.inl ne74) (oNF (Or.inl ne74) (oNF (Or.inl ne74) (oNF (Or.inl ne74) (oNF (Or.inl ne74) oN0)))))))) nin0 (oNF (Or.inl ne75) (oNF (Or.inl ne75) (oNF (Or.inl ne75) (oNF (Or.inl ne75) (oNF (Or.inl ne75) oN0))))))) nin0 (oNF (Or.inl ne76) (oNF (Or.inl ne76) oN0))) nin0 (oNF (Or.inl ne76) (oNF (Or.inl ne76) (oNF (Or.inl ne76) oN0))))
  have f79 := (K73.exa (K53.exa (Exa.ext E50 (K48.exa (Exa.ext E41 (Exa.ext E39 (K37.exa (Exa.ext E30 (Exa.ext E28 (K26.exa f20))))))))))
  have z80 := (Nat.le_trans z62 K73.1)
  refine oCallV C (w76 hw) (w77 hw) (w79 hw) (w78 hw) (w9 hw) (w80 hw) at_208 f79 (by decide) pd_966329 rfl rfl (a := a17) (argsL := []) (rest := [.ref a50]) rfl (W := 1) rfl (q := 211) rfl (by decide) (by decide) (by decide) (by decide) (ac8_8 l Z a0 hw _ n0 z80 a17 a26_0 f77) (oPureK ?_)
  have f81 := (K73.exa f63)
  have f82 := (K73.exa (K53.exa (Exa.ext E50 (K48.exa (Exa.ext E41 (Exa.ext E39 (K37.exa (Exa.ext E30 (Exa.ext E28 f26_4)))))))))
  have ne83 : a50 ≠ a73_0 := oNe' (Nat.lt_of_lt_of_le X50.lt K53.1) s73
  have ge84 := Nat.le_trans z62 s73
  refine oCallI C (w81 hw) (w82 hw) (w83 hw) (w84 hw) (w85 hw) (w86 hw) (w87 hw) (w88 hw) (w54 hw) (w89 hw) at_211 f81 (by decide) pd_43457 rfl rfl (a := a50) (argsL := [.ref a26_0]) (rest := []) rfl (W := 0) rfl (q := 216) rfl (by decide) (by decide) (by decide) (by decide) (ac9_15 l Z a0 hw _ n0 z80 a50 a26_0 a73_0 a15_0 f73_0 f81 ge_a50 f73_1 f73_2 f73_3 f82 (Ne.symm ne83) ge84 ne83) (oRQ ?_)
  rintro h85 ⟨K85, f85_0, f85_1, f85_2⟩
  refine oPop C at_216 rfl rfl ?_
  refine oAload C at_217 rfl rfl rfl ?_
  refine oAload C at_219 rfl rfl rfl ?_
  have ne86 : a28 ≠ a39 := oNe' f37_0.lt (Nat.le_of_eq g_a39.symm)
  have ne87 : a28 ≠ a50 := oNe' (Nat.lt_of_lt_of_le f37_0.lt (Nat.le_trans (Nat.le_trans E39.1 E41.1) K48.1)) (Nat.le_of_eq g_a50.symm)
  have ne88 : a28 ≠ a73_0 := oNe' (Nat.lt_of_lt_of_le f37_0.lt (Nat.le_trans (Nat.le_trans (Nat.le_trans (Nat.le_trans E39.1 E41.1) K48.1) E50.1) K53.1)) s73
  have f89 := (K85.fld (K73.fld (K53.fld (Fld.ext E50 (K48.fld (Fld.ext E41 (Fld.ext E39 f37_8)) nin0 (oNF (Or.inl ne86) (oNF (Or.inl ne86) (oNF (Or.inl ne86) (oNF (Or.inl ne86) (oNF (Or.inl ne86) oN0))))))) nin0 (oNF (Or.inl ne87) (oNF (Or.inl ne87) oN0))) nin0 (oNF (Or.inl ne87) (oNF (Or.inl ne87) (oNF (Or.inl ne87) oN0)))) (ninS ne88 nin0) (oNF (Or.inl ne87) (oNF (Or.inl ne87) oN0)))
  have f91 := (K85.exa (K73.exa (K53.exa (Exa.ext E50 (K48.exa (Exa.ext E41 (Exa.ext E39 (K37.exa f31))))))))
  have z92 := (Nat.le_trans z80 K85.1)
  refine oCallV C (w76 hw) (w77 hw) (w79 hw) (w78 hw) (w9 hw) (w80 hw) at_221 f91 (by decide) pd_966329 rfl rfl (a := a28) (argsL := []) (rest := [.ref a50]) rfl (W := 1) rfl (q := 224) rfl (by decide) (by decide) (by decide) (by decide) (ac8_8 l Z a0 hw _ n0 z92 a28 a37_0 f89) (oPureK ?_)
  have f93 := (K85.exa f81)
  have f94 := (K85.fld f73_1 (ninS ne83 nin0) (oNF (Or.inr (oSn2 hw 1 0)) (oNF (Or.inr (oSn2 hw 1 2)) oN0)))
  have f95 := (K85.exa (K73.exa (K53.exa (Exa.ext E50 (K48.exa (Exa.ext E41 (Exa.ext E39 f37_4)))))))
  refine oCallI C (w81 hw) (w82 hw) (w83 hw) (w84 hw) (w85 hw) (w86 hw) (w87 hw) (w88 hw) (w54 hw) (w89 hw) at_224 f93 (by decide) pd_43457 rfl rfl (a := a50) (argsL := [.ref a37_0]) (rest := []) rfl (W := 0) rfl (q := 229) rfl (by decide) (by decide) (by decide) (by decide) (ac9_17 l Z a0 hw _ n0 z92 a50 a37_0 a73_0 a15_0 a26_0 f85_0 f93 ge_a50 f94 f85_1 f85_2 f95 (Ne.symm ne83) ge84 ne83) (oRQ ?_)
  rintro h96 ⟨K96, f96_0, f96_1, f96_2⟩
  refine oPop C at_229 rfl rfl ?_
  refine oAload C at_230 rfl rfl rfl ?_
  refine oAload C at_232 rfl rfl rfl ?_
  have ne97 : a39 ≠ a50 := oNe' f48_0.lt (Nat.le_of_eq g_a50.symm)
  have ne98 : a39 ≠ a73_0 := oNe' (Nat.lt_of_lt_of_le f48_0.lt (Nat.le_trans E50.1 K53.1)) s73
  have f99 := (K96.fld (K85.fld (K73.fld (K53.fld (Fld.ext E50 f48_8) nin0 (oNF (Or.inl ne97) (oNF (Or.inl ne97) oN0))) nin0 (oNF (Or.inl ne97) (oNF (Or.inl ne97) (oNF (Or.inl ne97) oN0)))) (ninS ne98 nin0) (oNF (Or.inl ne97) (oNF (Or.inl ne97) oN0))) (ninS ne98 nin0) (oNF (Or.inl ne97) (oNF (Or.inl ne97) oN0)))
  have f101 := (K96.exa (K85.exa (K73.exa (K53.exa (Exa.ext E50 (K48.exa f42))))))
  have z102 := (Nat.le_trans z92 K96.1)
  refine oCallV C (w76 hw) (w77 hw) (w79 hw) (w78 hw) (w9 hw) (w80 hw) at_234 f101 (by decide) pd_966329 rfl rfl (a := a39) (argsL := []) (rest := [.ref a50]) rfl (W := 1) rfl (q := 237) rfl (by decide) (by decide) (by decide) (by decide) (ac8_8 l Z a0 hw _ n0 z102 a39 a48_0 f99) (oPureK ?_)
  have f103 := (K96.exa f93)
  have f104 := (K96.fld f94 (ninS ne83 nin0) (oNF (Or.inr (oSn2 hw 1 0)) (oNF (Or.inr (oSn2 hw 1 2)) oN0)))
  have f105 := (K96.exa (K85.exa (K73.exa (K53.exa (Exa.ext E50 f48_4)))))
  refine oCallI C (w81 hw) (w82 hw) (w83 hw) (w84 hw) (w85 hw) (w86 hw) (w87 hw) (w88 hw) (w54 hw) (w89 hw) at_237 f103 (by decide) pd_43457 rfl rfl (a := a50) (argsL := [.ref a48_0]) (rest := []) rfl (W := 0) rfl (q := 242) rfl (by decide) (by decide) (by decide) (by decide) (ac9_19 l Z a0 hw _ n0 z102 a50 a48_0 a73_0 a15_0 a26_0 a37_0 f96_0 f103 ge_a50 f104 f96_1 f96_2 f105 (Ne.symm ne83) ge84 ne83) (oRQ ?_)
  rintro h106 ⟨K106, f106_0, f106_1, f106_2⟩
  refine oPop C at_242 rfl rfl ?_
  refine oNew C (w116 hw) (w117 hw) (w118 hw) at_243 rfl (by decide) (by decide) fun a107 h107 g_a107 E107 X107 D107 => ?_
  have z108 := (Nat.le_trans z102 K106.1)
  have ge_a107 : n0 ≤ a107 := g_a107 ▸ z108
  have f107_span : Fld Z h107 a107 sP "span" "I" (.int 0) := D107 (Or.inr (w124 hw)) (ty := .int) (by decide)
  have f107_words : Fld Z h107 a107 sP "words" "I" (.int 0) := D107 (Or.inr (w126 hw)) (ty := .int) (by decide)
  have f107_bits : Fld Z h107 a107 sP "bits" "[J" (.null) := D107 (Or.inr (w138 hw)) (ty := (.array .long)) (by decide)
  refine oDup C at_246 rfl rfl ?_
  refine oAload C at_247 rfl rfl rfl ?_
  refine oIloadN C at_249 rfl rfl ?_
  refine oJoin (α := Heap) (fun w => h107.size ≤ w.size ∧ Exa Z w a107 sP ∧ oFw l Z n0 a107 bd 2 1 1 (fA21 c21) w ∧ oFw l Z n0 a107 bd 3 2 1 (fA32 c32) w ∧ oFw l Z n0 a107 bd 4 3 1 (fA43 c43) w ∧ oFw l Z n0 a107 bd 3 1 2 (fR31 c31 c32 c21) w ∧ oFw l Z n0 a107 bd 4 2 2 (fR42 c42 c43 c32) w ∧ oFw l Z n0 a107 bd 4 1 3 (fR41 c41 c43 c31 c32 c21 c42) w) (fun w => w) (fun _ => (mkF m 253 #[.val (.int b), .val (.int e), .val (.int q), .val (.int bd), .val (.long c21), .second, .val (.long c31), .second, .val (.long c41), .second, .val (.long c32), .second, .val (.long c42), .second, .val (.long c43), .second, .val (.long m1), .second, .val (.long m2), .second, .val (.long m3), .second, .val (.long m4), .second, .val (.ref a7), .val (.ref a17), .val (.ref a28), .val (.ref a39), .val (.ref a50), .unset, .unset, .unset, .unset, .unset, .unset, .unset, .unset, .unset, .unset, .unset, .unset, .unset, .unset] [.ref a107])) (k := 20) (n := 96) (fun hj253 PJ => ?_) (fun J253 => ?_)
  ·
   obtain ⟨jz253, je253, jc0, jc1, jc2, jc3, jc4, jc5⟩ := PJ
   show oW _ _ _ _ _ _ _ _ _ _ _ _ _ _ _ (mkF m 253 #[.val (.int b), .val (.int e), .val (.int q), .val (.int bd), .val (.long c21), .second, .val (.long c31), .second, .val (.long c41), .second, .val (.long c32), .second, .val (.long c42), .second, .val (.long c43), .second, .val (.long m1), .second, .val (.long m2), .second, .val (.long m3), .second, .val (.long m4), .second, .val (.ref a7), .val (.ref a17), .val (.ref a28), .val (.ref a39), .val (.ref a50), .unset, .unset, .unset, .unset, .unset, .unset, .unset, .unset, .unset, .unset, .unset, .unset, .unset, .unset] [.ref a107])
   refine oAstore C at_253 rfl (Ls' := #[.val (.int b), .val (.int e), .val (.int q), .val (.int bd), .val (.long c21), .second, .val (.long c31), .second, .val (.long c41), .second, .val (.long c32), .second, .val (.long c42), .second, .val (.long c43), .second, .val (.long m1), .second, .val (.long m2), .second, .val (.long m3), .second, .val (.long m4), .second, .val (.ref a7), .val (.ref a17), .val (.ref a28), .val (.ref a39), .val (.ref a50), .val (.ref a107), .unset, .unset, .unset, .unset, .unset, .unset, .unset, .unset, .unset, .unset, .unset, .unset, .unset]) rfl (q := 255) rfl ?_
   refine oJoin (α := Unit) (fun _ => True) (fun _ => hj253) (fun _ => (mkF m 267 #[.val (.int b), .val (.int e), .val (.int q), .val (.int bd), .val (.long c21), .second, .val (.long c31), .second, .val (.long c41), .second, .val (.long c32), .second, .val (.long c42), .second, .val (.long c43), .second, .val (.long m1), .second, .val (.long m2), .second, .val (.long m3), .second, .val (.long m4), .second, .val (.ref a7), .val (.ref a17), .val (.ref a28), .val (.ref a39), .val (.ref a50), .val (.ref a107), .unset, .unset, .unset, .unset, .unset, .unset, .unset, .unset, .unset, .unset, .unset, .unset, .unset] [.int (fA21 c21)])) (k := 20) (n := 96) (fun _ _ => ?_) (fun J267 => ?_)
   ·
    show oW _ _ _ _ _ _ _ _ _ _ _ _ _ _ _ (mkF m 267 #[.val (.int b), .val (.int e), .val (.int q), .val (.int bd), .val (.long c21), .second, .val (.long c31), .second, .val (.long c41), .second, .val (.long c32), .second, .val (.long c42), .second, .val (.long c43), .second, .val (.long m1), .second, .val (.long m2), .second, .val (.long m3), .second, .val (.long m4), .second, .val (.ref a7), .val (.ref a17), .val (.ref a28), .val (.ref a39), .val (.ref a50), .val (.ref a107), .unset, .unset, .unset, .unset, .unset, .unset, .unset, .unset, .unset, .unset, .unset, .unset, .unset] [.int (fA21 c21)])
    refine oIstore C at_267 (Ls' := #[.val (.int b), .val (.int e), .val (.int q), .val (.int bd), .val (.long c21), .second, .val (.long c31), .second, .val (.long c41), .second, .val (.long c32), .second, .val (.long c42), .second, .val (.long c43), .second, .val (.long m1), .second, .val (.long m2), .second, .val (.long m3), .second, .val (.long m4), .second, .val (.ref a7), .val (.ref a17), .val (.ref a28), .val (.ref a39), .val (.ref a50), .val (.ref a107), .val (.int (fA21 c21)), .unset, .unset, .unset, .unset, .unset, .unset, .unset, .unset, .unset, .unset, .unset, .unset]) rfl (q := 269) rfl ?_
    refine oJoin (α := Unit) (fun _ => True) (fun _ => hj253) (fun _ => (mkF m 281 #[.val (.int b), .val (.int e), .val (.int q), .val (.int bd), .val (.long c21), .second, .val (.long c31), .second, .val (.long c41), .second, .val (.long c32), .second, .val (.long c42), .second, .val (.long c43), .second, .val (.long m1), .second, .val (.long m2), .second, .val (.long m3), .second, .val (.long m4), .second, .val (.ref a7), .val (.ref a17), .val (.ref a28), .val (.ref a39), .val (.ref a50), .val (.ref a107), .val (.int (fA21 c21)), .unset, .unset, .unset, .unset, .unset, .unset, .unset, .unset, .unset, .unset, .unset, .unset] [.int (fA31 c31)])) (k := 20) (n := 96) (fun _ _ => ?_) (fun J281 => ?_)
    ·
     show oW _ _ _ _ _ _ _ _ _ _ _ _ _ _ _ (mkF m 281 #[.val (.int b), .val (.int e), .val (.int q), .val (.int bd), .val (.long c21), .second, .val (.long c31), .second, .val (.long c41), .second, .val (.long c32), .second, .val (.long c42), .second, .val (.long c43), .second, .val (.long m1), .second, .val (.long m2), .second, .val (.long m3), .second, .val (.long m4), .second, .val (.ref a7), .val (.ref a17), .val (.ref a28), .val (.ref a39), .val (.ref a50), .val (.ref a107), .val (.int (fA21 c21)), .unset, .unset, .unset, .unset, .unset, .unset, .unset, .unset, .unset, .unset, .unset, .unset] [.int (fA31 c31)])
     refine oIstore C at_281 (Ls' := #[.val (.int b), .val (.int e), .val (.int q), .val (.int bd), .val (.long c21), .second, .val (.long c31), .second, .val (.long c41), .second, .val (.long c32), .second, .val (.long c42), .second, .val (.long c43), .second, .val (.long m1), .second, .val (.long m2), .second, .val (.long m3), .second, .val (.long m4), .second, .val (.ref a7), .val (.ref a17), .val (.ref a28), .val (.ref a39), .val (.ref a50), .val (.ref a107), .val (.int (fA21 c21)), .val (.int (fA31 c31)), .unset, .unset, .unset, .unset, .unset, .unset, .unset, .unset, .unset, .unset, .unset]) rfl (q := 283) rfl ?_
     refine oJoin (α := Unit) (fun _ => True) (fun _ => hj253) (fun _ => (mkF m 295 #[.val (.int b), .val (.int e), .val (.int q), .val (.int bd), .val (.long c21), .second, .val (.long c31), .second, .val (.long c41), .second, .val (.long c32), .second, .val (.long c42), .second, .val (.long c43), .second, .val (.long m1), .second, .val (.long m2), .second, .val (.long m3), .second, .val (.long m4), .second, .val (.ref a7), .val (.ref a17), .val (.ref a28), .val (.ref a39), .val (.ref a50), .val (.ref a107), .val (.int (fA21 c21)), .val (.int (fA31 c31)), .unset, .unset, .unset, .unset, .unset, .unset, .unset, .unset, .unset, .unset, .unset] [.int (fA41 c41)])) (k := 20) (n := 96) (fun _ _ => ?_) (fun J295 => ?_)
     ·
      show oW _ _ _ _ _ _ _ _ _ _ _ _ _ _ _ (mkF m 295 #[.val (.int b), .val (.int e), .val (.int q), .val (.int bd), .val (.long c21), .second, .val (.long c31), .second, .val (.long c41), .second, .val (.long c32), .second, .val (.long c42), .second, .val (.long c43), .second, .val (.long m1), .second, .val (.long m2), .second, .val (.long m3), .second, .val (.long m4), .second, .val (.ref a7), .val (.ref a17), .val (.ref a28), .val (.ref a39), .val (.ref a50), .val (.ref a107), .val (.int (fA21 c21)), .val (.int (fA31 c31)), .unset, .unset, .unset, .unset, .unset, .unset, .unset, .unset, .unset, .unset, .unset] [.int (fA41 c41)])
      refine oIstore C at_295 (Ls' := #[.val (.int b), .val (.int e), .val (.int q), .val (.int bd), .val (.long c21), .second, .val (.long c31), .second, .val (.long c41), .second, .val (.long c32), .second, .val (.long c42), .second, .val (.long c43), .second, .val (.long m1), .second, .val (.long m2), .second, .val (.long m3), .second, .val (.long m4), .second, .val (.ref a7), .val (.ref a17), .val (.ref a28), .val (.ref a39), .val (.ref a50), .val (.ref a107), .val (.int (fA21 c21)), .val (.int (fA31 c31)), .val (.int (fA41 c41)), .unset, .unset, .unset, .unset, .unset, .unset, .unset, .unset, .unset, .unset]) rfl (q := 297) rfl ?_
      refine oJoin (α := Unit) (fun _ => True) (fun _ => hj253) (fun _ => (mkF m 309 #[.val (.int b), .val (.int e), .val (.int q), .val (.int bd), .val (.long c21), .second, .val (.long c31), .second, .val (.long c41), .second, .val (.long c32), .second, .val (.long c42), .second, .val (.long c43), .second, .val (.long m1), .second, .val (.long m2), .second, .val (.long m3), .second, .val (.long m4), .second, .val (.ref a7), .val (.ref a17), .val (.ref a28), .val (.ref a39), .val (.ref a50), .val (.ref a107), .val (.int (fA21 c21)), .val (.int (fA31 c31)), .val (.int (fA41 c41)), .unset, .unset, .unset, .unset, .unset, .unset, .unset, .unset, .unset, .unset] [.int (fA32 c32)])) (k := 20) (n := 96) (fun _ _ => ?_) (fun J309 => ?_)
      ·
       show oW _ _ _ _ _ _ _ _ _ _ _ _ _ _ _ (mkF m 309 #[.val (.int b), .val (.int e), .val (.int q), .val (.int bd), .val (.long c21), .second, .val (.long c31), .second, .val (.long c41), .second, .val (.long c32), .second, .val (.long c42), .second, .val (.long c43), .second, .val (.long m1), .second, .val (.long m2), .second, .val (.long m3), .second, .val (.long m4), .second, .val (.ref a7), .val (.ref a17), .val (.ref a28), .val (.ref a39), .val (.ref a50), .val (.ref a107), .val (.int (fA21 c21)), .val (.int (fA31 c31)), .val (.int (fA41 c41)), .unset, .unset, .unset, .unset, .unset, .unset, .unset, .unset, .unset, .unset] [.int (fA32 c32)])
       refine oIstore C at_309 (Ls' := #[.val (.int b), .val (.int e), .val (.int q), .val (.int bd), .val (.long c21), .second, .val (.long c31), .second, .val (.long c41), .second, .val (.long c32), .second, .val (.long c42), .second, .val (.long c43), .second, .val (.long m1), .second, .val (.long m2), .second, .val (.long m3), .second, .val (.long m4), .second, .val (.ref a7), .val (.ref a17), .val (.ref a28), .val (.ref a39), .val (.ref a50), .val (.ref a107), .val (.int (fA21 c21)), .val (.int (fA31 c31)), .val (.int (fA41 c41)), .val (.int (fA32 c32)), .unset, .unset, .unset, .unset, .unset, .unset, .unset, .unset, .unset]) rfl (q := 311) rfl ?_
       refine oJoin (α := Unit) (fun _ => True) (fun _ => hj253) (fun _ => (mkF m 323 #[.val (.int b), .val (.int e), .val (.int q), .val (.int bd), .val (.long c21), .second, .val (.long c31), .second, .val (.long c41), .second, .val (.long c32), .second, .val (.long c42), .second, .val (.long c43), .second, .val (.long m1), .second, .val (.long m2), .second, .val (.long m3), .second, .val (.long m4), .second, .val (.ref a7), .val (.ref a17), .val (.ref a28), .val (.ref a39), .val (.ref a50), .val (.ref a107), .val (.int (fA21 c21)), .val (.int (fA31 c31)), .val (.int (fA41 c41)), .val (.int (fA32 c32)), .unset, .unset, .unset, .unset, .unset, .unset, .unset, .unset, .unset] [.int (fA42 c42)])) (k := 20) (n := 96) (fun _ _ => ?_) (fun J323 => ?_)
       ·
        show oW _ _ _ _ _ _ _ _ _ _ _ _ _ _ _ (mkF m 323 #[.val (.int b), .val (.int e), .val (.int q), .val (.int bd), .val (.long c21), .second, .val (.long c31), .second, .val (.long c41), .second, .val (.long c32), .second, .val (.long c42), .second, .val (.long c43), .second, .val (.long m1), .second, .val (.long m2), .second, .val (.long m3), .second, .val (.long m4), .second, .val (.ref a7), .val (.ref a17), .val (.ref a28), .val (.ref a39), .val (.ref a50), .val (.ref a107), .val (.int (fA21 c21)), .val (.int (fA31 c31)), .val (.int (fA41 c41)), .val (.int (fA32 c32)), .unset, .unset, .unset, .unset, .unset, .unset, .unset, .unset, .unset] [.int (fA42 c42)])
        refine oIstore C at_323 (Ls' := #[.val (.int b), .val (.int e), .val (.int q), .val (.int bd), .val (.long c21), .second, .val (.long c31), .second, .val (.long c41), .second, .val (.long c32), .second, .val (.long c42), .second, .val (.long c43), .second, .val (.long m1), .second, .val (.long m2), .second, .val (.long m3), .second, .val (.long m4), .second, .val (.ref a7), .val (.ref a17), .val (.ref a28), .val (.ref a39), .val (.ref a50), .val (.ref a107), .val (.int (fA21 c21)), .val (.int (fA31 c31)), .val (.int (fA41 c41)), .val (.int (fA32 c32)), .val (.int (fA42 c42)), .unset, .unset, .unset, .unset, .unset, .unset, .unset, .unset]) rfl (q := 325) rfl ?_
        refine oJoin (α := Unit) (fun _ => True) (fun _ => hj253) (fun _ => (mkF m 337 #[.val (.int b), .val (.int e), .val (.int q), .val (.int bd), .val (.long c21), .second, .val (.long c31), .second, .val (.long c41), .second, .val (.long c32), .second, .val (.long c42), .second, .val (.long c43), .second, .val (.long m1), .second, .val (.long m2), .second, .val (.long m3), .second, .val (.long m4), .second, .val (.ref a7), .val (.ref a17), .val (.ref a28), .val (.ref a39), .val (.ref a50), .val (.ref a107), .val (.int (fA21 c21)), .val (.int (fA31 c31)), .val (.int (fA41 c41)), .val (.int (fA32 c32)), .val (.int (fA42 c42)), .unset, .unset, .unset, .unset, .unset, .unset, .unset, .unset] [.int (fA43 c43)])) (k := 20) (n := 96) (fun _ _ => ?_) (fun J337 => ?_)
        ·
         show oW _ _ _ _ _ _ _ _ _ _ _ _ _ _ _ (mkF m 337 #[.val (.int b), .val (.int e), .val (.int q), .val (.int bd), .val (.long c21), .second, .val (.long c31), .second, .val (.long c41), .second, .val (.long c32), .second, .val (.long c42), .second, .val (.long c43), .second, .val (.long m1), .second, .val (.long m2), .second, .val (.long m3), .second, .val (.long m4), .second, .val (.ref a7), .val (.ref a17), .val (.ref a28), .val (.ref a39), .val (.ref a50), .val (.ref a107), .val (.int (fA21 c21)), .val (.int (fA31 c31)), .val (.int (fA41 c41)), .val (.int (fA32 c32)), .val (.int (fA42 c42)), .unset, .unset, .unset, .unset, .unset, .unset, .unset, .unset] [.int (fA43 c43)])
         refine oIstore C at_337 (Ls' := #[.val (.int b), .val (.int e), .val (.int q), .val (.int bd), .val (.long c21), .second, .val (.long c31), .second, .val (.long c41), .second, .val (.long c32), .second, .val (.long c42), .second, .val (.long c43), .second, .val (.long m1), .second, .val (.long m2), .second, .val (.long m3), .second, .val (.long m4), .second, .val (.ref a7), .val (.ref a17), .val (.ref a28), .val (.ref a39), .val (.ref a50), .val (.ref a107), .val (.int (fA21 c21)), .val (.int (fA31 c31)), .val (.int (fA41 c41)), .val (.int (fA32 c32)), .val (.int (fA42 c42)), .val (.int (fA43 c43)), .unset, .unset, .unset, .unset, .unset, .unset, .unset]) rfl (q := 339) rfl ?_
         refine oJoin (α := Unit) (fun _ => True) (fun _ => hj253) (fun _ => (mkF m 359 #[.val (.int b), .val (.int e), .val (.int q), .val (.int bd), .val (.long c21), .second, .val (.long c31), .second, .val (.long c41), .second, .val (.long c32), .second, .val (.long c42), .second, .val (.long c43), .second, .val (.long m1), .second, .val (.long m2), .second, .val (.long m3), .second, .val (.long m4), .second, .val (.ref a7), .val (.ref a17), .val (.ref a28), .val (.ref a39), .val (.ref a50), .val (.ref a107), .val (.int (fA21 c21)), .val (.int (fA31 c31)), .val (.int (fA41 c41)), .val (.int (fA32 c32)), .val (.int (fA42 c42)), .val (.int (fA43 c43)), .unset, .unset, .unset, .unset, .unset, .unset, .unset] [.int (fR31 c31 c32 c21)])) (k := 20) (n := 96) (fun _ _ => ?_) (fun J359 => ?_)
         ·
          show oW _ _ _ _ _ _ _ _ _ _ _ _ _ _ _ (mkF m 359 #[.val (.int b), .val (.int e), .val (.int q), .val (.int bd), .val (.long c21), .second, .val (.long c31), .second, .val (.long c41), .second, .val (.long c32), .second, .val (.long c42), .second, .val (.long c43), .second, .val (.long m1), .second, .val (.long m2), .second, .val (.long m3), .second, .val (.long m4), .second, .val (.ref a7), .val (.ref a17), .val (.ref a28), .val (.ref a39), .val (.ref a50), .val (.ref a107), .val (.int (fA21 c21)), .val (.int (fA31 c31)), .val (.int (fA41 c41)), .val (.int (fA32 c32)), .val (.int (fA42 c42)), .val (.int (fA43 c43)), .unset, .unset, .unset, .unset, .unset, .unset, .unset] [.int (fR31 c31 c32 c21)])
          refine oIstore C at_359 (Ls' := #[.val (.int b), .val (.int e), .val (.int q), .val (.int bd), .val (.long c21), .second, .val (.long c31), .second, .val (.long c41), .second, .val (.long c32), .second, .val (.long c42), .second, .val (.long c43), .second, .val (.long m1), .second, .val (.long m2), .second, .val (.long m3), .second, .val (.long m4), .second, .val (.ref a7), .val (.ref a17), .val (.ref a28), .val (.ref a39), .val (.ref a50), .val (.ref a107), .val (.int (fA21 c21)), .val (.int (fA31 c31)), .val (.int (fA41 c41)), .val (.int (fA32 c32)), .val (.int (fA42 c42)), .val (.int (fA43 c43)), .val (.int (fR31 c31 c32 c21)), .unset, .unset, .unset, .unset, .unset, .unset]) rfl (q := 361) rfl ?_
          refine oJoin (α := Unit) (fun _ => True) (fun _ => hj253) (fun _ => (mkF m 381 #[.val (.int b), .val (.int e), .val (.int q), .val (.int bd), .val (.long c21), .second, .val (.long c31), .second, .val (.long c41), .second, .val (.long c32), .second, .val (.long c42), .second, .val (.long c43), .second, .val (.long m1), .second, .val (.long m2), .second, .val (.long m3), .second, .val (.long m4), .second, .val (.ref a7), .val (.ref a17), .val (.ref a28), .val (.ref a39), .val (.ref a50), .val (.ref a107), .val (.int (fA21 c21)), .val (.int (fA31 c31)), .val (.int (fA41 c41)), .val (.int (fA32 c32)), .val (.int (fA42 c42)), .val (.int (fA43 c43)), .val (.int (fR31 c31 c32 c21)), .unset, .unset, .unset, .unset, .unset, .unset] [.int (fR42 c42 c43 c32)])) (k := 20) (n := 96) (fun _ _ => ?_) (fun J381 => ?_)
          ·
           show oW _ _ _ _ _ _ _ _ _ _ _ _ _ _ _ (mkF m 381 #[.val (.int b), .val (.int e), .val (.int q), .val (.int bd), .val (.long c21), .second, .val (.long c31), .second, .val (.long c41), .second, .val (.long c32), .second, .val (.long c42), .second, .val (.long c43), .second, .val (.long m1), .second, .val (.long m2), .second, .val (.long m3), .second, .val (.long m4), .second, .val (.ref a7), .val (.ref a17), .val (.ref a28), .val (.ref a39), .val (.ref a50), .val (.ref a107), .val (.int (fA21 c21)), .val (.int (fA31 c31)), .val (.int (fA41 c41)), .val (.int (fA32 c32)), .val (.int (fA42 c42)), .val (.int (fA43 c43)), .val (.int (fR31 c31 c32 c21)), .unset, .unset, .unset, .unset, .unset, .unset] [.int (fR42 c42 c43 c32)])
           refine oIstore C at_381 (Ls' := #[.val (.int b), .val (.int e), .val (.int q), .val (.int bd), .val (.long c21), .second, .val (.long c31), .second, .val (.long c41), .second, .val (.long c32), .second, .val (.long c42), .second, .val (.long c43), .second, .val (.long m1), .second, .val (.long m2), .second, .val (.long m3), .second, .val (.long m4), .second, .val (.ref a7), .val (.ref a17), .val (.ref a28), .val (.ref a39), .val (.ref a50), .val (.ref a107), .val (.int (fA21 c21)), .val (.int (fA31 c31)), .val (.int (fA41 c41)), .val (.int (fA32 c32)), .val (.int (fA42 c42)), .val (.int (fA43 c43)), .val (.int (fR31 c31 c32 c21)), .val (.int (fR42 c42 c43 c32)), .unset, .unset, .unset, .unset, .unset]) rfl (q := 383) rfl ?_
           refine oJoin (α := Unit) (fun _ => True) (fun _ => hj253) (fun _ => (mkF m 413 #[.val (.int b), .val (.int e), .val (.int q), .val (.int bd), .val (.long c21), .second, .val (.long c31), .second, .val (.long c41), .second, .val (.long c32), .second, .val (.long c42), .second, .val (.long c43), .second, .val (.long m1), .second, .val (.long m2), .second, .val (.long m3), .second, .val (.long m4), .second, .val (.ref a7), .val (.ref a17), .val (.ref a28), .val (.ref a39), .val (.ref a50), .val (.ref a107), .val (.int (fA21 c21)), .val (.int (fA31 c31)), .val (.int (fA41 c41)), .val (.int (fA32 c32)), .val (.int (fA42 c42)), .val (.int (fA43 c43)), .val (.int (fR31 c31 c32 c21)), .val (.int (fR42 c42 c43 c32)), .unset, .unset, .unset, .unset, .unset] [.int (fR41 c41 c43 c31 c32 c21 c42)])) (k := 20) (n := 96) (fun _ _ => ?_) (fun J413 => ?_)
           ·
            show oW _ _ _ _ _ _ _ _ _ _ _ _ _ _ _ (mkF m 413 #[.val (.int b), .val (.int e), .val (.int q), .val (.int bd), .val (.long c21), .second, .val (.long c31), .second, .val (.long c41), .second, .val (.long c32), .second, .val (.long c42), .second, .val (.long c43), .second, .val (.long m1), .second, .val (.long m2), .second, .val (.long m3), .second, .val (.long m4), .second, .val (.ref a7), .val (.ref a17), .val (.ref a28), .val (.ref a39), .val (.ref a50), .val (.ref a107), .val (.int (fA21 c21)), .val (.int (fA31 c31)), .val (.int (fA41 c41)), .val (.int (fA32 c32)), .val (.int (fA42 c42)), .val (.int (fA43 c43)), .val (.int (fR31 c31 c32 c21)), .val (.int (fR42 c42 c43 c32)), .unset, .unset, .unset, .unset, .unset] [.int (fR41 c41 c43 c31 c32 c21 c42)])
            refine oIstore C at_413 (Ls' := #[.val (.int b), .val (.int e), .val (.int q), .val (.int bd), .val (.long c21), .second, .val (.long c31), .second, .val (.long c41), .second, .val (.long c32), .second, .val (.long c42), .second, .val (.long c43), .second, .val (.long m1), .second, .val (.long m2), .second, .val (.long m3), .second, .val (.long m4), .second, .val (.ref a7), .val (.ref a17), .val (.ref a28), .val (.ref a39), .val (.ref a50), .val (.ref a107), .val (.int (fA21 c21)), .val (.int (fA31 c31)), .val (.int (fA41 c41)), .val (.int (fA32 c32)), .val (.int (fA42 c42)), .val (.int (fA43 c43)), .val (.int (fR31 c31 c32 c21)), .val (.int (fR42 c42 c43 c32)), .val (.int (fR41 c41 c43 c31 c32 c21 c42)), .unset, .unset, .unset, .unset]) rfl (q := 415) rfl ?_
            refine oIloadN C at_415 rfl rfl ?_
            refine oLdc C (w165 hw) at_416 rfl ?_
            refine oIand C at_418 rfl ?_
            refine oBipush C at_419 (z := 6) rfl rfl ?_
            refine oIrem C at_421 (by decide) rfl ?_
            obtain ⟨kq, e_kq⟩ : ∃ z, z = ((q &&& (2147483647 : Int32)) % (6 : Int32)) := ⟨_, rfl⟩
            refine oCastI e_kq.symm ?_
            refine oIstore C at_422 (Ls' := #[.val (.int b), .val (.int e), .val (.int q), .val (.int bd), .val (.long c21), .second, .val (.long c31), .second, .val (.long c41), .second, .val (.long c32), .second, .val (.long c42), .second, .val (.long c43), .second, .val (.long m1), .second, .val (.long m2), .second, .val (.long m3), .second, .val (.long m4), .second, .val (.ref a7), .val (.ref a17), .val (.ref a28), .val (.ref a39), .val (.ref a50), .val (.ref a107), .val (.int (fA21 c21)), .val (.int (fA31 c31)), .val (.int (fA41 c41)), .val (.int (fA32 c32)), .val (.int (fA42 c42)), .val (.int (fA43 c43)), .val (.int (fR31 c31 c32 c21)), .val (.int (fR42 c42 c43 c32)), .val (.int (fR41 c41 c43 c31 c32 c21 c42)), .val (.int kq), .unset, .unset, .unset]) rfl (q := 424) rfl ?_
            refine oIload C at_424 rfl rfl ?_
            refine oIf_ne C at_426 (q := 442) (by decide) (by decide) (r := 429) rfl (fun hc426 => ?_) (fun hc426 => ?_)
            ·
             refine oIload C at_442 rfl rfl ?_
             refine oIconst C at_444 (z := 1) rfl rfl ?_
             refine oIcmp_ne C at_445 (q := 461) (by decide) (by decide) (r := 448) rfl (fun hc445 => ?_) (fun hc445 => ?_)
             ·
              refine oIload C at_461 rfl rfl ?_
              refine oIconst C at_463 (z := 2) rfl rfl ?_
              refine oIcmp_ne C at_464 (q := 480) (by decide) (by decide) (r := 467) rfl (fun hc464 => ?_) (fun hc464 => ?_)
              ·
               refine oIload C at_480 rfl rfl ?_
               refine oIconst C at_482 (z := 3) rfl rfl ?_
               refine oIcmp_ne C at_483 (q := 499) (by decide) (by decide) (r := 486) rfl (fun hc483 => ?_) (fun hc483 => ?_)
               ·
                refine oIload C at_499 rfl rfl ?_
                refine oIconst C at_501 (z := 4) rfl rfl ?_
                refine oIcmp_ne C at_502 (q := 518) (by decide) (by decide) (r := 505) rfl (fun hc502 => ?_) (fun hc502 => ?_)
                ·
                 refine oIconst C at_518 (z := 4) rfl rfl ?_
                 refine oIstore C at_519 (Ls' := #[.val (.int b), .val (.int e), .val (.int q), .val (.int bd), .val (.long c21), .second, .val (.long c31), .second, .val (.long c41), .second, .val (.long c32), .second, .val (.long c42), .second, .val (.long c43), .second, .val (.long m1), .second, .val (.long m2), .second, .val (.long m3), .second, .val (.long m4), .second, .val (.ref a7), .val (.ref a17), .val (.ref a28), .val (.ref a39), .val (.ref a50), .val (.ref a107), .val (.int (fA21 c21)), .val (.int (fA31 c31)), .val (.int (fA41 c41)), .val (.int (fA32 c32)), .val (.int (fA42 c42)), .val (.int (fA43 c43)), .val (.int (fR31 c31 c32 c21)), .val (.int (fR42 c42 c43 c32)), .val (.int (fR41 c41 c43 c31 c32 c21 c42)), .val (.int kq), .val (.int 4), .unset, .unset]) rfl (q := 521) rfl ?_
                 refine oIconst C at_521 (z := 1) rfl rfl ?_
                 refine oIstore C at_522 (Ls' := #[.val (.int b), .val (.int e), .val (.int q), .val (.int bd), .val (.long c21), .second, .val (.long c31), .second, .val (.long c41), .second, .val (.long c32), .second, .val (.long c42), .second, .val (.long c43), .second, .val (.long m1), .second, .val (.long m2), .second, .val (.long m3), .second, .val (.long m4), .second, .val (.ref a7), .val (.ref a17), .val (.ref a28), .val (.ref a39), .val (.ref a50), .val (.ref a107), .val (.int (fA21 c21)), .val (.int (fA31 c31)), .val (.int (fA41 c41)), .val (.int (fA32 c32)), .val (.int (fA42 c42)), .val (.int (fA43 c43)), .val (.int (fR31 c31 c32 c21)), .val (.int (fR42 c42 c43 c32)), .val (.int (fR41 c41 c43 c31 c32 c21 c42)), .val (.int kq), .val (.int 4), .val (.int 1), .unset]) rfl (q := 524) rfl ?_
                 refine oIload C at_524 rfl rfl ?_
                 refine oIstore C at_526 (Ls' := #[.val (.int b), .val (.int e), .val (.int q), .val (.int bd), .val (.long c21), .second, .val (.long c31), .second, .val (.long c41), .second, .val (.long c32), .second, .val (.long c42), .second, .val (.long c43), .second, .val (.long m1), .second, .val (.long m2), .second, .val (.long m3), .second, .val (.long m4), .second, .val (.ref a7), .val (.ref a17), .val (.ref a28), .val (.ref a39), .val (.ref a50), .val (.ref a107), .val (.int (fA21 c21)), .val (.int (fA31 c31)), .val (.int (fA41 c41)), .val (.int (fA32 c32)), .val (.int (fA42 c42)), .val (.int (fA43 c43)), .val (.int (fR31 c31 c32 c21)), .val (.int (fR42 c42 c43 c32)), .val (.int (fR41 c41 c43 c31 c32 c21 c42)), .val (.int kq), .val (.int 4), .val (.int 1), .val (.int (fR41 c41 c43 c31 c32 c21 c42))]) rfl (q := 528) rfl ?_
                 refine oIload C at_528 rfl rfl ?_
                 refine oIload C at_530 rfl rfl ?_
                 refine oIsub C at_532 rfl ?_
                 refine oCastI (z' := (3 : Int32)) (by decide) ?_
                 refine oIloadN C at_533 rfl rfl ?_
                 refine oIcmp_lt C at_534 (q := 539) (by decide) (by decide) (r := 537) rfl (fun hc534 => ?_) (fun hc534 => ?_)
                 ·
                  refine oAload C at_539 rfl rfl rfl ?_
                  refine oIload C at_541 rfl rfl ?_
                  refine oIload C at_543 rfl rfl ?_
                  refine oCallV C (w201 hw) (w167 hw) (w169 hw) (w168 hw) (w118 hw) (w170 hw) at_545 je253 (by decide) pd_947254 rfl rfl (a := a107) (argsL := [.int 4, .int 1]) (rest := []) rfl (W := 0) rfl (q := 548) rfl (by decide) (by decide) (by decide) (by decide) (jc5 hc534) (oPureK ?_)
                  refine oIload C at_548 rfl rfl ?_
                  refine oIcmp_ne C at_550 (q := 557) (by decide) (by decide) (r := 553) rfl (fun hq => absurd hq (not_not_intro rfl)) (fun hc550 => ?_)
                  refine oIconst C at_553 (z := 1) rfl rfl ?_
                  refine oGoto C at_554 (q := 558) (by decide) (by decide) ?_
                  refine oRetZW C hS (Nat.le_trans (Nat.le_trans (Nat.le_trans (Nat.le_trans (Nat.le_trans (Nat.le_trans (Nat.le_trans (Nat.le_trans (Nat.le_trans hk K48.1) E50.1) K53.1) K73.1) K85.1) K96.1) K106.1) E107.1) jz253) at_558 (z' := (1 : Int32)) rfl (by decide) (by decide) ?_
                  exact rfl
                 ·
                  refine oIconst C at_537 (z := 1) rfl rfl ?_
                  refine oRetZW C hS (Nat.le_trans (Nat.le_trans (Nat.le_trans (Nat.le_trans (Nat.le_trans (Nat.le_trans (Nat.le_trans (Nat.le_trans (Nat.le_trans hk K48.1) E50.1) K53.1) K73.1) K85.1) K96.1) K106.1) E107.1) jz253) at_538 (z' := (1 : Int32)) rfl (by decide) (by decide) ?_
                  exact rfl
                ·
                 refine oIconst C at_505 (z := 4) rfl rfl ?_
                 refine oIstore C at_506 (Ls' := #[.val (.int b), .val (.int e), .val (.int q), .val (.int bd), .val (.long c21), .second, .val (.long c31), .second, .val (.long c41), .second, .val (.long c32), .second, .val (.long c42), .second, .val (.long c43), .second, .val (.long m1), .second, .val (.long m2), .second, .val (.long m3), .second, .val (.long m4), .second, .val (.ref a7), .val (.ref a17), .val (.ref a28), .val (.ref a39), .val (.ref a50), .val (.ref a107), .val (.int (fA21 c21)), .val (.int (fA31 c31)), .val (.int (fA41 c41)), .val (.int (fA32 c32)), .val (.int (fA42 c42)), .val (.int (fA43 c43)), .val (.int (fR31 c31 c32 c21)), .val (.int (fR42 c42 c43 c32)), .val (.int (fR41 c41 c43 c31 c32 c21 c42)), .val (.int kq), .val (.int 4), .unset, .unset]) rfl (q := 508) rfl ?_
                 refine oIconst C at_508 (z := 2) rfl rfl ?_
                 refine oIstore C at_509 (Ls' := #[.val (.int b), .val (.int e), .val (.int q), .val (.int bd), .val (.long c21), .second, .val (.long c31), .second, .val (.long c41), .second, .val (.long c32), .second, .val (.long c42), .second, .val (.long c43), .second, .val (.long m1), .second, .val (.long m2), .second, .val (.long m3), .second, .val (.long m4), .second, .val (.ref a7), .val (.ref a17), .val (.ref a28), .val (.ref a39), .val (.ref a50), .val (.ref a107), .val (.int (fA21 c21)), .val (.int (fA31 c31)), .val (.int (fA41 c41)), .val (.int (fA32 c32)), .val (.int (fA42 c42)), .val (.int (fA43 c43)), .val (.int (fR31 c31 c32 c21)), .val (.int (fR42 c42 c43 c32)), .val (.int (fR41 c41 c43 c31 c32 c21 c42)), .val (.int kq), .val (.int 4), .val (.int 2), .unset]) rfl (q := 511) rfl ?_
                 refine oIload C at_511 rfl rfl ?_
                 refine oIstore C at_513 (Ls' := #[.val (.int b), .val (.int e), .val (.int q), .val (.int bd), .val (.long c21), .second, .val (.long c31), .second, .val (.long c41), .second, .val (.long c32), .second, .val (.long c42), .second, .val (.long c43), .second, .val (.long m1), .second, .val (.long m2), .second, .val (.long m3), .second, .val (.long m4), .second, .val (.ref a7), .val (.ref a17), .val (.ref a28), .val (.ref a39), .val (.ref a50), .val (.ref a107), .val (.int (fA21 c21)), .val (.int (fA31 c31)), .val (.int (fA41 c41)), .val (.int (fA32 c32)), .val (.int (fA42 c42)), .val (.int (fA43 c43)), .val (.int (fR31 c31 c32 c21)), .val (.int (fR42 c42 c43 c32)), .val (.int (fR41 c41 c43 c31 c32 c21 c42)), .val (.int kq), .val (.int 4), .val (.int 2), .val (.int (fR42 c42 c43 c32))]) rfl (q := 515) rfl ?_
                 refine oGoto C at_515 (q := 528) (by decide) (by decide) ?_
                 refine oIload C at_528 rfl rfl ?_
                 refine oIload C at_530 rfl rfl ?_
                 refine oIsub C at_532 rfl ?_
                 refine oCastI (z' := (2 : Int32)) (by decide) ?_
                 refine oIloadN C at_533 rfl rfl ?_
                 refine oIcmp_lt C at_534 (q := 539) (by decide) (by decide) (r := 537) rfl (fun hc534 => ?_) (fun hc534 => ?_)
                 ·
                  refine oAload C at_539 rfl rfl rfl ?_
                  refine oIload C at_541 rfl rfl ?_
                  refine oIload C at_543 rfl rfl ?_
                  refine oCallV C (w201 hw) (w167 hw) (w169 hw) (w168 hw) (w118 hw) (w170 hw) at_545 je253 (by decide) pd_947254 rfl rfl (a := a107) (argsL := [.int 4, .int 2]) (rest := []) rfl (W := 0) rfl (q := 548) rfl (by decide) (by decide) (by decide) (by decide) (jc4 hc534) (oPureK ?_)
                  refine oIload C at_548 rfl rfl ?_
                  refine oIcmp_ne C at_550 (q := 557) (by decide) (by decide) (r := 553) rfl (fun hq => absurd hq (not_not_intro rfl)) (fun hc550 => ?_)
                  refine oIconst C at_553 (z := 1) rfl rfl ?_
                  refine oGoto C at_554 (q := 558) (by decide) (by decide) ?_
                  refine oRetZW C hS (Nat.le_trans (Nat.le_trans (Nat.le_trans (Nat.le_trans (Nat.le_trans (Nat.le_trans (Nat.le_trans (Nat.le_trans (Nat.le_trans hk K48.1) E50.1) K53.1) K73.1) K85.1) K96.1) K106.1) E107.1) jz253) at_558 (z' := (1 : Int32)) rfl (by decide) (by decide) ?_
                  exact rfl
                 ·
                  refine oIconst C at_537 (z := 1) rfl rfl ?_
                  refine oRetZW C hS (Nat.le_trans (Nat.le_trans (Nat.le_trans (Nat.le_trans (Nat.le_trans (Nat.le_trans (Nat.le_trans (Nat.le_trans (Nat.le_trans hk K48.1) E50.1) K53.1) K73.1) K85.1) K96.1) K106.1) E107.1) jz253) at_538 (z' := (1 : Int32)) rfl (by decide) (by decide) ?_
                  exact rfl
               ·
                refine oIconst C at_486 (z := 3) rfl rfl ?_
                refine oIstore C at_487 (Ls' := #[.val (.int b), .val (.int e), .val (.int q), .val (.int bd), .val (.long c21), .second, .val (.long c31), .second, .val (.long c41), .second, .val (.long c32), .second, .val (.long c42), .second, .val (.long c43), .second, .val (.long m1), .second, .val (.long m2), .second, .val (.long m3), .second, .val (.long m4), .second, .val (.ref a7), .val (.ref a17), .val (.ref a28), .val (.ref a39), .val (.ref a50), .val (.ref a107), .val (.int (fA21 c21)), .val (.int (fA31 c31)), .val (.int (fA41 c41)), .val (.int (fA32 c32)), .val (.int (fA42 c42)), .val (.int (fA43 c43)), .val (.int (fR31 c31 c32 c21)), .val (.int (fR42 c42 c43 c32)), .val (.int (fR41 c41 c43 c31 c32 c21 c42)), .val (.int kq), .val (.int 3), .unset, .unset]) rfl (q := 489) rfl ?_
                refine oIconst C at_489 (z := 1) rfl rfl ?_
                refine oIstore C at_490 (Ls' := #[.val (.int b), .val (.int e), .val (.int q), .val (.int bd), .val (.long c21), .second, .val (.long c31), .second, .val (.long c41), .second, .val (.long c32), .second, .val (.long c42), .second, .val (.long c43), .second, .val (.long m1), .second, .val (.long m2), .second, .val (.long m3), .second, .val (.long m4), .second, .val (.ref a7), .val (.ref a17), .val (.ref a28), .val (.ref a39), .val (.ref a50), .val (.ref a107), .val (.int (fA21 c21)), .val (.int (fA31 c31)), .val (.int (fA41 c41)), .val (.int (fA32 c32)), .val (.int (fA42 c42)), .val (.int (fA43 c43)), .val (.int (fR31 c31 c32 c21)), .val (.int (fR42 c42 c43 c32)), .val (.int (fR41 c41 c43 c31 c32 c21 c42)), .val (.int kq), .val (.int 3), .val (.int 1), .unset]) rfl (q := 492) rfl ?_
                refine oIload C at_492 rfl rfl ?_
                refine oIstore C at_494 (Ls' := #[.val (.int b), .val (.int e), .val (.int q), .val (.int bd), .val (.long c21), .second, .val (.long c31), .second, .val (.long c41), .second, .val (.long c32), .second, .val (.long c42), .second, .val (.long c43), .second, .val (.long m1), .second, .val (.long m2), .second, .val (.long m3), .second, .val (.long m4), .second, .val (.ref a7), .val (.ref a17), .val (.ref a28), .val (.ref a39), .val (.ref a50), .val (.ref a107), .val (.int (fA21 c21)), .val (.int (fA31 c31)), .val (.int (fA41 c41)), .val (.int (fA32 c32)), .val (.int (fA42 c42)), .val (.int (fA43 c43)), .val (.int (fR31 c31 c32 c21)), .val (.int (fR42 c42 c43 c32)), .val (.int (fR41 c41 c43 c31 c32 c21 c42)), .val (.int kq), .val (.int 3), .val (.int 1), .val (.int (fR31 c31 c32 c21))]) rfl (q := 496) rfl ?_
                refine oGoto C at_496 (q := 528) (by decide) (by decide) ?_
                refine oIload C at_528 rfl rfl ?_
                refine oIload C at_530 rfl rfl ?_
                refine oIsub C at_532 rfl ?_
                refine oCastI (z' := (2 : Int32)) (by decide) ?_
                refine oIloadN C at_533 rfl rfl ?_
                refine oIcmp_lt C at_534 (q := 539) (by decide) (by decide) (r := 537) rfl (fun hc534 => ?_) (fun hc534 => ?_)
                ·
                 refine oAload C at_539 rfl rfl rfl ?_
                 refine oIload C at_541 rfl rfl ?_
                 refine oIload C at_543 rfl rfl ?_
                 refine oCallV C (w201 hw) (w167 hw) (w169 hw) (w168 hw) (w118 hw) (w170 hw) at_545 je253 (by decide) pd_947254 rfl rfl (a := a107) (argsL := [.int 3, .int 1]) (rest := []) rfl (W := 0) rfl (q := 548) rfl (by decide) (by decide) (by decide) (by decide) (jc3 hc534) (oPureK ?_)
                 refine oIload C at_548 rfl rfl ?_
                 refine oIcmp_ne C at_550 (q := 557) (by decide) (by decide) (r := 553) rfl (fun hq => absurd hq (not_not_intro rfl)) (fun hc550 => ?_)
                 refine oIconst C at_553 (z := 1) rfl rfl ?_
                 refine oGoto C at_554 (q := 558) (by decide) (by decide) ?_
                 refine oRetZW C hS (Nat.le_trans (Nat.le_trans (Nat.le_trans (Nat.le_trans (Nat.le_trans (Nat.le_trans (Nat.le_trans (Nat.le_trans (Nat.le_trans hk K48.1) E50.1) K53.1) K73.1) K85.1) K96.1) K106.1) E107.1) jz253) at_558 (z' := (1 : Int32)) rfl (by decide) (by decide) ?_
                 exact rfl
                ·
                 refine oIconst C at_537 (z := 1) rfl rfl ?_
                 refine oRetZW C hS (Nat.le_trans (Nat.le_trans (Nat.le_trans (Nat.le_trans (Nat.le_trans (Nat.le_trans (Nat.le_trans (Nat.le_trans (Nat.le_trans hk K48.1) E50.1) K53.1) K73.1) K85.1) K96.1) K106.1) E107.1) jz253) at_538 (z' := (1 : Int32)) rfl (by decide) (by decide) ?_
                 exact rfl
              ·
               refine oIconst C at_467 (z := 4) rfl rfl ?_
               refine oIstore C at_468 (Ls' := #[.val (.int b), .val (.int e), .val (.int q), .val (.int bd), .val (.long c21), .second, .val (.long c31), .second, .val (.long c41), .second, .val (.long c32), .second, .val (.long c42), .second, .val (.long c43), .second, .val (.long m1), .second, .val (.long m2), .second, .val (.long m3), .second, .val (.long m4), .second, .val (.ref a7), .val (.ref a17), .val (.ref a28), .val (.ref a39), .val (.ref a50), .val (.ref a107), .val (.int (fA21 c21)), .val (.int (fA31 c31)), .val (.int (fA41 c41)), .val (.int (fA32 c32)), .val (.int (fA42 c42)), .val (.int (fA43 c43)), .val (.int (fR31 c31 c32 c21)), .val (.int (fR42 c42 c43 c32)), .val (.int (fR41 c41 c43 c31 c32 c21 c42)), .val (.int kq), .val (.int 4), .unset, .unset]) rfl (q := 470) rfl ?_
               refine oIconst C at_470 (z := 3) rfl rfl ?_
               refine oIstore C at_471 (Ls' := #[.val (.int b), .val (.int e), .val (.int q), .val (.int bd), .val (.long c21), .second, .val (.long c31), .second, .val (.long c41), .second, .val (.long c32), .second, .val (.long c42), .second, .val (.long c43), .second, .val (.long m1), .second, .val (.long m2), .second, .val (.long m3), .second, .val (.long m4), .second, .val (.ref a7), .val (.ref a17), .val (.ref a28), .val (.ref a39), .val (.ref a50), .val (.ref a107), .val (.int (fA21 c21)), .val (.int (fA31 c31)), .val (.int (fA41 c41)), .val (.int (fA32 c32)), .val (.int (fA42 c42)), .val (.int (fA43 c43)), .val (.int (fR31 c31 c32 c21)), .val (.int (fR42 c42 c43 c32)), .val (.int (fR41 c41 c43 c31 c32 c21 c42)), .val (.int kq), .val (.int 4), .val (.int 3), .unset]) rfl (q := 473) rfl ?_
               refine oIload C at_473 rfl rfl ?_
               refine oIstore C at_475 (Ls' := #[.val (.int b), .val (.int e), .val (.int q), .val (.int bd), .val (.long c21), .second, .val (.long c31), .second, .val (.long c41), .second, .val (.long c32), .second, .val (.long c42), .second, .val (.long c43), .second, .val (.long m1), .second, .val (.long m2), .second, .val (.long m3), .second, .val (.long m4), .second, .val (.ref a7), .val (.ref a17), .val (.ref a28), .val (.ref a39), .val (.ref a50), .val (.ref a107), .val (.int (fA21 c21)), .val (.int (fA31 c31)), .val (.int (fA41 c41)), .val (.int (fA32 c32)), .val (.int (fA42 c42)), .val (.int (fA43 c43)), .val (.int (fR31 c31 c32 c21)), .val (.int (fR42 c42 c43 c32)), .val (.int (fR41 c41 c43 c31 c32 c21 c42)), .val (.int kq), .val (.int 4), .val (.int 3), .val (.int (fA43 c43))]) rfl (q := 477) rfl ?_
               refine oGoto C at_477 (q := 528) (by decide) (by decide) ?_
               refine oIload C at_528 rfl rfl ?_
               refine oIload C at_530 rfl rfl ?_
               refine oIsub C at_532 rfl ?_
               refine oCastI (z' := (1 : Int32)) (by decide) ?_
               refine oIloadN C at_533 rfl rfl ?_
               refine oIcmp_lt C at_534 (q := 539) (by decide) (by decide) (r := 537) rfl (fun hc534 => ?_) (fun hc534 => ?_)
               ·
                refine oAload C at_539 rfl rfl rfl ?_
                refine oIload C at_541 rfl rfl ?_
                refine oIload C at_543 rfl rfl ?_
                refine oCallV C (w201 hw) (w167 hw) (w169 hw) (w168 hw) (w118 hw) (w170 hw) at_545 je253 (by decide) pd_947254 rfl rfl (a := a107) (argsL := [.int 4, .int 3]) (rest := []) rfl (W := 0) rfl (q := 548) rfl (by decide) (by decide) (by decide) (by decide) (jc2 hc534) (oPureK ?_)
                refine oIload C at_548 rfl rfl ?_
                refine oIcmp_ne C at_550 (q := 557) (by decide) (by decide) (r := 553) rfl (fun hq => absurd hq (not_not_intro rfl)) (fun hc550 => ?_)
                refine oIconst C at_553 (z := 1) rfl rfl ?_
                refine oGoto C at_554 (q := 558) (by decide) (by decide) ?_
                refine oRetZW C hS (Nat.le_trans (Nat.le_trans (Nat.le_trans (Nat.le_trans (Nat.le_trans (Nat.le_trans (Nat.le_trans (Nat.le_trans (Nat.le_trans hk K48.1) E50.1) K53.1) K73.1) K85.1) K96.1) K106.1) E107.1) jz253) at_558 (z' := (1 : Int32)) rfl (by decide) (by decide) ?_
                exact rfl
               ·
                refine oIconst C at_537 (z := 1) rfl rfl ?_
                refine oRetZW C hS (Nat.le_trans (Nat.le_trans (Nat.le_trans (Nat.le_trans (Nat.le_trans (Nat.le_trans (Nat.le_trans (Nat.le_trans (Nat.le_trans hk K48.1) E50.1) K53.1) K73.1) K85.1) K96.1) K106.1) E107.1) jz253) at_538 (z' := (1 : Int32)) rfl (by decide) (by decide) ?_
                exact rfl
             ·
              refine oIconst C at_448 (z := 3) rfl rfl ?_
              refine oIstore C at_449 (Ls' := #[.val (.int b), .val (.int e), .val (.int q), .val (.int bd), .val (.long c21), .second, .val (.long c31), .second, .val (.long c41), .second, .val (.long c32), .second, .val (.long c42), .second, .val (.long c43), .second, .val (.long m1), .second, .val (.long m2), .second, .val (.long m3), .second, .val (.long m4), .second, .val (.ref a7), .val (.ref a17), .val (.ref a28), .val (.ref a39), .val (.ref a50), .val (.ref a107), .val (.int (fA21 c21)), .val (.int (fA31 c31)), .val (.int (fA41 c41)), .val (.int (fA32 c32)), .val (.int (fA42 c42)), .val (.int (fA43 c43)), .val (.int (fR31 c31 c32 c21)), .val (.int (fR42 c42 c43 c32)), .val (.int (fR41 c41 c43 c31 c32 c21 c42)), .val (.int kq), .val (.int 3), .unset, .unset]) rfl (q := 451) rfl ?_
              refine oIconst C at_451 (z := 2) rfl rfl ?_
              refine oIstore C at_452 (Ls' := #[.val (.int b), .val (.int e), .val (.int q), .val (.int bd), .val (.long c21), .second, .val (.long c31), .second, .val (.long c41), .second, .val (.long c32), .second, .val (.long c42), .second, .val (.long c43), .second, .val (.long m1), .second, .val (.long m2), .second, .val (.long m3), .second, .val (.long m4), .second, .val (.ref a7), .val (.ref a17), .val (.ref a28), .val (.ref a39), .val (.ref a50), .val (.ref a107), .val (.int (fA21 c21)), .val (.int (fA31 c31)), .val (.int (fA41 c41)), .val (.int (fA32 c32)), .val (.int (fA42 c42)), .val (.int (fA43 c43)), .val (.int (fR31 c31 c32 c21)), .val (.int (fR42 c42 c43 c32)), .val (.int (fR41 c41 c43 c31 c32 c21 c42)), .val (.int kq), .val (.int 3), .val (.int 2), .unset]) rfl (q := 454) rfl ?_
              refine oIload C at_454 rfl rfl ?_
              refine oIstore C at_456 (Ls' := #[.val (.int b), .val (.int e), .val (.int q), .val (.int bd), .val (.long c21), .second, .val (.long c31), .second, .val (.long c41), .second, .val (.long c32), .second, .val (.long c42), .second, .val (.long c43), .second, .val (.long m1), .second, .val (.long m2), .second, .val (.long m3), .second, .val (.long m4), .second, .val (.ref a7), .val (.ref a17), .val (.ref a28), .val (.ref a39), .val (.ref a50), .val (.ref a107), .val (.int (fA21 c21)), .val (.int (fA31 c31)), .val (.int (fA41 c41)), .val (.int (fA32 c32)), .val (.int (fA42 c42)), .val (.int (fA43 c43)), .val (.int (fR31 c31 c32 c21)), .val (.int (fR42 c42 c43 c32)), .val (.int (fR41 c41 c43 c31 c32 c21 c42)), .val (.int kq), .val (.int 3), .val (.int 2), .val (.int (fA32 c32))]) rfl (q := 458) rfl ?_
              refine oGoto C at_458 (q := 528) (by decide) (by decide) ?_
              refine oIload C at_528 rfl rfl ?_
              refine oIload C at_530 rfl rfl ?_
              refine oIsub C at_532 rfl ?_
              refine oCastI (z' := (1 : Int32)) (by decide) ?_
              refine oIloadN C at_533 rfl rfl ?_
              refine oIcmp_lt C at_534 (q := 539) (by decide) (by decide) (r := 537) rfl (fun hc534 => ?_) (fun hc534 => ?_)
              ·
               refine oAload C at_539 rfl rfl rfl ?_
               refine oIload C at_541 rfl rfl ?_
               refine oIload C at_543 rfl rfl ?_
               refine oCallV C (w201 hw) (w167 hw) (w169 hw) (w168 hw) (w118 hw) (w170 hw) at_545 je253 (by decide) pd_947254 rfl rfl (a := a107) (argsL := [.int 3, .int 2]) (rest := []) rfl (W := 0) rfl (q := 548) rfl (by decide) (by decide) (by decide) (by decide) (jc1 hc534) (oPureK ?_)
               refine oIload C at_548 rfl rfl ?_
               refine oIcmp_ne C at_550 (q := 557) (by decide) (by decide) (r := 553) rfl (fun hq => absurd hq (not_not_intro rfl)) (fun hc550 => ?_)
               refine oIconst C at_553 (z := 1) rfl rfl ?_
               refine oGoto C at_554 (q := 558) (by decide) (by decide) ?_
               refine oRetZW C hS (Nat.le_trans (Nat.le_trans (Nat.le_trans (Nat.le_trans (Nat.le_trans (Nat.le_trans (Nat.le_trans (Nat.le_trans (Nat.le_trans hk K48.1) E50.1) K53.1) K73.1) K85.1) K96.1) K106.1) E107.1) jz253) at_558 (z' := (1 : Int32)) rfl (by decide) (by decide) ?_
               exact rfl
              ·
               refine oIconst C at_537 (z := 1) rfl rfl ?_
               refine oRetZW C hS (Nat.le_trans (Nat.le_trans (Nat.le_trans (Nat.le_trans (Nat.le_trans (Nat.le_trans (Nat.le_trans (Nat.le_trans (Nat.le_trans hk K48.1) E50.1) K53.1) K73.1) K85.1) K96.1) K106.1) E107.1) jz253) at_538 (z' := (1 : Int32)) rfl (by decide) (by decide) ?_
               exact rfl
            ·
             refine oIconst C at_429 (z := 2) rfl rfl ?_
             refine oIstore C at_430 (Ls' := #[.val (.int b), .val (.int e), .val (.int q), .val (.int bd), .val (.long c21), .second, .val (.long c31), .second, .val (.long c41), .second, .val (.long c32), .second, .val (.long c42), .second, .val (.long c43), .second, .val (.long m1), .second, .val (.long m2), .second, .val (.long m3), .second, .val (.long m4), .second, .val (.ref a7), .val (.ref a17), .val (.ref a28), .val (.ref a39), .val (.ref a50), .val (.ref a107), .val (.int (fA21 c21)), .val (.int (fA31 c31)), .val (.int (fA41 c41)), .val (.int (fA32 c32)), .val (.int (fA42 c42)), .val (.int (fA43 c43)), .val (.int (fR31 c31 c32 c21)), .val (.int (fR42 c42 c43 c32)), .val (.int (fR41 c41 c43 c31 c32 c21 c42)), .val (.int kq), .val (.int 2), .unset, .unset]) rfl (q := 432) rfl ?_
             refine oIconst C at_432 (z := 1) rfl rfl ?_
             refine oIstore C at_433 (Ls' := #[.val (.int b), .val (.int e), .val (.int q), .val (.int bd), .val (.long c21), .second, .val (.long c31), .second, .val (.long c41), .second, .val (.long c32), .second, .val (.long c42), .second, .val (.long c43), .second, .val (.long m1), .second, .val (.long m2), .second, .val (.long m3), .second, .val (.long m4), .second, .val (.ref a7), .val (.ref a17), .val (.ref a28), .val (.ref a39), .val (.ref a50), .val (.ref a107), .val (.int (fA21 c21)), .val (.int (fA31 c31)), .val (.int (fA41 c41)), .val (.int (fA32 c32)), .val (.int (fA42 c42)), .val (.int (fA43 c43)), .val (.int (fR31 c31 c32 c21)), .val (.int (fR42 c42 c43 c32)), .val (.int (fR41 c41 c43 c31 c32 c21 c42)), .val (.int kq), .val (.int 2), .val (.int 1), .unset]) rfl (q := 435) rfl ?_
             refine oIload C at_435 rfl rfl ?_
             refine oIstore C at_437 (Ls' := #[.val (.int b), .val (.int e), .val (.int q), .val (.int bd), .val (.long c21), .second, .val (.long c31), .second, .val (.long c41), .second, .val (.long c32), .second, .val (.long c42), .second, .val (.long c43), .second, .val (.long m1), .second, .val (.long m2), .second, .val (.long m3), .second, .val (.long m4), .second, .val (.ref a7), .val (.ref a17), .val (.ref a28), .val (.ref a39), .val (.ref a50), .val (.ref a107), .val (.int (fA21 c21)), .val (.int (fA31 c31)), .val (.int (fA41 c41)), .val (.int (fA32 c32)), .val (.int (fA42 c42)), .val (.int (fA43 c43)), .val (.int (fR31 c31 c32 c21)), .val (.int (fR42 c42 c43 c32)), .val (.int (fR41 c41 c43 c31 c32 c21 c42)), .val (.int kq), .val (.int 2), .val (.int 1), .val (.int (fA21 c21))]) rfl (q := 439) rfl ?_
             refine oGoto C at_439 (q := 528) (by decide) (by decide) ?_
             refine oIload C at_528 rfl rfl ?_
             refine oIload C at_530 rfl rfl ?_
             refine oIsub C at_532 rfl ?_
             refine oCastI (z' := (1 : Int32)) (by decide) ?_
             refine oIloadN C at_533 rfl rfl ?_
             refine oIcmp_lt C at_534 (q := 539) (by decide) (by decide) (r := 537) rfl (fun hc534 => ?_) (fun hc534 => ?_)
             ·
              refine oAload C at_539 rfl rfl rfl ?_
              refine oIload C at_541 rfl rfl ?_
              refine oIload C at_543 rfl rfl ?_
              refine oCallV C (w201 hw) (w167 hw) (w169 hw) (w168 hw) (w118 hw) (w170 hw) at_545 je253 (by decide) pd_947254 rfl rfl (a := a107) (argsL := [.int 2, .int 1]) (rest := []) rfl (W := 0) rfl (q := 548) rfl (by decide) (by decide) (by decide) (by decide) (jc0 hc534) (oPureK ?_)
              refine oIload C at_548 rfl rfl ?_
              refine oIcmp_ne C at_550 (q := 557) (by decide) (by decide) (r := 553) rfl (fun hq => absurd hq (not_not_intro rfl)) (fun hc550 => ?_)
              refine oIconst C at_553 (z := 1) rfl rfl ?_
              refine oGoto C at_554 (q := 558) (by decide) (by decide) ?_
              refine oRetZW C hS (Nat.le_trans (Nat.le_trans (Nat.le_trans (Nat.le_trans (Nat.le_trans (Nat.le_trans (Nat.le_trans (Nat.le_trans (Nat.le_trans hk K48.1) E50.1) K53.1) K73.1) K85.1) K96.1) K106.1) E107.1) jz253) at_558 (z' := (1 : Int32)) rfl (by decide) (by decide) ?_
              exact rfl
             ·
              refine oIconst C at_537 (z := 1) rfl rfl ?_
              refine oRetZW C hS (Nat.le_trans (Nat.le_trans (Nat.le_trans (Nat.le_trans (Nat.le_trans (Nat.le_trans (Nat.le_trans (Nat.le_trans (Nat.le_trans hk K48.1) E50.1) K53.1) K73.1) K85.1) K96.1) K106.1) E107.1) jz253) at_538 (z' := (1 : Int32)) rfl (by decide) (by decide) ?_
              exact rfl
           ·
            refine oIload C at_383 rfl rfl ?_
            refine oIf_ne C at_385 (q := 408) (by decide) (by decide) (r := 388) rfl (fun hc385 => ?_) (fun hc385 => ?_)
            ·
             refine oIconst C at_408 (z := 1) rfl rfl ?_
             refine oGoto C at_409 (q := 413) (by decide) (by decide) ?_
             refine oCastI (z' := (fR41 c41 c43 c31 c32 c21 c42)) (by rw [fR41_def, if_neg hc385]) ?_
             exact J413 () trivial
            ·
             refine oIload C at_388 rfl rfl ?_
             refine oIf_eq C at_390 (q := 398) (by decide) (by decide) (r := 393) rfl (fun hc390 => ?_) (fun hc390 => ?_)
             ·
              refine oIload C at_398 rfl rfl ?_
              refine oIf_eq C at_400 (q := 412) (by decide) (by decide) (r := 403) rfl (fun hc400 => ?_) (fun hc400 => ?_)
              ·
               refine oIconst C at_412 (z := 0) rfl rfl ?_
               refine oCastI (z' := (fR41 c41 c43 c31 c32 c21 c42)) (by rw [fR41_def, if_pos hc385, if_pos hc390, if_pos hc400]) ?_
               exact J413 () trivial
              ·
               refine oIload C at_403 rfl rfl ?_
               refine oIf_eq C at_405 (q := 412) (by decide) (by decide) (r := 408) rfl (fun hc405 => ?_) (fun hc405 => ?_)
               ·
                refine oIconst C at_412 (z := 0) rfl rfl ?_
                refine oCastI (z' := (fR41 c41 c43 c31 c32 c21 c42)) (by rw [fR41_def, if_pos hc385, if_pos hc390, if_neg hc400, if_pos hc405]) ?_
                exact J413 () trivial
               ·
                refine oIconst C at_408 (z := 1) rfl rfl ?_
                refine oGoto C at_409 (q := 413) (by decide) (by decide) ?_
                refine oCastI (z' := (fR41 c41 c43 c31 c32 c21 c42)) (by rw [fR41_def, if_pos hc385, if_pos hc390, if_neg hc400, if_neg hc405]) ?_
                exact J413 () trivial
             ·
              refine oIload C at_393 rfl rfl ?_
              refine oIf_ne C at_395 (q := 408) (by decide) (by decide) (r := 398) rfl (fun hc395 => ?_) (fun hc395 => ?_)
              ·
               refine oIconst C at_408 (z := 1) rfl rfl ?_
               refine oGoto C at_409 (q := 413) (by decide) (by decide) ?_
               refine oCastI (z' := (fR41 c41 c43 c31 c32 c21 c42)) (by rw [fR41_def, if_pos hc385, if_neg hc390, if_neg hc395]) ?_
               exact J413 () trivial
              ·
               refine oIload C at_398 rfl rfl ?_
               refine oIf_eq C at_400 (q := 412) (by decide) (by decide) (r := 403) rfl (fun hc400 => ?_) (fun hc400 => ?_)
               ·
                refine oIconst C at_412 (z := 0) rfl rfl ?_
                refine oCastI (z' := (fR41 c41 c43 c31 c32 c21 c42)) (by rw [fR41_def, if_pos hc385, if_neg hc390, if_pos hc395, if_pos hc400]) ?_
                exact J413 () trivial
               ·
                refine oIload C at_403 rfl rfl ?_
                refine oIf_eq C at_405 (q := 412) (by decide) (by decide) (r := 408) rfl (fun hc405 => ?_) (fun hc405 => ?_)
                ·
                 refine oIconst C at_412 (z := 0) rfl rfl ?_
                 refine oCastI (z' := (fR41 c41 c43 c31 c32 c21 c42)) (by rw [fR41_def, if_pos hc385, if_neg hc390, if_pos hc395, if_neg hc400, if_pos hc405]) ?_
                 exact J413 () trivial
                ·
                 refine oIconst C at_408 (z := 1) rfl rfl ?_
                 refine oGoto C at_409 (q := 413) (by decide) (by decide) ?_
                 refine oCastI (z' := (fR41 c41 c43 c31 c32 c21 c42)) (by rw [fR41_def, if_pos hc385, if_neg hc390, if_pos hc395, if_neg hc400, if_neg hc405]) ?_
                 exact J413 () trivial
          ·
           refine oIload C at_361 rfl rfl ?_
           refine oIf_ne C at_363 (q := 376) (by decide) (by decide) (r := 366) rfl (fun hc363 => ?_) (fun hc363 => ?_)
           ·
            refine oIconst C at_376 (z := 1) rfl rfl ?_
            refine oGoto C at_377 (q := 381) (by decide) (by decide) ?_
            refine oCastI (z' := (fR42 c42 c43 c32)) (by rw [fR42_def, if_neg hc363]) ?_
            exact J381 () trivial
           ·
            refine oIload C at_366 rfl rfl ?_
            refine oIf_eq C at_368 (q := 380) (by decide) (by decide) (r := 371) rfl (fun hc368 => ?_) (fun hc368 => ?_)
            ·
             refine oIconst C at_380 (z := 0) rfl rfl ?_
             refine oCastI (z' := (fR42 c42 c43 c32)) (by rw [fR42_def, if_pos hc363, if_pos hc368]) ?_
             exact J381 () trivial
            ·
             refine oIload C at_371 rfl rfl ?_
             refine oIf_eq C at_373 (q := 380) (by decide) (by decide) (r := 376) rfl (fun hc373 => ?_) (fun hc373 => ?_)
             ·
              refine oIconst C at_380 (z := 0) rfl rfl ?_
              refine oCastI (z' := (fR42 c42 c43 c32)) (by rw [fR42_def, if_pos hc363, if_neg hc368, if_pos hc373]) ?_
              exact J381 () trivial
             ·
              refine oIconst C at_376 (z := 1) rfl rfl ?_
              refine oGoto C at_377 (q := 381) (by decide) (by decide) ?_
              refine oCastI (z' := (fR42 c42 c43 c32)) (by rw [fR42_def, if_pos hc363, if_neg hc368, if_neg hc373]) ?_
              exact J381 () trivial
         ·
          refine oIload C at_339 rfl rfl ?_
          refine oIf_ne C at_341 (q := 354) (by decide) (by decide) (r := 344) rfl (fun hc341 => ?_) (fun hc341 => ?_)
          ·
           refine oIconst C at_354 (z := 1) rfl rfl ?_
           refine oGoto C at_355 (q := 359) (by decide) (by decide) ?_
           refine oCastI (z' := (fR31 c31 c32 c21)) (by rw [fR31_def, if_neg hc341]) ?_
           exact J359 () trivial
          ·
           refine oIload C at_344 rfl rfl ?_
           refine oIf_eq C at_346 (q := 358) (by decide) (by decide) (r := 349) rfl (fun hc346 => ?_) (fun hc346 => ?_)
           ·
            refine oIconst C at_358 (z := 0) rfl rfl ?_
            refine oCastI (z' := (fR31 c31 c32 c21)) (by rw [fR31_def, if_pos hc341, if_pos hc346]) ?_
            exact J359 () trivial
           ·
            refine oIload C at_349 rfl rfl ?_
            refine oIf_eq C at_351 (q := 358) (by decide) (by decide) (r := 354) rfl (fun hc351 => ?_) (fun hc351 => ?_)
            ·
             refine oIconst C at_358 (z := 0) rfl rfl ?_
             refine oCastI (z' := (fR31 c31 c32 c21)) (by rw [fR31_def, if_pos hc341, if_neg hc346, if_pos hc351]) ?_
             exact J359 () trivial
            ·
             refine oIconst C at_354 (z := 1) rfl rfl ?_
             refine oGoto C at_355 (q := 359) (by decide) (by decide) ?_
             refine oCastI (z' := (fR31 c31 c32 c21)) (by rw [fR31_def, if_pos hc341, if_neg hc346, if_neg hc351]) ?_
             exact J359 () trivial
        ·
         refine oLload C at_325 rfl rfl ?_
         refine oLconst C at_327 (z := 0) rfl rfl ?_
         refine oLcmp_eq C at_328 rfl at_329 (q := 336) (by decide) (by decide) (r := 332) rfl (fun hc328 => ?_) (fun hc328 => ?_)
         ·
          refine oIconst C at_336 (z := 0) rfl rfl ?_
          refine oCastI (z' := (fA43 c43)) (by rw [fA43_def, if_pos hc328]) ?_
          exact J337 () trivial
         ·
          refine oIconst C at_332 (z := 1) rfl rfl ?_
          refine oGoto C at_333 (q := 337) (by decide) (by decide) ?_
          refine oCastI (z' := (fA43 c43)) (by rw [fA43_def, if_neg hc328]) ?_
          exact J337 () trivial
       ·
        refine oLload C at_311 rfl rfl ?_
        refine oLconst C at_313 (z := 0) rfl rfl ?_
        refine oLcmp_eq C at_314 rfl at_315 (q := 322) (by decide) (by decide) (r := 318) rfl (fun hc314 => ?_) (fun hc314 => ?_)
        ·
         refine oIconst C at_322 (z := 0) rfl rfl ?_
         refine oCastI (z' := (fA42 c42)) (by rw [fA42_def, if_pos hc314]) ?_
         exact J323 () trivial
        ·
         refine oIconst C at_318 (z := 1) rfl rfl ?_
         refine oGoto C at_319 (q := 323) (by decide) (by decide) ?_
         refine oCastI (z' := (fA42 c42)) (by rw [fA42_def, if_neg hc314]) ?_
         exact J323 () trivial
      ·
       refine oLload C at_297 rfl rfl ?_
       refine oLconst C at_299 (z := 0) rfl rfl ?_
       refine oLcmp_eq C at_300 rfl at_301 (q := 308) (by decide) (by decide) (r := 304) rfl (fun hc300 => ?_) (fun hc300 => ?_)
       ·
        refine oIconst C at_308 (z := 0) rfl rfl ?_
        refine oCastI (z' := (fA32 c32)) (by rw [fA32_def, if_pos hc300]) ?_
        exact J309 () trivial
       ·
        refine oIconst C at_304 (z := 1) rfl rfl ?_
        refine oGoto C at_305 (q := 309) (by decide) (by decide) ?_
        refine oCastI (z' := (fA32 c32)) (by rw [fA32_def, if_neg hc300]) ?_
        exact J309 () trivial
     ·
      refine oLload C at_283 rfl rfl ?_
      refine oLconst C at_285 (z := 0) rfl rfl ?_
      refine oLcmp_eq C at_286 rfl at_287 (q := 294) (by decide) (by decide) (r := 290) rfl (fun hc286 => ?_) (fun hc286 => ?_)
      ·
       refine oIconst C at_294 (z := 0) rfl rfl ?_
       refine oCastI (z' := (fA41 c41)) (by rw [fA41_def, if_pos hc286]) ?_
       exact J295 () trivial
      ·
       refine oIconst C at_290 (z := 1) rfl rfl ?_
       refine oGoto C at_291 (q := 295) (by decide) (by decide) ?_
       refine oCastI (z' := (fA41 c41)) (by rw [fA41_def, if_neg hc286]) ?_
       exact J295 () trivial
    ·
     refine oLload C at_269 rfl rfl ?_
     refine oLconst C at_271 (z := 0) rfl rfl ?_
     refine oLcmp_eq C at_272 rfl at_273 (q := 280) (by decide) (by decide) (r := 276) rfl (fun hc272 => ?_) (fun hc272 => ?_)
     ·
      refine oIconst C at_280 (z := 0) rfl rfl ?_
      refine oCastI (z' := (fA31 c31)) (by rw [fA31_def, if_pos hc272]) ?_
      exact J281 () trivial
     ·
      refine oIconst C at_276 (z := 1) rfl rfl ?_
      refine oGoto C at_277 (q := 281) (by decide) (by decide) ?_
      refine oCastI (z' := (fA31 c31)) (by rw [fA31_def, if_neg hc272]) ?_
      exact J281 () trivial
   ·
    refine oLload C at_255 rfl rfl ?_
    refine oLconst C at_257 (z := 0) rfl rfl ?_
    refine oLcmp_eq C at_258 rfl at_259 (q := 266) (by decide) (by decide) (r := 262) rfl (fun hc258 => ?_) (fun hc258 => ?_)
    ·
     refine oIconst C at_266 (z := 0) rfl rfl ?_
     refine oCastI (z' := (fA21 c21)) (by rw [fA21_def, if_pos hc258]) ?_
     exact J267 () trivial
    ·
     refine oIconst C at_262 (z := 1) rfl rfl ?_
     refine oGoto C at_263 (q := 267) (by decide) (by decide) ?_
     refine oCastI (z' := (fA21 c21)) (by rw [fA21_def, if_neg hc258]) ?_
     exact J267 () trivial
  ·
   rcases (e_bd ▸ own_bd b : oBd bd) with hv | hv | hv | hv
   ·
    subst hv
    show oW _ _ _ _ _ _ _ _ _ _ _ _ _ _ _ (mkF m 250 #[.val (.int b), .val (.int e), .val (.int q), .val (.int 1), .val (.long c21), .second, .val (.long c31), .second, .val (.long c41), .second, .val (.long c32), .second, .val (.long c42), .second, .val (.long c43), .second, .val (.long m1), .second, .val (.long m2), .second, .val (.long m3), .second, .val (.long m4), .second, .val (.ref a7), .val (.ref a17), .val (.ref a28), .val (.ref a39), .val (.ref a50), .unset, .unset, .unset, .unset, .unset, .unset, .unset, .unset, .unset, .unset, .unset, .unset, .unset, .unset] [.int 1, .ref a50, .ref a107, .ref a107])
    have f115 := (Exa.ext E107 (K106.exa f103))
    have f116 := (Fld.ext E107 f106_1)
    have ne117 : a50 ≠ a107 := oNe' f106_0.lt (Nat.le_of_eq g_a107.symm)
    have f118 := (Fld.ext E107 (K106.fld f104 (ninS ne83 nin0) (oNF (Or.inr (oSn2 hw 1 0)) (oNF (Or.inr (oSn2 hw 1 2)) oN0))))
    have f119 := (f106_2.ext E107)
    have ne120 : a73_0 ≠ a107 := oNe' (Nat.lt_of_lt_of_le f73_3.lt (Nat.le_trans (Nat.le_trans K85.1 K96.1) K106.1)) (Nat.le_of_eq g_a107.symm)
    have f121 := (Exa.ext E107 (K106.exa (K96.exa (K85.exa f82))))
    have f122 := (Exa.ext E107 (K106.exa (K96.exa f95)))
    have f123 := (Exa.ext E107 (K106.exa f105))
    have z125 := (Nat.le_trans z108 E107.1)
    refine oCallC C (w119 hw) (w120 hw) (w118 hw) (w121 hw) at_250 rfl (by decide) pd_928696 rfl rfl (a := a107) (argsL := [.ref a50, .int 1]) (rest := [.ref a107]) rfl (W := 1) rfl (q := 253) rfl (by decide) (by decide) (by decide) (by decide) (ac14_33 l Z a0 hw _ n0 z125 a107 a50 a73_0 a15_0 a26_0 a37_0 a48_0 X107 f107_span ge_a107 f107_words f115 f116 ne117 f107_bits f118 f119 ne120 f121 f122 f123) ?_
    rintro _ h124 ⟨a124_0, rfl, K124, s124, f124_0, f124_1, f124_2, f124_3⟩
    show oW _ _ _ _ _ _ _ _ _ _ _ _ _ _ _ (mkF m 253 #[.val (.int b), .val (.int e), .val (.int q), .val (.int 1), .val (.long c21), .second, .val (.long c31), .second, .val (.long c41), .second, .val (.long c32), .second, .val (.long c42), .second, .val (.long c43), .second, .val (.long m1), .second, .val (.long m2), .second, .val (.long m3), .second, .val (.long m4), .second, .val (.ref a7), .val (.ref a17), .val (.ref a28), .val (.ref a39), .val (.ref a50), .unset, .unset, .unset, .unset, .unset, .unset, .unset, .unset, .unset, .unset, .unset, .unset, .unset, .unset] [.ref a107])
    have f126 := (K124.exa X107)
    exact J253 h124 ⟨K124.1, f126, fun q => absurd q (by decide), fun q => absurd q (by decide), fun q => absurd q (by decide), fun q => absurd q (by decide), fun q => absurd q (by decide), fun q => absurd q (by decide)⟩
   ·
    obtain ⟨k, w, hkw, hb, v1, v2, v3, v4⟩ := hv
    have f127 := (Exa.ext E107 (K106.exa f103))
    have f128 := (Fld.ext E107 f106_1)
    have ne129 : a50 ≠ a107 := oNe' f106_0.lt (Nat.le_of_eq g_a107.symm)
    have f130 := (Fld.ext E107 (K106.fld f104 (ninS ne83 nin0) (oNF (Or.inr (oSn2 hw 1 0)) (oNF (Or.inr (oSn2 hw 1 2)) oN0))))
    have f131 := (f106_2.ext E107)
    have ne132 : a73_0 ≠ a107 := oNe' (Nat.lt_of_lt_of_le f73_3.lt (Nat.le_trans (Nat.le_trans K85.1 K96.1) K106.1)) (Nat.le_of_eq g_a107.symm)
    have f133 := (Exa.ext E107 (K106.exa (K96.exa (K85.exa f82))))
    have ne134 : a26_0 ≠ a28 := oNe' f26_5.lt (Nat.le_of_eq g_a28.symm)
    have ne135 : a26_0 ≠ a39 := oNe' (Nat.lt_of_lt_of_le f26_5.lt (Nat.le_trans (Nat.le_trans E28.1 E30.1) K37.1)) (Nat.le_of_eq g_a39.symm)
    have ne136 : a26_0 ≠ a50 := oNe' (Nat.lt_of_lt_of_le f26_5.lt (Nat.le_trans (Nat.le_trans (Nat.le_trans (Nat.le_trans (Nat.le_trans E28.1 E30.1) K37.1) E39.1) E41.1) K48.1)) (Nat.le_of_eq g_a50.symm)
    have ne137 : a26_0 ≠ a73_0 := oNe' (Nat.lt_of_lt_of_le f26_5.lt (Nat.le_trans (Nat.le_trans (Nat.le_trans (Nat.le_trans (Nat.le_trans (Nat.le_trans (Nat.le_trans E28.1 E30.1) K37.1) E39.1) E41.1) K48.1) E50.1) K53.1)) s73
    have f138 := (Fld.ext E107 (K106.fld (K96.fld (K85.fld (K73.fld (K53.fld (Fld.ext E50 (K48.fld (Fld.ext E41 (Fld.ext E39 (K37.fld (Fld.ext E30 (Fld.ext E28 f26_5)) nin0 (oNF (Or.inl ne134) (oNF (Or.inl ne134) (oNF (Or.inl ne134) (oNF (Or.inl ne134) (oNF (Or.inl ne134) oN0)))))))) nin0 (oNF (Or.inl ne135) (oNF (Or.inl ne135) (oNF (Or.inl ne135) (oNF (Or.inl ne135) (oNF (Or.inl ne135) oN0))))))) nin0 (oNF (Or.inl ne136) (oNF (Or.inl ne136) oN0))) nin0 (oNF (Or.inl ne136) (oNF (Or.inl ne136) (oNF (Or.inl ne136) oN0)))) (ninS ne137 nin0) (oNF (Or.inl ne136) (oNF (Or.inl ne136) oN0))) (ninS ne137 nin0) (oNF (Or.inl ne136) (oNF (Or.inl ne136) oN0))) (ninS ne137 nin0) (oNF (Or.inl ne136) (oNF (Or.inl ne136) oN0))))
    have ne139 : a26_0 ≠ a107 := oNe' (Nat.lt_of_lt_of_le f26_6.lt (Nat.le_trans (Nat.le_trans (Nat.le_trans (Nat.le_trans (Nat.le_trans (Nat.le_trans (Nat.le_trans (Nat.le_trans (Nat.le_trans (Nat.le_trans (Nat.le_trans E28.1 E30.1) K37.1) E39.1) E41.1) K48.1) E50.1) K53.1) K73.1) K85.1) K96.1) K106.1)) (Nat.le_of_eq g_a107.symm)
    have ne140 : a17 ≠ a73_0 := oNe' (Nat.lt_of_lt_of_le f26_0.lt (Nat.le_trans (Nat.le_trans (Nat.le_trans (Nat.le_trans (Nat.le_trans (Nat.le_trans (Nat.le_trans E28.1 E30.1) K37.1) E39.1) E41.1) K48.1) E50.1) K53.1)) s73
    have f141 := (Fld.ext E107 (K106.fld (K96.fld (K85.fld (K73.fld (K53.fld (Fld.ext E50 (K48.fld (Fld.ext E41 (Fld.ext E39 (K37.fld (Fld.ext E30 (Fld.ext E28 f26_3)) nin0 (oNF (Or.inl ne74) (oNF (Or.inl ne74) (oNF (Or.inl ne74) (oNF (Or.inl ne74) (oNF (Or.inl ne74) oN0)))))))) nin0 (oNF (Or.inl ne75) (oNF (Or.inl ne75) (oNF (Or.inl ne75) (oNF (Or.inl ne75) (oNF (Or.inl ne75) oN0))))))) nin0 (oNF (Or.inl ne76) (oNF (Or.inl ne76) oN0))) nin0 (oNF (Or.inl ne76) (oNF (Or.inl ne76) (oNF (Or.inl ne76) oN0)))) (ninS ne140 nin0) (oNF (Or.inl ne76) (oNF (Or.inl ne76) oN0))) (ninS ne140 nin0) (oNF (Or.inl ne76) (oNF (Or.inl ne76) oN0))) (ninS ne140 nin0) (oNF (Or.inl ne76) (oNF (Or.inl ne76) oN0))))
    have ne142 : a17 ≠ a107 := oNe' (Nat.lt_of_lt_of_le f79.lt (Nat.le_trans (Nat.le_trans K85.1 K96.1) K106.1)) (Nat.le_of_eq g_a107.symm)
    have f143 := (Exa.ext E107 (K106.exa (K96.exa f95)))
    have ne144 : a37_0 ≠ a39 := oNe' f37_5.lt (Nat.le_of_eq g_a39.symm)
    have ne145 : a37_0 ≠ a50 := oNe' (Nat.lt_of_lt_of_le f37_5.lt (Nat.le_trans (Nat.le_trans E39.1 E41.1) K48.1)) (Nat.le_of_eq g_a50.symm)
    have ne146 : a37_0 ≠ a73_0 := oNe' (Nat.lt_of_lt_of_le f37_5.lt (Nat.le_trans (Nat.le_trans (Nat.le_trans (Nat.le_trans E39.1 E41.1) K48.1) E50.1) K53.1)) s73
    have f147 := (Fld.ext E107 (K106.fld (K96.fld (K85.fld (K73.fld (K53.fld (Fld.ext E50 (K48.fld (Fld.ext E41 (Fld.ext E39 f37_5)) nin0 (oNF (Or.inl ne144) (oNF (Or.inl ne144) (oNF (Or.inl ne144) (oNF (Or.inl ne144) (oNF (Or.inl ne144) oN0))))))) nin0 (oNF (Or.inl ne145) (oNF (Or.inl ne145) oN0))) nin0 (oNF (Or.inl ne145) (oNF (Or.inl ne145) (oNF (Or.inl ne145) oN0)))) (ninS ne146 nin0) (oNF (Or.inl ne145) (oNF (Or.inl ne145) oN0))) (ninS ne146 nin0) (oNF (Or.inl ne145) (oNF (Or.inl ne145) oN0))) (ninS ne146 nin0) (oNF (Or.inl ne145) (oNF (Or.inl ne145) oN0))))
    have ne148 : a37_0 ≠ a107 := oNe' (Nat.lt_of_lt_of_le f37_6.lt (Nat.le_trans (Nat.le_trans (Nat.le_trans (Nat.le_trans (Nat.le_trans (Nat.le_trans (Nat.le_trans (Nat.le_trans E39.1 E41.1) K48.1) E50.1) K53.1) K73.1) K85.1) K96.1) K106.1)) (Nat.le_of_eq g_a107.symm)
    have f149 := (Fld.ext E107 (K106.fld (K96.fld (K85.fld (K73.fld (K53.fld (Fld.ext E50 (K48.fld (Fld.ext E41 (Fld.ext E39 f37_3)) nin0 (oNF (Or.inl ne86) (oNF (Or.inl ne86) (oNF (Or.inl ne86) (oNF (Or.inl ne86) (oNF (Or.inl ne86) oN0))))))) nin0 (oNF (Or.inl ne87) (oNF (Or.inl ne87) oN0))) nin0 (oNF (Or.inl ne87) (oNF (Or.inl ne87) (oNF (Or.inl ne87) oN0)))) (ninS ne88 nin0) (oNF (Or.inl ne87) (oNF (Or.inl ne87) oN0))) (ninS ne88 nin0) (oNF (Or.inl ne87) (oNF (Or.inl ne87) oN0))) (ninS ne88 nin0) (oNF (Or.inl ne87) (oNF (Or.inl ne87) oN0))))
    have ne150 : a28 ≠ a107 := oNe' (Nat.lt_of_lt_of_le f91.lt (Nat.le_trans K96.1 K106.1)) (Nat.le_of_eq g_a107.symm)
    have f151 := (Exa.ext E107 (K106.exa f105))
    have ne152 : a48_0 ≠ a50 := oNe' f48_5.lt (Nat.le_of_eq g_a50.symm)
    have ne153 : a48_0 ≠ a73_0 := oNe' (Nat.lt_of_lt_of_le f48_5.lt (Nat.le_trans E50.1 K53.1)) s73
    have f154 := (Fld.ext E107 (K106.fld (K96.fld (K85.fld (K73.fld (K53.fld (Fld.ext E50 f48_5) nin0 (oNF (Or.inl ne152) (oNF (Or.inl ne152) oN0))) nin0 (oNF (Or.inl ne152) (oNF (Or.inl ne152) (oNF (Or.inl ne152) oN0)))) (ninS ne153 nin0) (oNF (Or.inl ne152) (oNF (Or.inl ne152) oN0))) (ninS ne153 nin0) (oNF (Or.inl ne152) (oNF (Or.inl ne152) oN0))) (ninS ne153 nin0) (oNF (Or.inl ne152) (oNF (Or.inl ne152) oN0))))
    have ne155 : a48_0 ≠ a107 := oNe' (Nat.lt_of_lt_of_le f48_6.lt (Nat.le_trans (Nat.le_trans (Nat.le_trans (Nat.le_trans (Nat.le_trans E50.1 K53.1) K73.1) K85.1) K96.1) K106.1)) (Nat.le_of_eq g_a107.symm)
    have f156 := (Fld.ext E107 (K106.fld (K96.fld (K85.fld (K73.fld (K53.fld (Fld.ext E50 f48_3) nin0 (oNF (Or.inl ne97) (oNF (Or.inl ne97) oN0))) nin0 (oNF (Or.inl ne97) (oNF (Or.inl ne97) (oNF (Or.inl ne97) oN0)))) (ninS ne98 nin0) (oNF (Or.inl ne97) (oNF (Or.inl ne97) oN0))) (ninS ne98 nin0) (oNF (Or.inl ne97) (oNF (Or.inl ne97) oN0))) (ninS ne98 nin0) (oNF (Or.inl ne97) (oNF (Or.inl ne97) oN0))))
    have ne157 : a39 ≠ a107 := oNe' (Nat.lt_of_lt_of_le f101.lt K106.1) (Nat.le_of_eq g_a107.symm)
    have f158 := (Fld.ext E107 (K106.fld (K96.fld (K85.fld (K73.fld (K53.fld (Fld.ext E50 (K48.fld (Fld.ext E41 (Fld.ext E39 f37_0)) nin0 (oNF (Or.inl ne86) (oNF (Or.inl ne86) (oNF (Or.inl ne86) (oNF (Or.inl ne86) (oNF (Or.inl ne86) oN0))))))) nin0 (oNF (Or.inl ne87) (oNF (Or.inl ne87) oN0))) nin0 (oNF (Or.inl ne87) (oNF (Or.inl ne87) (oNF (Or.inl ne87) oN0)))) (ninS ne88 nin0) (oNF (Or.inl ne87) (oNF (Or.inl ne87) oN0))) (ninS ne88 nin0) (oNF (Or.inl ne87) (oNF (Or.inl ne87) oN0))) (ninS ne88 nin0) (oNF (Or.inl ne87) (oNF (Or.inl ne87) oN0))))
    have f159 := (Fld.ext E107 (K106.fld (K96.fld (K85.fld (K73.fld (K53.fld (Fld.ext E50 f48_0) nin0 (oNF (Or.inl ne97) (oNF (Or.inl ne97) oN0))) nin0 (oNF (Or.inl ne97) (oNF (Or.inl ne97) (oNF (Or.inl ne97) oN0)))) (ninS ne98 nin0) (oNF (Or.inl ne97) (oNF (Or.inl ne97) oN0))) (ninS ne98 nin0) (oNF (Or.inl ne97) (oNF (Or.inl ne97) oN0))) (ninS ne98 nin0) (oNF (Or.inl ne97) (oNF (Or.inl ne97) oN0))))
    have f160 := (Exa.ext E107 (K106.exa f101))
    have f161 := (Fld.ext E107 (K106.fld (K96.fld (K85.fld (K73.fld (K53.fld (Fld.ext E50 f48_6) nin0 (oNF (Or.inl ne152) (oNF (Or.inl ne152) oN0))) nin0 (oNF (Or.inl ne152) (oNF (Or.inl ne152) (oNF (Or.inl ne152) oN0)))) (ninS ne153 nin0) (oNF (Or.inl ne152) (oNF (Or.inl ne152) oN0))) (ninS ne153 nin0) (oNF (Or.inl ne152) (oNF (Or.inl ne152) oN0))) (ninS ne153 nin0) (oNF (Or.inl ne152) (oNF (Or.inl ne152) oN0))))
    have f162 := (Fld.ext E107 (K106.fld (K96.fld (K85.fld (K73.fld (K53.fld (Fld.ext E50 f48_7) nin0 (oNF (Or.inl ne152) (oNF (Or.inl ne152) oN0))) nin0 (oNF (Or.inl ne152) (oNF (Or.inl ne152) (oNF (Or.inl ne152) oN0)))) (ninS ne153 nin0) (oNF (Or.inl ne152) (oNF (Or.inl ne152) oN0))) (ninS ne153 nin0) (oNF (Or.inl ne152) (oNF (Or.inl ne152) oN0))) (ninS ne153 nin0) (oNF (Or.inl ne152) (oNF (Or.inl ne152) oN0))))
    have f163 := (Fld.ext E107 (K106.fld (K96.fld (K85.fld (K73.fld (K53.fld (Fld.ext E50 (K48.fld (Fld.ext E41 (Fld.ext E39 f37_2)) nin0 (oNF (Or.inl ne86) (oNF (Or.inl ne86) (oNF (Or.inl ne86) (oNF (Or.inl ne86) (oNF (Or.inl ne86) oN0))))))) nin0 (oNF (Or.inl ne87) (oNF (Or.inl ne87) oN0))) nin0 (oNF (Or.inl ne87) (oNF (Or.inl ne87) (oNF (Or.inl ne87) oN0)))) (ninS ne88 nin0) (oNF (Or.inl ne87) (oNF (Or.inl ne87) oN0))) (ninS ne88 nin0) (oNF (Or.inl ne87) (oNF (Or.inl ne87) oN0))) (ninS ne88 nin0) (oNF (Or.inl ne87) (oNF (Or.inl ne87) oN0))))
    have f164 := (Exa.ext E107 (K106.exa (K96.exa f91)))
    have f165 := (Fld.ext E107 (K106.fld (K96.fld (K85.fld (K73.fld (K53.fld (Fld.ext E50 (K48.fld (Fld.ext E41 (Fld.ext E39 f37_6)) nin0 (oNF (Or.inl ne144) (oNF (Or.inl ne144) (oNF (Or.inl ne144) (oNF (Or.inl ne144) (oNF (Or.inl ne144) oN0))))))) nin0 (oNF (Or.inl ne145) (oNF (Or.inl ne145) oN0))) nin0 (oNF (Or.inl ne145) (oNF (Or.inl ne145) (oNF (Or.inl ne145) oN0)))) (ninS ne146 nin0) (oNF (Or.inl ne145) (oNF (Or.inl ne145) oN0))) (ninS ne146 nin0) (oNF (Or.inl ne145) (oNF (Or.inl ne145) oN0))) (ninS ne146 nin0) (oNF (Or.inl ne145) (oNF (Or.inl ne145) oN0))))
    have f166 := (Fld.ext E107 (K106.fld (K96.fld (K85.fld (K73.fld (K53.fld (Fld.ext E50 (K48.fld (Fld.ext E41 (Fld.ext E39 f37_7)) nin0 (oNF (Or.inl ne144) (oNF (Or.inl ne144) (oNF (Or.inl ne144) (oNF (Or.inl ne144) (oNF (Or.inl ne144) oN0))))))) nin0 (oNF (Or.inl ne145) (oNF (Or.inl ne145) oN0))) nin0 (oNF (Or.inl ne145) (oNF (Or.inl ne145) (oNF (Or.inl ne145) oN0)))) (ninS ne146 nin0) (oNF (Or.inl ne145) (oNF (Or.inl ne145) oN0))) (ninS ne146 nin0) (oNF (Or.inl ne145) (oNF (Or.inl ne145) oN0))) (ninS ne146 nin0) (oNF (Or.inl ne145) (oNF (Or.inl ne145) oN0))))
    have f167 := (Fld.ext E107 (K106.fld (K96.fld (K85.fld (K73.fld (K53.fld (Fld.ext E50 (K48.fld (Fld.ext E41 (Fld.ext E39 (K37.fld (Fld.ext E30 (Fld.ext E28 f26_0)) nin0 (oNF (Or.inl ne74) (oNF (Or.inl ne74) (oNF (Or.inl ne74) (oNF (Or.inl ne74) (oNF (Or.inl ne74) oN0)))))))) nin0 (oNF (Or.inl ne75) (oNF (Or.inl ne75) (oNF (Or.inl ne75) (oNF (Or.inl ne75) (oNF (Or.inl ne75) oN0))))))) nin0 (oNF (Or.inl ne76) (oNF (Or.inl ne76) oN0))) nin0 (oNF (Or.inl ne76) (oNF (Or.inl ne76) (oNF (Or.inl ne76) oN0)))) (ninS ne140 nin0) (oNF (Or.inl ne76) (oNF (Or.inl ne76) oN0))) (ninS ne140 nin0) (oNF (Or.inl ne76) (oNF (Or.inl ne76) oN0))) (ninS ne140 nin0) (oNF (Or.inl ne76) (oNF (Or.inl ne76) oN0))))
    have f168 := (Fld.ext E107 (K106.fld (K96.fld (K85.fld (K73.fld (K53.fld (Fld.ext E50 (K48.fld (Fld.ext E41 (Fld.ext E39 (K37.fld (Fld.ext E30 (Fld.ext E28 f26_2)) nin0 (oNF (Or.inl ne74) (oNF (Or.inl ne74) (oNF (Or.inl ne74) (oNF (Or.inl ne74) (oNF (Or.inl ne74) oN0)))))))) nin0 (oNF (Or.inl ne75) (oNF (Or.inl ne75) (oNF (Or.inl ne75) (oNF (Or.inl ne75) (oNF (Or.inl ne75) oN0))))))) nin0 (oNF (Or.inl ne76) (oNF (Or.inl ne76) oN0))) nin0 (oNF (Or.inl ne76) (oNF (Or.inl ne76) (oNF (Or.inl ne76) oN0)))) (ninS ne140 nin0) (oNF (Or.inl ne76) (oNF (Or.inl ne76) oN0))) (ninS ne140 nin0) (oNF (Or.inl ne76) (oNF (Or.inl ne76) oN0))) (ninS ne140 nin0) (oNF (Or.inl ne76) (oNF (Or.inl ne76) oN0))))
    have f169 := (Exa.ext E107 (K106.exa (K96.exa (K85.exa f79))))
    have f170 := (Fld.ext E107 (K106.fld (K96.fld (K85.fld (K73.fld (K53.fld (Fld.ext E50 (K48.fld (Fld.ext E41 (Fld.ext E39 (K37.fld (Fld.ext E30 (Fld.ext E28 f26_6)) nin0 (oNF (Or.inl ne134) (oNF (Or.inl ne134) (oNF (Or.inl ne134) (oNF (Or.inl ne134) (oNF (Or.inl ne134) oN0)))))))) nin0 (oNF (Or.inl ne135) (oNF (Or.inl ne135) (oNF (Or.inl ne135) (oNF (Or.inl ne135) (oNF (Or.inl ne135) oN0))))))) nin0 (oNF (Or.inl ne136) (oNF (Or.inl ne136) oN0))) nin0 (oNF (Or.inl ne136) (oNF (Or.inl ne136) (oNF (Or.inl ne136) oN0)))) (ninS ne137 nin0) (oNF (Or.inl ne136) (oNF (Or.inl ne136) oN0))) (ninS ne137 nin0) (oNF (Or.inl ne136) (oNF (Or.inl ne136) oN0))) (ninS ne137 nin0) (oNF (Or.inl ne136) (oNF (Or.inl ne136) oN0))))
    have f171 := (Fld.ext E107 (K106.fld (K96.fld (K85.fld (K73.fld (K53.fld (Fld.ext E50 (K48.fld (Fld.ext E41 (Fld.ext E39 (K37.fld (Fld.ext E30 (Fld.ext E28 f26_7)) nin0 (oNF (Or.inl ne134) (oNF (Or.inl ne134) (oNF (Or.inl ne134) (oNF (Or.inl ne134) (oNF (Or.inl ne134) oN0)))))))) nin0 (oNF (Or.inl ne135) (oNF (Or.inl ne135) (oNF (Or.inl ne135) (oNF (Or.inl ne135) (oNF (Or.inl ne135) oN0))))))) nin0 (oNF (Or.inl ne136) (oNF (Or.inl ne136) oN0))) nin0 (oNF (Or.inl ne136) (oNF (Or.inl ne136) (oNF (Or.inl ne136) oN0)))) (ninS ne137 nin0) (oNF (Or.inl ne136) (oNF (Or.inl ne136) oN0))) (ninS ne137 nin0) (oNF (Or.inl ne136) (oNF (Or.inl ne136) oN0))) (ninS ne137 nin0) (oNF (Or.inl ne136) (oNF (Or.inl ne136) oN0))))
    have f172 := (Exa.ext E107 (K106.exa (K96.exa (K85.exa (K73.exa f72)))))
    have ne173 : a15_0 ≠ a17 := oNe' f15_5.lt (Nat.le_of_eq g_a17.symm)
    have ne174 : a15_0 ≠ a28 := oNe' (Nat.lt_of_lt_of_le f15_5.lt (Nat.le_trans (Nat.le_trans E17.1 E19.1) K26.1)) (Nat.le_of_eq g_a28.symm)
    have ne175 : a15_0 ≠ a39 := oNe' (Nat.lt_of_lt_of_le f15_5.lt (Nat.le_trans (Nat.le_trans (Nat.le_trans (Nat.le_trans (Nat.le_trans E17.1 E19.1) K26.1) E28.1) E30.1) K37.1)) (Nat.le_of_eq g_a39.symm)
    have ne176 : a15_0 ≠ a50 := oNe' (Nat.lt_of_lt_of_le f15_5.lt (Nat.le_trans (Nat.le_trans (Nat.le_trans (Nat.le_trans (Nat.le_trans (Nat.le_trans (Nat.le_trans (Nat.le_trans E17.1 E19.1) K26.1) E28.1) E30.1) K37.1) E39.1) E41.1) K48.1)) (Nat.le_of_eq g_a50.symm)
    have ne177 : a15_0 ≠ a73_0 := oNe' (Nat.lt_of_lt_of_le f15_5.lt (Nat.le_trans (Nat.le_trans (Nat.le_trans (Nat.le_trans (Nat.le_trans (Nat.le_trans (Nat.le_trans (Nat.le_trans (Nat.le_trans (Nat.le_trans E17.1 E19.1) K26.1) E28.1) E30.1) K37.1) E39.1) E41.1) K48.1) E50.1) K53.1)) s73
    have f178 := (Fld.ext E107 (K106.fld (K96.fld (K85.fld (K73.fld (K53.fld (Fld.ext E50 (K48.fld (Fld.ext E41 (Fld.ext E39 (K37.fld (Fld.ext E30 (Fld.ext E28 (K26.fld (Fld.ext E19 (Fld.ext E17 f15_5)) nin0 (oNF (Or.inl ne173) (oNF (Or.inl ne173) (oNF (Or.inl ne173) (oNF (Or.inl ne173) (oNF (Or.inl ne173) oN0)))))))) nin0 (oNF (Or.inl ne174) (oNF (Or.inl ne174) (oNF (Or.inl ne174) (oNF (Or.inl ne174) (oNF (Or.inl ne174) oN0)))))))) nin0 (oNF (Or.inl ne175) (oNF (Or.inl ne175) (oNF (Or.inl ne175) (oNF (Or.inl ne175) (oNF (Or.inl ne175) oN0))))))) nin0 (oNF (Or.inl ne176) (oNF (Or.inl ne176) oN0))) nin0 (oNF (Or.inl ne176) (oNF (Or.inl ne176) (oNF (Or.inl ne176) oN0)))) (ninS ne177 nin0) (oNF (Or.inl ne176) (oNF (Or.inl ne176) oN0))) (ninS ne177 nin0) (oNF (Or.inl ne176) (oNF (Or.inl ne176) oN0))) (ninS ne177 nin0) (oNF (Or.inl ne176) (oNF (Or.inl ne176) oN0))))
    have ne179 : a7 ≠ a73_0 := oNe' f61.lt s73
    have f180 := (Fld.ext E107 (K106.fld (K96.fld (K85.fld (K73.fld (K53.fld (Fld.ext E50 (K48.fld (Fld.ext E41 (Fld.ext E39 (K37.fld (Fld.ext E30 (Fld.ext E28 (K26.fld (Fld.ext E19 (Fld.ext E17 f15_0)) nin0 (oNF (Or.inl ne55) (oNF (Or.inl ne55) (oNF (Or.inl ne55) (oNF (Or.inl ne55) (oNF (Or.inl ne55) oN0)))))))) nin0 (oNF (Or.inl ne56) (oNF (Or.inl ne56) (oNF (Or.inl ne56) (oNF (Or.inl ne56) (oNF (Or.inl ne56) oN0)))))))) nin0 (oNF (Or.inl ne57) (oNF (Or.inl ne57) (oNF (Or.inl ne57) (oNF (Or.inl ne57) (oNF (Or.inl ne57) oN0))))))) nin0 (oNF (Or.inl ne58) (oNF (Or.inl ne58) oN0))) nin0 (oNF (Or.inl ne58) (oNF (Or.inl ne58) (oNF (Or.inl ne58) oN0)))) (ninS ne179 nin0) (oNF (Or.inl ne58) (oNF (Or.inl ne58) oN0))) (ninS ne179 nin0) (oNF (Or.inl ne58) (oNF (Or.inl ne58) oN0))) (ninS ne179 nin0) (oNF (Or.inl ne58) (oNF (Or.inl ne58) oN0))))
    have f181 := (Fld.ext E107 (K106.fld (K96.fld (K85.fld (K73.fld (K53.fld (Fld.ext E50 (K48.fld (Fld.ext E41 (Fld.ext E39 (K37.fld (Fld.ext E30 (Fld.ext E28 (K26.fld (Fld.ext E19 (Fld.ext E17 f15_2)) nin0 (oNF (Or.inl ne55) (oNF (Or.inl ne55) (oNF (Or.inl ne55) (oNF (Or.inl ne55) (oNF (Or.inl ne55) oN0)))))))) nin0 (oNF (Or.inl ne56) (oNF (Or.inl ne56) (oNF (Or.inl ne56) (oNF (Or.inl ne56) (oNF (Or.inl ne56) oN0)))))))) nin0 (oNF (Or.inl ne57) (oNF (Or.inl ne57) (oNF (Or.inl ne57) (oNF (Or.inl ne57) (oNF (Or.inl ne57) oN0))))))) nin0 (oNF (Or.inl ne58) (oNF (Or.inl ne58) oN0))) nin0 (oNF (Or.inl ne58) (oNF (Or.inl ne58) (oNF (Or.inl ne58) oN0)))) (ninS ne179 nin0) (oNF (Or.inl ne58) (oNF (Or.inl ne58) oN0))) (ninS ne179 nin0) (oNF (Or.inl ne58) (oNF (Or.inl ne58) oN0))) (ninS ne179 nin0) (oNF (Or.inl ne58) (oNF (Or.inl ne58) oN0))))
    have f182 := (Exa.ext E107 (K106.exa (K96.exa (K85.exa (K73.exa f61)))))
    have f183 := (Fld.ext E107 (K106.fld (K96.fld (K85.fld (K73.fld (K53.fld (Fld.ext E50 (K48.fld (Fld.ext E41 (Fld.ext E39 (K37.fld (Fld.ext E30 (Fld.ext E28 (K26.fld (Fld.ext E19 (Fld.ext E17 f15_6)) nin0 (oNF (Or.inl ne173) (oNF (Or.inl ne173) (oNF (Or.inl ne173) (oNF (Or.inl ne173) (oNF (Or.inl ne173) oN0)))))))) nin0 (oNF (Or.inl ne174) (oNF (Or.inl ne174) (oNF (Or.inl ne174) (oNF (Or.inl ne174) (oNF (Or.inl ne174) oN0)))))))) nin0 (oNF (Or.inl ne175) (oNF (Or.inl ne175) (oNF (Or.inl ne175) (oNF (Or.inl ne175) (oNF (Or.inl ne175) oN0))))))) nin0 (oNF (Or.inl ne176) (oNF (Or.inl ne176) oN0))) nin0 (oNF (Or.inl ne176) (oNF (Or.inl ne176) (oNF (Or.inl ne176) oN0)))) (ninS ne177 nin0) (oNF (Or.inl ne176) (oNF (Or.inl ne176) oN0))) (ninS ne177 nin0) (oNF (Or.inl ne176) (oNF (Or.inl ne176) oN0))) (ninS ne177 nin0) (oNF (Or.inl ne176) (oNF (Or.inl ne176) oN0))))
    have f184 := (Fld.ext E107 (K106.fld (K96.fld (K85.fld (K73.fld (K53.fld (Fld.ext E50 (K48.fld (Fld.ext E41 (Fld.ext E39 (K37.fld (Fld.ext E30 (Fld.ext E28 (K26.fld (Fld.ext E19 (Fld.ext E17 f15_7)) nin0 (oNF (Or.inl ne173) (oNF (Or.inl ne173) (oNF (Or.inl ne173) (oNF (Or.inl ne173) (oNF (Or.inl ne173) oN0)))))))) nin0 (oNF (Or.inl ne174) (oNF (Or.inl ne174) (oNF (Or.inl ne174) (oNF (Or.inl ne174) (oNF (Or.inl ne174) oN0)))))))) nin0 (oNF (Or.inl ne175) (oNF (Or.inl ne175) (oNF (Or.inl ne175) (oNF (Or.inl ne175) (oNF (Or.inl ne175) oN0))))))) nin0 (oNF (Or.inl ne176) (oNF (Or.inl ne176) oN0))) nin0 (oNF (Or.inl ne176) (oNF (Or.inl ne176) (oNF (Or.inl ne176) oN0)))) (ninS ne177 nin0) (oNF (Or.inl ne176) (oNF (Or.inl ne176) oN0))) (ninS ne177 nin0) (oNF (Or.inl ne176) (oNF (Or.inl ne176) oN0))) (ninS ne177 nin0) (oNF (Or.inl ne176) (oNF (Or.inl ne176) oN0))))
    have ne185 : a15_0 ≠ a107 := oNe' (Nat.lt_of_lt_of_le f15_4.lt (Nat.le_trans (Nat.le_trans (Nat.le_trans (Nat.le_trans (Nat.le_trans (Nat.le_trans (Nat.le_trans (Nat.le_trans (Nat.le_trans (Nat.le_trans (Nat.le_trans (Nat.le_trans (Nat.le_trans (Nat.le_trans E17.1 E19.1) K26.1) E28.1) E30.1) K37.1) E39.1) E41.1) K48.1) E50.1) K53.1) K73.1) K85.1) K96.1) K106.1)) (Nat.le_of_eq g_a107.symm)
    have ne186 : a7 ≠ a107 := oNe' (Nat.lt_of_lt_of_le f59.lt (Nat.le_trans (Nat.le_trans (Nat.le_trans K73.1 K85.1) K96.1) K106.1)) (Nat.le_of_eq g_a107.symm)
    have z188 := (Nat.le_trans z108 E107.1)
    refine oCallC C (w119 hw) (w120 hw) (w118 hw) (w121 hw) at_250 rfl (by decide) pd_928696 rfl rfl (a := a107) (argsL := [.ref a50, .int bd]) (rest := [.ref a107]) rfl (W := 1) rfl (q := 253) rfl (by decide) (by decide) (by decide) (by decide) (ac14_56 l Z a0 hw _ n0 z188 a107 a50 bd w k a73_0 a15_0 a26_0 a37_0 a48_0 a17 m2 a28 m3 a39 m4 a7 X107 f107_span ge_a107 v1 f107_words f127 f128 ne129 hkw f107_bits f130 f131 ne132 f133 v2 f138 ne139 f141 ne142 f143 v3 f147 ne148 f149 ne150 f151 v4 f154 ne155 f156 ne157 f158 f159 f160 f161 f162 f163 f164 f165 f166 f167 f168 f169 f170 f171 f172 f178 f180 f181 f182 f183 f184 ne185 ne186) ?_
    rintro _ h187 ⟨a187_0, rfl, K187, s187, f187_0, f187_1, f187_2, f187_3⟩
    show oW _ _ _ _ _ _ _ _ _ _ _ _ _ _ _ (mkF m 253 #[.val (.int b), .val (.int e), .val (.int q), .val (.int bd), .val (.long c21), .second, .val (.long c31), .second, .val (.long c41), .second, .val (.long c32), .second, .val (.long c42), .second, .val (.long c43), .second, .val (.long m1), .second, .val (.long m2), .second, .val (.long m3), .second, .val (.long m4), .second, .val (.ref a7), .val (.ref a17), .val (.ref a28), .val (.ref a39), .val (.ref a50), .unset, .unset, .unset, .unset, .unset, .unset, .unset, .unset, .unset, .unset, .unset, .unset, .unset, .unset] [.ref a107])
    have f190 := (K187.exa X107)
    have z191 := (Nat.le_trans z188 K187.1)
    exact J253 h187 ⟨K187.1, f190, fun _ => oMet.mono (ac21_57 l Z a0 hw _ n0 z191 a107 a187_0 w k (oUp0 (1 : Int64) (0 : Int64) m2 (1 : Int64)) (oUp (1 : Int64) ((1 : Int32) &&& 0x3f).toInt64 (0 : Int64) (oUp0 (1 : Int64) (0 : Int64) m2 (1 : Int64)) m3 (2 : Int64)) (oUp (1 : Int64) ((1 : Int32) &&& 0x3f).toInt64 (0 : Int64) (oUp (1 : Int64) ((1 : Int32) &&& 0x3f).toInt64 (0 : Int64) (oUp0 (1 : Int64) (0 : Int64) m2 (1 : Int64)) m3 (2 : Int64)) m4 (4 : Int64)) f187_3 f187_1 f187_2 hkw) fun v h q => ⟨q.1.trans (congrArg (fun t => some (Value.int t)) (by rw [e_m2]; exact fin0 c21 c32 c42 dc21 dc32 dc42)), q.2⟩, fun _ => oMet.mono (ac21_58 l Z a0 hw _ n0 z191 a107 a187_0 w k (oUp0 (1 : Int64) (0 : Int64) m2 (1 : Int64)) (oUp (1 : Int64) ((1 : Int32) &&& 0x3f).toInt64 (0 : Int64) (oUp0 (1 : Int64) (0 : Int64) m2 (1 : Int64)) m3 (2 : Int64)) (oUp (1 : Int64) ((1 : Int32) &&& 0x3f).toInt64 (0 : Int64) (oUp (1 : Int64) ((1 : Int32) &&& 0x3f).toInt64 (0 : Int64) (oUp0 (1 : Int64) (0 : Int64) m2 (1 : Int64)) m3 (2 : Int64)) m4 (4 : Int64)) f187_3 f187_1 f187_2 hkw) fun v h q => ⟨q.1.trans (congrArg (fun t => some (Value.int t)) (by rw [e_m2, e_m3]; exact fin1 c21 c31 c32 c42 c43 dc21 dc31 dc32 dc42 dc43)), q.2⟩, fun _ => oMet.mono (ac21_59 l Z a0 hw _ n0 z191 a107 a187_0 w k (oUp0 (1 : Int64) (0 : Int64) m2 (1 : Int64)) (oUp (1 : Int64) ((1 : Int32) &&& 0x3f).toInt64 (0 : Int64) (oUp0 (1 : Int64) (0 : Int64) m2 (1 : Int64)) m3 (2 : Int64)) (oUp (1 : Int64) ((1 : Int32) &&& 0x3f).toInt64 (0 : Int64) (oUp (1 : Int64) ((1 : Int32) &&& 0x3f).toInt64 (0 : Int64) (oUp0 (1 : Int64) (0 : Int64) m2 (1 : Int64)) m3 (2 : Int64)) m4 (4 : Int64)) f187_3 f187_1 f187_2 hkw) fun v h q => ⟨q.1.trans (congrArg (fun t => some (Value.int t)) (by rw [e_m2, e_m3, e_m4]; exact fin2 c21 c31 c41 c32 c42 c43 dc21 dc31 dc41 dc32 dc42 dc43)), q.2⟩, fun q => absurd q (by rw [hb]; decide), fun q => absurd q (by rw [hb]; decide), fun q => absurd q (by rw [hb]; decide)⟩
   ·
    obtain ⟨k, w, hkw, hb, v1, v2, v3, v4⟩ := hv
    have f194 := (Exa.ext E107 (K106.exa f103))
    have f195 := (Fld.ext E107 f106_1)
    have ne196 : a50 ≠ a107 := oNe' f106_0.lt (Nat.le_of_eq g_a107.symm)
    have f197 := (Fld.ext E107 (K106.fld f104 (ninS ne83 nin0) (oNF (Or.inr (oSn2 hw 1 0)) (oNF (Or.inr (oSn2 hw 1 2)) oN0))))
    have f198 := (f106_2.ext E107)
    have ne199 : a73_0 ≠ a107 := oNe' (Nat.lt_of_lt_of_le f73_3.lt (Nat.le_trans (Nat.le_trans K85.1 K96.1) K106.1)) (Nat.le_of_eq g_a107.symm)
    have f200 := (Exa.ext E107 (K106.exa (K96.exa (K85.exa f82))))
    have ne201 : a26_0 ≠ a28 := oNe' f26_5.lt (Nat.le_of_eq g_a28.symm)
    have ne202 : a26_0 ≠ a39 := oNe' (Nat.lt_of_lt_of_le f26_5.lt (Nat.le_trans (Nat.le_trans E28.1 E30.1) K37.1)) (Nat.le_of_eq g_a39.symm)
    have ne203 : a26_0 ≠ a50 := oNe' (Nat.lt_of_lt_of_le f26_5.lt (Nat.le_trans (Nat.le_trans (Nat.le_trans (Nat.le_trans (Nat.le_trans E28.1 E30.1) K37.1) E39.1) E41.1) K48.1)) (Nat.le_of_eq g_a50.symm)
    have ne204 : a26_0 ≠ a73_0 := oNe' (Nat.lt_of_lt_of_le f26_5.lt (Nat.le_trans (Nat.le_trans (Nat.le_trans (Nat.le_trans (Nat.le_trans (Nat.le_trans (Nat.le_trans E28.1 E30.1) K37.1) E39.1) E41.1) K48.1) E50.1) K53.1)) s73
    have f205 := (Fld.ext E107 (K106.fld (K96.fld (K85.fld (K73.fld (K53.fld (Fld.ext E50 (K48.fld (Fld.ext E41 (Fld.ext E39 (K37.fld (Fld.ext E30 (Fld.ext E28 f26_5)) nin0 (oNF (Or.inl ne201) (oNF (Or.inl ne201) (oNF (Or.inl ne201) (oNF (Or.inl ne201) (oNF (Or.inl ne201) oN0)))))))) nin0 (oNF (Or.inl ne202) (oNF (Or.inl ne202) (oNF (Or.inl ne202) (oNF (Or.inl ne202) (oNF (Or.inl ne202) oN0))))))) nin0 (oNF (Or.inl ne203) (oNF (Or.inl ne203) oN0))) nin0 (oNF (Or.inl ne203) (oNF (Or.inl ne203) (oNF (Or.inl ne203) oN0)))) (ninS ne204 nin0) (oNF (Or.inl ne203) (oNF (Or.inl ne203) oN0))) (ninS ne204 nin0) (oNF (Or.inl ne203) (oNF (Or.inl ne203) oN0))) (ninS ne204 nin0) (oNF (Or.inl ne203) (oNF (Or.inl ne203) oN0))))
    have ne206 : a26_0 ≠ a107 := oNe' (Nat.lt_of_lt_of_le f26_6.lt (Nat.le_trans (Nat.le_trans (Nat.le_trans (Nat.le_trans (Nat.le_trans (Nat.le_trans (Nat.le_trans (Nat.le_trans (Nat.le_trans (Nat.le_trans (Nat.le_trans E28.1 E30.1) K37.1) E39.1) E41.1) K48.1) E50.1) K53.1) K73.1) K85.1) K96.1) K106.1)) (Nat.le_of_eq g_a107.symm)
    have ne207 : a17 ≠ a73_0 := oNe' (Nat.lt_of_lt_of_le f26_0.lt (Nat.le_trans (Nat.le_trans (Nat.le_trans (Nat.le_trans (Nat.le_trans (Nat.le_trans (Nat.le_trans E28.1 E30.1) K37.1) E39.1) E41.1) K48.1) E50.1) K53.1)) s73
    have f208 := (Fld.ext E107 (K106.fld (K96.fld (K85.fld (K73.fld (K53.fld (Fld.ext E50 (K48.fld (Fld.ext E41 (Fld.ext E39 (K37.fld (Fld.ext E30 (Fld.ext E28 f26_3)) nin0 (oNF (Or.inl ne74) (oNF (Or.inl ne74) (oNF (Or.inl ne74) (oNF (Or.inl ne74) (oNF (Or.inl ne74) oN0)))))))) nin0 (oNF (Or.inl ne75) (oNF (Or.inl ne75) (oNF (Or.inl ne75) (oNF (Or.inl ne75) (oNF (Or.inl ne75) oN0))))))) nin0 (oNF (Or.inl ne76) (oNF (Or.inl ne76) oN0))) nin0 (oNF (Or.inl ne76) (oNF (Or.inl ne76) (oNF (Or.inl ne76) oN0)))) (ninS ne207 nin0) (oNF (Or.inl ne76) (oNF (Or.inl ne76) oN0))) (ninS ne207 nin0) (oNF (Or.inl ne76) (oNF (Or.inl ne76) oN0))) (ninS ne207 nin0) (oNF (Or.inl ne76) (oNF (Or.inl ne76) oN0))))
    have ne209 : a17 ≠ a107 := oNe' (Nat.lt_of_lt_of_le f79.lt (Nat.le_trans (Nat.le_trans K85.1 K96.1) K106.1)) (Nat.le_of_eq g_a107.symm)
    have f210 := (Exa.ext E107 (K106.exa (K96.exa f95)))
    have ne211 : a37_0 ≠ a39 := oNe' f37_5.lt (Nat.le_of_eq g_a39.symm)
    have ne212 : a37_0 ≠ a50 := oNe' (Nat.lt_of_lt_of_le f37_5.lt (Nat.le_trans (Nat.le_trans E39.1 E41.1) K48.1)) (Nat.le_of_eq g_a50.symm)
    have ne213 : a37_0 ≠ a73_0 := oNe' (Nat.lt_of_lt_of_le f37_5.lt (Nat.le_trans (Nat.le_trans (Nat.le_trans (Nat.le_trans E39.1 E41.1) K48.1) E50.1) K53.1)) s73
    have f214 := (Fld.ext E107 (K106.fld (K96.fld (K85.fld (K73.fld (K53.fld (Fld.ext E50 (K48.fld (Fld.ext E41 (Fld.ext E39 f37_5)) nin0 (oNF (Or.inl ne211) (oNF (Or.inl ne211) (oNF (Or.inl ne211) (oNF (Or.inl ne211) (oNF (Or.inl ne211) oN0))))))) nin0 (oNF (Or.inl ne212) (oNF (Or.inl ne212) oN0))) nin0 (oNF (Or.inl ne212) (oNF (Or.inl ne212) (oNF (Or.inl ne212) oN0)))) (ninS ne213 nin0) (oNF (Or.inl ne212) (oNF (Or.inl ne212) oN0))) (ninS ne213 nin0) (oNF (Or.inl ne212) (oNF (Or.inl ne212) oN0))) (ninS ne213 nin0) (oNF (Or.inl ne212) (oNF (Or.inl ne212) oN0))))
    have ne215 : a37_0 ≠ a107 := oNe' (Nat.lt_of_lt_of_le f37_6.lt (Nat.le_trans (Nat.le_trans (Nat.le_trans (Nat.le_trans (Nat.le_trans (Nat.le_trans (Nat.le_trans (Nat.le_trans E39.1 E41.1) K48.1) E50.1) K53.1) K73.1) K85.1) K96.1) K106.1)) (Nat.le_of_eq g_a107.symm)
    have f216 := (Fld.ext E107 (K106.fld (K96.fld (K85.fld (K73.fld (K53.fld (Fld.ext E50 (K48.fld (Fld.ext E41 (Fld.ext E39 f37_3)) nin0 (oNF (Or.inl ne86) (oNF (Or.inl ne86) (oNF (Or.inl ne86) (oNF (Or.inl ne86) (oNF (Or.inl ne86) oN0))))))) nin0 (oNF (Or.inl ne87) (oNF (Or.inl ne87) oN0))) nin0 (oNF (Or.inl ne87) (oNF (Or.inl ne87) (oNF (Or.inl ne87) oN0)))) (ninS ne88 nin0) (oNF (Or.inl ne87) (oNF (Or.inl ne87) oN0))) (ninS ne88 nin0) (oNF (Or.inl ne87) (oNF (Or.inl ne87) oN0))) (ninS ne88 nin0) (oNF (Or.inl ne87) (oNF (Or.inl ne87) oN0))))
    have ne217 : a28 ≠ a107 := oNe' (Nat.lt_of_lt_of_le f91.lt (Nat.le_trans K96.1 K106.1)) (Nat.le_of_eq g_a107.symm)
    have f218 := (Exa.ext E107 (K106.exa f105))
    have ne219 : a48_0 ≠ a50 := oNe' f48_5.lt (Nat.le_of_eq g_a50.symm)
    have ne220 : a48_0 ≠ a73_0 := oNe' (Nat.lt_of_lt_of_le f48_5.lt (Nat.le_trans E50.1 K53.1)) s73
    have f221 := (Fld.ext E107 (K106.fld (K96.fld (K85.fld (K73.fld (K53.fld (Fld.ext E50 f48_5) nin0 (oNF (Or.inl ne219) (oNF (Or.inl ne219) oN0))) nin0 (oNF (Or.inl ne219) (oNF (Or.inl ne219) (oNF (Or.inl ne219) oN0)))) (ninS ne220 nin0) (oNF (Or.inl ne219) (oNF (Or.inl ne219) oN0))) (ninS ne220 nin0) (oNF (Or.inl ne219) (oNF (Or.inl ne219) oN0))) (ninS ne220 nin0) (oNF (Or.inl ne219) (oNF (Or.inl ne219) oN0))))
    have ne222 : a48_0 ≠ a107 := oNe' (Nat.lt_of_lt_of_le f48_6.lt (Nat.le_trans (Nat.le_trans (Nat.le_trans (Nat.le_trans (Nat.le_trans E50.1 K53.1) K73.1) K85.1) K96.1) K106.1)) (Nat.le_of_eq g_a107.symm)
    have f223 := (Fld.ext E107 (K106.fld (K96.fld (K85.fld (K73.fld (K53.fld (Fld.ext E50 f48_3) nin0 (oNF (Or.inl ne97) (oNF (Or.inl ne97) oN0))) nin0 (oNF (Or.inl ne97) (oNF (Or.inl ne97) (oNF (Or.inl ne97) oN0)))) (ninS ne98 nin0) (oNF (Or.inl ne97) (oNF (Or.inl ne97) oN0))) (ninS ne98 nin0) (oNF (Or.inl ne97) (oNF (Or.inl ne97) oN0))) (ninS ne98 nin0) (oNF (Or.inl ne97) (oNF (Or.inl ne97) oN0))))
    have ne224 : a39 ≠ a107 := oNe' (Nat.lt_of_lt_of_le f101.lt K106.1) (Nat.le_of_eq g_a107.symm)
    have f225 := (Fld.ext E107 (K106.fld (K96.fld (K85.fld (K73.fld (K53.fld (Fld.ext E50 (K48.fld (Fld.ext E41 (Fld.ext E39 (K37.fld (Fld.ext E30 (Fld.ext E28 f26_0)) nin0 (oNF (Or.inl ne74) (oNF (Or.inl ne74) (oNF (Or.inl ne74) (oNF (Or.inl ne74) (oNF (Or.inl ne74) oN0)))))))) nin0 (oNF (Or.inl ne75) (oNF (Or.inl ne75) (oNF (Or.inl ne75) (oNF (Or.inl ne75) (oNF (Or.inl ne75) oN0))))))) nin0 (oNF (Or.inl ne76) (oNF (Or.inl ne76) oN0))) nin0 (oNF (Or.inl ne76) (oNF (Or.inl ne76) (oNF (Or.inl ne76) oN0)))) (ninS ne207 nin0) (oNF (Or.inl ne76) (oNF (Or.inl ne76) oN0))) (ninS ne207 nin0) (oNF (Or.inl ne76) (oNF (Or.inl ne76) oN0))) (ninS ne207 nin0) (oNF (Or.inl ne76) (oNF (Or.inl ne76) oN0))))
    have f226 := (Fld.ext E107 (K106.fld (K96.fld (K85.fld (K73.fld (K53.fld (Fld.ext E50 f48_0) nin0 (oNF (Or.inl ne97) (oNF (Or.inl ne97) oN0))) nin0 (oNF (Or.inl ne97) (oNF (Or.inl ne97) (oNF (Or.inl ne97) oN0)))) (ninS ne98 nin0) (oNF (Or.inl ne97) (oNF (Or.inl ne97) oN0))) (ninS ne98 nin0) (oNF (Or.inl ne97) (oNF (Or.inl ne97) oN0))) (ninS ne98 nin0) (oNF (Or.inl ne97) (oNF (Or.inl ne97) oN0))))
    have f227 := (Exa.ext E107 (K106.exa f101))
    have f228 := (Fld.ext E107 (K106.fld (K96.fld (K85.fld (K73.fld (K53.fld (Fld.ext E50 f48_6) nin0 (oNF (Or.inl ne219) (oNF (Or.inl ne219) oN0))) nin0 (oNF (Or.inl ne219) (oNF (Or.inl ne219) (oNF (Or.inl ne219) oN0)))) (ninS ne220 nin0) (oNF (Or.inl ne219) (oNF (Or.inl ne219) oN0))) (ninS ne220 nin0) (oNF (Or.inl ne219) (oNF (Or.inl ne219) oN0))) (ninS ne220 nin0) (oNF (Or.inl ne219) (oNF (Or.inl ne219) oN0))))
    have f229 := (Fld.ext E107 (K106.fld (K96.fld (K85.fld (K73.fld (K53.fld (Fld.ext E50 f48_7) nin0 (oNF (Or.inl ne219) (oNF (Or.inl ne219) oN0))) nin0 (oNF (Or.inl ne219) (oNF (Or.inl ne219) (oNF (Or.inl ne219) oN0)))) (ninS ne220 nin0) (oNF (Or.inl ne219) (oNF (Or.inl ne219) oN0))) (ninS ne220 nin0) (oNF (Or.inl ne219) (oNF (Or.inl ne219) oN0))) (ninS ne220 nin0) (oNF (Or.inl ne219) (oNF (Or.inl ne219) oN0))))
    have f230 := (Fld.ext E107 (K106.fld (K96.fld (K85.fld (K73.fld (K53.fld (Fld.ext E50 (K48.fld (Fld.ext E41 (Fld.ext E39 (K37.fld (Fld.ext E30 (Fld.ext E28 f26_2)) nin0 (oNF (Or.inl ne74) (oNF (Or.inl ne74) (oNF (Or.inl ne74) (oNF (Or.inl ne74) (oNF (Or.inl ne74) oN0)))))))) nin0 (oNF (Or.inl ne75) (oNF (Or.inl ne75) (oNF (Or.inl ne75) (oNF (Or.inl ne75) (oNF (Or.inl ne75) oN0))))))) nin0 (oNF (Or.inl ne76) (oNF (Or.inl ne76) oN0))) nin0 (oNF (Or.inl ne76) (oNF (Or.inl ne76) (oNF (Or.inl ne76) oN0)))) (ninS ne207 nin0) (oNF (Or.inl ne76) (oNF (Or.inl ne76) oN0))) (ninS ne207 nin0) (oNF (Or.inl ne76) (oNF (Or.inl ne76) oN0))) (ninS ne207 nin0) (oNF (Or.inl ne76) (oNF (Or.inl ne76) oN0))))
    have f231 := (Exa.ext E107 (K106.exa (K96.exa (K85.exa f79))))
    have f232 := (Fld.ext E107 (K106.fld (K96.fld (K85.fld (K73.fld (K53.fld (Fld.ext E50 (K48.fld (Fld.ext E41 (Fld.ext E39 (K37.fld (Fld.ext E30 (Fld.ext E28 f26_6)) nin0 (oNF (Or.inl ne201) (oNF (Or.inl ne201) (oNF (Or.inl ne201) (oNF (Or.inl ne201) (oNF (Or.inl ne201) oN0)))))))) nin0 (oNF (Or.inl ne202) (oNF (Or.inl ne202) (oNF (Or.inl ne202) (oNF (Or.inl ne202) (oNF (Or.inl ne202) oN0))))))) nin0 (oNF (Or.inl ne203) (oNF (Or.inl ne203) oN0))) nin0 (oNF (Or.inl ne203) (oNF (Or.inl ne203) (oNF (Or.inl ne203) oN0)))) (ninS ne204 nin0) (oNF (Or.inl ne203) (oNF (Or.inl ne203) oN0))) (ninS ne204 nin0) (oNF (Or.inl ne203) (oNF (Or.inl ne203) oN0))) (ninS ne204 nin0) (oNF (Or.inl ne203) (oNF (Or.inl ne203) oN0))))
    have f233 := (Fld.ext E107 (K106.fld (K96.fld (K85.fld (K73.fld (K53.fld (Fld.ext E50 (K48.fld (Fld.ext E41 (Fld.ext E39 (K37.fld (Fld.ext E30 (Fld.ext E28 f26_7)) nin0 (oNF (Or.inl ne201) (oNF (Or.inl ne201) (oNF (Or.inl ne201) (oNF (Or.inl ne201) (oNF (Or.inl ne201) oN0)))))))) nin0 (oNF (Or.inl ne202) (oNF (Or.inl ne202) (oNF (Or.inl ne202) (oNF (Or.inl ne202) (oNF (Or.inl ne202) oN0))))))) nin0 (oNF (Or.inl ne203) (oNF (Or.inl ne203) oN0))) nin0 (oNF (Or.inl ne203) (oNF (Or.inl ne203) (oNF (Or.inl ne203) oN0)))) (ninS ne204 nin0) (oNF (Or.inl ne203) (oNF (Or.inl ne203) oN0))) (ninS ne204 nin0) (oNF (Or.inl ne203) (oNF (Or.inl ne203) oN0))) (ninS ne204 nin0) (oNF (Or.inl ne203) (oNF (Or.inl ne203) oN0))))
    have f234 := (Fld.ext E107 (K106.fld (K96.fld (K85.fld (K73.fld (K53.fld (Fld.ext E50 (K48.fld (Fld.ext E41 (Fld.ext E39 f37_0)) nin0 (oNF (Or.inl ne86) (oNF (Or.inl ne86) (oNF (Or.inl ne86) (oNF (Or.inl ne86) (oNF (Or.inl ne86) oN0))))))) nin0 (oNF (Or.inl ne87) (oNF (Or.inl ne87) oN0))) nin0 (oNF (Or.inl ne87) (oNF (Or.inl ne87) (oNF (Or.inl ne87) oN0)))) (ninS ne88 nin0) (oNF (Or.inl ne87) (oNF (Or.inl ne87) oN0))) (ninS ne88 nin0) (oNF (Or.inl ne87) (oNF (Or.inl ne87) oN0))) (ninS ne88 nin0) (oNF (Or.inl ne87) (oNF (Or.inl ne87) oN0))))
    have f235 := (Fld.ext E107 (K106.fld (K96.fld (K85.fld (K73.fld (K53.fld (Fld.ext E50 (K48.fld (Fld.ext E41 (Fld.ext E39 f37_2)) nin0 (oNF (Or.inl ne86) (oNF (Or.inl ne86) (oNF (Or.inl ne86) (oNF (Or.inl ne86) (oNF (Or.inl ne86) oN0))))))) nin0 (oNF (Or.inl ne87) (oNF (Or.inl ne87) oN0))) nin0 (oNF (Or.inl ne87) (oNF (Or.inl ne87) (oNF (Or.inl ne87) oN0)))) (ninS ne88 nin0) (oNF (Or.inl ne87) (oNF (Or.inl ne87) oN0))) (ninS ne88 nin0) (oNF (Or.inl ne87) (oNF (Or.inl ne87) oN0))) (ninS ne88 nin0) (oNF (Or.inl ne87) (oNF (Or.inl ne87) oN0))))
    have f236 := (Exa.ext E107 (K106.exa (K96.exa f91)))
    have f237 := (Fld.ext E107 (K106.fld (K96.fld (K85.fld (K73.fld (K53.fld (Fld.ext E50 (K48.fld (Fld.ext E41 (Fld.ext E39 f37_6)) nin0 (oNF (Or.inl ne211) (oNF (Or.inl ne211) (oNF (Or.inl ne211) (oNF (Or.inl ne211) (oNF (Or.inl ne211) oN0))))))) nin0 (oNF (Or.inl ne212) (oNF (Or.inl ne212) oN0))) nin0 (oNF (Or.inl ne212) (oNF (Or.inl ne212) (oNF (Or.inl ne212) oN0)))) (ninS ne213 nin0) (oNF (Or.inl ne212) (oNF (Or.inl ne212) oN0))) (ninS ne213 nin0) (oNF (Or.inl ne212) (oNF (Or.inl ne212) oN0))) (ninS ne213 nin0) (oNF (Or.inl ne212) (oNF (Or.inl ne212) oN0))))
    have f238 := (Fld.ext E107 (K106.fld (K96.fld (K85.fld (K73.fld (K53.fld (Fld.ext E50 (K48.fld (Fld.ext E41 (Fld.ext E39 f37_7)) nin0 (oNF (Or.inl ne211) (oNF (Or.inl ne211) (oNF (Or.inl ne211) (oNF (Or.inl ne211) (oNF (Or.inl ne211) oN0))))))) nin0 (oNF (Or.inl ne212) (oNF (Or.inl ne212) oN0))) nin0 (oNF (Or.inl ne212) (oNF (Or.inl ne212) (oNF (Or.inl ne212) oN0)))) (ninS ne213 nin0) (oNF (Or.inl ne212) (oNF (Or.inl ne212) oN0))) (ninS ne213 nin0) (oNF (Or.inl ne212) (oNF (Or.inl ne212) oN0))) (ninS ne213 nin0) (oNF (Or.inl ne212) (oNF (Or.inl ne212) oN0))))
    have f239 := (Exa.ext E107 (K106.exa (K96.exa (K85.exa (K73.exa f72)))))
    have ne240 : a15_0 ≠ a17 := oNe' f15_5.lt (Nat.le_of_eq g_a17.symm)
    have ne241 : a15_0 ≠ a28 := oNe' (Nat.lt_of_lt_of_le f15_5.lt (Nat.le_trans (Nat.le_trans E17.1 E19.1) K26.1)) (Nat.le_of_eq g_a28.symm)
    have ne242 : a15_0 ≠ a39 := oNe' (Nat.lt_of_lt_of_le f15_5.lt (Nat.le_trans (Nat.le_trans (Nat.le_trans (Nat.le_trans (Nat.le_trans E17.1 E19.1) K26.1) E28.1) E30.1) K37.1)) (Nat.le_of_eq g_a39.symm)
    have ne243 : a15_0 ≠ a50 := oNe' (Nat.lt_of_lt_of_le f15_5.lt (Nat.le_trans (Nat.le_trans (Nat.le_trans (Nat.le_trans (Nat.le_trans (Nat.le_trans (Nat.le_trans (Nat.le_trans E17.1 E19.1) K26.1) E28.1) E30.1) K37.1) E39.1) E41.1) K48.1)) (Nat.le_of_eq g_a50.symm)
    have ne244 : a15_0 ≠ a73_0 := oNe' (Nat.lt_of_lt_of_le f15_5.lt (Nat.le_trans (Nat.le_trans (Nat.le_trans (Nat.le_trans (Nat.le_trans (Nat.le_trans (Nat.le_trans (Nat.le_trans (Nat.le_trans (Nat.le_trans E17.1 E19.1) K26.1) E28.1) E30.1) K37.1) E39.1) E41.1) K48.1) E50.1) K53.1)) s73
    have f245 := (Fld.ext E107 (K106.fld (K96.fld (K85.fld (K73.fld (K53.fld (Fld.ext E50 (K48.fld (Fld.ext E41 (Fld.ext E39 (K37.fld (Fld.ext E30 (Fld.ext E28 (K26.fld (Fld.ext E19 (Fld.ext E17 f15_5)) nin0 (oNF (Or.inl ne240) (oNF (Or.inl ne240) (oNF (Or.inl ne240) (oNF (Or.inl ne240) (oNF (Or.inl ne240) oN0)))))))) nin0 (oNF (Or.inl ne241) (oNF (Or.inl ne241) (oNF (Or.inl ne241) (oNF (Or.inl ne241) (oNF (Or.inl ne241) oN0)))))))) nin0 (oNF (Or.inl ne242) (oNF (Or.inl ne242) (oNF (Or.inl ne242) (oNF (Or.inl ne242) (oNF (Or.inl ne242) oN0))))))) nin0 (oNF (Or.inl ne243) (oNF (Or.inl ne243) oN0))) nin0 (oNF (Or.inl ne243) (oNF (Or.inl ne243) (oNF (Or.inl ne243) oN0)))) (ninS ne244 nin0) (oNF (Or.inl ne243) (oNF (Or.inl ne243) oN0))) (ninS ne244 nin0) (oNF (Or.inl ne243) (oNF (Or.inl ne243) oN0))) (ninS ne244 nin0) (oNF (Or.inl ne243) (oNF (Or.inl ne243) oN0))))
    have ne246 : a7 ≠ a73_0 := oNe' f61.lt s73
    have f247 := (Fld.ext E107 (K106.fld (K96.fld (K85.fld (K73.fld (K53.fld (Fld.ext E50 (K48.fld (Fld.ext E41 (Fld.ext E39 (K37.fld (Fld.ext E30 (Fld.ext E28 (K26.fld (Fld.ext E19 (Fld.ext E17 f15_0)) nin0 (oNF (Or.inl ne55) (oNF (Or.inl ne55) (oNF (Or.inl ne55) (oNF (Or.inl ne55) (oNF (Or.inl ne55) oN0)))))))) nin0 (oNF (Or.inl ne56) (oNF (Or.inl ne56) (oNF (Or.inl ne56) (oNF (Or.inl ne56) (oNF (Or.inl ne56) oN0)))))))) nin0 (oNF (Or.inl ne57) (oNF (Or.inl ne57) (oNF (Or.inl ne57) (oNF (Or.inl ne57) (oNF (Or.inl ne57) oN0))))))) nin0 (oNF (Or.inl ne58) (oNF (Or.inl ne58) oN0))) nin0 (oNF (Or.inl ne58) (oNF (Or.inl ne58) (oNF (Or.inl ne58) oN0)))) (ninS ne246 nin0) (oNF (Or.inl ne58) (oNF (Or.inl ne58) oN0))) (ninS ne246 nin0) (oNF (Or.inl ne58) (oNF (Or.inl ne58) oN0))) (ninS ne246 nin0) (oNF (Or.inl ne58) (oNF (Or.inl ne58) oN0))))
    have f248 := (Fld.ext E107 (K106.fld (K96.fld (K85.fld (K73.fld (K53.fld (Fld.ext E50 (K48.fld (Fld.ext E41 (Fld.ext E39 (K37.fld (Fld.ext E30 (Fld.ext E28 (K26.fld (Fld.ext E19 (Fld.ext E17 f15_2)) nin0 (oNF (Or.inl ne55) (oNF (Or.inl ne55) (oNF (Or.inl ne55) (oNF (Or.inl ne55) (oNF (Or.inl ne55) oN0)))))))) nin0 (oNF (Or.inl ne56) (oNF (Or.inl ne56) (oNF (Or.inl ne56) (oNF (Or.inl ne56) (oNF (Or.inl ne56) oN0)))))))) nin0 (oNF (Or.inl ne57) (oNF (Or.inl ne57) (oNF (Or.inl ne57) (oNF (Or.inl ne57) (oNF (Or.inl ne57) oN0))))))) nin0 (oNF (Or.inl ne58) (oNF (Or.inl ne58) oN0))) nin0 (oNF (Or.inl ne58) (oNF (Or.inl ne58) (oNF (Or.inl ne58) oN0)))) (ninS ne246 nin0) (oNF (Or.inl ne58) (oNF (Or.inl ne58) oN0))) (ninS ne246 nin0) (oNF (Or.inl ne58) (oNF (Or.inl ne58) oN0))) (ninS ne246 nin0) (oNF (Or.inl ne58) (oNF (Or.inl ne58) oN0))))
    have f249 := (Exa.ext E107 (K106.exa (K96.exa (K85.exa (K73.exa f61)))))
    have f250 := (Fld.ext E107 (K106.fld (K96.fld (K85.fld (K73.fld (K53.fld (Fld.ext E50 (K48.fld (Fld.ext E41 (Fld.ext E39 (K37.fld (Fld.ext E30 (Fld.ext E28 (K26.fld (Fld.ext E19 (Fld.ext E17 f15_6)) nin0 (oNF (Or.inl ne240) (oNF (Or.inl ne240) (oNF (Or.inl ne240) (oNF (Or.inl ne240) (oNF (Or.inl ne240) oN0)))))))) nin0 (oNF (Or.inl ne241) (oNF (Or.inl ne241) (oNF (Or.inl ne241) (oNF (Or.inl ne241) (oNF (Or.inl ne241) oN0)))))))) nin0 (oNF (Or.inl ne242) (oNF (Or.inl ne242) (oNF (Or.inl ne242) (oNF (Or.inl ne242) (oNF (Or.inl ne242) oN0))))))) nin0 (oNF (Or.inl ne243) (oNF (Or.inl ne243) oN0))) nin0 (oNF (Or.inl ne243) (oNF (Or.inl ne243) (oNF (Or.inl ne243) oN0)))) (ninS ne244 nin0) (oNF (Or.inl ne243) (oNF (Or.inl ne243) oN0))) (ninS ne244 nin0) (oNF (Or.inl ne243) (oNF (Or.inl ne243) oN0))) (ninS ne244 nin0) (oNF (Or.inl ne243) (oNF (Or.inl ne243) oN0))))
    have f251 := (Fld.ext E107 (K106.fld (K96.fld (K85.fld (K73.fld (K53.fld (Fld.ext E50 (K48.fld (Fld.ext E41 (Fld.ext E39 (K37.fld (Fld.ext E30 (Fld.ext E28 (K26.fld (Fld.ext E19 (Fld.ext E17 f15_7)) nin0 (oNF (Or.inl ne240) (oNF (Or.inl ne240) (oNF (Or.inl ne240) (oNF (Or.inl ne240) (oNF (Or.inl ne240) oN0)))))))) nin0 (oNF (Or.inl ne241) (oNF (Or.inl ne241) (oNF (Or.inl ne241) (oNF (Or.inl ne241) (oNF (Or.inl ne241) oN0)))))))) nin0 (oNF (Or.inl ne242) (oNF (Or.inl ne242) (oNF (Or.inl ne242) (oNF (Or.inl ne242) (oNF (Or.inl ne242) oN0))))))) nin0 (oNF (Or.inl ne243) (oNF (Or.inl ne243) oN0))) nin0 (oNF (Or.inl ne243) (oNF (Or.inl ne243) (oNF (Or.inl ne243) oN0)))) (ninS ne244 nin0) (oNF (Or.inl ne243) (oNF (Or.inl ne243) oN0))) (ninS ne244 nin0) (oNF (Or.inl ne243) (oNF (Or.inl ne243) oN0))) (ninS ne244 nin0) (oNF (Or.inl ne243) (oNF (Or.inl ne243) oN0))))
    have ne252 : a15_0 ≠ a107 := oNe' (Nat.lt_of_lt_of_le f15_4.lt (Nat.le_trans (Nat.le_trans (Nat.le_trans (Nat.le_trans (Nat.le_trans (Nat.le_trans (Nat.le_trans (Nat.le_trans (Nat.le_trans (Nat.le_trans (Nat.le_trans (Nat.le_trans (Nat.le_trans (Nat.le_trans E17.1 E19.1) K26.1) E28.1) E30.1) K37.1) E39.1) E41.1) K48.1) E50.1) K53.1) K73.1) K85.1) K96.1) K106.1)) (Nat.le_of_eq g_a107.symm)
    have ne253 : a7 ≠ a107 := oNe' (Nat.lt_of_lt_of_le f59.lt (Nat.le_trans (Nat.le_trans (Nat.le_trans K73.1 K85.1) K96.1) K106.1)) (Nat.le_of_eq g_a107.symm)
    have z255 := (Nat.le_trans z108 E107.1)
    refine oCallC C (w119 hw) (w120 hw) (w118 hw) (w121 hw) at_250 rfl (by decide) pd_928696 rfl rfl (a := a107) (argsL := [.ref a50, .int bd]) (rest := [.ref a107]) rfl (W := 1) rfl (q := 253) rfl (by decide) (by decide) (by decide) (by decide) (ac14_64 l Z a0 hw _ n0 z255 a107 a50 bd w k a73_0 a15_0 a26_0 a37_0 a48_0 a17 m2 a28 m3 a39 m4 a7 X107 f107_span ge_a107 v1 f107_words f194 f195 ne196 hkw f107_bits f197 f198 ne199 f200 v2 f205 ne206 f208 ne209 f210 v3 f214 ne215 f216 ne217 f218 v4 f221 ne222 f223 ne224 f225 f226 f227 f228 f229 f230 f231 f232 f233 f234 f235 f236 f237 f238 f239 f245 f247 f248 f249 f250 f251 ne252 ne253) ?_
    rintro _ h254 ⟨a254_0, rfl, K254, s254, f254_0, f254_1, f254_2, f254_3⟩
    show oW _ _ _ _ _ _ _ _ _ _ _ _ _ _ _ (mkF m 253 #[.val (.int b), .val (.int e), .val (.int q), .val (.int bd), .val (.long c21), .second, .val (.long c31), .second, .val (.long c41), .second, .val (.long c32), .second, .val (.long c42), .second, .val (.long c43), .second, .val (.long m1), .second, .val (.long m2), .second, .val (.long m3), .second, .val (.long m4), .second, .val (.ref a7), .val (.ref a17), .val (.ref a28), .val (.ref a39), .val (.ref a50), .unset, .unset, .unset, .unset, .unset, .unset, .unset, .unset, .unset, .unset, .unset, .unset, .unset, .unset] [.ref a107])
    have f257 := (K254.exa X107)
    have z258 := (Nat.le_trans z255 K254.1)
    exact J253 h254 ⟨K254.1, f257, fun _ => oMet.mono (ac21_57 l Z a0 hw _ n0 z258 a107 a254_0 w k (oUp0 (1 : Int64) (0 : Int64) m2 (1 : Int64)) (oUp0 (2 : Int64) (oUp (1 : Int64) ((1 : Int32) &&& 0x3f).toInt64 (0 : Int64) (oUp0 (1 : Int64) (0 : Int64) m2 (1 : Int64)) m3 (2 : Int64)) m3 (1 : Int64)) (oUp (2 : Int64) ((2 : Int32) &&& 0x3f).toInt64 (oUp (1 : Int64) ((1 : Int32) &&& 0x3f).toInt64 (0 : Int64) (oUp0 (2 : Int64) (oUp (1 : Int64) ((1 : Int32) &&& 0x3f).toInt64 (0 : Int64) (oUp0 (1 : Int64) (0 : Int64) m2 (1 : Int64)) m3 (2 : Int64)) m3 (1 : Int64)) m4 (4 : Int64)) (oUp0 (1 : Int64) (0 : Int64) m2 (1 : Int64)) m4 (2 : Int64)) f254_3 f254_1 f254_2 hkw) fun v h q => ⟨q.1.trans (congrArg (fun t => some (Value.int t)) (by rw [e_m2]; exact fin0 c21 c32 c42 dc21 dc32 dc42)), q.2⟩, fun _ => oMet.mono (ac21_58 l Z a0 hw _ n0 z258 a107 a254_0 w k (oUp0 (1 : Int64) (0 : Int64) m2 (1 : Int64)) (oUp0 (2 : Int64) (oUp (1 : Int64) ((1 : Int32) &&& 0x3f).toInt64 (0 : Int64) (oUp0 (1 : Int64) (0 : Int64) m2 (1 : Int64)) m3 (2 : Int64)) m3 (1 : Int64)) (oUp (2 : Int64) ((2 : Int32) &&& 0x3f).toInt64 (oUp (1 : Int64) ((1 : Int32) &&& 0x3f).toInt64 (0 : Int64) (oUp0 (2 : Int64) (oUp (1 : Int64) ((1 : Int32) &&& 0x3f).toInt64 (0 : Int64) (oUp0 (1 : Int64) (0 : Int64) m2 (1 : Int64)) m3 (2 : Int64)) m3 (1 : Int64)) m4 (4 : Int64)) (oUp0 (1 : Int64) (0 : Int64) m2 (1 : Int64)) m4 (2 : Int64)) f254_3 f254_1 f254_2 hkw) fun v h q => ⟨q.1.trans (congrArg (fun t => some (Value.int t)) (by rw [e_m2, e_m3]; exact fin3 c21 c31 c32 c42 c43 dc21 dc31 dc32 dc42 dc43)), q.2⟩, fun _ => oMet.mono (ac21_59 l Z a0 hw _ n0 z258 a107 a254_0 w k (oUp0 (1 : Int64) (0 : Int64) m2 (1 : Int64)) (oUp0 (2 : Int64) (oUp (1 : Int64) ((1 : Int32) &&& 0x3f).toInt64 (0 : Int64) (oUp0 (1 : Int64) (0 : Int64) m2 (1 : Int64)) m3 (2 : Int64)) m3 (1 : Int64)) (oUp (2 : Int64) ((2 : Int32) &&& 0x3f).toInt64 (oUp (1 : Int64) ((1 : Int32) &&& 0x3f).toInt64 (0 : Int64) (oUp0 (2 : Int64) (oUp (1 : Int64) ((1 : Int32) &&& 0x3f).toInt64 (0 : Int64) (oUp0 (1 : Int64) (0 : Int64) m2 (1 : Int64)) m3 (2 : Int64)) m3 (1 : Int64)) m4 (4 : Int64)) (oUp0 (1 : Int64) (0 : Int64) m2 (1 : Int64)) m4 (2 : Int64)) f254_3 f254_1 f254_2 hkw) fun v h q => ⟨q.1.trans (congrArg (fun t => some (Value.int t)) (by rw [e_m2, e_m3, e_m4]; exact fin4 c21 c31 c41 c32 c42 c43 dc21 dc31 dc41 dc32 dc42 dc43)), q.2⟩, fun _ => oMet.mono (ac21_65 l Z a0 hw _ n0 z258 a107 a254_0 w k (oUp0 (1 : Int64) (0 : Int64) m2 (1 : Int64)) (oUp0 (2 : Int64) (oUp (1 : Int64) ((1 : Int32) &&& 0x3f).toInt64 (0 : Int64) (oUp0 (1 : Int64) (0 : Int64) m2 (1 : Int64)) m3 (2 : Int64)) m3 (1 : Int64)) (oUp (2 : Int64) ((2 : Int32) &&& 0x3f).toInt64 (oUp (1 : Int64) ((1 : Int32) &&& 0x3f).toInt64 (0 : Int64) (oUp0 (2 : Int64) (oUp (1 : Int64) ((1 : Int32) &&& 0x3f).toInt64 (0 : Int64) (oUp0 (1 : Int64) (0 : Int64) m2 (1 : Int64)) m3 (2 : Int64)) m3 (1 : Int64)) m4 (4 : Int64)) (oUp0 (1 : Int64) (0 : Int64) m2 (1 : Int64)) m4 (2 : Int64)) f254_3 f254_1 f254_2 hkw) fun v h q => ⟨q.1.trans (congrArg (fun t => some (Value.int t)) (by rw [e_m2, e_m3]; exact fin5 c21 c31 c32 c42 c43 dc21 dc31 dc32 dc42 dc43)), q.2⟩, fun _ => oMet.mono (ac21_60 l Z a0 hw _ n0 z258 a107 a254_0 w k (oUp0 (1 : Int64) (0 : Int64) m2 (1 : Int64)) (oUp0 (2 : Int64) (oUp (1 : Int64) ((1 : Int32) &&& 0x3f).toInt64 (0 : Int64) (oUp0 (1 : Int64) (0 : Int64) m2 (1 : Int64)) m3 (2 : Int64)) m3 (1 : Int64)) (oUp (2 : Int64) ((2 : Int32) &&& 0x3f).toInt64 (oUp (1 : Int64) ((1 : Int32) &&& 0x3f).toInt64 (0 : Int64) (oUp0 (2 : Int64) (oUp (1 : Int64) ((1 : Int32) &&& 0x3f).toInt64 (0 : Int64) (oUp0 (1 : Int64) (0 : Int64) m2 (1 : Int64)) m3 (2 : Int64)) m3 (1 : Int64)) m4 (4 : Int64)) (oUp0 (1 : Int64) (0 : Int64) m2 (1 : Int64)) m4 (2 : Int64)) f254_3 f254_1 f254_2 hkw) fun v h q => ⟨q.1.trans (congrArg (fun t => some (Value.int t)) (by rw [e_m2, e_m3, e_m4]; exact fin6 c21 c31 c41 c32 c42 c43 dc21 dc31 dc41 dc32 dc42 dc43)), q.2⟩, fun q => absurd q (by rw [hb]; decide)⟩
   ·
    obtain ⟨k, w, hkw, hb, v1, v2, v3, v4⟩ := hv
    have f263 := (Exa.ext E107 (K106.exa f103))
    have f264 := (Fld.ext E107 f106_1)
    have ne265 : a50 ≠ a107 := oNe' f106_0.lt (Nat.le_of_eq g_a107.symm)
    have f266 := (Fld.ext E107 (K106.fld f104 (ninS ne83 nin0) (oNF (Or.inr (oSn2 hw 1 0)) (oNF (Or.inr (oSn2 hw 1 2)) oN0))))
    have f267 := (f106_2.ext E107)
    have ne268 : a73_0 ≠ a107 := oNe' (Nat.lt_of_lt_of_le f73_3.lt (Nat.le_trans (Nat.le_trans K85.1 K96.1) K106.1)) (Nat.le_of_eq g_a107.symm)
    have f269 := (Exa.ext E107 (K106.exa (K96.exa (K85.exa f82))))
    have ne270 : a26_0 ≠ a28 := oNe' f26_5.lt (Nat.le_of_eq g_a28.symm)
    have ne271 : a26_0 ≠ a39 := oNe' (Nat.lt_of_lt_of_le f26_5.lt (Nat.le_trans (Nat.le_trans E28.1 E30.1) K37.1)) (Nat.le_of_eq g_a39.symm)
    have ne272 : a26_0 ≠ a50 := oNe' (Nat.lt_of_lt_of_le f26_5.lt (Nat.le_trans (Nat.le_trans (Nat.le_trans (Nat.le_trans (Nat.le_trans E28.1 E30.1) K37.1) E39.1) E41.1) K48.1)) (Nat.le_of_eq g_a50.symm)
    have ne273 : a26_0 ≠ a73_0 := oNe' (Nat.lt_of_lt_of_le f26_5.lt (Nat.le_trans (Nat.le_trans (Nat.le_trans (Nat.le_trans (Nat.le_trans (Nat.le_trans (Nat.le_trans E28.1 E30.1) K37.1) E39.1) E41.1) K48.1) E50.1) K53.1)) s73
    have f274 := (Fld.ext E107 (K106.fld (K96.fld (K85.fld (K73.fld (K53.fld (Fld.ext E50 (K48.fld (Fld.ext E41 (Fld.ext E39 (K37.fld (Fld.ext E30 (Fld.ext E28 f26_5)) nin0 (oNF (Or.inl ne270) (oNF (Or.inl ne270) (oNF (Or.inl ne270) (oNF (Or.inl ne270) (oNF (Or.inl ne270) oN0)))))))) nin0 (oNF (Or.inl ne271) (oNF (Or.inl ne271) (oNF (Or.inl ne271) (oNF (Or.inl ne271) (oNF (Or.inl ne271) oN0))))))) nin0 (oNF (Or.inl ne272) (oNF (Or.inl ne272) oN0))) nin0 (oNF (Or.inl ne272) (oNF (Or.inl ne272) (oNF (Or.inl ne272) oN0)))) (ninS ne273 nin0) (oNF (Or.inl ne272) (oNF (Or.inl ne272) oN0))) (ninS ne273 nin0) (oNF (Or.inl ne272) (oNF (Or.inl ne272) oN0))) (ninS ne273 nin0) (oNF (Or.inl ne272) (oNF (Or.inl ne272) oN0))))
    have ne275 : a26_0 ≠ a107 := oNe' (Nat.lt_of_lt_of_le f26_6.lt (Nat.le_trans (Nat.le_trans (Nat.le_trans (Nat.le_trans (Nat.le_trans (Nat.le_trans (Nat.le_trans (Nat.le_trans (Nat.le_trans (Nat.le_trans (Nat.le_trans E28.1 E30.1) K37.1) E39.1) E41.1) K48.1) E50.1) K53.1) K73.1) K85.1) K96.1) K106.1)) (Nat.le_of_eq g_a107.symm)
    have ne276 : a17 ≠ a73_0 := oNe' (Nat.lt_of_lt_of_le f26_0.lt (Nat.le_trans (Nat.le_trans (Nat.le_trans (Nat.le_trans (Nat.le_trans (Nat.le_trans (Nat.le_trans E28.1 E30.1) K37.1) E39.1) E41.1) K48.1) E50.1) K53.1)) s73
    have f277 := (Fld.ext E107 (K106.fld (K96.fld (K85.fld (K73.fld (K53.fld (Fld.ext E50 (K48.fld (Fld.ext E41 (Fld.ext E39 (K37.fld (Fld.ext E30 (Fld.ext E28 f26_3)) nin0 (oNF (Or.inl ne74) (oNF (Or.inl ne74) (oNF (Or.inl ne74) (oNF (Or.inl ne74) (oNF (Or.inl ne74) oN0)))))))) nin0 (oNF (Or.inl ne75) (oNF (Or.inl ne75) (oNF (Or.inl ne75) (oNF (Or.inl ne75) (oNF (Or.inl ne75) oN0))))))) nin0 (oNF (Or.inl ne76) (oNF (Or.inl ne76) oN0))) nin0 (oNF (Or.inl ne76) (oNF (Or.inl ne76) (oNF (Or.inl ne76) oN0)))) (ninS ne276 nin0) (oNF (Or.inl ne76) (oNF (Or.inl ne76) oN0))) (ninS ne276 nin0) (oNF (Or.inl ne76) (oNF (Or.inl ne76) oN0))) (ninS ne276 nin0) (oNF (Or.inl ne76) (oNF (Or.inl ne76) oN0))))
    have ne278 : a17 ≠ a107 := oNe' (Nat.lt_of_lt_of_le f79.lt (Nat.le_trans (Nat.le_trans K85.1 K96.1) K106.1)) (Nat.le_of_eq g_a107.symm)
    have f279 := (Exa.ext E107 (K106.exa (K96.exa f95)))
    have ne280 : a37_0 ≠ a39 := oNe' f37_5.lt (Nat.le_of_eq g_a39.symm)
    have ne281 : a37_0 ≠ a50 := oNe' (Nat.lt_of_lt_of_le f37_5.lt (Nat.le_trans (Nat.le_trans E39.1 E41.1) K48.1)) (Nat.le_of_eq g_a50.symm)
    have ne282 : a37_0 ≠ a73_0 := oNe' (Nat.lt_of_lt_of_le f37_5.lt (Nat.le_trans (Nat.le_trans (Nat.le_trans (Nat.le_trans E39.1 E41.1) K48.1) E50.1) K53.1)) s73
    have f283 := (Fld.ext E107 (K106.fld (K96.fld (K85.fld (K73.fld (K53.fld (Fld.ext E50 (K48.fld (Fld.ext E41 (Fld.ext E39 f37_5)) nin0 (oNF (Or.inl ne280) (oNF (Or.inl ne280) (oNF (Or.inl ne280) (oNF (Or.inl ne280) (oNF (Or.inl ne280) oN0))))))) nin0 (oNF (Or.inl ne281) (oNF (Or.inl ne281) oN0))) nin0 (oNF (Or.inl ne281) (oNF (Or.inl ne281) (oNF (Or.inl ne281) oN0)))) (ninS ne282 nin0) (oNF (Or.inl ne281) (oNF (Or.inl ne281) oN0))) (ninS ne282 nin0) (oNF (Or.inl ne281) (oNF (Or.inl ne281) oN0))) (ninS ne282 nin0) (oNF (Or.inl ne281) (oNF (Or.inl ne281) oN0))))
    have ne284 : a37_0 ≠ a107 := oNe' (Nat.lt_of_lt_of_le f37_6.lt (Nat.le_trans (Nat.le_trans (Nat.le_trans (Nat.le_trans (Nat.le_trans (Nat.le_trans (Nat.le_trans (Nat.le_trans E39.1 E41.1) K48.1) E50.1) K53.1) K73.1) K85.1) K96.1) K106.1)) (Nat.le_of_eq g_a107.symm)
    have f285 := (Fld.ext E107 (K106.fld (K96.fld (K85.fld (K73.fld (K53.fld (Fld.ext E50 (K48.fld (Fld.ext E41 (Fld.ext E39 f37_3)) nin0 (oNF (Or.inl ne86) (oNF (Or.inl ne86) (oNF (Or.inl ne86) (oNF (Or.inl ne86) (oNF (Or.inl ne86) oN0))))))) nin0 (oNF (Or.inl ne87) (oNF (Or.inl ne87) oN0))) nin0 (oNF (Or.inl ne87) (oNF (Or.inl ne87) (oNF (Or.inl ne87) oN0)))) (ninS ne88 nin0) (oNF (Or.inl ne87) (oNF (Or.inl ne87) oN0))) (ninS ne88 nin0) (oNF (Or.inl ne87) (oNF (Or.inl ne87) oN0))) (ninS ne88 nin0) (oNF (Or.inl ne87) (oNF (Or.inl ne87) oN0))))
    have ne286 : a28 ≠ a107 := oNe' (Nat.lt_of_lt_of_le f91.lt (Nat.le_trans K96.1 K106.1)) (Nat.le_of_eq g_a107.symm)
    have f287 := (Exa.ext E107 (K106.exa f105))
    have ne288 : a48_0 ≠ a50 := oNe' f48_5.lt (Nat.le_of_eq g_a50.symm)
    have ne289 : a48_0 ≠ a73_0 := oNe' (Nat.lt_of_lt_of_le f48_5.lt (Nat.le_trans E50.1 K53.1)) s73
    have f290 := (Fld.ext E107 (K106.fld (K96.fld (K85.fld (K73.fld (K53.fld (Fld.ext E50 f48_5) nin0 (oNF (Or.inl ne288) (oNF (Or.inl ne288) oN0))) nin0 (oNF (Or.inl ne288) (oNF (Or.inl ne288) (oNF (Or.inl ne288) oN0)))) (ninS ne289 nin0) (oNF (Or.inl ne288) (oNF (Or.inl ne288) oN0))) (ninS ne289 nin0) (oNF (Or.inl ne288) (oNF (Or.inl ne288) oN0))) (ninS ne289 nin0) (oNF (Or.inl ne288) (oNF (Or.inl ne288) oN0))))
    have ne291 : a48_0 ≠ a107 := oNe' (Nat.lt_of_lt_of_le f48_6.lt (Nat.le_trans (Nat.le_trans (Nat.le_trans (Nat.le_trans (Nat.le_trans E50.1 K53.1) K73.1) K85.1) K96.1) K106.1)) (Nat.le_of_eq g_a107.symm)
    have f292 := (Fld.ext E107 (K106.fld (K96.fld (K85.fld (K73.fld (K53.fld (Fld.ext E50 f48_3) nin0 (oNF (Or.inl ne97) (oNF (Or.inl ne97) oN0))) nin0 (oNF (Or.inl ne97) (oNF (Or.inl ne97) (oNF (Or.inl ne97) oN0)))) (ninS ne98 nin0) (oNF (Or.inl ne97) (oNF (Or.inl ne97) oN0))) (ninS ne98 nin0) (oNF (Or.inl ne97) (oNF (Or.inl ne97) oN0))) (ninS ne98 nin0) (oNF (Or.inl ne97) (oNF (Or.inl ne97) oN0))))
    have ne293 : a39 ≠ a107 := oNe' (Nat.lt_of_lt_of_le f101.lt K106.1) (Nat.le_of_eq g_a107.symm)
    have f294 := (Exa.ext E107 (K106.exa (K96.exa (K85.exa (K73.exa f72)))))
    have ne295 : a15_0 ≠ a17 := oNe' f15_5.lt (Nat.le_of_eq g_a17.symm)
    have ne296 : a15_0 ≠ a28 := oNe' (Nat.lt_of_lt_of_le f15_5.lt (Nat.le_trans (Nat.le_trans E17.1 E19.1) K26.1)) (Nat.le_of_eq g_a28.symm)
    have ne297 : a15_0 ≠ a39 := oNe' (Nat.lt_of_lt_of_le f15_5.lt (Nat.le_trans (Nat.le_trans (Nat.le_trans (Nat.le_trans (Nat.le_trans E17.1 E19.1) K26.1) E28.1) E30.1) K37.1)) (Nat.le_of_eq g_a39.symm)
    have ne298 : a15_0 ≠ a50 := oNe' (Nat.lt_of_lt_of_le f15_5.lt (Nat.le_trans (Nat.le_trans (Nat.le_trans (Nat.le_trans (Nat.le_trans (Nat.le_trans (Nat.le_trans (Nat.le_trans E17.1 E19.1) K26.1) E28.1) E30.1) K37.1) E39.1) E41.1) K48.1)) (Nat.le_of_eq g_a50.symm)
    have ne299 : a15_0 ≠ a73_0 := oNe' (Nat.lt_of_lt_of_le f15_5.lt (Nat.le_trans (Nat.le_trans (Nat.le_trans (Nat.le_trans (Nat.le_trans (Nat.le_trans (Nat.le_trans (Nat.le_trans (Nat.le_trans (Nat.le_trans E17.1 E19.1) K26.1) E28.1) E30.1) K37.1) E39.1) E41.1) K48.1) E50.1) K53.1)) s73
    have f300 := (Fld.ext E107 (K106.fld (K96.fld (K85.fld (K73.fld (K53.fld (Fld.ext E50 (K48.fld (Fld.ext E41 (Fld.ext E39 (K37.fld (Fld.ext E30 (Fld.ext E28 (K26.fld (Fld.ext E19 (Fld.ext E17 f15_5)) nin0 (oNF (Or.inl ne295) (oNF (Or.inl ne295) (oNF (Or.inl ne295) (oNF (Or.inl ne295) (oNF (Or.inl ne295) oN0)))))))) nin0 (oNF (Or.inl ne296) (oNF (Or.inl ne296) (oNF (Or.inl ne296) (oNF (Or.inl ne296) (oNF (Or.inl ne296) oN0)))))))) nin0 (oNF (Or.inl ne297) (oNF (Or.inl ne297) (oNF (Or.inl ne297) (oNF (Or.inl ne297) (oNF (Or.inl ne297) oN0))))))) nin0 (oNF (Or.inl ne298) (oNF (Or.inl ne298) oN0))) nin0 (oNF (Or.inl ne298) (oNF (Or.inl ne298) (oNF (Or.inl ne298) oN0)))) (ninS ne299 nin0) (oNF (Or.inl ne298) (oNF (Or.inl ne298) oN0))) (ninS ne299 nin0) (oNF (Or.inl ne298) (oNF (Or.inl ne298) oN0))) (ninS ne299 nin0) (oNF (Or.inl ne298) (oNF (Or.inl ne298) oN0))))
    have ne301 : a7 ≠ a73_0 := oNe' f61.lt s73
    have f302 := (Fld.ext E107 (K106.fld (K96.fld (K85.fld (K73.fld (K53.fld (Fld.ext E50 (K48.fld (Fld.ext E41 (Fld.ext E39 (K37.fld (Fld.ext E30 (Fld.ext E28 (K26.fld (Fld.ext E19 (Fld.ext E17 f15_0)) nin0 (oNF (Or.inl ne55) (oNF (Or.inl ne55) (oNF (Or.inl ne55) (oNF (Or.inl ne55) (oNF (Or.inl ne55) oN0)))))))) nin0 (oNF (Or.inl ne56) (oNF (Or.inl ne56) (oNF (Or.inl ne56) (oNF (Or.inl ne56) (oNF (Or.inl ne56) oN0)))))))) nin0 (oNF (Or.inl ne57) (oNF (Or.inl ne57) (oNF (Or.inl ne57) (oNF (Or.inl ne57) (oNF (Or.inl ne57) oN0))))))) nin0 (oNF (Or.inl ne58) (oNF (Or.inl ne58) oN0))) nin0 (oNF (Or.inl ne58) (oNF (Or.inl ne58) (oNF (Or.inl ne58) oN0)))) (ninS ne301 nin0) (oNF (Or.inl ne58) (oNF (Or.inl ne58) oN0))) (ninS ne301 nin0) (oNF (Or.inl ne58) (oNF (Or.inl ne58) oN0))) (ninS ne301 nin0) (oNF (Or.inl ne58) (oNF (Or.inl ne58) oN0))))
    have f303 := (Fld.ext E107 (K106.fld (K96.fld (K85.fld (K73.fld (K53.fld (Fld.ext E50 f48_0) nin0 (oNF (Or.inl ne97) (oNF (Or.inl ne97) oN0))) nin0 (oNF (Or.inl ne97) (oNF (Or.inl ne97) (oNF (Or.inl ne97) oN0)))) (ninS ne98 nin0) (oNF (Or.inl ne97) (oNF (Or.inl ne97) oN0))) (ninS ne98 nin0) (oNF (Or.inl ne97) (oNF (Or.inl ne97) oN0))) (ninS ne98 nin0) (oNF (Or.inl ne97) (oNF (Or.inl ne97) oN0))))
    have f304 := (Exa.ext E107 (K106.exa f101))
    have f305 := (Fld.ext E107 (K106.fld (K96.fld (K85.fld (K73.fld (K53.fld (Fld.ext E50 f48_6) nin0 (oNF (Or.inl ne288) (oNF (Or.inl ne288) oN0))) nin0 (oNF (Or.inl ne288) (oNF (Or.inl ne288) (oNF (Or.inl ne288) oN0)))) (ninS ne289 nin0) (oNF (Or.inl ne288) (oNF (Or.inl ne288) oN0))) (ninS ne289 nin0) (oNF (Or.inl ne288) (oNF (Or.inl ne288) oN0))) (ninS ne289 nin0) (oNF (Or.inl ne288) (oNF (Or.inl ne288) oN0))))
    have f306 := (Fld.ext E107 (K106.fld (K96.fld (K85.fld (K73.fld (K53.fld (Fld.ext E50 f48_7) nin0 (oNF (Or.inl ne288) (oNF (Or.inl ne288) oN0))) nin0 (oNF (Or.inl ne288) (oNF (Or.inl ne288) (oNF (Or.inl ne288) oN0)))) (ninS ne289 nin0) (oNF (Or.inl ne288) (oNF (Or.inl ne288) oN0))) (ninS ne289 nin0) (oNF (Or.inl ne288) (oNF (Or.inl ne288) oN0))) (ninS ne289 nin0) (oNF (Or.inl ne288) (oNF (Or.inl ne288) oN0))))
    have f307 := (Fld.ext E107 (K106.fld (K96.fld (K85.fld (K73.fld (K53.fld (Fld.ext E50 (K48.fld (Fld.ext E41 (Fld.ext E39 (K37.fld (Fld.ext E30 (Fld.ext E28 (K26.fld (Fld.ext E19 (Fld.ext E17 f15_2)) nin0 (oNF (Or.inl ne55) (oNF (Or.inl ne55) (oNF (Or.inl ne55) (oNF (Or.inl ne55) (oNF (Or.inl ne55) oN0)))))))) nin0 (oNF (Or.inl ne56) (oNF (Or.inl ne56) (oNF (Or.inl ne56) (oNF (Or.inl ne56) (oNF (Or.inl ne56) oN0)))))))) nin0 (oNF (Or.inl ne57) (oNF (Or.inl ne57) (oNF (Or.inl ne57) (oNF (Or.inl ne57) (oNF (Or.inl ne57) oN0))))))) nin0 (oNF (Or.inl ne58) (oNF (Or.inl ne58) oN0))) nin0 (oNF (Or.inl ne58) (oNF (Or.inl ne58) (oNF (Or.inl ne58) oN0)))) (ninS ne301 nin0) (oNF (Or.inl ne58) (oNF (Or.inl ne58) oN0))) (ninS ne301 nin0) (oNF (Or.inl ne58) (oNF (Or.inl ne58) oN0))) (ninS ne301 nin0) (oNF (Or.inl ne58) (oNF (Or.inl ne58) oN0))))
    have f308 := (Exa.ext E107 (K106.exa (K96.exa (K85.exa (K73.exa f61)))))
    have f309 := (Fld.ext E107 (K106.fld (K96.fld (K85.fld (K73.fld (K53.fld (Fld.ext E50 (K48.fld (Fld.ext E41 (Fld.ext E39 (K37.fld (Fld.ext E30 (Fld.ext E28 (K26.fld (Fld.ext E19 (Fld.ext E17 f15_6)) nin0 (oNF (Or.inl ne295) (oNF (Or.inl ne295) (oNF (Or.inl ne295) (oNF (Or.inl ne295) (oNF (Or.inl ne295) oN0)))))))) nin0 (oNF (Or.inl ne296) (oNF (Or.inl ne296) (oNF (Or.inl ne296) (oNF (Or.inl ne296) (oNF (Or.inl ne296) oN0)))))))) nin0 (oNF (Or.inl ne297) (oNF (Or.inl ne297) (oNF (Or.inl ne297) (oNF (Or.inl ne297) (oNF (Or.inl ne297) oN0))))))) nin0 (oNF (Or.inl ne298) (oNF (Or.inl ne298) oN0))) nin0 (oNF (Or.inl ne298) (oNF (Or.inl ne298) (oNF (Or.inl ne298) oN0)))) (ninS ne299 nin0) (oNF (Or.inl ne298) (oNF (Or.inl ne298) oN0))) (ninS ne299 nin0) (oNF (Or.inl ne298) (oNF (Or.inl ne298) oN0))) (ninS ne299 nin0) (oNF (Or.inl ne298) (oNF (Or.inl ne298) oN0))))
    have f310 := (Fld.ext E107 (K106.fld (K96.fld (K85.fld (K73.fld (K53.fld (Fld.ext E50 (K48.fld (Fld.ext E41 (Fld.ext E39 (K37.fld (Fld.ext E30 (Fld.ext E28 (K26.fld (Fld.ext E19 (Fld.ext E17 f15_7)) nin0 (oNF (Or.inl ne295) (oNF (Or.inl ne295) (oNF (Or.inl ne295) (oNF (Or.inl ne295) (oNF (Or.inl ne295) oN0)))))))) nin0 (oNF (Or.inl ne296) (oNF (Or.inl ne296) (oNF (Or.inl ne296) (oNF (Or.inl ne296) (oNF (Or.inl ne296) oN0)))))))) nin0 (oNF (Or.inl ne297) (oNF (Or.inl ne297) (oNF (Or.inl ne297) (oNF (Or.inl ne297) (oNF (Or.inl ne297) oN0))))))) nin0 (oNF (Or.inl ne298) (oNF (Or.inl ne298) oN0))) nin0 (oNF (Or.inl ne298) (oNF (Or.inl ne298) (oNF (Or.inl ne298) oN0)))) (ninS ne299 nin0) (oNF (Or.inl ne298) (oNF (Or.inl ne298) oN0))) (ninS ne299 nin0) (oNF (Or.inl ne298) (oNF (Or.inl ne298) oN0))) (ninS ne299 nin0) (oNF (Or.inl ne298) (oNF (Or.inl ne298) oN0))))
    have ne311 : a15_0 ≠ a107 := oNe' (Nat.lt_of_lt_of_le f15_4.lt (Nat.le_trans (Nat.le_trans (Nat.le_trans (Nat.le_trans (Nat.le_trans (Nat.le_trans (Nat.le_trans (Nat.le_trans (Nat.le_trans (Nat.le_trans (Nat.le_trans (Nat.le_trans (Nat.le_trans (Nat.le_trans E17.1 E19.1) K26.1) E28.1) E30.1) K37.1) E39.1) E41.1) K48.1) E50.1) K53.1) K73.1) K85.1) K96.1) K106.1)) (Nat.le_of_eq g_a107.symm)
    have ne312 : a7 ≠ a107 := oNe' (Nat.lt_of_lt_of_le f59.lt (Nat.le_trans (Nat.le_trans (Nat.le_trans K73.1 K85.1) K96.1) K106.1)) (Nat.le_of_eq g_a107.symm)
    have f313 := (Fld.ext E107 (K106.fld (K96.fld (K85.fld (K73.fld (K53.fld (Fld.ext E50 (K48.fld (Fld.ext E41 (Fld.ext E39 (K37.fld (Fld.ext E30 (Fld.ext E28 f26_0)) nin0 (oNF (Or.inl ne74) (oNF (Or.inl ne74) (oNF (Or.inl ne74) (oNF (Or.inl ne74) (oNF (Or.inl ne74) oN0)))))))) nin0 (oNF (Or.inl ne75) (oNF (Or.inl ne75) (oNF (Or.inl ne75) (oNF (Or.inl ne75) (oNF (Or.inl ne75) oN0))))))) nin0 (oNF (Or.inl ne76) (oNF (Or.inl ne76) oN0))) nin0 (oNF (Or.inl ne76) (oNF (Or.inl ne76) (oNF (Or.inl ne76) oN0)))) (ninS ne276 nin0) (oNF (Or.inl ne76) (oNF (Or.inl ne76) oN0))) (ninS ne276 nin0) (oNF (Or.inl ne76) (oNF (Or.inl ne76) oN0))) (ninS ne276 nin0) (oNF (Or.inl ne76) (oNF (Or.inl ne76) oN0))))
    have f314 := (Fld.ext E107 (K106.fld (K96.fld (K85.fld (K73.fld (K53.fld (Fld.ext E50 (K48.fld (Fld.ext E41 (Fld.ext E39 (K37.fld (Fld.ext E30 (Fld.ext E28 f26_2)) nin0 (oNF (Or.inl ne74) (oNF (Or.inl ne74) (oNF (Or.inl ne74) (oNF (Or.inl ne74) (oNF (Or.inl ne74) oN0)))))))) nin0 (oNF (Or.inl ne75) (oNF (Or.inl ne75) (oNF (Or.inl ne75) (oNF (Or.inl ne75) (oNF (Or.inl ne75) oN0))))))) nin0 (oNF (Or.inl ne76) (oNF (Or.inl ne76) oN0))) nin0 (oNF (Or.inl ne76) (oNF (Or.inl ne76) (oNF (Or.inl ne76) oN0)))) (ninS ne276 nin0) (oNF (Or.inl ne76) (oNF (Or.inl ne76) oN0))) (ninS ne276 nin0) (oNF (Or.inl ne76) (oNF (Or.inl ne76) oN0))) (ninS ne276 nin0) (oNF (Or.inl ne76) (oNF (Or.inl ne76) oN0))))
    have f315 := (Exa.ext E107 (K106.exa (K96.exa (K85.exa f79))))
    have f316 := (Fld.ext E107 (K106.fld (K96.fld (K85.fld (K73.fld (K53.fld (Fld.ext E50 (K48.fld (Fld.ext E41 (Fld.ext E39 (K37.fld (Fld.ext E30 (Fld.ext E28 f26_6)) nin0 (oNF (Or.inl ne270) (oNF (Or.inl ne270) (oNF (Or.inl ne270) (oNF (Or.inl ne270) (oNF (Or.inl ne270) oN0)))))))) nin0 (oNF (Or.inl ne271) (oNF (Or.inl ne271) (oNF (Or.inl ne271) (oNF (Or.inl ne271) (oNF (Or.inl ne271) oN0))))))) nin0 (oNF (Or.inl ne272) (oNF (Or.inl ne272) oN0))) nin0 (oNF (Or.inl ne272) (oNF (Or.inl ne272) (oNF (Or.inl ne272) oN0)))) (ninS ne273 nin0) (oNF (Or.inl ne272) (oNF (Or.inl ne272) oN0))) (ninS ne273 nin0) (oNF (Or.inl ne272) (oNF (Or.inl ne272) oN0))) (ninS ne273 nin0) (oNF (Or.inl ne272) (oNF (Or.inl ne272) oN0))))
    have f317 := (Fld.ext E107 (K106.fld (K96.fld (K85.fld (K73.fld (K53.fld (Fld.ext E50 (K48.fld (Fld.ext E41 (Fld.ext E39 (K37.fld (Fld.ext E30 (Fld.ext E28 f26_7)) nin0 (oNF (Or.inl ne270) (oNF (Or.inl ne270) (oNF (Or.inl ne270) (oNF (Or.inl ne270) (oNF (Or.inl ne270) oN0)))))))) nin0 (oNF (Or.inl ne271) (oNF (Or.inl ne271) (oNF (Or.inl ne271) (oNF (Or.inl ne271) (oNF (Or.inl ne271) oN0))))))) nin0 (oNF (Or.inl ne272) (oNF (Or.inl ne272) oN0))) nin0 (oNF (Or.inl ne272) (oNF (Or.inl ne272) (oNF (Or.inl ne272) oN0)))) (ninS ne273 nin0) (oNF (Or.inl ne272) (oNF (Or.inl ne272) oN0))) (ninS ne273 nin0) (oNF (Or.inl ne272) (oNF (Or.inl ne272) oN0))) (ninS ne273 nin0) (oNF (Or.inl ne272) (oNF (Or.inl ne272) oN0))))
    have f318 := (Fld.ext E107 (K106.fld (K96.fld (K85.fld (K73.fld (K53.fld (Fld.ext E50 (K48.fld (Fld.ext E41 (Fld.ext E39 f37_0)) nin0 (oNF (Or.inl ne86) (oNF (Or.inl ne86) (oNF (Or.inl ne86) (oNF (Or.inl ne86) (oNF (Or.inl ne86) oN0))))))) nin0 (oNF (Or.inl ne87) (oNF (Or.inl ne87) oN0))) nin0 (oNF (Or.inl ne87) (oNF (Or.inl ne87) (oNF (Or.inl ne87) oN0)))) (ninS ne88 nin0) (oNF (Or.inl ne87) (oNF (Or.inl ne87) oN0))) (ninS ne88 nin0) (oNF (Or.inl ne87) (oNF (Or.inl ne87) oN0))) (ninS ne88 nin0) (oNF (Or.inl ne87) (oNF (Or.inl ne87) oN0))))
    have f319 := (Fld.ext E107 (K106.fld (K96.fld (K85.fld (K73.fld (K53.fld (Fld.ext E50 (K48.fld (Fld.ext E41 (Fld.ext E39 f37_2)) nin0 (oNF (Or.inl ne86) (oNF (Or.inl ne86) (oNF (Or.inl ne86) (oNF (Or.inl ne86) (oNF (Or.inl ne86) oN0))))))) nin0 (oNF (Or.inl ne87) (oNF (Or.inl ne87) oN0))) nin0 (oNF (Or.inl ne87) (oNF (Or.inl ne87) (oNF (Or.inl ne87) oN0)))) (ninS ne88 nin0) (oNF (Or.inl ne87) (oNF (Or.inl ne87) oN0))) (ninS ne88 nin0) (oNF (Or.inl ne87) (oNF (Or.inl ne87) oN0))) (ninS ne88 nin0) (oNF (Or.inl ne87) (oNF (Or.inl ne87) oN0))))
    have f320 := (Exa.ext E107 (K106.exa (K96.exa f91)))
    have f321 := (Fld.ext E107 (K106.fld (K96.fld (K85.fld (K73.fld (K53.fld (Fld.ext E50 (K48.fld (Fld.ext E41 (Fld.ext E39 f37_6)) nin0 (oNF (Or.inl ne280) (oNF (Or.inl ne280) (oNF (Or.inl ne280) (oNF (Or.inl ne280) (oNF (Or.inl ne280) oN0))))))) nin0 (oNF (Or.inl ne281) (oNF (Or.inl ne281) oN0))) nin0 (oNF (Or.inl ne281) (oNF (Or.inl ne281) (oNF (Or.inl ne281) oN0)))) (ninS ne282 nin0) (oNF (Or.inl ne281) (oNF (Or.inl ne281) oN0))) (ninS ne282 nin0) (oNF (Or.inl ne281) (oNF (Or.inl ne281) oN0))) (ninS ne282 nin0) (oNF (Or.inl ne281) (oNF (Or.inl ne281) oN0))))
    have f322 := (Fld.ext E107 (K106.fld (K96.fld (K85.fld (K73.fld (K53.fld (Fld.ext E50 (K48.fld (Fld.ext E41 (Fld.ext E39 f37_7)) nin0 (oNF (Or.inl ne280) (oNF (Or.inl ne280) (oNF (Or.inl ne280) (oNF (Or.inl ne280) (oNF (Or.inl ne280) oN0))))))) nin0 (oNF (Or.inl ne281) (oNF (Or.inl ne281) oN0))) nin0 (oNF (Or.inl ne281) (oNF (Or.inl ne281) (oNF (Or.inl ne281) oN0)))) (ninS ne282 nin0) (oNF (Or.inl ne281) (oNF (Or.inl ne281) oN0))) (ninS ne282 nin0) (oNF (Or.inl ne281) (oNF (Or.inl ne281) oN0))) (ninS ne282 nin0) (oNF (Or.inl ne281) (oNF (Or.inl ne281) oN0))))
    have z324 := (Nat.le_trans z108 E107.1)
    refine oCallC C (w119 hw) (w120 hw) (w118 hw) (w121 hw) at_250 rfl (by decide) pd_928696 rfl rfl (a := a107) (argsL := [.ref a50, .int bd]) (rest := [.ref a107]) rfl (W := 1) rfl (q := 253) rfl (by decide) (by decide) (by decide) (by decide) (ac14_68 l Z a0 hw _ n0 z324 a107 a50 bd w k a73_0 a15_0 a26_0 a37_0 a48_0 a17 m2 a28 m3 a39 m4 a7 X107 f107_span ge_a107 v1 f107_words f263 f264 ne265 hkw f107_bits f266 f267 ne268 f269 v2 f274 ne275 f277 ne278 f279 v3 f283 ne284 f285 ne286 f287 v4 f290 ne291 f292 ne293 f294 f300 f302 f303 f304 f305 f306 f307 f308 f309 f310 ne311 ne312 f313 f314 f315 f316 f317 f318 f319 f320 f321 f322) ?_
    rintro _ h323 ⟨a323_0, rfl, K323, s323, f323_0, f323_1, f323_2, f323_3⟩
    show oW _ _ _ _ _ _ _ _ _ _ _ _ _ _ _ (mkF m 253 #[.val (.int b), .val (.int e), .val (.int q), .val (.int bd), .val (.long c21), .second, .val (.long c31), .second, .val (.long c41), .second, .val (.long c32), .second, .val (.long c42), .second, .val (.long c43), .second, .val (.long m1), .second, .val (.long m2), .second, .val (.long m3), .second, .val (.long m4), .second, .val (.ref a7), .val (.ref a17), .val (.ref a28), .val (.ref a39), .val (.ref a50), .unset, .unset, .unset, .unset, .unset, .unset, .unset, .unset, .unset, .unset, .unset, .unset, .unset, .unset] [.ref a107])
    have f326 := (K323.exa X107)
    have z327 := (Nat.le_trans z324 K323.1)
    exact J253 h323 ⟨K323.1, f326, fun _ => oMet.mono (ac21_57 l Z a0 hw _ n0 z327 a107 a323_0 w k (oUp0 (1 : Int64) (0 : Int64) m2 (1 : Int64)) (oUp0 (2 : Int64) (oUp (1 : Int64) ((1 : Int32) &&& 0x3f).toInt64 (0 : Int64) (oUp0 (1 : Int64) (0 : Int64) m2 (1 : Int64)) m3 (2 : Int64)) m3 (1 : Int64)) (oUp0 (4 : Int64) (oUp (2 : Int64) ((2 : Int32) &&& 0x3f).toInt64 (oUp (1 : Int64) ((1 : Int32) &&& 0x3f).toInt64 (0 : Int64) (oUp0 (2 : Int64) (oUp (1 : Int64) ((1 : Int32) &&& 0x3f).toInt64 (0 : Int64) (oUp0 (1 : Int64) (0 : Int64) m2 (1 : Int64)) m3 (2 : Int64)) m3 (1 : Int64)) m4 (4 : Int64)) (oUp0 (1 : Int64) (0 : Int64) m2 (1 : Int64)) m4 (2 : Int64)) m4 (1 : Int64)) f323_3 f323_1 f323_2 hkw) fun v h q => ⟨q.1.trans (congrArg (fun t => some (Value.int t)) (by rw [e_m2]; exact fin0 c21 c32 c42 dc21 dc32 dc42)), q.2⟩, fun _ => oMet.mono (ac21_58 l Z a0 hw _ n0 z327 a107 a323_0 w k (oUp0 (1 : Int64) (0 : Int64) m2 (1 : Int64)) (oUp0 (2 : Int64) (oUp (1 : Int64) ((1 : Int32) &&& 0x3f).toInt64 (0 : Int64) (oUp0 (1 : Int64) (0 : Int64) m2 (1 : Int64)) m3 (2 : Int64)) m3 (1 : Int64)) (oUp0 (4 : Int64) (oUp (2 : Int64) ((2 : Int32) &&& 0x3f).toInt64 (oUp (1 : Int64) ((1 : Int32) &&& 0x3f).toInt64 (0 : Int64) (oUp0 (2 : Int64) (oUp (1 : Int64) ((1 : Int32) &&& 0x3f).toInt64 (0 : Int64) (oUp0 (1 : Int64) (0 : Int64) m2 (1 : Int64)) m3 (2 : Int64)) m3 (1 : Int64)) m4 (4 : Int64)) (oUp0 (1 : Int64) (0 : Int64) m2 (1 : Int64)) m4 (2 : Int64)) m4 (1 : Int64)) f323_3 f323_1 f323_2 hkw) fun v h q => ⟨q.1.trans (congrArg (fun t => some (Value.int t)) (by rw [e_m2, e_m3]; exact fin3 c21 c31 c32 c42 c43 dc21 dc31 dc32 dc42 dc43)), q.2⟩, fun _ => oMet.mono (ac21_59 l Z a0 hw _ n0 z327 a107 a323_0 w k (oUp0 (1 : Int64) (0 : Int64) m2 (1 : Int64)) (oUp0 (2 : Int64) (oUp (1 : Int64) ((1 : Int32) &&& 0x3f).toInt64 (0 : Int64) (oUp0 (1 : Int64) (0 : Int64) m2 (1 : Int64)) m3 (2 : Int64)) m3 (1 : Int64)) (oUp0 (4 : Int64) (oUp (2 : Int64) ((2 : Int32) &&& 0x3f).toInt64 (oUp (1 : Int64) ((1 : Int32) &&& 0x3f).toInt64 (0 : Int64) (oUp0 (2 : Int64) (oUp (1 : Int64) ((1 : Int32) &&& 0x3f).toInt64 (0 : Int64) (oUp0 (1 : Int64) (0 : Int64) m2 (1 : Int64)) m3 (2 : Int64)) m3 (1 : Int64)) m4 (4 : Int64)) (oUp0 (1 : Int64) (0 : Int64) m2 (1 : Int64)) m4 (2 : Int64)) m4 (1 : Int64)) f323_3 f323_1 f323_2 hkw) fun v h q => ⟨q.1.trans (congrArg (fun t => some (Value.int t)) (by rw [e_m2, e_m3, e_m4]; exact fin7 c21 c31 c41 c32 c42 c43 dc21 dc31 dc41 dc32 dc42 dc43)), q.2⟩, fun _ => oMet.mono (ac21_65 l Z a0 hw _ n0 z327 a107 a323_0 w k (oUp0 (1 : Int64) (0 : Int64) m2 (1 : Int64)) (oUp0 (2 : Int64) (oUp (1 : Int64) ((1 : Int32) &&& 0x3f).toInt64 (0 : Int64) (oUp0 (1 : Int64) (0 : Int64) m2 (1 : Int64)) m3 (2 : Int64)) m3 (1 : Int64)) (oUp0 (4 : Int64) (oUp (2 : Int64) ((2 : Int32) &&& 0x3f).toInt64 (oUp (1 : Int64) ((1 : Int32) &&& 0x3f).toInt64 (0 : Int64) (oUp0 (2 : Int64) (oUp (1 : Int64) ((1 : Int32) &&& 0x3f).toInt64 (0 : Int64) (oUp0 (1 : Int64) (0 : Int64) m2 (1 : Int64)) m3 (2 : Int64)) m3 (1 : Int64)) m4 (4 : Int64)) (oUp0 (1 : Int64) (0 : Int64) m2 (1 : Int64)) m4 (2 : Int64)) m4 (1 : Int64)) f323_3 f323_1 f323_2 hkw) fun v h q => ⟨q.1.trans (congrArg (fun t => some (Value.int t)) (by rw [e_m2, e_m3]; exact fin5 c21 c31 c32 c42 c43 dc21 dc31 dc32 dc42 dc43)), q.2⟩, fun _ => oMet.mono (ac21_60 l Z a0 hw _ n0 z327 a107 a323_0 w k (oUp0 (1 : Int64) (0 : Int64) m2 (1 : Int64)) (oUp0 (2 : Int64) (oUp (1 : Int64) ((1 : Int32) &&& 0x3f).toInt64 (0 : Int64) (oUp0 (1 : Int64) (0 : Int64) m2 (1 : Int64)) m3 (2 : Int64)) m3 (1 : Int64)) (oUp0 (4 : Int64) (oUp (2 : Int64) ((2 : Int32) &&& 0x3f).toInt64 (oUp (1 : Int64) ((1 : Int32) &&& 0x3f).toInt64 (0 : Int64) (oUp0 (2 : Int64) (oUp (1 : Int64) ((1 : Int32) &&& 0x3f).toInt64 (0 : Int64) (oUp0 (1 : Int64) (0 : Int64) m2 (1 : Int64)) m3 (2 : Int64)) m3 (1 : Int64)) m4 (4 : Int64)) (oUp0 (1 : Int64) (0 : Int64) m2 (1 : Int64)) m4 (2 : Int64)) m4 (1 : Int64)) f323_3 f323_1 f323_2 hkw) fun v h q => ⟨q.1.trans (congrArg (fun t => some (Value.int t)) (by rw [e_m2, e_m3, e_m4]; exact fin8 c21 c31 c41 c32 c42 c43 dc21 dc31 dc41 dc32 dc42 dc43)), q.2⟩, fun _ => oMet.mono (ac21_66 l Z a0 hw _ n0 z327 a107 a323_0 w k (oUp0 (1 : Int64) (0 : Int64) m2 (1 : Int64)) (oUp0 (2 : Int64) (oUp (1 : Int64) ((1 : Int32) &&& 0x3f).toInt64 (0 : Int64) (oUp0 (1 : Int64) (0 : Int64) m2 (1 : Int64)) m3 (2 : Int64)) m3 (1 : Int64)) (oUp0 (4 : Int64) (oUp (2 : Int64) ((2 : Int32) &&& 0x3f).toInt64 (oUp (1 : Int64) ((1 : Int32) &&& 0x3f).toInt64 (0 : Int64) (oUp0 (2 : Int64) (oUp (1 : Int64) ((1 : Int32) &&& 0x3f).toInt64 (0 : Int64) (oUp0 (1 : Int64) (0 : Int64) m2 (1 : Int64)) m3 (2 : Int64)) m3 (1 : Int64)) m4 (4 : Int64)) (oUp0 (1 : Int64) (0 : Int64) m2 (1 : Int64)) m4 (2 : Int64)) m4 (1 : Int64)) f323_3 f323_1 f323_2 hkw) fun v h q => ⟨q.1.trans (congrArg (fun t => some (Value.int t)) (by rw [e_m2, e_m3, e_m4]; exact fin9 c21 c31 c41 c32 c42 c43 dc21 dc31 dc41 dc32 dc42 dc43)), q.2⟩⟩
theorem own_len0 {args : Array Value} {s : State} {t : Term} {a : Addr} {c : Cell} {ty : FieldType} (ev : t.eval args s none [] s = some (.ref a)) (A : Arr s s.heap a c ty) (h : (Jvm.Cond.eq (.length t) (.int 0)).value args s none s [] = some true) : c.slots.toList = [] := by
  have e0 : s.arrayAt? a = some c := IntBox.arrayAt_of A.1 A.2.1 A.2.2
  by_cases hn : c.slots.size < 2147483648
  · have e1 : (Term.length t).eval args s none [] s = some (.int c.slots.size.toInt32) := by
      simp [Term.eval, ev, e0, hn]
    have e2 : c.slots.size.toInt32 = 0 := gotT (Cond.eq_ints e1 (Term.int_eval (0))) h
    have e3 : (Int32.ofNat c.slots.size).toInt = 0 := congrArg Int32.toInt e2
    rw [Int32.toInt_ofNat_of_lt hn] at e3
    exact List.length_eq_zero_iff.mp (by rw [Array.length_toList]; omega)
  · simp [Cond.value, Term.eval, ev, e0, hn] at h
set_option maxRecDepth 65536 in
set_option maxHeartbeats 40000000 in
theorem comes_1 {Post : Tables → Env → Array Value → State → Outcome → State → Prop} (hpost : ∀ tb e args s v u, (limb_1_1.after args s (.returned v) u = true ∧ limb_1_2.after args s (.returned v) u = true ∧ True) → FramedW s (.returned v) u (Jvm.fieldLocs frame_1_writes args s ++ Jvm.arrayLocs frame_1_arrays args s ++ Jvm.staticLocs frame_1_statics s) 40 4352 → Post tb e args s (.returned v) u) :
    ArmFor flags0 classFile x code maxLocals ret World_1 tables_1 room_1 Calls_1 rest_1 Pre_1 Post := by
  intro l hfl _ _ p e ha hc hk s m args below hf hA hF happ hP
  obtain ⟨hcalls, hrest, hpre⟩ := hP
  obtain ⟨-, -, -, hnamed, -, -, -, hat⟩ := (Spec.applies_iff hf).mp happ
  obtain ⟨hg, hn⟩ := and_e (Cond.before_iff.mp (show (Jvm.Cond.and given_1 narrow_1).before args s = true from hpre))
  obtain ⟨h1, k0⟩ := and_e hg
  obtain ⟨c0, k1⟩ := and_e k0
  obtain ⟨c1, k2⟩ := and_e k1
  obtain ⟨v0, v1, v2, rfl⟩ : ∃ v0 v1 v2 : Value, args = #[v0, v1, v2] := by
    have hs : args.size = 3 := by simpa [Cond.value, given_1] using h1
    obtain ⟨L⟩ := args
    match L, hs with
    | [v0, v1, v2], _ => exact ⟨v0, v1, v2, rfl⟩
  have hw := fun d (hd : d ∈ tables_1) => atoms_spec (ws := Jvm.Cond.code x code maxLocals ret :: tables_1) hat d (List.mem_cons_of_mem _ hd)
  have hfit : Fit s := fun {y c} hc i hi => by
    obtain ⟨ha, rfl⟩ := Array.getElem?_eq_some_iff.mp hc
    have q := List.all_eq_true.mp ((Array.all_eq_true_iff_forall_mem.mp hF) _ (Array.getElem_mem ha)) i (List.mem_range.mpr hi)
    simpa [Array.getElem?_eq_getElem hi] using q
  obtain ⟨i0, e0⟩ := is_v c0
  obtain rfl : v0 = (.int i0) := Option.some.inj e0
  obtain ⟨i1, e1⟩ := is_v c1
  obtain rfl : v1 = (.int i1) := Option.some.inj e1
  obtain ⟨i2, e2⟩ := is_v k2
  obtain rfl : v2 = (.int i2) := Option.some.inj e2
  obtain ⟨hsets, -⟩ := atoms_of _ (rest_1_c_eq ▸ (show rest_1_c.before _ s = true from hrest))
  have ha6 := Cond.before_iff.mp (hsets _ (List.mem_of_getElem? (i := 6) rfl))
  obtain ⟨dd, edd⟩ := arr_v ha6
  obtain ⟨cdd, Adc⟩ := Arr.start edd ha6
  have Sdd : oSta s s.heap.size s.heap sA sD sG (.ref dd) := oSta.of (Sta.start edd (Or.inr ⟨(w54 hw), hsets _ (List.mem_of_getElem? (i := 2) rfl)⟩)) (Nat.le_refl _)
  have Add : oAr s s.heap dd (.object sO) [] := ⟨cdd, Adc, own_len0 edd Adc (Cond.before_iff.mp (hsets _ (List.mem_of_getElem? (i := 8) rfl)))⟩
  obtain ⟨n, o, h1, h2, h3, _, L, rfl, ⟨N, rfl⟩, hq⟩ := mt_law l s _ hw s.heap s.heap.size (Nat.le_refl _) i0 i1 i2 dd Sdd Add p e ha hc hk s m _ below hf ((Spec.applies_iff_loose hf).mp happ).1 ⟨rfl, State.Warmed39.refl s, rfl⟩ trivial
  refine ⟨n, _, h1, h2, h3, hpost _ _ _ _ _ _ ⟨Cond.after_iff.mpr rfl, Cond.after_iff.mpr (eq_i res_at (Term.int_eval (1)) rfl), trivial⟩ ⟨hq.1, hq.2.1, hq.2.2.1, (hq.2.2.2.sift fun y hy => Or.inr (N y hy)).mono (by decide) (by decide)⟩⟩
theorem main_1_1 : Claimed_1_1 := comes_1 fun _ _ _ _ _ _ h hF => ⟨h.1, hF⟩
theorem main_1_2 : Claimed_1_2 := comes_1 fun _ _ _ _ _ _ h hF => ⟨h.2.1, hF⟩
end Jvm.Pilot.@@N@@
namespace Jvm.Pilot.@@N@@
open Jvm Jvm.ClassFile Sem Op Lib Jvm.Free Jvm.Stand Jvm.Pilot.@@N@@.Jvm.D
/-! MADE BY PROGRAM (witnessworld.py) out of the Statement's table words and the real class files: 30 classes; the members and pool entries that the words name. The judged class is class 1, her method 2. -/
namespace start1
open Jvm.ClassFile
def u (s : String) : CpInfo := .utf8 (stringToUtf16 s)
/-- a pool by its gaps: so many unusable entries, then the entry; so many at the end -/
def gap : Nat → List CpInfo → List CpInfo
  | 0, r => r
  | n + 1, r => .unusable :: gap n r
def poolList (es : List (Nat × CpInfo)) (last : Nat) : List CpInfo := es.foldr (fun e r => gap e.1 (e.2 :: r)) (gap last [])
def pool (es : List (Nat × CpInfo)) (last : Nat) : Array CpInfo := ⟨poolList es last⟩
def fileOf (pool : Array CpInfo) (this : Nat) (attrs : Array Attribute := #[]) (ms : Array MethodInfo := #[]) (fl : Nat := 33) (sup : Nat := 0) (ifs : Array Nat := #[]) (fds : Array FieldInfo := #[]) : ClassFile where
  minorVersion := 0
  majorVersion := 65
  constantPool := pool
  accessFlags := fl
  thisClass := this
  superClass := sup
  interfaces := ifs
  fields := fds
  methods := ms
  attributes := attrs
def plain (name : String) (sup : Option ClassId) : Class where
  name := name
  kind := .ordinary
  loader := none
  accessFlags := 33
  super := sup
  interfaces := #[]
  cf := none
  fields := #[]
  methods := #[]
  instanceTypes := #[]
  staticTypes := #[]
  resolved := #[]
  callSites := []
  init := .initialized
  statics := none
  mirror := none

def pool0 : Array CpInfo := pool [(5, u "<init>"), (0, u "()V"), (1, .class_ 10), (1, u "java/lang/Object")] 113

def k0c0 : Code := { maxStack := 0, maxLocals := 1, code := object_method_1_code, exceptionTable := #[], attributes := #[] }
def k0m0 : Method := { name := "<init>", desc := "()V", sig := { parameters := [], returnType := none }, accessFlags := 1, code := some k0c0 }
/-- java/lang/Object -/
def k0 : Class := { plain "java/lang/Object" none with
  accessFlags := 33
  interfaces := #[]
  cf := some (fileOf pool0 8 #[] #[{ accessFlags := 1, nameIndex := 5, descriptorIndex := 6, attributes := #[] }] 33 0 #[] #[])
  fields := #[]
  methods := #[k0m0]
  instanceTypes := #[]
  staticTypes := #[]
  resolved := Array.replicate 124 none
  statics := none }

def pool1 : Array CpInfo := pool [(2, .class_ 4), (0, .nameAndType 5 6), (0, u "java/lang/Object"), (0, u "<init>"), (0, u "()V"), (0, .methodref 8 9), (0, .class_ 10), (0, .nameAndType 11 12), (0, u "com/example/orderloom/orderloom/PrecedenceFollowsPinLaw"), (0, u "edge"), (0, u "(II)J"), (0, .long 2), (1, .long 4), (1, .long 8), (1, .class_ 20), (0, u "com/example/orderloom/orderloom/RequestClass"), (0, .string 22), (0, u "a"), (0, .methodref 19 24), (0, .nameAndType 5 25), (0, u "(Lcom/example/orderloom/orderloom/RequestClasses;Ljava/lang/String;IJ)V"), (0, .string 27), (0, u "b"), (0, .string 29), (0, u "c"), (0, .string 31), (0, u "d"), (0, .class_ 33), (0, u "java/util/ArrayList"), (0, .methodref 32 3), (0, .methodref 19 36), (0, .nameAndType 37 38), (0, u "allKeys"), (0, u "()Lcom/example/orderloom/orderloom/Footprint;"), (0, .interfaceMethodref 40 41), (0, .class_ 42), (0, .nameAndType 43 44), (0, u "java/util/List"), (0, u "add"), (0, u "(Ljava/lang/Object;)Z"), (0, .class_ 46), (0, u "com/example/orderloom/orderloom/Precedence"), (0, .methodref 45 48), (0, .nameAndType 5 49), (0, u "(Ljava/util/List;I)V"), (0, .integer 2147483647), (0, .methodref 45 52), (0, .nameAndType 53 54), (0, u "follows"), (0, u "(II)Z"), (2, u "law"), (0, u "(III)Z")] 3

def k1m0 : Method := { name := "<init>", desc := "()V", sig := { parameters := [], returnType := none }, accessFlags := 2, code := none }
def k1c1 : Code := { maxStack := 4, maxLocals := 2, code := method_2_code, exceptionTable := #[], attributes := #[] }
def k1m1 : Method := { name := "edge", desc := "(II)J", sig := { parameters := [.int, .int], returnType := some .long }, accessFlags := 10, code := some k1c1 }
def k1c2 : Code := { maxStack := 7, maxLocals := 43, code := code, exceptionTable := #[], attributes := #[] }
def k1m2 : Method := { name := "law", desc := "(III)Z", sig := { parameters := [.int, .int, .int], returnType := some .boolean }, accessFlags := 9, code := some k1c2 }
/-- com/example/orderloom/orderloom/PrecedenceFollowsPinLaw -/
def k1 : Class := { plain "com/example/orderloom/orderloom/PrecedenceFollowsPinLaw" (some 0) with
  accessFlags := 49
  interfaces := #[]
  cf := some (fileOf pool1 8 #[] #[{ accessFlags := 2, nameIndex := 5, descriptorIndex := 6, attributes := #[] }, { accessFlags := 10, nameIndex := 11, descriptorIndex := 12, attributes := #[] }, { accessFlags := 9, nameIndex := 57, descriptorIndex := 58, attributes := #[] }] 49 2 #[] #[])
  fields := #[]
  methods := #[k1m0, k1m1, k1m2]
  instanceTypes := #[]
  staticTypes := #[]
  resolved := Array.replicate 62 none
  statics := none }

def pool2 : Array CpInfo := pool [(1, .methodref 2 3), (0, .class_ 4), (0, .nameAndType 5 6), (0, u "java/lang/Object"), (0, u "<init>"), (0, u "()V"), (0, .fieldref 8 9), (0, .class_ 10), (0, .nameAndType 11 12), (0, u "com/example/orderloom/orderloom/RequestClass"), (0, u "declaration"), (0, u "Lcom/example/orderloom/orderloom/RequestClasses;"), (0, .fieldref 8 14), (0, .nameAndType 15 16), (0, u "name"), (0, u "Ljava/lang/String;"), (0, .fieldref 8 18), (0, .nameAndType 19 20), (0, u "bit"), (0, u "J"), (0, .fieldref 8 22), (0, .nameAndType 23 20), (0, u "conflicts"), (0, .class_ 25), (0, u "com/example/orderloom/orderloom/Footprint"), (2, .long 9223372036854775808), (1, .long 9223372036854775807), (1, .methodref 24 33), (0, .nameAndType 5 34), (0, u "(Lcom/example/orderloom/orderloom/RequestClass;JJ)V"), (0, .fieldref 8 36), (0, .nameAndType 37 38), (0, u "allKeys"), (0, u "Lcom/example/orderloom/orderloom/Footprint;"), (2, u "requireSameDeclaration"), (0, u "(Lcom/example/orderloom/orderloom/RequestClass;)V"), (12, u "(Lcom/example/orderloom/orderloom/RequestClasses;Ljava/lang/String;IJ)V"), (6, u "()Lcom/example/orderloom/orderloom/Footprint;"), (3, u "()J")] 20

def k2c0 : Code := { maxStack := 8, maxLocals := 6, code := prog_16_method_1_code, exceptionTable := #[], attributes := #[] }
def k2m0 : Method := { name := "<init>", desc := "(Lcom/example/orderloom/orderloom/RequestClasses;Ljava/lang/String;IJ)V", sig := { parameters := [(.object "com/example/orderloom/orderloom/RequestClasses"), (.object "java/lang/String"), .int, .long], returnType := none }, accessFlags := 0, code := some k2c0 }
def k2c1 : Code := { maxStack := 1, maxLocals := 1, code := prog_16_method_4_code, exceptionTable := #[], attributes := #[] }
def k2m1 : Method := { name := "allKeys", desc := "()Lcom/example/orderloom/orderloom/Footprint;", sig := { parameters := [], returnType := some (.object "com/example/orderloom/orderloom/Footprint") }, accessFlags := 1, code := some k2c1 }
def k2c2 : Code := { maxStack := 4, maxLocals := 2, code := prog_16_method_7_code, exceptionTable := #[], attributes := #[] }
def k2m2 : Method := { name := "requireSameDeclaration", desc := "(Lcom/example/orderloom/orderloom/RequestClass;)V", sig := { parameters := [(.object "com/example/orderloom/orderloom/RequestClass")], returnType := none }, accessFlags := 0, code := some k2c2 }
def k2c3 : Code := { maxStack := 2, maxLocals := 1, code := prog_16_method_8_code, exceptionTable := #[], attributes := #[] }
def k2m3 : Method := { name := "bit", desc := "()J", sig := { parameters := [], returnType := some .long }, accessFlags := 0, code := some k2c3 }
def k2c4 : Code := { maxStack := 2, maxLocals := 1, code := prog_16_method_9_code, exceptionTable := #[], attributes := #[] }
def k2m4 : Method := { name := "conflicts", desc := "()J", sig := { parameters := [], returnType := some .long }, accessFlags := 0, code := some k2c4 }
/-- com/example/orderloom/orderloom/RequestClass -/
def k2 : Class := { plain "com/example/orderloom/orderloom/RequestClass" (some 0) with
  accessFlags := 49
  interfaces := #[]
  cf := some (fileOf pool2 8 #[] #[{ accessFlags := 0, nameIndex := 5, descriptorIndex := 55, attributes := #[] }, { accessFlags := 1, nameIndex := 37, descriptorIndex := 62, attributes := #[] }, { accessFlags := 0, nameIndex := 41, descriptorIndex := 42, attributes := #[] }, { accessFlags := 0, nameIndex := 19, descriptorIndex := 66, attributes := #[] }, { accessFlags := 0, nameIndex := 23, descriptorIndex := 66, attributes := #[] }] 49 2 #[] #[{ accessFlags := 18, nameIndex := 11, descriptorIndex := 12, attributes := #[] }, { accessFlags := 18, nameIndex := 15, descriptorIndex := 16, attributes := #[] }, { accessFlags := 18, nameIndex := 19, descriptorIndex := 20, attributes := #[] }, { accessFlags := 18, nameIndex := 23, descriptorIndex := 20, attributes := #[] }, { accessFlags := 18, nameIndex := 37, descriptorIndex := 38, attributes := #[] }])
  fields := #[{ name := "declaration", type := (.object "com/example/orderloom/orderloom/RequestClasses"), accessFlags := 18, slot := 0, constantValue := 0 }, { name := "name", type := (.object "java/lang/String"), accessFlags := 18, slot := 1, constantValue := 0 }, { name := "bit", type := .long, accessFlags := 18, slot := 2, constantValue := 0 }, { name := "conflicts", type := .long, accessFlags := 18, slot := 3, constantValue := 0 }, { name := "allKeys", type := (.object "com/example/orderloom/orderloom/Footprint"), accessFlags := 18, slot := 4, constantValue := 0 }]
  methods := #[k2m0, k2m1, k2m2, k2m3, k2m4]
  instanceTypes := #[(.object "com/example/orderloom/orderloom/RequestClasses"), (.object "java/lang/String"), .long, .long, (.object "com/example/orderloom/orderloom/Footprint")]
  staticTypes := #[]
  resolved := Array.replicate 87 none
  statics := none }

def pool3 : Array CpInfo := pool [(1, .class_ 2), (0, u "java/io/Serializable"), (0, .class_ 4), (0, u "java/lang/Object")] 2

/-- java/io/Serializable -/
def k3 : Class := { plain "java/io/Serializable" (some 0) with
  accessFlags := 1537
  interfaces := #[]
  cf := some (fileOf pool3 1 #[] #[] 1537 3 #[] #[])
  fields := #[]
  methods := #[]
  instanceTypes := #[]
  staticTypes := #[]
  resolved := Array.replicate 7 none
  statics := none }

def pool4 : Array CpInfo := pool [(1, .class_ 2), (0, u "java/lang/Comparable"), (0, .class_ 4), (0, u "java/lang/Object")] 7

/-- java/lang/Comparable -/
def k4 : Class := { plain "java/lang/Comparable" (some 0) with
  accessFlags := 1537
  interfaces := #[]
  cf := some (fileOf pool4 1 #[] #[] 1537 3 #[] #[])
  fields := #[]
  methods := #[]
  instanceTypes := #[]
  staticTypes := #[]
  resolved := Array.replicate 12 none
  statics := none }

def pool5 : Array CpInfo := pool [(2, .class_ 4), (1, u "java/lang/CharSequence"), (42, .class_ 48), (0, u "java/lang/CharSequence$1CodePointIterator"), (10, .class_ 60), (0, u "java/lang/CharSequence$1CharIterator"), (5, .class_ 67), (0, u "java/lang/Object")] 63

/-- java/lang/CharSequence -/
def k5 : Class := { plain "java/lang/CharSequence" (some 0) with
  accessFlags := 1537
  interfaces := #[]
  cf := some (fileOf pool5 2 #[.nestMembers #[47, 59]] #[] 1537 66 #[] #[])
  fields := #[]
  methods := #[]
  instanceTypes := #[]
  staticTypes := #[]
  resolved := Array.replicate 131 none
  statics := none }

def pool6 : Array CpInfo := pool [(1, .class_ 2), (0, u "java/lang/constant/Constable"), (0, .class_ 4), (0, u "java/lang/Object")] 6

/-- java/lang/constant/Constable -/
def k6 : Class := { plain "java/lang/constant/Constable" (some 0) with
  accessFlags := 1537
  interfaces := #[]
  cf := some (fileOf pool6 1 #[] #[] 1537 3 #[] #[])
  fields := #[]
  methods := #[]
  instanceTypes := #[]
  staticTypes := #[]
  resolved := Array.replicate 11 none
  statics := none }

def pool7 : Array CpInfo := pool [(1, .class_ 2), (0, u "java/lang/constant/ConstantDesc"), (0, .class_ 4), (0, u "java/lang/Object")] 32

/-- java/lang/constant/ConstantDesc -/
def k7 : Class := { plain "java/lang/constant/ConstantDesc" (some 0) with
  accessFlags := 1537
  interfaces := #[]
  cf := some (fileOf pool7 1 #[] #[] 1537 3 #[] #[])
  fields := #[]
  methods := #[]
  instanceTypes := #[]
  staticTypes := #[]
  resolved := Array.replicate 37 none
  statics := none }

def pool8 : Array CpInfo := pool [(2, .class_ 4), (1, u "java/lang/Object"), (0, u "<init>"), (0, u "()V"), (3, .class_ 12), (1, u "java/lang/String"), (0, u "value"), (0, u "[B"), (2, u "coder"), (0, u "B"), (2, u "hash"), (0, u "I"), (2, u "hashIsZero"), (0, u "Z"), (13, u "COMPACT_STRINGS"), (534, .class_ 576), (0, u "java/lang/CharSequence"), (22, u "CASE_INSENSITIVE_ORDER"), (0, u "Ljava/util/Comparator;"), (500, u "serialPersistentFields"), (0, u "[Ljava/io/ObjectStreamField;"), (0, .class_ 1104), (0, u "java/lang/String$CaseInsensitiveComparator"), (1, .class_ 1107), (0, u "java/io/Serializable"), (0, .class_ 1109), (0, u "java/lang/Comparable"), (0, .class_ 1111), (0, u "java/lang/constant/Constable"), (0, .class_ 1113), (0, u "java/lang/constant/ConstantDesc"), (2, u "serialVersionUID"), (0, u "J"), (3, u "REPL"), (0, u "C"), (2, u "LATIN1"), (1, u "UTF16")] 323

def k8m0 : Method := { name := "<init>", desc := "()V", sig := { parameters := [], returnType := none }, accessFlags := 1, code := none }
/-- java/lang/String -/
def k8 : Class := { plain "java/lang/String" (some 0) with
  accessFlags := 49
  interfaces := #[3, 4, 5, 6, 7]
  cf := some (fileOf pool8 10 #[.nestMembers #[1103]] #[{ accessFlags := 1, nameIndex := 5, descriptorIndex := 6, attributes := #[] }] 49 2 #[1106, 1108, 575, 1110, 1112] #[{ accessFlags := 18, nameIndex := 13, descriptorIndex := 14, attributes := #[] }, { accessFlags := 18, nameIndex := 17, descriptorIndex := 18, attributes := #[] }, { accessFlags := 2, nameIndex := 21, descriptorIndex := 22, attributes := #[] }, { accessFlags := 2, nameIndex := 25, descriptorIndex := 26, attributes := #[] }, { accessFlags := 26, nameIndex := 1116, descriptorIndex := 1117, attributes := #[] }, { accessFlags := 24, nameIndex := 40, descriptorIndex := 26, attributes := #[] }, { accessFlags := 26, nameIndex := 1101, descriptorIndex := 1102, attributes := #[] }, { accessFlags := 26, nameIndex := 1121, descriptorIndex := 1122, attributes := #[] }, { accessFlags := 25, nameIndex := 599, descriptorIndex := 600, attributes := #[] }, { accessFlags := 24, nameIndex := 1125, descriptorIndex := 18, attributes := #[] }, { accessFlags := 24, nameIndex := 1127, descriptorIndex := 18, attributes := #[] }])
  fields := #[{ name := "value", type := (.array .byte), accessFlags := 18, slot := 0, constantValue := 0 }, { name := "coder", type := .byte, accessFlags := 18, slot := 1, constantValue := 0 }, { name := "hash", type := .int, accessFlags := 2, slot := 2, constantValue := 0 }, { name := "hashIsZero", type := .boolean, accessFlags := 2, slot := 3, constantValue := 0 }, { name := "serialVersionUID", type := .long, accessFlags := 26, slot := 0, constantValue := 0 }, { name := "COMPACT_STRINGS", type := .boolean, accessFlags := 24, slot := 1, constantValue := 0 }, { name := "serialPersistentFields", type := (.array (.object "java/io/ObjectStreamField")), accessFlags := 26, slot := 2, constantValue := 0 }, { name := "REPL", type := .char, accessFlags := 26, slot := 3, constantValue := 0 }, { name := "CASE_INSENSITIVE_ORDER", type := (.object "java/util/Comparator"), accessFlags := 25, slot := 4, constantValue := 0 }, { name := "LATIN1", type := .byte, accessFlags := 24, slot := 5, constantValue := 0 }, { name := "UTF16", type := .byte, accessFlags := 24, slot := 6, constantValue := 0 }]
  methods := #[k8m0]
  instanceTypes := #[(.array .byte), .byte, .int, .boolean]
  staticTypes := #[.long, .boolean, (.array (.object "java/io/ObjectStreamField")), .char, (.object "java/util/Comparator"), .byte, .byte]
  resolved := Array.replicate 1451 none
  statics := none }

def pool9 : Array CpInfo := pool [(1, .methodref 2 3), (0, .class_ 4), (0, .nameAndType 5 6), (0, u "java/lang/Object"), (0, u "<init>"), (0, u "()V"), (0, .fieldref 8 9), (0, .class_ 10), (0, .nameAndType 11 12), (0, u "com/example/orderloom/orderloom/Footprint"), (0, u "requestClass"), (0, u "Lcom/example/orderloom/orderloom/RequestClass;"), (0, .fieldref 8 14), (0, .nameAndType 15 16), (0, u "firstKey"), (0, u "J"), (0, .fieldref 8 18), (0, .nameAndType 19 16), (0, u "lastKey"), (0, .methodref 21 22), (0, .class_ 23), (0, .nameAndType 24 25), (0, u "com/example/orderloom/orderloom/RequestClass"), (0, u "requireSameDeclaration"), (0, u "(Lcom/example/orderloom/orderloom/RequestClass;)V"), (0, .methodref 21 27), (0, .nameAndType 28 29), (0, u "conflicts"), (0, u "()J"), (0, .methodref 21 31), (0, .nameAndType 32 29), (0, u "bit"), (0, .methodref 8 34), (0, .nameAndType 35 36), (0, u "conflict"), (0, u "(JJJJJJ)Z"), (0, .methodref 8 38), (0, .nameAndType 39 40), (0, u "overlap"), (0, u "(JJJJ)Z"), (0, u "(Lcom/example/orderloom/orderloom/RequestClass;JJ)V"), (3, u "conflictsWith"), (0, u "(Lcom/example/orderloom/orderloom/Footprint;)Z")] 3

def k9c0 : Code := { maxStack := 3, maxLocals := 6, code := prog_11_method_1_code, exceptionTable := #[], attributes := #[] }
def k9m0 : Method := { name := "<init>", desc := "(Lcom/example/orderloom/orderloom/RequestClass;JJ)V", sig := { parameters := [(.object "com/example/orderloom/orderloom/RequestClass"), .long, .long], returnType := none }, accessFlags := 0, code := some k9c0 }
def k9c1 : Code := { maxStack := 12, maxLocals := 2, code := prog_11_method_3_code, exceptionTable := #[], attributes := #[] }
def k9m1 : Method := { name := "conflictsWith", desc := "(Lcom/example/orderloom/orderloom/Footprint;)Z", sig := { parameters := [(.object "com/example/orderloom/orderloom/Footprint")], returnType := some .boolean }, accessFlags := 1, code := some k9c1 }
def k9c2 : Code := { maxStack := 8, maxLocals := 12, code := prog_11_method_6_code, exceptionTable := #[], attributes := #[] }
def k9m2 : Method := { name := "conflict", desc := "(JJJJJJ)Z", sig := { parameters := [.long, .long, .long, .long, .long, .long], returnType := some .boolean }, accessFlags := 8, code := some k9c2 }
def k9c3 : Code := { maxStack := 4, maxLocals := 8, code := prog_11_method_7_code, exceptionTable := #[], attributes := #[] }
def k9m3 : Method := { name := "overlap", desc := "(JJJJ)Z", sig := { parameters := [.long, .long, .long, .long], returnType := some .boolean }, accessFlags := 8, code := some k9c3 }
/-- com/example/orderloom/orderloom/Footprint -/
def k9 : Class := { plain "com/example/orderloom/orderloom/Footprint" (some 0) with
  accessFlags := 49
  interfaces := #[]
  cf := some (fileOf pool9 8 #[] #[{ accessFlags := 0, nameIndex := 5, descriptorIndex := 41, attributes := #[] }, { accessFlags := 1, nameIndex := 45, descriptorIndex := 46, attributes := #[] }, { accessFlags := 8, nameIndex := 35, descriptorIndex := 36, attributes := #[] }, { accessFlags := 8, nameIndex := 39, descriptorIndex := 40, attributes := #[] }] 49 2 #[] #[{ accessFlags := 18, nameIndex := 11, descriptorIndex := 12, attributes := #[] }, { accessFlags := 18, nameIndex := 15, descriptorIndex := 16, attributes := #[] }, { accessFlags := 18, nameIndex := 19, descriptorIndex := 16, attributes := #[] }])
  fields := #[{ name := "requestClass", type := (.object "com/example/orderloom/orderloom/RequestClass"), accessFlags := 18, slot := 0, constantValue := 0 }, { name := "firstKey", type := .long, accessFlags := 18, slot := 1, constantValue := 0 }, { name := "lastKey", type := .long, accessFlags := 18, slot := 2, constantValue := 0 }]
  methods := #[k9m0, k9m1, k9m2, k9m3]
  instanceTypes := #[(.object "com/example/orderloom/orderloom/RequestClass"), .long, .long]
  staticTypes := #[]
  resolved := Array.replicate 50 none
  statics := none }

def pool10 : Array CpInfo := pool [(8, .class_ 10), (1, u "java/lang/Iterable"), (24, .class_ 36), (0, u "java/lang/Object")] 25

/-- java/lang/Iterable -/
def k10 : Class := { plain "java/lang/Iterable" (some 0) with
  accessFlags := 1537
  interfaces := #[]
  cf := some (fileOf pool10 8 #[] #[] 1537 35 #[] #[])
  fields := #[]
  methods := #[]
  instanceTypes := #[]
  staticTypes := #[]
  resolved := Array.replicate 62 none
  statics := none }

def pool11 : Array CpInfo := pool [(10, .class_ 12), (1, u "java/util/Collection"), (47, .class_ 61), (0, u "java/lang/Object"), (0, .class_ 63), (0, u "java/lang/Iterable")] 51

/-- java/util/Collection -/
def k11 : Class := { plain "java/util/Collection" (some 0) with
  accessFlags := 1537
  interfaces := #[10]
  cf := some (fileOf pool11 10 #[] #[] 1537 60 #[62] #[])
  fields := #[]
  methods := #[]
  instanceTypes := #[]
  staticTypes := #[]
  resolved := Array.replicate 115 none
  statics := none }

def pool12 : Array CpInfo := pool [(1, .methodref 2 3), (0, .class_ 4), (0, .nameAndType 5 6), (0, u "java/lang/Object"), (0, u "<init>"), (0, u "()V"), (1, .class_ 10), (1, u "java/util/AbstractCollection"), (66, .class_ 78), (0, u "java/util/Collection")] 81

def k12c0 : Code := { maxStack := 1, maxLocals := 1, code := jdk_22_method_1_code, exceptionTable := #[], attributes := #[] }
def k12m0 : Method := { name := "<init>", desc := "()V", sig := { parameters := [], returnType := none }, accessFlags := 4, code := some k12c0 }
/-- java/util/AbstractCollection -/
def k12 : Class := { plain "java/util/AbstractCollection" (some 0) with
  accessFlags := 1057
  interfaces := #[11]
  cf := some (fileOf pool12 8 #[] #[{ accessFlags := 4, nameIndex := 5, descriptorIndex := 6, attributes := #[] }] 1057 2 #[77] #[])
  fields := #[]
  methods := #[k12m0]
  instanceTypes := #[]
  staticTypes := #[]
  resolved := Array.replicate 160 none
  statics := none }

def pool13 : Array CpInfo := pool [(8, .class_ 10), (1, u "java/util/SequencedCollection"), (15, .class_ 27), (0, u "java/lang/Object"), (0, .class_ 29), (0, u "java/util/Collection")] 27

/-- java/util/SequencedCollection -/
def k13 : Class := { plain "java/util/SequencedCollection" (some 0) with
  accessFlags := 1537
  interfaces := #[11]
  cf := some (fileOf pool13 8 #[] #[] 1537 26 #[28] #[])
  fields := #[]
  methods := #[]
  instanceTypes := #[]
  staticTypes := #[]
  resolved := Array.replicate 57 none
  statics := none }

def pool14 : Array CpInfo := pool [(8, .class_ 10), (1, u "java/util/List"), (49, u "add"), (3, u "(Ljava/lang/Object;)Z"), (10, u "get"), (0, u "(I)Ljava/lang/Object;"), (2, u "size"), (0, u "()I"), (22, .class_ 104), (0, u "java/lang/Object"), (15, .class_ 121), (0, u "java/util/SequencedCollection")] 129

def k14m0 : Method := { name := "size", desc := "()I", sig := { parameters := [], returnType := some .int }, accessFlags := 1025, code := none }
def k14m1 : Method := { name := "add", desc := "(Ljava/lang/Object;)Z", sig := { parameters := [(.object "java/lang/Object")], returnType := some .boolean }, accessFlags := 1025, code := none }
def k14m2 : Method := { name := "get", desc := "(I)Ljava/lang/Object;", sig := { parameters := [.int], returnType := some (.object "java/lang/Object") }, accessFlags := 1025, code := none }
/-- java/util/List -/
def k14 : Class := { plain "java/util/List" (some 0) with
  accessFlags := 1537
  interfaces := #[13]
  cf := some (fileOf pool14 8 #[] #[{ accessFlags := 1025, nameIndex := 79, descriptorIndex := 80, attributes := #[] }, { accessFlags := 1025, nameIndex := 60, descriptorIndex := 64, attributes := #[] }, { accessFlags := 1025, nameIndex := 75, descriptorIndex := 76, attributes := #[] }] 1537 103 #[120] #[])
  fields := #[]
  methods := #[k14m0, k14m1, k14m2]
  instanceTypes := #[]
  staticTypes := #[]
  resolved := Array.replicate 251 none
  statics := none }

def pool15 : Array CpInfo := pool [(1, .methodref 2 3), (0, .class_ 4), (0, .nameAndType 5 6), (0, u "java/util/AbstractCollection"), (0, u "<init>"), (0, u "()V"), (0, .fieldref 8 9), (0, .class_ 10), (0, .nameAndType 11 12), (0, u "java/util/AbstractList"), (0, u "modCount"), (0, u "I"), (64, .class_ 78), (0, u "java/util/AbstractList$Itr"), (3, .class_ 83), (0, u "java/util/AbstractList$ListItr"), (9, .class_ 94), (0, u "java/util/AbstractList$RandomAccessSubList"), (3, .class_ 99), (0, u "java/util/AbstractList$SubList"), (33, .class_ 134), (0, u "java/util/List"), (73, .class_ 209), (0, u "java/util/AbstractList$SubList$1"), (0, .class_ 211), (0, u "java/util/AbstractList$RandomAccessSpliterator")] 6

def k15c0 : Code := { maxStack := 2, maxLocals := 1, code := jdk_39_method_1_code, exceptionTable := #[], attributes := #[] }
def k15m0 : Method := { name := "<init>", desc := "()V", sig := { parameters := [], returnType := none }, accessFlags := 4, code := some k15c0 }
/-- java/util/AbstractList -/
def k15 : Class := { plain "java/util/AbstractList" (some 12) with
  accessFlags := 1057
  interfaces := #[14]
  cf := some (fileOf pool15 8 #[.nestMembers #[93, 98, 208, 210, 82, 77]] #[{ accessFlags := 4, nameIndex := 5, descriptorIndex := 6, attributes := #[] }] 1057 2 #[133] #[{ accessFlags := 132, nameIndex := 11, descriptorIndex := 12, attributes := #[] }])
  fields := #[{ name := "modCount", type := .int, accessFlags := 132, slot := 0, constantValue := 0 }]
  methods := #[k15m0]
  instanceTypes := #[.int]
  staticTypes := #[]
  resolved := Array.replicate 218 none
  statics := none }

def pool16 : Array CpInfo := pool [(1, .class_ 2), (0, u "java/util/RandomAccess"), (0, .class_ 4), (0, u "java/lang/Object")] 2

/-- java/util/RandomAccess -/
def k16 : Class := { plain "java/util/RandomAccess" (some 0) with
  accessFlags := 1537
  interfaces := #[]
  cf := some (fileOf pool16 1 #[] #[] 1537 3 #[] #[])
  fields := #[]
  methods := #[]
  instanceTypes := #[]
  staticTypes := #[]
  resolved := Array.replicate 7 none
  statics := none }

def pool17 : Array CpInfo := pool [(1, .class_ 2), (0, u "java/lang/Cloneable"), (0, .class_ 4), (0, u "java/lang/Object")] 2

/-- java/lang/Cloneable -/
def k17 : Class := { plain "java/lang/Cloneable" (some 0) with
  accessFlags := 1537
  interfaces := #[]
  cf := some (fileOf pool17 1 #[] #[] 1537 3 #[] #[])
  fields := #[]
  methods := #[]
  instanceTypes := #[]
  staticTypes := #[]
  resolved := Array.replicate 7 none
  statics := none }

def pool18 : Array CpInfo := pool [(1, .methodref 2 3), (0, .class_ 4), (0, .nameAndType 5 6), (0, u "java/util/AbstractList"), (0, u "<init>"), (0, u "()V"), (0, .class_ 8), (0, u "java/lang/Object"), (0, .fieldref 10 11), (0, .class_ 12), (0, .nameAndType 13 14), (0, u "java/util/ArrayList"), (0, u "elementData"), (0, u "[Ljava/lang/Object;"), (2, u "EMPTY_ELEMENTDATA"), (21, .fieldref 10 40), (0, .nameAndType 41 14), (0, u "DEFAULTCAPACITY_EMPTY_ELEMENTDATA"), (5, u "()[Ljava/lang/Object;"), (0, .fieldref 10 49), (0, .nameAndType 50 51), (0, u "size"), (0, u "I"), (11, .fieldref 10 64), (0, .nameAndType 65 51), (0, u "modCount"), (3, .methodref 10 70), (0, .nameAndType 71 72), (0, u "grow"), (0, u "(I)[Ljava/lang/Object;"), (6, .methodref 80 81), (0, .class_ 82), (0, .nameAndType 83 84), (0, u "java/lang/Math"), (0, u "max"), (0, u "(II)I"), (11, u "(Ljava/lang/Object;)Z"), (21, .methodref 119 120), (0, .class_ 121), (0, .nameAndType 122 84), (0, u "java/util/Objects"), (0, u "checkIndex"), (0, .methodref 10 124), (0, .nameAndType 13 125), (0, u "(I)Ljava/lang/Object;"), (3, .methodref 10 130), (0, .nameAndType 71 47), (0, .methodref 10 132), (0, .nameAndType 133 134), (0, u "add"), (0, u "(Ljava/lang/Object;[Ljava/lang/Object;I)V"), (13, .class_ 149), (0, u "java/util/List"), (36, u "()I"), (75, .class_ 263), (0, u "java/util/ArrayList$ListItr"), (3, .class_ 268), (0, u "java/util/ArrayList$Itr"), (7, .class_ 277), (0, u "java/util/ArrayList$SubList"), (12, .class_ 291), (0, u "java/util/ArrayList$ArrayListSpliterator"), (37, .class_ 330), (0, u "java/util/RandomAccess"), (0, .class_ 332), (0, u "java/lang/Cloneable"), (0, .class_ 334), (0, u "java/io/Serializable"), (0, u "serialVersionUID"), (0, u "J"), (3, u "DEFAULT_CAPACITY"), (40, u "get"), (118, .class_ 501), (0, u "java/util/ArrayList$SubList$2"), (0, .class_ 503), (0, u "java/util/ArrayList$SubList$1")] 5

def k18c0 : Code := { maxStack := 2, maxLocals := 1, code := jdk_38_method_2_code, exceptionTable := #[], attributes := #[] }
def k18m0 : Method := { name := "<init>", desc := "()V", sig := { parameters := [], returnType := none }, accessFlags := 1, code := some k18c0 }
def k18c1 : Code := { maxStack := 4, maxLocals := 4, code := jdk_38_method_6_code, exceptionTable := #[], attributes := #[] }
def k18m1 : Method := { name := "grow", desc := "(I)[Ljava/lang/Object;", sig := { parameters := [.int], returnType := some (.array (.object "java/lang/Object")) }, accessFlags := 2, code := some k18c1 }
def k18c2 : Code := { maxStack := 3, maxLocals := 1, code := jdk_38_method_7_code, exceptionTable := #[], attributes := #[] }
def k18m2 : Method := { name := "grow", desc := "()[Ljava/lang/Object;", sig := { parameters := [], returnType := some (.array (.object "java/lang/Object")) }, accessFlags := 2, code := some k18c2 }
def k18c3 : Code := { maxStack := 1, maxLocals := 1, code := jdk_38_method_8_code, exceptionTable := #[], attributes := #[] }
def k18m3 : Method := { name := "size", desc := "()I", sig := { parameters := [], returnType := some .int }, accessFlags := 1, code := some k18c3 }
def k18c4 : Code := { maxStack := 2, maxLocals := 2, code := jdk_38_method_18_code, exceptionTable := #[], attributes := #[] }
def k18m4 : Method := { name := "elementData", desc := "(I)Ljava/lang/Object;", sig := { parameters := [.int], returnType := some (.object "java/lang/Object") }, accessFlags := 0, code := some k18c4 }
def k18c5 : Code := { maxStack := 2, maxLocals := 2, code := jdk_38_method_20_code, exceptionTable := #[], attributes := #[] }
def k18m5 : Method := { name := "get", desc := "(I)Ljava/lang/Object;", sig := { parameters := [.int], returnType := some (.object "java/lang/Object") }, accessFlags := 1, code := some k18c5 }
def k18c6 : Code := { maxStack := 3, maxLocals := 4, code := jdk_38_method_24_code, exceptionTable := #[], attributes := #[] }
def k18m6 : Method := { name := "add", desc := "(Ljava/lang/Object;[Ljava/lang/Object;I)V", sig := { parameters := [(.object "java/lang/Object"), (.array (.object "java/lang/Object")), .int], returnType := none }, accessFlags := 2, code := some k18c6 }
def k18c7 : Code := { maxStack := 4, maxLocals := 2, code := jdk_38_method_25_code, exceptionTable := #[], attributes := #[] }
def k18m7 : Method := { name := "add", desc := "(Ljava/lang/Object;)Z", sig := { parameters := [(.object "java/lang/Object")], returnType := some .boolean }, accessFlags := 1, code := some k18c7 }
/-- java/util/ArrayList -/
def k18 : Class := { plain "java/util/ArrayList" (some 15) with
  accessFlags := 33
  interfaces := #[14, 16, 17, 3]
  cf := some (fileOf pool18 10 #[.nestMembers #[290, 276, 500, 502, 262, 267]] #[{ accessFlags := 1, nameIndex := 5, descriptorIndex := 6, attributes := #[] }, { accessFlags := 2, nameIndex := 71, descriptorIndex := 72, attributes := #[] }, { accessFlags := 2, nameIndex := 71, descriptorIndex := 47, attributes := #[] }, { accessFlags := 1, nameIndex := 50, descriptorIndex := 186, attributes := #[] }, { accessFlags := 0, nameIndex := 13, descriptorIndex := 125, attributes := #[] }, { accessFlags := 1, nameIndex := 381, descriptorIndex := 125, attributes := #[] }, { accessFlags := 2, nameIndex := 133, descriptorIndex := 134, attributes := #[] }, { accessFlags := 1, nameIndex := 133, descriptorIndex := 96, attributes := #[] }] 33 2 #[148, 329, 331, 333] #[{ accessFlags := 26, nameIndex := 335, descriptorIndex := 336, attributes := #[] }, { accessFlags := 26, nameIndex := 340, descriptorIndex := 51, attributes := #[] }, { accessFlags := 26, nameIndex := 17, descriptorIndex := 14, attributes := #[] }, { accessFlags := 26, nameIndex := 41, descriptorIndex := 14, attributes := #[] }, { accessFlags := 128, nameIndex := 13, descriptorIndex := 14, attributes := #[] }, { accessFlags := 2, nameIndex := 50, descriptorIndex := 51, attributes := #[] }])
  fields := #[{ name := "serialVersionUID", type := .long, accessFlags := 26, slot := 0, constantValue := 0 }, { name := "DEFAULT_CAPACITY", type := .int, accessFlags := 26, slot := 1, constantValue := 0 }, { name := "EMPTY_ELEMENTDATA", type := (.array (.object "java/lang/Object")), accessFlags := 26, slot := 2, constantValue := 0 }, { name := "DEFAULTCAPACITY_EMPTY_ELEMENTDATA", type := (.array (.object "java/lang/Object")), accessFlags := 26, slot := 3, constantValue := 0 }, { name := "elementData", type := (.array (.object "java/lang/Object")), accessFlags := 128, slot := 1, constantValue := 0 }, { name := "size", type := .int, accessFlags := 2, slot := 2, constantValue := 0 }]
  methods := #[k18m0, k18m1, k18m2, k18m3, k18m4, k18m5, k18m6, k18m7]
  instanceTypes := #[.int, (.array (.object "java/lang/Object")), .int]
  staticTypes := #[.long, .int, (.array (.object "java/lang/Object")), (.array (.object "java/lang/Object"))]
  resolved := Array.replicate 509 none
  statics := some 0 }

def pool19 : Array CpInfo := pool [(1, .class_ 2), (0, u "java/lang/Math"), (1, .class_ 6), (1, u "java/lang/Object"), (0, u "<init>"), (0, u "()V"), (89, .class_ 100), (1, u "java/lang/Math$RandomNumberGeneratorHolder"), (71, u "negativeZeroFloatBits"), (0, u "J"), (2, u "negativeZeroDoubleBits"), (21, u "max"), (2, u "min"), (43, u "$assertionsDisabled"), (0, u "Z"), (88, u "(II)I"), (2, u "twoToTheDoubleScaleDown"), (0, u "D"), (4, u "twoToTheDoubleScaleUp"), (9, u "E"), (3, u "PI"), (2, u "TAU"), (2, u "DEGREES_TO_RADIANS"), (0, u "RADIANS_TO_DEGREES")] 94

def k19m0 : Method := { name := "<init>", desc := "()V", sig := { parameters := [], returnType := none }, accessFlags := 2, code := none }
def k19c1 : Code := { maxStack := 2, maxLocals := 2, code := jdk_29_method_65_code, exceptionTable := #[], attributes := #[] }
def k19m1 : Method := { name := "max", desc := "(II)I", sig := { parameters := [.int, .int], returnType := some .int }, accessFlags := 9, code := some k19c1 }
def k19c2 : Code := { maxStack := 2, maxLocals := 2, code := jdk_29_method_69_code, exceptionTable := #[], attributes := #[] }
def k19m2 : Method := { name := "min", desc := "(II)I", sig := { parameters := [.int, .int], returnType := some .int }, accessFlags := 9, code := some k19c2 }
/-- java/lang/Math -/
def k19 : Class := { plain "java/lang/Math" (some 0) with
  accessFlags := 49
  interfaces := #[]
  cf := some (fileOf pool19 1 #[.nestMembers #[98]] #[{ accessFlags := 2, nameIndex := 7, descriptorIndex := 8, attributes := #[] }, { accessFlags := 9, nameIndex := 198, descriptorIndex := 335, attributes := #[] }, { accessFlags := 9, nameIndex := 201, descriptorIndex := 335, attributes := #[] }] 49 4 #[] #[{ accessFlags := 25, nameIndex := 354, descriptorIndex := 339, attributes := #[] }, { accessFlags := 25, nameIndex := 358, descriptorIndex := 339, attributes := #[] }, { accessFlags := 25, nameIndex := 361, descriptorIndex := 339, attributes := #[] }, { accessFlags := 26, nameIndex := 364, descriptorIndex := 339, attributes := #[] }, { accessFlags := 26, nameIndex := 365, descriptorIndex := 339, attributes := #[] }, { accessFlags := 26, nameIndex := 172, descriptorIndex := 173, attributes := #[] }, { accessFlags := 26, nameIndex := 176, descriptorIndex := 173, attributes := #[] }, { accessFlags := 8, nameIndex := 344, descriptorIndex := 339, attributes := #[] }, { accessFlags := 8, nameIndex := 338, descriptorIndex := 339, attributes := #[] }, { accessFlags := 4120, nameIndex := 245, descriptorIndex := 246, attributes := #[] }])
  fields := #[{ name := "E", type := .double, accessFlags := 25, slot := 0, constantValue := 0 }, { name := "PI", type := .double, accessFlags := 25, slot := 1, constantValue := 0 }, { name := "TAU", type := .double, accessFlags := 25, slot := 2, constantValue := 0 }, { name := "DEGREES_TO_RADIANS", type := .double, accessFlags := 26, slot := 3, constantValue := 0 }, { name := "RADIANS_TO_DEGREES", type := .double, accessFlags := 26, slot := 4, constantValue := 0 }, { name := "negativeZeroFloatBits", type := .long, accessFlags := 26, slot := 5, constantValue := 0 }, { name := "negativeZeroDoubleBits", type := .long, accessFlags := 26, slot := 6, constantValue := 0 }, { name := "twoToTheDoubleScaleUp", type := .double, accessFlags := 8, slot := 7, constantValue := 0 }, { name := "twoToTheDoubleScaleDown", type := .double, accessFlags := 8, slot := 8, constantValue := 0 }, { name := "$assertionsDisabled", type := .boolean, accessFlags := 4120, slot := 9, constantValue := 0 }]
  methods := #[k19m0, k19m1, k19m2]
  instanceTypes := #[]
  staticTypes := #[.double, .double, .double, .double, .double, .long, .long, .double, .double, .boolean]
  resolved := Array.replicate 460 none
  statics := none }

def pool20 : Array CpInfo := pool [(1, .methodref 2 3), (0, .class_ 4), (0, .nameAndType 5 6), (0, u "java/lang/Object"), (0, u "<init>"), (0, u "()V"), (0, .fieldref 8 9), (0, .class_ 10), (0, .nameAndType 11 12), (0, u "com/example/orderloom/orderloom/Precedence"), (0, u "span"), (0, u "I"), (2, .fieldref 8 16), (0, .nameAndType 17 12), (0, u "words"), (0, .interfaceMethodref 19 20), (0, .class_ 21), (0, .nameAndType 22 23), (0, u "java/util/List"), (0, u "size"), (0, u "()I"), (2, .long 2147483639), (10, .fieldref 8 38), (0, .nameAndType 39 40), (0, u "bits"), (0, u "[J"), (0, .interfaceMethodref 19 42), (0, .nameAndType 43 44), (0, u "get"), (0, u "(I)Ljava/lang/Object;"), (0, .class_ 46), (0, u "com/example/orderloom/orderloom/Footprint"), (0, .methodref 48 49), (0, .class_ 50), (0, .nameAndType 51 52), (0, u "java/lang/Math"), (0, u "min"), (0, u "(II)I"), (0, .methodref 8 54), (0, .nameAndType 55 56), (0, u "follows"), (0, u "(II)Z"), (0, .methodref 45 58), (0, .nameAndType 59 60), (0, u "conflictsWith"), (0, u "(Lcom/example/orderloom/orderloom/Footprint;)Z"), (0, .methodref 8 62), (0, .nameAndType 63 64), (0, u "followAlong"), (0, u "(II)V"), (0, u "(Ljava/util/List;I)V")] 22

def k20c0 : Code := { maxStack := 4, maxLocals := 8, code := prog_13_method_1_code, exceptionTable := #[], attributes := #[] }
def k20m0 : Method := { name := "<init>", desc := "(Ljava/util/List;I)V", sig := { parameters := [(.object "java/util/List"), .int], returnType := none }, accessFlags := 0, code := some k20c0 }
def k20c1 : Code := { maxStack := 5, maxLocals := 4, code := prog_13_method_2_code, exceptionTable := #[], attributes := #[] }
def k20m1 : Method := { name := "follows", desc := "(II)Z", sig := { parameters := [.int, .int], returnType := some .boolean }, accessFlags := 0, code := some k20c1 }
def k20c2 : Code := { maxStack := 7, maxLocals := 11, code := prog_13_method_3_code, exceptionTable := #[], attributes := #[] }
def k20m2 : Method := { name := "followAlong", desc := "(II)V", sig := { parameters := [.int, .int], returnType := none }, accessFlags := 2, code := some k20c2 }
/-- com/example/orderloom/orderloom/Precedence -/
def k20 : Class := { plain "com/example/orderloom/orderloom/Precedence" (some 0) with
  accessFlags := 48
  interfaces := #[]
  cf := some (fileOf pool20 8 #[] #[{ accessFlags := 0, nameIndex := 5, descriptorIndex := 65, attributes := #[] }, { accessFlags := 0, nameIndex := 55, descriptorIndex := 56, attributes := #[] }, { accessFlags := 2, nameIndex := 63, descriptorIndex := 64, attributes := #[] }] 48 2 #[] #[{ accessFlags := 18, nameIndex := 11, descriptorIndex := 12, attributes := #[] }, { accessFlags := 18, nameIndex := 17, descriptorIndex := 12, attributes := #[] }, { accessFlags := 18, nameIndex := 39, descriptorIndex := 40, attributes := #[] }])
  fields := #[{ name := "span", type := .int, accessFlags := 18, slot := 0, constantValue := 0 }, { name := "words", type := .int, accessFlags := 18, slot := 1, constantValue := 0 }, { name := "bits", type := (.array .long), accessFlags := 18, slot := 2, constantValue := 0 }]
  methods := #[k20m0, k20m1, k20m2]
  instanceTypes := #[.int, .int, (.array .long)]
  staticTypes := #[]
  resolved := Array.replicate 88 none
  statics := none }

def pool21 : Array CpInfo := pool [(2, .class_ 4), (1, u "java/lang/Object"), (0, u "<init>"), (0, u "()V"), (35, .class_ 44), (1, u "java/util/Objects"), (60, .methodref 106 107), (0, .class_ 108), (0, .nameAndType 109 110), (0, u "jdk/internal/util/Preconditions"), (0, u "checkIndex"), (0, u "(IILjava/util/function/BiFunction;)I"), (60, u "(II)I")] 12

def k21m0 : Method := { name := "<init>", desc := "()V", sig := { parameters := [], returnType := none }, accessFlags := 2, code := none }
def k21c1 : Code := { maxStack := 3, maxLocals := 2, code := jdk_31_method_17_code, exceptionTable := #[], attributes := #[] }
def k21m1 : Method := { name := "checkIndex", desc := "(II)I", sig := { parameters := [.int, .int], returnType := some .int }, accessFlags := 9, code := some k21c1 }
/-- java/util/Objects -/
def k21 : Class := { plain "java/util/Objects" (some 0) with
  accessFlags := 49
  interfaces := #[]
  cf := some (fileOf pool21 42 #[] #[{ accessFlags := 2, nameIndex := 5, descriptorIndex := 6, attributes := #[] }, { accessFlags := 9, nameIndex := 109, descriptorIndex := 171, attributes := #[] }] 49 2 #[] #[])
  fields := #[]
  methods := #[k21m0, k21m1]
  instanceTypes := #[]
  staticTypes := #[]
  resolved := Array.replicate 184 none
  statics := none }

def pool22 : Array CpInfo := pool [(2, .class_ 4), (1, u "java/lang/Object"), (0, u "<init>"), (0, u "()V"), (17, .class_ 26), (1, u "jdk/internal/util/Preconditions"), (6, u "checkIndex"), (21, .class_ 56), (0, u "jdk/internal/util/Preconditions$4"), (57, .class_ 115), (0, u "jdk/internal/util/Preconditions$1"), (7, u "SIOOBE_FORMATTER"), (0, u "Ljava/util/function/BiFunction;"), (0, .class_ 126), (0, u "jdk/internal/util/Preconditions$2"), (3, u "AIOOBE_FORMATTER"), (0, .class_ 132), (0, u "jdk/internal/util/Preconditions$3"), (3, u "IOOBE_FORMATTER"), (41, u "(IILjava/util/function/BiFunction;)I")] 15

def k22m0 : Method := { name := "<init>", desc := "()V", sig := { parameters := [], returnType := none }, accessFlags := 1, code := none }
def k22c1 : Code := { maxStack := 3, maxLocals := 3, code := jdk_41_method_11_code, exceptionTable := #[], attributes := #[] }
def k22m1 : Method := { name := "checkIndex", desc := "(IILjava/util/function/BiFunction;)I", sig := { parameters := [.int, .int, (.object "java/util/function/BiFunction")], returnType := some .int }, accessFlags := 9, code := some k22c1 }
/-- jdk/internal/util/Preconditions -/
def k22 : Class := { plain "jdk/internal/util/Preconditions" (some 0) with
  accessFlags := 33
  interfaces := #[]
  cf := some (fileOf pool22 24 #[.nestMembers #[55, 131, 125, 114]] #[{ accessFlags := 1, nameIndex := 5, descriptorIndex := 6, attributes := #[] }, { accessFlags := 9, nameIndex := 33, descriptorIndex := 178, attributes := #[] }] 33 2 #[] #[{ accessFlags := 25, nameIndex := 123, descriptorIndex := 124, attributes := #[] }, { accessFlags := 25, nameIndex := 130, descriptorIndex := 124, attributes := #[] }, { accessFlags := 25, nameIndex := 136, descriptorIndex := 124, attributes := #[] }])
  fields := #[{ name := "SIOOBE_FORMATTER", type := (.object "java/util/function/BiFunction"), accessFlags := 25, slot := 0, constantValue := 0 }, { name := "AIOOBE_FORMATTER", type := (.object "java/util/function/BiFunction"), accessFlags := 25, slot := 1, constantValue := 0 }, { name := "IOOBE_FORMATTER", type := (.object "java/util/function/BiFunction"), accessFlags := 25, slot := 2, constantValue := 0 }]
  methods := #[k22m0, k22m1]
  instanceTypes := #[]
  staticTypes := #[(.object "java/util/function/BiFunction"), (.object "java/util/function/BiFunction"), (.object "java/util/function/BiFunction")]
  resolved := Array.replicate 194 none
  statics := none }

/-- the primitive byte -/
def k23 : Class := { plain "byte" none with kind := .primitive 'B', accessFlags := 0x411 }
/-- [B -/
def k24 : Class := { plain "[B" (some 0) with kind := .array 23 .byte, interfaces := #[17, 3], accessFlags := 1041 }

/-- the primitive int -/
def k25 : Class := { plain "int" none with kind := .primitive 'I', accessFlags := 0x411 }
/-- [I -/
def k26 : Class := { plain "[I" (some 0) with kind := .array 25 .int, interfaces := #[17, 3], accessFlags := 1041 }

/-- the primitive long -/
def k27 : Class := { plain "long" none with kind := .primitive 'J', accessFlags := 0x411 }
/-- [J -/
def k28 : Class := { plain "[J" (some 0) with kind := .array 27 .long, interfaces := #[17, 3], accessFlags := 1041 }

/-- [Ljava/lang/Object; -/
def k29 : Class := { plain "[Ljava/lang/Object;" (some 0) with kind := .array 0 (.object "java/lang/Object"), interfaces := #[17, 3], accessFlags := 1041 }

def heap : Heap := #[{ cls := 18, slots := #[.long 0, .int 0, .ref 1, .ref 2], vm := .statics 18 },
  { cls := 29, slots := #[], vm := .none },
  { cls := 29, slots := #[], vm := .none }]
def classes : Array Class := #[k0, k1, k2, k3, k4, k5, k6, k7, k8, k9, k10, k11, k12, k13, k14, k15, k16, k17, k18, k19, k20, k21, k22, k23, k24, k25, k26, k27, k28, k29]
def interned : List (Array UInt16 × Addr) := []
def slotsUsed : Nat := 4
def theMethod : MethodId := ⟨1, 2⟩
def args0 : Array Value := #[.int 7, .int 5, .int 3]
def aboutOver (below : List Frame) : State where
  vm := { classes := classes, interned := interned.toArray }
  heap := heap
  slotsUsed := slotsUsed
  threads := #[{ frames := .invoking theMethod args0 :: below }]
def below0 : List Frame := [.native { method := ⟨0, 0⟩, args := #[] }]
def about1 : State := aboutOver below0
def p0 : Program := .bare "" "" ""
def e0 : Env := launch0.env 0 0 0
theorem w_frames : about1.frames = Frame.invoking theMethod args0 :: below0 := rfl
set_option maxRecDepth 65536 in
theorem w_args : argsFit about1.vm theMethod args0 = true := by decide +kernel
set_option maxRecDepth 65536 in
theorem w_heap : heapFits about1 = true := by decide +kernel
set_option maxRecDepth 65536 in
theorem w_runnable : about1.curStatus? = some .runnable := by decide +kernel
set_option maxRecDepth 65536 in
theorem w_alone : about1.alone = true := by decide +kernel
set_option maxRecDepth 65536 in
theorem w_named : about1.methodNamed? x = some theMethod := by decide +kernel
set_option maxRecDepth 65536 in
theorem w_hears : about1.hears theMethod below0 = true := by decide +kernel
set_option maxRecDepth 65536 in
theorem w_ripe : about1.ripe theMethod args0 below0 = true := by decide +kernel
theorem w_running : about1.status = .running := rfl
set_option maxRecDepth 65536 in
theorem w_room : about1.hasRoom e0.platform room_1 = true :=
  launch0.hasRoom_least _ room_1 (by decide +kernel) (by decide +kernel) (by decide +kernel) (by decide +kernel) (by decide +kernel) (by decide +kernel)
theorem allAtoms_all (ts : List Jvm.Cond) (a : Array Jvm.Value) (st : Jvm.State) : (allAtoms ts).before a st = ts.all (fun c => c.before a st) := by
  induction ts with
  | nil => rfl
  | cons c t ih =>
    show (Jvm.Cond.and c (allAtoms t)).before a st = _
    rw [Jvm.Cond.before_and, ih, List.all_cons]
def words1 : List Jvm.Cond := Jvm.Cond.code x code maxLocals ret :: tables_1
/-- a 'code' word, met by the world's own term for the bytes: nothing is compared byte by byte -/
theorem code_word {y : MethodName} {bytes : ByteArray} {mx : Nat} {rt : Option FieldType} {a : Array Value} {s : State} {m : MethodId} {meth : Method} {c : Code} (h1 : s.methodNamed? y = some m) (h2 : s.vm.method? m = some meth) (h3 : meth.code = some c) (h4 : c.code = bytes)
    (h5 : (c.maxLocals == mx && c.exceptionTable.isEmpty && decide (c.maxStack ≤ mostOperands) && decide (meth.sig.returnType = rt) && !meth.locks && decide (parseMethodDescriptor y.desc = some meth.sig)) = true) : (Jvm.Cond.code y bytes mx rt).before a s = true := by
  simp only [Bool.and_eq_true, beq_iff_eq, Bool.not_eq_true', decide_eq_true_eq] at h5
  obtain ⟨⟨⟨⟨⟨g1, g2⟩, g3⟩, g4⟩, g5⟩, g6⟩ := h5
  simp [Cond.before, Cond.holds, Cond.value, h1, h2, h3, h4, g1, g2, g3, g4, g5, g6]
def isCode : Jvm.Cond → Bool
  | .code _ _ _ _ => true
  | _ => false
theorem all_split {L : List Jvm.Cond} {P : Jvm.Cond → Bool} (h1 : L.all (fun c => isCode c || P c) = true) (h2 : ∀ c ∈ L.filter isCode, P c = true) : L.all P = true := by
  refine List.all_eq_true.mpr fun c hc => ?_
  have h := List.all_eq_true.mp h1 c hc
  rcases Bool.eq_false_or_eq_true (isCode c) with hi | hi
  · exact h2 c (List.mem_filter.mpr ⟨hc, hi⟩)
  · simpa [hi] using h
set_option maxRecDepth 65536 in
theorem w_c0 : (Jvm.Cond.code x code maxLocals ret).before args0 about1 = true := code_word (m := ⟨1, 2⟩) (meth := k1m2) (c := k1c2) (by decide +kernel) rfl rfl rfl (by decide +kernel)
set_option maxRecDepth 65536 in
theorem w_c1 : (Jvm.Cond.code ({ cls := "com/example/orderloom/orderloom/PrecedenceFollowsPinLaw", name := "edge", desc := "(II)J" } : Jvm.MethodName) method_2_code (2 : Nat) (Option.some Jvm.ClassFile.FieldType.long)).before args0 about1 = true := code_word (m := ⟨1, 1⟩) (meth := k1m1) (c := k1c1) (by decide +kernel) rfl rfl rfl (by decide +kernel)
set_option maxRecDepth 65536 in
theorem w_c2 : (Jvm.Cond.code ({ cls := "com/example/orderloom/orderloom/RequestClass", name := "<init>", desc := "(Lcom/example/orderloom/orderloom/RequestClasses;Ljava/lang/String;IJ)V" } : Jvm.MethodName) prog_16_method_1_code (6 : Nat) (Option.none : Option Jvm.ClassFile.FieldType)).before args0 about1 = true := code_word (m := ⟨2, 0⟩) (meth := k2m0) (c := k2c0) (by decide +kernel) rfl rfl rfl (by decide +kernel)
set_option maxRecDepth 65536 in
theorem w_c3 : (Jvm.Cond.code ({ cls := "java/lang/Object", name := "<init>", desc := "()V" } : Jvm.MethodName) object_method_1_code (1 : Nat) (Option.none : Option Jvm.ClassFile.FieldType)).before args0 about1 = true := code_word (m := ⟨0, 0⟩) (meth := k0m0) (c := k0c0) (by decide +kernel) rfl rfl rfl (by decide +kernel)
set_option maxRecDepth 65536 in
theorem w_c4 : (Jvm.Cond.code ({ cls := "com/example/orderloom/orderloom/Footprint", name := "<init>", desc := "(Lcom/example/orderloom/orderloom/RequestClass;JJ)V" } : Jvm.MethodName) prog_11_method_1_code (6 : Nat) (Option.none : Option Jvm.ClassFile.FieldType)).before args0 about1 = true := code_word (m := ⟨9, 0⟩) (meth := k9m0) (c := k9c0) (by decide +kernel) rfl rfl rfl (by decide +kernel)
set_option maxRecDepth 65536 in
theorem w_c5 : (Jvm.Cond.code ({ cls := "java/util/ArrayList", name := "<init>", desc := "()V" } : Jvm.MethodName) jdk_38_method_2_code (1 : Nat) (Option.none : Option Jvm.ClassFile.FieldType)).before args0 about1 = true := code_word (m := ⟨18, 0⟩) (meth := k18m0) (c := k18c0) (by decide +kernel) rfl rfl rfl (by decide +kernel)
set_option maxRecDepth 65536 in
theorem w_c6 : (Jvm.Cond.code ({ cls := "java/util/AbstractList", name := "<init>", desc := "()V" } : Jvm.MethodName) jdk_39_method_1_code (1 : Nat) (Option.none : Option Jvm.ClassFile.FieldType)).before args0 about1 = true := code_word (m := ⟨15, 0⟩) (meth := k15m0) (c := k15c0) (by decide +kernel) rfl rfl rfl (by decide +kernel)
set_option maxRecDepth 65536 in
theorem w_c7 : (Jvm.Cond.code ({ cls := "java/util/AbstractCollection", name := "<init>", desc := "()V" } : Jvm.MethodName) jdk_22_method_1_code (1 : Nat) (Option.none : Option Jvm.ClassFile.FieldType)).before args0 about1 = true := code_word (m := ⟨12, 0⟩) (meth := k12m0) (c := k12c0) (by decide +kernel) rfl rfl rfl (by decide +kernel)
set_option maxRecDepth 65536 in
theorem w_c8 : (Jvm.Cond.code ({ cls := "com/example/orderloom/orderloom/RequestClass", name := "allKeys", desc := "()Lcom/example/orderloom/orderloom/Footprint;" } : Jvm.MethodName) prog_16_method_4_code (1 : Nat) (Option.some (Jvm.ClassFile.FieldType.object "com/example/orderloom/orderloom/Footprint"))).before args0 about1 = true := code_word (m := ⟨2, 1⟩) (meth := k2m1) (c := k2c1) (by decide +kernel) rfl rfl rfl (by decide +kernel)
set_option maxRecDepth 65536 in
theorem w_c9 : (Jvm.Cond.code ({ cls := "java/util/ArrayList", name := "add", desc := "(Ljava/lang/Object;)Z" } : Jvm.MethodName) jdk_38_method_25_code (2 : Nat) (Option.some Jvm.ClassFile.FieldType.boolean)).before args0 about1 = true := code_word (m := ⟨18, 7⟩) (meth := k18m7) (c := k18c7) (by decide +kernel) rfl rfl rfl (by decide +kernel)
set_option maxRecDepth 65536 in
theorem w_c10 : (Jvm.Cond.code ({ cls := "java/util/ArrayList", name := "add", desc := "(Ljava/lang/Object;[Ljava/lang/Object;I)V" } : Jvm.MethodName) jdk_38_method_24_code (4 : Nat) (Option.none : Option Jvm.ClassFile.FieldType)).before args0 about1 = true := code_word (m := ⟨18, 6⟩) (meth := k18m6) (c := k18c6) (by decide +kernel) rfl rfl rfl (by decide +kernel)
set_option maxRecDepth 65536 in
theorem w_c11 : (Jvm.Cond.code ({ cls := "java/util/ArrayList", name := "grow", desc := "()[Ljava/lang/Object;" } : Jvm.MethodName) jdk_38_method_7_code (1 : Nat) (Option.some (Jvm.ClassFile.FieldType.array (Jvm.ClassFile.FieldType.object "java/lang/Object")))).before args0 about1 = true := code_word (m := ⟨18, 2⟩) (meth := k18m2) (c := k18c2) (by decide +kernel) rfl rfl rfl (by decide +kernel)
set_option maxRecDepth 65536 in
theorem w_c12 : (Jvm.Cond.code ({ cls := "java/util/ArrayList", name := "grow", desc := "(I)[Ljava/lang/Object;" } : Jvm.MethodName) jdk_38_method_6_code (4 : Nat) (Option.some (Jvm.ClassFile.FieldType.array (Jvm.ClassFile.FieldType.object "java/lang/Object")))).before args0 about1 = true := code_word (m := ⟨18, 1⟩) (meth := k18m1) (c := k18c1) (by decide +kernel) rfl rfl rfl (by decide +kernel)
set_option maxRecDepth 65536 in
theorem w_c13 : (Jvm.Cond.code ({ cls := "java/lang/Math", name := "max", desc := "(II)I" } : Jvm.MethodName) jdk_29_method_65_code (2 : Nat) (Option.some Jvm.ClassFile.FieldType.int)).before args0 about1 = true := code_word (m := ⟨19, 1⟩) (meth := k19m1) (c := k19c1) (by decide +kernel) rfl rfl rfl (by decide +kernel)
set_option maxRecDepth 65536 in
theorem w_c14 : (Jvm.Cond.code ({ cls := "com/example/orderloom/orderloom/Precedence", name := "<init>", desc := "(Ljava/util/List;I)V" } : Jvm.MethodName) prog_13_method_1_code (8 : Nat) (Option.none : Option Jvm.ClassFile.FieldType)).before args0 about1 = true := code_word (m := ⟨20, 0⟩) (meth := k20m0) (c := k20c0) (by decide +kernel) rfl rfl rfl (by decide +kernel)
set_option maxRecDepth 65536 in
theorem w_c15 : (Jvm.Cond.code ({ cls := "java/util/ArrayList", name := "size", desc := "()I" } : Jvm.MethodName) jdk_38_method_8_code (1 : Nat) (Option.some Jvm.ClassFile.FieldType.int)).before args0 about1 = true := code_word (m := ⟨18, 3⟩) (meth := k18m3) (c := k18c3) (by decide +kernel) rfl rfl rfl (by decide +kernel)
set_option maxRecDepth 65536 in
theorem w_c16 : (Jvm.Cond.code ({ cls := "java/util/ArrayList", name := "get", desc := "(I)Ljava/lang/Object;" } : Jvm.MethodName) jdk_38_method_20_code (2 : Nat) (Option.some (Jvm.ClassFile.FieldType.object "java/lang/Object"))).before args0 about1 = true := code_word (m := ⟨18, 5⟩) (meth := k18m5) (c := k18c5) (by decide +kernel) rfl rfl rfl (by decide +kernel)
set_option maxRecDepth 65536 in
theorem w_c17 : (Jvm.Cond.code ({ cls := "java/util/Objects", name := "checkIndex", desc := "(II)I" } : Jvm.MethodName) jdk_31_method_17_code (2 : Nat) (Option.some Jvm.ClassFile.FieldType.int)).before args0 about1 = true := code_word (m := ⟨21, 1⟩) (meth := k21m1) (c := k21c1) (by decide +kernel) rfl rfl rfl (by decide +kernel)
set_option maxRecDepth 65536 in
theorem w_c18 : (Jvm.Cond.code ({ cls := "jdk/internal/util/Preconditions", name := "checkIndex", desc := "(IILjava/util/function/BiFunction;)I" } : Jvm.MethodName) jdk_41_method_11_code (3 : Nat) (Option.some Jvm.ClassFile.FieldType.int)).before args0 about1 = true := code_word (m := ⟨22, 1⟩) (meth := k22m1) (c := k22c1) (by decide +kernel) rfl rfl rfl (by decide +kernel)
set_option maxRecDepth 65536 in
theorem w_c19 : (Jvm.Cond.code ({ cls := "java/util/ArrayList", name := "elementData", desc := "(I)Ljava/lang/Object;" } : Jvm.MethodName) jdk_38_method_18_code (2 : Nat) (Option.some (Jvm.ClassFile.FieldType.object "java/lang/Object"))).before args0 about1 = true := code_word (m := ⟨18, 4⟩) (meth := k18m4) (c := k18c4) (by decide +kernel) rfl rfl rfl (by decide +kernel)
set_option maxRecDepth 65536 in
theorem w_c20 : (Jvm.Cond.code ({ cls := "java/lang/Math", name := "min", desc := "(II)I" } : Jvm.MethodName) jdk_29_method_69_code (2 : Nat) (Option.some Jvm.ClassFile.FieldType.int)).before args0 about1 = true := code_word (m := ⟨19, 2⟩) (meth := k19m2) (c := k19c2) (by decide +kernel) rfl rfl rfl (by decide +kernel)
set_option maxRecDepth 65536 in
theorem w_c21 : (Jvm.Cond.code ({ cls := "com/example/orderloom/orderloom/Precedence", name := "follows", desc := "(II)Z" } : Jvm.MethodName) prog_13_method_2_code (4 : Nat) (Option.some Jvm.ClassFile.FieldType.boolean)).before args0 about1 = true := code_word (m := ⟨20, 1⟩) (meth := k20m1) (c := k20c1) (by decide +kernel) rfl rfl rfl (by decide +kernel)
set_option maxRecDepth 65536 in
theorem w_c22 : (Jvm.Cond.code ({ cls := "com/example/orderloom/orderloom/Footprint", name := "conflictsWith", desc := "(Lcom/example/orderloom/orderloom/Footprint;)Z" } : Jvm.MethodName) prog_11_method_3_code (2 : Nat) (Option.some Jvm.ClassFile.FieldType.boolean)).before args0 about1 = true := code_word (m := ⟨9, 1⟩) (meth := k9m1) (c := k9c1) (by decide +kernel) rfl rfl rfl (by decide +kernel)
set_option maxRecDepth 65536 in
theorem w_c23 : (Jvm.Cond.code ({ cls := "com/example/orderloom/orderloom/RequestClass", name := "requireSameDeclaration", desc := "(Lcom/example/orderloom/orderloom/RequestClass;)V" } : Jvm.MethodName) prog_16_method_7_code (2 : Nat) (Option.none : Option Jvm.ClassFile.FieldType)).before args0 about1 = true := code_word (m := ⟨2, 2⟩) (meth := k2m2) (c := k2c2) (by decide +kernel) rfl rfl rfl (by decide +kernel)
set_option maxRecDepth 65536 in
theorem w_c24 : (Jvm.Cond.code ({ cls := "com/example/orderloom/orderloom/RequestClass", name := "conflicts", desc := "()J" } : Jvm.MethodName) prog_16_method_9_code (1 : Nat) (Option.some Jvm.ClassFile.FieldType.long)).before args0 about1 = true := code_word (m := ⟨2, 4⟩) (meth := k2m4) (c := k2c4) (by decide +kernel) rfl rfl rfl (by decide +kernel)
set_option maxRecDepth 65536 in
theorem w_c25 : (Jvm.Cond.code ({ cls := "com/example/orderloom/orderloom/RequestClass", name := "bit", desc := "()J" } : Jvm.MethodName) prog_16_method_8_code (1 : Nat) (Option.some Jvm.ClassFile.FieldType.long)).before args0 about1 = true := code_word (m := ⟨2, 3⟩) (meth := k2m3) (c := k2c3) (by decide +kernel) rfl rfl rfl (by decide +kernel)
set_option maxRecDepth 65536 in
theorem w_c26 : (Jvm.Cond.code ({ cls := "com/example/orderloom/orderloom/Footprint", name := "conflict", desc := "(JJJJJJ)Z" } : Jvm.MethodName) prog_11_method_6_code (12 : Nat) (Option.some Jvm.ClassFile.FieldType.boolean)).before args0 about1 = true := code_word (m := ⟨9, 2⟩) (meth := k9m2) (c := k9c2) (by decide +kernel) rfl rfl rfl (by decide +kernel)
set_option maxRecDepth 65536 in
theorem w_c27 : (Jvm.Cond.code ({ cls := "com/example/orderloom/orderloom/Footprint", name := "overlap", desc := "(JJJJ)Z" } : Jvm.MethodName) prog_11_method_7_code (8 : Nat) (Option.some Jvm.ClassFile.FieldType.boolean)).before args0 about1 = true := code_word (m := ⟨9, 3⟩) (meth := k9m3) (c := k9c3) (by decide +kernel) rfl rfl rfl (by decide +kernel)
set_option maxRecDepth 65536 in
theorem w_c28 : (Jvm.Cond.code ({ cls := "com/example/orderloom/orderloom/Precedence", name := "followAlong", desc := "(II)V" } : Jvm.MethodName) prog_13_method_3_code (11 : Nat) (Option.none : Option Jvm.ClassFile.FieldType)).before args0 about1 = true := code_word (m := ⟨20, 2⟩) (meth := k20m2) (c := k20c2) (by decide +kernel) rfl rfl rfl (by decide +kernel)
def codes1 : List Jvm.Cond := [Jvm.Cond.code x code maxLocals ret, Jvm.Cond.code ({ cls := "com/example/orderloom/orderloom/PrecedenceFollowsPinLaw", name := "edge", desc := "(II)J" } : Jvm.MethodName) method_2_code (2 : Nat) (Option.some Jvm.ClassFile.FieldType.long), Jvm.Cond.code ({ cls := "com/example/orderloom/orderloom/RequestClass", name := "<init>", desc := "(Lcom/example/orderloom/orderloom/RequestClasses;Ljava/lang/String;IJ)V" } : Jvm.MethodName) prog_16_method_1_code (6 : Nat) (Option.none : Option Jvm.ClassFile.FieldType), Jvm.Cond.code ({ cls := "java/lang/Object", name := "<init>", desc := "()V" } : Jvm.MethodName) object_method_1_code (1 : Nat) (Option.none : Option Jvm.ClassFile.FieldType), Jvm.Cond.code ({ cls := "com/example/orderloom/orderloom/Footprint", name := "<init>", desc := "(Lcom/example/orderloom/orderloom/RequestClass;JJ)V" } : Jvm.MethodName) prog_11_method_1_code (6 : Nat) (Option.none : Option Jvm.ClassFile.FieldType), Jvm.Cond.code ({ cls := "java/util/ArrayList", name := "<init>", desc := "()V" } : Jvm.MethodName) jdk_38_method_2_code (1 : Nat) (Option.none : Option Jvm.ClassFile.FieldType), Jvm.Cond.code ({ cls := "java/util/AbstractList", name := "<init>", desc := "()V" } : Jvm.MethodName) jdk_39_method_1_code (1 : Nat) (Option.none : Option Jvm.ClassFile.FieldType), Jvm.Cond.code ({ cls := "java/util/AbstractCollection", name := "<init>", desc := "()V" } : Jvm.MethodName) jdk_22_method_1_code (1 : Nat) (Option.none : Option Jvm.ClassFile.FieldType), Jvm.Cond.code ({ cls := "com/example/orderloom/orderloom/RequestClass", name := "allKeys", desc := "()Lcom/example/orderloom/orderloom/Footprint;" } : Jvm.MethodName) prog_16_method_4_code (1 : Nat) (Option.some (Jvm.ClassFile.FieldType.object "com/example/orderloom/orderloom/Footprint")), Jvm.Cond.code ({ cls := "java/util/ArrayList", name := "add", desc := "(Ljava/lang/Object;)Z" } : Jvm.MethodName) jdk_38_method_25_code (2 : Nat) (Option.some Jvm.ClassFile.FieldType.boolean), Jvm.Cond.code ({ cls := "java/util/ArrayList", name := "add", desc := "(Ljava/lang/Object;[Ljava/lang/Object;I)V" } : Jvm.MethodName) jdk_38_method_24_code (4 : Nat) (Option.none : Option Jvm.ClassFile.FieldType), Jvm.Cond.code ({ cls := "java/util/ArrayList", name := "grow", desc := "()[Ljava/lang/Object;" } : Jvm.MethodName) jdk_38_method_7_code (1 : Nat) (Option.some (Jvm.ClassFile.FieldType.array (Jvm.ClassFile.FieldType.object "java/lang/Object"))), Jvm.Cond.code ({ cls := "java/util/ArrayList", name := "grow", desc := "(I)[Ljava/lang/Object;" } : Jvm.MethodName) jdk_38_method_6_code (4 : Nat) (Option.some (Jvm.ClassFile.FieldType.array (Jvm.ClassFile.FieldType.object "java/lang/Object"))), Jvm.Cond.code ({ cls := "java/lang/Math", name := "max", desc := "(II)I" } : Jvm.MethodName) jdk_29_method_65_code (2 : Nat) (Option.some Jvm.ClassFile.FieldType.int), Jvm.Cond.code ({ cls := "com/example/orderloom/orderloom/Precedence", name := "<init>", desc := "(Ljava/util/List;I)V" } : Jvm.MethodName) prog_13_method_1_code (8 : Nat) (Option.none : Option Jvm.ClassFile.FieldType), Jvm.Cond.code ({ cls := "java/util/ArrayList", name := "size", desc := "()I" } : Jvm.MethodName) jdk_38_method_8_code (1 : Nat) (Option.some Jvm.ClassFile.FieldType.int), Jvm.Cond.code ({ cls := "java/util/ArrayList", name := "get", desc := "(I)Ljava/lang/Object;" } : Jvm.MethodName) jdk_38_method_20_code (2 : Nat) (Option.some (Jvm.ClassFile.FieldType.object "java/lang/Object")), Jvm.Cond.code ({ cls := "java/util/Objects", name := "checkIndex", desc := "(II)I" } : Jvm.MethodName) jdk_31_method_17_code (2 : Nat) (Option.some Jvm.ClassFile.FieldType.int), Jvm.Cond.code ({ cls := "jdk/internal/util/Preconditions", name := "checkIndex", desc := "(IILjava/util/function/BiFunction;)I" } : Jvm.MethodName) jdk_41_method_11_code (3 : Nat) (Option.some Jvm.ClassFile.FieldType.int), Jvm.Cond.code ({ cls := "java/util/ArrayList", name := "elementData", desc := "(I)Ljava/lang/Object;" } : Jvm.MethodName) jdk_38_method_18_code (2 : Nat) (Option.some (Jvm.ClassFile.FieldType.object "java/lang/Object")), Jvm.Cond.code ({ cls := "java/lang/Math", name := "min", desc := "(II)I" } : Jvm.MethodName) jdk_29_method_69_code (2 : Nat) (Option.some Jvm.ClassFile.FieldType.int), Jvm.Cond.code ({ cls := "com/example/orderloom/orderloom/Precedence", name := "follows", desc := "(II)Z" } : Jvm.MethodName) prog_13_method_2_code (4 : Nat) (Option.some Jvm.ClassFile.FieldType.boolean), Jvm.Cond.code ({ cls := "com/example/orderloom/orderloom/Footprint", name := "conflictsWith", desc := "(Lcom/example/orderloom/orderloom/Footprint;)Z" } : Jvm.MethodName) prog_11_method_3_code (2 : Nat) (Option.some Jvm.ClassFile.FieldType.boolean), Jvm.Cond.code ({ cls := "com/example/orderloom/orderloom/RequestClass", name := "requireSameDeclaration", desc := "(Lcom/example/orderloom/orderloom/RequestClass;)V" } : Jvm.MethodName) prog_16_method_7_code (2 : Nat) (Option.none : Option Jvm.ClassFile.FieldType), Jvm.Cond.code ({ cls := "com/example/orderloom/orderloom/RequestClass", name := "conflicts", desc := "()J" } : Jvm.MethodName) prog_16_method_9_code (1 : Nat) (Option.some Jvm.ClassFile.FieldType.long), Jvm.Cond.code ({ cls := "com/example/orderloom/orderloom/RequestClass", name := "bit", desc := "()J" } : Jvm.MethodName) prog_16_method_8_code (1 : Nat) (Option.some Jvm.ClassFile.FieldType.long), Jvm.Cond.code ({ cls := "com/example/orderloom/orderloom/Footprint", name := "conflict", desc := "(JJJJJJ)Z" } : Jvm.MethodName) prog_11_method_6_code (12 : Nat) (Option.some Jvm.ClassFile.FieldType.boolean), Jvm.Cond.code ({ cls := "com/example/orderloom/orderloom/Footprint", name := "overlap", desc := "(JJJJ)Z" } : Jvm.MethodName) prog_11_method_7_code (8 : Nat) (Option.some Jvm.ClassFile.FieldType.boolean), Jvm.Cond.code ({ cls := "com/example/orderloom/orderloom/Precedence", name := "followAlong", desc := "(II)V" } : Jvm.MethodName) prog_13_method_3_code (11 : Nat) (Option.none : Option Jvm.ClassFile.FieldType)]
set_option maxRecDepth 65536 in
theorem codes_eq : words1.filter isCode = codes1 := rfl
theorem w_codes : ∀ c ∈ words1.filter isCode, c.before args0 about1 = true := by
  rw [codes_eq]
  intro c hc
  simp only [codes1, List.mem_cons, List.not_mem_nil, or_false] at hc
  rcases hc with rfl | rfl | rfl | rfl | rfl | rfl | rfl | rfl | rfl | rfl | rfl | rfl | rfl | rfl | rfl | rfl | rfl | rfl | rfl | rfl | rfl | rfl | rfl | rfl | rfl | rfl | rfl | rfl | rfl
  · exact w_c0
  · exact w_c1
  · exact w_c2
  · exact w_c3
  · exact w_c4
  · exact w_c5
  · exact w_c6
  · exact w_c7
  · exact w_c8
  · exact w_c9
  · exact w_c10
  · exact w_c11
  · exact w_c12
  · exact w_c13
  · exact w_c14
  · exact w_c15
  · exact w_c16
  · exact w_c17
  · exact w_c18
  · exact w_c19
  · exact w_c20
  · exact w_c21
  · exact w_c22
  · exact w_c23
  · exact w_c24
  · exact w_c25
  · exact w_c26
  · exact w_c27
  · exact w_c28
set_option maxRecDepth 65536 in
theorem w_t1 : (words1.take 24).all (fun c => isCode c || c.before args0 about1) = true := by decide +kernel
set_option maxRecDepth 65536 in
theorem w_t2 : ((words1.drop 24).take 24).all (fun c => isCode c || c.before args0 about1) = true := by decide +kernel
set_option maxRecDepth 65536 in
theorem w_t3 : (((words1.drop 24).drop 24).take 24).all (fun c => isCode c || c.before args0 about1) = true := by decide +kernel
set_option maxRecDepth 65536 in
theorem w_t4 : ((((words1.drop 24).drop 24).drop 24).take 24).all (fun c => isCode c || c.before args0 about1) = true := by decide +kernel
set_option maxRecDepth 65536 in
theorem w_t5 : (((((words1.drop 24).drop 24).drop 24).drop 24).take 24).all (fun c => isCode c || c.before args0 about1) = true := by decide +kernel
set_option maxRecDepth 65536 in
theorem w_t6 : ((((((words1.drop 24).drop 24).drop 24).drop 24).drop 24).take 24).all (fun c => isCode c || c.before args0 about1) = true := by decide +kernel
set_option maxRecDepth 65536 in
theorem w_t7 : (((((((words1.drop 24).drop 24).drop 24).drop 24).drop 24).drop 24).take 24).all (fun c => isCode c || c.before args0 about1) = true := by decide +kernel
set_option maxRecDepth 65536 in
theorem w_t8 : ((((((((words1.drop 24).drop 24).drop 24).drop 24).drop 24).drop 24).drop 24).take 24).all (fun c => isCode c || c.before args0 about1) = true := by decide +kernel
set_option maxRecDepth 65536 in
theorem w_t9 : ((((((((words1.drop 24).drop 24).drop 24).drop 24).drop 24).drop 24).drop 24).drop 24).all (fun c => isCode c || c.before args0 about1) = true := by decide +kernel
theorem w_tables : (allAtoms (Jvm.Cond.code x code maxLocals ret :: tables_1)).before args0 about1 = true := by
  rw [allAtoms_all]
  show words1.all (fun c => c.before args0 about1) = true
  refine all_split ?_ w_codes
  rw [← List.take_append_drop 24 words1, List.all_append, w_t1, ← List.take_append_drop 24 (words1.drop 24), List.all_append, w_t2, ← List.take_append_drop 24 ((words1.drop 24).drop 24), List.all_append, w_t3, ← List.take_append_drop 24 (((words1.drop 24).drop 24).drop 24), List.all_append, w_t4, ← List.take_append_drop 24 ((((words1.drop 24).drop 24).drop 24).drop 24), List.all_append, w_t5, ← List.take_append_drop 24 (((((words1.drop 24).drop 24).drop 24).drop 24).drop 24), List.all_append, w_t6, ← List.take_append_drop 24 ((((((words1.drop 24).drop 24).drop 24).drop 24).drop 24).drop 24), List.all_append, w_t7, ← List.take_append_drop 24 (((((((words1.drop 24).drop 24).drop 24).drop 24).drop 24).drop 24).drop 24), List.all_append, w_t8, w_t9]
  rfl
set_option maxRecDepth 65536 in
theorem w_rest : rest_1_c.before args0 about1 = true := by decide +kernel
set_option maxRecDepth 65536 in
theorem w_case : (Jvm.Cond.and given_1 narrow_1).before args0 about1 = true := by decide +kernel
theorem w_applies : (headSpec (Jvm.Cond.code x code maxLocals ret :: tables_1) room_1).applies x e0.platform about1 = true :=
  (Spec.applies_iff w_frames).mpr ⟨w_running, w_runnable, w_alone, w_named, w_hears, w_ripe, w_room, w_tables⟩
theorem atStart : AtStart classFile x code maxLocals ret World_1 tables_1 room_1 Calls_1 rest_1 Pre_1 launch0 p0 e0 about1 theMethod args0 below0 :=
  ⟨lists_1, trivial, launch0.admits_env _ _ _, launch0.least_env, fairChoices_fair.cas, fairChoices_fair.clock, w_frames, w_args, w_heap, w_applies, trivial, w_rest, w_case⟩
end start1
theorem witness_1 : WitnessClaimed_1 := ⟨start1.p0, start1.e0, start1.about1, start1.theMethod, start1.args0, start1.below0, start1.atStart⟩
end Jvm.Pilot.@@N@@
