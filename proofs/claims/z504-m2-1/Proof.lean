import JvmDerived
import JvmDerived.Pilot.@@N@@Statement
import JvmDerived.Pilot.@@N@@Code
set_option linter.unusedVariables false
set_option linter.unusedSimpArgs false
namespace Jvm.RoadKit
open Sem ClassFile Op Lib Jvm.Stand Jvm.Free Jvm.LawKit
section New
variable {p : Program} {l : Launch} {e : Env} {R : Room} {s : State} {m : MethodId} {args : Array Value} {below : List Frame} {meth : Method} {c : Code} {T : State} {locs : List Loc} {cells slots : Nat}
theorem retI (X : Stand p l e R s m args below meth c T locs cells slots) (hx : p.tables.exec = Jvm.exec) {pc : Nat} {Ls : Array Slot} {z : Int32} {rest : List Value} (hret : meth.sig.returnType = some .int) (hd : decode c.code pc = .ok (.ireturn, 1)) {fs : List Frame}
    (hl : ∀ (f : JFrame) (acts : List Action), f.method = m → f.locked = none → f.entered = [] → (doReturn e (T.setTop f) acts (some (.int z))).1 = T.setFrames fs) : Steps p.tables e below (T.setTop (mkF m pc Ls (.int z :: rest))) (T.setFrames fs) := by
  have hm' : T.vm.method? m = some meth := X.method'
  have hn : narrow .int (.int z) = .int z := rfl
  show Steps p.tables e below (T.setTop { method := m, pc := pc, locals := Ls, stack := _ :: rest, locked := none }) _
  jvm_step X.here [X.here.top, hx, hd, hm', hret, hn]
  first | (intro acts; rw [hl _ acts rfl rfl rfl]) | rw [hl _ _ rfl rfl rfl]
  exact Steps.refl _
end New
end Jvm.RoadKit
namespace Jvm.Pilot.@@N@@
open Jvm Jvm.ClassFile Sem Op Lib Jvm.Free Jvm.Stand Jvm.LawKit Jvm.RoadKit Bundle Jvm.Pilot.@@N@@.Jvm.D
section Own
variable {p : Program} {l : Launch} {e : Env} {R : Room} {s : State} {m : MethodId} {args : Array Value} {below : List Frame} {meth : Method} {c : Code} {bs : ByteArray} {ml : Nat} {own nm : String} {rt : Option FieldType} {Z : State} {F : State → Outcome → Prop} {n0 : Nat} {h h' : Heap} {cells slots : Nat} {pc q : Nat} {Ls Ls' : Array Slot} {st : List Value} {a0 : Array Value}
def oCx (p : Program) (s : State) (m : MethodId) (meth : Method) (c : Code) (bs : ByteArray) (ml : Nat) (own nm : String) (rt : Option FieldType) (Z : State) : Prop :=
  p.tables.exec = Jvm.exec ∧ c.code = bs ∧ c.maxLocals = ml ∧ s.vm.findClass own = some m.cls ∧ Z.Warmed39 s.vm ∧ meth.name = nm ∧ meth.sig.returnType = rt ∧ meth.locks = false
def oW (p : Program) (l : Launch) (e : Env) (R : Room) (s : State) (m : MethodId) (args : Array Value) (below : List Frame) (meth : Method) (c : Code) (F : State → Outcome → Prop) (n0 : Nat) (h : Heap) (cells slots : Nat) (f : JFrame) : Prop :=
  ∀ (T : State) (locs : List Loc), Stand p l e R s m args below meth c T locs cells slots → T.heap = h → Fr n0 locs → ∃ s₂ o, Steps p.tables e below (T.setTop f) s₂ ∧ s₂.status = .running ∧ Ended s₂ below o ∧ F s₂ o
def oFin (s : State) (n0 k n : Nat) (Q : Option Value → Heap → Prop) (s₂ : State) (o : Outcome) : Prop := ∃ v L, o = .returned v ∧ (Fr n0 L ∧ Q v s₂.heap) ∧ FrameEnd s o s₂ L k n
def oMet (l : Launch) (Z : State) (y : MethodName) (bs : ByteArray) (ml : Nat) (rt : Option FieldType) (ws : List Jvm.Cond) (R : Room) (k n n0 : Nat) (as' : Array Value) (h0 : Heap) (Q : Option Value → Heap → Prop) : Prop :=
  MetFree l y (head1 (Jvm.Cond.code y bs ml rt :: ws) R) (fun a U => a = as' ∧ Z.Warmed39 U.vm ∧ U.heap = h0) (fun _ _ _ _ _ => True) (fun _ U o U' => ∃ v L, o = .returned v ∧ (Fr n0 L ∧ Q v U'.heap) ∧ FrameEnd U o U' L k n)
theorem oMet.intro {y : MethodName} {ws : List Jvm.Cond} {k n : Nat} {as' : Array Value} {h0 : Heap} {Q : Option Value → Heap → Prop} (pn : plainFor y = true) (ef : ∀ m, entryFrame m as' ml = mkF m 0 Ls [])
    (body : ∀ (p : Program) (e : Env) (s : State) (m : MethodId) (below : List Frame) (meth : Method) (c : Code), oCx p s m meth c bs ml y.cls y.name rt Z → oW p l e R s m as' below meth c (oFin s n0 k n Q) n0 h0 0 0 (mkF m 0 Ls [])) :
    oMet l Z y bs ml rt ws R k n n0 as' h0 Q := by
  refine MetFree.of_bodySF pn hisR ?_
  intro p e s m args below meth c s₁ Bd hml0 hP hK
  obtain ⟨rfl, hZ, hh⟩ := hP
  have e0 : s₁.heap = h0 := by rw [← hh, Bd.state]; rfl
  have C : oCx p s m meth c bs ml y.cls y.name rt Z := ⟨Bd.exec, Bd.bytes, hml0, findClass_of_methodNamed Bd.named, hZ, (name_of_methodNamed Bd.named Bd.method).1, Bd.returns, Bd.notSynchronized⟩
  obtain ⟨s₂, o, h1, h2, h3, h4⟩ := body p e s m below meth c C s₁ [] (Stand.of_body Bd) e0 (Fr.nil n0)
  exact ⟨s₂, o, castTop (ef m) h1, h2, h3, h4⟩
theorem oMet.mono {y : MethodName} {ws : List Jvm.Cond} {k n : Nat} {as' : Array Value} {h0 : Heap} {Q Q' : Option Value → Heap → Prop} (M : oMet l Z y bs ml rt ws R k n n0 as' h0 Q) (hq : ∀ v h, Q v h → Q' v h) : oMet l Z y bs ml rt ws R k n n0 as' h0 Q' := by
  intro p e ha hc hk s m args below hf happ hP hK
  obtain ⟨n', o, h1, h2, h3, v, L, h4, ⟨h5, h6⟩, h7⟩ := M p e ha hc hk s m args below hf happ hP hK
  exact ⟨n', o, h1, h2, h3, v, L, h4, ⟨h5, hq _ _ h6⟩, h7⟩
theorem oW.of {f f' : JFrame} (k : ∀ (T : State) (locs : List Loc), Stand p l e R s m args below meth c T locs cells slots → ∀ t, Steps p.tables e below (T.setTop f') t → Steps p.tables e below (T.setTop f) t)
    (g : oW p l e R s m args below meth c F n0 h cells slots f') : oW p l e R s m args below meth c F n0 h cells slots f := fun T locs X eT N => by
  obtain ⟨s₂, o, h1, h2⟩ := g T locs X eT N
  exact ⟨s₂, o, k T locs X _ h1, h2⟩
theorem oW.to {f f' : JFrame} (k : ∀ (T : State) (locs : List Loc), Stand p l e R s m args below meth c T locs cells slots → T.heap = h → ∃ T', Stand p l e R s m args below meth c T' locs cells slots ∧ T'.heap = h ∧ ∀ t, Steps p.tables e below (T'.setTop f') t → Steps p.tables e below (T.setTop f) t)
    (g : oW p l e R s m args below meth c F n0 h cells slots f') : oW p l e R s m args below meth c F n0 h cells slots f := fun T locs X eT N => by
  obtain ⟨T', X', eT', k'⟩ := k T locs X eT
  obtain ⟨s₂, o, h1, h2⟩ := g T' locs X' eT' N
  exact ⟨s₂, o, k' _ h1, h2⟩
theorem oIloadN (C : oCx p s m meth c bs ml own nm rt Z) {k : Fin 4} {v : Int32} (hd : decode bs pc = .ok (.iload_n k, 1)) (hl : Ls[k.val]? = some (.val (.int v))) (hq : pc + 1 = q) (g : oW p l e R s m args below meth c F n0 h cells slots (mkF m q Ls (.int v :: st))) : oW p l e R s m args below meth c F n0 h cells slots (mkF m pc Ls (st)) := by
  subst hq; exact oW.of (fun T locs X t k => XS.iloadN X.here C.1 rfl (hb C.2.1 hd) hl k) g
theorem oIload (C : oCx p s m meth c bs ml own nm rt Z) {k : Nat} {v : Int32} (hd : decode bs pc = .ok (.iload k, 2)) (hl : Ls[k]? = some (.val (.int v))) (hq : pc + 2 = q) (g : oW p l e R s m args below meth c F n0 h cells slots (mkF m q Ls (.int v :: st))) : oW p l e R s m args below meth c F n0 h cells slots (mkF m pc Ls (st)) := by
  subst hq; exact oW.of (fun T locs X t k => XS.iload X.here C.1 rfl (hb C.2.1 hd) hl k) g
theorem oAloadN (C : oCx p s m meth c bs ml own nm rt Z) {k : Fin 4} {v : Value} (hd : decode bs pc = .ok (.aload_n k, 1)) (hl : Ls[k.val]? = some (.val v)) (hv : v.isRef = true) (hq : pc + 1 = q) (g : oW p l e R s m args below meth c F n0 h cells slots (mkF m q Ls (v :: st))) : oW p l e R s m args below meth c F n0 h cells slots (mkF m pc Ls (st)) := by
  subst hq; exact oW.of (fun T locs X t k => XS.aloadN X.here C.1 rfl (hb C.2.1 hd) hl hv k) g
theorem oAload (C : oCx p s m meth c bs ml own nm rt Z) {k : Nat} {v : Value} (hd : decode bs pc = .ok (.aload k, 2)) (hl : Ls[k]? = some (.val v)) (hv : v.isRef = true) (hq : pc + 2 = q) (g : oW p l e R s m args below meth c F n0 h cells slots (mkF m q Ls (v :: st))) : oW p l e R s m args below meth c F n0 h cells slots (mkF m pc Ls (st)) := by
  subst hq; exact oW.of (fun T locs X t k => XS.aload X.here C.1 rfl (hb C.2.1 hd) hl hv k) g
theorem oIstoreN (C : oCx p s m meth c bs ml own nm rt Z) {k : Fin 4} {v : Int32} (hd : decode bs pc = .ok (.istore_n k, 1)) (hl : storeLocals Ls k.val (.int v) = some Ls') (hq : pc + 1 = q) (g : oW p l e R s m args below meth c F n0 h cells slots (mkF m q Ls' (st))) : oW p l e R s m args below meth c F n0 h cells slots (mkF m pc Ls (.int v :: st)) := by
  subst hq; exact oW.of (fun T locs X t k => XS.istoreN X.here C.1 rfl (hb C.2.1 hd) rfl hl k) g
theorem oIstore (C : oCx p s m meth c bs ml own nm rt Z) {k : Nat} {v : Int32} (hd : decode bs pc = .ok (.istore k, 2)) (hl : storeLocals Ls k (.int v) = some Ls') (hq : pc + 2 = q) (g : oW p l e R s m args below meth c F n0 h cells slots (mkF m q Ls' (st))) : oW p l e R s m args below meth c F n0 h cells slots (mkF m pc Ls (.int v :: st)) := by
  subst hq; exact oW.of (fun T locs X t k => XS.istore X.here C.1 rfl (hb C.2.1 hd) rfl hl k) g
theorem oAstore (C : oCx p s m meth c bs ml own nm rt Z) {k : Nat} {v : Value} (hd : decode bs pc = .ok (.astore k, 2)) (hv : v.isRef = true) (hl : storeLocals Ls k v = some Ls') (hq : pc + 2 = q) (g : oW p l e R s m args below meth c F n0 h cells slots (mkF m q Ls' (st))) : oW p l e R s m args below meth c F n0 h cells slots (mkF m pc Ls (v :: st)) := by
  subst hq; exact oW.of (fun T locs X t k => XS.astore X.here C.1 rfl (hb C.2.1 hd) rfl hv hl k) g
theorem oIconst (C : oCx p s m meth c bs ml own nm rt Z) {i : Int} {z : Int32} (hd : decode bs pc = .ok (.iconst i, 1)) (hz : Int32.ofInt i = z) (hq : pc + 1 = q) (g : oW p l e R s m args below meth c F n0 h cells slots (mkF m q Ls (.int z :: st))) : oW p l e R s m args below meth c F n0 h cells slots (mkF m pc Ls (st)) := by
  subst hq; exact oW.of (fun T locs X t k => XS.iconst X.here C.1 rfl (hb C.2.1 hd) (hz ▸ k)) g
theorem oBipush (C : oCx p s m meth c bs ml own nm rt Z) {i : Int} {z : Int32} (hd : decode bs pc = .ok (.bipush i, 2)) (hz : (Int8.ofInt i).toInt32 = z) (hq : pc + 2 = q) (g : oW p l e R s m args below meth c F n0 h cells slots (mkF m q Ls (.int z :: st))) : oW p l e R s m args below meth c F n0 h cells slots (mkF m pc Ls (st)) := by
  subst hq; exact oW.of (fun T locs X t k => XS.bipush X.here C.1 rfl (hb C.2.1 hd) (hz ▸ k)) g
theorem oSipush (C : oCx p s m meth c bs ml own nm rt Z) {i : Int} {z : Int32} (hd : decode bs pc = .ok (.sipush i, 3)) (hz : (Int16.ofInt i).toInt32 = z) (hq : pc + 3 = q) (g : oW p l e R s m args below meth c F n0 h cells slots (mkF m q Ls (.int z :: st))) : oW p l e R s m args below meth c F n0 h cells slots (mkF m pc Ls (st)) := by
  subst hq; exact oW.of (fun T locs X t k => XS.sipush X.here C.1 rfl (hb C.2.1 hd) (hz ▸ k)) g
theorem oIadd (C : oCx p s m meth c bs ml own nm rt Z) {x y : Int32} (hd : decode bs pc = .ok (.iadd, 1)) (hq : pc + 1 = q) (g : oW p l e R s m args below meth c F n0 h cells slots (mkF m q Ls (.int (x + y) :: st))) : oW p l e R s m args below meth c F n0 h cells slots (mkF m pc Ls (.int y :: .int x :: st)) := by
  subst hq; exact oW.of (fun T locs X t k => XS.iadd X.here C.1 rfl (hb C.2.1 hd) rfl k) g
theorem oIsub (C : oCx p s m meth c bs ml own nm rt Z) {x y : Int32} (hd : decode bs pc = .ok (.isub, 1)) (hq : pc + 1 = q) (g : oW p l e R s m args below meth c F n0 h cells slots (mkF m q Ls (.int (x - y) :: st))) : oW p l e R s m args below meth c F n0 h cells slots (mkF m pc Ls (.int y :: .int x :: st)) := by
  subst hq; exact oW.of (fun T locs X t k => XS.isub X.here C.1 rfl (hb C.2.1 hd) rfl k) g
theorem oImul (C : oCx p s m meth c bs ml own nm rt Z) {x y : Int32} (hd : decode bs pc = .ok (.imul, 1)) (hq : pc + 1 = q) (g : oW p l e R s m args below meth c F n0 h cells slots (mkF m q Ls (.int (x * y) :: st))) : oW p l e R s m args below meth c F n0 h cells slots (mkF m pc Ls (.int y :: .int x :: st)) := by
  subst hq; exact oW.of (fun T locs X t k => XS.imul X.here C.1 rfl (hb C.2.1 hd) rfl k) g
theorem oIand (C : oCx p s m meth c bs ml own nm rt Z) {x y : Int32} (hd : decode bs pc = .ok (.iand, 1)) (hq : pc + 1 = q) (g : oW p l e R s m args below meth c F n0 h cells slots (mkF m q Ls (.int (x &&& y) :: st))) : oW p l e R s m args below meth c F n0 h cells slots (mkF m pc Ls (.int y :: .int x :: st)) := by
  subst hq; exact oW.of (fun T locs X t k => XS.iand X.here C.1 rfl (hb C.2.1 hd) rfl k) g
theorem oIdiv (C : oCx p s m meth c bs ml own nm rt Z) {x y : Int32} (hd : decode bs pc = .ok (.idiv, 1)) (hy : y ≠ 0) (hq : pc + 1 = q) (g : oW p l e R s m args below meth c F n0 h cells slots (mkF m q Ls (.int (x / y) :: st))) : oW p l e R s m args below meth c F n0 h cells slots (mkF m pc Ls (.int y :: .int x :: st)) := by
  subst hq; exact oW.of (fun T locs X t k => XS.idiv X.here C.1 rfl (hb C.2.1 hd) rfl hy k) g
theorem oIrem (C : oCx p s m meth c bs ml own nm rt Z) {x y : Int32} (hd : decode bs pc = .ok (.irem, 1)) (hy : y ≠ 0) (hq : pc + 1 = q) (g : oW p l e R s m args below meth c F n0 h cells slots (mkF m q Ls (.int (x % y) :: st))) : oW p l e R s m args below meth c F n0 h cells slots (mkF m pc Ls (.int y :: .int x :: st)) := by
  subst hq; exact oW.of (fun T locs X t k => iremM X C.1 rfl (hb C.2.1 hd) rfl hy k) g
theorem oIshr (C : oCx p s m meth c bs ml own nm rt Z) {x y : Int32} (hd : decode bs pc = .ok (.ishr, 1)) (hq : pc + 1 = q) (g : oW p l e R s m args below meth c F n0 h cells slots (mkF m q Ls (.int (x >>> (y &&& 31)) :: st))) : oW p l e R s m args below meth c F n0 h cells slots (mkF m pc Ls (.int y :: .int x :: st)) := by
  subst hq; exact oW.of (fun T locs X t k => XS.ishr X.here C.1 rfl (hb C.2.1 hd) rfl k) g
theorem oI2C (C : oCx p s m meth c bs ml own nm rt Z) {x : Int32} (hd : decode bs pc = .ok (.i2c, 1)) (hq : pc + 1 = q) (g : oW p l e R s m args below meth c F n0 h cells slots (mkF m q Ls (.int (x.toUInt32.toUInt16.toUInt32.toInt32) :: st))) : oW p l e R s m args below meth c F n0 h cells slots (mkF m pc Ls (.int x :: st)) := by
  subst hq; exact oW.of (fun T locs X t k => XS.i2c X.here C.1 rfl (hb C.2.1 hd) rfl k) g
theorem oIinc (C : oCx p s m meth c bs ml own nm rt Z) {k : Nat} {i : Int} {x z w : Int32} (hd : decode bs pc = .ok (.iinc k i, 3)) (hl : Ls[k]? = some (.val (.int x))) (hz : Int32.ofInt i = z) (hw : x + z = w) (hl' : storeLocals Ls k (.int w) = some Ls') (hq : pc + 3 = q) (g : oW p l e R s m args below meth c F n0 h cells slots (mkF m q Ls' (st))) : oW p l e R s m args below meth c F n0 h cells slots (mkF m pc Ls (st)) := by
  subst hq; exact oW.of (fun T locs X t k => XS.iinc X.here C.1 rfl (hb C.2.1 hd) hl (hz ▸ hw ▸ hl') k) g
theorem oGoto (C : oCx p s m meth c bs ml own nm rt Z) {o : Int} (hd : decode bs pc = .ok (.goto o, 3)) (ho : 0 ≤ (pc : Int) + o) (hp : ((pc : Int) + o).toNat = q) (g : oW p l e R s m args below meth c F n0 h cells slots (mkF m q Ls (st))) : oW p l e R s m args below meth c F n0 h cells slots (mkF m pc Ls (st)) :=
  oW.of (fun T locs X t k => XS.goto X.here C.1 rfl (pc0 := pc) rfl (hb C.2.1 hd) ho hp k) g
theorem oIcmp_eq (C : oCx p s m meth c bs ml own nm rt Z) {x y : Int32} {o : Int} {r : Nat} (hd : decode bs pc = .ok (.if_icmp .eq o, 3)) (ho : 0 ≤ (pc : Int) + o) (hp : ((pc : Int) + o).toNat = q) (hr : pc + 3 = r) (gy : x = y → oW p l e R s m args below meth c F n0 h cells slots (mkF m q Ls (st))) (gn : ¬ x = y → oW p l e R s m args below meth c F n0 h cells slots (mkF m r Ls (st))) : oW p l e R s m args below meth c F n0 h cells slots (mkF m pc Ls (.int y :: .int x :: st)) := by
  subst hr
  by_cases hc : x = y
  · exact oW.of (fun T locs X t k => XS.icmpYes X.here C.1 rfl (pc0 := pc) rfl (hb C.2.1 hd) rfl (teq hc).1 ho hp k) (gy hc)
  · exact oW.of (fun T locs X t k => XS.icmpNo X.here C.1 rfl (hb C.2.1 hd) rfl (feq hc).1 k) (gn hc)
theorem oIf_eq (C : oCx p s m meth c bs ml own nm rt Z) {x : Int32} {o : Int} {r : Nat} (hd : decode bs pc = .ok (.ifCond .eq o, 3)) (ho : 0 ≤ (pc : Int) + o) (hp : ((pc : Int) + o).toNat = q) (hr : pc + 3 = r) (gy : x = 0 → oW p l e R s m args below meth c F n0 h cells slots (mkF m q Ls (st))) (gn : ¬ x = 0 → oW p l e R s m args below meth c F n0 h cells slots (mkF m r Ls (st))) : oW p l e R s m args below meth c F n0 h cells slots (mkF m pc Ls (.int x :: st)) := by
  subst hr
  by_cases hc : x = 0
  · exact oW.of (fun T locs X t k => XS.ifYes X.here C.1 rfl (pc0 := pc) rfl (hb C.2.1 hd) rfl ((if0 _ _).trans (teq hc).1) ho hp k) (gy hc)
  · exact oW.of (fun T locs X t k => XS.ifNo X.here C.1 rfl (hb C.2.1 hd) rfl ((if0 _ _).trans (feq hc).1) k) (gn hc)
theorem oIcmp_ne (C : oCx p s m meth c bs ml own nm rt Z) {x y : Int32} {o : Int} {r : Nat} (hd : decode bs pc = .ok (.if_icmp .ne o, 3)) (ho : 0 ≤ (pc : Int) + o) (hp : ((pc : Int) + o).toNat = q) (hr : pc + 3 = r) (gy : ¬ x = y → oW p l e R s m args below meth c F n0 h cells slots (mkF m q Ls (st))) (gn : x = y → oW p l e R s m args below meth c F n0 h cells slots (mkF m r Ls (st))) : oW p l e R s m args below meth c F n0 h cells slots (mkF m pc Ls (.int y :: .int x :: st)) := by
  subst hr
  by_cases hc : x = y
  · exact oW.of (fun T locs X t k => XS.icmpNo X.here C.1 rfl (hb C.2.1 hd) rfl (teq hc).2 k) (gn hc)
  · exact oW.of (fun T locs X t k => XS.icmpYes X.here C.1 rfl (pc0 := pc) rfl (hb C.2.1 hd) rfl (feq hc).2 ho hp k) (gy hc)
theorem oIf_ne (C : oCx p s m meth c bs ml own nm rt Z) {x : Int32} {o : Int} {r : Nat} (hd : decode bs pc = .ok (.ifCond .ne o, 3)) (ho : 0 ≤ (pc : Int) + o) (hp : ((pc : Int) + o).toNat = q) (hr : pc + 3 = r) (gy : ¬ x = 0 → oW p l e R s m args below meth c F n0 h cells slots (mkF m q Ls (st))) (gn : x = 0 → oW p l e R s m args below meth c F n0 h cells slots (mkF m r Ls (st))) : oW p l e R s m args below meth c F n0 h cells slots (mkF m pc Ls (.int x :: st)) := by
  subst hr
  by_cases hc : x = 0
  · exact oW.of (fun T locs X t k => XS.ifNo X.here C.1 rfl (hb C.2.1 hd) rfl ((if0 _ _).trans (teq hc).2) k) (gn hc)
  · exact oW.of (fun T locs X t k => XS.ifYes X.here C.1 rfl (pc0 := pc) rfl (hb C.2.1 hd) rfl ((if0 _ _).trans (feq hc).2) ho hp k) (gy hc)
theorem oIcmp_lt (C : oCx p s m meth c bs ml own nm rt Z) {x y : Int32} {o : Int} {r : Nat} (hd : decode bs pc = .ok (.if_icmp .lt o, 3)) (ho : 0 ≤ (pc : Int) + o) (hp : ((pc : Int) + o).toNat = q) (hr : pc + 3 = r) (gy : x < y → oW p l e R s m args below meth c F n0 h cells slots (mkF m q Ls (st))) (gn : ¬ x < y → oW p l e R s m args below meth c F n0 h cells slots (mkF m r Ls (st))) : oW p l e R s m args below meth c F n0 h cells slots (mkF m pc Ls (.int y :: .int x :: st)) := by
  subst hr
  by_cases hc : x < y
  · exact oW.of (fun T locs X t k => XS.icmpYes X.here C.1 rfl (pc0 := pc) rfl (hb C.2.1 hd) rfl (tlt hc).1 ho hp k) (gy hc)
  · exact oW.of (fun T locs X t k => XS.icmpNo X.here C.1 rfl (hb C.2.1 hd) rfl (flt hc).1 k) (gn hc)
theorem oIf_lt (C : oCx p s m meth c bs ml own nm rt Z) {x : Int32} {o : Int} {r : Nat} (hd : decode bs pc = .ok (.ifCond .lt o, 3)) (ho : 0 ≤ (pc : Int) + o) (hp : ((pc : Int) + o).toNat = q) (hr : pc + 3 = r) (gy : x < 0 → oW p l e R s m args below meth c F n0 h cells slots (mkF m q Ls (st))) (gn : ¬ x < 0 → oW p l e R s m args below meth c F n0 h cells slots (mkF m r Ls (st))) : oW p l e R s m args below meth c F n0 h cells slots (mkF m pc Ls (.int x :: st)) := by
  subst hr
  by_cases hc : x < 0
  · exact oW.of (fun T locs X t k => XS.ifYes X.here C.1 rfl (pc0 := pc) rfl (hb C.2.1 hd) rfl ((if0 _ _).trans (tlt hc).1) ho hp k) (gy hc)
  · exact oW.of (fun T locs X t k => XS.ifNo X.here C.1 rfl (hb C.2.1 hd) rfl ((if0 _ _).trans (flt hc).1) k) (gn hc)
theorem oIcmp_ge (C : oCx p s m meth c bs ml own nm rt Z) {x y : Int32} {o : Int} {r : Nat} (hd : decode bs pc = .ok (.if_icmp .ge o, 3)) (ho : 0 ≤ (pc : Int) + o) (hp : ((pc : Int) + o).toNat = q) (hr : pc + 3 = r) (gy : ¬ x < y → oW p l e R s m args below meth c F n0 h cells slots (mkF m q Ls (st))) (gn : x < y → oW p l e R s m args below meth c F n0 h cells slots (mkF m r Ls (st))) : oW p l e R s m args below meth c F n0 h cells slots (mkF m pc Ls (.int y :: .int x :: st)) := by
  subst hr
  by_cases hc : x < y
  · exact oW.of (fun T locs X t k => XS.icmpNo X.here C.1 rfl (hb C.2.1 hd) rfl (tlt hc).2.1 k) (gn hc)
  · exact oW.of (fun T locs X t k => XS.icmpYes X.here C.1 rfl (pc0 := pc) rfl (hb C.2.1 hd) rfl (flt hc).2.1 ho hp k) (gy hc)
theorem oLdc (C : oCx p s m meth c bs ml own nm rt Z) {i : Nat} {v : Int32} (w : (Jvm.Cond.constant own i v).before a0 Z = true) (hd : decode bs pc = .ok (.ldc i, 2)) (hq : pc + 2 = q) (g : oW p l e R s m args below meth c F n0 h cells slots (mkF m q Ls (.int v :: st))) : oW p l e R s m args below meth c F n0 h cells slots (mkF m pc Ls st) := by
  subst hq; exact oW.of (fun T locs X t k => X.ldcInt C.1 C.2.2.2.1 (mvT C.2.2.2.2.1 w) (g := mkF m pc Ls st) rfl (hb C.2.1 hd) t k) g
section Rets
variable {k n : Nat} {Q : Option Value → Heap → Prop} {rt' : FieldType}
theorem oRetN (C : oCx p s m meth c bs ml own nm (some rt') Z) (ht : rt' = .boolean ∨ rt' = .byte ∨ rt' = .char ∨ rt' = .short) {z z' : Int32} (hd : decode bs pc = .ok (.ireturn, 1)) (hz : nar rt' z = z') (hk : cells ≤ k) (hn : slots ≤ n) (hQ : Q (some (.int z')) h) :
    oW p l e R s m args below meth c (oFin s n0 k n Q) n0 h cells slots (mkF m pc Ls (.int z :: st)) := fun T locs X eT N => by
  subst hz eT
  obtain ⟨fs, hr, hrun, hended, hW, hsame⟩ := X.leave (v := some (.int (nar rt' z))) (fun hh => by rw [C.2.2.2.2.2.2.1] at hh; cases hh) C.2.2.2.2.2.2.2
  exact ⟨_, _, retN X C.1 C.2.2.2.2.2.2.1 ht (hb C.2.1 hd) hr, hrun, hended, _, _, rfl, ⟨N, hQ⟩, ⟨_, rfl⟩, hW, hsame.mono hk hn⟩
theorem oRetZ (C : oCx p s m meth c bs ml own nm (some .boolean) Z) {z z' : Int32} (hd : decode bs pc = .ok (.ireturn, 1)) (hz : nar .boolean z = z') (hk : cells ≤ k) (hn : slots ≤ n) (hQ : Q (some (.int z')) h) :
    oW p l e R s m args below meth c (oFin s n0 k n Q) n0 h cells slots (mkF m pc Ls (.int z :: st)) := oRetN C (Or.inl rfl) hd hz hk hn hQ
theorem oRetC (C : oCx p s m meth c bs ml own nm (some .char) Z) {z z' : Int32} (hd : decode bs pc = .ok (.ireturn, 1)) (hz : nar .char z = z') (hk : cells ≤ k) (hn : slots ≤ n) (hQ : Q (some (.int z')) h) :
    oW p l e R s m args below meth c (oFin s n0 k n Q) n0 h cells slots (mkF m pc Ls (.int z :: st)) := oRetN C (Or.inr (Or.inr (Or.inl rfl))) hd hz hk hn hQ
theorem oRetI (C : oCx p s m meth c bs ml own nm (some .int) Z) {z : Int32} (hd : decode bs pc = .ok (.ireturn, 1)) (hk : cells ≤ k) (hn : slots ≤ n) (hQ : Q (some (.int z)) h) :
    oW p l e R s m args below meth c (oFin s n0 k n Q) n0 h cells slots (mkF m pc Ls (.int z :: st)) := fun T locs X eT N => by
  subst eT
  obtain ⟨fs, hr, hrun, hended, hW, hsame⟩ := X.leave (v := some (.int z)) (fun hh => by rw [C.2.2.2.2.2.2.1] at hh; cases hh) C.2.2.2.2.2.2.2
  exact ⟨_, _, retI X C.1 C.2.2.2.2.2.2.1 (hb C.2.1 hd) hr, hrun, hended, _, _, rfl, ⟨N, hQ⟩, ⟨_, rfl⟩, hW, hsame.mono hk hn⟩
end Rets
section Calls
variable {i : Nat} {y : MethodName} {bs' : ByteArray} {ml' : Nat} {rt' : Option FieldType} {R' : Room} {Q : Option Value → Heap → Prop} {argsL rest : List Value} {ps : List FieldType} {r' : Option FieldType} {W : Nat} {a : Addr}
theorem oCallS (C : oCx p s m meth c bs ml own nm rt Z) (w1 : (Jvm.Cond.methodLink own i y).before a0 Z = true) (w2 : (Jvm.Cond.static y).before a0 Z = true) (w3 : (Jvm.Cond.initialized y.cls).before a0 Z = true) (w4 : (Jvm.Cond.code y bs' ml' rt').before a0 Z = true) (hd : decode bs pc = .ok (.invokestatic i, 3))
    (hy : y.cls ≠ "java/lang/invoke/MethodHandle" ∧ y.cls ≠ "java/lang/invoke/VarHandle") (hpd : parseMethodDescriptor y.desc = some ⟨ps, r'⟩) (hlen : argsL.length = ps.length) (hsz : Ls.size = ml) (hst : argsL.reverse ++ rest = st) (hW : (rest.map fun v => v.category).sum = W) (hq : pc + 3 = q)
    (hf : R'.frames + 1 ≤ R.frames) (hl : W + (ml' + 11) + R'.locals ≤ R.locals) (hc : cells + R'.cells ≤ R.cells) (hs : slots + R'.slots ≤ R.slots)
    (M : oMet l Z y bs' ml' rt' [] R' R'.cells R'.slots n0 argsL.toArray h Q)
    (g : ∀ v h', Q v h' → oW p l e R s m args below meth c F n0 h' (cells + R'.cells) (slots + R'.slots) (mkF m q Ls (v.toList ++ rest))) :
    oW p l e R s m args below meth c F n0 h cells slots (mkF m pc Ls st) := fun T locs X eT N => by
  subst hq hst
  have hZ := C.2.2.2.2.1
  obtain ⟨v, _, ⟨T', L', k', n'⟩, -, X', ⟨Lc, ⟨hN, hQ⟩, l', y', z'⟩, st'⟩ := Jvm.LawKit.callS X C.1 (y := y) C.2.2.2.1 (mvT hZ w1) (mvT hZ w2) (mvT hZ w3) (mvT hZ w4) hy (backOf (W := W) (Q := fun v h L => Fr n0 L ∧ Q v h) M hZ w4 w3 hf hl) (g := mkF m pc Ls (argsL.reverse ++ rest)) rfl (hsz.trans C.2.2.1.symm) (argsL := argsL) (rest := rest) (lenOf hpd hlen) rfl (by show 2 * 0 + _ ≤ _; omega) (hb C.2.1 hd) (fun _ _ => ⟨rfl, eT, hc, hs⟩)
  dsimp only [Pt.U, Pt.locs, Pt.cells, Pt.slots] at X' l' y' z' st' hQ
  subst l' y' z'
  obtain ⟨s₂, o, h1, h2⟩ := g v T'.heap hQ T' _ X' rfl (Fr.app N hN)
  exact ⟨s₂, o, st' _ h1, h2⟩
def oMetH (l : Launch) (Z : State) (y : MethodName) (bs : ByteArray) (ml : Nat) (rt : Option FieldType) (tr : List (Nat × Nat × Nat × Nat)) (R : Room) (k n n0 : Nat) (as' : Array Value) (h0 : Heap) (Q : Option Value → Heap → Prop) : Prop :=
  MetFree l y (head1 [Jvm.Cond.codeWith y bs ml rt tr] R) (fun a U => a = as' ∧ Z.Warmed39 U.vm ∧ U.heap = h0) (fun _ _ _ _ _ => True) (fun _ U o U' => ∃ v L, o = .returned v ∧ (Fr n0 L ∧ Q v U'.heap) ∧ FrameEnd U o U' L k n)
theorem oMetH.intro {tr : List (Nat × Nat × Nat × Nat)} {k n : Nat} {as' : Array Value} {h0 : Heap} (pn : plainFor y = true) (ef : ∀ m, entryFrame m as' ml = mkF m 0 Ls [])
    (body : ∀ (p : Program) (e : Env) (s : State) (m : MethodId) (below : List Frame) (meth : Method) (c : Code), oCx p s m meth c bs ml y.cls y.name rt Z → oW p l e R s m as' below meth c (oFin s n0 k n Q) n0 h0 0 0 (mkF m 0 Ls [])) :
    oMetH l Z y bs ml rt tr R k n n0 as' h0 Q := by
  refine MetFree.of_bodySF pn hisWith ?_
  intro p e s m args below meth c s₁ Bd hml0 hP hK
  obtain ⟨rfl, hZ, hh⟩ := hP
  have e0 : s₁.heap = h0 := by rw [← hh, Bd.state]; rfl
  have C : oCx p s m meth c bs ml y.cls y.name rt Z := ⟨Bd.exec, Bd.bytes, hml0, findClass_of_methodNamed Bd.named, hZ, (name_of_methodNamed Bd.named Bd.method).1, Bd.returns, Bd.notSynchronized⟩
  obtain ⟨s₂, o, h1, h2, h3, h4⟩ := body p e s m below meth c C s₁ [] (Stand.of_body Bd) e0 (Fr.nil n0)
  exact ⟨s₂, o, castTop (ef m) h1, h2, h3, h4⟩
theorem oPureK {w : Value} {hc : Heap} (g : oW p l e R s m args below meth c F n0 hc cells slots (mkF m q Ls (w :: rest))) : ∀ (v : Option Value) (h' : Heap), (v = some w ∧ h' = hc) → oW p l e R s m args below meth c F n0 h' cells slots (mkF m q Ls (v.toList ++ rest)) := by
  rintro _ _ ⟨rfl, rfl⟩; exact g
end Calls
theorem oCastI {z z' : Int32} (hz : z = z') (g : oW p l e R s m args below meth c F n0 h cells slots (mkF m pc Ls (.int z' :: st))) : oW p l e R s m args below meth c F n0 h cells slots (mkF m pc Ls (.int z :: st)) := hz ▸ g
theorem oGetS (C : oCx p s m meth c bs ml own nm rt Z) {i : Nat} {R0 O n d : String} {v : Value} (w : (Jvm.Cond.fieldLink own i R0 n d).before a0 Z = true) (via : Via Z R0 O n d) (Fd : Sta Z h O n d v) (hd : decode bs pc = .ok (.getstatic i, 3)) (hq : pc + 3 = q)
    (g : oW p l e R s m args below meth c F n0 h cells slots (mkF m q Ls (v :: st))) : oW p l e R s m args below meth c F n0 h cells slots (mkF m pc Ls st) := by
  subst hq
  exact oW.to (fun T locs X eT => getS (host := "") X C.1 C.2.2.2.2.1 C.2.2.2.1 w via eT Fd (g := mkF m pc Ls st) rfl (hb C.2.1 hd)) g
def oAr (Z : State) (h : Heap) (a : Addr) (ty : FieldType) (vs : List Value) : Prop := ∃ c : Cell, Arr Z h a c ty ∧ c.slots.toList = vs
section Arrays
variable {a b : Addr} {ty : FieldType} {vs : List Value} {v : Value} {sl : Nat}
theorem oAr.lt (A : oAr Z h a ty vs) : a < h.size := by obtain ⟨c, A, -⟩ := A; exact A.lt
theorem oAr.ext (A : oAr Z h a ty vs) (E : Ext h h') : oAr Z h' a ty vs := by obtain ⟨c, A, r⟩ := A; exact ⟨c, A.ext E, r⟩
theorem oAr.other (A : oAr Z h a ty vs) (W : Wr h h' b sl v) (ne : a ≠ b) : oAr Z h' a ty vs := by obtain ⟨c, A, r⟩ := A; exact ⟨c, A.other W ne, r⟩
theorem oAr.same (A : oAr Z h a ty vs) (W : Wr h h' a sl v) : oAr Z h' a ty (vs.set sl v) := by
  obtain ⟨c, A, r⟩ := A
  exact ⟨_, A.same W, by subst r; simp [Cell.setSlot]⟩
theorem oNe' (h1 : a < h.size) (h2 : h.size ≤ b) : a ≠ b := Nat.ne_of_lt (Nat.lt_of_lt_of_le h1 h2)
theorem oInb {cl : Cell} {j : Int32} {k : Nat} (r : cl.slots.toList = vs) (hj : ¬ j < 0) (hk : j.toNatClampNeg = k) (hv : vs[k]? = some v) : ¬ (j < 0 ∨ cl.slots.size ≤ j.toNatClampNeg) ∧ cl.slots[j.toNatClampNeg]? = some v := by
  subst hk r
  have hlt : j.toNatClampNeg < cl.slots.toList.length := (List.getElem?_eq_some_iff.mp hv).1
  refine ⟨fun q => q.elim hj fun u => ?_, by rw [← hv]; simp⟩
  simp at hlt; omega
end Arrays
def oKe (h0 h : Heap) (ws : List Addr) (fs : List (Addr × Nat)) : Prop := h0.size ≤ h.size ∧ ∀ (x : Addr) (c : Cell), h0[x]? = some c → ∃ c' : Cell, h[x]? = some c' ∧ c'.cls = c.cls ∧ c'.vm = c.vm ∧ c'.slots.size = c.slots.size ∧ (x ∉ ws → ∀ j, (x, j) ∉ fs → c'.slots[j]? = c.slots[j]?)
section Ke
variable {h0 : Heap} {ws ws' : List Addr} {fs fs' : List (Addr × Nat)} {a b : Addr} {sl : Nat} {v : Value} {ty : FieldType} {vs : List Value} {K O n d : String}
theorem oKe.refl (h : Heap) (ws : List Addr) (fs : List (Addr × Nat)) : oKe h h ws fs := ⟨Nat.le_refl _, fun x c q => ⟨c, q, rfl, rfl, rfl, fun _ _ _ => rfl⟩⟩
theorem oKe.trans (A : oKe h0 h ws fs) (B : oKe h h' ws' fs') (q1 : ∀ x ∈ ws', x ∈ ws ∨ h0.size ≤ x) (q2 : ∀ x ∈ fs', x ∈ fs ∨ h0.size ≤ x.1) : oKe h0 h' ws fs := by
  refine ⟨Nat.le_trans A.1 B.1, fun x c hx => ?_⟩
  obtain ⟨c1, e1, e2, e3, e4, e5⟩ := A.2 x c hx
  obtain ⟨c2, g1, g2, g3, g4, g5⟩ := B.2 x c1 e1
  have lt := (Array.getElem?_eq_some_iff.mp hx).1
  refine ⟨c2, g1, g2.trans e2, g3.trans e3, g4.trans e4, fun hn j hj => ?_⟩
  rw [g5 (fun z => (q1 x z).elim hn (fun y => absurd lt (Nat.not_lt.mpr y))) j (fun z => (q2 _ z).elim hj (fun y => absurd lt (Nat.not_lt.mpr y)))]
  exact e5 hn j hj
theorem oKe.of_ext (E : Ext h h') : oKe h h' [] [] := ⟨E.1, fun x c q => ⟨c, E.2 x c q, rfl, rfl, rfl, fun _ _ _ => rfl⟩⟩
theorem oKe.ext (A : oKe h0 h ws fs) (E : Ext h h') : oKe h0 h' ws fs := A.trans (oKe.of_ext E) (fun _ q => nomatch q) (fun _ q => nomatch q)
end Ke
theorem oNewA (C : oCx p s m meth c bs ml own nm rt Z) {aty : ArrayType} {ty : FieldType} {z : Int32} {k : Nat} (w : (Jvm.Cond.arrayClass ty).before a0 Z = true) (hty : newarray.typeOf aty = ty) (hd : decode bs pc = .ok (.newarray aty, 2)) (hq : pc + 2 = q) (hz : ¬ z < 0) (hk : z.toNatClampNeg = k) (hb' : k * 8 ≤ 536870912) (hc : cells + 1 ≤ R.cells) {cap : Nat} (hcap : k ≤ cap) (hcb : cap * 8 ≤ 536870912) (hs : slots + cap ≤ R.slots)
    (g : ∀ (a : Addr) (h' : Heap), a = h.size → Ext h h' → oAr Z h' a ty (List.replicate k (defaultValue ty)) → oW p l e R s m args below meth c F n0 h' (cells + 1) (slots + cap) (mkF m q Ls (.ref a :: st))) :
    oW p l e R s m args below meth c F n0 h cells slots (mkF m pc Ls (.int z :: st)) := fun T locs X eT N => by
  subst hq hty hk
  obtain ⟨T', h', cA, X', e', E', A', st'⟩ := newP X C.1 C.2.2.2.2.1 w eT (g := mkF m pc Ls (.int z :: st)) rfl (hb C.2.1 hd) rfl hz (cap := cap) hcap hcb hc hs
  obtain ⟨s₂, o, h1, h2⟩ := g _ h' rfl E' ⟨_, A', by simp [newA]⟩ T' _ X' e' N
  exact ⟨s₂, o, st' _ h1, h2⟩
theorem oCaload (C : oCx p s m meth c bs ml own nm rt Z) {a : Addr} {vs : List Value} {j : Int32} {k : Nat} {v : Value} (A : oAr Z h a .char vs) (hj : ¬ j < 0) (hk : j.toNatClampNeg = k) (hv : vs[k]? = some v) (hd : decode bs pc = .ok (.caload, 1)) (hq : pc + 1 = q) (g : oW p l e R s m args below meth c F n0 h cells slots (mkF m q Ls (v :: st))) :
    oW p l e R s m args below meth c F n0 h cells slots (mkF m pc Ls (.int j :: .ref a :: st)) := fun T locs X eT N => by
  subst hq
  obtain ⟨cl, A, r⟩ := A
  obtain ⟨i1, i2⟩ := oInb r hj hk hv
  obtain ⟨s₂, o, h1, h2⟩ := g T locs X eT N
  exact ⟨s₂, o, X.caload C.1 (j := j) (v := v) (by rw [eT]; exact A.1) (State.isArrayOf_alike C.2.2.2.2.1.alike A.2.1) A.2.2 i1 i2 (g := mkF m pc Ls (.int j :: .ref a :: st)) rfl rfl (hb C.2.1 hd) _ h1, h2⟩
theorem oCastore (C : oCx p s m meth c bs ml own nm rt Z) {a : Addr} {vs : List Value} {j : Int32} {k : Nat} {v v' : Value} {x : Int32} (A : oAr Z h a .char vs) (hj : ¬ j < 0) (hk : j.toNatClampNeg = k) (hv : vs[k]? = some v) (hx : (.int (nar .char x) : Value) = v') (hd : decode bs pc = .ok (.castore, 1)) (hq : pc + 1 = q) (ha : n0 ≤ a)
    (g : ∀ h', Wr h h' a k v' → oAr Z h' a .char (vs.set k v') → oW p l e R s m args below meth c F n0 h' cells slots (mkF m q Ls (st))) :
    oW p l e R s m args below meth c F n0 h cells slots (mkF m pc Ls (.int x :: .int j :: .ref a :: st)) := fun T locs X eT N => by
  subst hq hx
  obtain ⟨cl, A, r⟩ := A
  obtain ⟨i1, -⟩ := oInb r hj hk hv
  obtain ⟨T', h', X', e', W', st'⟩ := stC X C.1 C.2.2.2.2.1 eT A (j := j) i1 (g := mkF m pc Ls (.int x :: .int j :: .ref a :: st)) rfl rfl (hb C.2.1 hd)
  have W2 : Wr h h' a k (.int (nar .char x)) := hk ▸ W'
  obtain ⟨s₂, o, h1, h2⟩ := g h' W2 (oAr.same ⟨cl, A, r⟩ W2) T' _ X' e' (Fr.snoc X' N ha)
  exact ⟨s₂, o, st' _ h1, h2⟩
end Own
section Own2
variable {p : Program} {l : Launch} {e : Env} {R : Room} {s : State} {m : MethodId} {args : Array Value} {below : List Frame} {meth : Method} {c : Code} {bs : ByteArray} {ml : Nat} {own nm : String} {rt : Option FieldType} {Z : State} {F : State → Outcome → Prop} {n0 : Nat} {h h' : Heap} {cells slots : Nat} {pc q : Nat} {Ls Ls' : Array Slot} {st : List Value} {a0 : Array Value}
section ArraysO
variable {a b : Addr} {K : String} {vs : List Value} {v : Value} {sl : Nat}
end ArraysO
section Stas
variable {K n d : String} {v w : Value} {a : Addr} {sl : Nat}
end Stas
end Own2
abbrev oHw (a0 : Array Value) (Z : State) : Prop := ∀ d ∈ tables_1, d.before a0 Z = true
theorem w0 {a0 : Array Value} {Z : State} (hw : oHw a0 Z) : (Jvm.Cond.constant "com/example/epikrise/epikrise/core/ControlCharactersPutEscapePinLaw" (7 : Nat) (2147483647 : Int32)).before a0 Z = true := hw _ (List.mem_of_getElem? (i := 0) rfl)
theorem w1 {a0 : Array Value} {Z : State} (hw : oHw a0 Z) : (Jvm.Cond.arrayClass Jvm.ClassFile.FieldType.char).before a0 Z = true := hw _ (List.mem_of_getElem? (i := 1) rfl)
theorem w2 {a0 : Array Value} {Z : State} (hw : oHw a0 Z) : (Jvm.Cond.methodLink "com/example/epikrise/epikrise/core/ControlCharactersPutEscapePinLaw" (8 : Nat) ({ cls := "com/example/epikrise/epikrise/core/ControlCharacters", name := "putEscape", desc := "([CIC)I" } : Jvm.MethodName)).before a0 Z = true := hw _ (List.mem_of_getElem? (i := 2) rfl)
theorem w3 {a0 : Array Value} {Z : State} (hw : oHw a0 Z) : (Jvm.Cond.static ({ cls := "com/example/epikrise/epikrise/core/ControlCharacters", name := "putEscape", desc := "([CIC)I" } : Jvm.MethodName)).before a0 Z = true := hw _ (List.mem_of_getElem? (i := 3) rfl)
theorem w4 {a0 : Array Value} {Z : State} (hw : oHw a0 Z) : (Jvm.Cond.initialized "com/example/epikrise/epikrise/core/ControlCharacters").before a0 Z = true := hw _ (List.mem_of_getElem? (i := 4) rfl)
theorem w5 {a0 : Array Value} {Z : State} (hw : oHw a0 Z) : (Jvm.Cond.code ({ cls := "com/example/epikrise/epikrise/core/ControlCharacters", name := "putEscape", desc := "([CIC)I" } : Jvm.MethodName) prog_31_method_4_code (4 : Nat) (Option.some Jvm.ClassFile.FieldType.int)).before a0 Z = true := hw _ (List.mem_of_getElem? (i := 5) rfl)
theorem w6 {a0 : Array Value} {Z : State} (hw : oHw a0 Z) : (Jvm.Cond.fieldLink "com/example/epikrise/epikrise/core/ControlCharacters" (19 : Nat) "com/example/epikrise/epikrise/core/ControlCharacters" "HEX_DIGITS" "[C").before a0 Z = true := hw _ (List.mem_of_getElem? (i := 6) rfl)
theorem w7 {a0 : Array Value} {Z : State} (hw : oHw a0 Z) : (Jvm.Cond.laysStatic "com/example/epikrise/epikrise/core/ControlCharacters" "HEX_DIGITS" "[C").before a0 Z = true := hw _ (List.mem_of_getElem? (i := 7) rfl)
theorem w8 {a0 : Array Value} {Z : State} (hw : oHw a0 Z) : (Jvm.Cond.methodLink "com/example/epikrise/epikrise/core/ControlCharactersPutEscapePinLaw" (14 : Nat) ({ cls := "com/example/epikrise/epikrise/core/ControlCharactersPutEscapePinLaw", name := "check", desc := "([CIIIC)Z" } : Jvm.MethodName)).before a0 Z = true := hw _ (List.mem_of_getElem? (i := 8) rfl)
theorem w9 {a0 : Array Value} {Z : State} (hw : oHw a0 Z) : (Jvm.Cond.static ({ cls := "com/example/epikrise/epikrise/core/ControlCharactersPutEscapePinLaw", name := "check", desc := "([CIIIC)Z" } : Jvm.MethodName)).before a0 Z = true := hw _ (List.mem_of_getElem? (i := 9) rfl)
theorem w10 {a0 : Array Value} {Z : State} (hw : oHw a0 Z) : (Jvm.Cond.initialized "com/example/epikrise/epikrise/core/ControlCharactersPutEscapePinLaw").before a0 Z = true := hw _ (List.mem_of_getElem? (i := 10) rfl)
theorem w11 {a0 : Array Value} {Z : State} (hw : oHw a0 Z) : (Jvm.Cond.code ({ cls := "com/example/epikrise/epikrise/core/ControlCharactersPutEscapePinLaw", name := "check", desc := "([CIIIC)Z" } : Jvm.MethodName) method_3_code (5 : Nat) (Option.some Jvm.ClassFile.FieldType.boolean)).before a0 Z = true := hw _ (List.mem_of_getElem? (i := 11) rfl)
theorem w12 {a0 : Array Value} {Z : State} (hw : oHw a0 Z) : (Jvm.Cond.methodLink "com/example/epikrise/epikrise/core/ControlCharactersPutEscapePinLaw" (20 : Nat) ({ cls := "com/example/epikrise/epikrise/core/ControlCharactersPutEscapePinLaw", name := "expected", desc := "(IIIC)C" } : Jvm.MethodName)).before a0 Z = true := hw _ (List.mem_of_getElem? (i := 12) rfl)
theorem w13 {a0 : Array Value} {Z : State} (hw : oHw a0 Z) : (Jvm.Cond.static ({ cls := "com/example/epikrise/epikrise/core/ControlCharactersPutEscapePinLaw", name := "expected", desc := "(IIIC)C" } : Jvm.MethodName)).before a0 Z = true := hw _ (List.mem_of_getElem? (i := 13) rfl)
theorem w14 {a0 : Array Value} {Z : State} (hw : oHw a0 Z) : (Jvm.Cond.code ({ cls := "com/example/epikrise/epikrise/core/ControlCharactersPutEscapePinLaw", name := "expected", desc := "(IIIC)C" } : Jvm.MethodName) method_4_code (6 : Nat) (Option.some Jvm.ClassFile.FieldType.char)).before a0 Z = true := hw _ (List.mem_of_getElem? (i := 14) rfl)
theorem w15 {a0 : Array Value} {Z : State} (hw : oHw a0 Z) : (Jvm.Cond.methodLink "com/example/epikrise/epikrise/core/ControlCharactersPutEscapePinLaw" (24 : Nat) ({ cls := "com/example/epikrise/epikrise/core/ControlCharactersPutEscapePinLaw", name := "hex", desc := "(I)C" } : Jvm.MethodName)).before a0 Z = true := hw _ (List.mem_of_getElem? (i := 15) rfl)
theorem w16 {a0 : Array Value} {Z : State} (hw : oHw a0 Z) : (Jvm.Cond.static ({ cls := "com/example/epikrise/epikrise/core/ControlCharactersPutEscapePinLaw", name := "hex", desc := "(I)C" } : Jvm.MethodName)).before a0 Z = true := hw _ (List.mem_of_getElem? (i := 16) rfl)
theorem w17 {a0 : Array Value} {Z : State} (hw : oHw a0 Z) : (Jvm.Cond.code ({ cls := "com/example/epikrise/epikrise/core/ControlCharactersPutEscapePinLaw", name := "hex", desc := "(I)C" } : Jvm.MethodName) method_5_code (1 : Nat) (Option.some Jvm.ClassFile.FieldType.char)).before a0 Z = true := hw _ (List.mem_of_getElem? (i := 17) rfl)
theorem ef_4 (m : MethodId) (x0 : Int32) : entryFrame m #[.int x0] 1 = mkF m 0 #[.val (.int x0)] [] := by first | (simp [entryFrame, mkF, argsToLocals, Value.category]; done) | rfl
theorem pn_684866 : plainName "com/example/epikrise/epikrise/core/ControlCharactersPutEscapePinLaw" = true := by first | (simp [plainName, overriddenIn]; done) | decide +kernel
def fHex (n1 : Int32) : Int32 := (if n1 < (10 : Int32) then (nar .char (((48 : Int32) + n1).toUInt32.toUInt16.toUInt32.toInt32)) else (nar .char (((97 : Int32) + (n1 - (10 : Int32))).toUInt32.toUInt16.toUInt32.toInt32)))
theorem fHex_def (n1 : Int32) : fHex n1 = (if n1 < (10 : Int32) then (nar .char (((48 : Int32) + n1).toUInt32.toUInt16.toUInt32.toInt32)) else (nar .char (((97 : Int32) + (n1 - (10 : Int32))).toUInt32.toUInt16.toUInt32.toInt32))) := rfl
theorem d4_0 : decode method_5_code 0 = .ok (.iload_n 0, 1) := by decide +kernel
theorem d4_1 : decode method_5_code 1 = .ok (.bipush 10, 2) := by decide +kernel
theorem d4_3 : decode method_5_code 3 = .ok (.if_icmp .ge 9, 3) := by decide +kernel
theorem d4_6 : decode method_5_code 6 = .ok (.bipush 48, 2) := by decide +kernel
theorem d4_8 : decode method_5_code 8 = .ok (.iload_n 0, 1) := by decide +kernel
theorem d4_9 : decode method_5_code 9 = .ok (.iadd, 1) := by decide +kernel
theorem d4_10 : decode method_5_code 10 = .ok (.i2c, 1) := by decide +kernel
theorem d4_11 : decode method_5_code 11 = .ok (.ireturn, 1) := by decide +kernel
theorem d4_12 : decode method_5_code 12 = .ok (.bipush 97, 2) := by decide +kernel
theorem d4_14 : decode method_5_code 14 = .ok (.iload_n 0, 1) := by decide +kernel
theorem d4_15 : decode method_5_code 15 = .ok (.bipush 10, 2) := by decide +kernel
theorem d4_17 : decode method_5_code 17 = .ok (.isub, 1) := by decide +kernel
theorem d4_18 : decode method_5_code 18 = .ok (.iadd, 1) := by decide +kernel
theorem d4_19 : decode method_5_code 19 = .ok (.i2c, 1) := by decide +kernel
theorem d4_20 : decode method_5_code 20 = .ok (.ireturn, 1) := by decide +kernel
set_option maxRecDepth 65536 in
set_option maxHeartbeats 40000000 in
theorem mt_fHex (l : Launch) (Z : State) (a0 : Array Value) (hw : oHw a0 Z) (h0 : Heap) (n0 : Nat) (Z0 : n0 ≤ h0.size) (n1 : Int32)  :
    oMet l Z (⟨"com/example/epikrise/epikrise/core/ControlCharactersPutEscapePinLaw", "hex", "(I)C"⟩ : MethodName) method_5_code 1 (some .char) [] ({ frames := 0, cells := 0, slots := 0, locals := 0 } : Room) 0 0 n0 #[.int n1] h0 (fun v h => v = some (.int (fHex n1)) ∧ h = h0) := by
  refine oMet.intro (plainFor_of_name pn_684866) (fun m => ef_4 m n1) ?_
  intro op oe os m obl omt ocd C
  refine oIloadN C d4_0 rfl rfl ?_
  refine oBipush C d4_1 (z := 10) rfl rfl ?_
  refine oIcmp_ge C d4_3 (q := 12) (by decide) (by decide) (r := 6) rfl (fun hc3 => ?_) (fun hc3 => ?_)
  ·
   refine oBipush C d4_12 (z := 97) rfl rfl ?_
   refine oIloadN C d4_14 rfl rfl ?_
   refine oBipush C d4_15 (z := 10) rfl rfl ?_
   refine oIsub C d4_17 rfl ?_
   refine oIadd C d4_18 rfl ?_
   refine oI2C C d4_19 rfl ?_
   refine oRetC C d4_20 (z' := (nar .char (((97 : Int32) + (n1 - (10 : Int32))).toUInt32.toUInt16.toUInt32.toInt32))) rfl (by decide) (by decide) ?_
   exact ⟨by rw [fHex_def, if_neg hc3], rfl⟩
  ·
   refine oBipush C d4_6 (z := 48) rfl rfl ?_
   refine oIloadN C d4_8 rfl rfl ?_
   refine oIadd C d4_9 rfl ?_
   refine oI2C C d4_10 rfl ?_
   refine oRetC C d4_11 (z' := (nar .char (((48 : Int32) + n1).toUInt32.toUInt16.toUInt32.toInt32))) rfl (by decide) (by decide) ?_
   exact ⟨by rw [fHex_def, if_pos hc3], rfl⟩
theorem ef_3 (m : MethodId) (x0 : Int32) (x1 : Int32) (x2 : Int32) (x3 : Int32) : entryFrame m #[.int x0, .int x1, .int x2, .int x3] 6 = mkF m 0 #[.val (.int x0), .val (.int x1), .val (.int x2), .val (.int x3), .unset, .unset] [] := by first | (simp [entryFrame, mkF, argsToLocals, Value.category]; done) | rfl
theorem pd_674822 : parseMethodDescriptor "(I)C" = some ⟨[.int], some .char⟩ := by decide +kernel
def fExp (ix : Int32) (aa : Int32) (co : Int32) (fi : Int32) : Int32 := (if (ix - aa) < 0 then (nar .char fi) else (if (ix - aa) < (6 : Int32) then (if (ix - aa) = 0 then (92 : Int32) else (if (ix - aa) = (1 : Int32) then (117 : Int32) else (if (ix - aa) = (2 : Int32) then (nar .char (fHex (co / (4096 : Int32)))) else (if (ix - aa) = (3 : Int32) then (nar .char (fHex ((co / (256 : Int32)) % (16 : Int32)))) else (if (ix - aa) = (4 : Int32) then (nar .char (fHex ((co / (16 : Int32)) % (16 : Int32)))) else (nar .char (fHex (co % (16 : Int32))))))))) else (nar .char fi)))
theorem fExp_def (ix : Int32) (aa : Int32) (co : Int32) (fi : Int32) : fExp ix aa co fi = (if (ix - aa) < 0 then (nar .char fi) else (if (ix - aa) < (6 : Int32) then (if (ix - aa) = 0 then (92 : Int32) else (if (ix - aa) = (1 : Int32) then (117 : Int32) else (if (ix - aa) = (2 : Int32) then (nar .char (fHex (co / (4096 : Int32)))) else (if (ix - aa) = (3 : Int32) then (nar .char (fHex ((co / (256 : Int32)) % (16 : Int32)))) else (if (ix - aa) = (4 : Int32) then (nar .char (fHex ((co / (16 : Int32)) % (16 : Int32)))) else (nar .char (fHex (co % (16 : Int32))))))))) else (nar .char fi))) := rfl
theorem d3_0 : decode method_4_code 0 = .ok (.iload_n 0, 1) := by decide +kernel
theorem d3_1 : decode method_4_code 1 = .ok (.iload_n 1, 1) := by decide +kernel
theorem d3_2 : decode method_4_code 2 = .ok (.isub, 1) := by decide +kernel
theorem d3_3 : decode method_4_code 3 = .ok (.istore 4, 2) := by decide +kernel
theorem d3_5 : decode method_4_code 5 = .ok (.iload 4, 2) := by decide +kernel
theorem d3_7 : decode method_4_code 7 = .ok (.ifCond .lt 10, 3) := by decide +kernel
theorem d3_10 : decode method_4_code 10 = .ok (.iload 4, 2) := by decide +kernel
theorem d3_12 : decode method_4_code 12 = .ok (.bipush 6, 2) := by decide +kernel
theorem d3_14 : decode method_4_code 14 = .ok (.if_icmp .lt 5, 3) := by decide +kernel
theorem d3_17 : decode method_4_code 17 = .ok (.iload_n 3, 1) := by decide +kernel
theorem d3_18 : decode method_4_code 18 = .ok (.ireturn, 1) := by decide +kernel
theorem d3_19 : decode method_4_code 19 = .ok (.iload 4, 2) := by decide +kernel
theorem d3_21 : decode method_4_code 21 = .ok (.ifCond .ne 6, 3) := by decide +kernel
theorem d3_24 : decode method_4_code 24 = .ok (.bipush 92, 2) := by decide +kernel
theorem d3_26 : decode method_4_code 26 = .ok (.ireturn, 1) := by decide +kernel
theorem d3_27 : decode method_4_code 27 = .ok (.iload 4, 2) := by decide +kernel
theorem d3_29 : decode method_4_code 29 = .ok (.iconst 1, 1) := by decide +kernel
theorem d3_30 : decode method_4_code 30 = .ok (.if_icmp .ne 6, 3) := by decide +kernel
theorem d3_33 : decode method_4_code 33 = .ok (.bipush 117, 2) := by decide +kernel
theorem d3_35 : decode method_4_code 35 = .ok (.ireturn, 1) := by decide +kernel
theorem d3_36 : decode method_4_code 36 = .ok (.iload 4, 2) := by decide +kernel
theorem d3_38 : decode method_4_code 38 = .ok (.iconst 2, 1) := by decide +kernel
theorem d3_39 : decode method_4_code 39 = .ok (.if_icmp .ne 13, 3) := by decide +kernel
theorem d3_42 : decode method_4_code 42 = .ok (.iload_n 2, 1) := by decide +kernel
theorem d3_43 : decode method_4_code 43 = .ok (.sipush 4096, 3) := by decide +kernel
theorem d3_46 : decode method_4_code 46 = .ok (.idiv, 1) := by decide +kernel
theorem d3_47 : decode method_4_code 47 = .ok (.istore 5, 2) := by decide +kernel
theorem d3_49 : decode method_4_code 49 = .ok (.goto 46, 3) := by decide +kernel
theorem d3_52 : decode method_4_code 52 = .ok (.iload 4, 2) := by decide +kernel
theorem d3_54 : decode method_4_code 54 = .ok (.iconst 3, 1) := by decide +kernel
theorem d3_55 : decode method_4_code 55 = .ok (.if_icmp .ne 16, 3) := by decide +kernel
theorem d3_58 : decode method_4_code 58 = .ok (.iload_n 2, 1) := by decide +kernel
theorem d3_59 : decode method_4_code 59 = .ok (.sipush 256, 3) := by decide +kernel
theorem d3_62 : decode method_4_code 62 = .ok (.idiv, 1) := by decide +kernel
theorem d3_63 : decode method_4_code 63 = .ok (.bipush 16, 2) := by decide +kernel
theorem d3_65 : decode method_4_code 65 = .ok (.irem, 1) := by decide +kernel
theorem d3_66 : decode method_4_code 66 = .ok (.istore 5, 2) := by decide +kernel
theorem d3_68 : decode method_4_code 68 = .ok (.goto 27, 3) := by decide +kernel
theorem d3_71 : decode method_4_code 71 = .ok (.iload 4, 2) := by decide +kernel
theorem d3_73 : decode method_4_code 73 = .ok (.iconst 4, 1) := by decide +kernel
theorem d3_74 : decode method_4_code 74 = .ok (.if_icmp .ne 15, 3) := by decide +kernel
theorem d3_77 : decode method_4_code 77 = .ok (.iload_n 2, 1) := by decide +kernel
theorem d3_78 : decode method_4_code 78 = .ok (.bipush 16, 2) := by decide +kernel
theorem d3_80 : decode method_4_code 80 = .ok (.idiv, 1) := by decide +kernel
theorem d3_81 : decode method_4_code 81 = .ok (.bipush 16, 2) := by decide +kernel
theorem d3_83 : decode method_4_code 83 = .ok (.irem, 1) := by decide +kernel
theorem d3_84 : decode method_4_code 84 = .ok (.istore 5, 2) := by decide +kernel
theorem d3_86 : decode method_4_code 86 = .ok (.goto 9, 3) := by decide +kernel
theorem d3_89 : decode method_4_code 89 = .ok (.iload_n 2, 1) := by decide +kernel
theorem d3_90 : decode method_4_code 90 = .ok (.bipush 16, 2) := by decide +kernel
theorem d3_92 : decode method_4_code 92 = .ok (.irem, 1) := by decide +kernel
theorem d3_93 : decode method_4_code 93 = .ok (.istore 5, 2) := by decide +kernel
theorem d3_95 : decode method_4_code 95 = .ok (.iload 5, 2) := by decide +kernel
theorem d3_97 : decode method_4_code 97 = .ok (.invokestatic 24, 3) := by decide +kernel
theorem d3_100 : decode method_4_code 100 = .ok (.ireturn, 1) := by decide +kernel
set_option maxRecDepth 65536 in
set_option maxHeartbeats 40000000 in
theorem mt_fExp (l : Launch) (Z : State) (a0 : Array Value) (hw : oHw a0 Z) (h0 : Heap) (n0 : Nat) (Z0 : n0 ≤ h0.size) (ix : Int32) (aa : Int32) (co : Int32) (fi : Int32)  :
    oMet l Z (⟨"com/example/epikrise/epikrise/core/ControlCharactersPutEscapePinLaw", "expected", "(IIIC)C"⟩ : MethodName) method_4_code 6 (some .char) [] ({ frames := 1, cells := 0, slots := 0, locals := 12 } : Room) 0 0 n0 #[.int ix, .int aa, .int co, .int fi] h0 (fun v h => v = some (.int (fExp ix aa co fi)) ∧ h = h0) := by
  refine oMet.intro (plainFor_of_name pn_684866) (fun m => ef_3 m ix aa co fi) ?_
  intro op oe os m obl omt ocd C
  refine oIloadN C d3_0 rfl rfl ?_
  refine oIloadN C d3_1 rfl rfl ?_
  refine oIsub C d3_2 rfl ?_
  refine oIstore C d3_3 (Ls' := #[.val (.int ix), .val (.int aa), .val (.int co), .val (.int fi), .val (.int (ix - aa)), .unset]) rfl (q := 5) rfl ?_
  refine oIload C d3_5 rfl rfl ?_
  refine oIf_lt C d3_7 (q := 17) (by decide) (by decide) (r := 10) rfl (fun hc7 => ?_) (fun hc7 => ?_)
  ·
   refine oIloadN C d3_17 rfl rfl ?_
   refine oRetC C d3_18 (z' := (nar .char fi)) rfl (by decide) (by decide) ?_
   exact ⟨by rw [fExp_def, if_pos hc7], rfl⟩
  ·
   refine oIload C d3_10 rfl rfl ?_
   refine oBipush C d3_12 (z := 6) rfl rfl ?_
   refine oIcmp_lt C d3_14 (q := 19) (by decide) (by decide) (r := 17) rfl (fun hc14 => ?_) (fun hc14 => ?_)
   ·
    refine oIload C d3_19 rfl rfl ?_
    refine oIf_ne C d3_21 (q := 27) (by decide) (by decide) (r := 24) rfl (fun hc21 => ?_) (fun hc21 => ?_)
    ·
     refine oIload C d3_27 rfl rfl ?_
     refine oIconst C d3_29 (z := 1) rfl rfl ?_
     refine oIcmp_ne C d3_30 (q := 36) (by decide) (by decide) (r := 33) rfl (fun hc30 => ?_) (fun hc30 => ?_)
     ·
      refine oIload C d3_36 rfl rfl ?_
      refine oIconst C d3_38 (z := 2) rfl rfl ?_
      refine oIcmp_ne C d3_39 (q := 52) (by decide) (by decide) (r := 42) rfl (fun hc39 => ?_) (fun hc39 => ?_)
      ·
       refine oIload C d3_52 rfl rfl ?_
       refine oIconst C d3_54 (z := 3) rfl rfl ?_
       refine oIcmp_ne C d3_55 (q := 71) (by decide) (by decide) (r := 58) rfl (fun hc55 => ?_) (fun hc55 => ?_)
       ·
        refine oIload C d3_71 rfl rfl ?_
        refine oIconst C d3_73 (z := 4) rfl rfl ?_
        refine oIcmp_ne C d3_74 (q := 89) (by decide) (by decide) (r := 77) rfl (fun hc74 => ?_) (fun hc74 => ?_)
        ·
         refine oIloadN C d3_89 rfl rfl ?_
         refine oBipush C d3_90 (z := 16) rfl rfl ?_
         refine oIrem C d3_92 (by decide) rfl ?_
         refine oIstore C d3_93 (Ls' := #[.val (.int ix), .val (.int aa), .val (.int co), .val (.int fi), .val (.int (ix - aa)), .val (.int (co % (16 : Int32)))]) rfl (q := 95) rfl ?_
         refine oIload C d3_95 rfl rfl ?_
         refine oCallS C (w15 hw) (w16 hw) (w10 hw) (w17 hw) d3_97 (by decide) pd_674822 rfl rfl (argsL := [.int (co % (16 : Int32))]) (rest := []) rfl (W := 0) rfl (q := 100) rfl (by decide) (by decide) (by decide) (by decide) (mt_fHex l Z a0 hw _ n0 Z0 (co % (16 : Int32)) ) (oPureK ?_)
         refine oRetC C d3_100 (z' := (nar .char (fHex (co % (16 : Int32))))) rfl (by decide) (by decide) ?_
         exact ⟨by rw [fExp_def, if_neg hc7, if_pos hc14, if_neg hc21, if_neg hc30, if_neg hc39, if_neg hc55, if_neg hc74], rfl⟩
        ·
         refine oIloadN C d3_77 rfl rfl ?_
         refine oBipush C d3_78 (z := 16) rfl rfl ?_
         refine oIdiv C d3_80 (by decide) rfl ?_
         refine oBipush C d3_81 (z := 16) rfl rfl ?_
         refine oIrem C d3_83 (by decide) rfl ?_
         refine oIstore C d3_84 (Ls' := #[.val (.int ix), .val (.int aa), .val (.int co), .val (.int fi), .val (.int (ix - aa)), .val (.int ((co / (16 : Int32)) % (16 : Int32)))]) rfl (q := 86) rfl ?_
         refine oGoto C d3_86 (q := 95) (by decide) (by decide) ?_
         refine oIload C d3_95 rfl rfl ?_
         refine oCallS C (w15 hw) (w16 hw) (w10 hw) (w17 hw) d3_97 (by decide) pd_674822 rfl rfl (argsL := [.int ((co / (16 : Int32)) % (16 : Int32))]) (rest := []) rfl (W := 0) rfl (q := 100) rfl (by decide) (by decide) (by decide) (by decide) (mt_fHex l Z a0 hw _ n0 Z0 ((co / (16 : Int32)) % (16 : Int32)) ) (oPureK ?_)
         refine oRetC C d3_100 (z' := (nar .char (fHex ((co / (16 : Int32)) % (16 : Int32))))) rfl (by decide) (by decide) ?_
         exact ⟨by rw [fExp_def, if_neg hc7, if_pos hc14, if_neg hc21, if_neg hc30, if_neg hc39, if_neg hc55, if_pos hc74], rfl⟩
       ·
        refine oIloadN C d3_58 rfl rfl ?_
        refine oSipush C d3_59 (z := 256) rfl rfl ?_
        refine oIdiv C d3_62 (by decide) rfl ?_
        refine oBipush C d3_63 (z := 16) rfl rfl ?_
        refine oIrem C d3_65 (by decide) rfl ?_
        refine oIstore C d3_66 (Ls' := #[.val (.int ix), .val (.int aa), .val (.int co), .val (.int fi), .val (.int (ix - aa)), .val (.int ((co / (256 : Int32)) % (16 : Int32)))]) rfl (q := 68) rfl ?_
        refine oGoto C d3_68 (q := 95) (by decide) (by decide) ?_
        refine oIload C d3_95 rfl rfl ?_
        refine oCallS C (w15 hw) (w16 hw) (w10 hw) (w17 hw) d3_97 (by decide) pd_674822 rfl rfl (argsL := [.int ((co / (256 : Int32)) % (16 : Int32))]) (rest := []) rfl (W := 0) rfl (q := 100) rfl (by decide) (by decide) (by decide) (by decide) (mt_fHex l Z a0 hw _ n0 Z0 ((co / (256 : Int32)) % (16 : Int32)) ) (oPureK ?_)
        refine oRetC C d3_100 (z' := (nar .char (fHex ((co / (256 : Int32)) % (16 : Int32))))) rfl (by decide) (by decide) ?_
        exact ⟨by rw [fExp_def, if_neg hc7, if_pos hc14, if_neg hc21, if_neg hc30, if_neg hc39, if_pos hc55], rfl⟩
      ·
       refine oIloadN C d3_42 rfl rfl ?_
       refine oSipush C d3_43 (z := 4096) rfl rfl ?_
       refine oIdiv C d3_46 (by decide) rfl ?_
       refine oIstore C d3_47 (Ls' := #[.val (.int ix), .val (.int aa), .val (.int co), .val (.int fi), .val (.int (ix - aa)), .val (.int (co / (4096 : Int32)))]) rfl (q := 49) rfl ?_
       refine oGoto C d3_49 (q := 95) (by decide) (by decide) ?_
       refine oIload C d3_95 rfl rfl ?_
       refine oCallS C (w15 hw) (w16 hw) (w10 hw) (w17 hw) d3_97 (by decide) pd_674822 rfl rfl (argsL := [.int (co / (4096 : Int32))]) (rest := []) rfl (W := 0) rfl (q := 100) rfl (by decide) (by decide) (by decide) (by decide) (mt_fHex l Z a0 hw _ n0 Z0 (co / (4096 : Int32)) ) (oPureK ?_)
       refine oRetC C d3_100 (z' := (nar .char (fHex (co / (4096 : Int32))))) rfl (by decide) (by decide) ?_
       exact ⟨by rw [fExp_def, if_neg hc7, if_pos hc14, if_neg hc21, if_neg hc30, if_pos hc39], rfl⟩
     ·
      refine oBipush C d3_33 (z := 117) rfl rfl ?_
      refine oRetC C d3_35 (z' := (117 : Int32)) rfl (by decide) (by decide) ?_
      exact ⟨by rw [fExp_def, if_neg hc7, if_pos hc14, if_neg hc21, if_pos hc30], rfl⟩
    ·
     refine oBipush C d3_24 (z := 92) rfl rfl ?_
     refine oRetC C d3_26 (z' := (92 : Int32)) rfl (by decide) (by decide) ?_
     exact ⟨by rw [fExp_def, if_neg hc7, if_pos hc14, if_pos hc21], rfl⟩
   ·
    refine oIloadN C d3_17 rfl rfl ?_
    refine oRetC C d3_18 (z' := (nar .char fi)) rfl (by decide) (by decide) ?_
    exact ⟨by rw [fExp_def, if_neg hc7, if_neg hc14], rfl⟩
def fChk (w ix aa co fi : Int32) : Int32 := if w = fExp ix aa co fi then 1 else 0
theorem ef_2 (m : MethodId) (x0 : Addr) (x1 : Int32) (x2 : Int32) (x3 : Int32) (x4 : Int32) : entryFrame m #[.ref x0, .int x1, .int x2, .int x3, .int x4] 5 = mkF m 0 #[.val (.ref x0), .val (.int x1), .val (.int x2), .val (.int x3), .val (.int x4)] [] := by first | (simp [entryFrame, mkF, argsToLocals, Value.category]; done) | rfl
theorem pd_326560 : parseMethodDescriptor "(IIIC)C" = some ⟨[.int, .int, .int, .char], some .char⟩ := by decide +kernel
theorem d2_0 : decode method_3_code 0 = .ok (.aload_n 0, 1) := by decide +kernel
theorem d2_1 : decode method_3_code 1 = .ok (.iload_n 1, 1) := by decide +kernel
theorem d2_2 : decode method_3_code 2 = .ok (.caload, 1) := by decide +kernel
theorem d2_3 : decode method_3_code 3 = .ok (.iload_n 1, 1) := by decide +kernel
theorem d2_4 : decode method_3_code 4 = .ok (.iload_n 2, 1) := by decide +kernel
theorem d2_5 : decode method_3_code 5 = .ok (.iload_n 3, 1) := by decide +kernel
theorem d2_6 : decode method_3_code 6 = .ok (.iload 4, 2) := by decide +kernel
theorem d2_8 : decode method_3_code 8 = .ok (.invokestatic 20, 3) := by decide +kernel
theorem d2_11 : decode method_3_code 11 = .ok (.if_icmp .ne 7, 3) := by decide +kernel
theorem d2_14 : decode method_3_code 14 = .ok (.iconst 1, 1) := by decide +kernel
theorem d2_15 : decode method_3_code 15 = .ok (.goto 4, 3) := by decide +kernel
theorem d2_18 : decode method_3_code 18 = .ok (.iconst 0, 1) := by decide +kernel
theorem d2_19 : decode method_3_code 19 = .ok (.ireturn, 1) := by decide +kernel
set_option maxRecDepth 65536 in
set_option maxHeartbeats 40000000 in
theorem mt_chk (l : Launch) (Z : State) (a0 : Array Value) (hw : oHw a0 Z) (h0 : Heap) (n0 : Nat) (Z0 : n0 ≤ h0.size) (b : Addr) (ix aa co fi : Int32) (vs : List Value) (w : Int32) (kk : Nat) (A_b : oAr Z h0 b .char vs) (hj : ¬ ix < 0) (hk : ix.toNatClampNeg = kk) (hv : vs[kk]? = some (.int w)) :
    oMet l Z (⟨"com/example/epikrise/epikrise/core/ControlCharactersPutEscapePinLaw", "check", "([CIIIC)Z"⟩ : MethodName) method_3_code 5 (some .boolean) [] ({ frames := 2, cells := 0, slots := 0, locals := 30 } : Room) 0 0 n0 #[.ref b, .int ix, .int aa, .int co, .int fi] h0 (fun v h => v = some (.int (fChk w ix aa co fi)) ∧ h = h0) := by
  refine oMet.intro (plainFor_of_name pn_684866) (fun m => ef_2 m b ix aa co fi) ?_
  intro op oe os m obl omt ocd C
  refine oAloadN C d2_0 rfl rfl rfl ?_
  refine oIloadN C d2_1 rfl rfl ?_
  refine oCaload C A_b hj (k := kk) hk (v := .int w) hv d2_2 rfl ?_
  refine oIloadN C d2_3 rfl rfl ?_
  refine oIloadN C d2_4 rfl rfl ?_
  refine oIloadN C d2_5 rfl rfl ?_
  refine oIload C d2_6 rfl rfl ?_
  refine oCallS C (w12 hw) (w13 hw) (w10 hw) (w14 hw) d2_8 (by decide) pd_326560 rfl rfl (argsL := [.int ix, .int aa, .int co, .int fi]) (rest := [.int w]) rfl (W := 1) rfl (q := 11) rfl (by decide) (by decide) (by decide) (by decide) (mt_fExp l Z a0 hw _ n0 Z0 ix aa co fi ) (oPureK ?_)
  refine oIcmp_ne C d2_11 (q := 18) (by decide) (by decide) (r := 14) rfl (fun hc11 => ?_) (fun hc11 => ?_)
  ·
   refine oIconst C d2_18 (z := 0) rfl rfl ?_
   refine oRetZ C d2_19 (z' := (0 : Int32)) rfl (by decide) (by decide) ?_
   exact ⟨by rw [show fChk w ix aa co fi = if w = fExp ix aa co fi then 1 else 0 from rfl, if_neg hc11], rfl⟩
  ·
   refine oIconst C d2_14 (z := 1) rfl rfl ?_
   refine oGoto C d2_15 (q := 19) (by decide) (by decide) ?_
   refine oRetZ C d2_19 (z' := (1 : Int32)) rfl (by decide) (by decide) ?_
   exact ⟨by rw [show fChk w ix aa co fi = if w = fExp ix aa co fi then 1 else 0 from rfl, if_pos hc11], rfl⟩
def hexv (k : Int32) : Int32 := if k < 10 then k + 48 else k + 87
def oHEX : List Value := [.int 48, .int 49, .int 50, .int 51, .int 52, .int 53, .int 54, .int 55, .int 56, .int 57, .int 97, .int 98, .int 99, .int 100, .int 101, .int 102]
def hxd (j : Int32) (ch : Int32) : Int32 := hexv ((ch >>> (j &&& 31)) &&& (15 : Int32))
theorem own_16 (k : Int32) (h0 : 0 ≤ k.toInt) (h1 : k.toInt ≤ 15) : k = 0 ∨ k = 1 ∨ k = 2 ∨ k = 3 ∨ k = 4 ∨ k = 5 ∨ k = 6 ∨ k = 7 ∨ k = 8 ∨ k = 9 ∨ k = 10 ∨ k = 11 ∨ k = 12 ∨ k = 13 ∨ k = 14 ∨ k = 15 := by
  simp only [← Int32.toInt_inj, Int32.reduceToInt]; omega
theorem own_idx (x : Int32) : 0 ≤ (x &&& (15 : Int32)).toInt ∧ (x &&& (15 : Int32)).toInt ≤ 15 := by
  rw [c_mask x 15 4 (by decide) (by decide)]; omega
theorem own_nn (x : Int32) : ¬ (x &&& (15 : Int32)) < 0 := by
  have h := own_idx x; rw [Int32.lt_iff_toInt_lt, show (0 : Int32).toInt = 0 from rfl]; omega
theorem own_hexat (j ch : Int32) : oHEX[((ch >>> (j &&& 31)) &&& (15 : Int32)).toNatClampNeg]? = some (.int (hxd j ch)) := by
  obtain ⟨h0, h1⟩ := own_idx (ch >>> (j &&& 31))
  unfold hxd
  generalize ((ch >>> (j &&& 31)) &&& (15 : Int32)) = k at *
  rcases own_16 k h0 h1 with rfl | rfl | rfl | rfl | rfl | rfl | rfl | rfl | rfl | rfl | rfl | rfl | rfl | rfl | rfl | rfl <;> rfl
theorem own_hexn (k : Int32) (h0 : 0 ≤ k.toInt) (h1 : k.toInt ≤ 15) : nar .char (hexv k) = hexv k ∧ hexv k = nar .char (fHex k) := by
  rcases own_16 k h0 h1 with rfl | rfl | rfl | rfl | rfl | rfl | rfl | rfl | rfl | rfl | rfl | rfl | rfl | rfl | rfl | rfl <;> exact ⟨by decide, by decide⟩
theorem own_hxn (j ch : Int32) : nar .char (hxd j ch) = hxd j ch := (own_hexn _ (own_idx _).1 (own_idx _).2).1
theorem own_dig (j ch n : Int32) (h : ((ch >>> (j &&& 31)) &&& (15 : Int32)).toInt = n.toInt) : hxd j ch = nar .char (fHex n) := by
  have e := Int32.toInt_inj.mp h
  unfold hxd; rw [e]
  have q := own_idx (ch >>> (j &&& 31)); rw [e] at q
  exact (own_hexn n q.1 q.2).2
theorem own_sh (j ch : Int32) (k : Nat) (hk : j.toBitVec.toNat % 32 = k) : ((ch >>> (j &&& 31)) &&& (15 : Int32)).toInt = (ch.toInt / (2 ^ k : Nat)) % 16 := by
  rw [c_mask _ 15 4 (by decide) (by decide), c_ishr ch j k hk]; rfl
theorem own_d2 {ch : Int32} (r : 0 ≤ ch.toInt ∧ ch.toInt < 65536) : hxd 12 ch = nar .char (fHex (ch / (4096 : Int32))) := by
  refine own_dig _ _ _ ?_
  rw [own_sh 12 ch 12 (by decide), (c_idiv ch 4096 4096 rfl (by decide)).1 r.1]; omega
theorem own_d3 {ch : Int32} (r : 0 ≤ ch.toInt ∧ ch.toInt < 65536) : hxd 8 ch = nar .char (fHex ((ch / (256 : Int32)) % (16 : Int32))) := by
  refine own_dig _ _ _ ?_
  have e := (c_idiv ch 256 256 rfl (by decide)).1 r.1
  rw [own_sh 8 ch 8 (by decide), (c_irem (ch / 256) 16 16 rfl).1 (by rw [e]; omega), e]; omega
theorem own_d4 {ch : Int32} (r : 0 ≤ ch.toInt ∧ ch.toInt < 65536) : hxd 4 ch = nar .char (fHex ((ch / (16 : Int32)) % (16 : Int32))) := by
  refine own_dig _ _ _ ?_
  have e := (c_idiv ch 16 16 rfl (by decide)).1 r.1
  rw [own_sh 4 ch 4 (by decide), (c_irem (ch / 16) 16 16 rfl).1 (by rw [e]; omega), e]; omega
theorem own_d5 {ch : Int32} (r : 0 ≤ ch.toInt ∧ ch.toInt < 65536) : hxd 0 ch = nar .char (fHex (ch % (16 : Int32))) := by
  refine own_dig _ _ _ ?_
  rw [own_sh 0 ch 0 (by decide), (c_irem ch 16 16 rfl).1 r.1]; omega
theorem own_idem (x : Int32) : nar .char (x.toUInt32.toUInt16.toUInt32.toInt32) = x.toUInt32.toUInt16.toUInt32.toInt32 := by
  show (x.toUInt32.toUInt16.toUInt32.toInt32).toUInt32.toUInt16.toUInt32.toInt32 = _
  have a := c_i2c x
  have b := c_i2c (x.toUInt32.toUInt16.toUInt32.toInt32)
  rw [← Int32.toInt_inj]; omega
theorem own_at (x : Int32) : ((x &&& (2147483647 : Int32)) % (5 : Int32)) = 0 ∨ ((x &&& (2147483647 : Int32)) % (5 : Int32)) = 1 ∨ ((x &&& (2147483647 : Int32)) % (5 : Int32)) = 2 ∨ ((x &&& (2147483647 : Int32)) % (5 : Int32)) = 3 ∨ ((x &&& (2147483647 : Int32)) % (5 : Int32)) = 4 := by
  have e1 := c_mask x 2147483647 31 (by decide) (by decide)
  have e2 := (c_irem (x &&& 2147483647) 5 5 rfl).1 (by rw [e1]; omega)
  simp only [← Int32.toInt_inj, Int32.reduceToInt]; omega
theorem own_chk {w ix aa co fi : Int32} (h : w = fExp ix aa co fi) : ¬ fChk w ix aa co fi = 0 := by
  rw [show fChk w ix aa co fi = if w = fExp ix aa co fi then 1 else 0 from rfl, if_pos h]; decide
theorem own_e0 {ix aa : Int32} (co fi : Int32) (h : ix - aa = 0) : fExp ix aa co fi = 92 := by rw [fExp_def, h]; rfl
theorem own_e1 {ix aa : Int32} (co fi : Int32) (h : ix - aa = 1) : fExp ix aa co fi = 117 := by rw [fExp_def, h]; rfl
theorem own_e2 {ix aa : Int32} (co fi : Int32) (h : ix - aa = 2) : fExp ix aa co fi = nar .char (fHex (co / (4096 : Int32))) := by rw [fExp_def, h]; rfl
theorem own_e3 {ix aa : Int32} (co fi : Int32) (h : ix - aa = 3) : fExp ix aa co fi = nar .char (fHex ((co / (256 : Int32)) % (16 : Int32))) := by rw [fExp_def, h]; rfl
theorem own_e4 {ix aa : Int32} (co fi : Int32) (h : ix - aa = 4) : fExp ix aa co fi = nar .char (fHex ((co / (16 : Int32)) % (16 : Int32))) := by rw [fExp_def, h]; rfl
theorem own_e5 {ix aa : Int32} (co fi : Int32) (h : ix - aa = 5) : fExp ix aa co fi = nar .char (fHex (co % (16 : Int32))) := by rw [fExp_def, h]; rfl
theorem own_eF {ix aa : Int32} (co fi : Int32) (h : (ix - aa) < 0 ∨ ¬ (ix - aa) < (6 : Int32)) : fExp ix aa co fi = nar .char fi := by
  rw [fExp_def]
  by_cases g : (ix - aa) < 0
  · rw [if_pos g]
  · rw [if_neg g, if_neg (h.resolve_left g)]
theorem ef_1 (m : MethodId) (x0 : Addr) (x1 : Int32) (x2 : Int32) : entryFrame m #[.ref x0, .int x1, .int x2] 4 = mkF m 0 #[.val (.ref x0), .val (.int x1), .val (.int x2), .unset] [] := by first | (simp [entryFrame, mkF, argsToLocals, Value.category]; done) | rfl
theorem pn_630541 : plainName "com/example/epikrise/epikrise/core/ControlCharacters" = true := by first | (simp [plainName, overriddenIn]; done) | decide +kernel
theorem d1_0 : decode prog_31_method_4_code 0 = .ok (.aload_n 0, 1) := by decide +kernel
theorem d1_1 : decode prog_31_method_4_code 1 = .ok (.iload_n 1, 1) := by decide +kernel
theorem d1_2 : decode prog_31_method_4_code 2 = .ok (.bipush 92, 2) := by decide +kernel
theorem d1_4 : decode prog_31_method_4_code 4 = .ok (.castore, 1) := by decide +kernel
theorem d1_5 : decode prog_31_method_4_code 5 = .ok (.aload_n 0, 1) := by decide +kernel
theorem d1_6 : decode prog_31_method_4_code 6 = .ok (.iload_n 1, 1) := by decide +kernel
theorem d1_7 : decode prog_31_method_4_code 7 = .ok (.iconst 1, 1) := by decide +kernel
theorem d1_8 : decode prog_31_method_4_code 8 = .ok (.iadd, 1) := by decide +kernel
theorem d1_9 : decode prog_31_method_4_code 9 = .ok (.bipush 117, 2) := by decide +kernel
theorem d1_11 : decode prog_31_method_4_code 11 = .ok (.castore, 1) := by decide +kernel
theorem d1_12 : decode prog_31_method_4_code 12 = .ok (.iconst 0, 1) := by decide +kernel
theorem d1_13 : decode prog_31_method_4_code 13 = .ok (.istore_n 3, 1) := by decide +kernel
theorem d1_14 : decode prog_31_method_4_code 14 = .ok (.iload_n 3, 1) := by decide +kernel
theorem d1_15 : decode prog_31_method_4_code 15 = .ok (.iconst 4, 1) := by decide +kernel
theorem d1_16 : decode prog_31_method_4_code 16 = .ok (.if_icmp .ge 31, 3) := by decide +kernel
theorem d1_19 : decode prog_31_method_4_code 19 = .ok (.aload_n 0, 1) := by decide +kernel
theorem d1_20 : decode prog_31_method_4_code 20 = .ok (.iload_n 1, 1) := by decide +kernel
theorem d1_21 : decode prog_31_method_4_code 21 = .ok (.iconst 2, 1) := by decide +kernel
theorem d1_22 : decode prog_31_method_4_code 22 = .ok (.iadd, 1) := by decide +kernel
theorem d1_23 : decode prog_31_method_4_code 23 = .ok (.iload_n 3, 1) := by decide +kernel
theorem d1_24 : decode prog_31_method_4_code 24 = .ok (.iadd, 1) := by decide +kernel
theorem d1_25 : decode prog_31_method_4_code 25 = .ok (.getstatic 19, 3) := by decide +kernel
theorem d1_28 : decode prog_31_method_4_code 28 = .ok (.iload_n 2, 1) := by decide +kernel
theorem d1_29 : decode prog_31_method_4_code 29 = .ok (.bipush 12, 2) := by decide +kernel
theorem d1_31 : decode prog_31_method_4_code 31 = .ok (.iconst 4, 1) := by decide +kernel
theorem d1_32 : decode prog_31_method_4_code 32 = .ok (.iload_n 3, 1) := by decide +kernel
theorem d1_33 : decode prog_31_method_4_code 33 = .ok (.imul, 1) := by decide +kernel
theorem d1_34 : decode prog_31_method_4_code 34 = .ok (.isub, 1) := by decide +kernel
theorem d1_35 : decode prog_31_method_4_code 35 = .ok (.ishr, 1) := by decide +kernel
theorem d1_36 : decode prog_31_method_4_code 36 = .ok (.bipush 15, 2) := by decide +kernel
theorem d1_38 : decode prog_31_method_4_code 38 = .ok (.iand, 1) := by decide +kernel
theorem d1_39 : decode prog_31_method_4_code 39 = .ok (.caload, 1) := by decide +kernel
theorem d1_40 : decode prog_31_method_4_code 40 = .ok (.castore, 1) := by decide +kernel
theorem d1_41 : decode prog_31_method_4_code 41 = .ok (.iinc 3 1, 3) := by decide +kernel
theorem d1_44 : decode prog_31_method_4_code 44 = .ok (.goto (-30), 3) := by decide +kernel
theorem d1_47 : decode prog_31_method_4_code 47 = .ok (.iload_n 1, 1) := by decide +kernel
theorem d1_48 : decode prog_31_method_4_code 48 = .ok (.bipush 6, 2) := by decide +kernel
theorem d1_50 : decode prog_31_method_4_code 50 = .ok (.iadd, 1) := by decide +kernel
theorem d1_51 : decode prog_31_method_4_code 51 = .ok (.ireturn, 1) := by decide +kernel
set_option maxRecDepth 65536 in
set_option maxHeartbeats 40000000 in
theorem mt_pe0 (l : Launch) (Z : State) (a0 : Array Value) (hw : oHw a0 Z) (h0 : Heap) (n0 : Nat) (Z0 : n0 ≤ h0.size) (b hx : Addr) (ch fi : Int32) (A_b : oAr Z h0 b .char [.int fi, .int fi, .int fi, .int fi, .int fi, .int fi, .int fi, .int fi, .int fi, .int fi]) (A_hx : oAr Z h0 hx .char oHEX) (S_hx : Sta Z h0 "com/example/epikrise/epikrise/core/ControlCharacters" "HEX_DIGITS" "[C" (.ref hx)) (g_b : n0 ≤ b) (ne_hb : hx ≠ b) :
    oMet l Z (⟨"com/example/epikrise/epikrise/core/ControlCharacters", "putEscape", "([CIC)I"⟩ : MethodName) prog_31_method_4_code 4 (some .int) [] ({ frames := 0, cells := 0, slots := 0, locals := 0 } : Room) 0 0 n0 #[.ref b, .int 0, .int ch] h0 (fun v h => v = some (.int 6) ∧ Keep h0 h [b] ∧ oAr Z h b .char [.int 92, .int 117, .int (hxd 12 ch), .int (hxd 8 ch), .int (hxd 4 ch), .int (hxd 0 ch), .int fi, .int fi, .int fi, .int fi]) := by
  refine oMet.intro (plainFor_of_name pn_630541) (fun m => ef_1 m b (0 : Int32) ch) ?_
  intro op oe os m obl omt ocd C
  refine oAloadN C d1_0 rfl rfl rfl ?_
  refine oIloadN C d1_1 rfl rfl ?_
  refine oBipush C d1_2 (z := 92) rfl rfl ?_
  refine oCastore C A_b (by decide) (k := 0) rfl (v := .int fi) rfl (v' := .int 92) rfl d1_4 rfl g_b fun h6 W6 A6 => ?_
  have A6l : oAr Z h6 b .char [.int 92, .int fi, .int fi, .int fi, .int fi, .int fi, .int fi, .int fi, .int fi, .int fi] := A6
  refine oAloadN C d1_5 rfl rfl rfl ?_
  refine oIloadN C d1_6 rfl rfl ?_
  refine oIconst C d1_7 (z := 1) rfl rfl ?_
  refine oIadd C d1_8 rfl ?_
  refine oCastI (z' := (1 : Int32)) (by decide) ?_
  refine oBipush C d1_9 (z := 117) rfl rfl ?_
  refine oCastore C A6l (by decide) (k := 1) rfl (v := .int fi) rfl (v' := .int 117) rfl d1_11 rfl g_b fun h7 W7 A7 => ?_
  have A7l : oAr Z h7 b .char [.int 92, .int 117, .int fi, .int fi, .int fi, .int fi, .int fi, .int fi, .int fi, .int fi] := A7
  refine oIconst C d1_12 (z := 0) rfl rfl ?_
  refine oIstoreN C d1_13 (Ls' := #[.val (.ref b), .val (.int 0), .val (.int ch), .val (.int 0)]) rfl (q := 14) rfl ?_
  refine oIloadN C d1_14 rfl rfl ?_
  refine oIconst C d1_15 (z := 4) rfl rfl ?_
  refine oIcmp_ge C d1_16 (q := 47) (by decide) (by decide) (r := 19) rfl (fun hq => absurd hq ((by decide))) (fun hc16 => ?_)
  refine oAloadN C d1_19 rfl rfl rfl ?_
  refine oIloadN C d1_20 rfl rfl ?_
  refine oIconst C d1_21 (z := 2) rfl rfl ?_
  refine oIadd C d1_22 rfl ?_
  refine oCastI (z' := (2 : Int32)) (by decide) ?_
  refine oIloadN C d1_23 rfl rfl ?_
  refine oIadd C d1_24 rfl ?_
  refine oCastI (z' := (2 : Int32)) (by decide) ?_
  have f8 := (Sta.wr W7 (Sta.wr W6 S_hx))
  refine oGetS C (w6 hw) Via.refl f8 d1_25 rfl ?_
  refine oIloadN C d1_28 rfl rfl ?_
  refine oBipush C d1_29 (z := 12) rfl rfl ?_
  refine oIconst C d1_31 (z := 4) rfl rfl ?_
  refine oIloadN C d1_32 rfl rfl ?_
  refine oImul C d1_33 rfl ?_
  refine oCastI (z' := (0 : Int32)) (by decide) ?_
  refine oIsub C d1_34 rfl ?_
  refine oCastI (z' := (12 : Int32)) (by decide) ?_
  refine oIshr C d1_35 rfl ?_
  refine oBipush C d1_36 (z := 15) rfl rfl ?_
  refine oIand C d1_38 rfl ?_
  have f9 := ((A_hx.other W6 ne_hb).other W7 ne_hb)
  refine oCaload C f9 (own_nn _) (k := ((ch >>> ((12 : Int32) &&& 31)) &&& (15 : Int32)).toNatClampNeg) rfl (v := .int (hxd 12 ch)) (own_hexat _ _) d1_39 rfl ?_
  refine oCastore C A7l (by decide) (k := 2) rfl (v := .int fi) rfl (v' := .int (hxd 12 ch)) (congrArg Value.int (own_hxn _ _)) d1_40 rfl g_b fun h10 W10 A10 => ?_
  have A10l : oAr Z h10 b .char [.int 92, .int 117, .int (hxd 12 ch), .int fi, .int fi, .int fi, .int fi, .int fi, .int fi, .int fi] := A10
  refine oIinc C d1_41 rfl (z := 1) rfl (w := (1 : Int32)) (by decide) (Ls' := #[.val (.ref b), .val (.int 0), .val (.int ch), .val (.int 1)]) rfl rfl ?_
  refine oGoto C d1_44 (q := 14) (by decide) (by decide) ?_
  refine oIloadN C d1_14 rfl rfl ?_
  refine oIconst C d1_15 (z := 4) rfl rfl ?_
  refine oIcmp_ge C d1_16 (q := 47) (by decide) (by decide) (r := 19) rfl (fun hq => absurd hq ((by decide))) (fun hc16_1 => ?_)
  refine oAloadN C d1_19 rfl rfl rfl ?_
  refine oIloadN C d1_20 rfl rfl ?_
  refine oIconst C d1_21 (z := 2) rfl rfl ?_
  refine oIadd C d1_22 rfl ?_
  refine oCastI (z' := (2 : Int32)) (by decide) ?_
  refine oIloadN C d1_23 rfl rfl ?_
  refine oIadd C d1_24 rfl ?_
  refine oCastI (z' := (3 : Int32)) (by decide) ?_
  have f11 := (Sta.wr W10 f8)
  refine oGetS C (w6 hw) Via.refl f11 d1_25 rfl ?_
  refine oIloadN C d1_28 rfl rfl ?_
  refine oBipush C d1_29 (z := 12) rfl rfl ?_
  refine oIconst C d1_31 (z := 4) rfl rfl ?_
  refine oIloadN C d1_32 rfl rfl ?_
  refine oImul C d1_33 rfl ?_
  refine oCastI (z' := (4 : Int32)) (by decide) ?_
  refine oIsub C d1_34 rfl ?_
  refine oCastI (z' := (8 : Int32)) (by decide) ?_
  refine oIshr C d1_35 rfl ?_
  refine oBipush C d1_36 (z := 15) rfl rfl ?_
  refine oIand C d1_38 rfl ?_
  have f12 := (f9.other W10 ne_hb)
  refine oCaload C f12 (own_nn _) (k := ((ch >>> ((8 : Int32) &&& 31)) &&& (15 : Int32)).toNatClampNeg) rfl (v := .int (hxd 8 ch)) (own_hexat _ _) d1_39 rfl ?_
  refine oCastore C A10l (by decide) (k := 3) rfl (v := .int fi) rfl (v' := .int (hxd 8 ch)) (congrArg Value.int (own_hxn _ _)) d1_40 rfl g_b fun h13 W13 A13 => ?_
  have A13l : oAr Z h13 b .char [.int 92, .int 117, .int (hxd 12 ch), .int (hxd 8 ch), .int fi, .int fi, .int fi, .int fi, .int fi, .int fi] := A13
  refine oIinc C d1_41 rfl (z := 1) rfl (w := (2 : Int32)) (by decide) (Ls' := #[.val (.ref b), .val (.int 0), .val (.int ch), .val (.int 2)]) rfl rfl ?_
  refine oGoto C d1_44 (q := 14) (by decide) (by decide) ?_
  refine oIloadN C d1_14 rfl rfl ?_
  refine oIconst C d1_15 (z := 4) rfl rfl ?_
  refine oIcmp_ge C d1_16 (q := 47) (by decide) (by decide) (r := 19) rfl (fun hq => absurd hq ((by decide))) (fun hc16_2 => ?_)
  refine oAloadN C d1_19 rfl rfl rfl ?_
  refine oIloadN C d1_20 rfl rfl ?_
  refine oIconst C d1_21 (z := 2) rfl rfl ?_
  refine oIadd C d1_22 rfl ?_
  refine oCastI (z' := (2 : Int32)) (by decide) ?_
  refine oIloadN C d1_23 rfl rfl ?_
  refine oIadd C d1_24 rfl ?_
  refine oCastI (z' := (4 : Int32)) (by decide) ?_
  have f14 := (Sta.wr W13 f11)
  refine oGetS C (w6 hw) Via.refl f14 d1_25 rfl ?_
  refine oIloadN C d1_28 rfl rfl ?_
  refine oBipush C d1_29 (z := 12) rfl rfl ?_
  refine oIconst C d1_31 (z := 4) rfl rfl ?_
  refine oIloadN C d1_32 rfl rfl ?_
  refine oImul C d1_33 rfl ?_
  refine oCastI (z' := (8 : Int32)) (by decide) ?_
  refine oIsub C d1_34 rfl ?_
  refine oCastI (z' := (4 : Int32)) (by decide) ?_
  refine oIshr C d1_35 rfl ?_
  refine oBipush C d1_36 (z := 15) rfl rfl ?_
  refine oIand C d1_38 rfl ?_
  have f15 := (f12.other W13 ne_hb)
  refine oCaload C f15 (own_nn _) (k := ((ch >>> ((4 : Int32) &&& 31)) &&& (15 : Int32)).toNatClampNeg) rfl (v := .int (hxd 4 ch)) (own_hexat _ _) d1_39 rfl ?_
  refine oCastore C A13l (by decide) (k := 4) rfl (v := .int fi) rfl (v' := .int (hxd 4 ch)) (congrArg Value.int (own_hxn _ _)) d1_40 rfl g_b fun h16 W16 A16 => ?_
  have A16l : oAr Z h16 b .char [.int 92, .int 117, .int (hxd 12 ch), .int (hxd 8 ch), .int (hxd 4 ch), .int fi, .int fi, .int fi, .int fi, .int fi] := A16
  refine oIinc C d1_41 rfl (z := 1) rfl (w := (3 : Int32)) (by decide) (Ls' := #[.val (.ref b), .val (.int 0), .val (.int ch), .val (.int 3)]) rfl rfl ?_
  refine oGoto C d1_44 (q := 14) (by decide) (by decide) ?_
  refine oIloadN C d1_14 rfl rfl ?_
  refine oIconst C d1_15 (z := 4) rfl rfl ?_
  refine oIcmp_ge C d1_16 (q := 47) (by decide) (by decide) (r := 19) rfl (fun hq => absurd hq ((by decide))) (fun hc16_3 => ?_)
  refine oAloadN C d1_19 rfl rfl rfl ?_
  refine oIloadN C d1_20 rfl rfl ?_
  refine oIconst C d1_21 (z := 2) rfl rfl ?_
  refine oIadd C d1_22 rfl ?_
  refine oCastI (z' := (2 : Int32)) (by decide) ?_
  refine oIloadN C d1_23 rfl rfl ?_
  refine oIadd C d1_24 rfl ?_
  refine oCastI (z' := (5 : Int32)) (by decide) ?_
  have f17 := (Sta.wr W16 f14)
  refine oGetS C (w6 hw) Via.refl f17 d1_25 rfl ?_
  refine oIloadN C d1_28 rfl rfl ?_
  refine oBipush C d1_29 (z := 12) rfl rfl ?_
  refine oIconst C d1_31 (z := 4) rfl rfl ?_
  refine oIloadN C d1_32 rfl rfl ?_
  refine oImul C d1_33 rfl ?_
  refine oCastI (z' := (12 : Int32)) (by decide) ?_
  refine oIsub C d1_34 rfl ?_
  refine oCastI (z' := (0 : Int32)) (by decide) ?_
  refine oIshr C d1_35 rfl ?_
  refine oBipush C d1_36 (z := 15) rfl rfl ?_
  refine oIand C d1_38 rfl ?_
  have f18 := (f15.other W16 ne_hb)
  refine oCaload C f18 (own_nn _) (k := ((ch >>> ((0 : Int32) &&& 31)) &&& (15 : Int32)).toNatClampNeg) rfl (v := .int (hxd 0 ch)) (own_hexat _ _) d1_39 rfl ?_
  refine oCastore C A16l (by decide) (k := 5) rfl (v := .int fi) rfl (v' := .int (hxd 0 ch)) (congrArg Value.int (own_hxn _ _)) d1_40 rfl g_b fun h19 W19 A19 => ?_
  have A19l : oAr Z h19 b .char [.int 92, .int 117, .int (hxd 12 ch), .int (hxd 8 ch), .int (hxd 4 ch), .int (hxd 0 ch), .int fi, .int fi, .int fi, .int fi] := A19
  refine oIinc C d1_41 rfl (z := 1) rfl (w := (4 : Int32)) (by decide) (Ls' := #[.val (.ref b), .val (.int 0), .val (.int ch), .val (.int 4)]) rfl rfl ?_
  refine oGoto C d1_44 (q := 14) (by decide) (by decide) ?_
  refine oIloadN C d1_14 rfl rfl ?_
  refine oIconst C d1_15 (z := 4) rfl rfl ?_
  refine oIcmp_ge C d1_16 (q := 47) (by decide) (by decide) (r := 19) rfl (fun hc16_4 => ?_) (fun hq => absurd hq ((by decide)))
  refine oIloadN C d1_47 rfl rfl ?_
  refine oBipush C d1_48 (z := 6) rfl rfl ?_
  refine oIadd C d1_50 rfl ?_
  refine oCastI (z' := (6 : Int32)) (by decide) ?_
  refine oRetI C d1_51 (by decide) (by decide) ?_
  exact ⟨rfl, (((((((Keep.refl h0 [b]).wr W6 (Or.inl (List.mem_of_getElem? (i := 0) rfl))).wr W7 (Or.inl (List.mem_of_getElem? (i := 0) rfl))).wr W10 (Or.inl (List.mem_of_getElem? (i := 0) rfl))).wr W13 (Or.inl (List.mem_of_getElem? (i := 0) rfl))).wr W16 (Or.inl (List.mem_of_getElem? (i := 0) rfl))).wr W19 (Or.inl (List.mem_of_getElem? (i := 0) rfl))), A19l⟩
set_option maxRecDepth 65536 in
set_option maxHeartbeats 40000000 in
theorem mt_pe1 (l : Launch) (Z : State) (a0 : Array Value) (hw : oHw a0 Z) (h0 : Heap) (n0 : Nat) (Z0 : n0 ≤ h0.size) (b hx : Addr) (ch fi : Int32) (A_b : oAr Z h0 b .char [.int fi, .int fi, .int fi, .int fi, .int fi, .int fi, .int fi, .int fi, .int fi, .int fi]) (A_hx : oAr Z h0 hx .char oHEX) (S_hx : Sta Z h0 "com/example/epikrise/epikrise/core/ControlCharacters" "HEX_DIGITS" "[C" (.ref hx)) (g_b : n0 ≤ b) (ne_hb : hx ≠ b) :
    oMet l Z (⟨"com/example/epikrise/epikrise/core/ControlCharacters", "putEscape", "([CIC)I"⟩ : MethodName) prog_31_method_4_code 4 (some .int) [] ({ frames := 0, cells := 0, slots := 0, locals := 0 } : Room) 0 0 n0 #[.ref b, .int 1, .int ch] h0 (fun v h => v = some (.int 7) ∧ Keep h0 h [b] ∧ oAr Z h b .char [.int fi, .int 92, .int 117, .int (hxd 12 ch), .int (hxd 8 ch), .int (hxd 4 ch), .int (hxd 0 ch), .int fi, .int fi, .int fi]) := by
  refine oMet.intro (plainFor_of_name pn_630541) (fun m => ef_1 m b (1 : Int32) ch) ?_
  intro op oe os m obl omt ocd C
  refine oAloadN C d1_0 rfl rfl rfl ?_
  refine oIloadN C d1_1 rfl rfl ?_
  refine oBipush C d1_2 (z := 92) rfl rfl ?_
  refine oCastore C A_b (by decide) (k := 1) rfl (v := .int fi) rfl (v' := .int 92) rfl d1_4 rfl g_b fun h20 W20 A20 => ?_
  have A20l : oAr Z h20 b .char [.int fi, .int 92, .int fi, .int fi, .int fi, .int fi, .int fi, .int fi, .int fi, .int fi] := A20
  refine oAloadN C d1_5 rfl rfl rfl ?_
  refine oIloadN C d1_6 rfl rfl ?_
  refine oIconst C d1_7 (z := 1) rfl rfl ?_
  refine oIadd C d1_8 rfl ?_
  refine oCastI (z' := (2 : Int32)) (by decide) ?_
  refine oBipush C d1_9 (z := 117) rfl rfl ?_
  refine oCastore C A20l (by decide) (k := 2) rfl (v := .int fi) rfl (v' := .int 117) rfl d1_11 rfl g_b fun h21 W21 A21 => ?_
  have A21l : oAr Z h21 b .char [.int fi, .int 92, .int 117, .int fi, .int fi, .int fi, .int fi, .int fi, .int fi, .int fi] := A21
  refine oIconst C d1_12 (z := 0) rfl rfl ?_
  refine oIstoreN C d1_13 (Ls' := #[.val (.ref b), .val (.int 1), .val (.int ch), .val (.int 0)]) rfl (q := 14) rfl ?_
  refine oIloadN C d1_14 rfl rfl ?_
  refine oIconst C d1_15 (z := 4) rfl rfl ?_
  refine oIcmp_ge C d1_16 (q := 47) (by decide) (by decide) (r := 19) rfl (fun hq => absurd hq ((by decide))) (fun hc16 => ?_)
  refine oAloadN C d1_19 rfl rfl rfl ?_
  refine oIloadN C d1_20 rfl rfl ?_
  refine oIconst C d1_21 (z := 2) rfl rfl ?_
  refine oIadd C d1_22 rfl ?_
  refine oCastI (z' := (3 : Int32)) (by decide) ?_
  refine oIloadN C d1_23 rfl rfl ?_
  refine oIadd C d1_24 rfl ?_
  refine oCastI (z' := (3 : Int32)) (by decide) ?_
  have f22 := (Sta.wr W21 (Sta.wr W20 S_hx))
  refine oGetS C (w6 hw) Via.refl f22 d1_25 rfl ?_
  refine oIloadN C d1_28 rfl rfl ?_
  refine oBipush C d1_29 (z := 12) rfl rfl ?_
  refine oIconst C d1_31 (z := 4) rfl rfl ?_
  refine oIloadN C d1_32 rfl rfl ?_
  refine oImul C d1_33 rfl ?_
  refine oCastI (z' := (0 : Int32)) (by decide) ?_
  refine oIsub C d1_34 rfl ?_
  refine oCastI (z' := (12 : Int32)) (by decide) ?_
  refine oIshr C d1_35 rfl ?_
  refine oBipush C d1_36 (z := 15) rfl rfl ?_
  refine oIand C d1_38 rfl ?_
  have f23 := ((A_hx.other W20 ne_hb).other W21 ne_hb)
  refine oCaload C f23 (own_nn _) (k := ((ch >>> ((12 : Int32) &&& 31)) &&& (15 : Int32)).toNatClampNeg) rfl (v := .int (hxd 12 ch)) (own_hexat _ _) d1_39 rfl ?_
  refine oCastore C A21l (by decide) (k := 3) rfl (v := .int fi) rfl (v' := .int (hxd 12 ch)) (congrArg Value.int (own_hxn _ _)) d1_40 rfl g_b fun h24 W24 A24 => ?_
  have A24l : oAr Z h24 b .char [.int fi, .int 92, .int 117, .int (hxd 12 ch), .int fi, .int fi, .int fi, .int fi, .int fi, .int fi] := A24
  refine oIinc C d1_41 rfl (z := 1) rfl (w := (1 : Int32)) (by decide) (Ls' := #[.val (.ref b), .val (.int 1), .val (.int ch), .val (.int 1)]) rfl rfl ?_
  refine oGoto C d1_44 (q := 14) (by decide) (by decide) ?_
  refine oIloadN C d1_14 rfl rfl ?_
  refine oIconst C d1_15 (z := 4) rfl rfl ?_
  refine oIcmp_ge C d1_16 (q := 47) (by decide) (by decide) (r := 19) rfl (fun hq => absurd hq ((by decide))) (fun hc16_1 => ?_)
  refine oAloadN C d1_19 rfl rfl rfl ?_
  refine oIloadN C d1_20 rfl rfl ?_
  refine oIconst C d1_21 (z := 2) rfl rfl ?_
  refine oIadd C d1_22 rfl ?_
  refine oCastI (z' := (3 : Int32)) (by decide) ?_
  refine oIloadN C d1_23 rfl rfl ?_
  refine oIadd C d1_24 rfl ?_
  refine oCastI (z' := (4 : Int32)) (by decide) ?_
  have f25 := (Sta.wr W24 f22)
  refine oGetS C (w6 hw) Via.refl f25 d1_25 rfl ?_
  refine oIloadN C d1_28 rfl rfl ?_
  refine oBipush C d1_29 (z := 12) rfl rfl ?_
  refine oIconst C d1_31 (z := 4) rfl rfl ?_
  refine oIloadN C d1_32 rfl rfl ?_
  refine oImul C d1_33 rfl ?_
  refine oCastI (z' := (4 : Int32)) (by decide) ?_
  refine oIsub C d1_34 rfl ?_
  refine oCastI (z' := (8 : Int32)) (by decide) ?_
  refine oIshr C d1_35 rfl ?_
  refine oBipush C d1_36 (z := 15) rfl rfl ?_
  refine oIand C d1_38 rfl ?_
  have f26 := (f23.other W24 ne_hb)
  refine oCaload C f26 (own_nn _) (k := ((ch >>> ((8 : Int32) &&& 31)) &&& (15 : Int32)).toNatClampNeg) rfl (v := .int (hxd 8 ch)) (own_hexat _ _) d1_39 rfl ?_
  refine oCastore C A24l (by decide) (k := 4) rfl (v := .int fi) rfl (v' := .int (hxd 8 ch)) (congrArg Value.int (own_hxn _ _)) d1_40 rfl g_b fun h27 W27 A27 => ?_
  have A27l : oAr Z h27 b .char [.int fi, .int 92, .int 117, .int (hxd 12 ch), .int (hxd 8 ch), .int fi, .int fi, .int fi, .int fi, .int fi] := A27
  refine oIinc C d1_41 rfl (z := 1) rfl (w := (2 : Int32)) (by decide) (Ls' := #[.val (.ref b), .val (.int 1), .val (.int ch), .val (.int 2)]) rfl rfl ?_
  refine oGoto C d1_44 (q := 14) (by decide) (by decide) ?_
  refine oIloadN C d1_14 rfl rfl ?_
  refine oIconst C d1_15 (z := 4) rfl rfl ?_
  refine oIcmp_ge C d1_16 (q := 47) (by decide) (by decide) (r := 19) rfl (fun hq => absurd hq ((by decide))) (fun hc16_2 => ?_)
  refine oAloadN C d1_19 rfl rfl rfl ?_
  refine oIloadN C d1_20 rfl rfl ?_
  refine oIconst C d1_21 (z := 2) rfl rfl ?_
  refine oIadd C d1_22 rfl ?_
  refine oCastI (z' := (3 : Int32)) (by decide) ?_
  refine oIloadN C d1_23 rfl rfl ?_
  refine oIadd C d1_24 rfl ?_
  refine oCastI (z' := (5 : Int32)) (by decide) ?_
  have f28 := (Sta.wr W27 f25)
  refine oGetS C (w6 hw) Via.refl f28 d1_25 rfl ?_
  refine oIloadN C d1_28 rfl rfl ?_
  refine oBipush C d1_29 (z := 12) rfl rfl ?_
  refine oIconst C d1_31 (z := 4) rfl rfl ?_
  refine oIloadN C d1_32 rfl rfl ?_
  refine oImul C d1_33 rfl ?_
  refine oCastI (z' := (8 : Int32)) (by decide) ?_
  refine oIsub C d1_34 rfl ?_
  refine oCastI (z' := (4 : Int32)) (by decide) ?_
  refine oIshr C d1_35 rfl ?_
  refine oBipush C d1_36 (z := 15) rfl rfl ?_
  refine oIand C d1_38 rfl ?_
  have f29 := (f26.other W27 ne_hb)
  refine oCaload C f29 (own_nn _) (k := ((ch >>> ((4 : Int32) &&& 31)) &&& (15 : Int32)).toNatClampNeg) rfl (v := .int (hxd 4 ch)) (own_hexat _ _) d1_39 rfl ?_
  refine oCastore C A27l (by decide) (k := 5) rfl (v := .int fi) rfl (v' := .int (hxd 4 ch)) (congrArg Value.int (own_hxn _ _)) d1_40 rfl g_b fun h30 W30 A30 => ?_
  have A30l : oAr Z h30 b .char [.int fi, .int 92, .int 117, .int (hxd 12 ch), .int (hxd 8 ch), .int (hxd 4 ch), .int fi, .int fi, .int fi, .int fi] := A30
  refine oIinc C d1_41 rfl (z := 1) rfl (w := (3 : Int32)) (by decide) (Ls' := #[.val (.ref b), .val (.int 1), .val (.int ch), .val (.int 3)]) rfl rfl ?_
  refine oGoto C d1_44 (q := 14) (by decide) (by decide) ?_
  refine oIloadN C d1_14 rfl rfl ?_
  refine oIconst C d1_15 (z := 4) rfl rfl ?_
  refine oIcmp_ge C d1_16 (q := 47) (by decide) (by decide) (r := 19) rfl (fun hq => absurd hq ((by decide))) (fun hc16_3 => ?_)
  refine oAloadN C d1_19 rfl rfl rfl ?_
  refine oIloadN C d1_20 rfl rfl ?_
  refine oIconst C d1_21 (z := 2) rfl rfl ?_
  refine oIadd C d1_22 rfl ?_
  refine oCastI (z' := (3 : Int32)) (by decide) ?_
  refine oIloadN C d1_23 rfl rfl ?_
  refine oIadd C d1_24 rfl ?_
  refine oCastI (z' := (6 : Int32)) (by decide) ?_
  have f31 := (Sta.wr W30 f28)
  refine oGetS C (w6 hw) Via.refl f31 d1_25 rfl ?_
  refine oIloadN C d1_28 rfl rfl ?_
  refine oBipush C d1_29 (z := 12) rfl rfl ?_
  refine oIconst C d1_31 (z := 4) rfl rfl ?_
  refine oIloadN C d1_32 rfl rfl ?_
  refine oImul C d1_33 rfl ?_
  refine oCastI (z' := (12 : Int32)) (by decide) ?_
  refine oIsub C d1_34 rfl ?_
  refine oCastI (z' := (0 : Int32)) (by decide) ?_
  refine oIshr C d1_35 rfl ?_
  refine oBipush C d1_36 (z := 15) rfl rfl ?_
  refine oIand C d1_38 rfl ?_
  have f32 := (f29.other W30 ne_hb)
  refine oCaload C f32 (own_nn _) (k := ((ch >>> ((0 : Int32) &&& 31)) &&& (15 : Int32)).toNatClampNeg) rfl (v := .int (hxd 0 ch)) (own_hexat _ _) d1_39 rfl ?_
  refine oCastore C A30l (by decide) (k := 6) rfl (v := .int fi) rfl (v' := .int (hxd 0 ch)) (congrArg Value.int (own_hxn _ _)) d1_40 rfl g_b fun h33 W33 A33 => ?_
  have A33l : oAr Z h33 b .char [.int fi, .int 92, .int 117, .int (hxd 12 ch), .int (hxd 8 ch), .int (hxd 4 ch), .int (hxd 0 ch), .int fi, .int fi, .int fi] := A33
  refine oIinc C d1_41 rfl (z := 1) rfl (w := (4 : Int32)) (by decide) (Ls' := #[.val (.ref b), .val (.int 1), .val (.int ch), .val (.int 4)]) rfl rfl ?_
  refine oGoto C d1_44 (q := 14) (by decide) (by decide) ?_
  refine oIloadN C d1_14 rfl rfl ?_
  refine oIconst C d1_15 (z := 4) rfl rfl ?_
  refine oIcmp_ge C d1_16 (q := 47) (by decide) (by decide) (r := 19) rfl (fun hc16_4 => ?_) (fun hq => absurd hq ((by decide)))
  refine oIloadN C d1_47 rfl rfl ?_
  refine oBipush C d1_48 (z := 6) rfl rfl ?_
  refine oIadd C d1_50 rfl ?_
  refine oCastI (z' := (7 : Int32)) (by decide) ?_
  refine oRetI C d1_51 (by decide) (by decide) ?_
  exact ⟨rfl, (((((((Keep.refl h0 [b]).wr W20 (Or.inl (List.mem_of_getElem? (i := 0) rfl))).wr W21 (Or.inl (List.mem_of_getElem? (i := 0) rfl))).wr W24 (Or.inl (List.mem_of_getElem? (i := 0) rfl))).wr W27 (Or.inl (List.mem_of_getElem? (i := 0) rfl))).wr W30 (Or.inl (List.mem_of_getElem? (i := 0) rfl))).wr W33 (Or.inl (List.mem_of_getElem? (i := 0) rfl))), A33l⟩
set_option maxRecDepth 65536 in
set_option maxHeartbeats 40000000 in
theorem mt_pe2 (l : Launch) (Z : State) (a0 : Array Value) (hw : oHw a0 Z) (h0 : Heap) (n0 : Nat) (Z0 : n0 ≤ h0.size) (b hx : Addr) (ch fi : Int32) (A_b : oAr Z h0 b .char [.int fi, .int fi, .int fi, .int fi, .int fi, .int fi, .int fi, .int fi, .int fi, .int fi]) (A_hx : oAr Z h0 hx .char oHEX) (S_hx : Sta Z h0 "com/example/epikrise/epikrise/core/ControlCharacters" "HEX_DIGITS" "[C" (.ref hx)) (g_b : n0 ≤ b) (ne_hb : hx ≠ b) :
    oMet l Z (⟨"com/example/epikrise/epikrise/core/ControlCharacters", "putEscape", "([CIC)I"⟩ : MethodName) prog_31_method_4_code 4 (some .int) [] ({ frames := 0, cells := 0, slots := 0, locals := 0 } : Room) 0 0 n0 #[.ref b, .int 2, .int ch] h0 (fun v h => v = some (.int 8) ∧ Keep h0 h [b] ∧ oAr Z h b .char [.int fi, .int fi, .int 92, .int 117, .int (hxd 12 ch), .int (hxd 8 ch), .int (hxd 4 ch), .int (hxd 0 ch), .int fi, .int fi]) := by
  refine oMet.intro (plainFor_of_name pn_630541) (fun m => ef_1 m b (2 : Int32) ch) ?_
  intro op oe os m obl omt ocd C
  refine oAloadN C d1_0 rfl rfl rfl ?_
  refine oIloadN C d1_1 rfl rfl ?_
  refine oBipush C d1_2 (z := 92) rfl rfl ?_
  refine oCastore C A_b (by decide) (k := 2) rfl (v := .int fi) rfl (v' := .int 92) rfl d1_4 rfl g_b fun h34 W34 A34 => ?_
  have A34l : oAr Z h34 b .char [.int fi, .int fi, .int 92, .int fi, .int fi, .int fi, .int fi, .int fi, .int fi, .int fi] := A34
  refine oAloadN C d1_5 rfl rfl rfl ?_
  refine oIloadN C d1_6 rfl rfl ?_
  refine oIconst C d1_7 (z := 1) rfl rfl ?_
  refine oIadd C d1_8 rfl ?_
  refine oCastI (z' := (3 : Int32)) (by decide) ?_
  refine oBipush C d1_9 (z := 117) rfl rfl ?_
  refine oCastore C A34l (by decide) (k := 3) rfl (v := .int fi) rfl (v' := .int 117) rfl d1_11 rfl g_b fun h35 W35 A35 => ?_
  have A35l : oAr Z h35 b .char [.int fi, .int fi, .int 92, .int 117, .int fi, .int fi, .int fi, .int fi, .int fi, .int fi] := A35
  refine oIconst C d1_12 (z := 0) rfl rfl ?_
  refine oIstoreN C d1_13 (Ls' := #[.val (.ref b), .val (.int 2), .val (.int ch), .val (.int 0)]) rfl (q := 14) rfl ?_
  refine oIloadN C d1_14 rfl rfl ?_
  refine oIconst C d1_15 (z := 4) rfl rfl ?_
  refine oIcmp_ge C d1_16 (q := 47) (by decide) (by decide) (r := 19) rfl (fun hq => absurd hq ((by decide))) (fun hc16 => ?_)
  refine oAloadN C d1_19 rfl rfl rfl ?_
  refine oIloadN C d1_20 rfl rfl ?_
  refine oIconst C d1_21 (z := 2) rfl rfl ?_
  refine oIadd C d1_22 rfl ?_
  refine oCastI (z' := (4 : Int32)) (by decide) ?_
  refine oIloadN C d1_23 rfl rfl ?_
  refine oIadd C d1_24 rfl ?_
  refine oCastI (z' := (4 : Int32)) (by decide) ?_
  have f36 := (Sta.wr W35 (Sta.wr W34 S_hx))
  refine oGetS C (w6 hw) Via.refl f36 d1_25 rfl ?_
  refine oIloadN C d1_28 rfl rfl ?_
  refine oBipush C d1_29 (z := 12) rfl rfl ?_
  refine oIconst C d1_31 (z := 4) rfl rfl ?_
  refine oIloadN C d1_32 rfl rfl ?_
  refine oImul C d1_33 rfl ?_
  refine oCastI (z' := (0 : Int32)) (by decide) ?_
  refine oIsub C d1_34 rfl ?_
  refine oCastI (z' := (12 : Int32)) (by decide) ?_
  refine oIshr C d1_35 rfl ?_
  refine oBipush C d1_36 (z := 15) rfl rfl ?_
  refine oIand C d1_38 rfl ?_
  have f37 := ((A_hx.other W34 ne_hb).other W35 ne_hb)
  refine oCaload C f37 (own_nn _) (k := ((ch >>> ((12 : Int32) &&& 31)) &&& (15 : Int32)).toNatClampNeg) rfl (v := .int (hxd 12 ch)) (own_hexat _ _) d1_39 rfl ?_
  refine oCastore C A35l (by decide) (k := 4) rfl (v := .int fi) rfl (v' := .int (hxd 12 ch)) (congrArg Value.int (own_hxn _ _)) d1_40 rfl g_b fun h38 W38 A38 => ?_
  have A38l : oAr Z h38 b .char [.int fi, .int fi, .int 92, .int 117, .int (hxd 12 ch), .int fi, .int fi, .int fi, .int fi, .int fi] := A38
  refine oIinc C d1_41 rfl (z := 1) rfl (w := (1 : Int32)) (by decide) (Ls' := #[.val (.ref b), .val (.int 2), .val (.int ch), .val (.int 1)]) rfl rfl ?_
  refine oGoto C d1_44 (q := 14) (by decide) (by decide) ?_
  refine oIloadN C d1_14 rfl rfl ?_
  refine oIconst C d1_15 (z := 4) rfl rfl ?_
  refine oIcmp_ge C d1_16 (q := 47) (by decide) (by decide) (r := 19) rfl (fun hq => absurd hq ((by decide))) (fun hc16_1 => ?_)
  refine oAloadN C d1_19 rfl rfl rfl ?_
  refine oIloadN C d1_20 rfl rfl ?_
  refine oIconst C d1_21 (z := 2) rfl rfl ?_
  refine oIadd C d1_22 rfl ?_
  refine oCastI (z' := (4 : Int32)) (by decide) ?_
  refine oIloadN C d1_23 rfl rfl ?_
  refine oIadd C d1_24 rfl ?_
  refine oCastI (z' := (5 : Int32)) (by decide) ?_
  have f39 := (Sta.wr W38 f36)
  refine oGetS C (w6 hw) Via.refl f39 d1_25 rfl ?_
  refine oIloadN C d1_28 rfl rfl ?_
  refine oBipush C d1_29 (z := 12) rfl rfl ?_
  refine oIconst C d1_31 (z := 4) rfl rfl ?_
  refine oIloadN C d1_32 rfl rfl ?_
  refine oImul C d1_33 rfl ?_
  refine oCastI (z' := (4 : Int32)) (by decide) ?_
  refine oIsub C d1_34 rfl ?_
  refine oCastI (z' := (8 : Int32)) (by decide) ?_
  refine oIshr C d1_35 rfl ?_
  refine oBipush C d1_36 (z := 15) rfl rfl ?_
  refine oIand C d1_38 rfl ?_
  have f40 := (f37.other W38 ne_hb)
  refine oCaload C f40 (own_nn _) (k := ((ch >>> ((8 : Int32) &&& 31)) &&& (15 : Int32)).toNatClampNeg) rfl (v := .int (hxd 8 ch)) (own_hexat _ _) d1_39 rfl ?_
  refine oCastore C A38l (by decide) (k := 5) rfl (v := .int fi) rfl (v' := .int (hxd 8 ch)) (congrArg Value.int (own_hxn _ _)) d1_40 rfl g_b fun h41 W41 A41 => ?_
  have A41l : oAr Z h41 b .char [.int fi, .int fi, .int 92, .int 117, .int (hxd 12 ch), .int (hxd 8 ch), .int fi, .int fi, .int fi, .int fi] := A41
  refine oIinc C d1_41 rfl (z := 1) rfl (w := (2 : Int32)) (by decide) (Ls' := #[.val (.ref b), .val (.int 2), .val (.int ch), .val (.int 2)]) rfl rfl ?_
  refine oGoto C d1_44 (q := 14) (by decide) (by decide) ?_
  refine oIloadN C d1_14 rfl rfl ?_
  refine oIconst C d1_15 (z := 4) rfl rfl ?_
  refine oIcmp_ge C d1_16 (q := 47) (by decide) (by decide) (r := 19) rfl (fun hq => absurd hq ((by decide))) (fun hc16_2 => ?_)
  refine oAloadN C d1_19 rfl rfl rfl ?_
  refine oIloadN C d1_20 rfl rfl ?_
  refine oIconst C d1_21 (z := 2) rfl rfl ?_
  refine oIadd C d1_22 rfl ?_
  refine oCastI (z' := (4 : Int32)) (by decide) ?_
  refine oIloadN C d1_23 rfl rfl ?_
  refine oIadd C d1_24 rfl ?_
  refine oCastI (z' := (6 : Int32)) (by decide) ?_
  have f42 := (Sta.wr W41 f39)
  refine oGetS C (w6 hw) Via.refl f42 d1_25 rfl ?_
  refine oIloadN C d1_28 rfl rfl ?_
  refine oBipush C d1_29 (z := 12) rfl rfl ?_
  refine oIconst C d1_31 (z := 4) rfl rfl ?_
  refine oIloadN C d1_32 rfl rfl ?_
  refine oImul C d1_33 rfl ?_
  refine oCastI (z' := (8 : Int32)) (by decide) ?_
  refine oIsub C d1_34 rfl ?_
  refine oCastI (z' := (4 : Int32)) (by decide) ?_
  refine oIshr C d1_35 rfl ?_
  refine oBipush C d1_36 (z := 15) rfl rfl ?_
  refine oIand C d1_38 rfl ?_
  have f43 := (f40.other W41 ne_hb)
  refine oCaload C f43 (own_nn _) (k := ((ch >>> ((4 : Int32) &&& 31)) &&& (15 : Int32)).toNatClampNeg) rfl (v := .int (hxd 4 ch)) (own_hexat _ _) d1_39 rfl ?_
  refine oCastore C A41l (by decide) (k := 6) rfl (v := .int fi) rfl (v' := .int (hxd 4 ch)) (congrArg Value.int (own_hxn _ _)) d1_40 rfl g_b fun h44 W44 A44 => ?_
  have A44l : oAr Z h44 b .char [.int fi, .int fi, .int 92, .int 117, .int (hxd 12 ch), .int (hxd 8 ch), .int (hxd 4 ch), .int fi, .int fi, .int fi] := A44
  refine oIinc C d1_41 rfl (z := 1) rfl (w := (3 : Int32)) (by decide) (Ls' := #[.val (.ref b), .val (.int 2), .val (.int ch), .val (.int 3)]) rfl rfl ?_
  refine oGoto C d1_44 (q := 14) (by decide) (by decide) ?_
  refine oIloadN C d1_14 rfl rfl ?_
  refine oIconst C d1_15 (z := 4) rfl rfl ?_
  refine oIcmp_ge C d1_16 (q := 47) (by decide) (by decide) (r := 19) rfl (fun hq => absurd hq ((by decide))) (fun hc16_3 => ?_)
  refine oAloadN C d1_19 rfl rfl rfl ?_
  refine oIloadN C d1_20 rfl rfl ?_
  refine oIconst C d1_21 (z := 2) rfl rfl ?_
  refine oIadd C d1_22 rfl ?_
  refine oCastI (z' := (4 : Int32)) (by decide) ?_
  refine oIloadN C d1_23 rfl rfl ?_
  refine oIadd C d1_24 rfl ?_
  refine oCastI (z' := (7 : Int32)) (by decide) ?_
  have f45 := (Sta.wr W44 f42)
  refine oGetS C (w6 hw) Via.refl f45 d1_25 rfl ?_
  refine oIloadN C d1_28 rfl rfl ?_
  refine oBipush C d1_29 (z := 12) rfl rfl ?_
  refine oIconst C d1_31 (z := 4) rfl rfl ?_
  refine oIloadN C d1_32 rfl rfl ?_
  refine oImul C d1_33 rfl ?_
  refine oCastI (z' := (12 : Int32)) (by decide) ?_
  refine oIsub C d1_34 rfl ?_
  refine oCastI (z' := (0 : Int32)) (by decide) ?_
  refine oIshr C d1_35 rfl ?_
  refine oBipush C d1_36 (z := 15) rfl rfl ?_
  refine oIand C d1_38 rfl ?_
  have f46 := (f43.other W44 ne_hb)
  refine oCaload C f46 (own_nn _) (k := ((ch >>> ((0 : Int32) &&& 31)) &&& (15 : Int32)).toNatClampNeg) rfl (v := .int (hxd 0 ch)) (own_hexat _ _) d1_39 rfl ?_
  refine oCastore C A44l (by decide) (k := 7) rfl (v := .int fi) rfl (v' := .int (hxd 0 ch)) (congrArg Value.int (own_hxn _ _)) d1_40 rfl g_b fun h47 W47 A47 => ?_
  have A47l : oAr Z h47 b .char [.int fi, .int fi, .int 92, .int 117, .int (hxd 12 ch), .int (hxd 8 ch), .int (hxd 4 ch), .int (hxd 0 ch), .int fi, .int fi] := A47
  refine oIinc C d1_41 rfl (z := 1) rfl (w := (4 : Int32)) (by decide) (Ls' := #[.val (.ref b), .val (.int 2), .val (.int ch), .val (.int 4)]) rfl rfl ?_
  refine oGoto C d1_44 (q := 14) (by decide) (by decide) ?_
  refine oIloadN C d1_14 rfl rfl ?_
  refine oIconst C d1_15 (z := 4) rfl rfl ?_
  refine oIcmp_ge C d1_16 (q := 47) (by decide) (by decide) (r := 19) rfl (fun hc16_4 => ?_) (fun hq => absurd hq ((by decide)))
  refine oIloadN C d1_47 rfl rfl ?_
  refine oBipush C d1_48 (z := 6) rfl rfl ?_
  refine oIadd C d1_50 rfl ?_
  refine oCastI (z' := (8 : Int32)) (by decide) ?_
  refine oRetI C d1_51 (by decide) (by decide) ?_
  exact ⟨rfl, (((((((Keep.refl h0 [b]).wr W34 (Or.inl (List.mem_of_getElem? (i := 0) rfl))).wr W35 (Or.inl (List.mem_of_getElem? (i := 0) rfl))).wr W38 (Or.inl (List.mem_of_getElem? (i := 0) rfl))).wr W41 (Or.inl (List.mem_of_getElem? (i := 0) rfl))).wr W44 (Or.inl (List.mem_of_getElem? (i := 0) rfl))).wr W47 (Or.inl (List.mem_of_getElem? (i := 0) rfl))), A47l⟩
set_option maxRecDepth 65536 in
set_option maxHeartbeats 40000000 in
theorem mt_pe3 (l : Launch) (Z : State) (a0 : Array Value) (hw : oHw a0 Z) (h0 : Heap) (n0 : Nat) (Z0 : n0 ≤ h0.size) (b hx : Addr) (ch fi : Int32) (A_b : oAr Z h0 b .char [.int fi, .int fi, .int fi, .int fi, .int fi, .int fi, .int fi, .int fi, .int fi, .int fi]) (A_hx : oAr Z h0 hx .char oHEX) (S_hx : Sta Z h0 "com/example/epikrise/epikrise/core/ControlCharacters" "HEX_DIGITS" "[C" (.ref hx)) (g_b : n0 ≤ b) (ne_hb : hx ≠ b) :
    oMet l Z (⟨"com/example/epikrise/epikrise/core/ControlCharacters", "putEscape", "([CIC)I"⟩ : MethodName) prog_31_method_4_code 4 (some .int) [] ({ frames := 0, cells := 0, slots := 0, locals := 0 } : Room) 0 0 n0 #[.ref b, .int 3, .int ch] h0 (fun v h => v = some (.int 9) ∧ Keep h0 h [b] ∧ oAr Z h b .char [.int fi, .int fi, .int fi, .int 92, .int 117, .int (hxd 12 ch), .int (hxd 8 ch), .int (hxd 4 ch), .int (hxd 0 ch), .int fi]) := by
  refine oMet.intro (plainFor_of_name pn_630541) (fun m => ef_1 m b (3 : Int32) ch) ?_
  intro op oe os m obl omt ocd C
  refine oAloadN C d1_0 rfl rfl rfl ?_
  refine oIloadN C d1_1 rfl rfl ?_
  refine oBipush C d1_2 (z := 92) rfl rfl ?_
  refine oCastore C A_b (by decide) (k := 3) rfl (v := .int fi) rfl (v' := .int 92) rfl d1_4 rfl g_b fun h48 W48 A48 => ?_
  have A48l : oAr Z h48 b .char [.int fi, .int fi, .int fi, .int 92, .int fi, .int fi, .int fi, .int fi, .int fi, .int fi] := A48
  refine oAloadN C d1_5 rfl rfl rfl ?_
  refine oIloadN C d1_6 rfl rfl ?_
  refine oIconst C d1_7 (z := 1) rfl rfl ?_
  refine oIadd C d1_8 rfl ?_
  refine oCastI (z' := (4 : Int32)) (by decide) ?_
  refine oBipush C d1_9 (z := 117) rfl rfl ?_
  refine oCastore C A48l (by decide) (k := 4) rfl (v := .int fi) rfl (v' := .int 117) rfl d1_11 rfl g_b fun h49 W49 A49 => ?_
  have A49l : oAr Z h49 b .char [.int fi, .int fi, .int fi, .int 92, .int 117, .int fi, .int fi, .int fi, .int fi, .int fi] := A49
  refine oIconst C d1_12 (z := 0) rfl rfl ?_
  refine oIstoreN C d1_13 (Ls' := #[.val (.ref b), .val (.int 3), .val (.int ch), .val (.int 0)]) rfl (q := 14) rfl ?_
  refine oIloadN C d1_14 rfl rfl ?_
  refine oIconst C d1_15 (z := 4) rfl rfl ?_
  refine oIcmp_ge C d1_16 (q := 47) (by decide) (by decide) (r := 19) rfl (fun hq => absurd hq ((by decide))) (fun hc16 => ?_)
  refine oAloadN C d1_19 rfl rfl rfl ?_
  refine oIloadN C d1_20 rfl rfl ?_
  refine oIconst C d1_21 (z := 2) rfl rfl ?_
  refine oIadd C d1_22 rfl ?_
  refine oCastI (z' := (5 : Int32)) (by decide) ?_
  refine oIloadN C d1_23 rfl rfl ?_
  refine oIadd C d1_24 rfl ?_
  refine oCastI (z' := (5 : Int32)) (by decide) ?_
  have f50 := (Sta.wr W49 (Sta.wr W48 S_hx))
  refine oGetS C (w6 hw) Via.refl f50 d1_25 rfl ?_
  refine oIloadN C d1_28 rfl rfl ?_
  refine oBipush C d1_29 (z := 12) rfl rfl ?_
  refine oIconst C d1_31 (z := 4) rfl rfl ?_
  refine oIloadN C d1_32 rfl rfl ?_
  refine oImul C d1_33 rfl ?_
  refine oCastI (z' := (0 : Int32)) (by decide) ?_
  refine oIsub C d1_34 rfl ?_
  refine oCastI (z' := (12 : Int32)) (by decide) ?_
  refine oIshr C d1_35 rfl ?_
  refine oBipush C d1_36 (z := 15) rfl rfl ?_
  refine oIand C d1_38 rfl ?_
  have f51 := ((A_hx.other W48 ne_hb).other W49 ne_hb)
  refine oCaload C f51 (own_nn _) (k := ((ch >>> ((12 : Int32) &&& 31)) &&& (15 : Int32)).toNatClampNeg) rfl (v := .int (hxd 12 ch)) (own_hexat _ _) d1_39 rfl ?_
  refine oCastore C A49l (by decide) (k := 5) rfl (v := .int fi) rfl (v' := .int (hxd 12 ch)) (congrArg Value.int (own_hxn _ _)) d1_40 rfl g_b fun h52 W52 A52 => ?_
  have A52l : oAr Z h52 b .char [.int fi, .int fi, .int fi, .int 92, .int 117, .int (hxd 12 ch), .int fi, .int fi, .int fi, .int fi] := A52
  refine oIinc C d1_41 rfl (z := 1) rfl (w := (1 : Int32)) (by decide) (Ls' := #[.val (.ref b), .val (.int 3), .val (.int ch), .val (.int 1)]) rfl rfl ?_
  refine oGoto C d1_44 (q := 14) (by decide) (by decide) ?_
  refine oIloadN C d1_14 rfl rfl ?_
  refine oIconst C d1_15 (z := 4) rfl rfl ?_
  refine oIcmp_ge C d1_16 (q := 47) (by decide) (by decide) (r := 19) rfl (fun hq => absurd hq ((by decide))) (fun hc16_1 => ?_)
  refine oAloadN C d1_19 rfl rfl rfl ?_
  refine oIloadN C d1_20 rfl rfl ?_
  refine oIconst C d1_21 (z := 2) rfl rfl ?_
  refine oIadd C d1_22 rfl ?_
  refine oCastI (z' := (5 : Int32)) (by decide) ?_
  refine oIloadN C d1_23 rfl rfl ?_
  refine oIadd C d1_24 rfl ?_
  refine oCastI (z' := (6 : Int32)) (by decide) ?_
  have f53 := (Sta.wr W52 f50)
  refine oGetS C (w6 hw) Via.refl f53 d1_25 rfl ?_
  refine oIloadN C d1_28 rfl rfl ?_
  refine oBipush C d1_29 (z := 12) rfl rfl ?_
  refine oIconst C d1_31 (z := 4) rfl rfl ?_
  refine oIloadN C d1_32 rfl rfl ?_
  refine oImul C d1_33 rfl ?_
  refine oCastI (z' := (4 : Int32)) (by decide) ?_
  refine oIsub C d1_34 rfl ?_
  refine oCastI (z' := (8 : Int32)) (by decide) ?_
  refine oIshr C d1_35 rfl ?_
  refine oBipush C d1_36 (z := 15) rfl rfl ?_
  refine oIand C d1_38 rfl ?_
  have f54 := (f51.other W52 ne_hb)
  refine oCaload C f54 (own_nn _) (k := ((ch >>> ((8 : Int32) &&& 31)) &&& (15 : Int32)).toNatClampNeg) rfl (v := .int (hxd 8 ch)) (own_hexat _ _) d1_39 rfl ?_
  refine oCastore C A52l (by decide) (k := 6) rfl (v := .int fi) rfl (v' := .int (hxd 8 ch)) (congrArg Value.int (own_hxn _ _)) d1_40 rfl g_b fun h55 W55 A55 => ?_
  have A55l : oAr Z h55 b .char [.int fi, .int fi, .int fi, .int 92, .int 117, .int (hxd 12 ch), .int (hxd 8 ch), .int fi, .int fi, .int fi] := A55
  refine oIinc C d1_41 rfl (z := 1) rfl (w := (2 : Int32)) (by decide) (Ls' := #[.val (.ref b), .val (.int 3), .val (.int ch), .val (.int 2)]) rfl rfl ?_
  refine oGoto C d1_44 (q := 14) (by decide) (by decide) ?_
  refine oIloadN C d1_14 rfl rfl ?_
  refine oIconst C d1_15 (z := 4) rfl rfl ?_
  refine oIcmp_ge C d1_16 (q := 47) (by decide) (by decide) (r := 19) rfl (fun hq => absurd hq ((by decide))) (fun hc16_2 => ?_)
  refine oAloadN C d1_19 rfl rfl rfl ?_
  refine oIloadN C d1_20 rfl rfl ?_
  refine oIconst C d1_21 (z := 2) rfl rfl ?_
  refine oIadd C d1_22 rfl ?_
  refine oCastI (z' := (5 : Int32)) (by decide) ?_
  refine oIloadN C d1_23 rfl rfl ?_
  refine oIadd C d1_24 rfl ?_
  refine oCastI (z' := (7 : Int32)) (by decide) ?_
  have f56 := (Sta.wr W55 f53)
  refine oGetS C (w6 hw) Via.refl f56 d1_25 rfl ?_
  refine oIloadN C d1_28 rfl rfl ?_
  refine oBipush C d1_29 (z := 12) rfl rfl ?_
  refine oIconst C d1_31 (z := 4) rfl rfl ?_
  refine oIloadN C d1_32 rfl rfl ?_
  refine oImul C d1_33 rfl ?_
  refine oCastI (z' := (8 : Int32)) (by decide) ?_
  refine oIsub C d1_34 rfl ?_
  refine oCastI (z' := (4 : Int32)) (by decide) ?_
  refine oIshr C d1_35 rfl ?_
  refine oBipush C d1_36 (z := 15) rfl rfl ?_
  refine oIand C d1_38 rfl ?_
  have f57 := (f54.other W55 ne_hb)
  refine oCaload C f57 (own_nn _) (k := ((ch >>> ((4 : Int32) &&& 31)) &&& (15 : Int32)).toNatClampNeg) rfl (v := .int (hxd 4 ch)) (own_hexat _ _) d1_39 rfl ?_
  refine oCastore C A55l (by decide) (k := 7) rfl (v := .int fi) rfl (v' := .int (hxd 4 ch)) (congrArg Value.int (own_hxn _ _)) d1_40 rfl g_b fun h58 W58 A58 => ?_
  have A58l : oAr Z h58 b .char [.int fi, .int fi, .int fi, .int 92, .int 117, .int (hxd 12 ch), .int (hxd 8 ch), .int (hxd 4 ch), .int fi, .int fi] := A58
  refine oIinc C d1_41 rfl (z := 1) rfl (w := (3 : Int32)) (by decide) (Ls' := #[.val (.ref b), .val (.int 3), .val (.int ch), .val (.int 3)]) rfl rfl ?_
  refine oGoto C d1_44 (q := 14) (by decide) (by decide) ?_
  refine oIloadN C d1_14 rfl rfl ?_
  refine oIconst C d1_15 (z := 4) rfl rfl ?_
  refine oIcmp_ge C d1_16 (q := 47) (by decide) (by decide) (r := 19) rfl (fun hq => absurd hq ((by decide))) (fun hc16_3 => ?_)
  refine oAloadN C d1_19 rfl rfl rfl ?_
  refine oIloadN C d1_20 rfl rfl ?_
  refine oIconst C d1_21 (z := 2) rfl rfl ?_
  refine oIadd C d1_22 rfl ?_
  refine oCastI (z' := (5 : Int32)) (by decide) ?_
  refine oIloadN C d1_23 rfl rfl ?_
  refine oIadd C d1_24 rfl ?_
  refine oCastI (z' := (8 : Int32)) (by decide) ?_
  have f59 := (Sta.wr W58 f56)
  refine oGetS C (w6 hw) Via.refl f59 d1_25 rfl ?_
  refine oIloadN C d1_28 rfl rfl ?_
  refine oBipush C d1_29 (z := 12) rfl rfl ?_
  refine oIconst C d1_31 (z := 4) rfl rfl ?_
  refine oIloadN C d1_32 rfl rfl ?_
  refine oImul C d1_33 rfl ?_
  refine oCastI (z' := (12 : Int32)) (by decide) ?_
  refine oIsub C d1_34 rfl ?_
  refine oCastI (z' := (0 : Int32)) (by decide) ?_
  refine oIshr C d1_35 rfl ?_
  refine oBipush C d1_36 (z := 15) rfl rfl ?_
  refine oIand C d1_38 rfl ?_
  have f60 := (f57.other W58 ne_hb)
  refine oCaload C f60 (own_nn _) (k := ((ch >>> ((0 : Int32) &&& 31)) &&& (15 : Int32)).toNatClampNeg) rfl (v := .int (hxd 0 ch)) (own_hexat _ _) d1_39 rfl ?_
  refine oCastore C A58l (by decide) (k := 8) rfl (v := .int fi) rfl (v' := .int (hxd 0 ch)) (congrArg Value.int (own_hxn _ _)) d1_40 rfl g_b fun h61 W61 A61 => ?_
  have A61l : oAr Z h61 b .char [.int fi, .int fi, .int fi, .int 92, .int 117, .int (hxd 12 ch), .int (hxd 8 ch), .int (hxd 4 ch), .int (hxd 0 ch), .int fi] := A61
  refine oIinc C d1_41 rfl (z := 1) rfl (w := (4 : Int32)) (by decide) (Ls' := #[.val (.ref b), .val (.int 3), .val (.int ch), .val (.int 4)]) rfl rfl ?_
  refine oGoto C d1_44 (q := 14) (by decide) (by decide) ?_
  refine oIloadN C d1_14 rfl rfl ?_
  refine oIconst C d1_15 (z := 4) rfl rfl ?_
  refine oIcmp_ge C d1_16 (q := 47) (by decide) (by decide) (r := 19) rfl (fun hc16_4 => ?_) (fun hq => absurd hq ((by decide)))
  refine oIloadN C d1_47 rfl rfl ?_
  refine oBipush C d1_48 (z := 6) rfl rfl ?_
  refine oIadd C d1_50 rfl ?_
  refine oCastI (z' := (9 : Int32)) (by decide) ?_
  refine oRetI C d1_51 (by decide) (by decide) ?_
  exact ⟨rfl, (((((((Keep.refl h0 [b]).wr W48 (Or.inl (List.mem_of_getElem? (i := 0) rfl))).wr W49 (Or.inl (List.mem_of_getElem? (i := 0) rfl))).wr W52 (Or.inl (List.mem_of_getElem? (i := 0) rfl))).wr W55 (Or.inl (List.mem_of_getElem? (i := 0) rfl))).wr W58 (Or.inl (List.mem_of_getElem? (i := 0) rfl))).wr W61 (Or.inl (List.mem_of_getElem? (i := 0) rfl))), A61l⟩
set_option maxRecDepth 65536 in
set_option maxHeartbeats 40000000 in
theorem mt_pe4 (l : Launch) (Z : State) (a0 : Array Value) (hw : oHw a0 Z) (h0 : Heap) (n0 : Nat) (Z0 : n0 ≤ h0.size) (b hx : Addr) (ch fi : Int32) (A_b : oAr Z h0 b .char [.int fi, .int fi, .int fi, .int fi, .int fi, .int fi, .int fi, .int fi, .int fi, .int fi]) (A_hx : oAr Z h0 hx .char oHEX) (S_hx : Sta Z h0 "com/example/epikrise/epikrise/core/ControlCharacters" "HEX_DIGITS" "[C" (.ref hx)) (g_b : n0 ≤ b) (ne_hb : hx ≠ b) :
    oMet l Z (⟨"com/example/epikrise/epikrise/core/ControlCharacters", "putEscape", "([CIC)I"⟩ : MethodName) prog_31_method_4_code 4 (some .int) [] ({ frames := 0, cells := 0, slots := 0, locals := 0 } : Room) 0 0 n0 #[.ref b, .int 4, .int ch] h0 (fun v h => v = some (.int 10) ∧ Keep h0 h [b] ∧ oAr Z h b .char [.int fi, .int fi, .int fi, .int fi, .int 92, .int 117, .int (hxd 12 ch), .int (hxd 8 ch), .int (hxd 4 ch), .int (hxd 0 ch)]) := by
  refine oMet.intro (plainFor_of_name pn_630541) (fun m => ef_1 m b (4 : Int32) ch) ?_
  intro op oe os m obl omt ocd C
  refine oAloadN C d1_0 rfl rfl rfl ?_
  refine oIloadN C d1_1 rfl rfl ?_
  refine oBipush C d1_2 (z := 92) rfl rfl ?_
  refine oCastore C A_b (by decide) (k := 4) rfl (v := .int fi) rfl (v' := .int 92) rfl d1_4 rfl g_b fun h62 W62 A62 => ?_
  have A62l : oAr Z h62 b .char [.int fi, .int fi, .int fi, .int fi, .int 92, .int fi, .int fi, .int fi, .int fi, .int fi] := A62
  refine oAloadN C d1_5 rfl rfl rfl ?_
  refine oIloadN C d1_6 rfl rfl ?_
  refine oIconst C d1_7 (z := 1) rfl rfl ?_
  refine oIadd C d1_8 rfl ?_
  refine oCastI (z' := (5 : Int32)) (by decide) ?_
  refine oBipush C d1_9 (z := 117) rfl rfl ?_
  refine oCastore C A62l (by decide) (k := 5) rfl (v := .int fi) rfl (v' := .int 117) rfl d1_11 rfl g_b fun h63 W63 A63 => ?_
  have A63l : oAr Z h63 b .char [.int fi, .int fi, .int fi, .int fi, .int 92, .int 117, .int fi, .int fi, .int fi, .int fi] := A63
  refine oIconst C d1_12 (z := 0) rfl rfl ?_
  refine oIstoreN C d1_13 (Ls' := #[.val (.ref b), .val (.int 4), .val (.int ch), .val (.int 0)]) rfl (q := 14) rfl ?_
  refine oIloadN C d1_14 rfl rfl ?_
  refine oIconst C d1_15 (z := 4) rfl rfl ?_
  refine oIcmp_ge C d1_16 (q := 47) (by decide) (by decide) (r := 19) rfl (fun hq => absurd hq ((by decide))) (fun hc16 => ?_)
  refine oAloadN C d1_19 rfl rfl rfl ?_
  refine oIloadN C d1_20 rfl rfl ?_
  refine oIconst C d1_21 (z := 2) rfl rfl ?_
  refine oIadd C d1_22 rfl ?_
  refine oCastI (z' := (6 : Int32)) (by decide) ?_
  refine oIloadN C d1_23 rfl rfl ?_
  refine oIadd C d1_24 rfl ?_
  refine oCastI (z' := (6 : Int32)) (by decide) ?_
  have f64 := (Sta.wr W63 (Sta.wr W62 S_hx))
  refine oGetS C (w6 hw) Via.refl f64 d1_25 rfl ?_
  refine oIloadN C d1_28 rfl rfl ?_
  refine oBipush C d1_29 (z := 12) rfl rfl ?_
  refine oIconst C d1_31 (z := 4) rfl rfl ?_
  refine oIloadN C d1_32 rfl rfl ?_
  refine oImul C d1_33 rfl ?_
  refine oCastI (z' := (0 : Int32)) (by decide) ?_
  refine oIsub C d1_34 rfl ?_
  refine oCastI (z' := (12 : Int32)) (by decide) ?_
  refine oIshr C d1_35 rfl ?_
  refine oBipush C d1_36 (z := 15) rfl rfl ?_
  refine oIand C d1_38 rfl ?_
  have f65 := ((A_hx.other W62 ne_hb).other W63 ne_hb)
  refine oCaload C f65 (own_nn _) (k := ((ch >>> ((12 : Int32) &&& 31)) &&& (15 : Int32)).toNatClampNeg) rfl (v := .int (hxd 12 ch)) (own_hexat _ _) d1_39 rfl ?_
  refine oCastore C A63l (by decide) (k := 6) rfl (v := .int fi) rfl (v' := .int (hxd 12 ch)) (congrArg Value.int (own_hxn _ _)) d1_40 rfl g_b fun h66 W66 A66 => ?_
  have A66l : oAr Z h66 b .char [.int fi, .int fi, .int fi, .int fi, .int 92, .int 117, .int (hxd 12 ch), .int fi, .int fi, .int fi] := A66
  refine oIinc C d1_41 rfl (z := 1) rfl (w := (1 : Int32)) (by decide) (Ls' := #[.val (.ref b), .val (.int 4), .val (.int ch), .val (.int 1)]) rfl rfl ?_
  refine oGoto C d1_44 (q := 14) (by decide) (by decide) ?_
  refine oIloadN C d1_14 rfl rfl ?_
  refine oIconst C d1_15 (z := 4) rfl rfl ?_
  refine oIcmp_ge C d1_16 (q := 47) (by decide) (by decide) (r := 19) rfl (fun hq => absurd hq ((by decide))) (fun hc16_1 => ?_)
  refine oAloadN C d1_19 rfl rfl rfl ?_
  refine oIloadN C d1_20 rfl rfl ?_
  refine oIconst C d1_21 (z := 2) rfl rfl ?_
  refine oIadd C d1_22 rfl ?_
  refine oCastI (z' := (6 : Int32)) (by decide) ?_
  refine oIloadN C d1_23 rfl rfl ?_
  refine oIadd C d1_24 rfl ?_
  refine oCastI (z' := (7 : Int32)) (by decide) ?_
  have f67 := (Sta.wr W66 f64)
  refine oGetS C (w6 hw) Via.refl f67 d1_25 rfl ?_
  refine oIloadN C d1_28 rfl rfl ?_
  refine oBipush C d1_29 (z := 12) rfl rfl ?_
  refine oIconst C d1_31 (z := 4) rfl rfl ?_
  refine oIloadN C d1_32 rfl rfl ?_
  refine oImul C d1_33 rfl ?_
  refine oCastI (z' := (4 : Int32)) (by decide) ?_
  refine oIsub C d1_34 rfl ?_
  refine oCastI (z' := (8 : Int32)) (by decide) ?_
  refine oIshr C d1_35 rfl ?_
  refine oBipush C d1_36 (z := 15) rfl rfl ?_
  refine oIand C d1_38 rfl ?_
  have f68 := (f65.other W66 ne_hb)
  refine oCaload C f68 (own_nn _) (k := ((ch >>> ((8 : Int32) &&& 31)) &&& (15 : Int32)).toNatClampNeg) rfl (v := .int (hxd 8 ch)) (own_hexat _ _) d1_39 rfl ?_
  refine oCastore C A66l (by decide) (k := 7) rfl (v := .int fi) rfl (v' := .int (hxd 8 ch)) (congrArg Value.int (own_hxn _ _)) d1_40 rfl g_b fun h69 W69 A69 => ?_
  have A69l : oAr Z h69 b .char [.int fi, .int fi, .int fi, .int fi, .int 92, .int 117, .int (hxd 12 ch), .int (hxd 8 ch), .int fi, .int fi] := A69
  refine oIinc C d1_41 rfl (z := 1) rfl (w := (2 : Int32)) (by decide) (Ls' := #[.val (.ref b), .val (.int 4), .val (.int ch), .val (.int 2)]) rfl rfl ?_
  refine oGoto C d1_44 (q := 14) (by decide) (by decide) ?_
  refine oIloadN C d1_14 rfl rfl ?_
  refine oIconst C d1_15 (z := 4) rfl rfl ?_
  refine oIcmp_ge C d1_16 (q := 47) (by decide) (by decide) (r := 19) rfl (fun hq => absurd hq ((by decide))) (fun hc16_2 => ?_)
  refine oAloadN C d1_19 rfl rfl rfl ?_
  refine oIloadN C d1_20 rfl rfl ?_
  refine oIconst C d1_21 (z := 2) rfl rfl ?_
  refine oIadd C d1_22 rfl ?_
  refine oCastI (z' := (6 : Int32)) (by decide) ?_
  refine oIloadN C d1_23 rfl rfl ?_
  refine oIadd C d1_24 rfl ?_
  refine oCastI (z' := (8 : Int32)) (by decide) ?_
  have f70 := (Sta.wr W69 f67)
  refine oGetS C (w6 hw) Via.refl f70 d1_25 rfl ?_
  refine oIloadN C d1_28 rfl rfl ?_
  refine oBipush C d1_29 (z := 12) rfl rfl ?_
  refine oIconst C d1_31 (z := 4) rfl rfl ?_
  refine oIloadN C d1_32 rfl rfl ?_
  refine oImul C d1_33 rfl ?_
  refine oCastI (z' := (8 : Int32)) (by decide) ?_
  refine oIsub C d1_34 rfl ?_
  refine oCastI (z' := (4 : Int32)) (by decide) ?_
  refine oIshr C d1_35 rfl ?_
  refine oBipush C d1_36 (z := 15) rfl rfl ?_
  refine oIand C d1_38 rfl ?_
  have f71 := (f68.other W69 ne_hb)
  refine oCaload C f71 (own_nn _) (k := ((ch >>> ((4 : Int32) &&& 31)) &&& (15 : Int32)).toNatClampNeg) rfl (v := .int (hxd 4 ch)) (own_hexat _ _) d1_39 rfl ?_
  refine oCastore C A69l (by decide) (k := 8) rfl (v := .int fi) rfl (v' := .int (hxd 4 ch)) (congrArg Value.int (own_hxn _ _)) d1_40 rfl g_b fun h72 W72 A72 => ?_
  have A72l : oAr Z h72 b .char [.int fi, .int fi, .int fi, .int fi, .int 92, .int 117, .int (hxd 12 ch), .int (hxd 8 ch), .int (hxd 4 ch), .int fi] := A72
  refine oIinc C d1_41 rfl (z := 1) rfl (w := (3 : Int32)) (by decide) (Ls' := #[.val (.ref b), .val (.int 4), .val (.int ch), .val (.int 3)]) rfl rfl ?_
  refine oGoto C d1_44 (q := 14) (by decide) (by decide) ?_
  refine oIloadN C d1_14 rfl rfl ?_
  refine oIconst C d1_15 (z := 4) rfl rfl ?_
  refine oIcmp_ge C d1_16 (q := 47) (by decide) (by decide) (r := 19) rfl (fun hq => absurd hq ((by decide))) (fun hc16_3 => ?_)
  refine oAloadN C d1_19 rfl rfl rfl ?_
  refine oIloadN C d1_20 rfl rfl ?_
  refine oIconst C d1_21 (z := 2) rfl rfl ?_
  refine oIadd C d1_22 rfl ?_
  refine oCastI (z' := (6 : Int32)) (by decide) ?_
  refine oIloadN C d1_23 rfl rfl ?_
  refine oIadd C d1_24 rfl ?_
  refine oCastI (z' := (9 : Int32)) (by decide) ?_
  have f73 := (Sta.wr W72 f70)
  refine oGetS C (w6 hw) Via.refl f73 d1_25 rfl ?_
  refine oIloadN C d1_28 rfl rfl ?_
  refine oBipush C d1_29 (z := 12) rfl rfl ?_
  refine oIconst C d1_31 (z := 4) rfl rfl ?_
  refine oIloadN C d1_32 rfl rfl ?_
  refine oImul C d1_33 rfl ?_
  refine oCastI (z' := (12 : Int32)) (by decide) ?_
  refine oIsub C d1_34 rfl ?_
  refine oCastI (z' := (0 : Int32)) (by decide) ?_
  refine oIshr C d1_35 rfl ?_
  refine oBipush C d1_36 (z := 15) rfl rfl ?_
  refine oIand C d1_38 rfl ?_
  have f74 := (f71.other W72 ne_hb)
  refine oCaload C f74 (own_nn _) (k := ((ch >>> ((0 : Int32) &&& 31)) &&& (15 : Int32)).toNatClampNeg) rfl (v := .int (hxd 0 ch)) (own_hexat _ _) d1_39 rfl ?_
  refine oCastore C A72l (by decide) (k := 9) rfl (v := .int fi) rfl (v' := .int (hxd 0 ch)) (congrArg Value.int (own_hxn _ _)) d1_40 rfl g_b fun h75 W75 A75 => ?_
  have A75l : oAr Z h75 b .char [.int fi, .int fi, .int fi, .int fi, .int 92, .int 117, .int (hxd 12 ch), .int (hxd 8 ch), .int (hxd 4 ch), .int (hxd 0 ch)] := A75
  refine oIinc C d1_41 rfl (z := 1) rfl (w := (4 : Int32)) (by decide) (Ls' := #[.val (.ref b), .val (.int 4), .val (.int ch), .val (.int 4)]) rfl rfl ?_
  refine oGoto C d1_44 (q := 14) (by decide) (by decide) ?_
  refine oIloadN C d1_14 rfl rfl ?_
  refine oIconst C d1_15 (z := 4) rfl rfl ?_
  refine oIcmp_ge C d1_16 (q := 47) (by decide) (by decide) (r := 19) rfl (fun hc16_4 => ?_) (fun hq => absurd hq ((by decide)))
  refine oIloadN C d1_47 rfl rfl ?_
  refine oBipush C d1_48 (z := 6) rfl rfl ?_
  refine oIadd C d1_50 rfl ?_
  refine oCastI (z' := (10 : Int32)) (by decide) ?_
  refine oRetI C d1_51 (by decide) (by decide) ?_
  exact ⟨rfl, (((((((Keep.refl h0 [b]).wr W62 (Or.inl (List.mem_of_getElem? (i := 0) rfl))).wr W63 (Or.inl (List.mem_of_getElem? (i := 0) rfl))).wr W66 (Or.inl (List.mem_of_getElem? (i := 0) rfl))).wr W69 (Or.inl (List.mem_of_getElem? (i := 0) rfl))).wr W72 (Or.inl (List.mem_of_getElem? (i := 0) rfl))).wr W75 (Or.inl (List.mem_of_getElem? (i := 0) rfl))), A75l⟩
theorem ef_0 (m : MethodId) (x0 : Int32) (x1 : Int32) (x2 : Int32) : entryFrame m #[.int x0, .int x1, .int x2] maxLocals = mkF m 0 #[.val (.int x0), .val (.int x1), .val (.int x2), .unset, .unset, .unset, .unset, .unset, .unset] [] := by first | (simp [entryFrame, mkF, argsToLocals, Value.category, maxLocals]; done) | rfl
theorem pd_62772 : parseMethodDescriptor "([CIC)I" = some ⟨[(.array .char), .int, .char], some .int⟩ := by decide +kernel
theorem pd_62477 : parseMethodDescriptor "([CIIIC)Z" = some ⟨[(.array .char), .int, .int, .int, .char], some .boolean⟩ := by decide +kernel
set_option maxRecDepth 65536 in
set_option maxHeartbeats 40000000 in
theorem mt_law (l : Launch) (Z : State) (a0 : Array Value) (hw : oHw a0 Z) (h0 : Heap) (n0 : Nat) (Z0 : n0 ≤ h0.size) (x0 : Int32) (x1 : Int32) (x2 : Int32) (hx : Addr) (S_hx : Sta Z h0 "com/example/epikrise/epikrise/core/ControlCharacters" "HEX_DIGITS" "[C" (.ref hx)) (A_hx : oAr Z h0 hx .char oHEX) :
    oMet l Z x code maxLocals ret tables_1 room_1 16 128 n0 #[.int x0, .int x1, .int x2] h0 (fun v h => v = some (.int 1)) := by
  refine oMet.intro (plainFor_of_name pn_684866) (fun m => ef_0 m x0 x1 x2) ?_
  intro op oe os m obl omt ocd C
  refine oIloadN C at_0 rfl rfl ?_
  refine oI2C C at_1 rfl ?_
  obtain ⟨ch, e_ch⟩ : ∃ z, z = (x0.toUInt32.toUInt16.toUInt32.toInt32) := ⟨_, rfl⟩
  refine oCastI e_ch.symm ?_
  have r_ch : 0 ≤ ch.toInt ∧ ch.toInt < 65536 := by rw [e_ch]; exact (c_i2c x0).2
  refine oIstoreN C at_2 (Ls' := #[.val (.int x0), .val (.int x1), .val (.int x2), .val (.int ch), .unset, .unset, .unset, .unset, .unset]) rfl (q := 3) rfl ?_
  refine oIloadN C at_3 rfl rfl ?_
  refine oIstore C at_4 (Ls' := #[.val (.int x0), .val (.int x1), .val (.int x2), .val (.int ch), .val (.int ch), .unset, .unset, .unset, .unset]) rfl (q := 6) rfl ?_
  refine oIloadN C at_6 rfl rfl ?_
  refine oLdc C (w0 hw) at_7 rfl ?_
  refine oIand C at_9 rfl ?_
  refine oIconst C at_10 (z := 5) rfl rfl ?_
  refine oIrem C at_11 (by decide) rfl ?_
  rcases own_at x1 with hv | hv | hv | hv | hv
  ·
   refine oCastI (z' := (0 : Int32)) hv ?_
   refine oIstore C at_12 (Ls' := #[.val (.int x0), .val (.int x1), .val (.int x2), .val (.int ch), .val (.int ch), .val (.int 0), .unset, .unset, .unset]) rfl (q := 14) rfl ?_
   refine oIloadN C at_14 rfl rfl ?_
   refine oI2C C at_15 rfl ?_
   obtain ⟨fi, e_fi⟩ : ∃ z, z = (x2.toUInt32.toUInt16.toUInt32.toInt32) := ⟨_, rfl⟩
   refine oCastI e_fi.symm ?_
   have r_fi : nar .char fi = fi := by rw [e_fi]; exact own_idem x2
   refine oIstore C at_16 (Ls' := #[.val (.int x0), .val (.int x1), .val (.int x2), .val (.int ch), .val (.int ch), .val (.int 0), .val (.int fi), .unset, .unset]) rfl (q := 18) rfl ?_
   refine oBipush C at_18 (z := 10) rfl rfl ?_
   refine oNewA C (w1 hw) rfl at_20 rfl (by decide) (k := 10) rfl (by decide) (by decide) (cap := 10) (Nat.le_refl _) (by decide) (by decide) fun a76 h76 g_a76 E76 A76 => ?_
   have ge_a76 : n0 ≤ a76 := g_a76 ▸ Z0
   have A76l : oAr Z h76 a76 .char [.int 0, .int 0, .int 0, .int 0, .int 0, .int 0, .int 0, .int 0, .int 0, .int 0] := A76
   refine oAstore C at_22 rfl (Ls' := #[.val (.int x0), .val (.int x1), .val (.int x2), .val (.int ch), .val (.int ch), .val (.int 0), .val (.int fi), .val (.ref a76), .unset]) rfl (q := 24) rfl ?_
   refine oAload C at_24 rfl rfl rfl ?_
   refine oIconst C at_26 (z := 0) rfl rfl ?_
   refine oIload C at_27 rfl rfl ?_
   refine oCastore C A76l (by decide) (k := 0) rfl (v := .int 0) rfl (v' := .int fi) (congrArg Value.int r_fi) at_29 rfl ge_a76 fun h77 W77 A77 => ?_
   have A77l : oAr Z h77 a76 .char [.int fi, .int 0, .int 0, .int 0, .int 0, .int 0, .int 0, .int 0, .int 0, .int 0] := A77
   refine oAload C at_30 rfl rfl rfl ?_
   refine oIconst C at_32 (z := 1) rfl rfl ?_
   refine oIload C at_33 rfl rfl ?_
   refine oCastore C A77l (by decide) (k := 1) rfl (v := .int 0) rfl (v' := .int fi) (congrArg Value.int r_fi) at_35 rfl ge_a76 fun h78 W78 A78 => ?_
   have A78l : oAr Z h78 a76 .char [.int fi, .int fi, .int 0, .int 0, .int 0, .int 0, .int 0, .int 0, .int 0, .int 0] := A78
   refine oAload C at_36 rfl rfl rfl ?_
   refine oIconst C at_38 (z := 2) rfl rfl ?_
   refine oIload C at_39 rfl rfl ?_
   refine oCastore C A78l (by decide) (k := 2) rfl (v := .int 0) rfl (v' := .int fi) (congrArg Value.int r_fi) at_41 rfl ge_a76 fun h79 W79 A79 => ?_
   have A79l : oAr Z h79 a76 .char [.int fi, .int fi, .int fi, .int 0, .int 0, .int 0, .int 0, .int 0, .int 0, .int 0] := A79
   refine oAload C at_42 rfl rfl rfl ?_
   refine oIconst C at_44 (z := 3) rfl rfl ?_
   refine oIload C at_45 rfl rfl ?_
   refine oCastore C A79l (by decide) (k := 3) rfl (v := .int 0) rfl (v' := .int fi) (congrArg Value.int r_fi) at_47 rfl ge_a76 fun h80 W80 A80 => ?_
   have A80l : oAr Z h80 a76 .char [.int fi, .int fi, .int fi, .int fi, .int 0, .int 0, .int 0, .int 0, .int 0, .int 0] := A80
   refine oAload C at_48 rfl rfl rfl ?_
   refine oIconst C at_50 (z := 4) rfl rfl ?_
   refine oIload C at_51 rfl rfl ?_
   refine oCastore C A80l (by decide) (k := 4) rfl (v := .int 0) rfl (v' := .int fi) (congrArg Value.int r_fi) at_53 rfl ge_a76 fun h81 W81 A81 => ?_
   have A81l : oAr Z h81 a76 .char [.int fi, .int fi, .int fi, .int fi, .int fi, .int 0, .int 0, .int 0, .int 0, .int 0] := A81
   refine oAload C at_54 rfl rfl rfl ?_
   refine oIconst C at_56 (z := 5) rfl rfl ?_
   refine oIload C at_57 rfl rfl ?_
   refine oCastore C A81l (by decide) (k := 5) rfl (v := .int 0) rfl (v' := .int fi) (congrArg Value.int r_fi) at_59 rfl ge_a76 fun h82 W82 A82 => ?_
   have A82l : oAr Z h82 a76 .char [.int fi, .int fi, .int fi, .int fi, .int fi, .int fi, .int 0, .int 0, .int 0, .int 0] := A82
   refine oAload C at_60 rfl rfl rfl ?_
   refine oBipush C at_62 (z := 6) rfl rfl ?_
   refine oIload C at_64 rfl rfl ?_
   refine oCastore C A82l (by decide) (k := 6) rfl (v := .int 0) rfl (v' := .int fi) (congrArg Value.int r_fi) at_66 rfl ge_a76 fun h83 W83 A83 => ?_
   have A83l : oAr Z h83 a76 .char [.int fi, .int fi, .int fi, .int fi, .int fi, .int fi, .int fi, .int 0, .int 0, .int 0] := A83
   refine oAload C at_67 rfl rfl rfl ?_
   refine oBipush C at_69 (z := 7) rfl rfl ?_
   refine oIload C at_71 rfl rfl ?_
   refine oCastore C A83l (by decide) (k := 7) rfl (v := .int 0) rfl (v' := .int fi) (congrArg Value.int r_fi) at_73 rfl ge_a76 fun h84 W84 A84 => ?_
   have A84l : oAr Z h84 a76 .char [.int fi, .int fi, .int fi, .int fi, .int fi, .int fi, .int fi, .int fi, .int 0, .int 0] := A84
   refine oAload C at_74 rfl rfl rfl ?_
   refine oBipush C at_76 (z := 8) rfl rfl ?_
   refine oIload C at_78 rfl rfl ?_
   refine oCastore C A84l (by decide) (k := 8) rfl (v := .int 0) rfl (v' := .int fi) (congrArg Value.int r_fi) at_80 rfl ge_a76 fun h85 W85 A85 => ?_
   have A85l : oAr Z h85 a76 .char [.int fi, .int fi, .int fi, .int fi, .int fi, .int fi, .int fi, .int fi, .int fi, .int 0] := A85
   refine oAload C at_81 rfl rfl rfl ?_
   refine oBipush C at_83 (z := 9) rfl rfl ?_
   refine oIload C at_85 rfl rfl ?_
   refine oCastore C A85l (by decide) (k := 9) rfl (v := .int 0) rfl (v' := .int fi) (congrArg Value.int r_fi) at_87 rfl ge_a76 fun h86 W86 A86 => ?_
   have A86l : oAr Z h86 a76 .char [.int fi, .int fi, .int fi, .int fi, .int fi, .int fi, .int fi, .int fi, .int fi, .int fi] := A86
   refine oAload C at_88 rfl rfl rfl ?_
   refine oIload C at_90 rfl rfl ?_
   refine oIloadN C at_92 rfl rfl ?_
   have ne87 : hx ≠ a76 := oNe' A_hx.lt (Nat.le_of_eq g_a76.symm)
   have f88 := (((((((((((A_hx.ext E76).other W77 ne87).other W78 ne87).other W79 ne87).other W80 ne87).other W81 ne87).other W82 ne87).other W83 ne87).other W84 ne87).other W85 ne87).other W86 ne87)
   have f89 := (Sta.wr W86 (Sta.wr W85 (Sta.wr W84 (Sta.wr W83 (Sta.wr W82 (Sta.wr W81 (Sta.wr W80 (Sta.wr W79 (Sta.wr W78 (Sta.wr W77 (Sta.ext E76 S_hx)))))))))))
   have z91 := (Nat.le_trans (Nat.le_trans (Nat.le_trans (Nat.le_trans (Nat.le_trans (Nat.le_trans (Nat.le_trans (Nat.le_trans (Nat.le_trans (Nat.le_trans (Nat.le_trans Z0 E76.1) (Nat.le_of_eq W77.size.symm)) (Nat.le_of_eq W78.size.symm)) (Nat.le_of_eq W79.size.symm)) (Nat.le_of_eq W80.size.symm)) (Nat.le_of_eq W81.size.symm)) (Nat.le_of_eq W82.size.symm)) (Nat.le_of_eq W83.size.symm)) (Nat.le_of_eq W84.size.symm)) (Nat.le_of_eq W85.size.symm)) (Nat.le_of_eq W86.size.symm))
   refine oCallS C (w2 hw) (w3 hw) (w4 hw) (w5 hw) at_93 (by decide) pd_62772 rfl rfl (argsL := [.ref a76, .int 0, .int ch]) (rest := []) rfl (W := 0) rfl (q := 96) rfl (by decide) (by decide) (by decide) (by decide) (mt_pe0 l Z a0 hw _ n0 z91 a76 hx ch fi A86l f88 f89 ge_a76 ne87) ?_
   rintro _ h90 ⟨rfl, K90, A90⟩
   show oW _ _ _ _ _ _ _ _ _ _ _ _ _ _ _ (mkF m 96 #[.val (.int x0), .val (.int x1), .val (.int x2), .val (.int ch), .val (.int ch), .val (.int 0), .val (.int fi), .val (.ref a76), .unset] [.int 6])
   refine oIstore C at_96 (Ls' := #[.val (.int x0), .val (.int x1), .val (.int x2), .val (.int ch), .val (.int ch), .val (.int 0), .val (.int fi), .val (.ref a76), .val (.int 6)]) rfl (q := 98) rfl ?_
   refine oIload C at_98 rfl rfl ?_
   refine oIload C at_100 rfl rfl ?_
   refine oBipush C at_102 (z := 6) rfl rfl ?_
   refine oIadd C at_104 rfl ?_
   refine oCastI (z' := (6 : Int32)) (by decide) ?_
   refine oIcmp_eq C at_105 (q := 110) (by decide) (by decide) (r := 108) rfl (fun hc105 => ?_) (fun hq => absurd hq ((by decide)))
   refine oAload C at_110 rfl rfl rfl ?_
   refine oIconst C at_112 (z := 0) rfl rfl ?_
   refine oIload C at_113 rfl rfl ?_
   refine oIload C at_115 rfl rfl ?_
   refine oIload C at_117 rfl rfl ?_
   have z92 := (Nat.le_trans z91 K90.1)
   refine oCallS C (w8 hw) (w9 hw) (w10 hw) (w11 hw) at_119 (by decide) pd_62477 rfl rfl (argsL := [.ref a76, .int 0, .int 0, .int ch, .int fi]) (rest := []) rfl (W := 0) rfl (q := 122) rfl (by decide) (by decide) (by decide) (by decide) (mt_chk l Z a0 hw _ n0 z92 a76 (0 : Int32) (0 : Int32) ch fi _ (92 : Int32) 0 A90 (by decide) rfl rfl) (oPureK ?_)
   refine oIf_eq C at_122 (q := 268) (by decide) (by decide) (r := 125) rfl (fun hq => absurd hq (own_chk ((own_e0 _ _ (by decide)).symm))) (fun hc122 => ?_)
   refine oAload C at_125 rfl rfl rfl ?_
   refine oIconst C at_127 (z := 1) rfl rfl ?_
   refine oIload C at_128 rfl rfl ?_
   refine oIload C at_130 rfl rfl ?_
   refine oIload C at_132 rfl rfl ?_
   refine oCallS C (w8 hw) (w9 hw) (w10 hw) (w11 hw) at_134 (by decide) pd_62477 rfl rfl (argsL := [.ref a76, .int 1, .int 0, .int ch, .int fi]) (rest := []) rfl (W := 0) rfl (q := 137) rfl (by decide) (by decide) (by decide) (by decide) (mt_chk l Z a0 hw _ n0 z92 a76 (1 : Int32) (0 : Int32) ch fi _ (117 : Int32) 1 A90 (by decide) rfl rfl) (oPureK ?_)
   refine oIf_eq C at_137 (q := 268) (by decide) (by decide) (r := 140) rfl (fun hq => absurd hq (own_chk ((own_e1 _ _ (by decide)).symm))) (fun hc137 => ?_)
   refine oAload C at_140 rfl rfl rfl ?_
   refine oIconst C at_142 (z := 2) rfl rfl ?_
   refine oIload C at_143 rfl rfl ?_
   refine oIload C at_145 rfl rfl ?_
   refine oIload C at_147 rfl rfl ?_
   refine oCallS C (w8 hw) (w9 hw) (w10 hw) (w11 hw) at_149 (by decide) pd_62477 rfl rfl (argsL := [.ref a76, .int 2, .int 0, .int ch, .int fi]) (rest := []) rfl (W := 0) rfl (q := 152) rfl (by decide) (by decide) (by decide) (by decide) (mt_chk l Z a0 hw _ n0 z92 a76 (2 : Int32) (0 : Int32) ch fi _ (hxd 12 ch) 2 A90 (by decide) rfl rfl) (oPureK ?_)
   refine oIf_eq C at_152 (q := 268) (by decide) (by decide) (r := 155) rfl (fun hq => absurd hq (own_chk ((own_d2 r_ch).trans (own_e2 _ _ (by decide)).symm))) (fun hc152 => ?_)
   refine oAload C at_155 rfl rfl rfl ?_
   refine oIconst C at_157 (z := 3) rfl rfl ?_
   refine oIload C at_158 rfl rfl ?_
   refine oIload C at_160 rfl rfl ?_
   refine oIload C at_162 rfl rfl ?_
   refine oCallS C (w8 hw) (w9 hw) (w10 hw) (w11 hw) at_164 (by decide) pd_62477 rfl rfl (argsL := [.ref a76, .int 3, .int 0, .int ch, .int fi]) (rest := []) rfl (W := 0) rfl (q := 167) rfl (by decide) (by decide) (by decide) (by decide) (mt_chk l Z a0 hw _ n0 z92 a76 (3 : Int32) (0 : Int32) ch fi _ (hxd 8 ch) 3 A90 (by decide) rfl rfl) (oPureK ?_)
   refine oIf_eq C at_167 (q := 268) (by decide) (by decide) (r := 170) rfl (fun hq => absurd hq (own_chk ((own_d3 r_ch).trans (own_e3 _ _ (by decide)).symm))) (fun hc167 => ?_)
   refine oAload C at_170 rfl rfl rfl ?_
   refine oIconst C at_172 (z := 4) rfl rfl ?_
   refine oIload C at_173 rfl rfl ?_
   refine oIload C at_175 rfl rfl ?_
   refine oIload C at_177 rfl rfl ?_
   refine oCallS C (w8 hw) (w9 hw) (w10 hw) (w11 hw) at_179 (by decide) pd_62477 rfl rfl (argsL := [.ref a76, .int 4, .int 0, .int ch, .int fi]) (rest := []) rfl (W := 0) rfl (q := 182) rfl (by decide) (by decide) (by decide) (by decide) (mt_chk l Z a0 hw _ n0 z92 a76 (4 : Int32) (0 : Int32) ch fi _ (hxd 4 ch) 4 A90 (by decide) rfl rfl) (oPureK ?_)
   refine oIf_eq C at_182 (q := 268) (by decide) (by decide) (r := 185) rfl (fun hq => absurd hq (own_chk ((own_d4 r_ch).trans (own_e4 _ _ (by decide)).symm))) (fun hc182 => ?_)
   refine oAload C at_185 rfl rfl rfl ?_
   refine oIconst C at_187 (z := 5) rfl rfl ?_
   refine oIload C at_188 rfl rfl ?_
   refine oIload C at_190 rfl rfl ?_
   refine oIload C at_192 rfl rfl ?_
   refine oCallS C (w8 hw) (w9 hw) (w10 hw) (w11 hw) at_194 (by decide) pd_62477 rfl rfl (argsL := [.ref a76, .int 5, .int 0, .int ch, .int fi]) (rest := []) rfl (W := 0) rfl (q := 197) rfl (by decide) (by decide) (by decide) (by decide) (mt_chk l Z a0 hw _ n0 z92 a76 (5 : Int32) (0 : Int32) ch fi _ (hxd 0 ch) 5 A90 (by decide) rfl rfl) (oPureK ?_)
   refine oIf_eq C at_197 (q := 268) (by decide) (by decide) (r := 200) rfl (fun hq => absurd hq (own_chk ((own_d5 r_ch).trans (own_e5 _ _ (by decide)).symm))) (fun hc197 => ?_)
   refine oAload C at_200 rfl rfl rfl ?_
   refine oBipush C at_202 (z := 6) rfl rfl ?_
   refine oIload C at_204 rfl rfl ?_
   refine oIload C at_206 rfl rfl ?_
   refine oIload C at_208 rfl rfl ?_
   refine oCallS C (w8 hw) (w9 hw) (w10 hw) (w11 hw) at_210 (by decide) pd_62477 rfl rfl (argsL := [.ref a76, .int 6, .int 0, .int ch, .int fi]) (rest := []) rfl (W := 0) rfl (q := 213) rfl (by decide) (by decide) (by decide) (by decide) (mt_chk l Z a0 hw _ n0 z92 a76 (6 : Int32) (0 : Int32) ch fi _ fi 6 A90 (by decide) rfl rfl) (oPureK ?_)
   refine oIf_eq C at_213 (q := 268) (by decide) (by decide) (r := 216) rfl (fun hq => absurd hq (own_chk (r_fi.symm.trans (own_eF _ _ (Or.inr (by decide))).symm))) (fun hc213 => ?_)
   refine oAload C at_216 rfl rfl rfl ?_
   refine oBipush C at_218 (z := 7) rfl rfl ?_
   refine oIload C at_220 rfl rfl ?_
   refine oIload C at_222 rfl rfl ?_
   refine oIload C at_224 rfl rfl ?_
   refine oCallS C (w8 hw) (w9 hw) (w10 hw) (w11 hw) at_226 (by decide) pd_62477 rfl rfl (argsL := [.ref a76, .int 7, .int 0, .int ch, .int fi]) (rest := []) rfl (W := 0) rfl (q := 229) rfl (by decide) (by decide) (by decide) (by decide) (mt_chk l Z a0 hw _ n0 z92 a76 (7 : Int32) (0 : Int32) ch fi _ fi 7 A90 (by decide) rfl rfl) (oPureK ?_)
   refine oIf_eq C at_229 (q := 268) (by decide) (by decide) (r := 232) rfl (fun hq => absurd hq (own_chk (r_fi.symm.trans (own_eF _ _ (Or.inr (by decide))).symm))) (fun hc229 => ?_)
   refine oAload C at_232 rfl rfl rfl ?_
   refine oBipush C at_234 (z := 8) rfl rfl ?_
   refine oIload C at_236 rfl rfl ?_
   refine oIload C at_238 rfl rfl ?_
   refine oIload C at_240 rfl rfl ?_
   refine oCallS C (w8 hw) (w9 hw) (w10 hw) (w11 hw) at_242 (by decide) pd_62477 rfl rfl (argsL := [.ref a76, .int 8, .int 0, .int ch, .int fi]) (rest := []) rfl (W := 0) rfl (q := 245) rfl (by decide) (by decide) (by decide) (by decide) (mt_chk l Z a0 hw _ n0 z92 a76 (8 : Int32) (0 : Int32) ch fi _ fi 8 A90 (by decide) rfl rfl) (oPureK ?_)
   refine oIf_eq C at_245 (q := 268) (by decide) (by decide) (r := 248) rfl (fun hq => absurd hq (own_chk (r_fi.symm.trans (own_eF _ _ (Or.inr (by decide))).symm))) (fun hc245 => ?_)
   refine oAload C at_248 rfl rfl rfl ?_
   refine oBipush C at_250 (z := 9) rfl rfl ?_
   refine oIload C at_252 rfl rfl ?_
   refine oIload C at_254 rfl rfl ?_
   refine oIload C at_256 rfl rfl ?_
   refine oCallS C (w8 hw) (w9 hw) (w10 hw) (w11 hw) at_258 (by decide) pd_62477 rfl rfl (argsL := [.ref a76, .int 9, .int 0, .int ch, .int fi]) (rest := []) rfl (W := 0) rfl (q := 261) rfl (by decide) (by decide) (by decide) (by decide) (mt_chk l Z a0 hw _ n0 z92 a76 (9 : Int32) (0 : Int32) ch fi _ fi 9 A90 (by decide) rfl rfl) (oPureK ?_)
   refine oIf_eq C at_261 (q := 268) (by decide) (by decide) (r := 264) rfl (fun hq => absurd hq (own_chk (r_fi.symm.trans (own_eF _ _ (Or.inr (by decide))).symm))) (fun hc261 => ?_)
   refine oIconst C at_264 (z := 1) rfl rfl ?_
   refine oGoto C at_265 (q := 269) (by decide) (by decide) ?_
   refine oRetZ C at_269 (z' := (1 : Int32)) rfl (by decide) (by decide) ?_
   exact rfl
  ·
   refine oCastI (z' := (1 : Int32)) hv ?_
   refine oIstore C at_12 (Ls' := #[.val (.int x0), .val (.int x1), .val (.int x2), .val (.int ch), .val (.int ch), .val (.int 1), .unset, .unset, .unset]) rfl (q := 14) rfl ?_
   refine oIloadN C at_14 rfl rfl ?_
   refine oI2C C at_15 rfl ?_
   obtain ⟨fi, e_fi⟩ : ∃ z, z = (x2.toUInt32.toUInt16.toUInt32.toInt32) := ⟨_, rfl⟩
   refine oCastI e_fi.symm ?_
   have r_fi : nar .char fi = fi := by rw [e_fi]; exact own_idem x2
   refine oIstore C at_16 (Ls' := #[.val (.int x0), .val (.int x1), .val (.int x2), .val (.int ch), .val (.int ch), .val (.int 1), .val (.int fi), .unset, .unset]) rfl (q := 18) rfl ?_
   refine oBipush C at_18 (z := 10) rfl rfl ?_
   refine oNewA C (w1 hw) rfl at_20 rfl (by decide) (k := 10) rfl (by decide) (by decide) (cap := 10) (Nat.le_refl _) (by decide) (by decide) fun a93 h93 g_a93 E93 A93 => ?_
   have ge_a93 : n0 ≤ a93 := g_a93 ▸ Z0
   have A93l : oAr Z h93 a93 .char [.int 0, .int 0, .int 0, .int 0, .int 0, .int 0, .int 0, .int 0, .int 0, .int 0] := A93
   refine oAstore C at_22 rfl (Ls' := #[.val (.int x0), .val (.int x1), .val (.int x2), .val (.int ch), .val (.int ch), .val (.int 1), .val (.int fi), .val (.ref a93), .unset]) rfl (q := 24) rfl ?_
   refine oAload C at_24 rfl rfl rfl ?_
   refine oIconst C at_26 (z := 0) rfl rfl ?_
   refine oIload C at_27 rfl rfl ?_
   refine oCastore C A93l (by decide) (k := 0) rfl (v := .int 0) rfl (v' := .int fi) (congrArg Value.int r_fi) at_29 rfl ge_a93 fun h94 W94 A94 => ?_
   have A94l : oAr Z h94 a93 .char [.int fi, .int 0, .int 0, .int 0, .int 0, .int 0, .int 0, .int 0, .int 0, .int 0] := A94
   refine oAload C at_30 rfl rfl rfl ?_
   refine oIconst C at_32 (z := 1) rfl rfl ?_
   refine oIload C at_33 rfl rfl ?_
   refine oCastore C A94l (by decide) (k := 1) rfl (v := .int 0) rfl (v' := .int fi) (congrArg Value.int r_fi) at_35 rfl ge_a93 fun h95 W95 A95 => ?_
   have A95l : oAr Z h95 a93 .char [.int fi, .int fi, .int 0, .int 0, .int 0, .int 0, .int 0, .int 0, .int 0, .int 0] := A95
   refine oAload C at_36 rfl rfl rfl ?_
   refine oIconst C at_38 (z := 2) rfl rfl ?_
   refine oIload C at_39 rfl rfl ?_
   refine oCastore C A95l (by decide) (k := 2) rfl (v := .int 0) rfl (v' := .int fi) (congrArg Value.int r_fi) at_41 rfl ge_a93 fun h96 W96 A96 => ?_
   have A96l : oAr Z h96 a93 .char [.int fi, .int fi, .int fi, .int 0, .int 0, .int 0, .int 0, .int 0, .int 0, .int 0] := A96
   refine oAload C at_42 rfl rfl rfl ?_
   refine oIconst C at_44 (z := 3) rfl rfl ?_
   refine oIload C at_45 rfl rfl ?_
   refine oCastore C A96l (by decide) (k := 3) rfl (v := .int 0) rfl (v' := .int fi) (congrArg Value.int r_fi) at_47 rfl ge_a93 fun h97 W97 A97 => ?_
   have A97l : oAr Z h97 a93 .char [.int fi, .int fi, .int fi, .int fi, .int 0, .int 0, .int 0, .int 0, .int 0, .int 0] := A97
   refine oAload C at_48 rfl rfl rfl ?_
   refine oIconst C at_50 (z := 4) rfl rfl ?_
   refine oIload C at_51 rfl rfl ?_
   refine oCastore C A97l (by decide) (k := 4) rfl (v := .int 0) rfl (v' := .int fi) (congrArg Value.int r_fi) at_53 rfl ge_a93 fun h98 W98 A98 => ?_
   have A98l : oAr Z h98 a93 .char [.int fi, .int fi, .int fi, .int fi, .int fi, .int 0, .int 0, .int 0, .int 0, .int 0] := A98
   refine oAload C at_54 rfl rfl rfl ?_
   refine oIconst C at_56 (z := 5) rfl rfl ?_
   refine oIload C at_57 rfl rfl ?_
   refine oCastore C A98l (by decide) (k := 5) rfl (v := .int 0) rfl (v' := .int fi) (congrArg Value.int r_fi) at_59 rfl ge_a93 fun h99 W99 A99 => ?_
   have A99l : oAr Z h99 a93 .char [.int fi, .int fi, .int fi, .int fi, .int fi, .int fi, .int 0, .int 0, .int 0, .int 0] := A99
   refine oAload C at_60 rfl rfl rfl ?_
   refine oBipush C at_62 (z := 6) rfl rfl ?_
   refine oIload C at_64 rfl rfl ?_
   refine oCastore C A99l (by decide) (k := 6) rfl (v := .int 0) rfl (v' := .int fi) (congrArg Value.int r_fi) at_66 rfl ge_a93 fun h100 W100 A100 => ?_
   have A100l : oAr Z h100 a93 .char [.int fi, .int fi, .int fi, .int fi, .int fi, .int fi, .int fi, .int 0, .int 0, .int 0] := A100
   refine oAload C at_67 rfl rfl rfl ?_
   refine oBipush C at_69 (z := 7) rfl rfl ?_
   refine oIload C at_71 rfl rfl ?_
   refine oCastore C A100l (by decide) (k := 7) rfl (v := .int 0) rfl (v' := .int fi) (congrArg Value.int r_fi) at_73 rfl ge_a93 fun h101 W101 A101 => ?_
   have A101l : oAr Z h101 a93 .char [.int fi, .int fi, .int fi, .int fi, .int fi, .int fi, .int fi, .int fi, .int 0, .int 0] := A101
   refine oAload C at_74 rfl rfl rfl ?_
   refine oBipush C at_76 (z := 8) rfl rfl ?_
   refine oIload C at_78 rfl rfl ?_
   refine oCastore C A101l (by decide) (k := 8) rfl (v := .int 0) rfl (v' := .int fi) (congrArg Value.int r_fi) at_80 rfl ge_a93 fun h102 W102 A102 => ?_
   have A102l : oAr Z h102 a93 .char [.int fi, .int fi, .int fi, .int fi, .int fi, .int fi, .int fi, .int fi, .int fi, .int 0] := A102
   refine oAload C at_81 rfl rfl rfl ?_
   refine oBipush C at_83 (z := 9) rfl rfl ?_
   refine oIload C at_85 rfl rfl ?_
   refine oCastore C A102l (by decide) (k := 9) rfl (v := .int 0) rfl (v' := .int fi) (congrArg Value.int r_fi) at_87 rfl ge_a93 fun h103 W103 A103 => ?_
   have A103l : oAr Z h103 a93 .char [.int fi, .int fi, .int fi, .int fi, .int fi, .int fi, .int fi, .int fi, .int fi, .int fi] := A103
   refine oAload C at_88 rfl rfl rfl ?_
   refine oIload C at_90 rfl rfl ?_
   refine oIloadN C at_92 rfl rfl ?_
   have ne104 : hx ≠ a93 := oNe' A_hx.lt (Nat.le_of_eq g_a93.symm)
   have f105 := (((((((((((A_hx.ext E93).other W94 ne104).other W95 ne104).other W96 ne104).other W97 ne104).other W98 ne104).other W99 ne104).other W100 ne104).other W101 ne104).other W102 ne104).other W103 ne104)
   have f106 := (Sta.wr W103 (Sta.wr W102 (Sta.wr W101 (Sta.wr W100 (Sta.wr W99 (Sta.wr W98 (Sta.wr W97 (Sta.wr W96 (Sta.wr W95 (Sta.wr W94 (Sta.ext E93 S_hx)))))))))))
   have z108 := (Nat.le_trans (Nat.le_trans (Nat.le_trans (Nat.le_trans (Nat.le_trans (Nat.le_trans (Nat.le_trans (Nat.le_trans (Nat.le_trans (Nat.le_trans (Nat.le_trans Z0 E93.1) (Nat.le_of_eq W94.size.symm)) (Nat.le_of_eq W95.size.symm)) (Nat.le_of_eq W96.size.symm)) (Nat.le_of_eq W97.size.symm)) (Nat.le_of_eq W98.size.symm)) (Nat.le_of_eq W99.size.symm)) (Nat.le_of_eq W100.size.symm)) (Nat.le_of_eq W101.size.symm)) (Nat.le_of_eq W102.size.symm)) (Nat.le_of_eq W103.size.symm))
   refine oCallS C (w2 hw) (w3 hw) (w4 hw) (w5 hw) at_93 (by decide) pd_62772 rfl rfl (argsL := [.ref a93, .int 1, .int ch]) (rest := []) rfl (W := 0) rfl (q := 96) rfl (by decide) (by decide) (by decide) (by decide) (mt_pe1 l Z a0 hw _ n0 z108 a93 hx ch fi A103l f105 f106 ge_a93 ne104) ?_
   rintro _ h107 ⟨rfl, K107, A107⟩
   show oW _ _ _ _ _ _ _ _ _ _ _ _ _ _ _ (mkF m 96 #[.val (.int x0), .val (.int x1), .val (.int x2), .val (.int ch), .val (.int ch), .val (.int 1), .val (.int fi), .val (.ref a93), .unset] [.int 7])
   refine oIstore C at_96 (Ls' := #[.val (.int x0), .val (.int x1), .val (.int x2), .val (.int ch), .val (.int ch), .val (.int 1), .val (.int fi), .val (.ref a93), .val (.int 7)]) rfl (q := 98) rfl ?_
   refine oIload C at_98 rfl rfl ?_
   refine oIload C at_100 rfl rfl ?_
   refine oBipush C at_102 (z := 6) rfl rfl ?_
   refine oIadd C at_104 rfl ?_
   refine oCastI (z' := (7 : Int32)) (by decide) ?_
   refine oIcmp_eq C at_105 (q := 110) (by decide) (by decide) (r := 108) rfl (fun hc105 => ?_) (fun hq => absurd hq ((by decide)))
   refine oAload C at_110 rfl rfl rfl ?_
   refine oIconst C at_112 (z := 0) rfl rfl ?_
   refine oIload C at_113 rfl rfl ?_
   refine oIload C at_115 rfl rfl ?_
   refine oIload C at_117 rfl rfl ?_
   have z109 := (Nat.le_trans z108 K107.1)
   refine oCallS C (w8 hw) (w9 hw) (w10 hw) (w11 hw) at_119 (by decide) pd_62477 rfl rfl (argsL := [.ref a93, .int 0, .int 1, .int ch, .int fi]) (rest := []) rfl (W := 0) rfl (q := 122) rfl (by decide) (by decide) (by decide) (by decide) (mt_chk l Z a0 hw _ n0 z109 a93 (0 : Int32) (1 : Int32) ch fi _ fi 0 A107 (by decide) rfl rfl) (oPureK ?_)
   refine oIf_eq C at_122 (q := 268) (by decide) (by decide) (r := 125) rfl (fun hq => absurd hq (own_chk (r_fi.symm.trans (own_eF _ _ (Or.inl (by decide))).symm))) (fun hc122 => ?_)
   refine oAload C at_125 rfl rfl rfl ?_
   refine oIconst C at_127 (z := 1) rfl rfl ?_
   refine oIload C at_128 rfl rfl ?_
   refine oIload C at_130 rfl rfl ?_
   refine oIload C at_132 rfl rfl ?_
   refine oCallS C (w8 hw) (w9 hw) (w10 hw) (w11 hw) at_134 (by decide) pd_62477 rfl rfl (argsL := [.ref a93, .int 1, .int 1, .int ch, .int fi]) (rest := []) rfl (W := 0) rfl (q := 137) rfl (by decide) (by decide) (by decide) (by decide) (mt_chk l Z a0 hw _ n0 z109 a93 (1 : Int32) (1 : Int32) ch fi _ (92 : Int32) 1 A107 (by decide) rfl rfl) (oPureK ?_)
   refine oIf_eq C at_137 (q := 268) (by decide) (by decide) (r := 140) rfl (fun hq => absurd hq (own_chk ((own_e0 _ _ (by decide)).symm))) (fun hc137 => ?_)
   refine oAload C at_140 rfl rfl rfl ?_
   refine oIconst C at_142 (z := 2) rfl rfl ?_
   refine oIload C at_143 rfl rfl ?_
   refine oIload C at_145 rfl rfl ?_
   refine oIload C at_147 rfl rfl ?_
   refine oCallS C (w8 hw) (w9 hw) (w10 hw) (w11 hw) at_149 (by decide) pd_62477 rfl rfl (argsL := [.ref a93, .int 2, .int 1, .int ch, .int fi]) (rest := []) rfl (W := 0) rfl (q := 152) rfl (by decide) (by decide) (by decide) (by decide) (mt_chk l Z a0 hw _ n0 z109 a93 (2 : Int32) (1 : Int32) ch fi _ (117 : Int32) 2 A107 (by decide) rfl rfl) (oPureK ?_)
   refine oIf_eq C at_152 (q := 268) (by decide) (by decide) (r := 155) rfl (fun hq => absurd hq (own_chk ((own_e1 _ _ (by decide)).symm))) (fun hc152 => ?_)
   refine oAload C at_155 rfl rfl rfl ?_
   refine oIconst C at_157 (z := 3) rfl rfl ?_
   refine oIload C at_158 rfl rfl ?_
   refine oIload C at_160 rfl rfl ?_
   refine oIload C at_162 rfl rfl ?_
   refine oCallS C (w8 hw) (w9 hw) (w10 hw) (w11 hw) at_164 (by decide) pd_62477 rfl rfl (argsL := [.ref a93, .int 3, .int 1, .int ch, .int fi]) (rest := []) rfl (W := 0) rfl (q := 167) rfl (by decide) (by decide) (by decide) (by decide) (mt_chk l Z a0 hw _ n0 z109 a93 (3 : Int32) (1 : Int32) ch fi _ (hxd 12 ch) 3 A107 (by decide) rfl rfl) (oPureK ?_)
   refine oIf_eq C at_167 (q := 268) (by decide) (by decide) (r := 170) rfl (fun hq => absurd hq (own_chk ((own_d2 r_ch).trans (own_e2 _ _ (by decide)).symm))) (fun hc167 => ?_)
   refine oAload C at_170 rfl rfl rfl ?_
   refine oIconst C at_172 (z := 4) rfl rfl ?_
   refine oIload C at_173 rfl rfl ?_
   refine oIload C at_175 rfl rfl ?_
   refine oIload C at_177 rfl rfl ?_
   refine oCallS C (w8 hw) (w9 hw) (w10 hw) (w11 hw) at_179 (by decide) pd_62477 rfl rfl (argsL := [.ref a93, .int 4, .int 1, .int ch, .int fi]) (rest := []) rfl (W := 0) rfl (q := 182) rfl (by decide) (by decide) (by decide) (by decide) (mt_chk l Z a0 hw _ n0 z109 a93 (4 : Int32) (1 : Int32) ch fi _ (hxd 8 ch) 4 A107 (by decide) rfl rfl) (oPureK ?_)
   refine oIf_eq C at_182 (q := 268) (by decide) (by decide) (r := 185) rfl (fun hq => absurd hq (own_chk ((own_d3 r_ch).trans (own_e3 _ _ (by decide)).symm))) (fun hc182 => ?_)
   refine oAload C at_185 rfl rfl rfl ?_
   refine oIconst C at_187 (z := 5) rfl rfl ?_
   refine oIload C at_188 rfl rfl ?_
   refine oIload C at_190 rfl rfl ?_
   refine oIload C at_192 rfl rfl ?_
   refine oCallS C (w8 hw) (w9 hw) (w10 hw) (w11 hw) at_194 (by decide) pd_62477 rfl rfl (argsL := [.ref a93, .int 5, .int 1, .int ch, .int fi]) (rest := []) rfl (W := 0) rfl (q := 197) rfl (by decide) (by decide) (by decide) (by decide) (mt_chk l Z a0 hw _ n0 z109 a93 (5 : Int32) (1 : Int32) ch fi _ (hxd 4 ch) 5 A107 (by decide) rfl rfl) (oPureK ?_)
   refine oIf_eq C at_197 (q := 268) (by decide) (by decide) (r := 200) rfl (fun hq => absurd hq (own_chk ((own_d4 r_ch).trans (own_e4 _ _ (by decide)).symm))) (fun hc197 => ?_)
   refine oAload C at_200 rfl rfl rfl ?_
   refine oBipush C at_202 (z := 6) rfl rfl ?_
   refine oIload C at_204 rfl rfl ?_
   refine oIload C at_206 rfl rfl ?_
   refine oIload C at_208 rfl rfl ?_
   refine oCallS C (w8 hw) (w9 hw) (w10 hw) (w11 hw) at_210 (by decide) pd_62477 rfl rfl (argsL := [.ref a93, .int 6, .int 1, .int ch, .int fi]) (rest := []) rfl (W := 0) rfl (q := 213) rfl (by decide) (by decide) (by decide) (by decide) (mt_chk l Z a0 hw _ n0 z109 a93 (6 : Int32) (1 : Int32) ch fi _ (hxd 0 ch) 6 A107 (by decide) rfl rfl) (oPureK ?_)
   refine oIf_eq C at_213 (q := 268) (by decide) (by decide) (r := 216) rfl (fun hq => absurd hq (own_chk ((own_d5 r_ch).trans (own_e5 _ _ (by decide)).symm))) (fun hc213 => ?_)
   refine oAload C at_216 rfl rfl rfl ?_
   refine oBipush C at_218 (z := 7) rfl rfl ?_
   refine oIload C at_220 rfl rfl ?_
   refine oIload C at_222 rfl rfl ?_
   refine oIload C at_224 rfl rfl ?_
   refine oCallS C (w8 hw) (w9 hw) (w10 hw) (w11 hw) at_226 (by decide) pd_62477 rfl rfl (argsL := [.ref a93, .int 7, .int 1, .int ch, .int fi]) (rest := []) rfl (W := 0) rfl (q := 229) rfl (by decide) (by decide) (by decide) (by decide) (mt_chk l Z a0 hw _ n0 z109 a93 (7 : Int32) (1 : Int32) ch fi _ fi 7 A107 (by decide) rfl rfl) (oPureK ?_)
   refine oIf_eq C at_229 (q := 268) (by decide) (by decide) (r := 232) rfl (fun hq => absurd hq (own_chk (r_fi.symm.trans (own_eF _ _ (Or.inr (by decide))).symm))) (fun hc229 => ?_)
   refine oAload C at_232 rfl rfl rfl ?_
   refine oBipush C at_234 (z := 8) rfl rfl ?_
   refine oIload C at_236 rfl rfl ?_
   refine oIload C at_238 rfl rfl ?_
   refine oIload C at_240 rfl rfl ?_
   refine oCallS C (w8 hw) (w9 hw) (w10 hw) (w11 hw) at_242 (by decide) pd_62477 rfl rfl (argsL := [.ref a93, .int 8, .int 1, .int ch, .int fi]) (rest := []) rfl (W := 0) rfl (q := 245) rfl (by decide) (by decide) (by decide) (by decide) (mt_chk l Z a0 hw _ n0 z109 a93 (8 : Int32) (1 : Int32) ch fi _ fi 8 A107 (by decide) rfl rfl) (oPureK ?_)
   refine oIf_eq C at_245 (q := 268) (by decide) (by decide) (r := 248) rfl (fun hq => absurd hq (own_chk (r_fi.symm.trans (own_eF _ _ (Or.inr (by decide))).symm))) (fun hc245 => ?_)
   refine oAload C at_248 rfl rfl rfl ?_
   refine oBipush C at_250 (z := 9) rfl rfl ?_
   refine oIload C at_252 rfl rfl ?_
   refine oIload C at_254 rfl rfl ?_
   refine oIload C at_256 rfl rfl ?_
   refine oCallS C (w8 hw) (w9 hw) (w10 hw) (w11 hw) at_258 (by decide) pd_62477 rfl rfl (argsL := [.ref a93, .int 9, .int 1, .int ch, .int fi]) (rest := []) rfl (W := 0) rfl (q := 261) rfl (by decide) (by decide) (by decide) (by decide) (mt_chk l Z a0 hw _ n0 z109 a93 (9 : Int32) (1 : Int32) ch fi _ fi 9 A107 (by decide) rfl rfl) (oPureK ?_)
   refine oIf_eq C at_261 (q := 268) (by decide) (by decide) (r := 264) rfl (fun hq => absurd hq (own_chk (r_fi.symm.trans (own_eF _ _ (Or.inr (by decide))).symm))) (fun hc261 => ?_)
   refine oIconst C at_264 (z := 1) rfl rfl ?_
   refine oGoto C at_265 (q := 269) (by decide) (by decide) ?_
   refine oRetZ C at_269 (z' := (1 : Int32)) rfl (by decide) (by decide) ?_
   exact rfl
  ·
   refine oCastI (z' := (2 : Int32)) hv ?_
   refine oIstore C at_12 (Ls' := #[.val (.int x0), .val (.int x1), .val (.int x2), .val (.int ch), .val (.int ch), .val (.int 2), .unset, .unset, .unset]) rfl (q := 14) rfl ?_
   refine oIloadN C at_14 rfl rfl ?_
   refine oI2C C at_15 rfl ?_
   obtain ⟨fi, e_fi⟩ : ∃ z, z = (x2.toUInt32.toUInt16.toUInt32.toInt32) := ⟨_, rfl⟩
   refine oCastI e_fi.symm ?_
   have r_fi : nar .char fi = fi := by rw [e_fi]; exact own_idem x2
   refine oIstore C at_16 (Ls' := #[.val (.int x0), .val (.int x1), .val (.int x2), .val (.int ch), .val (.int ch), .val (.int 2), .val (.int fi), .unset, .unset]) rfl (q := 18) rfl ?_
   refine oBipush C at_18 (z := 10) rfl rfl ?_
   refine oNewA C (w1 hw) rfl at_20 rfl (by decide) (k := 10) rfl (by decide) (by decide) (cap := 10) (Nat.le_refl _) (by decide) (by decide) fun a110 h110 g_a110 E110 A110 => ?_
   have ge_a110 : n0 ≤ a110 := g_a110 ▸ Z0
   have A110l : oAr Z h110 a110 .char [.int 0, .int 0, .int 0, .int 0, .int 0, .int 0, .int 0, .int 0, .int 0, .int 0] := A110
   refine oAstore C at_22 rfl (Ls' := #[.val (.int x0), .val (.int x1), .val (.int x2), .val (.int ch), .val (.int ch), .val (.int 2), .val (.int fi), .val (.ref a110), .unset]) rfl (q := 24) rfl ?_
   refine oAload C at_24 rfl rfl rfl ?_
   refine oIconst C at_26 (z := 0) rfl rfl ?_
   refine oIload C at_27 rfl rfl ?_
   refine oCastore C A110l (by decide) (k := 0) rfl (v := .int 0) rfl (v' := .int fi) (congrArg Value.int r_fi) at_29 rfl ge_a110 fun h111 W111 A111 => ?_
   have A111l : oAr Z h111 a110 .char [.int fi, .int 0, .int 0, .int 0, .int 0, .int 0, .int 0, .int 0, .int 0, .int 0] := A111
   refine oAload C at_30 rfl rfl rfl ?_
   refine oIconst C at_32 (z := 1) rfl rfl ?_
   refine oIload C at_33 rfl rfl ?_
   refine oCastore C A111l (by decide) (k := 1) rfl (v := .int 0) rfl (v' := .int fi) (congrArg Value.int r_fi) at_35 rfl ge_a110 fun h112 W112 A112 => ?_
   have A112l : oAr Z h112 a110 .char [.int fi, .int fi, .int 0, .int 0, .int 0, .int 0, .int 0, .int 0, .int 0, .int 0] := A112
   refine oAload C at_36 rfl rfl rfl ?_
   refine oIconst C at_38 (z := 2) rfl rfl ?_
   refine oIload C at_39 rfl rfl ?_
   refine oCastore C A112l (by decide) (k := 2) rfl (v := .int 0) rfl (v' := .int fi) (congrArg Value.int r_fi) at_41 rfl ge_a110 fun h113 W113 A113 => ?_
   have A113l : oAr Z h113 a110 .char [.int fi, .int fi, .int fi, .int 0, .int 0, .int 0, .int 0, .int 0, .int 0, .int 0] := A113
   refine oAload C at_42 rfl rfl rfl ?_
   refine oIconst C at_44 (z := 3) rfl rfl ?_
   refine oIload C at_45 rfl rfl ?_
   refine oCastore C A113l (by decide) (k := 3) rfl (v := .int 0) rfl (v' := .int fi) (congrArg Value.int r_fi) at_47 rfl ge_a110 fun h114 W114 A114 => ?_
   have A114l : oAr Z h114 a110 .char [.int fi, .int fi, .int fi, .int fi, .int 0, .int 0, .int 0, .int 0, .int 0, .int 0] := A114
   refine oAload C at_48 rfl rfl rfl ?_
   refine oIconst C at_50 (z := 4) rfl rfl ?_
   refine oIload C at_51 rfl rfl ?_
   refine oCastore C A114l (by decide) (k := 4) rfl (v := .int 0) rfl (v' := .int fi) (congrArg Value.int r_fi) at_53 rfl ge_a110 fun h115 W115 A115 => ?_
   have A115l : oAr Z h115 a110 .char [.int fi, .int fi, .int fi, .int fi, .int fi, .int 0, .int 0, .int 0, .int 0, .int 0] := A115
   refine oAload C at_54 rfl rfl rfl ?_
   refine oIconst C at_56 (z := 5) rfl rfl ?_
   refine oIload C at_57 rfl rfl ?_
   refine oCastore C A115l (by decide) (k := 5) rfl (v := .int 0) rfl (v' := .int fi) (congrArg Value.int r_fi) at_59 rfl ge_a110 fun h116 W116 A116 => ?_
   have A116l : oAr Z h116 a110 .char [.int fi, .int fi, .int fi, .int fi, .int fi, .int fi, .int 0, .int 0, .int 0, .int 0] := A116
   refine oAload C at_60 rfl rfl rfl ?_
   refine oBipush C at_62 (z := 6) rfl rfl ?_
   refine oIload C at_64 rfl rfl ?_
   refine oCastore C A116l (by decide) (k := 6) rfl (v := .int 0) rfl (v' := .int fi) (congrArg Value.int r_fi) at_66 rfl ge_a110 fun h117 W117 A117 => ?_
   have A117l : oAr Z h117 a110 .char [.int fi, .int fi, .int fi, .int fi, .int fi, .int fi, .int fi, .int 0, .int 0, .int 0] := A117
   refine oAload C at_67 rfl rfl rfl ?_
   refine oBipush C at_69 (z := 7) rfl rfl ?_
   refine oIload C at_71 rfl rfl ?_
   refine oCastore C A117l (by decide) (k := 7) rfl (v := .int 0) rfl (v' := .int fi) (congrArg Value.int r_fi) at_73 rfl ge_a110 fun h118 W118 A118 => ?_
   have A118l : oAr Z h118 a110 .char [.int fi, .int fi, .int fi, .int fi, .int fi, .int fi, .int fi, .int fi, .int 0, .int 0] := A118
   refine oAload C at_74 rfl rfl rfl ?_
   refine oBipush C at_76 (z := 8) rfl rfl ?_
   refine oIload C at_78 rfl rfl ?_
   refine oCastore C A118l (by decide) (k := 8) rfl (v := .int 0) rfl (v' := .int fi) (congrArg Value.int r_fi) at_80 rfl ge_a110 fun h119 W119 A119 => ?_
   have A119l : oAr Z h119 a110 .char [.int fi, .int fi, .int fi, .int fi, .int fi, .int fi, .int fi, .int fi, .int fi, .int 0] := A119
   refine oAload C at_81 rfl rfl rfl ?_
   refine oBipush C at_83 (z := 9) rfl rfl ?_
   refine oIload C at_85 rfl rfl ?_
   refine oCastore C A119l (by decide) (k := 9) rfl (v := .int 0) rfl (v' := .int fi) (congrArg Value.int r_fi) at_87 rfl ge_a110 fun h120 W120 A120 => ?_
   have A120l : oAr Z h120 a110 .char [.int fi, .int fi, .int fi, .int fi, .int fi, .int fi, .int fi, .int fi, .int fi, .int fi] := A120
   refine oAload C at_88 rfl rfl rfl ?_
   refine oIload C at_90 rfl rfl ?_
   refine oIloadN C at_92 rfl rfl ?_
   have ne121 : hx ≠ a110 := oNe' A_hx.lt (Nat.le_of_eq g_a110.symm)
   have f122 := (((((((((((A_hx.ext E110).other W111 ne121).other W112 ne121).other W113 ne121).other W114 ne121).other W115 ne121).other W116 ne121).other W117 ne121).other W118 ne121).other W119 ne121).other W120 ne121)
   have f123 := (Sta.wr W120 (Sta.wr W119 (Sta.wr W118 (Sta.wr W117 (Sta.wr W116 (Sta.wr W115 (Sta.wr W114 (Sta.wr W113 (Sta.wr W112 (Sta.wr W111 (Sta.ext E110 S_hx)))))))))))
   have z125 := (Nat.le_trans (Nat.le_trans (Nat.le_trans (Nat.le_trans (Nat.le_trans (Nat.le_trans (Nat.le_trans (Nat.le_trans (Nat.le_trans (Nat.le_trans (Nat.le_trans Z0 E110.1) (Nat.le_of_eq W111.size.symm)) (Nat.le_of_eq W112.size.symm)) (Nat.le_of_eq W113.size.symm)) (Nat.le_of_eq W114.size.symm)) (Nat.le_of_eq W115.size.symm)) (Nat.le_of_eq W116.size.symm)) (Nat.le_of_eq W117.size.symm)) (Nat.le_of_eq W118.size.symm)) (Nat.le_of_eq W119.size.symm)) (Nat.le_of_eq W120.size.symm))
   refine oCallS C (w2 hw) (w3 hw) (w4 hw) (w5 hw) at_93 (by decide) pd_62772 rfl rfl (argsL := [.ref a110, .int 2, .int ch]) (rest := []) rfl (W := 0) rfl (q := 96) rfl (by decide) (by decide) (by decide) (by decide) (mt_pe2 l Z a0 hw _ n0 z125 a110 hx ch fi A120l f122 f123 ge_a110 ne121) ?_
   rintro _ h124 ⟨rfl, K124, A124⟩
   show oW _ _ _ _ _ _ _ _ _ _ _ _ _ _ _ (mkF m 96 #[.val (.int x0), .val (.int x1), .val (.int x2), .val (.int ch), .val (.int ch), .val (.int 2), .val (.int fi), .val (.ref a110), .unset] [.int 8])
   refine oIstore C at_96 (Ls' := #[.val (.int x0), .val (.int x1), .val (.int x2), .val (.int ch), .val (.int ch), .val (.int 2), .val (.int fi), .val (.ref a110), .val (.int 8)]) rfl (q := 98) rfl ?_
   refine oIload C at_98 rfl rfl ?_
   refine oIload C at_100 rfl rfl ?_
   refine oBipush C at_102 (z := 6) rfl rfl ?_
   refine oIadd C at_104 rfl ?_
   refine oCastI (z' := (8 : Int32)) (by decide) ?_
   refine oIcmp_eq C at_105 (q := 110) (by decide) (by decide) (r := 108) rfl (fun hc105 => ?_) (fun hq => absurd hq ((by decide)))
   refine oAload C at_110 rfl rfl rfl ?_
   refine oIconst C at_112 (z := 0) rfl rfl ?_
   refine oIload C at_113 rfl rfl ?_
   refine oIload C at_115 rfl rfl ?_
   refine oIload C at_117 rfl rfl ?_
   have z126 := (Nat.le_trans z125 K124.1)
   refine oCallS C (w8 hw) (w9 hw) (w10 hw) (w11 hw) at_119 (by decide) pd_62477 rfl rfl (argsL := [.ref a110, .int 0, .int 2, .int ch, .int fi]) (rest := []) rfl (W := 0) rfl (q := 122) rfl (by decide) (by decide) (by decide) (by decide) (mt_chk l Z a0 hw _ n0 z126 a110 (0 : Int32) (2 : Int32) ch fi _ fi 0 A124 (by decide) rfl rfl) (oPureK ?_)
   refine oIf_eq C at_122 (q := 268) (by decide) (by decide) (r := 125) rfl (fun hq => absurd hq (own_chk (r_fi.symm.trans (own_eF _ _ (Or.inl (by decide))).symm))) (fun hc122 => ?_)
   refine oAload C at_125 rfl rfl rfl ?_
   refine oIconst C at_127 (z := 1) rfl rfl ?_
   refine oIload C at_128 rfl rfl ?_
   refine oIload C at_130 rfl rfl ?_
   refine oIload C at_132 rfl rfl ?_
   refine oCallS C (w8 hw) (w9 hw) (w10 hw) (w11 hw) at_134 (by decide) pd_62477 rfl rfl (argsL := [.ref a110, .int 1, .int 2, .int ch, .int fi]) (rest := []) rfl (W := 0) rfl (q := 137) rfl (by decide) (by decide) (by decide) (by decide) (mt_chk l Z a0 hw _ n0 z126 a110 (1 : Int32) (2 : Int32) ch fi _ fi 1 A124 (by decide) rfl rfl) (oPureK ?_)
   refine oIf_eq C at_137 (q := 268) (by decide) (by decide) (r := 140) rfl (fun hq => absurd hq (own_chk (r_fi.symm.trans (own_eF _ _ (Or.inl (by decide))).symm))) (fun hc137 => ?_)
   refine oAload C at_140 rfl rfl rfl ?_
   refine oIconst C at_142 (z := 2) rfl rfl ?_
   refine oIload C at_143 rfl rfl ?_
   refine oIload C at_145 rfl rfl ?_
   refine oIload C at_147 rfl rfl ?_
   refine oCallS C (w8 hw) (w9 hw) (w10 hw) (w11 hw) at_149 (by decide) pd_62477 rfl rfl (argsL := [.ref a110, .int 2, .int 2, .int ch, .int fi]) (rest := []) rfl (W := 0) rfl (q := 152) rfl (by decide) (by decide) (by decide) (by decide) (mt_chk l Z a0 hw _ n0 z126 a110 (2 : Int32) (2 : Int32) ch fi _ (92 : Int32) 2 A124 (by decide) rfl rfl) (oPureK ?_)
   refine oIf_eq C at_152 (q := 268) (by decide) (by decide) (r := 155) rfl (fun hq => absurd hq (own_chk ((own_e0 _ _ (by decide)).symm))) (fun hc152 => ?_)
   refine oAload C at_155 rfl rfl rfl ?_
   refine oIconst C at_157 (z := 3) rfl rfl ?_
   refine oIload C at_158 rfl rfl ?_
   refine oIload C at_160 rfl rfl ?_
   refine oIload C at_162 rfl rfl ?_
   refine oCallS C (w8 hw) (w9 hw) (w10 hw) (w11 hw) at_164 (by decide) pd_62477 rfl rfl (argsL := [.ref a110, .int 3, .int 2, .int ch, .int fi]) (rest := []) rfl (W := 0) rfl (q := 167) rfl (by decide) (by decide) (by decide) (by decide) (mt_chk l Z a0 hw _ n0 z126 a110 (3 : Int32) (2 : Int32) ch fi _ (117 : Int32) 3 A124 (by decide) rfl rfl) (oPureK ?_)
   refine oIf_eq C at_167 (q := 268) (by decide) (by decide) (r := 170) rfl (fun hq => absurd hq (own_chk ((own_e1 _ _ (by decide)).symm))) (fun hc167 => ?_)
   refine oAload C at_170 rfl rfl rfl ?_
   refine oIconst C at_172 (z := 4) rfl rfl ?_
   refine oIload C at_173 rfl rfl ?_
   refine oIload C at_175 rfl rfl ?_
   refine oIload C at_177 rfl rfl ?_
   refine oCallS C (w8 hw) (w9 hw) (w10 hw) (w11 hw) at_179 (by decide) pd_62477 rfl rfl (argsL := [.ref a110, .int 4, .int 2, .int ch, .int fi]) (rest := []) rfl (W := 0) rfl (q := 182) rfl (by decide) (by decide) (by decide) (by decide) (mt_chk l Z a0 hw _ n0 z126 a110 (4 : Int32) (2 : Int32) ch fi _ (hxd 12 ch) 4 A124 (by decide) rfl rfl) (oPureK ?_)
   refine oIf_eq C at_182 (q := 268) (by decide) (by decide) (r := 185) rfl (fun hq => absurd hq (own_chk ((own_d2 r_ch).trans (own_e2 _ _ (by decide)).symm))) (fun hc182 => ?_)
   refine oAload C at_185 rfl rfl rfl ?_
   refine oIconst C at_187 (z := 5) rfl rfl ?_
   refine oIload C at_188 rfl rfl ?_
   refine oIload C at_190 rfl rfl ?_
   refine oIload C at_192 rfl rfl ?_
   refine oCallS C (w8 hw) (w9 hw) (w10 hw) (w11 hw) at_194 (by decide) pd_62477 rfl rfl (argsL := [.ref a110, .int 5, .int 2, .int ch, .int fi]) (rest := []) rfl (W := 0) rfl (q := 197) rfl (by decide) (by decide) (by decide) (by decide) (mt_chk l Z a0 hw _ n0 z126 a110 (5 : Int32) (2 : Int32) ch fi _ (hxd 8 ch) 5 A124 (by decide) rfl rfl) (oPureK ?_)
   refine oIf_eq C at_197 (q := 268) (by decide) (by decide) (r := 200) rfl (fun hq => absurd hq (own_chk ((own_d3 r_ch).trans (own_e3 _ _ (by decide)).symm))) (fun hc197 => ?_)
   refine oAload C at_200 rfl rfl rfl ?_
   refine oBipush C at_202 (z := 6) rfl rfl ?_
   refine oIload C at_204 rfl rfl ?_
   refine oIload C at_206 rfl rfl ?_
   refine oIload C at_208 rfl rfl ?_
   refine oCallS C (w8 hw) (w9 hw) (w10 hw) (w11 hw) at_210 (by decide) pd_62477 rfl rfl (argsL := [.ref a110, .int 6, .int 2, .int ch, .int fi]) (rest := []) rfl (W := 0) rfl (q := 213) rfl (by decide) (by decide) (by decide) (by decide) (mt_chk l Z a0 hw _ n0 z126 a110 (6 : Int32) (2 : Int32) ch fi _ (hxd 4 ch) 6 A124 (by decide) rfl rfl) (oPureK ?_)
   refine oIf_eq C at_213 (q := 268) (by decide) (by decide) (r := 216) rfl (fun hq => absurd hq (own_chk ((own_d4 r_ch).trans (own_e4 _ _ (by decide)).symm))) (fun hc213 => ?_)
   refine oAload C at_216 rfl rfl rfl ?_
   refine oBipush C at_218 (z := 7) rfl rfl ?_
   refine oIload C at_220 rfl rfl ?_
   refine oIload C at_222 rfl rfl ?_
   refine oIload C at_224 rfl rfl ?_
   refine oCallS C (w8 hw) (w9 hw) (w10 hw) (w11 hw) at_226 (by decide) pd_62477 rfl rfl (argsL := [.ref a110, .int 7, .int 2, .int ch, .int fi]) (rest := []) rfl (W := 0) rfl (q := 229) rfl (by decide) (by decide) (by decide) (by decide) (mt_chk l Z a0 hw _ n0 z126 a110 (7 : Int32) (2 : Int32) ch fi _ (hxd 0 ch) 7 A124 (by decide) rfl rfl) (oPureK ?_)
   refine oIf_eq C at_229 (q := 268) (by decide) (by decide) (r := 232) rfl (fun hq => absurd hq (own_chk ((own_d5 r_ch).trans (own_e5 _ _ (by decide)).symm))) (fun hc229 => ?_)
   refine oAload C at_232 rfl rfl rfl ?_
   refine oBipush C at_234 (z := 8) rfl rfl ?_
   refine oIload C at_236 rfl rfl ?_
   refine oIload C at_238 rfl rfl ?_
   refine oIload C at_240 rfl rfl ?_
   refine oCallS C (w8 hw) (w9 hw) (w10 hw) (w11 hw) at_242 (by decide) pd_62477 rfl rfl (argsL := [.ref a110, .int 8, .int 2, .int ch, .int fi]) (rest := []) rfl (W := 0) rfl (q := 245) rfl (by decide) (by decide) (by decide) (by decide) (mt_chk l Z a0 hw _ n0 z126 a110 (8 : Int32) (2 : Int32) ch fi _ fi 8 A124 (by decide) rfl rfl) (oPureK ?_)
   refine oIf_eq C at_245 (q := 268) (by decide) (by decide) (r := 248) rfl (fun hq => absurd hq (own_chk (r_fi.symm.trans (own_eF _ _ (Or.inr (by decide))).symm))) (fun hc245 => ?_)
   refine oAload C at_248 rfl rfl rfl ?_
   refine oBipush C at_250 (z := 9) rfl rfl ?_
   refine oIload C at_252 rfl rfl ?_
   refine oIload C at_254 rfl rfl ?_
   refine oIload C at_256 rfl rfl ?_
   refine oCallS C (w8 hw) (w9 hw) (w10 hw) (w11 hw) at_258 (by decide) pd_62477 rfl rfl (argsL := [.ref a110, .int 9, .int 2, .int ch, .int fi]) (rest := []) rfl (W := 0) rfl (q := 261) rfl (by decide) (by decide) (by decide) (by decide) (mt_chk l Z a0 hw _ n0 z126 a110 (9 : Int32) (2 : Int32) ch fi _ fi 9 A124 (by decide) rfl rfl) (oPureK ?_)
   refine oIf_eq C at_261 (q := 268) (by decide) (by decide) (r := 264) rfl (fun hq => absurd hq (own_chk (r_fi.symm.trans (own_eF _ _ (Or.inr (by decide))).symm))) (fun hc261 => ?_)
   refine oIconst C at_264 (z := 1) rfl rfl ?_
   refine oGoto C at_265 (q := 269) (by decide) (by decide) ?_
   refine oRetZ C at_269 (z' := (1 : Int32)) rfl (by decide) (by decide) ?_
   exact rfl
  ·
   refine oCastI (z' := (3 : Int32)) hv ?_
   refine oIstore C at_12 (Ls' := #[.val (.int x0), .val (.int x1), .val (.int x2), .val (.int ch), .val (.int ch), .val (.int 3), .unset, .unset, .unset]) rfl (q := 14) rfl ?_
   refine oIloadN C at_14 rfl rfl ?_
   refine oI2C C at_15 rfl ?_
   obtain ⟨fi, e_fi⟩ : ∃ z, z = (x2.toUInt32.toUInt16.toUInt32.toInt32) := ⟨_, rfl⟩
   refine oCastI e_fi.symm ?_
   have r_fi : nar .char fi = fi := by rw [e_fi]; exact own_idem x2
   refine oIstore C at_16 (Ls' := #[.val (.int x0), .val (.int x1), .val (.int x2), .val (.int ch), .val (.int ch), .val (.int 3), .val (.int fi), .unset, .unset]) rfl (q := 18) rfl ?_
   refine oBipush C at_18 (z := 10) rfl rfl ?_
   refine oNewA C (w1 hw) rfl at_20 rfl (by decide) (k := 10) rfl (by decide) (by decide) (cap := 10) (Nat.le_refl _) (by decide) (by decide) fun a127 h127 g_a127 E127 A127 => ?_
   have ge_a127 : n0 ≤ a127 := g_a127 ▸ Z0
   have A127l : oAr Z h127 a127 .char [.int 0, .int 0, .int 0, .int 0, .int 0, .int 0, .int 0, .int 0, .int 0, .int 0] := A127
   refine oAstore C at_22 rfl (Ls' := #[.val (.int x0), .val (.int x1), .val (.int x2), .val (.int ch), .val (.int ch), .val (.int 3), .val (.int fi), .val (.ref a127), .unset]) rfl (q := 24) rfl ?_
   refine oAload C at_24 rfl rfl rfl ?_
   refine oIconst C at_26 (z := 0) rfl rfl ?_
   refine oIload C at_27 rfl rfl ?_
   refine oCastore C A127l (by decide) (k := 0) rfl (v := .int 0) rfl (v' := .int fi) (congrArg Value.int r_fi) at_29 rfl ge_a127 fun h128 W128 A128 => ?_
   have A128l : oAr Z h128 a127 .char [.int fi, .int 0, .int 0, .int 0, .int 0, .int 0, .int 0, .int 0, .int 0, .int 0] := A128
   refine oAload C at_30 rfl rfl rfl ?_
   refine oIconst C at_32 (z := 1) rfl rfl ?_
   refine oIload C at_33 rfl rfl ?_
   refine oCastore C A128l (by decide) (k := 1) rfl (v := .int 0) rfl (v' := .int fi) (congrArg Value.int r_fi) at_35 rfl ge_a127 fun h129 W129 A129 => ?_
   have A129l : oAr Z h129 a127 .char [.int fi, .int fi, .int 0, .int 0, .int 0, .int 0, .int 0, .int 0, .int 0, .int 0] := A129
   refine oAload C at_36 rfl rfl rfl ?_
   refine oIconst C at_38 (z := 2) rfl rfl ?_
   refine oIload C at_39 rfl rfl ?_
   refine oCastore C A129l (by decide) (k := 2) rfl (v := .int 0) rfl (v' := .int fi) (congrArg Value.int r_fi) at_41 rfl ge_a127 fun h130 W130 A130 => ?_
   have A130l : oAr Z h130 a127 .char [.int fi, .int fi, .int fi, .int 0, .int 0, .int 0, .int 0, .int 0, .int 0, .int 0] := A130
   refine oAload C at_42 rfl rfl rfl ?_
   refine oIconst C at_44 (z := 3) rfl rfl ?_
   refine oIload C at_45 rfl rfl ?_
   refine oCastore C A130l (by decide) (k := 3) rfl (v := .int 0) rfl (v' := .int fi) (congrArg Value.int r_fi) at_47 rfl ge_a127 fun h131 W131 A131 => ?_
   have A131l : oAr Z h131 a127 .char [.int fi, .int fi, .int fi, .int fi, .int 0, .int 0, .int 0, .int 0, .int 0, .int 0] := A131
   refine oAload C at_48 rfl rfl rfl ?_
   refine oIconst C at_50 (z := 4) rfl rfl ?_
   refine oIload C at_51 rfl rfl ?_
   refine oCastore C A131l (by decide) (k := 4) rfl (v := .int 0) rfl (v' := .int fi) (congrArg Value.int r_fi) at_53 rfl ge_a127 fun h132 W132 A132 => ?_
   have A132l : oAr Z h132 a127 .char [.int fi, .int fi, .int fi, .int fi, .int fi, .int 0, .int 0, .int 0, .int 0, .int 0] := A132
   refine oAload C at_54 rfl rfl rfl ?_
   refine oIconst C at_56 (z := 5) rfl rfl ?_
   refine oIload C at_57 rfl rfl ?_
   refine oCastore C A132l (by decide) (k := 5) rfl (v := .int 0) rfl (v' := .int fi) (congrArg Value.int r_fi) at_59 rfl ge_a127 fun h133 W133 A133 => ?_
   have A133l : oAr Z h133 a127 .char [.int fi, .int fi, .int fi, .int fi, .int fi, .int fi, .int 0, .int 0, .int 0, .int 0] := A133
   refine oAload C at_60 rfl rfl rfl ?_
   refine oBipush C at_62 (z := 6) rfl rfl ?_
   refine oIload C at_64 rfl rfl ?_
   refine oCastore C A133l (by decide) (k := 6) rfl (v := .int 0) rfl (v' := .int fi) (congrArg Value.int r_fi) at_66 rfl ge_a127 fun h134 W134 A134 => ?_
   have A134l : oAr Z h134 a127 .char [.int fi, .int fi, .int fi, .int fi, .int fi, .int fi, .int fi, .int 0, .int 0, .int 0] := A134
   refine oAload C at_67 rfl rfl rfl ?_
   refine oBipush C at_69 (z := 7) rfl rfl ?_
   refine oIload C at_71 rfl rfl ?_
   refine oCastore C A134l (by decide) (k := 7) rfl (v := .int 0) rfl (v' := .int fi) (congrArg Value.int r_fi) at_73 rfl ge_a127 fun h135 W135 A135 => ?_
   have A135l : oAr Z h135 a127 .char [.int fi, .int fi, .int fi, .int fi, .int fi, .int fi, .int fi, .int fi, .int 0, .int 0] := A135
   refine oAload C at_74 rfl rfl rfl ?_
   refine oBipush C at_76 (z := 8) rfl rfl ?_
   refine oIload C at_78 rfl rfl ?_
   refine oCastore C A135l (by decide) (k := 8) rfl (v := .int 0) rfl (v' := .int fi) (congrArg Value.int r_fi) at_80 rfl ge_a127 fun h136 W136 A136 => ?_
   have A136l : oAr Z h136 a127 .char [.int fi, .int fi, .int fi, .int fi, .int fi, .int fi, .int fi, .int fi, .int fi, .int 0] := A136
   refine oAload C at_81 rfl rfl rfl ?_
   refine oBipush C at_83 (z := 9) rfl rfl ?_
   refine oIload C at_85 rfl rfl ?_
   refine oCastore C A136l (by decide) (k := 9) rfl (v := .int 0) rfl (v' := .int fi) (congrArg Value.int r_fi) at_87 rfl ge_a127 fun h137 W137 A137 => ?_
   have A137l : oAr Z h137 a127 .char [.int fi, .int fi, .int fi, .int fi, .int fi, .int fi, .int fi, .int fi, .int fi, .int fi] := A137
   refine oAload C at_88 rfl rfl rfl ?_
   refine oIload C at_90 rfl rfl ?_
   refine oIloadN C at_92 rfl rfl ?_
   have ne138 : hx ≠ a127 := oNe' A_hx.lt (Nat.le_of_eq g_a127.symm)
   have f139 := (((((((((((A_hx.ext E127).other W128 ne138).other W129 ne138).other W130 ne138).other W131 ne138).other W132 ne138).other W133 ne138).other W134 ne138).other W135 ne138).other W136 ne138).other W137 ne138)
   have f140 := (Sta.wr W137 (Sta.wr W136 (Sta.wr W135 (Sta.wr W134 (Sta.wr W133 (Sta.wr W132 (Sta.wr W131 (Sta.wr W130 (Sta.wr W129 (Sta.wr W128 (Sta.ext E127 S_hx)))))))))))
   have z142 := (Nat.le_trans (Nat.le_trans (Nat.le_trans (Nat.le_trans (Nat.le_trans (Nat.le_trans (Nat.le_trans (Nat.le_trans (Nat.le_trans (Nat.le_trans (Nat.le_trans Z0 E127.1) (Nat.le_of_eq W128.size.symm)) (Nat.le_of_eq W129.size.symm)) (Nat.le_of_eq W130.size.symm)) (Nat.le_of_eq W131.size.symm)) (Nat.le_of_eq W132.size.symm)) (Nat.le_of_eq W133.size.symm)) (Nat.le_of_eq W134.size.symm)) (Nat.le_of_eq W135.size.symm)) (Nat.le_of_eq W136.size.symm)) (Nat.le_of_eq W137.size.symm))
   refine oCallS C (w2 hw) (w3 hw) (w4 hw) (w5 hw) at_93 (by decide) pd_62772 rfl rfl (argsL := [.ref a127, .int 3, .int ch]) (rest := []) rfl (W := 0) rfl (q := 96) rfl (by decide) (by decide) (by decide) (by decide) (mt_pe3 l Z a0 hw _ n0 z142 a127 hx ch fi A137l f139 f140 ge_a127 ne138) ?_
   rintro _ h141 ⟨rfl, K141, A141⟩
   show oW _ _ _ _ _ _ _ _ _ _ _ _ _ _ _ (mkF m 96 #[.val (.int x0), .val (.int x1), .val (.int x2), .val (.int ch), .val (.int ch), .val (.int 3), .val (.int fi), .val (.ref a127), .unset] [.int 9])
   refine oIstore C at_96 (Ls' := #[.val (.int x0), .val (.int x1), .val (.int x2), .val (.int ch), .val (.int ch), .val (.int 3), .val (.int fi), .val (.ref a127), .val (.int 9)]) rfl (q := 98) rfl ?_
   refine oIload C at_98 rfl rfl ?_
   refine oIload C at_100 rfl rfl ?_
   refine oBipush C at_102 (z := 6) rfl rfl ?_
   refine oIadd C at_104 rfl ?_
   refine oCastI (z' := (9 : Int32)) (by decide) ?_
   refine oIcmp_eq C at_105 (q := 110) (by decide) (by decide) (r := 108) rfl (fun hc105 => ?_) (fun hq => absurd hq ((by decide)))
   refine oAload C at_110 rfl rfl rfl ?_
   refine oIconst C at_112 (z := 0) rfl rfl ?_
   refine oIload C at_113 rfl rfl ?_
   refine oIload C at_115 rfl rfl ?_
   refine oIload C at_117 rfl rfl ?_
   have z143 := (Nat.le_trans z142 K141.1)
   refine oCallS C (w8 hw) (w9 hw) (w10 hw) (w11 hw) at_119 (by decide) pd_62477 rfl rfl (argsL := [.ref a127, .int 0, .int 3, .int ch, .int fi]) (rest := []) rfl (W := 0) rfl (q := 122) rfl (by decide) (by decide) (by decide) (by decide) (mt_chk l Z a0 hw _ n0 z143 a127 (0 : Int32) (3 : Int32) ch fi _ fi 0 A141 (by decide) rfl rfl) (oPureK ?_)
   refine oIf_eq C at_122 (q := 268) (by decide) (by decide) (r := 125) rfl (fun hq => absurd hq (own_chk (r_fi.symm.trans (own_eF _ _ (Or.inl (by decide))).symm))) (fun hc122 => ?_)
   refine oAload C at_125 rfl rfl rfl ?_
   refine oIconst C at_127 (z := 1) rfl rfl ?_
   refine oIload C at_128 rfl rfl ?_
   refine oIload C at_130 rfl rfl ?_
   refine oIload C at_132 rfl rfl ?_
   refine oCallS C (w8 hw) (w9 hw) (w10 hw) (w11 hw) at_134 (by decide) pd_62477 rfl rfl (argsL := [.ref a127, .int 1, .int 3, .int ch, .int fi]) (rest := []) rfl (W := 0) rfl (q := 137) rfl (by decide) (by decide) (by decide) (by decide) (mt_chk l Z a0 hw _ n0 z143 a127 (1 : Int32) (3 : Int32) ch fi _ fi 1 A141 (by decide) rfl rfl) (oPureK ?_)
   refine oIf_eq C at_137 (q := 268) (by decide) (by decide) (r := 140) rfl (fun hq => absurd hq (own_chk (r_fi.symm.trans (own_eF _ _ (Or.inl (by decide))).symm))) (fun hc137 => ?_)
   refine oAload C at_140 rfl rfl rfl ?_
   refine oIconst C at_142 (z := 2) rfl rfl ?_
   refine oIload C at_143 rfl rfl ?_
   refine oIload C at_145 rfl rfl ?_
   refine oIload C at_147 rfl rfl ?_
   refine oCallS C (w8 hw) (w9 hw) (w10 hw) (w11 hw) at_149 (by decide) pd_62477 rfl rfl (argsL := [.ref a127, .int 2, .int 3, .int ch, .int fi]) (rest := []) rfl (W := 0) rfl (q := 152) rfl (by decide) (by decide) (by decide) (by decide) (mt_chk l Z a0 hw _ n0 z143 a127 (2 : Int32) (3 : Int32) ch fi _ fi 2 A141 (by decide) rfl rfl) (oPureK ?_)
   refine oIf_eq C at_152 (q := 268) (by decide) (by decide) (r := 155) rfl (fun hq => absurd hq (own_chk (r_fi.symm.trans (own_eF _ _ (Or.inl (by decide))).symm))) (fun hc152 => ?_)
   refine oAload C at_155 rfl rfl rfl ?_
   refine oIconst C at_157 (z := 3) rfl rfl ?_
   refine oIload C at_158 rfl rfl ?_
   refine oIload C at_160 rfl rfl ?_
   refine oIload C at_162 rfl rfl ?_
   refine oCallS C (w8 hw) (w9 hw) (w10 hw) (w11 hw) at_164 (by decide) pd_62477 rfl rfl (argsL := [.ref a127, .int 3, .int 3, .int ch, .int fi]) (rest := []) rfl (W := 0) rfl (q := 167) rfl (by decide) (by decide) (by decide) (by decide) (mt_chk l Z a0 hw _ n0 z143 a127 (3 : Int32) (3 : Int32) ch fi _ (92 : Int32) 3 A141 (by decide) rfl rfl) (oPureK ?_)
   refine oIf_eq C at_167 (q := 268) (by decide) (by decide) (r := 170) rfl (fun hq => absurd hq (own_chk ((own_e0 _ _ (by decide)).symm))) (fun hc167 => ?_)
   refine oAload C at_170 rfl rfl rfl ?_
   refine oIconst C at_172 (z := 4) rfl rfl ?_
   refine oIload C at_173 rfl rfl ?_
   refine oIload C at_175 rfl rfl ?_
   refine oIload C at_177 rfl rfl ?_
   refine oCallS C (w8 hw) (w9 hw) (w10 hw) (w11 hw) at_179 (by decide) pd_62477 rfl rfl (argsL := [.ref a127, .int 4, .int 3, .int ch, .int fi]) (rest := []) rfl (W := 0) rfl (q := 182) rfl (by decide) (by decide) (by decide) (by decide) (mt_chk l Z a0 hw _ n0 z143 a127 (4 : Int32) (3 : Int32) ch fi _ (117 : Int32) 4 A141 (by decide) rfl rfl) (oPureK ?_)
   refine oIf_eq C at_182 (q := 268) (by decide) (by decide) (r := 185) rfl (fun hq => absurd hq (own_chk ((own_e1 _ _ (by decide)).symm))) (fun hc182 => ?_)
   refine oAload C at_185 rfl rfl rfl ?_
   refine oIconst C at_187 (z := 5) rfl rfl ?_
   refine oIload C at_188 rfl rfl ?_
   refine oIload C at_190 rfl rfl ?_
   refine oIload C at_192 rfl rfl ?_
   refine oCallS C (w8 hw) (w9 hw) (w10 hw) (w11 hw) at_194 (by decide) pd_62477 rfl rfl (argsL := [.ref a127, .int 5, .int 3, .int ch, .int fi]) (rest := []) rfl (W := 0) rfl (q := 197) rfl (by decide) (by decide) (by decide) (by decide) (mt_chk l Z a0 hw _ n0 z143 a127 (5 : Int32) (3 : Int32) ch fi _ (hxd 12 ch) 5 A141 (by decide) rfl rfl) (oPureK ?_)
   refine oIf_eq C at_197 (q := 268) (by decide) (by decide) (r := 200) rfl (fun hq => absurd hq (own_chk ((own_d2 r_ch).trans (own_e2 _ _ (by decide)).symm))) (fun hc197 => ?_)
   refine oAload C at_200 rfl rfl rfl ?_
   refine oBipush C at_202 (z := 6) rfl rfl ?_
   refine oIload C at_204 rfl rfl ?_
   refine oIload C at_206 rfl rfl ?_
   refine oIload C at_208 rfl rfl ?_
   refine oCallS C (w8 hw) (w9 hw) (w10 hw) (w11 hw) at_210 (by decide) pd_62477 rfl rfl (argsL := [.ref a127, .int 6, .int 3, .int ch, .int fi]) (rest := []) rfl (W := 0) rfl (q := 213) rfl (by decide) (by decide) (by decide) (by decide) (mt_chk l Z a0 hw _ n0 z143 a127 (6 : Int32) (3 : Int32) ch fi _ (hxd 8 ch) 6 A141 (by decide) rfl rfl) (oPureK ?_)
   refine oIf_eq C at_213 (q := 268) (by decide) (by decide) (r := 216) rfl (fun hq => absurd hq (own_chk ((own_d3 r_ch).trans (own_e3 _ _ (by decide)).symm))) (fun hc213 => ?_)
   refine oAload C at_216 rfl rfl rfl ?_
   refine oBipush C at_218 (z := 7) rfl rfl ?_
   refine oIload C at_220 rfl rfl ?_
   refine oIload C at_222 rfl rfl ?_
   refine oIload C at_224 rfl rfl ?_
   refine oCallS C (w8 hw) (w9 hw) (w10 hw) (w11 hw) at_226 (by decide) pd_62477 rfl rfl (argsL := [.ref a127, .int 7, .int 3, .int ch, .int fi]) (rest := []) rfl (W := 0) rfl (q := 229) rfl (by decide) (by decide) (by decide) (by decide) (mt_chk l Z a0 hw _ n0 z143 a127 (7 : Int32) (3 : Int32) ch fi _ (hxd 4 ch) 7 A141 (by decide) rfl rfl) (oPureK ?_)
   refine oIf_eq C at_229 (q := 268) (by decide) (by decide) (r := 232) rfl (fun hq => absurd hq (own_chk ((own_d4 r_ch).trans (own_e4 _ _ (by decide)).symm))) (fun hc229 => ?_)
   refine oAload C at_232 rfl rfl rfl ?_
   refine oBipush C at_234 (z := 8) rfl rfl ?_
   refine oIload C at_236 rfl rfl ?_
   refine oIload C at_238 rfl rfl ?_
   refine oIload C at_240 rfl rfl ?_
   refine oCallS C (w8 hw) (w9 hw) (w10 hw) (w11 hw) at_242 (by decide) pd_62477 rfl rfl (argsL := [.ref a127, .int 8, .int 3, .int ch, .int fi]) (rest := []) rfl (W := 0) rfl (q := 245) rfl (by decide) (by decide) (by decide) (by decide) (mt_chk l Z a0 hw _ n0 z143 a127 (8 : Int32) (3 : Int32) ch fi _ (hxd 0 ch) 8 A141 (by decide) rfl rfl) (oPureK ?_)
   refine oIf_eq C at_245 (q := 268) (by decide) (by decide) (r := 248) rfl (fun hq => absurd hq (own_chk ((own_d5 r_ch).trans (own_e5 _ _ (by decide)).symm))) (fun hc245 => ?_)
   refine oAload C at_248 rfl rfl rfl ?_
   refine oBipush C at_250 (z := 9) rfl rfl ?_
   refine oIload C at_252 rfl rfl ?_
   refine oIload C at_254 rfl rfl ?_
   refine oIload C at_256 rfl rfl ?_
   refine oCallS C (w8 hw) (w9 hw) (w10 hw) (w11 hw) at_258 (by decide) pd_62477 rfl rfl (argsL := [.ref a127, .int 9, .int 3, .int ch, .int fi]) (rest := []) rfl (W := 0) rfl (q := 261) rfl (by decide) (by decide) (by decide) (by decide) (mt_chk l Z a0 hw _ n0 z143 a127 (9 : Int32) (3 : Int32) ch fi _ fi 9 A141 (by decide) rfl rfl) (oPureK ?_)
   refine oIf_eq C at_261 (q := 268) (by decide) (by decide) (r := 264) rfl (fun hq => absurd hq (own_chk (r_fi.symm.trans (own_eF _ _ (Or.inr (by decide))).symm))) (fun hc261 => ?_)
   refine oIconst C at_264 (z := 1) rfl rfl ?_
   refine oGoto C at_265 (q := 269) (by decide) (by decide) ?_
   refine oRetZ C at_269 (z' := (1 : Int32)) rfl (by decide) (by decide) ?_
   exact rfl
  ·
   refine oCastI (z' := (4 : Int32)) hv ?_
   refine oIstore C at_12 (Ls' := #[.val (.int x0), .val (.int x1), .val (.int x2), .val (.int ch), .val (.int ch), .val (.int 4), .unset, .unset, .unset]) rfl (q := 14) rfl ?_
   refine oIloadN C at_14 rfl rfl ?_
   refine oI2C C at_15 rfl ?_
   obtain ⟨fi, e_fi⟩ : ∃ z, z = (x2.toUInt32.toUInt16.toUInt32.toInt32) := ⟨_, rfl⟩
   refine oCastI e_fi.symm ?_
   have r_fi : nar .char fi = fi := by rw [e_fi]; exact own_idem x2
   refine oIstore C at_16 (Ls' := #[.val (.int x0), .val (.int x1), .val (.int x2), .val (.int ch), .val (.int ch), .val (.int 4), .val (.int fi), .unset, .unset]) rfl (q := 18) rfl ?_
   refine oBipush C at_18 (z := 10) rfl rfl ?_
   refine oNewA C (w1 hw) rfl at_20 rfl (by decide) (k := 10) rfl (by decide) (by decide) (cap := 10) (Nat.le_refl _) (by decide) (by decide) fun a144 h144 g_a144 E144 A144 => ?_
   have ge_a144 : n0 ≤ a144 := g_a144 ▸ Z0
   have A144l : oAr Z h144 a144 .char [.int 0, .int 0, .int 0, .int 0, .int 0, .int 0, .int 0, .int 0, .int 0, .int 0] := A144
   refine oAstore C at_22 rfl (Ls' := #[.val (.int x0), .val (.int x1), .val (.int x2), .val (.int ch), .val (.int ch), .val (.int 4), .val (.int fi), .val (.ref a144), .unset]) rfl (q := 24) rfl ?_
   refine oAload C at_24 rfl rfl rfl ?_
   refine oIconst C at_26 (z := 0) rfl rfl ?_
   refine oIload C at_27 rfl rfl ?_
   refine oCastore C A144l (by decide) (k := 0) rfl (v := .int 0) rfl (v' := .int fi) (congrArg Value.int r_fi) at_29 rfl ge_a144 fun h145 W145 A145 => ?_
   have A145l : oAr Z h145 a144 .char [.int fi, .int 0, .int 0, .int 0, .int 0, .int 0, .int 0, .int 0, .int 0, .int 0] := A145
   refine oAload C at_30 rfl rfl rfl ?_
   refine oIconst C at_32 (z := 1) rfl rfl ?_
   refine oIload C at_33 rfl rfl ?_
   refine oCastore C A145l (by decide) (k := 1) rfl (v := .int 0) rfl (v' := .int fi) (congrArg Value.int r_fi) at_35 rfl ge_a144 fun h146 W146 A146 => ?_
   have A146l : oAr Z h146 a144 .char [.int fi, .int fi, .int 0, .int 0, .int 0, .int 0, .int 0, .int 0, .int 0, .int 0] := A146
   refine oAload C at_36 rfl rfl rfl ?_
   refine oIconst C at_38 (z := 2) rfl rfl ?_
   refine oIload C at_39 rfl rfl ?_
   refine oCastore C A146l (by decide) (k := 2) rfl (v := .int 0) rfl (v' := .int fi) (congrArg Value.int r_fi) at_41 rfl ge_a144 fun h147 W147 A147 => ?_
   have A147l : oAr Z h147 a144 .char [.int fi, .int fi, .int fi, .int 0, .int 0, .int 0, .int 0, .int 0, .int 0, .int 0] := A147
   refine oAload C at_42 rfl rfl rfl ?_
   refine oIconst C at_44 (z := 3) rfl rfl ?_
   refine oIload C at_45 rfl rfl ?_
   refine oCastore C A147l (by decide) (k := 3) rfl (v := .int 0) rfl (v' := .int fi) (congrArg Value.int r_fi) at_47 rfl ge_a144 fun h148 W148 A148 => ?_
   have A148l : oAr Z h148 a144 .char [.int fi, .int fi, .int fi, .int fi, .int 0, .int 0, .int 0, .int 0, .int 0, .int 0] := A148
   refine oAload C at_48 rfl rfl rfl ?_
   refine oIconst C at_50 (z := 4) rfl rfl ?_
   refine oIload C at_51 rfl rfl ?_
   refine oCastore C A148l (by decide) (k := 4) rfl (v := .int 0) rfl (v' := .int fi) (congrArg Value.int r_fi) at_53 rfl ge_a144 fun h149 W149 A149 => ?_
   have A149l : oAr Z h149 a144 .char [.int fi, .int fi, .int fi, .int fi, .int fi, .int 0, .int 0, .int 0, .int 0, .int 0] := A149
   refine oAload C at_54 rfl rfl rfl ?_
   refine oIconst C at_56 (z := 5) rfl rfl ?_
   refine oIload C at_57 rfl rfl ?_
   refine oCastore C A149l (by decide) (k := 5) rfl (v := .int 0) rfl (v' := .int fi) (congrArg Value.int r_fi) at_59 rfl ge_a144 fun h150 W150 A150 => ?_
   have A150l : oAr Z h150 a144 .char [.int fi, .int fi, .int fi, .int fi, .int fi, .int fi, .int 0, .int 0, .int 0, .int 0] := A150
   refine oAload C at_60 rfl rfl rfl ?_
   refine oBipush C at_62 (z := 6) rfl rfl ?_
   refine oIload C at_64 rfl rfl ?_
   refine oCastore C A150l (by decide) (k := 6) rfl (v := .int 0) rfl (v' := .int fi) (congrArg Value.int r_fi) at_66 rfl ge_a144 fun h151 W151 A151 => ?_
   have A151l : oAr Z h151 a144 .char [.int fi, .int fi, .int fi, .int fi, .int fi, .int fi, .int fi, .int 0, .int 0, .int 0] := A151
   refine oAload C at_67 rfl rfl rfl ?_
   refine oBipush C at_69 (z := 7) rfl rfl ?_
   refine oIload C at_71 rfl rfl ?_
   refine oCastore C A151l (by decide) (k := 7) rfl (v := .int 0) rfl (v' := .int fi) (congrArg Value.int r_fi) at_73 rfl ge_a144 fun h152 W152 A152 => ?_
   have A152l : oAr Z h152 a144 .char [.int fi, .int fi, .int fi, .int fi, .int fi, .int fi, .int fi, .int fi, .int 0, .int 0] := A152
   refine oAload C at_74 rfl rfl rfl ?_
   refine oBipush C at_76 (z := 8) rfl rfl ?_
   refine oIload C at_78 rfl rfl ?_
   refine oCastore C A152l (by decide) (k := 8) rfl (v := .int 0) rfl (v' := .int fi) (congrArg Value.int r_fi) at_80 rfl ge_a144 fun h153 W153 A153 => ?_
   have A153l : oAr Z h153 a144 .char [.int fi, .int fi, .int fi, .int fi, .int fi, .int fi, .int fi, .int fi, .int fi, .int 0] := A153
   refine oAload C at_81 rfl rfl rfl ?_
   refine oBipush C at_83 (z := 9) rfl rfl ?_
   refine oIload C at_85 rfl rfl ?_
   refine oCastore C A153l (by decide) (k := 9) rfl (v := .int 0) rfl (v' := .int fi) (congrArg Value.int r_fi) at_87 rfl ge_a144 fun h154 W154 A154 => ?_
   have A154l : oAr Z h154 a144 .char [.int fi, .int fi, .int fi, .int fi, .int fi, .int fi, .int fi, .int fi, .int fi, .int fi] := A154
   refine oAload C at_88 rfl rfl rfl ?_
   refine oIload C at_90 rfl rfl ?_
   refine oIloadN C at_92 rfl rfl ?_
   have ne155 : hx ≠ a144 := oNe' A_hx.lt (Nat.le_of_eq g_a144.symm)
   have f156 := (((((((((((A_hx.ext E144).other W145 ne155).other W146 ne155).other W147 ne155).other W148 ne155).other W149 ne155).other W150 ne155).other W151 ne155).other W152 ne155).other W153 ne155).other W154 ne155)
   have f157 := (Sta.wr W154 (Sta.wr W153 (Sta.wr W152 (Sta.wr W151 (Sta.wr W150 (Sta.wr W149 (Sta.wr W148 (Sta.wr W147 (Sta.wr W146 (Sta.wr W145 (Sta.ext E144 S_hx)))))))))))
   have z159 := (Nat.le_trans (Nat.le_trans (Nat.le_trans (Nat.le_trans (Nat.le_trans (Nat.le_trans (Nat.le_trans (Nat.le_trans (Nat.le_trans (Nat.le_trans (Nat.le_trans Z0 E144.1) (Nat.le_of_eq W145.size.symm)) (Nat.le_of_eq W146.size.symm)) (Nat.le_of_eq W147.size.symm)) (Nat.le_of_eq W148.size.symm)) (Nat.le_of_eq W149.size.symm)) (Nat.le_of_eq W150.size.symm)) (Nat.le_of_eq W151.size.symm)) (Nat.le_of_eq W152.size.symm)) (Nat.le_of_eq W153.size.symm)) (Nat.le_of_eq W154.size.symm))
   refine oCallS C (w2 hw) (w3 hw) (w4 hw) (w5 hw) at_93 (by decide) pd_62772 rfl rfl (argsL := [.ref a144, .int 4, .int ch]) (rest := []) rfl (W := 0) rfl (q := 96) rfl (by decide) (by decide) (by decide) (by decide) (mt_pe4 l Z a0 hw _ n0 z159 a144 hx ch fi A154l f156 f157 ge_a144 ne155) ?_
   rintro _ h158 ⟨rfl, K158, A158⟩
   show oW _ _ _ _ _ _ _ _ _ _ _ _ _ _ _ (mkF m 96 #[.val (.int x0), .val (.int x1), .val (.int x2), .val (.int ch), .val (.int ch), .val (.int 4), .val (.int fi), .val (.ref a144), .unset] [.int 10])
   refine oIstore C at_96 (Ls' := #[.val (.int x0), .val (.int x1), .val (.int x2), .val (.int ch), .val (.int ch), .val (.int 4), .val (.int fi), .val (.ref a144), .val (.int 10)]) rfl (q := 98) rfl ?_
   refine oIload C at_98 rfl rfl ?_
   refine oIload C at_100 rfl rfl ?_
   refine oBipush C at_102 (z := 6) rfl rfl ?_
   refine oIadd C at_104 rfl ?_
   refine oCastI (z' := (10 : Int32)) (by decide) ?_
   refine oIcmp_eq C at_105 (q := 110) (by decide) (by decide) (r := 108) rfl (fun hc105 => ?_) (fun hq => absurd hq ((by decide)))
   refine oAload C at_110 rfl rfl rfl ?_
   refine oIconst C at_112 (z := 0) rfl rfl ?_
   refine oIload C at_113 rfl rfl ?_
   refine oIload C at_115 rfl rfl ?_
   refine oIload C at_117 rfl rfl ?_
   have z160 := (Nat.le_trans z159 K158.1)
   refine oCallS C (w8 hw) (w9 hw) (w10 hw) (w11 hw) at_119 (by decide) pd_62477 rfl rfl (argsL := [.ref a144, .int 0, .int 4, .int ch, .int fi]) (rest := []) rfl (W := 0) rfl (q := 122) rfl (by decide) (by decide) (by decide) (by decide) (mt_chk l Z a0 hw _ n0 z160 a144 (0 : Int32) (4 : Int32) ch fi _ fi 0 A158 (by decide) rfl rfl) (oPureK ?_)
   refine oIf_eq C at_122 (q := 268) (by decide) (by decide) (r := 125) rfl (fun hq => absurd hq (own_chk (r_fi.symm.trans (own_eF _ _ (Or.inl (by decide))).symm))) (fun hc122 => ?_)
   refine oAload C at_125 rfl rfl rfl ?_
   refine oIconst C at_127 (z := 1) rfl rfl ?_
   refine oIload C at_128 rfl rfl ?_
   refine oIload C at_130 rfl rfl ?_
   refine oIload C at_132 rfl rfl ?_
   refine oCallS C (w8 hw) (w9 hw) (w10 hw) (w11 hw) at_134 (by decide) pd_62477 rfl rfl (argsL := [.ref a144, .int 1, .int 4, .int ch, .int fi]) (rest := []) rfl (W := 0) rfl (q := 137) rfl (by decide) (by decide) (by decide) (by decide) (mt_chk l Z a0 hw _ n0 z160 a144 (1 : Int32) (4 : Int32) ch fi _ fi 1 A158 (by decide) rfl rfl) (oPureK ?_)
   refine oIf_eq C at_137 (q := 268) (by decide) (by decide) (r := 140) rfl (fun hq => absurd hq (own_chk (r_fi.symm.trans (own_eF _ _ (Or.inl (by decide))).symm))) (fun hc137 => ?_)
   refine oAload C at_140 rfl rfl rfl ?_
   refine oIconst C at_142 (z := 2) rfl rfl ?_
   refine oIload C at_143 rfl rfl ?_
   refine oIload C at_145 rfl rfl ?_
   refine oIload C at_147 rfl rfl ?_
   refine oCallS C (w8 hw) (w9 hw) (w10 hw) (w11 hw) at_149 (by decide) pd_62477 rfl rfl (argsL := [.ref a144, .int 2, .int 4, .int ch, .int fi]) (rest := []) rfl (W := 0) rfl (q := 152) rfl (by decide) (by decide) (by decide) (by decide) (mt_chk l Z a0 hw _ n0 z160 a144 (2 : Int32) (4 : Int32) ch fi _ fi 2 A158 (by decide) rfl rfl) (oPureK ?_)
   refine oIf_eq C at_152 (q := 268) (by decide) (by decide) (r := 155) rfl (fun hq => absurd hq (own_chk (r_fi.symm.trans (own_eF _ _ (Or.inl (by decide))).symm))) (fun hc152 => ?_)
   refine oAload C at_155 rfl rfl rfl ?_
   refine oIconst C at_157 (z := 3) rfl rfl ?_
   refine oIload C at_158 rfl rfl ?_
   refine oIload C at_160 rfl rfl ?_
   refine oIload C at_162 rfl rfl ?_
   refine oCallS C (w8 hw) (w9 hw) (w10 hw) (w11 hw) at_164 (by decide) pd_62477 rfl rfl (argsL := [.ref a144, .int 3, .int 4, .int ch, .int fi]) (rest := []) rfl (W := 0) rfl (q := 167) rfl (by decide) (by decide) (by decide) (by decide) (mt_chk l Z a0 hw _ n0 z160 a144 (3 : Int32) (4 : Int32) ch fi _ fi 3 A158 (by decide) rfl rfl) (oPureK ?_)
   refine oIf_eq C at_167 (q := 268) (by decide) (by decide) (r := 170) rfl (fun hq => absurd hq (own_chk (r_fi.symm.trans (own_eF _ _ (Or.inl (by decide))).symm))) (fun hc167 => ?_)
   refine oAload C at_170 rfl rfl rfl ?_
   refine oIconst C at_172 (z := 4) rfl rfl ?_
   refine oIload C at_173 rfl rfl ?_
   refine oIload C at_175 rfl rfl ?_
   refine oIload C at_177 rfl rfl ?_
   refine oCallS C (w8 hw) (w9 hw) (w10 hw) (w11 hw) at_179 (by decide) pd_62477 rfl rfl (argsL := [.ref a144, .int 4, .int 4, .int ch, .int fi]) (rest := []) rfl (W := 0) rfl (q := 182) rfl (by decide) (by decide) (by decide) (by decide) (mt_chk l Z a0 hw _ n0 z160 a144 (4 : Int32) (4 : Int32) ch fi _ (92 : Int32) 4 A158 (by decide) rfl rfl) (oPureK ?_)
   refine oIf_eq C at_182 (q := 268) (by decide) (by decide) (r := 185) rfl (fun hq => absurd hq (own_chk ((own_e0 _ _ (by decide)).symm))) (fun hc182 => ?_)
   refine oAload C at_185 rfl rfl rfl ?_
   refine oIconst C at_187 (z := 5) rfl rfl ?_
   refine oIload C at_188 rfl rfl ?_
   refine oIload C at_190 rfl rfl ?_
   refine oIload C at_192 rfl rfl ?_
   refine oCallS C (w8 hw) (w9 hw) (w10 hw) (w11 hw) at_194 (by decide) pd_62477 rfl rfl (argsL := [.ref a144, .int 5, .int 4, .int ch, .int fi]) (rest := []) rfl (W := 0) rfl (q := 197) rfl (by decide) (by decide) (by decide) (by decide) (mt_chk l Z a0 hw _ n0 z160 a144 (5 : Int32) (4 : Int32) ch fi _ (117 : Int32) 5 A158 (by decide) rfl rfl) (oPureK ?_)
   refine oIf_eq C at_197 (q := 268) (by decide) (by decide) (r := 200) rfl (fun hq => absurd hq (own_chk ((own_e1 _ _ (by decide)).symm))) (fun hc197 => ?_)
   refine oAload C at_200 rfl rfl rfl ?_
   refine oBipush C at_202 (z := 6) rfl rfl ?_
   refine oIload C at_204 rfl rfl ?_
   refine oIload C at_206 rfl rfl ?_
   refine oIload C at_208 rfl rfl ?_
   refine oCallS C (w8 hw) (w9 hw) (w10 hw) (w11 hw) at_210 (by decide) pd_62477 rfl rfl (argsL := [.ref a144, .int 6, .int 4, .int ch, .int fi]) (rest := []) rfl (W := 0) rfl (q := 213) rfl (by decide) (by decide) (by decide) (by decide) (mt_chk l Z a0 hw _ n0 z160 a144 (6 : Int32) (4 : Int32) ch fi _ (hxd 12 ch) 6 A158 (by decide) rfl rfl) (oPureK ?_)
   refine oIf_eq C at_213 (q := 268) (by decide) (by decide) (r := 216) rfl (fun hq => absurd hq (own_chk ((own_d2 r_ch).trans (own_e2 _ _ (by decide)).symm))) (fun hc213 => ?_)
   refine oAload C at_216 rfl rfl rfl ?_
   refine oBipush C at_218 (z := 7) rfl rfl ?_
   refine oIload C at_220 rfl rfl ?_
   refine oIload C at_222 rfl rfl ?_
   refine oIload C at_224 rfl rfl ?_
   refine oCallS C (w8 hw) (w9 hw) (w10 hw) (w11 hw) at_226 (by decide) pd_62477 rfl rfl (argsL := [.ref a144, .int 7, .int 4, .int ch, .int fi]) (rest := []) rfl (W := 0) rfl (q := 229) rfl (by decide) (by decide) (by decide) (by decide) (mt_chk l Z a0 hw _ n0 z160 a144 (7 : Int32) (4 : Int32) ch fi _ (hxd 8 ch) 7 A158 (by decide) rfl rfl) (oPureK ?_)
   refine oIf_eq C at_229 (q := 268) (by decide) (by decide) (r := 232) rfl (fun hq => absurd hq (own_chk ((own_d3 r_ch).trans (own_e3 _ _ (by decide)).symm))) (fun hc229 => ?_)
   refine oAload C at_232 rfl rfl rfl ?_
   refine oBipush C at_234 (z := 8) rfl rfl ?_
   refine oIload C at_236 rfl rfl ?_
   refine oIload C at_238 rfl rfl ?_
   refine oIload C at_240 rfl rfl ?_
   refine oCallS C (w8 hw) (w9 hw) (w10 hw) (w11 hw) at_242 (by decide) pd_62477 rfl rfl (argsL := [.ref a144, .int 8, .int 4, .int ch, .int fi]) (rest := []) rfl (W := 0) rfl (q := 245) rfl (by decide) (by decide) (by decide) (by decide) (mt_chk l Z a0 hw _ n0 z160 a144 (8 : Int32) (4 : Int32) ch fi _ (hxd 4 ch) 8 A158 (by decide) rfl rfl) (oPureK ?_)
   refine oIf_eq C at_245 (q := 268) (by decide) (by decide) (r := 248) rfl (fun hq => absurd hq (own_chk ((own_d4 r_ch).trans (own_e4 _ _ (by decide)).symm))) (fun hc245 => ?_)
   refine oAload C at_248 rfl rfl rfl ?_
   refine oBipush C at_250 (z := 9) rfl rfl ?_
   refine oIload C at_252 rfl rfl ?_
   refine oIload C at_254 rfl rfl ?_
   refine oIload C at_256 rfl rfl ?_
   refine oCallS C (w8 hw) (w9 hw) (w10 hw) (w11 hw) at_258 (by decide) pd_62477 rfl rfl (argsL := [.ref a144, .int 9, .int 4, .int ch, .int fi]) (rest := []) rfl (W := 0) rfl (q := 261) rfl (by decide) (by decide) (by decide) (by decide) (mt_chk l Z a0 hw _ n0 z160 a144 (9 : Int32) (4 : Int32) ch fi _ (hxd 0 ch) 9 A158 (by decide) rfl rfl) (oPureK ?_)
   refine oIf_eq C at_261 (q := 268) (by decide) (by decide) (r := 264) rfl (fun hq => absurd hq (own_chk ((own_d5 r_ch).trans (own_e5 _ _ (by decide)).symm))) (fun hc261 => ?_)
   refine oIconst C at_264 (z := 1) rfl rfl ?_
   refine oGoto C at_265 (q := 269) (by decide) (by decide) ?_
   refine oRetZ C at_269 (z' := (1 : Int32)) rfl (by decide) (by decide) ?_
   exact rfl
theorem own_elems {args : Array Value} {s : State} {t : Term} {hx : Addr} (hf : Fit s) (ev : ∀ idx, t.eval args s none idx s = some (.ref hx)) (n1 : (Cond.arrayOf t .char).value args s none s [] = some true) (n2 : (Cond.eq (.length t) (.int 16)).value args s none s [] = some true)
    (n3 : (Cond.all t (.or (.le (.int 10) (.index 0)) (.eq (.op1 .i2l (.elem t (.index 0))) (.op2 .ladd (.op1 .i2l (.index 0)) (.long 48))))).value args s none s [] = some true)
    (n4 : (Cond.all t (.or (.lt (.index 0) (.int 10)) (.eq (.op1 .i2l (.elem t (.index 0))) (.op2 .ladd (.op1 .i2l (.index 0)) (.long 87))))).value args s none s [] = some true) : oAr s s.heap hx .char oHEX := by
  obtain ⟨cl, A⟩ := Arr.start (ev []) n1
  have ha : s.arrayAt? hx = some cl := A.fin (Vm.Alike.refl _)
  have hl : cl.slots.size < 2 ^ 31 := by
    refine Classical.byContradiction fun q => ?_
    have e : (Term.length t).eval args s none [] s = none := by simp [Term.eval, ev, ha, q]
    obtain ⟨x, y, ex, -⟩ := cmp_v (Or.inl n2)
    rw [e] at ex; cases ex
  have hsz : cl.slots.size = 16 := by
    have e := gotT (Cond.eq_ints (len_f (ev []) ha hl) (Term.int_eval 16)) n2
    have q := len_toInt hl
    rw [e] at q
    have e2 : (16 : Int32).toInt = 16 := rfl
    omega
  have el : ∀ j : Nat, j < 16 → ∃ x : Int32, cl.slots[j]? = some (Value.int x) ∧ x.toInt = if j < 10 then (j : Int) + 48 else (j : Int) + 87 := by
    intro j hj
    have hj31 : j < 2 ^ 31 := by omega
    have hin := idx_in (i := j) (n := cl.slots.size) (by omega) (by omega)
    obtain ⟨v, e1, e2⟩ := elem_fit hf A hin
    obtain ⟨x, rfl⟩ := fit_I e2 (by simp)
    have tj := len_toInt hj31
    have ej : (Nat.toInt32 j).toNatClampNeg = j := by simp only [Int32.toNatClampNeg, tj]; rfl
    have en : ¬ (Nat.toInt32 j) < 0 := fun q => hin (Or.inl q)
    have e3 : (Term.elem t (.index 0)).eval args s none [j] s = some (Value.int x) := (elem_f (ev [j]) (Term.index_eval j) ha en).trans e1
    have ea : (Term.op1 .i2l (.elem t (.index 0))).eval args s none [j] s = some (Value.long x.toInt64) := (op1_f e3).trans rfl
    have ei : (Term.op1 .i2l (.index 0)).eval args s none [j] s = some (Value.long (Nat.toInt32 j).toInt64) := (op1_f (Term.index_eval j)).trans rfl
    have eb : ∀ k : Int64, (Term.op2 .ladd (.op1 .i2l (.index 0)) (.long k)).eval args s none [j] s = some (Value.long ((Nat.toInt32 j).toInt64 + k)) := fun k => (op2_f ei (long_at k)).trans rfl
    rw [ej] at e1
    refine ⟨x, e1, ?_⟩
    have h3 := Cond.all_elim (ev []) ha n3 j (by omega)
    have h4 := Cond.all_elim (ev []) ha n4 j (by omega)
    have t10 : (10 : Int32).toInt = 10 := rfl
    split
    · rename_i q
      have g : (Cond.le (.int 10) (.index 0)).value args s none s [j] = some false := nay (Cond.le_ints (Term.int_eval 10) (Term.index_eval j)) (by rw [Int32.le_iff_toInt_le, tj, t10]; omega)
      rw [Cond.or_of_right g] at h3
      have e := congrArg Int64.toInt (gotT (eq_L ea (eb 48)) h3)
      have c1 := c_ladd (Nat.toInt32 j).toInt64 48
      have r1 := rng64 ((Nat.toInt32 j).toInt64 + 48)
      rw [c_i2l, tj, show (48 : Int64).toInt = 48 from rfl] at c1
      rw [c_i2l] at e
      omega
    · rename_i q
      have g : (Cond.lt (.index 0) (.int 10)).value args s none s [j] = some false := nay (Cond.lt_ints (Term.index_eval j) (Term.int_eval 10)) (by rw [Int32.lt_iff_toInt_lt, tj, t10]; omega)
      rw [Cond.or_of_right g] at h4
      have e := congrArg Int64.toInt (gotT (eq_L ea (eb 87)) h4)
      have c1 := c_ladd (Nat.toInt32 j).toInt64 87
      have r1 := rng64 ((Nat.toInt32 j).toInt64 + 87)
      rw [c_i2l, tj, show (87 : Int64).toInt = 87 from rfl] at c1
      rw [c_i2l] at e
      omega
  refine ⟨cl, A, ?_⟩
  apply List.ext_getElem?
  intro j
  rw [Array.getElem?_toList]
  by_cases hj : j < 16
  · obtain ⟨x, e1, e2⟩ := el j hj
    rw [e1]
    have hx : ∀ k : Int32, x.toInt = k.toInt → x = k := fun k q => Int32.toInt_inj.mp q
    have hc : j = 0 ∨ j = 1 ∨ j = 2 ∨ j = 3 ∨ j = 4 ∨ j = 5 ∨ j = 6 ∨ j = 7 ∨ j = 8 ∨ j = 9 ∨ j = 10 ∨ j = 11 ∨ j = 12 ∨ j = 13 ∨ j = 14 ∨ j = 15 := by omega
    rcases hc with rfl | rfl | rfl | rfl | rfl | rfl | rfl | rfl | rfl | rfl | rfl | rfl | rfl | rfl | rfl | rfl
    · rw [hx 48 e2]; rfl
    · rw [hx 49 e2]; rfl
    · rw [hx 50 e2]; rfl
    · rw [hx 51 e2]; rfl
    · rw [hx 52 e2]; rfl
    · rw [hx 53 e2]; rfl
    · rw [hx 54 e2]; rfl
    · rw [hx 55 e2]; rfl
    · rw [hx 56 e2]; rfl
    · rw [hx 57 e2]; rfl
    · rw [hx 97 e2]; rfl
    · rw [hx 98 e2]; rfl
    · rw [hx 99 e2]; rfl
    · rw [hx 100 e2]; rfl
    · rw [hx 101 e2]; rfl
    · rw [hx 102 e2]; rfl
  · rw [Array.getElem?_eq_none (by omega)]
    exact (List.getElem?_eq_none (by simp [oHEX]; omega)).symm
set_option maxRecDepth 65536 in
set_option maxHeartbeats 40000000 in
theorem comes_1 {Post : Tables → Env → Array Value → State → Outcome → State → Prop} (hpost : ∀ tb e args s v u, (limb_1_1.after args s (.returned v) u = true ∧ limb_1_2.after args s (.returned v) u = true ∧ True) → FrameEnd s (.returned v) u (Jvm.fieldLocs frame_1_writes args s ++ Jvm.arrayLocs frame_1_arrays args s ++ Jvm.staticLocs frame_1_statics s) 16 128 → Post tb e args s (.returned v) u) :
    ArmFor flags0 classFile x code maxLocals ret World_1 tables_1 room_1 Calls_1 rest_1 Pre_1 Post := by
  intro l hfl _ _ p e ha hc hk s m args below hf hA hF happ hP
  obtain ⟨hcalls, hrest, hpre⟩ := hP
  obtain ⟨-, -, -, hnamed, -, -, -, hat⟩ := (Spec.applies_iff hf).mp happ
  obtain ⟨hg, hn⟩ := and_e (Cond.before_iff.mp (show (Jvm.Cond.and given_1 narrow_1).before args s = true from hpre))
  obtain ⟨h1, k0⟩ := and_e hg
  obtain ⟨c0, k1⟩ := and_e k0
  obtain ⟨c1, k2⟩ := and_e k1
  obtain ⟨v0, v1, v2, rfl⟩ : ∃ v0 v1 v2 : Value, args = #[v0, v1, v2] := by
    have hs : args.size = 3 := by simpa [Cond.value, given_1] using h1
    obtain ⟨L⟩ := args
    match L, hs with
    | [v0, v1, v2], _ => exact ⟨v0, v1, v2, rfl⟩
  have hw := fun d (hd : d ∈ tables_1) => atoms_spec (ws := Jvm.Cond.code x code maxLocals ret :: tables_1) hat d (List.mem_cons_of_mem _ hd)
  have hfit : Fit s := fun {y c} hc i hi => by
    obtain ⟨ha, rfl⟩ := Array.getElem?_eq_some_iff.mp hc
    have q := List.all_eq_true.mp ((Array.all_eq_true_iff_forall_mem.mp hF) _ (Array.getElem_mem ha)) i (List.mem_range.mpr hi)
    simpa [Array.getElem?_eq_getElem hi] using q
  obtain ⟨i0, e0⟩ := is_v c0
  obtain rfl : v0 = (.int i0) := Option.some.inj e0
  obtain ⟨i1, e1⟩ := is_v c1
  obtain rfl : v1 = (.int i1) := Option.some.inj e1
  obtain ⟨i2, e2⟩ := is_v k2
  obtain rfl : v2 = (.int i2) := Option.some.inj e2
  obtain ⟨n1, m1⟩ := and_e hn
  obtain ⟨n2, m2⟩ := and_e m1
  obtain ⟨n3, n4⟩ := and_e m2
  obtain ⟨hx, e_hx⟩ := arr_v n1
  have S_hx := Sta.start e_hx (Or.inr ⟨(w4 hw), (w7 hw)⟩)
  have A_hx := own_elems hfit (fun _ => e_hx) n1 n2 n3 n4
  obtain ⟨n, o, h1, h2, h3, _, L, rfl, ⟨N, rfl⟩, hq⟩ := mt_law l s _ hw s.heap s.heap.size (Nat.le_refl _) i0 i1 i2 hx S_hx A_hx p e ha hc hk s m _ below hf ((Spec.applies_iff_loose hf).mp happ).1 ⟨rfl, State.Warmed39.refl s, rfl⟩ trivial
  refine ⟨n, _, h1, h2, h3, hpost _ _ _ _ _ _ ⟨Cond.after_iff.mpr rfl, Cond.after_iff.mpr (eq_i res_at (Term.int_eval (1)) rfl), trivial⟩ ⟨hq.1, hq.2.1, (hq.2.2.sift fun y hy => Or.inr (N y hy)).mono (by decide) (by decide)⟩⟩
theorem main_1_1 : Claimed_1_1 := comes_1 fun _ _ _ _ _ _ h hF => ⟨h.1, hF⟩
theorem main_1_2 : Claimed_1_2 := comes_1 fun _ _ _ _ _ _ h hF => ⟨h.2.1, hF⟩
end Jvm.Pilot.@@N@@
namespace Jvm.Pilot.@@N@@
open Jvm Jvm.ClassFile Sem Op Lib Jvm.Free Jvm.Stand Jvm.Pilot.@@N@@.Jvm.D
/-! MADE BY PROGRAM (witnessworld.py) out of the Statement's table words and the real class files: 11 classes; the members and pool entries that the words name. The judged class is class 1, her method 1. -/
namespace start1
open Jvm.ClassFile
def u (s : String) : CpInfo := .utf8 (stringToUtf16 s)
/-- a pool by its gaps: so many unusable entries, then the entry; so many at the end -/
def gap : Nat → List CpInfo → List CpInfo
  | 0, r => r
  | n + 1, r => .unusable :: gap n r
def poolList (es : List (Nat × CpInfo)) (last : Nat) : List CpInfo := es.foldr (fun e r => gap e.1 (e.2 :: r)) (gap last [])
def pool (es : List (Nat × CpInfo)) (last : Nat) : Array CpInfo := ⟨poolList es last⟩
def fileOf (pool : Array CpInfo) (this : Nat) (attrs : Array Attribute := #[]) (ms : Array MethodInfo := #[]) (fl : Nat := 33) (sup : Nat := 0) (ifs : Array Nat := #[]) (fds : Array FieldInfo := #[]) : ClassFile where
  minorVersion := 0
  majorVersion := 65
  constantPool := pool
  accessFlags := fl
  thisClass := this
  superClass := sup
  interfaces := ifs
  fields := fds
  methods := ms
  attributes := attrs
def plain (name : String) (sup : Option ClassId) : Class where
  name := name
  kind := .ordinary
  loader := none
  accessFlags := 33
  super := sup
  interfaces := #[]
  cf := none
  fields := #[]
  methods := #[]
  instanceTypes := #[]
  staticTypes := #[]
  resolved := #[]
  callSites := []
  init := .initialized
  statics := none
  mirror := none

def pool0 : Array CpInfo := pool [(5, u "<init>"), (0, u "()V"), (1, .class_ 10), (1, u "java/lang/Object")] 113

def k0m0 : Method := { name := "<init>", desc := "()V", sig := { parameters := [], returnType := none }, accessFlags := 1, code := none }
/-- java/lang/Object -/
def k0 : Class := { plain "java/lang/Object" none with
  accessFlags := 33
  interfaces := #[]
  cf := some (fileOf pool0 8 #[] #[{ accessFlags := 1, nameIndex := 5, descriptorIndex := 6, attributes := #[] }] 33 0 #[] #[])
  fields := #[]
  methods := #[k0m0]
  instanceTypes := #[]
  staticTypes := #[]
  resolved := Array.replicate 124 none
  statics := none }

def pool1 : Array CpInfo := pool [(2, .class_ 4), (1, u "java/lang/Object"), (0, u "<init>"), (0, u "()V"), (0, .integer 2147483647), (0, .methodref 9 10), (0, .class_ 11), (0, .nameAndType 12 13), (0, u "com/example/epikrise/epikrise/core/ControlCharacters"), (0, u "putEscape"), (0, u "([CIC)I"), (0, .methodref 15 16), (0, .class_ 17), (0, .nameAndType 18 19), (0, u "com/example/epikrise/epikrise/core/ControlCharactersPutEscapePinLaw"), (0, u "check"), (0, u "([CIIIC)Z"), (0, .methodref 15 21), (0, .nameAndType 22 23), (0, u "expected"), (0, u "(IIIC)C"), (0, .methodref 15 25), (0, .nameAndType 26 27), (0, u "hex"), (0, u "(I)C"), (2, u "law"), (0, u "(III)Z")] 5

def k1m0 : Method := { name := "<init>", desc := "()V", sig := { parameters := [], returnType := none }, accessFlags := 1, code := none }
def k1c1 : Code := { maxStack := 5, maxLocals := 9, code := code, exceptionTable := #[], attributes := #[] }
def k1m1 : Method := { name := "law", desc := "(III)Z", sig := { parameters := [.int, .int, .int], returnType := some .boolean }, accessFlags := 9, code := some k1c1 }
def k1c2 : Code := { maxStack := 5, maxLocals := 5, code := method_3_code, exceptionTable := #[], attributes := #[] }
def k1m2 : Method := { name := "check", desc := "([CIIIC)Z", sig := { parameters := [(.array .char), .int, .int, .int, .char], returnType := some .boolean }, accessFlags := 10, code := some k1c2 }
def k1c3 : Code := { maxStack := 2, maxLocals := 6, code := method_4_code, exceptionTable := #[], attributes := #[] }
def k1m3 : Method := { name := "expected", desc := "(IIIC)C", sig := { parameters := [.int, .int, .int, .char], returnType := some .char }, accessFlags := 10, code := some k1c3 }
def k1c4 : Code := { maxStack := 3, maxLocals := 1, code := method_5_code, exceptionTable := #[], attributes := #[] }
def k1m4 : Method := { name := "hex", desc := "(I)C", sig := { parameters := [.int], returnType := some .char }, accessFlags := 10, code := some k1c4 }
/-- com/example/epikrise/epikrise/core/ControlCharactersPutEscapePinLaw -/
def k1 : Class := { plain "com/example/epikrise/epikrise/core/ControlCharactersPutEscapePinLaw" (some 0) with
  accessFlags := 49
  interfaces := #[]
  cf := some (fileOf pool1 15 #[] #[{ accessFlags := 1, nameIndex := 5, descriptorIndex := 6, attributes := #[] }, { accessFlags := 9, nameIndex := 30, descriptorIndex := 31, attributes := #[] }, { accessFlags := 10, nameIndex := 18, descriptorIndex := 19, attributes := #[] }, { accessFlags := 10, nameIndex := 22, descriptorIndex := 23, attributes := #[] }, { accessFlags := 10, nameIndex := 26, descriptorIndex := 27, attributes := #[] }] 49 2 #[] #[])
  fields := #[]
  methods := #[k1m0, k1m1, k1m2, k1m3, k1m4]
  instanceTypes := #[]
  staticTypes := #[]
  resolved := Array.replicate 37 none
  statics := none }

def pool2 : Array CpInfo := pool [(2, .class_ 4), (1, u "java/lang/Object"), (0, u "<init>"), (0, u "()V"), (0, .class_ 8), (0, u "com/example/epikrise/epikrise/core/ControlCharacters"), (2, u "putEscape"), (0, u "([CIC)I"), (6, .fieldref 7 20), (0, .nameAndType 21 22), (0, u "HEX_DIGITS"), (0, u "[C"), (8, u "ESCAPE_LENGTH"), (0, u "I")] 12

def k2m0 : Method := { name := "<init>", desc := "()V", sig := { parameters := [], returnType := none }, accessFlags := 2, code := none }
def k2c1 : Code := { maxStack := 7, maxLocals := 4, code := prog_31_method_4_code, exceptionTable := #[], attributes := #[] }
def k2m1 : Method := { name := "putEscape", desc := "([CIC)I", sig := { parameters := [(.array .char), .int, .char], returnType := some .int }, accessFlags := 8, code := some k2c1 }
/-- com/example/epikrise/epikrise/core/ControlCharacters -/
def k2 : Class := { plain "com/example/epikrise/epikrise/core/ControlCharacters" (some 0) with
  accessFlags := 48
  interfaces := #[]
  cf := some (fileOf pool2 7 #[] #[{ accessFlags := 2, nameIndex := 5, descriptorIndex := 6, attributes := #[] }, { accessFlags := 8, nameIndex := 11, descriptorIndex := 12, attributes := #[] }] 48 2 #[] #[{ accessFlags := 24, nameIndex := 31, descriptorIndex := 32, attributes := #[] }, { accessFlags := 26, nameIndex := 21, descriptorIndex := 22, attributes := #[] }])
  fields := #[{ name := "ESCAPE_LENGTH", type := .int, accessFlags := 24, slot := 0, constantValue := 0 }, { name := "HEX_DIGITS", type := (.array .char), accessFlags := 26, slot := 1, constantValue := 0 }]
  methods := #[k2m0, k2m1]
  instanceTypes := #[]
  staticTypes := #[.int, (.array .char)]
  resolved := Array.replicate 45 none
  statics := some 0 }

def pool3 : Array CpInfo := pool [(1, u "java/lang/Cloneable"), (0, .class_ 1), (0, u "java/lang/Object"), (0, .class_ 3)] 3

/-- java/lang/Cloneable -/
def k3 : Class := { plain "java/lang/Cloneable" (some 0) with
  accessFlags := 1537
  interfaces := #[]
  cf := some (fileOf pool3 2 #[] #[] 1537 4 #[] #[])
  fields := #[]
  methods := #[]
  instanceTypes := #[]
  staticTypes := #[]
  resolved := Array.replicate 8 none
  statics := none }

def pool4 : Array CpInfo := pool [(1, u "java/io/Serializable"), (0, .class_ 1), (0, u "java/lang/Object"), (0, .class_ 3)] 3

/-- java/io/Serializable -/
def k4 : Class := { plain "java/io/Serializable" (some 0) with
  accessFlags := 1537
  interfaces := #[]
  cf := some (fileOf pool4 2 #[] #[] 1537 4 #[] #[])
  fields := #[]
  methods := #[]
  instanceTypes := #[]
  staticTypes := #[]
  resolved := Array.replicate 8 none
  statics := none }

/-- the primitive byte -/
def k5 : Class := { plain "byte" none with kind := .primitive 'B', accessFlags := 0x411 }
/-- [B -/
def k6 : Class := { plain "[B" (some 0) with kind := .array 5 .byte, interfaces := #[3, 4], accessFlags := 1041 }

/-- the primitive char -/
def k7 : Class := { plain "char" none with kind := .primitive 'C', accessFlags := 0x411 }
/-- [C -/
def k8 : Class := { plain "[C" (some 0) with kind := .array 7 .char, interfaces := #[3, 4], accessFlags := 1041 }

/-- the primitive int -/
def k9 : Class := { plain "int" none with kind := .primitive 'I', accessFlags := 0x411 }
/-- [I -/
def k10 : Class := { plain "[I" (some 0) with kind := .array 9 .int, interfaces := #[3, 4], accessFlags := 1041 }

def heap : Heap := #[{ cls := 2, slots := #[.int 0, .ref 1], vm := .statics 2 },
  { cls := 8, slots := #[.int 48, .int 49, .int 50, .int 51, .int 52, .int 53, .int 54, .int 55, .int 56, .int 57, .int 97, .int 98, .int 99, .int 100, .int 101, .int 102], vm := .none }]
def classes : Array Class := #[k0, k1, k2, k3, k4, k5, k6, k7, k8, k9, k10]
def interned : List (Array UInt16 × Addr) := []
def slotsUsed : Nat := 18
def theMethod : MethodId := ⟨1, 1⟩
def args0 : Array Value := #[.int 5, .int 5, .int 5]
def aboutOver (below : List Frame) : State where
  vm := { classes := classes, interned := interned.toArray }
  heap := heap
  slotsUsed := slotsUsed
  threads := #[{ frames := .invoking theMethod args0 :: below }]
def below0 : List Frame := [.native { method := ⟨0, 0⟩, args := #[] }]
def about1 : State := aboutOver below0
def p0 : Program := .bare "" "" ""
def e0 : Env := launch0.env 0 0 0
theorem w_frames : about1.frames = Frame.invoking theMethod args0 :: below0 := rfl
set_option maxRecDepth 65536 in
theorem w_args : argsFit about1.vm theMethod args0 = true := by decide +kernel
set_option maxRecDepth 65536 in
theorem w_heap : heapFits about1 = true := by decide +kernel
set_option maxRecDepth 65536 in
theorem w_runnable : about1.curStatus? = some .runnable := by decide +kernel
set_option maxRecDepth 65536 in
theorem w_alone : about1.alone = true := by decide +kernel
set_option maxRecDepth 65536 in
theorem w_named : about1.methodNamed? x = some theMethod := by decide +kernel
set_option maxRecDepth 65536 in
theorem w_hears : about1.hears theMethod below0 = true := by decide +kernel
set_option maxRecDepth 65536 in
theorem w_ripe : about1.ripe theMethod args0 below0 = true := by decide +kernel
theorem w_running : about1.status = .running := rfl
set_option maxRecDepth 65536 in
theorem w_room : about1.hasRoom e0.platform room_1 = true :=
  launch0.hasRoom_least _ room_1 (by decide +kernel) (by decide +kernel) (by decide +kernel) (by decide +kernel) (by decide +kernel) (by decide +kernel)
theorem allAtoms_all (ts : List Jvm.Cond) (a : Array Jvm.Value) (st : Jvm.State) : (allAtoms ts).before a st = ts.all (fun c => c.before a st) := by
  induction ts with
  | nil => rfl
  | cons c t ih =>
    show (Jvm.Cond.and c (allAtoms t)).before a st = _
    rw [Jvm.Cond.before_and, ih, List.all_cons]
def words1 : List Jvm.Cond := Jvm.Cond.code x code maxLocals ret :: tables_1
/-- a 'code' word, met by the world's own term for the bytes: nothing is compared byte by byte -/
theorem code_word {y : MethodName} {bytes : ByteArray} {mx : Nat} {rt : Option FieldType} {a : Array Value} {s : State} {m : MethodId} {meth : Method} {c : Code} (h1 : s.methodNamed? y = some m) (h2 : s.vm.method? m = some meth) (h3 : meth.code = some c) (h4 : c.code = bytes)
    (h5 : (c.maxLocals == mx && c.exceptionTable.isEmpty && decide (c.maxStack ≤ mostOperands) && decide (meth.sig.returnType = rt) && !meth.locks && decide (parseMethodDescriptor y.desc = some meth.sig)) = true) : (Jvm.Cond.code y bytes mx rt).before a s = true := by
  simp only [Bool.and_eq_true, beq_iff_eq, Bool.not_eq_true', decide_eq_true_eq] at h5
  obtain ⟨⟨⟨⟨⟨g1, g2⟩, g3⟩, g4⟩, g5⟩, g6⟩ := h5
  simp [Cond.before, Cond.holds, Cond.value, h1, h2, h3, h4, g1, g2, g3, g4, g5, g6]
def isCode : Jvm.Cond → Bool
  | .code _ _ _ _ => true
  | _ => false
theorem all_split {L : List Jvm.Cond} {P : Jvm.Cond → Bool} (h1 : L.all (fun c => isCode c || P c) = true) (h2 : ∀ c ∈ L.filter isCode, P c = true) : L.all P = true := by
  refine List.all_eq_true.mpr fun c hc => ?_
  have h := List.all_eq_true.mp h1 c hc
  rcases Bool.eq_false_or_eq_true (isCode c) with hi | hi
  · exact h2 c (List.mem_filter.mpr ⟨hc, hi⟩)
  · simpa [hi] using h
set_option maxRecDepth 65536 in
theorem w_c0 : (Jvm.Cond.code x code maxLocals ret).before args0 about1 = true := code_word (m := ⟨1, 1⟩) (meth := k1m1) (c := k1c1) (by decide +kernel) rfl rfl rfl (by decide +kernel)
set_option maxRecDepth 65536 in
theorem w_c1 : (Jvm.Cond.code ({ cls := "com/example/epikrise/epikrise/core/ControlCharacters", name := "putEscape", desc := "([CIC)I" } : Jvm.MethodName) prog_31_method_4_code (4 : Nat) (Option.some Jvm.ClassFile.FieldType.int)).before args0 about1 = true := code_word (m := ⟨2, 1⟩) (meth := k2m1) (c := k2c1) (by decide +kernel) rfl rfl rfl (by decide +kernel)
set_option maxRecDepth 65536 in
theorem w_c2 : (Jvm.Cond.code ({ cls := "com/example/epikrise/epikrise/core/ControlCharactersPutEscapePinLaw", name := "check", desc := "([CIIIC)Z" } : Jvm.MethodName) method_3_code (5 : Nat) (Option.some Jvm.ClassFile.FieldType.boolean)).before args0 about1 = true := code_word (m := ⟨1, 2⟩) (meth := k1m2) (c := k1c2) (by decide +kernel) rfl rfl rfl (by decide +kernel)
set_option maxRecDepth 65536 in
theorem w_c3 : (Jvm.Cond.code ({ cls := "com/example/epikrise/epikrise/core/ControlCharactersPutEscapePinLaw", name := "expected", desc := "(IIIC)C" } : Jvm.MethodName) method_4_code (6 : Nat) (Option.some Jvm.ClassFile.FieldType.char)).before args0 about1 = true := code_word (m := ⟨1, 3⟩) (meth := k1m3) (c := k1c3) (by decide +kernel) rfl rfl rfl (by decide +kernel)
set_option maxRecDepth 65536 in
theorem w_c4 : (Jvm.Cond.code ({ cls := "com/example/epikrise/epikrise/core/ControlCharactersPutEscapePinLaw", name := "hex", desc := "(I)C" } : Jvm.MethodName) method_5_code (1 : Nat) (Option.some Jvm.ClassFile.FieldType.char)).before args0 about1 = true := code_word (m := ⟨1, 4⟩) (meth := k1m4) (c := k1c4) (by decide +kernel) rfl rfl rfl (by decide +kernel)
def codes1 : List Jvm.Cond := [Jvm.Cond.code x code maxLocals ret, Jvm.Cond.code ({ cls := "com/example/epikrise/epikrise/core/ControlCharacters", name := "putEscape", desc := "([CIC)I" } : Jvm.MethodName) prog_31_method_4_code (4 : Nat) (Option.some Jvm.ClassFile.FieldType.int), Jvm.Cond.code ({ cls := "com/example/epikrise/epikrise/core/ControlCharactersPutEscapePinLaw", name := "check", desc := "([CIIIC)Z" } : Jvm.MethodName) method_3_code (5 : Nat) (Option.some Jvm.ClassFile.FieldType.boolean), Jvm.Cond.code ({ cls := "com/example/epikrise/epikrise/core/ControlCharactersPutEscapePinLaw", name := "expected", desc := "(IIIC)C" } : Jvm.MethodName) method_4_code (6 : Nat) (Option.some Jvm.ClassFile.FieldType.char), Jvm.Cond.code ({ cls := "com/example/epikrise/epikrise/core/ControlCharactersPutEscapePinLaw", name := "hex", desc := "(I)C" } : Jvm.MethodName) method_5_code (1 : Nat) (Option.some Jvm.ClassFile.FieldType.char)]
set_option maxRecDepth 65536 in
theorem codes_eq : words1.filter isCode = codes1 := rfl
theorem w_codes : ∀ c ∈ words1.filter isCode, c.before args0 about1 = true := by
  rw [codes_eq]
  intro c hc
  simp only [codes1, List.mem_cons, List.not_mem_nil, or_false] at hc
  rcases hc with rfl | rfl | rfl | rfl | rfl
  · exact w_c0
  · exact w_c1
  · exact w_c2
  · exact w_c3
  · exact w_c4
set_option maxRecDepth 65536 in
theorem w_t1 : words1.all (fun c => isCode c || c.before args0 about1) = true := by decide +kernel
theorem w_tables : (allAtoms (Jvm.Cond.code x code maxLocals ret :: tables_1)).before args0 about1 = true := by
  rw [allAtoms_all]
  show words1.all (fun c => c.before args0 about1) = true
  refine all_split ?_ w_codes
  rw [w_t1]
set_option maxRecDepth 65536 in
theorem w_case : (Jvm.Cond.and given_1 narrow_1).before args0 about1 = true := by decide +kernel
theorem w_applies : (headSpec (Jvm.Cond.code x code maxLocals ret :: tables_1) room_1).applies x e0.platform about1 = true :=
  (Spec.applies_iff w_frames).mpr ⟨w_running, w_runnable, w_alone, w_named, w_hears, w_ripe, w_room, w_tables⟩
theorem atStart : AtStart classFile x code maxLocals ret World_1 tables_1 room_1 Calls_1 rest_1 Pre_1 launch0 p0 e0 about1 theMethod args0 below0 :=
  ⟨lists_1, trivial, launch0.admits_env _ _ _, launch0.least_env, fairChoices_fair.cas, fairChoices_fair.clock, w_frames, w_args, w_heap, w_applies, trivial, trivial, w_case⟩
end start1
theorem witness_1 : WitnessClaimed_1 := ⟨start1.p0, start1.e0, start1.about1, start1.theMethod, start1.args0, start1.below0, start1.atStart⟩
end Jvm.Pilot.@@N@@
