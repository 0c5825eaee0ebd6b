import JvmDerived
import JvmDerived.Pilot.@@N@@Statement
import JvmDerived.Pilot.@@N@@Code
set_option linter.unusedVariables false
set_option linter.unusedSimpArgs false
namespace Jvm.RoadKit
open Sem ClassFile Op Lib Jvm.Stand Jvm.Free Jvm.LawKit
section New
variable {p : Program} {l : Launch} {e : Env} {R : Room} {s : State} {m : MethodId} {args : Array Value} {below : List Frame} {meth : Method} {c : Code} {T : State} {locs : List Loc} {cells slots : Nat}
theorem retI (X : Stand p l e R s m args below meth c T locs cells slots) (hx : p.tables.exec = Jvm.exec) {pc : Nat} {Ls : Array Slot} {z : Int32} {rest : List Value} (hret : meth.sig.returnType = some .int) (hd : decode c.code pc = .ok (.ireturn, 1)) {fs : List Frame}
    (hl : ∀ (f : JFrame) (acts : List Action), f.method = m → f.locked = none → f.entered = [] → (doReturn e (T.setTop f) acts (some (.int z))).1 = T.setFrames fs) : Steps p.tables e below (T.setTop (mkF m pc Ls (.int z :: rest))) (T.setFrames fs) := by
  have hm' : T.vm.method? m = some meth := X.method'
  have hn : narrow .int (.int z) = .int z := rfl
  show Steps p.tables e below (T.setTop { method := m, pc := pc, locals := Ls, stack := _ :: rest, locked := none }) _
  jvm_step X.here [X.here.top, hx, hd, hm', hret, hn]
  first | (intro acts; rw [hl _ acts rfl rfl rfl]) | rw [hl _ _ rfl rfl rfl]
  exact Steps.refl _
end New
end Jvm.RoadKit
namespace Jvm.Pilot.@@N@@
open Jvm Jvm.ClassFile Sem Op Lib Jvm.Free Jvm.Stand Jvm.LawKit Jvm.RoadKit Bundle Jvm.Pilot.@@N@@.Jvm.D
section Own
variable {p : Program} {l : Launch} {e : Env} {R : Room} {s : State} {m : MethodId} {args : Array Value} {below : List Frame} {meth : Method} {c : Code} {bs : ByteArray} {ml : Nat} {own nm : String} {rt : Option FieldType} {Z : State} {F : State → Outcome → Prop} {n0 : Nat} {h h' : Heap} {cells slots : Nat} {pc q : Nat} {Ls Ls' : Array Slot} {st : List Value} {a0 : Array Value}
def oCx (p : Program) (s : State) (m : MethodId) (meth : Method) (c : Code) (bs : ByteArray) (ml : Nat) (own nm : String) (rt : Option FieldType) (Z : State) : Prop :=
  p.tables.exec = Jvm.exec ∧ c.code = bs ∧ c.maxLocals = ml ∧ s.vm.findClass own = some m.cls ∧ Z.Warmed39 s.vm ∧ meth.name = nm ∧ meth.sig.returnType = rt ∧ meth.locks = false
def oW (p : Program) (l : Launch) (e : Env) (R : Room) (s : State) (m : MethodId) (args : Array Value) (below : List Frame) (meth : Method) (c : Code) (F : State → Outcome → Prop) (n0 : Nat) (h : Heap) (cells slots : Nat) (f : JFrame) : Prop :=
  ∀ (T : State) (locs : List Loc), Stand p l e R s m args below meth c T locs cells slots → T.heap = h → Fr n0 locs → ∃ s₂ o, Steps p.tables e below (T.setTop f) s₂ ∧ s₂.status = .running ∧ Ended s₂ below o ∧ F s₂ o
def oFin (s : State) (n0 k n : Nat) (Q : Option Value → Heap → Prop) (s₂ : State) (o : Outcome) : Prop := ∃ v L, o = .returned v ∧ (Fr n0 L ∧ Q v s₂.heap) ∧ FrameEnd s o s₂ L k n
def oMet (l : Launch) (Z : State) (y : MethodName) (bs : ByteArray) (ml : Nat) (rt : Option FieldType) (ws : List Jvm.Cond) (R : Room) (k n n0 : Nat) (as' : Array Value) (h0 : Heap) (Q : Option Value → Heap → Prop) : Prop :=
  MetFree l y (head1 (Jvm.Cond.code y bs ml rt :: ws) R) (fun a U => a = as' ∧ Z.Warmed39 U.vm ∧ U.heap = h0) (fun _ _ _ _ _ => True) (fun _ U o U' => ∃ v L, o = .returned v ∧ (Fr n0 L ∧ Q v U'.heap) ∧ FrameEnd U o U' L k n)
theorem oMet.intro {y : MethodName} {ws : List Jvm.Cond} {k n : Nat} {as' : Array Value} {h0 : Heap} {Q : Option Value → Heap → Prop} (pn : plainFor y = true) (ef : ∀ m, entryFrame m as' ml = mkF m 0 Ls [])
    (body : ∀ (p : Program) (e : Env) (s : State) (m : MethodId) (below : List Frame) (meth : Method) (c : Code), oCx p s m meth c bs ml y.cls y.name rt Z → oW p l e R s m as' below meth c (oFin s n0 k n Q) n0 h0 0 0 (mkF m 0 Ls [])) :
    oMet l Z y bs ml rt ws R k n n0 as' h0 Q := by
  refine MetFree.of_bodySF pn hisR ?_
  intro p e s m args below meth c s₁ Bd hml0 hP hK
  obtain ⟨rfl, hZ, hh⟩ := hP
  have e0 : s₁.heap = h0 := by rw [← hh, Bd.state]; rfl
  have C : oCx p s m meth c bs ml y.cls y.name rt Z := ⟨Bd.exec, Bd.bytes, hml0, findClass_of_methodNamed Bd.named, hZ, (name_of_methodNamed Bd.named Bd.method).1, Bd.returns, Bd.notSynchronized⟩
  obtain ⟨s₂, o, h1, h2, h3, h4⟩ := body p e s m below meth c C s₁ [] (Stand.of_body Bd) e0 (Fr.nil n0)
  exact ⟨s₂, o, castTop (ef m) h1, h2, h3, h4⟩
theorem oMet.mono {y : MethodName} {ws : List Jvm.Cond} {k n : Nat} {as' : Array Value} {h0 : Heap} {Q Q' : Option Value → Heap → Prop} (M : oMet l Z y bs ml rt ws R k n n0 as' h0 Q) (hq : ∀ v h, Q v h → Q' v h) : oMet l Z y bs ml rt ws R k n n0 as' h0 Q' := by
  intro p e ha hc hk s m args below hf happ hP hK
  obtain ⟨n', o, h1, h2, h3, v, L, h4, ⟨h5, h6⟩, h7⟩ := M p e ha hc hk s m args below hf happ hP hK
  exact ⟨n', o, h1, h2, h3, v, L, h4, ⟨h5, hq _ _ h6⟩, h7⟩
theorem oW.of {f f' : JFrame} (k : ∀ (T : State) (locs : List Loc), Stand p l e R s m args below meth c T locs cells slots → ∀ t, Steps p.tables e below (T.setTop f') t → Steps p.tables e below (T.setTop f) t)
    (g : oW p l e R s m args below meth c F n0 h cells slots f') : oW p l e R s m args below meth c F n0 h cells slots f := fun T locs X eT N => by
  obtain ⟨s₂, o, h1, h2⟩ := g T locs X eT N
  exact ⟨s₂, o, k T locs X _ h1, h2⟩
theorem oW.to {f f' : JFrame} (k : ∀ (T : State) (locs : List Loc), Stand p l e R s m args below meth c T locs cells slots → T.heap = h → ∃ T', Stand p l e R s m args below meth c T' locs cells slots ∧ T'.heap = h ∧ ∀ t, Steps p.tables e below (T'.setTop f') t → Steps p.tables e below (T.setTop f) t)
    (g : oW p l e R s m args below meth c F n0 h cells slots f') : oW p l e R s m args below meth c F n0 h cells slots f := fun T locs X eT N => by
  obtain ⟨T', X', eT', k'⟩ := k T locs X eT
  obtain ⟨s₂, o, h1, h2⟩ := g T' locs X' eT' N
  exact ⟨s₂, o, k' _ h1, h2⟩
theorem oIloadN (C : oCx p s m meth c bs ml own nm rt Z) {k : Fin 4} {v : Int32} (hd : decode bs pc = .ok (.iload_n k, 1)) (hl : Ls[k.val]? = some (.val (.int v))) (hq : pc + 1 = q) (g : oW p l e R s m args below meth c F n0 h cells slots (mkF m q Ls (.int v :: st))) : oW p l e R s m args below meth c F n0 h cells slots (mkF m pc Ls (st)) := by
  subst hq; exact oW.of (fun T locs X t k => XS.iloadN X.here C.1 rfl (hb C.2.1 hd) hl k) g
theorem oIload (C : oCx p s m meth c bs ml own nm rt Z) {k : Nat} {v : Int32} (hd : decode bs pc = .ok (.iload k, 2)) (hl : Ls[k]? = some (.val (.int v))) (hq : pc + 2 = q) (g : oW p l e R s m args below meth c F n0 h cells slots (mkF m q Ls (.int v :: st))) : oW p l e R s m args below meth c F n0 h cells slots (mkF m pc Ls (st)) := by
  subst hq; exact oW.of (fun T locs X t k => XS.iload X.here C.1 rfl (hb C.2.1 hd) hl k) g
theorem oLloadN (C : oCx p s m meth c bs ml own nm rt Z) {k : Fin 4} {v : Int64} (hd : decode bs pc = .ok (.lload_n k, 1)) (hl : Ls[k.val]? = some (.val (.long v))) (hq : pc + 1 = q) (g : oW p l e R s m args below meth c F n0 h cells slots (mkF m q Ls (.long v :: st))) : oW p l e R s m args below meth c F n0 h cells slots (mkF m pc Ls (st)) := by
  subst hq; exact oW.of (fun T locs X t k => XS.lloadN X.here C.1 rfl (hb C.2.1 hd) hl k) g
theorem oLload (C : oCx p s m meth c bs ml own nm rt Z) {k : Nat} {v : Int64} (hd : decode bs pc = .ok (.lload k, 2)) (hl : Ls[k]? = some (.val (.long v))) (hq : pc + 2 = q) (g : oW p l e R s m args below meth c F n0 h cells slots (mkF m q Ls (.long v :: st))) : oW p l e R s m args below meth c F n0 h cells slots (mkF m pc Ls (st)) := by
  subst hq; exact oW.of (fun T locs X t k => XS.lload X.here C.1 rfl (hb C.2.1 hd) hl k) g
theorem oAloadN (C : oCx p s m meth c bs ml own nm rt Z) {k : Fin 4} {v : Value} (hd : decode bs pc = .ok (.aload_n k, 1)) (hl : Ls[k.val]? = some (.val v)) (hv : v.isRef = true) (hq : pc + 1 = q) (g : oW p l e R s m args below meth c F n0 h cells slots (mkF m q Ls (v :: st))) : oW p l e R s m args below meth c F n0 h cells slots (mkF m pc Ls (st)) := by
  subst hq; exact oW.of (fun T locs X t k => XS.aloadN X.here C.1 rfl (hb C.2.1 hd) hl hv k) g
theorem oAload (C : oCx p s m meth c bs ml own nm rt Z) {k : Nat} {v : Value} (hd : decode bs pc = .ok (.aload k, 2)) (hl : Ls[k]? = some (.val v)) (hv : v.isRef = true) (hq : pc + 2 = q) (g : oW p l e R s m args below meth c F n0 h cells slots (mkF m q Ls (v :: st))) : oW p l e R s m args below meth c F n0 h cells slots (mkF m pc Ls (st)) := by
  subst hq; exact oW.of (fun T locs X t k => XS.aload X.here C.1 rfl (hb C.2.1 hd) hl hv k) g
theorem oIstoreN (C : oCx p s m meth c bs ml own nm rt Z) {k : Fin 4} {v : Int32} (hd : decode bs pc = .ok (.istore_n k, 1)) (hl : storeLocals Ls k.val (.int v) = some Ls') (hq : pc + 1 = q) (g : oW p l e R s m args below meth c F n0 h cells slots (mkF m q Ls' (st))) : oW p l e R s m args below meth c F n0 h cells slots (mkF m pc Ls (.int v :: st)) := by
  subst hq; exact oW.of (fun T locs X t k => XS.istoreN X.here C.1 rfl (hb C.2.1 hd) rfl hl k) g
theorem oIstore (C : oCx p s m meth c bs ml own nm rt Z) {k : Nat} {v : Int32} (hd : decode bs pc = .ok (.istore k, 2)) (hl : storeLocals Ls k (.int v) = some Ls') (hq : pc + 2 = q) (g : oW p l e R s m args below meth c F n0 h cells slots (mkF m q Ls' (st))) : oW p l e R s m args below meth c F n0 h cells slots (mkF m pc Ls (.int v :: st)) := by
  subst hq; exact oW.of (fun T locs X t k => XS.istore X.here C.1 rfl (hb C.2.1 hd) rfl hl k) g
theorem oLstoreN (C : oCx p s m meth c bs ml own nm rt Z) {k : Fin 4} {v : Int64} (hd : decode bs pc = .ok (.lstore_n k, 1)) (hl : storeLocals Ls k.val (.long v) = some Ls') (hq : pc + 1 = q) (g : oW p l e R s m args below meth c F n0 h cells slots (mkF m q Ls' (st))) : oW p l e R s m args below meth c F n0 h cells slots (mkF m pc Ls (.long v :: st)) := by
  subst hq; exact oW.of (fun T locs X t k => XS.lstoreN X.here C.1 rfl (hb C.2.1 hd) rfl hl k) g
theorem oLstore (C : oCx p s m meth c bs ml own nm rt Z) {k : Nat} {v : Int64} (hd : decode bs pc = .ok (.lstore k, 2)) (hl : storeLocals Ls k (.long v) = some Ls') (hq : pc + 2 = q) (g : oW p l e R s m args below meth c F n0 h cells slots (mkF m q Ls' (st))) : oW p l e R s m args below meth c F n0 h cells slots (mkF m pc Ls (.long v :: st)) := by
  subst hq; exact oW.of (fun T locs X t k => XS.lstore X.here C.1 rfl (hb C.2.1 hd) rfl hl k) g
theorem oAstore (C : oCx p s m meth c bs ml own nm rt Z) {k : Nat} {v : Value} (hd : decode bs pc = .ok (.astore k, 2)) (hv : v.isRef = true) (hl : storeLocals Ls k v = some Ls') (hq : pc + 2 = q) (g : oW p l e R s m args below meth c F n0 h cells slots (mkF m q Ls' (st))) : oW p l e R s m args below meth c F n0 h cells slots (mkF m pc Ls (v :: st)) := by
  subst hq; exact oW.of (fun T locs X t k => XS.astore X.here C.1 rfl (hb C.2.1 hd) rfl hv hl k) g
theorem oIconst (C : oCx p s m meth c bs ml own nm rt Z) {i : Int} {z : Int32} (hd : decode bs pc = .ok (.iconst i, 1)) (hz : Int32.ofInt i = z) (hq : pc + 1 = q) (g : oW p l e R s m args below meth c F n0 h cells slots (mkF m q Ls (.int z :: st))) : oW p l e R s m args below meth c F n0 h cells slots (mkF m pc Ls (st)) := by
  subst hq; exact oW.of (fun T locs X t k => XS.iconst X.here C.1 rfl (hb C.2.1 hd) (hz ▸ k)) g
theorem oLconst (C : oCx p s m meth c bs ml own nm rt Z) {i : Fin 2} {z : Int64} (hd : decode bs pc = .ok (.lconst i, 1)) (hz : Int64.ofNat i = z) (hq : pc + 1 = q) (g : oW p l e R s m args below meth c F n0 h cells slots (mkF m q Ls (.long z :: st))) : oW p l e R s m args below meth c F n0 h cells slots (mkF m pc Ls (st)) := by
  subst hq; exact oW.of (fun T locs X t k => XS.lconst X.here C.1 rfl (hb C.2.1 hd) (hz ▸ k)) g
theorem oIadd (C : oCx p s m meth c bs ml own nm rt Z) {x y : Int32} (hd : decode bs pc = .ok (.iadd, 1)) (hq : pc + 1 = q) (g : oW p l e R s m args below meth c F n0 h cells slots (mkF m q Ls (.int (x + y) :: st))) : oW p l e R s m args below meth c F n0 h cells slots (mkF m pc Ls (.int y :: .int x :: st)) := by
  subst hq; exact oW.of (fun T locs X t k => XS.iadd X.here C.1 rfl (hb C.2.1 hd) rfl k) g
theorem oLadd (C : oCx p s m meth c bs ml own nm rt Z) {x y : Int64} (hd : decode bs pc = .ok (.ladd, 1)) (hq : pc + 1 = q) (g : oW p l e R s m args below meth c F n0 h cells slots (mkF m q Ls (.long (x + y) :: st))) : oW p l e R s m args below meth c F n0 h cells slots (mkF m pc Ls (.long y :: .long x :: st)) := by
  subst hq; exact oW.of (fun T locs X t k => XS.ladd X.here C.1 rfl (hb C.2.1 hd) rfl k) g
theorem oIsub (C : oCx p s m meth c bs ml own nm rt Z) {x y : Int32} (hd : decode bs pc = .ok (.isub, 1)) (hq : pc + 1 = q) (g : oW p l e R s m args below meth c F n0 h cells slots (mkF m q Ls (.int (x - y) :: st))) : oW p l e R s m args below meth c F n0 h cells slots (mkF m pc Ls (.int y :: .int x :: st)) := by
  subst hq; exact oW.of (fun T locs X t k => XS.isub X.here C.1 rfl (hb C.2.1 hd) rfl k) g
theorem oLsub (C : oCx p s m meth c bs ml own nm rt Z) {x y : Int64} (hd : decode bs pc = .ok (.lsub, 1)) (hq : pc + 1 = q) (g : oW p l e R s m args below meth c F n0 h cells slots (mkF m q Ls (.long (x - y) :: st))) : oW p l e R s m args below meth c F n0 h cells slots (mkF m pc Ls (.long y :: .long x :: st)) := by
  subst hq; exact oW.of (fun T locs X t k => XS.lsub X.here C.1 rfl (hb C.2.1 hd) rfl k) g
theorem oIand (C : oCx p s m meth c bs ml own nm rt Z) {x y : Int32} (hd : decode bs pc = .ok (.iand, 1)) (hq : pc + 1 = q) (g : oW p l e R s m args below meth c F n0 h cells slots (mkF m q Ls (.int (x &&& y) :: st))) : oW p l e R s m args below meth c F n0 h cells slots (mkF m pc Ls (.int y :: .int x :: st)) := by
  subst hq; exact oW.of (fun T locs X t k => XS.iand X.here C.1 rfl (hb C.2.1 hd) rfl k) g
theorem oLand (C : oCx p s m meth c bs ml own nm rt Z) {x y : Int64} (hd : decode bs pc = .ok (.land, 1)) (hq : pc + 1 = q) (g : oW p l e R s m args below meth c F n0 h cells slots (mkF m q Ls (.long (x &&& y) :: st))) : oW p l e R s m args below meth c F n0 h cells slots (mkF m pc Ls (.long y :: .long x :: st)) := by
  subst hq; exact oW.of (fun T locs X t k => XS.land X.here C.1 rfl (hb C.2.1 hd) rfl k) g
theorem oLxor (C : oCx p s m meth c bs ml own nm rt Z) {x y : Int64} (hd : decode bs pc = .ok (.lxor, 1)) (hq : pc + 1 = q) (g : oW p l e R s m args below meth c F n0 h cells slots (mkF m q Ls (.long (x ^^^ y) :: st))) : oW p l e R s m args below meth c F n0 h cells slots (mkF m pc Ls (.long y :: .long x :: st)) := by
  subst hq; exact oW.of (fun T locs X t k => XS.lxor X.here C.1 rfl (hb C.2.1 hd) rfl k) g
theorem oIinc (C : oCx p s m meth c bs ml own nm rt Z) {k : Nat} {i : Int} {x z w : Int32} (hd : decode bs pc = .ok (.iinc k i, 3)) (hl : Ls[k]? = some (.val (.int x))) (hz : Int32.ofInt i = z) (hw : x + z = w) (hl' : storeLocals Ls k (.int w) = some Ls') (hq : pc + 3 = q) (g : oW p l e R s m args below meth c F n0 h cells slots (mkF m q Ls' (st))) : oW p l e R s m args below meth c F n0 h cells slots (mkF m pc Ls (st)) := by
  subst hq; exact oW.of (fun T locs X t k => XS.iinc X.here C.1 rfl (hb C.2.1 hd) hl (hz ▸ hw ▸ hl') k) g
theorem oDup (C : oCx p s m meth c bs ml own nm rt Z) {x : Value} (hd : decode bs pc = .ok (.dup, 1)) (hc : x.category = 1) (hq : pc + 1 = q) (g : oW p l e R s m args below meth c F n0 h cells slots (mkF m q Ls (x :: x :: st))) : oW p l e R s m args below meth c F n0 h cells slots (mkF m pc Ls (x :: st)) := by
  subst hq; exact oW.of (fun T locs X t k => XS.dup X.here C.1 rfl (hb C.2.1 hd) rfl hc k) g
theorem oDupX1 (C : oCx p s m meth c bs ml own nm rt Z) {x y : Value} (hd : decode bs pc = .ok (.dup_x1, 1)) (hc : x.category = 1) (hc' : y.category = 1) (hq : pc + 1 = q) (g : oW p l e R s m args below meth c F n0 h cells slots (mkF m q Ls (x :: y :: x :: st))) : oW p l e R s m args below meth c F n0 h cells slots (mkF m pc Ls (x :: y :: st)) := by
  subst hq; exact oW.of (fun T locs X t k => XS.dupX1 X.here C.1 rfl (hb C.2.1 hd) rfl hc hc' k) g
theorem oDup2 (C : oCx p s m meth c bs ml own nm rt Z) {x y : Value} (hd : decode bs pc = .ok (.dup2, 1)) (hc : x.category = 1) (hc' : y.category = 1) (hq : pc + 1 = q) (g : oW p l e R s m args below meth c F n0 h cells slots (mkF m q Ls (x :: y :: x :: y :: st))) : oW p l e R s m args below meth c F n0 h cells slots (mkF m pc Ls (x :: y :: st)) := by
  subst hq; exact oW.of (fun T locs X t k => XT.dup2 X.here C.1 rfl (hb C.2.1 hd) rfl hc hc' k) g
theorem oGoto (C : oCx p s m meth c bs ml own nm rt Z) {o : Int} (hd : decode bs pc = .ok (.goto o, 3)) (ho : 0 ≤ (pc : Int) + o) (hp : ((pc : Int) + o).toNat = q) (g : oW p l e R s m args below meth c F n0 h cells slots (mkF m q Ls (st))) : oW p l e R s m args below meth c F n0 h cells slots (mkF m pc Ls (st)) :=
  oW.of (fun T locs X t k => XS.goto X.here C.1 rfl (pc0 := pc) rfl (hb C.2.1 hd) ho hp k) g
theorem oIcmp_eq (C : oCx p s m meth c bs ml own nm rt Z) {x y : Int32} {o : Int} {r : Nat} (hd : decode bs pc = .ok (.if_icmp .eq o, 3)) (ho : 0 ≤ (pc : Int) + o) (hp : ((pc : Int) + o).toNat = q) (hr : pc + 3 = r) (gy : x = y → oW p l e R s m args below meth c F n0 h cells slots (mkF m q Ls (st))) (gn : ¬ x = y → oW p l e R s m args below meth c F n0 h cells slots (mkF m r Ls (st))) : oW p l e R s m args below meth c F n0 h cells slots (mkF m pc Ls (.int y :: .int x :: st)) := by
  subst hr
  by_cases hc : x = y
  · exact oW.of (fun T locs X t k => XS.icmpYes X.here C.1 rfl (pc0 := pc) rfl (hb C.2.1 hd) rfl (teq hc).1 ho hp k) (gy hc)
  · exact oW.of (fun T locs X t k => XS.icmpNo X.here C.1 rfl (hb C.2.1 hd) rfl (feq hc).1 k) (gn hc)
theorem oIf_eq (C : oCx p s m meth c bs ml own nm rt Z) {x : Int32} {o : Int} {r : Nat} (hd : decode bs pc = .ok (.ifCond .eq o, 3)) (ho : 0 ≤ (pc : Int) + o) (hp : ((pc : Int) + o).toNat = q) (hr : pc + 3 = r) (gy : x = 0 → oW p l e R s m args below meth c F n0 h cells slots (mkF m q Ls (st))) (gn : ¬ x = 0 → oW p l e R s m args below meth c F n0 h cells slots (mkF m r Ls (st))) : oW p l e R s m args below meth c F n0 h cells slots (mkF m pc Ls (.int x :: st)) := by
  subst hr
  by_cases hc : x = 0
  · exact oW.of (fun T locs X t k => XS.ifYes X.here C.1 rfl (pc0 := pc) rfl (hb C.2.1 hd) rfl ((if0 _ _).trans (teq hc).1) ho hp k) (gy hc)
  · exact oW.of (fun T locs X t k => XS.ifNo X.here C.1 rfl (hb C.2.1 hd) rfl ((if0 _ _).trans (feq hc).1) k) (gn hc)
theorem oIcmp_ne (C : oCx p s m meth c bs ml own nm rt Z) {x y : Int32} {o : Int} {r : Nat} (hd : decode bs pc = .ok (.if_icmp .ne o, 3)) (ho : 0 ≤ (pc : Int) + o) (hp : ((pc : Int) + o).toNat = q) (hr : pc + 3 = r) (gy : ¬ x = y → oW p l e R s m args below meth c F n0 h cells slots (mkF m q Ls (st))) (gn : x = y → oW p l e R s m args below meth c F n0 h cells slots (mkF m r Ls (st))) : oW p l e R s m args below meth c F n0 h cells slots (mkF m pc Ls (.int y :: .int x :: st)) := by
  subst hr
  by_cases hc : x = y
  · exact oW.of (fun T locs X t k => XS.icmpNo X.here C.1 rfl (hb C.2.1 hd) rfl (teq hc).2 k) (gn hc)
  · exact oW.of (fun T locs X t k => XS.icmpYes X.here C.1 rfl (pc0 := pc) rfl (hb C.2.1 hd) rfl (feq hc).2 ho hp k) (gy hc)
theorem oIf_ne (C : oCx p s m meth c bs ml own nm rt Z) {x : Int32} {o : Int} {r : Nat} (hd : decode bs pc = .ok (.ifCond .ne o, 3)) (ho : 0 ≤ (pc : Int) + o) (hp : ((pc : Int) + o).toNat = q) (hr : pc + 3 = r) (gy : ¬ x = 0 → oW p l e R s m args below meth c F n0 h cells slots (mkF m q Ls (st))) (gn : x = 0 → oW p l e R s m args below meth c F n0 h cells slots (mkF m r Ls (st))) : oW p l e R s m args below meth c F n0 h cells slots (mkF m pc Ls (.int x :: st)) := by
  subst hr
  by_cases hc : x = 0
  · exact oW.of (fun T locs X t k => XS.ifNo X.here C.1 rfl (hb C.2.1 hd) rfl ((if0 _ _).trans (teq hc).2) k) (gn hc)
  · exact oW.of (fun T locs X t k => XS.ifYes X.here C.1 rfl (pc0 := pc) rfl (hb C.2.1 hd) rfl ((if0 _ _).trans (feq hc).2) ho hp k) (gy hc)
theorem oLcmp_ne (C : oCx p s m meth c bs ml own nm rt Z) {x y : Int64} {o : Int} {pd r : Nat} (hd0 : decode bs pc = .ok (.lcmp, 1)) (hq0 : pc + 1 = pd) (hd : decode bs pd = .ok (.ifCond .ne o, 3)) (ho : 0 ≤ (pd : Int) + o) (hp : ((pd : Int) + o).toNat = q) (hr : pd + 3 = r) (gy : ¬ x = y → oW p l e R s m args below meth c F n0 h cells slots (mkF m q Ls (st))) (gn : x = y → oW p l e R s m args below meth c F n0 h cells slots (mkF m r Ls (st))) : oW p l e R s m args below meth c F n0 h cells slots (mkF m pc Ls (.long y :: .long x :: st)) := by
  subst hq0
  refine oW.of (fun T locs X t k => XS.lcmp X.here C.1 rfl (hb C.2.1 hd0) rfl k) ?_
  exact oIf_ne C hd ho hp hr (fun w => gy (fun u => w ((lw_eq x y).mpr u))) (fun w => gn ((lw_eq x y).mp w))
theorem oIcmp_lt (C : oCx p s m meth c bs ml own nm rt Z) {x y : Int32} {o : Int} {r : Nat} (hd : decode bs pc = .ok (.if_icmp .lt o, 3)) (ho : 0 ≤ (pc : Int) + o) (hp : ((pc : Int) + o).toNat = q) (hr : pc + 3 = r) (gy : x < y → oW p l e R s m args below meth c F n0 h cells slots (mkF m q Ls (st))) (gn : ¬ x < y → oW p l e R s m args below meth c F n0 h cells slots (mkF m r Ls (st))) : oW p l e R s m args below meth c F n0 h cells slots (mkF m pc Ls (.int y :: .int x :: st)) := by
  subst hr
  by_cases hc : x < y
  · exact oW.of (fun T locs X t k => XS.icmpYes X.here C.1 rfl (pc0 := pc) rfl (hb C.2.1 hd) rfl (tlt hc).1 ho hp k) (gy hc)
  · exact oW.of (fun T locs X t k => XS.icmpNo X.here C.1 rfl (hb C.2.1 hd) rfl (flt hc).1 k) (gn hc)
theorem oIf_lt (C : oCx p s m meth c bs ml own nm rt Z) {x : Int32} {o : Int} {r : Nat} (hd : decode bs pc = .ok (.ifCond .lt o, 3)) (ho : 0 ≤ (pc : Int) + o) (hp : ((pc : Int) + o).toNat = q) (hr : pc + 3 = r) (gy : x < 0 → oW p l e R s m args below meth c F n0 h cells slots (mkF m q Ls (st))) (gn : ¬ x < 0 → oW p l e R s m args below meth c F n0 h cells slots (mkF m r Ls (st))) : oW p l e R s m args below meth c F n0 h cells slots (mkF m pc Ls (.int x :: st)) := by
  subst hr
  by_cases hc : x < 0
  · exact oW.of (fun T locs X t k => XS.ifYes X.here C.1 rfl (pc0 := pc) rfl (hb C.2.1 hd) rfl ((if0 _ _).trans (tlt hc).1) ho hp k) (gy hc)
  · exact oW.of (fun T locs X t k => XS.ifNo X.here C.1 rfl (hb C.2.1 hd) rfl ((if0 _ _).trans (flt hc).1) k) (gn hc)
theorem oIcmp_ge (C : oCx p s m meth c bs ml own nm rt Z) {x y : Int32} {o : Int} {r : Nat} (hd : decode bs pc = .ok (.if_icmp .ge o, 3)) (ho : 0 ≤ (pc : Int) + o) (hp : ((pc : Int) + o).toNat = q) (hr : pc + 3 = r) (gy : ¬ x < y → oW p l e R s m args below meth c F n0 h cells slots (mkF m q Ls (st))) (gn : x < y → oW p l e R s m args below meth c F n0 h cells slots (mkF m r Ls (st))) : oW p l e R s m args below meth c F n0 h cells slots (mkF m pc Ls (.int y :: .int x :: st)) := by
  subst hr
  by_cases hc : x < y
  · exact oW.of (fun T locs X t k => XS.icmpNo X.here C.1 rfl (hb C.2.1 hd) rfl (tlt hc).2.1 k) (gn hc)
  · exact oW.of (fun T locs X t k => XS.icmpYes X.here C.1 rfl (pc0 := pc) rfl (hb C.2.1 hd) rfl (flt hc).2.1 ho hp k) (gy hc)
theorem oIf_ge (C : oCx p s m meth c bs ml own nm rt Z) {x : Int32} {o : Int} {r : Nat} (hd : decode bs pc = .ok (.ifCond .ge o, 3)) (ho : 0 ≤ (pc : Int) + o) (hp : ((pc : Int) + o).toNat = q) (hr : pc + 3 = r) (gy : ¬ x < 0 → oW p l e R s m args below meth c F n0 h cells slots (mkF m q Ls (st))) (gn : x < 0 → oW p l e R s m args below meth c F n0 h cells slots (mkF m r Ls (st))) : oW p l e R s m args below meth c F n0 h cells slots (mkF m pc Ls (.int x :: st)) := by
  subst hr
  by_cases hc : x < 0
  · exact oW.of (fun T locs X t k => XS.ifNo X.here C.1 rfl (hb C.2.1 hd) rfl ((if0 _ _).trans (tlt hc).2.1) k) (gn hc)
  · exact oW.of (fun T locs X t k => XS.ifYes X.here C.1 rfl (pc0 := pc) rfl (hb C.2.1 hd) rfl ((if0 _ _).trans (flt hc).2.1) ho hp k) (gy hc)
theorem oLcmp_ge (C : oCx p s m meth c bs ml own nm rt Z) {x y : Int64} {o : Int} {pd r : Nat} (hd0 : decode bs pc = .ok (.lcmp, 1)) (hq0 : pc + 1 = pd) (hd : decode bs pd = .ok (.ifCond .ge o, 3)) (ho : 0 ≤ (pd : Int) + o) (hp : ((pd : Int) + o).toNat = q) (hr : pd + 3 = r) (gy : ¬ x < y → oW p l e R s m args below meth c F n0 h cells slots (mkF m q Ls (st))) (gn : x < y → oW p l e R s m args below meth c F n0 h cells slots (mkF m r Ls (st))) : oW p l e R s m args below meth c F n0 h cells slots (mkF m pc Ls (.long y :: .long x :: st)) := by
  subst hq0
  refine oW.of (fun T locs X t k => XS.lcmp X.here C.1 rfl (hb C.2.1 hd0) rfl k) ?_
  exact oIf_ge C hd ho hp hr (fun w => gy (fun u => w ((lw_lt x y).mpr u))) (fun w => gn ((lw_lt x y).mp w))
theorem oIf_gt (C : oCx p s m meth c bs ml own nm rt Z) {x : Int32} {o : Int} {r : Nat} (hd : decode bs pc = .ok (.ifCond .gt o, 3)) (ho : 0 ≤ (pc : Int) + o) (hp : ((pc : Int) + o).toNat = q) (hr : pc + 3 = r) (gy : 0 < x → oW p l e R s m args below meth c F n0 h cells slots (mkF m q Ls (st))) (gn : ¬ 0 < x → oW p l e R s m args below meth c F n0 h cells slots (mkF m r Ls (st))) : oW p l e R s m args below meth c F n0 h cells slots (mkF m pc Ls (.int x :: st)) := by
  subst hr
  by_cases hc : 0 < x
  · exact oW.of (fun T locs X t k => XS.ifYes X.here C.1 rfl (pc0 := pc) rfl (hb C.2.1 hd) rfl ((if0 _ _).trans (tlt hc).2.2.1) ho hp k) (gy hc)
  · exact oW.of (fun T locs X t k => XS.ifNo X.here C.1 rfl (hb C.2.1 hd) rfl ((if0 _ _).trans (flt hc).2.2.1) k) (gn hc)
theorem oLcmp_gt (C : oCx p s m meth c bs ml own nm rt Z) {x y : Int64} {o : Int} {pd r : Nat} (hd0 : decode bs pc = .ok (.lcmp, 1)) (hq0 : pc + 1 = pd) (hd : decode bs pd = .ok (.ifCond .gt o, 3)) (ho : 0 ≤ (pd : Int) + o) (hp : ((pd : Int) + o).toNat = q) (hr : pd + 3 = r) (gy : y < x → oW p l e R s m args below meth c F n0 h cells slots (mkF m q Ls (st))) (gn : ¬ y < x → oW p l e R s m args below meth c F n0 h cells slots (mkF m r Ls (st))) : oW p l e R s m args below meth c F n0 h cells slots (mkF m pc Ls (.long y :: .long x :: st)) := by
  subst hq0
  refine oW.of (fun T locs X t k => XS.lcmp X.here C.1 rfl (hb C.2.1 hd0) rfl k) ?_
  exact oIf_gt C hd ho hp hr (fun w => gy ((lw_gt x y).mp w)) (fun w => gn (fun u => w ((lw_gt x y).mpr u)))
theorem oIf_le (C : oCx p s m meth c bs ml own nm rt Z) {x : Int32} {o : Int} {r : Nat} (hd : decode bs pc = .ok (.ifCond .le o, 3)) (ho : 0 ≤ (pc : Int) + o) (hp : ((pc : Int) + o).toNat = q) (hr : pc + 3 = r) (gy : ¬ 0 < x → oW p l e R s m args below meth c F n0 h cells slots (mkF m q Ls (st))) (gn : 0 < x → oW p l e R s m args below meth c F n0 h cells slots (mkF m r Ls (st))) : oW p l e R s m args below meth c F n0 h cells slots (mkF m pc Ls (.int x :: st)) := by
  subst hr
  by_cases hc : 0 < x
  · exact oW.of (fun T locs X t k => XS.ifNo X.here C.1 rfl (hb C.2.1 hd) rfl ((if0 _ _).trans (tlt hc).2.2.2) k) (gn hc)
  · exact oW.of (fun T locs X t k => XS.ifYes X.here C.1 rfl (pc0 := pc) rfl (hb C.2.1 hd) rfl ((if0 _ _).trans (flt hc).2.2.2) ho hp k) (gy hc)
theorem oLcmp_le (C : oCx p s m meth c bs ml own nm rt Z) {x y : Int64} {o : Int} {pd r : Nat} (hd0 : decode bs pc = .ok (.lcmp, 1)) (hq0 : pc + 1 = pd) (hd : decode bs pd = .ok (.ifCond .le o, 3)) (ho : 0 ≤ (pd : Int) + o) (hp : ((pd : Int) + o).toNat = q) (hr : pd + 3 = r) (gy : ¬ y < x → oW p l e R s m args below meth c F n0 h cells slots (mkF m q Ls (st))) (gn : y < x → oW p l e R s m args below meth c F n0 h cells slots (mkF m r Ls (st))) : oW p l e R s m args below meth c F n0 h cells slots (mkF m pc Ls (.long y :: .long x :: st)) := by
  subst hq0
  refine oW.of (fun T locs X t k => XS.lcmp X.here C.1 rfl (hb C.2.1 hd0) rfl k) ?_
  exact oIf_le C hd ho hp hr (fun w => gy (fun u => w ((lw_gt x y).mpr u))) (fun w => gn ((lw_gt x y).mp w))
theorem oLdc2 (C : oCx p s m meth c bs ml own nm rt Z) {i : Nat} {v : Int64} (w : (Jvm.Cond.constantLong own i v).before a0 Z = true) (hd : decode bs pc = .ok (.ldc2_w i, 3)) (hq : pc + 3 = q) (g : oW p l e R s m args below meth c F n0 h cells slots (mkF m q Ls (.long v :: st))) : oW p l e R s m args below meth c F n0 h cells slots (mkF m pc Ls st) := by
  subst hq; exact oW.of (fun T locs X t k => X.ldc2Long C.1 C.2.2.2.1 (mvT C.2.2.2.2.1 w) (g := mkF m pc Ls st) rfl (hb C.2.1 hd) t k) g
section Rets
variable {k n : Nat} {Q : Option Value → Heap → Prop} {rt' : FieldType}
theorem oRetN (C : oCx p s m meth c bs ml own nm (some rt') Z) (ht : rt' = .boolean ∨ rt' = .byte ∨ rt' = .char ∨ rt' = .short) {z z' : Int32} (hd : decode bs pc = .ok (.ireturn, 1)) (hz : nar rt' z = z') (hk : cells ≤ k) (hn : slots ≤ n) (hQ : Q (some (.int z')) h) :
    oW p l e R s m args below meth c (oFin s n0 k n Q) n0 h cells slots (mkF m pc Ls (.int z :: st)) := fun T locs X eT N => by
  subst hz eT
  obtain ⟨fs, hr, hrun, hended, hW, hsame⟩ := X.leave (v := some (.int (nar rt' z))) (fun hh => by rw [C.2.2.2.2.2.2.1] at hh; cases hh) C.2.2.2.2.2.2.2
  exact ⟨_, _, retN X C.1 C.2.2.2.2.2.2.1 ht (hb C.2.1 hd) hr, hrun, hended, _, _, rfl, ⟨N, hQ⟩, ⟨_, rfl⟩, hW, hsame.mono hk hn⟩
theorem oRetZ (C : oCx p s m meth c bs ml own nm (some .boolean) Z) {z z' : Int32} (hd : decode bs pc = .ok (.ireturn, 1)) (hz : nar .boolean z = z') (hk : cells ≤ k) (hn : slots ≤ n) (hQ : Q (some (.int z')) h) :
    oW p l e R s m args below meth c (oFin s n0 k n Q) n0 h cells slots (mkF m pc Ls (.int z :: st)) := oRetN C (Or.inl rfl) hd hz hk hn hQ
theorem oRetI (C : oCx p s m meth c bs ml own nm (some .int) Z) {z : Int32} (hd : decode bs pc = .ok (.ireturn, 1)) (hk : cells ≤ k) (hn : slots ≤ n) (hQ : Q (some (.int z)) h) :
    oW p l e R s m args below meth c (oFin s n0 k n Q) n0 h cells slots (mkF m pc Ls (.int z :: st)) := fun T locs X eT N => by
  subst eT
  obtain ⟨fs, hr, hrun, hended, hW, hsame⟩ := X.leave (v := some (.int z)) (fun hh => by rw [C.2.2.2.2.2.2.1] at hh; cases hh) C.2.2.2.2.2.2.2
  exact ⟨_, _, retI X C.1 C.2.2.2.2.2.2.1 (hb C.2.1 hd) hr, hrun, hended, _, _, rfl, ⟨N, hQ⟩, ⟨_, rfl⟩, hW, hsame.mono hk hn⟩
theorem oRetL (C : oCx p s m meth c bs ml own nm (some .long) Z) {z : Int64} (hd : decode bs pc = .ok (.lreturn, 1)) (hk : cells ≤ k) (hn : slots ≤ n) (hQ : Q (some (.long z)) h) :
    oW p l e R s m args below meth c (oFin s n0 k n Q) n0 h cells slots (mkF m pc Ls [.long z]) := fun T locs X eT N => by
  subst eT
  obtain ⟨fs, hr, hrun, hended, hW, hsame⟩ := X.leave (v := some (.long z)) (fun hh => by rw [C.2.2.2.2.2.2.1] at hh; cases hh) C.2.2.2.2.2.2.2
  exact ⟨_, _, X.lreturnOut C.1 C.2.2.2.2.2.2.1 (hb C.2.1 hd) hr, hrun, hended, _, _, rfl, ⟨N, hQ⟩, ⟨_, rfl⟩, hW, hsame.mono hk hn⟩
theorem oRetV (C : oCx p s m meth c bs ml own nm none Z) (hd : decode bs pc = .ok (.return_, 1)) (hk : cells ≤ k) (hn : slots ≤ n) (hQ : Q none h) :
    oW p l e R s m args below meth c (oFin s n0 k n Q) n0 h cells slots (mkF m pc Ls []) := fun T locs X eT N => by
  subst eT
  obtain ⟨fs, hr, hrun, hended, hW, hsame⟩ := X.leave (v := none) (fun _ => rfl) C.2.2.2.2.2.2.2
  exact ⟨_, _, X.returnOut C.1 C.2.2.2.2.2.2.1 (hb C.2.1 hd) hr, hrun, hended, _, _, rfl, ⟨N, hQ⟩, ⟨_, rfl⟩, hW, hsame.mono hk hn⟩
end Rets
section Calls
variable {i : Nat} {y : MethodName} {bs' : ByteArray} {ml' : Nat} {rt' : Option FieldType} {R' : Room} {Q : Option Value → Heap → Prop} {argsL rest : List Value} {ps : List FieldType} {r' : Option FieldType} {W : Nat} {a : Addr}
theorem oCallS (C : oCx p s m meth c bs ml own nm rt Z) (w1 : (Jvm.Cond.methodLink own i y).before a0 Z = true) (w2 : (Jvm.Cond.static y).before a0 Z = true) (w3 : (Jvm.Cond.initialized y.cls).before a0 Z = true) (w4 : (Jvm.Cond.code y bs' ml' rt').before a0 Z = true) (hd : decode bs pc = .ok (.invokestatic i, 3))
    (hy : y.cls ≠ "java/lang/invoke/MethodHandle" ∧ y.cls ≠ "java/lang/invoke/VarHandle") (hpd : parseMethodDescriptor y.desc = some ⟨ps, r'⟩) (hlen : argsL.length = ps.length) (hsz : Ls.size = ml) (hst : argsL.reverse ++ rest = st) (hW : (rest.map fun v => v.category).sum = W) (hq : pc + 3 = q)
    (hf : R'.frames + 1 ≤ R.frames) (hl : W + (ml' + 11) + R'.locals ≤ R.locals) (hc : cells + R'.cells ≤ R.cells) (hs : slots + R'.slots ≤ R.slots)
    (M : oMet l Z y bs' ml' rt' [] R' R'.cells R'.slots n0 argsL.toArray h Q)
    (g : ∀ v h', Q v h' → oW p l e R s m args below meth c F n0 h' (cells + R'.cells) (slots + R'.slots) (mkF m q Ls (v.toList ++ rest))) :
    oW p l e R s m args below meth c F n0 h cells slots (mkF m pc Ls st) := fun T locs X eT N => by
  subst hq hst
  have hZ := C.2.2.2.2.1
  obtain ⟨v, _, ⟨T', L', k', n'⟩, -, X', ⟨Lc, ⟨hN, hQ⟩, l', y', z'⟩, st'⟩ := Jvm.LawKit.callS X C.1 (y := y) C.2.2.2.1 (mvT hZ w1) (mvT hZ w2) (mvT hZ w3) (mvT hZ w4) hy (backOf (W := W) (Q := fun v h L => Fr n0 L ∧ Q v h) M hZ w4 w3 hf hl) (g := mkF m pc Ls (argsL.reverse ++ rest)) rfl (hsz.trans C.2.2.1.symm) (argsL := argsL) (rest := rest) (lenOf hpd hlen) rfl (by show 2 * 0 + _ ≤ _; omega) (hb C.2.1 hd) (fun _ _ => ⟨rfl, eT, hc, hs⟩)
  dsimp only [Pt.U, Pt.locs, Pt.cells, Pt.slots] at X' l' y' z' st' hQ
  subst l' y' z'
  obtain ⟨s₂, o, h1, h2⟩ := g v T'.heap hQ T' _ X' rfl (Fr.app N hN)
  exact ⟨s₂, o, st' _ h1, h2⟩
theorem oCallC (C : oCx p s m meth c bs ml own nm rt Z) (w1 : (Jvm.Cond.methodLink own i y).before a0 Z = true) (w2 : (Jvm.Cond.instanceMethod y).before a0 Z = true) (w3 : (Jvm.Cond.initialized y.cls).before a0 Z = true) (w4 : (Jvm.Cond.code y bs' ml' none).before a0 Z = true) (hd : decode bs pc = .ok (.invokespecial i, 3))
    (hn : y.name = "<init>") (hy : y.cls ≠ "java/lang/invoke/MethodHandle" ∧ y.cls ≠ "java/lang/invoke/VarHandle") (hpd : parseMethodDescriptor y.desc = some ⟨ps, r'⟩) (hlen : argsL.length = ps.length) (hsz : Ls.size = ml) (hst : argsL.reverse ++ .ref a :: rest = st) (hW : (rest.map fun v => v.category).sum = W) (hq : pc + 3 = q)
    (hf : R'.frames + 1 ≤ R.frames) (hl : W + (ml' + 11) + R'.locals ≤ R.locals) (hc : cells + R'.cells ≤ R.cells) (hs : slots + R'.slots ≤ R.slots)
    (M : oMet l Z y bs' ml' none [] R' R'.cells R'.slots n0 (.ref a :: argsL).toArray h Q)
    (g : ∀ v h', Q v h' → oW p l e R s m args below meth c F n0 h' (cells + R'.cells) (slots + R'.slots) (mkF m q Ls (v.toList ++ rest))) :
    oW p l e R s m args below meth c F n0 h cells slots (mkF m pc Ls st) := fun T locs X eT N => by
  subst hq hst
  have hZ := C.2.2.2.2.1
  obtain ⟨v, _, ⟨T', L', k', n'⟩, -, X', ⟨Lc, ⟨hN, hQ⟩, l', y', z'⟩, st'⟩ := X.specialBack C.1 (y := y) hn C.2.2.2.1 (mvT hZ w1) (mvT hZ w2) (mvT hZ w4) hy (backOf (W := W) (Q := fun v h L => Fr n0 L ∧ Q v h) M hZ w4 w3 hf hl) (g := mkF m pc Ls (argsL.reverse ++ .ref a :: rest)) rfl (hsz.trans C.2.2.1.symm) (Steps.refl _) (a := a) (argsL := argsL) (rest := rest) (lenOf hpd hlen) rfl (by show 2 * 0 + _ ≤ _; omega) (hb C.2.1 hd) (fun _ _ => ⟨rfl, eT, hc, hs⟩)
  dsimp only [Pt.U, Pt.locs, Pt.cells, Pt.slots] at X' l' y' z' st' hQ
  subst l' y' z'
  obtain ⟨s₂, o, h1, h2⟩ := g v T'.heap hQ T' _ X' rfl (Fr.app N hN)
  exact ⟨s₂, o, st'.trans h1, h2⟩
theorem oCallV (C : oCx p s m meth c bs ml own nm rt Z) (w1 : (Jvm.Cond.methodLink own i y).before a0 Z = true) (w5 : (Jvm.Cond.declares y).before a0 Z = true) (w6 : (Jvm.Cond.selects y.cls y y).before a0 Z = true) (w2 : (Jvm.Cond.instanceMethod y).before a0 Z = true) (w3 : (Jvm.Cond.initialized y.cls).before a0 Z = true) (w4 : (Jvm.Cond.code y bs' ml' rt').before a0 Z = true) (hd : decode bs pc = .ok (.invokevirtual i, 3))
    (E : Exa Z h a y.cls) (hy : y.cls ≠ "java/lang/invoke/MethodHandle" ∧ y.cls ≠ "java/lang/invoke/VarHandle") (hpd : parseMethodDescriptor y.desc = some ⟨ps, r'⟩) (hlen : argsL.length = ps.length) (hsz : Ls.size = ml) (hst : argsL.reverse ++ .ref a :: rest = st) (hW : (rest.map fun v => v.category).sum = W) (hq : pc + 3 = q)
    (hf : R'.frames + 1 ≤ R.frames) (hl : W + (ml' + 11) + R'.locals ≤ R.locals) (hc : cells + R'.cells ≤ R.cells) (hs : slots + R'.slots ≤ R.slots)
    (M : oMet l Z y bs' ml' rt' [] R' R'.cells R'.slots n0 (.ref a :: argsL).toArray h Q)
    (g : ∀ v h', Q v h' → oW p l e R s m args below meth c F n0 h' (cells + R'.cells) (slots + R'.slots) (mkF m q Ls (v.toList ++ rest))) :
    oW p l e R s m args below meth c F n0 h cells slots (mkF m pc Ls st) := fun T locs X eT N => by
  subst hq hst
  have hZ := C.2.2.2.2.1
  obtain ⟨cq, kq, qa, qb, qc⟩ := isOf hZ eT E
  obtain ⟨v, _, ⟨T', L', k', n'⟩, -, X', ⟨Lc, ⟨hN, hQ⟩, l', y', z'⟩, st'⟩ := X.virtualBack C.1 (y := y) (z := y) C.2.2.2.1 (mvT hZ w1) (mvT hZ w5) (notFace_of_selects (args := #[]) (mvT hZ w6)) (mvT hZ w6) (mvT hZ w2) hy (backOf (W := W) (Q := fun v h L => Fr n0 L ∧ Q v h) M hZ w4 w3 hf hl) qa qc (g := mkF m pc Ls (argsL.reverse ++ .ref a :: rest)) rfl (hsz.trans C.2.2.1.symm) (Steps.refl _) (argsL := argsL) (rest := rest) (lenOf hpd hlen) rfl (by show 2 * 0 + _ ≤ _; omega) (hb C.2.1 hd) (fun _ _ => ⟨rfl, eT, hc, hs⟩)
  dsimp only [Pt.U, Pt.locs, Pt.cells, Pt.slots] at X' l' y' z' st' hQ
  subst l' y' z'
  obtain ⟨s₂, o, h1, h2⟩ := g v T'.heap hQ T' _ X' rfl (Fr.app N hN)
  exact ⟨s₂, o, st'.trans h1, h2⟩
theorem oCallP {kk : Nat} (C : oCx p s m meth c bs ml own nm rt Z) (w1 : (Jvm.Cond.methodLink own i y).before a0 Z = true) (w5 : (Jvm.Cond.privateMethod y).before a0 Z = true) (w6 : (Jvm.Cond.instantiable y.cls kk).before a0 Z = true) (w2 : (Jvm.Cond.instanceMethod y).before a0 Z = true) (w3 : (Jvm.Cond.initialized y.cls).before a0 Z = true) (w4 : (Jvm.Cond.code y bs' ml' rt').before a0 Z = true) (hd : decode bs pc = .ok (.invokevirtual i, 3))
    (E : Exa Z h a y.cls) (hy : y.cls ≠ "java/lang/invoke/MethodHandle" ∧ y.cls ≠ "java/lang/invoke/VarHandle") (hpd : parseMethodDescriptor y.desc = some ⟨ps, r'⟩) (hlen : argsL.length = ps.length) (hsz : Ls.size = ml) (hst : argsL.reverse ++ .ref a :: rest = st) (hW : (rest.map fun v => v.category).sum = W) (hq : pc + 3 = q)
    (hf : R'.frames + 1 ≤ R.frames) (hl : W + (ml' + 11) + R'.locals ≤ R.locals) (hc : cells + R'.cells ≤ R.cells) (hs : slots + R'.slots ≤ R.slots)
    (M : oMet l Z y bs' ml' rt' [] R' R'.cells R'.slots n0 (.ref a :: argsL).toArray h Q)
    (g : ∀ v h', Q v h' → oW p l e R s m args below meth c F n0 h' (cells + R'.cells) (slots + R'.slots) (mkF m q Ls (v.toList ++ rest))) :
    oW p l e R s m args below meth c F n0 h cells slots (mkF m pc Ls st) := fun T locs X eT N => by
  subst hq hst
  have hZ := C.2.2.2.2.1
  obtain ⟨cl, qa, qb⟩ := E.cell
  have hp : s.PrivateAt y := Cond.privateMethod_at (mvP hZ w5 (args := #[]))
  obtain ⟨c2, k2, i1, i2, -, i4, -⟩ := Cond.instantiable_spec (mvT (args := args) hZ w6)
  obtain ⟨v, _, ⟨T', L', k', n'⟩, -, X', ⟨Lc, ⟨hN, hQ⟩, l', y', z'⟩, st'⟩ := X.privateBack C.1 (y := y) C.2.2.2.1 (mvT hZ w1) (mvT hZ w2) (selects_self_of_private i1 i2 (by simpa using (Bool.or_eq_false_iff.mp i4).1) hp (mvT hZ w2) hy) hp (mvT hZ w4) hy (backOf (W := W) (Q := fun v h L => Fr n0 L ∧ Q v h) M hZ w4 w3 hf hl) (g := mkF m pc Ls (argsL.reverse ++ .ref a :: rest)) rfl (hsz.trans C.2.2.1.symm) (Steps.refl _) (a := a) (by rw [eT]; exact qa) qb (argsL := argsL) (rest := rest) (lenOf hpd hlen) rfl (by show 2 * 0 + _ ≤ _; omega) (hb C.2.1 hd) (fun _ _ => ⟨rfl, eT, hc, hs⟩)
  dsimp only [Pt.U, Pt.locs, Pt.cells, Pt.slots] at X' l' y' z' st' hQ
  subst l' y' z'
  obtain ⟨s₂, o, h1, h2⟩ := g v T'.heap hQ T' _ X' rfl (Fr.app N hN)
  exact ⟨s₂, o, st'.trans h1, h2⟩
def oMetH (l : Launch) (Z : State) (y : MethodName) (bs : ByteArray) (ml : Nat) (rt : Option FieldType) (tr : List (Nat × Nat × Nat × Nat)) (R : Room) (k n n0 : Nat) (as' : Array Value) (h0 : Heap) (Q : Option Value → Heap → Prop) : Prop :=
  MetFree l y (head1 [Jvm.Cond.codeWith y bs ml rt tr] R) (fun a U => a = as' ∧ Z.Warmed39 U.vm ∧ U.heap = h0) (fun _ _ _ _ _ => True) (fun _ U o U' => ∃ v L, o = .returned v ∧ (Fr n0 L ∧ Q v U'.heap) ∧ FrameEnd U o U' L k n)
theorem oMetH.intro {tr : List (Nat × Nat × Nat × Nat)} {k n : Nat} {as' : Array Value} {h0 : Heap} (pn : plainFor y = true) (ef : ∀ m, entryFrame m as' ml = mkF m 0 Ls [])
    (body : ∀ (p : Program) (e : Env) (s : State) (m : MethodId) (below : List Frame) (meth : Method) (c : Code), oCx p s m meth c bs ml y.cls y.name rt Z → oW p l e R s m as' below meth c (oFin s n0 k n Q) n0 h0 0 0 (mkF m 0 Ls [])) :
    oMetH l Z y bs ml rt tr R k n n0 as' h0 Q := by
  refine MetFree.of_bodySF pn hisWith ?_
  intro p e s m args below meth c s₁ Bd hml0 hP hK
  obtain ⟨rfl, hZ, hh⟩ := hP
  have e0 : s₁.heap = h0 := by rw [← hh, Bd.state]; rfl
  have C : oCx p s m meth c bs ml y.cls y.name rt Z := ⟨Bd.exec, Bd.bytes, hml0, findClass_of_methodNamed Bd.named, hZ, (name_of_methodNamed Bd.named Bd.method).1, Bd.returns, Bd.notSynchronized⟩
  obtain ⟨s₂, o, h1, h2, h3, h4⟩ := body p e s m below meth c C s₁ [] (Stand.of_body Bd) e0 (Fr.nil n0)
  exact ⟨s₂, o, castTop (ef m) h1, h2, h3, h4⟩
theorem oCallSH {tr : List (Nat × Nat × Nat × Nat)} (C : oCx p s m meth c bs ml own nm rt Z) (w1 : (Jvm.Cond.methodLink own i y).before a0 Z = true) (w2 : (Jvm.Cond.static y).before a0 Z = true) (w3 : (Jvm.Cond.initialized y.cls).before a0 Z = true) (w4 : (Jvm.Cond.codeWith y bs' ml' rt' tr).before a0 Z = true) (hd : decode bs pc = .ok (.invokestatic i, 3))
    (hy : y.cls ≠ "java/lang/invoke/MethodHandle" ∧ y.cls ≠ "java/lang/invoke/VarHandle") (hpd : parseMethodDescriptor y.desc = some ⟨ps, r'⟩) (hlen : argsL.length = ps.length) (hsz : Ls.size = ml) (hst : argsL.reverse ++ rest = st) (hW : (rest.map fun v => v.category).sum = W) (hq : pc + 3 = q)
    (hf : R'.frames + 1 ≤ R.frames) (hl : W + (ml' + 11) + R'.locals ≤ R.locals) (hc : cells + R'.cells ≤ R.cells) (hs : slots + R'.slots ≤ R.slots)
    (M : oMetH l Z y bs' ml' rt' tr R' R'.cells R'.slots n0 argsL.toArray h Q)
    (g : ∀ v h', Q v h' → oW p l e R s m args below meth c F n0 h' (cells + R'.cells) (slots + R'.slots) (mkF m q Ls (v.toList ++ rest))) :
    oW p l e R s m args below meth c F n0 h cells slots (mkF m pc Ls st) := fun T locs X eT N => by
  subst hq hst
  have hZ := C.2.2.2.2.1
  obtain ⟨v, _, ⟨T', L', k', n'⟩, -, X', ⟨Lc, ⟨hN, hQ⟩, l', y', z'⟩, st'⟩ := callSH X C.1 (y := y) C.2.2.2.1 (mvT hZ w1) (mvT hZ w2) (mvT hZ w3) (mvT hZ w4) hy (backOfWith (W := W) (Q := fun v h L => Fr n0 L ∧ Q v h) M hZ w4 w3 hf hl) (g := mkF m pc Ls (argsL.reverse ++ rest)) rfl (hsz.trans C.2.2.1.symm) (argsL := argsL) (rest := rest) (lenOf hpd hlen) rfl (by show 2 * 0 + _ ≤ _; omega) (hb C.2.1 hd) (fun _ _ => ⟨rfl, eT, hc, hs⟩)
  dsimp only [Pt.U, Pt.locs, Pt.cells, Pt.slots] at X' l' y' z' st' hQ
  subst l' y' z'
  obtain ⟨s₂, o, h1, h2⟩ := g v T'.heap hQ T' _ X' rfl (Fr.app N hN)
  exact ⟨s₂, o, st' _ h1, h2⟩
theorem oPureK {w : Value} {hc : Heap} (g : oW p l e R s m args below meth c F n0 hc cells slots (mkF m q Ls (w :: rest))) : ∀ (v : Option Value) (h' : Heap), (v = some w ∧ h' = hc) → oW p l e R s m args below meth c F n0 h' cells slots (mkF m q Ls (v.toList ++ rest)) := by
  rintro _ _ ⟨rfl, rfl⟩; exact g
theorem oVQ {Q' : Heap → Prop} (g : ∀ h', Q' h' → oW p l e R s m args below meth c F n0 h' cells slots (mkF m q Ls rest)) : ∀ (v : Option Value) (h' : Heap), (v = none ∧ Q' h') → oW p l e R s m args below meth c F n0 h' cells slots (mkF m q Ls (v.toList ++ rest)) := by
  rintro _ _ ⟨rfl, hq⟩; exact g _ hq
theorem oRQ {Q' : Heap → Prop} {w : Value} (g : ∀ h', Q' h' → oW p l e R s m args below meth c F n0 h' cells slots (mkF m q Ls (w :: rest))) : ∀ (v : Option Value) (h' : Heap), (v = some w ∧ Q' h') → oW p l e R s m args below meth c F n0 h' cells slots (mkF m q Ls (v.toList ++ rest)) := by
  rintro _ _ ⟨rfl, hq⟩; exact g _ hq
end Calls
theorem oInitO (C : oCx p s m meth c bs ml own nm rt Z) {i W : Nat} {a : Addr} (w1 : (Jvm.Cond.methodLink own i Lib.objectInit).before a0 Z = true) (w2 : (Jvm.Cond.instanceMethod Lib.objectInit).before a0 Z = true) (w3 : (Jvm.Cond.code Lib.objectInit ⟨#[0xb1]⟩ 1 none).before a0 Z = true) (hd : decode bs pc = .ok (.invokespecial i, 3)) (hsz : Ls.size = ml) (hW : (st.map fun v => v.category).sum = W) (hq : pc + 3 = q) (hf : 1 ≤ R.frames) (hl : W + 12 ≤ R.locals)
    (g : oW p l e R s m args below meth c F n0 h cells slots (mkF m q Ls st)) : oW p l e R s m args below meth c F n0 h cells slots (mkF m pc Ls (.ref a :: st)) := by
  subst hq
  exact oW.to (fun T locs X eT => initO X C.1 C.2.2.2.2.1 C.2.2.2.1 w1 w2 w3 eT (g := mkF m pc Ls (.ref a :: st)) rfl (hsz.trans C.2.2.1.symm) rfl (hb C.2.1 hd) hf (W := W) (by show 2 * 0 + _ ≤ _; omega) hl) g
theorem oCastI {z z' : Int32} (hz : z = z') (g : oW p l e R s m args below meth c F n0 h cells slots (mkF m pc Ls (.int z' :: st))) : oW p l e R s m args below meth c F n0 h cells slots (mkF m pc Ls (.int z :: st)) := hz ▸ g
theorem oCastL {z z' : Int64} (hz : z = z') (g : oW p l e R s m args below meth c F n0 h cells slots (mkF m pc Ls (.long z' :: st))) : oW p l e R s m args below meth c F n0 h cells slots (mkF m pc Ls (.long z :: st)) := hz ▸ g
theorem oLtOf {x y : Int64} (h1 : ¬ y < x) (h2 : ¬ x = y) : x < y := by
  rw [Int64.lt_iff_toInt_lt] at *; rw [← Int64.toInt_inj] at h2; omega
theorem oNltOf {x y : Int64} (h : x = y) : ¬ x < y := by
  rw [h, Int64.lt_iff_toInt_lt]; omega
theorem oJoin {α : Type} {f : JFrame} (P : α → Prop) (hh : α → Heap) (fr : α → JFrame) {k n : Nat} (j : ∀ w, P w → oW p l e R s m args below meth c F n0 (hh w) k n (fr w)) (g : (∀ w, P w → oW p l e R s m args below meth c F n0 (hh w) k n (fr w)) → oW p l e R s m args below meth c F n0 h cells slots f) : oW p l e R s m args below meth c F n0 h cells slots f := g j
theorem oNew (C : oCx p s m meth c bs ml own nm rt Z) {i n : Nat} {K : String} (w : (Jvm.Cond.classLink own i K).before a0 Z = true) (wi : (Jvm.Cond.instantiable K n).before a0 Z = true) (wz : (Jvm.Cond.initialized K).before a0 Z = true) (hd : decode bs pc = .ok (.new i, 3)) (hq : pc + 3 = q) (hc : cells + 1 ≤ R.cells) (hs : slots + n ≤ R.slots)
    (g : ∀ (a : Addr) (h' : Heap), a = h.size → Ext h h' → Exa Z h' a K → (∀ {O nm d : String} {ty : FieldType}, Laid Z a0 K O nm d → parseFieldDescriptor d = some ty → Fld Z h' a O nm d (defaultValue ty)) → oW p l e R s m args below meth c F n0 h' (cells + 1) (slots + n) (mkF m q Ls (.ref a :: st))) :
    oW p l e R s m args below meth c F n0 h cells slots (mkF m pc Ls st) := fun T locs X eT N => by
  subst hq
  obtain ⟨T', h', X', e', E', A', D', -, st'⟩ := newO X C.1 C.2.2.2.2.1 C.2.2.2.1 w wi wz eT (g := mkF m pc Ls st) rfl (hb C.2.1 hd) hc hs
  obtain ⟨s₂, o, h1, h2⟩ := g _ h' rfl E' A' D' T' _ X' e' N
  exact ⟨s₂, o, st' _ h1, h2⟩
theorem oGetF (C : oCx p s m meth c bs ml own nm rt Z) {i : Nat} {R0 O n d : String} {a : Addr} {v : Value} (w : (Jvm.Cond.fieldLink own i R0 n d).before a0 Z = true) (via : Via Z R0 O n d) (Fd : Fld Z h a O n d v) (hd : decode bs pc = .ok (.getfield i, 3)) (hq : pc + 3 = q)
    (g : oW p l e R s m args below meth c F n0 h cells slots (mkF m q Ls (v :: st))) : oW p l e R s m args below meth c F n0 h cells slots (mkF m pc Ls (.ref a :: st)) := by
  subst hq
  exact oW.to (fun T locs X eT => getF X C.1 C.2.2.2.2.1 C.2.2.2.1 (host := "") (Or.inl w) via eT Fd (g := mkF m pc Ls (.ref a :: st)) rfl rfl (hb C.2.1 hd)) g
theorem oPutF (C : oCx p s m meth c bs ml own nm rt Z) {i kk : Nat} {R0 O n d K : String} {ty : FieldType} {a : Addr} {v old : Value} (w : (Jvm.Cond.fieldLink own i R0 n d).before a0 Z = true) (via : Via Z R0 O n d) (Fd : Fld Z h a O n d old) (E : Exa Z h a K) (L : (Jvm.Cond.lays K O n d).before a0 Z = true ∨ ((Jvm.Cond.laysFinal K O n d).before a0 Z = true ∧ own = O ∧ nm = "<init>")) (wi : (Jvm.Cond.instantiable K kk).before a0 Z = true)
    (hty : parseFieldDescriptor d = some ty) (hn : narrow ty v = v) (hf : fits ty v = true) (hd : decode bs pc = .ok (.putfield i, 3)) (hq : pc + 3 = q) (ha : n0 ≤ a)
    (g : ∀ h', Wr h h' a (Jvm.RoadKit.slotOf Z O n d) v → oW p l e R s m args below meth c F n0 h' cells slots (mkF m q Ls st)) : oW p l e R s m args below meth c F n0 h cells slots (mkF m pc Ls (v :: .ref a :: st)) := fun T locs X eT N => by
  subst hq
  obtain ⟨T', h', X', e', W', st'⟩ := putF X C.1 C.2.2.2.2.1 C.2.2.2.1 (host := "") (Or.inl w) via eT Fd E (L.imp id fun z => ⟨z.1, z.2.1, C.2.2.2.2.2.1.trans z.2.2⟩) wi hty hn hf (g := mkF m pc Ls (v :: .ref a :: st)) rfl rfl (hb C.2.1 hd)
  obtain ⟨s₂, o, h1, h2⟩ := g h' W' T' _ X' e' (Fr.snoc X' N ha)
  exact ⟨s₂, o, st' _ h1, h2⟩
theorem oPutFN (C : oCx p s m meth c bs ml own nm rt Z) {i kk : Nat} {R0 O n d K : String} {ty : FieldType} {a : Addr} {v v' old : Value} (w : (Jvm.Cond.fieldLink own i R0 n d).before a0 Z = true) (via : Via Z R0 O n d) (Fd : Fld Z h a O n d old) (E : Exa Z h a K) (L : (Jvm.Cond.lays K O n d).before a0 Z = true ∨ ((Jvm.Cond.laysFinal K O n d).before a0 Z = true ∧ own = O ∧ nm = "<init>")) (wi : (Jvm.Cond.instantiable K kk).before a0 Z = true)
    (hty : parseFieldDescriptor d = some ty) (hn : narrow ty v = v') (hf : fits ty v' = true) (hd : decode bs pc = .ok (.putfield i, 3)) (hq : pc + 3 = q) (ha : n0 ≤ a)
    (g : ∀ h', Wr h h' a (Jvm.RoadKit.slotOf Z O n d) v' → oW p l e R s m args below meth c F n0 h' cells slots (mkF m q Ls st)) : oW p l e R s m args below meth c F n0 h cells slots (mkF m pc Ls (v :: .ref a :: st)) := fun T locs X eT N => by
  subst hq
  obtain ⟨T', h', X', e', W', st'⟩ := putFN X C.1 C.2.2.2.2.1 C.2.2.2.1 w via eT Fd E (L.imp id fun z => ⟨z.1, z.2.1, C.2.2.2.2.2.1.trans z.2.2⟩) wi hty hn hf (g := mkF m pc Ls (v :: .ref a :: st)) rfl rfl (hb C.2.1 hd)
  obtain ⟨s₂, o, h1, h2⟩ := g h' W' T' _ X' e' (Fr.snoc X' N ha)
  exact ⟨s₂, o, st' _ h1, h2⟩
def oAr (Z : State) (h : Heap) (a : Addr) (ty : FieldType) (vs : List Value) : Prop := ∃ c : Cell, Arr Z h a c ty ∧ c.slots.toList = vs
section Arrays
variable {a b : Addr} {ty : FieldType} {vs : List Value} {v : Value} {sl : Nat}
theorem oAr.lt (A : oAr Z h a ty vs) : a < h.size := by obtain ⟨c, A, -⟩ := A; exact A.lt
theorem oAr.ext (A : oAr Z h a ty vs) (E : Ext h h') : oAr Z h' a ty vs := by obtain ⟨c, A, r⟩ := A; exact ⟨c, A.ext E, r⟩
theorem oAr.other (A : oAr Z h a ty vs) (W : Wr h h' b sl v) (ne : a ≠ b) : oAr Z h' a ty vs := by obtain ⟨c, A, r⟩ := A; exact ⟨c, A.other W ne, r⟩
theorem oAr.same (A : oAr Z h a ty vs) (W : Wr h h' a sl v) : oAr Z h' a ty (vs.set sl v) := by
  obtain ⟨c, A, r⟩ := A
  exact ⟨_, A.same W, by subst r; simp [Cell.setSlot]⟩
theorem oNe' (h1 : a < h.size) (h2 : h.size ≤ b) : a ≠ b := Nat.ne_of_lt (Nat.lt_of_lt_of_le h1 h2)
theorem oInb {cl : Cell} {j : Int32} {k : Nat} (r : cl.slots.toList = vs) (hj : ¬ j < 0) (hk : j.toNatClampNeg = k) (hv : vs[k]? = some v) : ¬ (j < 0 ∨ cl.slots.size ≤ j.toNatClampNeg) ∧ cl.slots[j.toNatClampNeg]? = some v := by
  subst hk r
  have hlt : j.toNatClampNeg < cl.slots.toList.length := (List.getElem?_eq_some_iff.mp hv).1
  refine ⟨fun q => q.elim hj fun u => ?_, by rw [← hv]; simp⟩
  simp at hlt; omega
end Arrays
def oKe (h0 h : Heap) (ws : List Addr) (fs : List (Addr × Nat)) : Prop := h0.size ≤ h.size ∧ ∀ (x : Addr) (c : Cell), h0[x]? = some c → ∃ c' : Cell, h[x]? = some c' ∧ c'.cls = c.cls ∧ c'.vm = c.vm ∧ c'.slots.size = c.slots.size ∧ (x ∉ ws → ∀ j, (x, j) ∉ fs → c'.slots[j]? = c.slots[j]?)
section Ke
variable {h0 : Heap} {ws ws' : List Addr} {fs fs' : List (Addr × Nat)} {a b : Addr} {sl : Nat} {v : Value} {ty : FieldType} {vs : List Value} {K O n d : String}
theorem oKe.refl (h : Heap) (ws : List Addr) (fs : List (Addr × Nat)) : oKe h h ws fs := ⟨Nat.le_refl _, fun x c q => ⟨c, q, rfl, rfl, rfl, fun _ _ _ => rfl⟩⟩
theorem oKe.trans (A : oKe h0 h ws fs) (B : oKe h h' ws' fs') (q1 : ∀ x ∈ ws', x ∈ ws ∨ h0.size ≤ x) (q2 : ∀ x ∈ fs', x ∈ fs ∨ h0.size ≤ x.1) : oKe h0 h' ws fs := by
  refine ⟨Nat.le_trans A.1 B.1, fun x c hx => ?_⟩
  obtain ⟨c1, e1, e2, e3, e4, e5⟩ := A.2 x c hx
  obtain ⟨c2, g1, g2, g3, g4, g5⟩ := B.2 x c1 e1
  have lt := (Array.getElem?_eq_some_iff.mp hx).1
  refine ⟨c2, g1, g2.trans e2, g3.trans e3, g4.trans e4, fun hn j hj => ?_⟩
  rw [g5 (fun z => (q1 x z).elim hn (fun y => absurd lt (Nat.not_lt.mpr y))) j (fun z => (q2 _ z).elim hj (fun y => absurd lt (Nat.not_lt.mpr y)))]
  exact e5 hn j hj
theorem oKe.of_ext (E : Ext h h') : oKe h h' [] [] := ⟨E.1, fun x c q => ⟨c, E.2 x c q, rfl, rfl, rfl, fun _ _ _ => rfl⟩⟩
theorem oKe.ext (A : oKe h0 h ws fs) (E : Ext h h') : oKe h0 h' ws fs := A.trans (oKe.of_ext E) (fun _ q => nomatch q) (fun _ q => nomatch q)
theorem oKe.of_wr (W : Wr h h' a sl v) : oKe h h' [] [(a, sl)] := by
  refine ⟨Nat.le_of_eq W.size.symm, fun x c q => ?_⟩
  obtain ⟨c', e1, e2, e3, e4, e5, e6, -⟩ := wr_at W q
  refine ⟨c', e1, e2, e3, e4, fun _ j hj => ?_⟩
  by_cases ex : x = a
  · subst ex; exact e6 j (fun ej => hj (by simp [ej]))
  · rw [e5 ex]
theorem oKe.of_wrA (W : Wr h h' a sl v) : oKe h h' [a] [] := by
  refine ⟨Nat.le_of_eq W.size.symm, fun x c q => ?_⟩
  obtain ⟨c', e1, e2, e3, e4, e5, e6, -⟩ := wr_at W q
  exact ⟨c', e1, e2, e3, e4, fun hn j hj => by rw [e5 (fun ex => hn (by simp [ex]))]⟩
theorem oKe.wrF (A : oKe h0 h ws fs) (W : Wr h h' a sl v) (q : (a, sl) ∈ fs ∨ h0.size ≤ a) : oKe h0 h' ws fs := A.trans (oKe.of_wr W) (fun _ q => nomatch q) fun x hx => by cases List.mem_singleton.mp hx; exact q
theorem oKe.wrA (A : oKe h0 h ws fs) (W : Wr h h' a sl v) (q : a ∈ ws ∨ h0.size ≤ a) : oKe h0 h' ws fs := A.trans (oKe.of_wrA W) (fun x hx => by cases List.mem_singleton.mp hx; exact q) (fun _ q => nomatch q)
theorem oKe.exa (A : oKe h h' ws fs) (E : Exa Z h a K) : Exa Z h' a K := by
  obtain ⟨cell, k, h1, h2, h3, h4, h5⟩ := E
  obtain ⟨c', e1, e2, e3, e4, -⟩ := A.2 _ _ h1
  exact ⟨c', k, e1, e2 ▸ h2, e2 ▸ h3, e3 ▸ h4, e4 ▸ h5⟩
theorem oKe.fld (A : oKe h h' ws fs) (E : Fld Z h a O n d v) (q : a ∉ ws) (q2 : (a, Jvm.RoadKit.slotOf Z O n d) ∉ fs) : Fld Z h' a O n d v := by
  obtain ⟨cell, cf, k, i, f, h1, h2, h3, h4, h5, h6, h7⟩ := E
  obtain ⟨c', e1, e2, e3, e4, e5⟩ := A.2 _ _ h1
  have es : Jvm.RoadKit.slotOf Z O n d = f.slot := by simp [Jvm.RoadKit.slotOf, h2]
  rw [es] at q2
  exact ⟨c', cf, k, i, f, e1, h2, h3, e3 ▸ h4, e3 ▸ h5, e2 ▸ h6, (e5 q _ q2).trans h7⟩
theorem oKe.arr (A : oKe h h' ws fs) (E : oAr Z h a ty vs) (q : a ∉ ws) (q2 : ∀ y ∈ fs, a ≠ y.1) : oAr Z h' a ty vs := by
  obtain ⟨cl, ⟨h1, h2, h3⟩, h4⟩ := E
  obtain ⟨c', e1, e2, e3, e4, e5⟩ := A.2 _ _ h1
  have es : c'.slots = cl.slots := Array.ext_getElem? fun j => e5 q j (fun z => q2 _ z rfl)
  refine ⟨c', ⟨e1, ?_, e3 ▸ h3⟩, by rw [es]; exact h4⟩
  obtain ⟨g1, k, g2, comp, g3⟩ := h2
  exact ⟨e3 ▸ g1, k, e2 ▸ g2, comp, g3⟩
theorem oNF {x y : Addr × Nat} {L : List (Addr × Nat)} (q : x.1 ≠ y.1 ∨ x.2 ≠ y.2) (r : x ∉ L) : x ∉ y :: L := fun z => (List.mem_cons.mp z).elim (fun u => q.elim (fun w => w (by rw [u])) (fun w => w (by rw [u]))) r
theorem oN0 {x : Addr × Nat} : x ∉ ([] : List (Addr × Nat)) := fun q => nomatch q
theorem oA0 {P : Addr × Nat → Prop} : ∀ x ∈ ([] : List (Addr × Nat)), P x := fun _ q => nomatch q
theorem oAS {P : Addr × Nat → Prop} {y : Addr × Nat} {L : List (Addr × Nat)} (q : P y) (r : ∀ x ∈ L, P x) : ∀ x ∈ y :: L, P x := fun x z => (List.mem_cons.mp z).elim (fun u => u ▸ q) (r x)
end Ke
theorem oNewA (C : oCx p s m meth c bs ml own nm rt Z) {aty : ArrayType} {ty : FieldType} {z : Int32} {k : Nat} (w : (Jvm.Cond.arrayClass ty).before a0 Z = true) (hty : newarray.typeOf aty = ty) (hd : decode bs pc = .ok (.newarray aty, 2)) (hq : pc + 2 = q) (hz : ¬ z < 0) (hk : z.toNatClampNeg = k) (hb' : k * 8 ≤ 536870912) (hc : cells + 1 ≤ R.cells) {cap : Nat} (hcap : k ≤ cap) (hcb : cap * 8 ≤ 536870912) (hs : slots + cap ≤ R.slots)
    (g : ∀ (a : Addr) (h' : Heap), a = h.size → Ext h h' → oAr Z h' a ty (List.replicate k (defaultValue ty)) → oW p l e R s m args below meth c F n0 h' (cells + 1) (slots + cap) (mkF m q Ls (.ref a :: st))) :
    oW p l e R s m args below meth c F n0 h cells slots (mkF m pc Ls (.int z :: st)) := fun T locs X eT N => by
  subst hq hty hk
  obtain ⟨T', h', cA, X', e', E', A', st'⟩ := newP X C.1 C.2.2.2.2.1 w eT (g := mkF m pc Ls (.int z :: st)) rfl (hb C.2.1 hd) rfl hz (cap := cap) hcap hcb hc hs
  obtain ⟨s₂, o, h1, h2⟩ := g _ h' rfl E' ⟨_, A', by simp [newA]⟩ T' _ X' e' N
  exact ⟨s₂, o, st' _ h1, h2⟩
theorem oLen (C : oCx p s m meth c bs ml own nm rt Z) {a : Addr} {ty : FieldType} {vs : List Value} {z : Int32} (A : oAr Z h a ty vs) (hz : vs.length.toInt32 = z) (hd : decode bs pc = .ok (.arraylength, 1)) (hq : pc + 1 = q) (g : oW p l e R s m args below meth c F n0 h cells slots (mkF m q Ls (.int z :: st))) :
    oW p l e R s m args below meth c F n0 h cells slots (mkF m pc Ls (.ref a :: st)) := fun T locs X eT N => by
  subst hq hz
  obtain ⟨cl, A, r⟩ := A
  obtain ⟨s₂, o, h1, h2⟩ := g T locs X eT N
  exact ⟨s₂, o, X.arraylength C.1 (by rw [eT]; exact A.1) (State.isArrayOf_alike C.2.2.2.2.1.alike A.2.1) (g := mkF m pc Ls (.ref a :: st)) rfl rfl (hb C.2.1 hd) _ (by subst r; simpa using h1), h2⟩
theorem oIaload (C : oCx p s m meth c bs ml own nm rt Z) {a : Addr} {vs : List Value} {j : Int32} {k : Nat} {v : Value} (A : oAr Z h a .int vs) (hj : ¬ j < 0) (hk : j.toNatClampNeg = k) (hv : vs[k]? = some v) (hd : decode bs pc = .ok (.iaload, 1)) (hq : pc + 1 = q) (g : oW p l e R s m args below meth c F n0 h cells slots (mkF m q Ls (v :: st))) :
    oW p l e R s m args below meth c F n0 h cells slots (mkF m pc Ls (.int j :: .ref a :: st)) := fun T locs X eT N => by
  subst hq
  obtain ⟨cl, A, r⟩ := A
  obtain ⟨i1, i2⟩ := oInb r hj hk hv
  obtain ⟨s₂, o, h1, h2⟩ := g T locs X eT N
  exact ⟨s₂, o, X.iaload C.1 (j := j) (v := v) (by rw [eT]; exact A.1) (State.isArrayOf_alike C.2.2.2.2.1.alike A.2.1) A.2.2 i1 i2 (g := mkF m pc Ls (.int j :: .ref a :: st)) rfl rfl (hb C.2.1 hd) _ h1, h2⟩
theorem oLaload (C : oCx p s m meth c bs ml own nm rt Z) {a : Addr} {vs : List Value} {j : Int32} {k : Nat} {v : Value} (A : oAr Z h a .long vs) (hj : ¬ j < 0) (hk : j.toNatClampNeg = k) (hv : vs[k]? = some v) (hd : decode bs pc = .ok (.laload, 1)) (hq : pc + 1 = q) (g : oW p l e R s m args below meth c F n0 h cells slots (mkF m q Ls (v :: st))) :
    oW p l e R s m args below meth c F n0 h cells slots (mkF m pc Ls (.int j :: .ref a :: st)) := fun T locs X eT N => by
  subst hq
  obtain ⟨cl, A, r⟩ := A
  obtain ⟨i1, i2⟩ := oInb r hj hk hv
  obtain ⟨s₂, o, h1, h2⟩ := g T locs X eT N
  exact ⟨s₂, o, X.laload C.1 (j := j) (v := v) (by rw [eT]; exact A.1) (State.isArrayOf_alike C.2.2.2.2.1.alike A.2.1) A.2.2 i1 i2 (g := mkF m pc Ls (.int j :: .ref a :: st)) rfl rfl (hb C.2.1 hd) _ h1, h2⟩
theorem oBaload (C : oCx p s m meth c bs ml own nm rt Z) {a : Addr} {vs : List Value} {j : Int32} {k : Nat} {v : Value} (A : oAr Z h a .byte vs) (hj : ¬ j < 0) (hk : j.toNatClampNeg = k) (hv : vs[k]? = some v) (hd : decode bs pc = .ok (.baload, 1)) (hq : pc + 1 = q) (g : oW p l e R s m args below meth c F n0 h cells slots (mkF m q Ls (v :: st))) :
    oW p l e R s m args below meth c F n0 h cells slots (mkF m pc Ls (.int j :: .ref a :: st)) := fun T locs X eT N => by
  subst hq
  obtain ⟨cl, A, r⟩ := A
  obtain ⟨i1, i2⟩ := oInb r hj hk hv
  obtain ⟨s₂, o, h1, h2⟩ := g T locs X eT N
  exact ⟨s₂, o, X.baloadBytes C.1 (j := j) (v := v) (by rw [eT]; exact A.1) (State.isArrayOf_alike C.2.2.2.2.1.alike A.2.1) A.2.2 i1 i2 (g := mkF m pc Ls (.int j :: .ref a :: st)) rfl rfl (hb C.2.1 hd) _ h1, h2⟩
theorem oZaload (C : oCx p s m meth c bs ml own nm rt Z) {a : Addr} {vs : List Value} {j : Int32} {k : Nat} {v : Value} (A : oAr Z h a .boolean vs) (hj : ¬ j < 0) (hk : j.toNatClampNeg = k) (hv : vs[k]? = some v) (hd : decode bs pc = .ok (.baload, 1)) (hq : pc + 1 = q) (g : oW p l e R s m args below meth c F n0 h cells slots (mkF m q Ls (v :: st))) :
    oW p l e R s m args below meth c F n0 h cells slots (mkF m pc Ls (.int j :: .ref a :: st)) := fun T locs X eT N => by
  subst hq
  obtain ⟨cl, A, r⟩ := A
  obtain ⟨i1, i2⟩ := oInb r hj hk hv
  obtain ⟨s₂, o, h1, h2⟩ := g T locs X eT N
  exact ⟨s₂, o, X.baloadBooleans C.1 (j := j) (v := v) (by rw [eT]; exact A.1) (State.isArrayOf_alike C.2.2.2.2.1.alike A.2.1) A.2.2 i1 i2 (g := mkF m pc Ls (.int j :: .ref a :: st)) rfl rfl (hb C.2.1 hd) _ h1, h2⟩
theorem oIastore (C : oCx p s m meth c bs ml own nm rt Z) {a : Addr} {vs : List Value} {j : Int32} {k : Nat} {v v' : Value} {x : Int32} (A : oAr Z h a .int vs) (hj : ¬ j < 0) (hk : j.toNatClampNeg = k) (hv : vs[k]? = some v) (hx : (.int x : Value) = v') (hd : decode bs pc = .ok (.iastore, 1)) (hq : pc + 1 = q) (ha : n0 ≤ a)
    (g : ∀ h', Wr h h' a k v' → oAr Z h' a .int (vs.set k v') → oW p l e R s m args below meth c F n0 h' cells slots (mkF m q Ls (st))) :
    oW p l e R s m args below meth c F n0 h cells slots (mkF m pc Ls (.int x :: .int j :: .ref a :: st)) := fun T locs X eT N => by
  subst hq hx
  obtain ⟨cl, A, r⟩ := A
  obtain ⟨i1, -⟩ := oInb r hj hk hv
  obtain ⟨T', h', X', e', W', st'⟩ := stI X C.1 C.2.2.2.2.1 eT A (j := j) i1 (g := mkF m pc Ls (.int x :: .int j :: .ref a :: st)) rfl rfl (hb C.2.1 hd)
  have W2 : Wr h h' a k (.int x) := hk ▸ W'
  obtain ⟨s₂, o, h1, h2⟩ := g h' W2 (oAr.same ⟨cl, A, r⟩ W2) T' _ X' e' (Fr.snoc X' N ha)
  exact ⟨s₂, o, st' _ h1, h2⟩
theorem oLastore (C : oCx p s m meth c bs ml own nm rt Z) {a : Addr} {vs : List Value} {j : Int32} {k : Nat} {v v' : Value} {x : Int64} (A : oAr Z h a .long vs) (hj : ¬ j < 0) (hk : j.toNatClampNeg = k) (hv : vs[k]? = some v) (hx : (.long x : Value) = v') (hd : decode bs pc = .ok (.lastore, 1)) (hq : pc + 1 = q) (ha : n0 ≤ a)
    (g : ∀ h', Wr h h' a k v' → oAr Z h' a .long (vs.set k v') → oW p l e R s m args below meth c F n0 h' cells slots (mkF m q Ls (st))) :
    oW p l e R s m args below meth c F n0 h cells slots (mkF m pc Ls (.long x :: .int j :: .ref a :: st)) := fun T locs X eT N => by
  subst hq hx
  obtain ⟨cl, A, r⟩ := A
  obtain ⟨i1, -⟩ := oInb r hj hk hv
  obtain ⟨T', h', X', e', W', st'⟩ := stJ X C.1 C.2.2.2.2.1 eT A (j := j) i1 (g := mkF m pc Ls (.long x :: .int j :: .ref a :: st)) rfl rfl (hb C.2.1 hd)
  have W2 : Wr h h' a k (.long x) := hk ▸ W'
  obtain ⟨s₂, o, h1, h2⟩ := g h' W2 (oAr.same ⟨cl, A, r⟩ W2) T' _ X' e' (Fr.snoc X' N ha)
  exact ⟨s₂, o, st' _ h1, h2⟩
theorem oBastore (C : oCx p s m meth c bs ml own nm rt Z) {a : Addr} {vs : List Value} {j : Int32} {k : Nat} {v v' : Value} {x : Int32} (A : oAr Z h a .byte vs) (hj : ¬ j < 0) (hk : j.toNatClampNeg = k) (hv : vs[k]? = some v) (hx : (.int (nar .byte x) : Value) = v') (hd : decode bs pc = .ok (.bastore, 1)) (hq : pc + 1 = q) (ha : n0 ≤ a)
    (g : ∀ h', Wr h h' a k v' → oAr Z h' a .byte (vs.set k v') → oW p l e R s m args below meth c F n0 h' cells slots (mkF m q Ls (st))) :
    oW p l e R s m args below meth c F n0 h cells slots (mkF m pc Ls (.int x :: .int j :: .ref a :: st)) := fun T locs X eT N => by
  subst hq hx
  obtain ⟨cl, A, r⟩ := A
  obtain ⟨i1, -⟩ := oInb r hj hk hv
  obtain ⟨T', h', X', e', W', st'⟩ := stB X C.1 C.2.2.2.2.1 eT A (j := j) i1 (g := mkF m pc Ls (.int x :: .int j :: .ref a :: st)) rfl rfl (hb C.2.1 hd)
  have W2 : Wr h h' a k (.int (nar .byte x)) := hk ▸ W'
  obtain ⟨s₂, o, h1, h2⟩ := g h' W2 (oAr.same ⟨cl, A, r⟩ W2) T' _ X' e' (Fr.snoc X' N ha)
  exact ⟨s₂, o, st' _ h1, h2⟩
theorem oZastore (C : oCx p s m meth c bs ml own nm rt Z) {a : Addr} {vs : List Value} {j : Int32} {k : Nat} {v v' : Value} {x : Int32} (A : oAr Z h a .boolean vs) (hj : ¬ j < 0) (hk : j.toNatClampNeg = k) (hv : vs[k]? = some v) (hx : (.int (nar .boolean x) : Value) = v') (hd : decode bs pc = .ok (.bastore, 1)) (hq : pc + 1 = q) (ha : n0 ≤ a)
    (g : ∀ h', Wr h h' a k v' → oAr Z h' a .boolean (vs.set k v') → oW p l e R s m args below meth c F n0 h' cells slots (mkF m q Ls (st))) :
    oW p l e R s m args below meth c F n0 h cells slots (mkF m pc Ls (.int x :: .int j :: .ref a :: st)) := fun T locs X eT N => by
  subst hq hx
  obtain ⟨cl, A, r⟩ := A
  obtain ⟨i1, -⟩ := oInb r hj hk hv
  obtain ⟨T', h', X', e', W', st'⟩ := stZ X C.1 C.2.2.2.2.1 eT A (j := j) i1 (g := mkF m pc Ls (.int x :: .int j :: .ref a :: st)) rfl rfl (hb C.2.1 hd)
  have W2 : Wr h h' a k (.int (nar .boolean x)) := hk ▸ W'
  obtain ⟨s₂, o, h1, h2⟩ := g h' W2 (oAr.same ⟨cl, A, r⟩ W2) T' _ X' e' (Fr.snoc X' N ha)
  exact ⟨s₂, o, st' _ h1, h2⟩
end Own
section Own2
variable {p : Program} {l : Launch} {e : Env} {R : Room} {s : State} {m : MethodId} {args : Array Value} {below : List Frame} {meth : Method} {c : Code} {bs : ByteArray} {ml : Nat} {own nm : String} {rt : Option FieldType} {Z : State} {F : State → Outcome → Prop} {n0 : Nat} {h h' : Heap} {cells slots : Nat} {pc q : Nat} {Ls Ls' : Array Slot} {st : List Value} {a0 : Array Value}
section ArraysO
variable {a b : Addr} {K : String} {vs : List Value} {v : Value} {sl : Nat}
end ArraysO
section Stas
variable {K n d : String} {v w : Value} {a : Addr} {sl : Nat}
end Stas
end Own2
abbrev cU : String := "com/example/gavel/gavel/UnitDemandMarket"
abbrev oHw (a0 : Array Value) (Z : State) : Prop := ∀ d ∈ tables_1, d.before a0 Z = true
theorem w0 {a0 : Array Value} {Z : State} (hw : oHw a0 Z) : (Jvm.Cond.constantLong "com/example/gavel/gavel/UnitDemandMarketResetPricePinLaw" (7 : Nat) (1152921504606846975 : Int64)).before a0 Z = true := hw _ (List.mem_of_getElem? (i := 0) rfl)
theorem w1 {a0 : Array Value} {Z : State} (hw : oHw a0 Z) : (Jvm.Cond.arrayClass Jvm.ClassFile.FieldType.int).before a0 Z = true := hw _ (List.mem_of_getElem? (i := 1) rfl)
theorem w2 {a0 : Array Value} {Z : State} (hw : oHw a0 Z) : (Jvm.Cond.arrayClass Jvm.ClassFile.FieldType.long).before a0 Z = true := hw _ (List.mem_of_getElem? (i := 2) rfl)
theorem w3 {a0 : Array Value} {Z : State} (hw : oHw a0 Z) : (Jvm.Cond.classLink "com/example/gavel/gavel/UnitDemandMarketResetPricePinLaw" (9 : Nat) cU).before a0 Z = true := hw _ (List.mem_of_getElem? (i := 3) rfl)
theorem w4 {a0 : Array Value} {Z : State} (hw : oHw a0 Z) : (Jvm.Cond.instantiable cU (30 : Nat)).before a0 Z = true := hw _ (List.mem_of_getElem? (i := 4) rfl)
theorem w5 {a0 : Array Value} {Z : State} (hw : oHw a0 Z) : (Jvm.Cond.initialized cU).before a0 Z = true := hw _ (List.mem_of_getElem? (i := 5) rfl)
theorem w6 {a0 : Array Value} {Z : State} (hw : oHw a0 Z) : (Jvm.Cond.methodLink "com/example/gavel/gavel/UnitDemandMarketResetPricePinLaw" (11 : Nat) ({ cls := cU, name := "<init>", desc := "(I[I[I[J)V" } : Jvm.MethodName)).before a0 Z = true := hw _ (List.mem_of_getElem? (i := 6) rfl)
theorem w7 {a0 : Array Value} {Z : State} (hw : oHw a0 Z) : (Jvm.Cond.instanceMethod ({ cls := cU, name := "<init>", desc := "(I[I[I[J)V" } : Jvm.MethodName)).before a0 Z = true := hw _ (List.mem_of_getElem? (i := 7) rfl)
theorem w8 {a0 : Array Value} {Z : State} (hw : oHw a0 Z) : (Jvm.Cond.code ({ cls := cU, name := "<init>", desc := "(I[I[I[J)V" } : Jvm.MethodName) prog_54_method_1_code (6 : Nat) (Option.none : Option Jvm.ClassFile.FieldType)).before a0 Z = true := hw _ (List.mem_of_getElem? (i := 8) rfl)
theorem w9 {a0 : Array Value} {Z : State} (hw : oHw a0 Z) : (Jvm.Cond.methodLink cU (1 : Nat) ({ cls := "java/lang/Object", name := "<init>", desc := "()V" } : Jvm.MethodName)).before a0 Z = true := hw _ (List.mem_of_getElem? (i := 9) rfl)
theorem w10 {a0 : Array Value} {Z : State} (hw : oHw a0 Z) : (Jvm.Cond.instanceMethod ({ cls := "java/lang/Object", name := "<init>", desc := "()V" } : Jvm.MethodName)).before a0 Z = true := hw _ (List.mem_of_getElem? (i := 10) rfl)
theorem w11 {a0 : Array Value} {Z : State} (hw : oHw a0 Z) : (Jvm.Cond.code ({ cls := "java/lang/Object", name := "<init>", desc := "()V" } : Jvm.MethodName) object_method_1_code (1 : Nat) (Option.none : Option Jvm.ClassFile.FieldType)).before a0 Z = true := hw _ (List.mem_of_getElem? (i := 11) rfl)
theorem w12 {a0 : Array Value} {Z : State} (hw : oHw a0 Z) : (Jvm.Cond.fieldLink cU (9 : Nat) cU "displaced" "I").before a0 Z = true := hw _ (List.mem_of_getElem? (i := 12) rfl)
theorem w13 {a0 : Array Value} {Z : State} (hw : oHw a0 Z) : (Jvm.Cond.lays cU cU "displaced" "I").before a0 Z = true := hw _ (List.mem_of_getElem? (i := 13) rfl)
theorem w14 {a0 : Array Value} {Z : State} (hw : oHw a0 Z) : (Jvm.Cond.fieldLink cU (13 : Nat) cU "offerStart" "[I").before a0 Z = true := hw _ (List.mem_of_getElem? (i := 14) rfl)
theorem w15 {a0 : Array Value} {Z : State} (hw : oHw a0 Z) : (Jvm.Cond.laysFinal cU cU "offerStart" "[I").before a0 Z = true := hw _ (List.mem_of_getElem? (i := 15) rfl)
theorem w16 {a0 : Array Value} {Z : State} (hw : oHw a0 Z) : (Jvm.Cond.fieldLink cU (17 : Nat) cU "offerItem" "[I").before a0 Z = true := hw _ (List.mem_of_getElem? (i := 16) rfl)
theorem w17 {a0 : Array Value} {Z : State} (hw : oHw a0 Z) : (Jvm.Cond.laysFinal cU cU "offerItem" "[I").before a0 Z = true := hw _ (List.mem_of_getElem? (i := 17) rfl)
theorem w18 {a0 : Array Value} {Z : State} (hw : oHw a0 Z) : (Jvm.Cond.fieldLink cU (20 : Nat) cU "offerWeight" "[J").before a0 Z = true := hw _ (List.mem_of_getElem? (i := 18) rfl)
theorem w19 {a0 : Array Value} {Z : State} (hw : oHw a0 Z) : (Jvm.Cond.laysFinal cU cU "offerWeight" "[J").before a0 Z = true := hw _ (List.mem_of_getElem? (i := 19) rfl)
theorem w20 {a0 : Array Value} {Z : State} (hw : oHw a0 Z) : (Jvm.Cond.fieldLink cU (24 : Nat) cU "priceMoney" "[J").before a0 Z = true := hw _ (List.mem_of_getElem? (i := 20) rfl)
theorem w21 {a0 : Array Value} {Z : State} (hw : oHw a0 Z) : (Jvm.Cond.laysFinal cU cU "priceMoney" "[J").before a0 Z = true := hw _ (List.mem_of_getElem? (i := 21) rfl)
theorem w22 {a0 : Array Value} {Z : State} (hw : oHw a0 Z) : (Jvm.Cond.fieldLink cU (27 : Nat) cU "priceSales" "[J").before a0 Z = true := hw _ (List.mem_of_getElem? (i := 22) rfl)
theorem w23 {a0 : Array Value} {Z : State} (hw : oHw a0 Z) : (Jvm.Cond.laysFinal cU cU "priceSales" "[J").before a0 Z = true := hw _ (List.mem_of_getElem? (i := 23) rfl)
theorem w24 {a0 : Array Value} {Z : State} (hw : oHw a0 Z) : (Jvm.Cond.fieldLink cU (30 : Nat) cU "holder" "[I").before a0 Z = true := hw _ (List.mem_of_getElem? (i := 24) rfl)
theorem w25 {a0 : Array Value} {Z : State} (hw : oHw a0 Z) : (Jvm.Cond.laysFinal cU cU "holder" "[I").before a0 Z = true := hw _ (List.mem_of_getElem? (i := 25) rfl)
theorem w26 {a0 : Array Value} {Z : State} (hw : oHw a0 Z) : (Jvm.Cond.methodLink cU (33 : Nat) ({ cls := "java/util/Arrays", name := "fill", desc := "([II)V" } : Jvm.MethodName)).before a0 Z = true := hw _ (List.mem_of_getElem? (i := 26) rfl)
theorem w27 {a0 : Array Value} {Z : State} (hw : oHw a0 Z) : (Jvm.Cond.static ({ cls := "java/util/Arrays", name := "fill", desc := "([II)V" } : Jvm.MethodName)).before a0 Z = true := hw _ (List.mem_of_getElem? (i := 27) rfl)
theorem w28 {a0 : Array Value} {Z : State} (hw : oHw a0 Z) : (Jvm.Cond.initialized "java/util/Arrays").before a0 Z = true := hw _ (List.mem_of_getElem? (i := 28) rfl)
theorem w29 {a0 : Array Value} {Z : State} (hw : oHw a0 Z) : (Jvm.Cond.code ({ cls := "java/util/Arrays", name := "fill", desc := "([II)V" } : Jvm.MethodName) jdk_65_method_103_code (4 : Nat) (Option.none : Option Jvm.ClassFile.FieldType)).before a0 Z = true := hw _ (List.mem_of_getElem? (i := 29) rfl)
theorem w30 {a0 : Array Value} {Z : State} (hw : oHw a0 Z) : (Jvm.Cond.fieldLink cU (39 : Nat) cU "utilityMoney" "[J").before a0 Z = true := hw _ (List.mem_of_getElem? (i := 30) rfl)
theorem w31 {a0 : Array Value} {Z : State} (hw : oHw a0 Z) : (Jvm.Cond.laysFinal cU cU "utilityMoney" "[J").before a0 Z = true := hw _ (List.mem_of_getElem? (i := 31) rfl)
theorem w32 {a0 : Array Value} {Z : State} (hw : oHw a0 Z) : (Jvm.Cond.fieldLink cU (42 : Nat) cU "utilitySales" "[J").before a0 Z = true := hw _ (List.mem_of_getElem? (i := 32) rfl)
theorem w33 {a0 : Array Value} {Z : State} (hw : oHw a0 Z) : (Jvm.Cond.laysFinal cU cU "utilitySales" "[J").before a0 Z = true := hw _ (List.mem_of_getElem? (i := 33) rfl)
theorem w34 {a0 : Array Value} {Z : State} (hw : oHw a0 Z) : (Jvm.Cond.fieldLink cU (45 : Nat) cU "held" "[I").before a0 Z = true := hw _ (List.mem_of_getElem? (i := 34) rfl)
theorem w35 {a0 : Array Value} {Z : State} (hw : oHw a0 Z) : (Jvm.Cond.laysFinal cU cU "held" "[I").before a0 Z = true := hw _ (List.mem_of_getElem? (i := 35) rfl)
theorem w36 {a0 : Array Value} {Z : State} (hw : oHw a0 Z) : (Jvm.Cond.fieldLink cU (48 : Nat) cU "distMoney" "[J").before a0 Z = true := hw _ (List.mem_of_getElem? (i := 36) rfl)
theorem w37 {a0 : Array Value} {Z : State} (hw : oHw a0 Z) : (Jvm.Cond.laysFinal cU cU "distMoney" "[J").before a0 Z = true := hw _ (List.mem_of_getElem? (i := 37) rfl)
theorem w38 {a0 : Array Value} {Z : State} (hw : oHw a0 Z) : (Jvm.Cond.fieldLink cU (51 : Nat) cU "distSales" "[J").before a0 Z = true := hw _ (List.mem_of_getElem? (i := 38) rfl)
theorem w39 {a0 : Array Value} {Z : State} (hw : oHw a0 Z) : (Jvm.Cond.laysFinal cU cU "distSales" "[J").before a0 Z = true := hw _ (List.mem_of_getElem? (i := 39) rfl)
theorem w40 {a0 : Array Value} {Z : State} (hw : oHw a0 Z) : (Jvm.Cond.fieldLink cU (54 : Nat) cU "hops" "[I").before a0 Z = true := hw _ (List.mem_of_getElem? (i := 40) rfl)
theorem w41 {a0 : Array Value} {Z : State} (hw : oHw a0 Z) : (Jvm.Cond.laysFinal cU cU "hops" "[I").before a0 Z = true := hw _ (List.mem_of_getElem? (i := 41) rfl)
theorem w42 {a0 : Array Value} {Z : State} (hw : oHw a0 Z) : (Jvm.Cond.fieldLink cU (57 : Nat) cU "pred" "[I").before a0 Z = true := hw _ (List.mem_of_getElem? (i := 42) rfl)
theorem w43 {a0 : Array Value} {Z : State} (hw : oHw a0 Z) : (Jvm.Cond.laysFinal cU cU "pred" "[I").before a0 Z = true := hw _ (List.mem_of_getElem? (i := 43) rfl)
theorem w44 {a0 : Array Value} {Z : State} (hw : oHw a0 Z) : (Jvm.Cond.fieldLink cU (60 : Nat) cU "predOffer" "[I").before a0 Z = true := hw _ (List.mem_of_getElem? (i := 44) rfl)
theorem w45 {a0 : Array Value} {Z : State} (hw : oHw a0 Z) : (Jvm.Cond.laysFinal cU cU "predOffer" "[I").before a0 Z = true := hw _ (List.mem_of_getElem? (i := 45) rfl)
theorem w46 {a0 : Array Value} {Z : State} (hw : oHw a0 Z) : (Jvm.Cond.arrayClass Jvm.ClassFile.FieldType.byte).before a0 Z = true := hw _ (List.mem_of_getElem? (i := 46) rfl)
theorem w47 {a0 : Array Value} {Z : State} (hw : oHw a0 Z) : (Jvm.Cond.fieldLink cU (63 : Nat) cU "mark" "[B").before a0 Z = true := hw _ (List.mem_of_getElem? (i := 47) rfl)
theorem w48 {a0 : Array Value} {Z : State} (hw : oHw a0 Z) : (Jvm.Cond.laysFinal cU cU "mark" "[B").before a0 Z = true := hw _ (List.mem_of_getElem? (i := 48) rfl)
theorem w49 {a0 : Array Value} {Z : State} (hw : oHw a0 Z) : (Jvm.Cond.fieldLink cU (67 : Nat) cU "heap" "[I").before a0 Z = true := hw _ (List.mem_of_getElem? (i := 49) rfl)
theorem w50 {a0 : Array Value} {Z : State} (hw : oHw a0 Z) : (Jvm.Cond.laysFinal cU cU "heap" "[I").before a0 Z = true := hw _ (List.mem_of_getElem? (i := 50) rfl)
theorem w51 {a0 : Array Value} {Z : State} (hw : oHw a0 Z) : (Jvm.Cond.fieldLink cU (70 : Nat) cU "heapIndex" "[I").before a0 Z = true := hw _ (List.mem_of_getElem? (i := 51) rfl)
theorem w52 {a0 : Array Value} {Z : State} (hw : oHw a0 Z) : (Jvm.Cond.laysFinal cU cU "heapIndex" "[I").before a0 Z = true := hw _ (List.mem_of_getElem? (i := 52) rfl)
theorem w53 {a0 : Array Value} {Z : State} (hw : oHw a0 Z) : (Jvm.Cond.fieldLink cU (73 : Nat) cU "touched" "[I").before a0 Z = true := hw _ (List.mem_of_getElem? (i := 53) rfl)
theorem w54 {a0 : Array Value} {Z : State} (hw : oHw a0 Z) : (Jvm.Cond.laysFinal cU cU "touched" "[I").before a0 Z = true := hw _ (List.mem_of_getElem? (i := 54) rfl)
theorem w55 {a0 : Array Value} {Z : State} (hw : oHw a0 Z) : (Jvm.Cond.arrayClass Jvm.ClassFile.FieldType.boolean).before a0 Z = true := hw _ (List.mem_of_getElem? (i := 55) rfl)
theorem w56 {a0 : Array Value} {Z : State} (hw : oHw a0 Z) : (Jvm.Cond.fieldLink cU (76 : Nat) cU "changed" "[Z").before a0 Z = true := hw _ (List.mem_of_getElem? (i := 56) rfl)
theorem w57 {a0 : Array Value} {Z : State} (hw : oHw a0 Z) : (Jvm.Cond.laysFinal cU cU "changed" "[Z").before a0 Z = true := hw _ (List.mem_of_getElem? (i := 57) rfl)
theorem w58 {a0 : Array Value} {Z : State} (hw : oHw a0 Z) : (Jvm.Cond.fieldLink cU (80 : Nat) cU "changedItems" "[I").before a0 Z = true := hw _ (List.mem_of_getElem? (i := 58) rfl)
theorem w59 {a0 : Array Value} {Z : State} (hw : oHw a0 Z) : (Jvm.Cond.laysFinal cU cU "changedItems" "[I").before a0 Z = true := hw _ (List.mem_of_getElem? (i := 59) rfl)
theorem w60 {a0 : Array Value} {Z : State} (hw : oHw a0 Z) : (Jvm.Cond.methodLink "com/example/gavel/gavel/UnitDemandMarketResetPricePinLaw" (14 : Nat) ({ cls := cU, name := "assign", desc := "(II)V" } : Jvm.MethodName)).before a0 Z = true := hw _ (List.mem_of_getElem? (i := 60) rfl)
theorem w61 {a0 : Array Value} {Z : State} (hw : oHw a0 Z) : (Jvm.Cond.declares ({ cls := cU, name := "assign", desc := "(II)V" } : Jvm.MethodName)).before a0 Z = true := hw _ (List.mem_of_getElem? (i := 61) rfl)
theorem w62 {a0 : Array Value} {Z : State} (hw : oHw a0 Z) : (Jvm.Cond.instanceMethod ({ cls := cU, name := "assign", desc := "(II)V" } : Jvm.MethodName)).before a0 Z = true := hw _ (List.mem_of_getElem? (i := 62) rfl)
theorem w63 {a0 : Array Value} {Z : State} (hw : oHw a0 Z) : (Jvm.Cond.selects cU ({ cls := cU, name := "assign", desc := "(II)V" } : Jvm.MethodName) ({ cls := cU, name := "assign", desc := "(II)V" } : Jvm.MethodName)).before a0 Z = true := hw _ (List.mem_of_getElem? (i := 63) rfl)
theorem w64 {a0 : Array Value} {Z : State} (hw : oHw a0 Z) : (Jvm.Cond.code ({ cls := cU, name := "assign", desc := "(II)V" } : Jvm.MethodName) prog_54_method_8_code (12 : Nat) (Option.none : Option Jvm.ClassFile.FieldType)).before a0 Z = true := hw _ (List.mem_of_getElem? (i := 64) rfl)
theorem w65 {a0 : Array Value} {Z : State} (hw : oHw a0 Z) : (Jvm.Cond.methodLink cU (102 : Nat) ({ cls := "java/lang/Math", name := "subtractExact", desc := "(JJ)J" } : Jvm.MethodName)).before a0 Z = true := hw _ (List.mem_of_getElem? (i := 65) rfl)
theorem w66 {a0 : Array Value} {Z : State} (hw : oHw a0 Z) : (Jvm.Cond.static ({ cls := "java/lang/Math", name := "subtractExact", desc := "(JJ)J" } : Jvm.MethodName)).before a0 Z = true := hw _ (List.mem_of_getElem? (i := 66) rfl)
theorem w67 {a0 : Array Value} {Z : State} (hw : oHw a0 Z) : (Jvm.Cond.initialized "java/lang/Math").before a0 Z = true := hw _ (List.mem_of_getElem? (i := 67) rfl)
theorem w68 {a0 : Array Value} {Z : State} (hw : oHw a0 Z) : (Jvm.Cond.code ({ cls := "java/lang/Math", name := "subtractExact", desc := "(JJ)J" } : Jvm.MethodName) jdk_29_method_27_code (6 : Nat) (Option.some Jvm.ClassFile.FieldType.long)).before a0 Z = true := hw _ (List.mem_of_getElem? (i := 68) rfl)
theorem w69 {a0 : Array Value} {Z : State} (hw : oHw a0 Z) : (Jvm.Cond.methodLink cU (107 : Nat) ({ cls := cU, name := "compare", desc := "(JJJJ)I" } : Jvm.MethodName)).before a0 Z = true := hw _ (List.mem_of_getElem? (i := 69) rfl)
theorem w70 {a0 : Array Value} {Z : State} (hw : oHw a0 Z) : (Jvm.Cond.static ({ cls := cU, name := "compare", desc := "(JJJJ)I" } : Jvm.MethodName)).before a0 Z = true := hw _ (List.mem_of_getElem? (i := 70) rfl)
theorem w71 {a0 : Array Value} {Z : State} (hw : oHw a0 Z) : (Jvm.Cond.code ({ cls := cU, name := "compare", desc := "(JJJJ)I" } : Jvm.MethodName) prog_54_method_28_code (9 : Nat) (Option.some Jvm.ClassFile.FieldType.int)).before a0 Z = true := hw _ (List.mem_of_getElem? (i := 71) rfl)
theorem w72 {a0 : Array Value} {Z : State} (hw : oHw a0 Z) : (Jvm.Cond.methodLink cU (205 : Nat) ({ cls := "java/lang/Long", name := "compare", desc := "(JJ)I" } : Jvm.MethodName)).before a0 Z = true := hw _ (List.mem_of_getElem? (i := 72) rfl)
theorem w73 {a0 : Array Value} {Z : State} (hw : oHw a0 Z) : (Jvm.Cond.static ({ cls := "java/lang/Long", name := "compare", desc := "(JJ)I" } : Jvm.MethodName)).before a0 Z = true := hw _ (List.mem_of_getElem? (i := 73) rfl)
theorem w74 {a0 : Array Value} {Z : State} (hw : oHw a0 Z) : (Jvm.Cond.initialized "java/lang/Long").before a0 Z = true := hw _ (List.mem_of_getElem? (i := 74) rfl)
theorem w75 {a0 : Array Value} {Z : State} (hw : oHw a0 Z) : (Jvm.Cond.code ({ cls := "java/lang/Long", name := "compare", desc := "(JJ)I" } : Jvm.MethodName) jdk_35_method_42_code (4 : Nat) (Option.some Jvm.ClassFile.FieldType.int)).before a0 Z = true := hw _ (List.mem_of_getElem? (i := 75) rfl)
theorem w76 {a0 : Array Value} {Z : State} (hw : oHw a0 Z) : (Jvm.Cond.methodLink "com/example/gavel/gavel/UnitDemandMarketResetPricePinLaw" (18 : Nat) ({ cls := cU, name := "join", desc := "(I)V" } : Jvm.MethodName)).before a0 Z = true := hw _ (List.mem_of_getElem? (i := 76) rfl)
theorem w77 {a0 : Array Value} {Z : State} (hw : oHw a0 Z) : (Jvm.Cond.declares ({ cls := cU, name := "join", desc := "(I)V" } : Jvm.MethodName)).before a0 Z = true := hw _ (List.mem_of_getElem? (i := 77) rfl)
theorem w78 {a0 : Array Value} {Z : State} (hw : oHw a0 Z) : (Jvm.Cond.instanceMethod ({ cls := cU, name := "join", desc := "(I)V" } : Jvm.MethodName)).before a0 Z = true := hw _ (List.mem_of_getElem? (i := 78) rfl)
theorem w79 {a0 : Array Value} {Z : State} (hw : oHw a0 Z) : (Jvm.Cond.selects cU ({ cls := cU, name := "join", desc := "(I)V" } : Jvm.MethodName) ({ cls := cU, name := "join", desc := "(I)V" } : Jvm.MethodName)).before a0 Z = true := hw _ (List.mem_of_getElem? (i := 79) rfl)
theorem w80 {a0 : Array Value} {Z : State} (hw : oHw a0 Z) : (Jvm.Cond.code ({ cls := cU, name := "join", desc := "(I)V" } : Jvm.MethodName) prog_54_method_14_code (12 : Nat) (Option.none : Option Jvm.ClassFile.FieldType)).before a0 Z = true := hw _ (List.mem_of_getElem? (i := 80) rfl)
theorem w81 {a0 : Array Value} {Z : State} (hw : oHw a0 Z) : (Jvm.Cond.fieldLink cU (89 : Nat) cU "searches" "I").before a0 Z = true := hw _ (List.mem_of_getElem? (i := 81) rfl)
theorem w82 {a0 : Array Value} {Z : State} (hw : oHw a0 Z) : (Jvm.Cond.lays cU cU "searches" "I").before a0 Z = true := hw _ (List.mem_of_getElem? (i := 82) rfl)
theorem w83 {a0 : Array Value} {Z : State} (hw : oHw a0 Z) : (Jvm.Cond.methodLink cU (125 : Nat) ({ cls := cU, name := "search", desc := "(IJJ)V" } : Jvm.MethodName)).before a0 Z = true := hw _ (List.mem_of_getElem? (i := 83) rfl)
theorem w84 {a0 : Array Value} {Z : State} (hw : oHw a0 Z) : (Jvm.Cond.instanceMethod ({ cls := cU, name := "search", desc := "(IJJ)V" } : Jvm.MethodName)).before a0 Z = true := hw _ (List.mem_of_getElem? (i := 84) rfl)
theorem w85 {a0 : Array Value} {Z : State} (hw : oHw a0 Z) : (Jvm.Cond.privateMethod ({ cls := cU, name := "search", desc := "(IJJ)V" } : Jvm.MethodName)).before a0 Z = true := hw _ (List.mem_of_getElem? (i := 85) rfl)
theorem w86 {a0 : Array Value} {Z : State} (hw : oHw a0 Z) : (Jvm.Cond.code ({ cls := cU, name := "search", desc := "(IJJ)V" } : Jvm.MethodName) prog_54_method_15_code (18 : Nat) (Option.none : Option Jvm.ClassFile.FieldType)).before a0 Z = true := hw _ (List.mem_of_getElem? (i := 86) rfl)
theorem w87 {a0 : Array Value} {Z : State} (hw : oHw a0 Z) : (Jvm.Cond.fieldLink cU (142 : Nat) cU "sinkMoney" "J").before a0 Z = true := hw _ (List.mem_of_getElem? (i := 87) rfl)
theorem w88 {a0 : Array Value} {Z : State} (hw : oHw a0 Z) : (Jvm.Cond.lays cU cU "sinkMoney" "J").before a0 Z = true := hw _ (List.mem_of_getElem? (i := 88) rfl)
theorem w89 {a0 : Array Value} {Z : State} (hw : oHw a0 Z) : (Jvm.Cond.fieldLink cU (146 : Nat) cU "sinkSales" "J").before a0 Z = true := hw _ (List.mem_of_getElem? (i := 89) rfl)
theorem w90 {a0 : Array Value} {Z : State} (hw : oHw a0 Z) : (Jvm.Cond.lays cU cU "sinkSales" "J").before a0 Z = true := hw _ (List.mem_of_getElem? (i := 90) rfl)
theorem w91 {a0 : Array Value} {Z : State} (hw : oHw a0 Z) : (Jvm.Cond.fieldLink cU (149 : Nat) cU "sinkMoves" "I").before a0 Z = true := hw _ (List.mem_of_getElem? (i := 91) rfl)
theorem w92 {a0 : Array Value} {Z : State} (hw : oHw a0 Z) : (Jvm.Cond.lays cU cU "sinkMoves" "I").before a0 Z = true := hw _ (List.mem_of_getElem? (i := 92) rfl)
theorem w93 {a0 : Array Value} {Z : State} (hw : oHw a0 Z) : (Jvm.Cond.fieldLink cU (152 : Nat) cU "sinkEnd" "I").before a0 Z = true := hw _ (List.mem_of_getElem? (i := 93) rfl)
theorem w94 {a0 : Array Value} {Z : State} (hw : oHw a0 Z) : (Jvm.Cond.lays cU cU "sinkEnd" "I").before a0 Z = true := hw _ (List.mem_of_getElem? (i := 94) rfl)
theorem w95 {a0 : Array Value} {Z : State} (hw : oHw a0 Z) : (Jvm.Cond.fieldLink cU (155 : Nat) cU "sinkGoesWithout" "Z").before a0 Z = true := hw _ (List.mem_of_getElem? (i := 95) rfl)
theorem w96 {a0 : Array Value} {Z : State} (hw : oHw a0 Z) : (Jvm.Cond.lays cU cU "sinkGoesWithout" "Z").before a0 Z = true := hw _ (List.mem_of_getElem? (i := 96) rfl)
theorem w97 {a0 : Array Value} {Z : State} (hw : oHw a0 Z) : (Jvm.Cond.methodLink cU (83 : Nat) ({ cls := "com/example/gavel/gavel/Money", name := "addCents", desc := "(JJ)J" } : Jvm.MethodName)).before a0 Z = true := hw _ (List.mem_of_getElem? (i := 97) rfl)
theorem w98 {a0 : Array Value} {Z : State} (hw : oHw a0 Z) : (Jvm.Cond.static ({ cls := "com/example/gavel/gavel/Money", name := "addCents", desc := "(JJ)J" } : Jvm.MethodName)).before a0 Z = true := hw _ (List.mem_of_getElem? (i := 98) rfl)
theorem w99 {a0 : Array Value} {Z : State} (hw : oHw a0 Z) : (Jvm.Cond.initialized "com/example/gavel/gavel/Money").before a0 Z = true := hw _ (List.mem_of_getElem? (i := 99) rfl)
theorem w100 {a0 : Array Value} {Z : State} (hw : oHw a0 Z) : (Jvm.Cond.codeWith ({ cls := "com/example/gavel/gavel/Money", name := "addCents", desc := "(JJ)J" } : Jvm.MethodName) prog_35_method_4_code (5 : Nat) (Option.some Jvm.ClassFile.FieldType.long) [((0 : Nat), (5 : Nat), (6 : Nat), (60 : Nat))]).before a0 Z = true := hw _ (List.mem_of_getElem? (i := 100) rfl)
theorem w101 {a0 : Array Value} {Z : State} (hw : oHw a0 Z) : (Jvm.Cond.methodLink "com/example/gavel/gavel/Money" (56 : Nat) ({ cls := "java/lang/Math", name := "addExact", desc := "(JJ)J" } : Jvm.MethodName)).before a0 Z = true := hw _ (List.mem_of_getElem? (i := 101) rfl)
theorem w102 {a0 : Array Value} {Z : State} (hw : oHw a0 Z) : (Jvm.Cond.static ({ cls := "java/lang/Math", name := "addExact", desc := "(JJ)J" } : Jvm.MethodName)).before a0 Z = true := hw _ (List.mem_of_getElem? (i := 102) rfl)
theorem w103 {a0 : Array Value} {Z : State} (hw : oHw a0 Z) : (Jvm.Cond.code ({ cls := "java/lang/Math", name := "addExact", desc := "(JJ)J" } : Jvm.MethodName) jdk_29_method_25_code (6 : Nat) (Option.some Jvm.ClassFile.FieldType.long)).before a0 Z = true := hw _ (List.mem_of_getElem? (i := 103) rfl)
theorem w104 {a0 : Array Value} {Z : State} (hw : oHw a0 Z) : (Jvm.Cond.methodLink cU (159 : Nat) ({ cls := cU, name := "label", desc := "(IJJIII)V" } : Jvm.MethodName)).before a0 Z = true := hw _ (List.mem_of_getElem? (i := 104) rfl)
theorem w105 {a0 : Array Value} {Z : State} (hw : oHw a0 Z) : (Jvm.Cond.instanceMethod ({ cls := cU, name := "label", desc := "(IJJIII)V" } : Jvm.MethodName)).before a0 Z = true := hw _ (List.mem_of_getElem? (i := 105) rfl)
theorem w106 {a0 : Array Value} {Z : State} (hw : oHw a0 Z) : (Jvm.Cond.privateMethod ({ cls := cU, name := "label", desc := "(IJJIII)V" } : Jvm.MethodName)).before a0 Z = true := hw _ (List.mem_of_getElem? (i := 106) rfl)
theorem w107 {a0 : Array Value} {Z : State} (hw : oHw a0 Z) : (Jvm.Cond.code ({ cls := cU, name := "label", desc := "(IJJIII)V" } : Jvm.MethodName) prog_54_method_16_code (10 : Nat) (Option.none : Option Jvm.ClassFile.FieldType)).before a0 Z = true := hw _ (List.mem_of_getElem? (i := 107) rfl)
theorem w108 {a0 : Array Value} {Z : State} (hw : oHw a0 Z) : (Jvm.Cond.methodLink cU (163 : Nat) ({ cls := cU, name := "compareSink", desc := "(JJI)I" } : Jvm.MethodName)).before a0 Z = true := hw _ (List.mem_of_getElem? (i := 108) rfl)
theorem w109 {a0 : Array Value} {Z : State} (hw : oHw a0 Z) : (Jvm.Cond.instanceMethod ({ cls := cU, name := "compareSink", desc := "(JJI)I" } : Jvm.MethodName)).before a0 Z = true := hw _ (List.mem_of_getElem? (i := 109) rfl)
theorem w110 {a0 : Array Value} {Z : State} (hw : oHw a0 Z) : (Jvm.Cond.privateMethod ({ cls := cU, name := "compareSink", desc := "(JJI)I" } : Jvm.MethodName)).before a0 Z = true := hw _ (List.mem_of_getElem? (i := 110) rfl)
theorem w111 {a0 : Array Value} {Z : State} (hw : oHw a0 Z) : (Jvm.Cond.code ({ cls := cU, name := "compareSink", desc := "(JJI)I" } : Jvm.MethodName) prog_54_method_18_code (7 : Nat) (Option.some Jvm.ClassFile.FieldType.int)).before a0 Z = true := hw _ (List.mem_of_getElem? (i := 111) rfl)
theorem w112 {a0 : Array Value} {Z : State} (hw : oHw a0 Z) : (Jvm.Cond.fieldLink cU (136 : Nat) cU "touchedCount" "I").before a0 Z = true := hw _ (List.mem_of_getElem? (i := 112) rfl)
theorem w113 {a0 : Array Value} {Z : State} (hw : oHw a0 Z) : (Jvm.Cond.lays cU cU "touchedCount" "I").before a0 Z = true := hw _ (List.mem_of_getElem? (i := 113) rfl)
theorem w114 {a0 : Array Value} {Z : State} (hw : oHw a0 Z) : (Jvm.Cond.methodLink cU (174 : Nat) ({ cls := cU, name := "setLabel", desc := "(IJJIII)V" } : Jvm.MethodName)).before a0 Z = true := hw _ (List.mem_of_getElem? (i := 114) rfl)
theorem w115 {a0 : Array Value} {Z : State} (hw : oHw a0 Z) : (Jvm.Cond.instanceMethod ({ cls := cU, name := "setLabel", desc := "(IJJIII)V" } : Jvm.MethodName)).before a0 Z = true := hw _ (List.mem_of_getElem? (i := 115) rfl)
theorem w116 {a0 : Array Value} {Z : State} (hw : oHw a0 Z) : (Jvm.Cond.privateMethod ({ cls := cU, name := "setLabel", desc := "(IJJIII)V" } : Jvm.MethodName)).before a0 Z = true := hw _ (List.mem_of_getElem? (i := 116) rfl)
theorem w117 {a0 : Array Value} {Z : State} (hw : oHw a0 Z) : (Jvm.Cond.code ({ cls := cU, name := "setLabel", desc := "(IJJIII)V" } : Jvm.MethodName) prog_54_method_17_code (9 : Nat) (Option.none : Option Jvm.ClassFile.FieldType)).before a0 Z = true := hw _ (List.mem_of_getElem? (i := 117) rfl)
theorem w118 {a0 : Array Value} {Z : State} (hw : oHw a0 Z) : (Jvm.Cond.fieldLink cU (139 : Nat) cU "heapSize" "I").before a0 Z = true := hw _ (List.mem_of_getElem? (i := 118) rfl)
theorem w119 {a0 : Array Value} {Z : State} (hw : oHw a0 Z) : (Jvm.Cond.lays cU cU "heapSize" "I").before a0 Z = true := hw _ (List.mem_of_getElem? (i := 119) rfl)
theorem w120 {a0 : Array Value} {Z : State} (hw : oHw a0 Z) : (Jvm.Cond.methodLink cU (177 : Nat) ({ cls := cU, name := "siftUp", desc := "(II)V" } : Jvm.MethodName)).before a0 Z = true := hw _ (List.mem_of_getElem? (i := 120) rfl)
theorem w121 {a0 : Array Value} {Z : State} (hw : oHw a0 Z) : (Jvm.Cond.instanceMethod ({ cls := cU, name := "siftUp", desc := "(II)V" } : Jvm.MethodName)).before a0 Z = true := hw _ (List.mem_of_getElem? (i := 121) rfl)
theorem w122 {a0 : Array Value} {Z : State} (hw : oHw a0 Z) : (Jvm.Cond.privateMethod ({ cls := cU, name := "siftUp", desc := "(II)V" } : Jvm.MethodName)).before a0 Z = true := hw _ (List.mem_of_getElem? (i := 122) rfl)
theorem w123 {a0 : Array Value} {Z : State} (hw : oHw a0 Z) : (Jvm.Cond.code ({ cls := cU, name := "siftUp", desc := "(II)V" } : Jvm.MethodName) prog_54_method_24_code (4 : Nat) (Option.none : Option Jvm.ClassFile.FieldType)).before a0 Z = true := hw _ (List.mem_of_getElem? (i := 123) rfl)
theorem w124 {a0 : Array Value} {Z : State} (hw : oHw a0 Z) : (Jvm.Cond.methodLink cU (202 : Nat) ({ cls := cU, name := "place", desc := "(II)V" } : Jvm.MethodName)).before a0 Z = true := hw _ (List.mem_of_getElem? (i := 124) rfl)
theorem w125 {a0 : Array Value} {Z : State} (hw : oHw a0 Z) : (Jvm.Cond.instanceMethod ({ cls := cU, name := "place", desc := "(II)V" } : Jvm.MethodName)).before a0 Z = true := hw _ (List.mem_of_getElem? (i := 125) rfl)
theorem w126 {a0 : Array Value} {Z : State} (hw : oHw a0 Z) : (Jvm.Cond.privateMethod ({ cls := cU, name := "place", desc := "(II)V" } : Jvm.MethodName)).before a0 Z = true := hw _ (List.mem_of_getElem? (i := 126) rfl)
theorem w127 {a0 : Array Value} {Z : State} (hw : oHw a0 Z) : (Jvm.Cond.code ({ cls := cU, name := "place", desc := "(II)V" } : Jvm.MethodName) prog_54_method_26_code (3 : Nat) (Option.none : Option Jvm.ClassFile.FieldType)).before a0 Z = true := hw _ (List.mem_of_getElem? (i := 127) rfl)
theorem w128 {a0 : Array Value} {Z : State} (hw : oHw a0 Z) : (Jvm.Cond.methodLink cU (167 : Nat) ({ cls := cU, name := "pop", desc := "()V" } : Jvm.MethodName)).before a0 Z = true := hw _ (List.mem_of_getElem? (i := 128) rfl)
theorem w129 {a0 : Array Value} {Z : State} (hw : oHw a0 Z) : (Jvm.Cond.instanceMethod ({ cls := cU, name := "pop", desc := "()V" } : Jvm.MethodName)).before a0 Z = true := hw _ (List.mem_of_getElem? (i := 129) rfl)
theorem w130 {a0 : Array Value} {Z : State} (hw : oHw a0 Z) : (Jvm.Cond.privateMethod ({ cls := cU, name := "pop", desc := "()V" } : Jvm.MethodName)).before a0 Z = true := hw _ (List.mem_of_getElem? (i := 130) rfl)
theorem w131 {a0 : Array Value} {Z : State} (hw : oHw a0 Z) : (Jvm.Cond.code ({ cls := cU, name := "pop", desc := "()V" } : Jvm.MethodName) prog_54_method_23_code (1 : Nat) (Option.none : Option Jvm.ClassFile.FieldType)).before a0 Z = true := hw _ (List.mem_of_getElem? (i := 131) rfl)
theorem w132 {a0 : Array Value} {Z : State} (hw : oHw a0 Z) : (Jvm.Cond.methodLink cU (170 : Nat) ({ cls := cU, name := "considerSink", desc := "(JJIIZ)V" } : Jvm.MethodName)).before a0 Z = true := hw _ (List.mem_of_getElem? (i := 132) rfl)
theorem w133 {a0 : Array Value} {Z : State} (hw : oHw a0 Z) : (Jvm.Cond.instanceMethod ({ cls := cU, name := "considerSink", desc := "(JJIIZ)V" } : Jvm.MethodName)).before a0 Z = true := hw _ (List.mem_of_getElem? (i := 133) rfl)
theorem w134 {a0 : Array Value} {Z : State} (hw : oHw a0 Z) : (Jvm.Cond.privateMethod ({ cls := cU, name := "considerSink", desc := "(JJIIZ)V" } : Jvm.MethodName)).before a0 Z = true := hw _ (List.mem_of_getElem? (i := 134) rfl)
theorem w135 {a0 : Array Value} {Z : State} (hw : oHw a0 Z) : (Jvm.Cond.code ({ cls := cU, name := "considerSink", desc := "(JJIIZ)V" } : Jvm.MethodName) prog_54_method_19_code (9 : Nat) (Option.none : Option Jvm.ClassFile.FieldType)).before a0 Z = true := hw _ (List.mem_of_getElem? (i := 135) rfl)
theorem w136 {a0 : Array Value} {Z : State} (hw : oHw a0 Z) : (Jvm.Cond.methodLink cU (129 : Nat) ({ cls := cU, name := "raisePrices", desc := "(IJJ)V" } : Jvm.MethodName)).before a0 Z = true := hw _ (List.mem_of_getElem? (i := 136) rfl)
theorem w137 {a0 : Array Value} {Z : State} (hw : oHw a0 Z) : (Jvm.Cond.instanceMethod ({ cls := cU, name := "raisePrices", desc := "(IJJ)V" } : Jvm.MethodName)).before a0 Z = true := hw _ (List.mem_of_getElem? (i := 137) rfl)
theorem w138 {a0 : Array Value} {Z : State} (hw : oHw a0 Z) : (Jvm.Cond.privateMethod ({ cls := cU, name := "raisePrices", desc := "(IJJ)V" } : Jvm.MethodName)).before a0 Z = true := hw _ (List.mem_of_getElem? (i := 138) rfl)
theorem w139 {a0 : Array Value} {Z : State} (hw : oHw a0 Z) : (Jvm.Cond.code ({ cls := cU, name := "raisePrices", desc := "(IJJ)V" } : Jvm.MethodName) prog_54_method_21_code (13 : Nat) (Option.none : Option Jvm.ClassFile.FieldType)).before a0 Z = true := hw _ (List.mem_of_getElem? (i := 139) rfl)
theorem w140 {a0 : Array Value} {Z : State} (hw : oHw a0 Z) : (Jvm.Cond.methodLink cU (190 : Nat) ({ cls := cU, name := "markChanged", desc := "(I)V" } : Jvm.MethodName)).before a0 Z = true := hw _ (List.mem_of_getElem? (i := 140) rfl)
theorem w141 {a0 : Array Value} {Z : State} (hw : oHw a0 Z) : (Jvm.Cond.instanceMethod ({ cls := cU, name := "markChanged", desc := "(I)V" } : Jvm.MethodName)).before a0 Z = true := hw _ (List.mem_of_getElem? (i := 141) rfl)
theorem w142 {a0 : Array Value} {Z : State} (hw : oHw a0 Z) : (Jvm.Cond.privateMethod ({ cls := cU, name := "markChanged", desc := "(I)V" } : Jvm.MethodName)).before a0 Z = true := hw _ (List.mem_of_getElem? (i := 142) rfl)
theorem w143 {a0 : Array Value} {Z : State} (hw : oHw a0 Z) : (Jvm.Cond.code ({ cls := cU, name := "markChanged", desc := "(I)V" } : Jvm.MethodName) prog_54_method_13_code (2 : Nat) (Option.none : Option Jvm.ClassFile.FieldType)).before a0 Z = true := hw _ (List.mem_of_getElem? (i := 143) rfl)
theorem w144 {a0 : Array Value} {Z : State} (hw : oHw a0 Z) : (Jvm.Cond.fieldLink cU (118 : Nat) cU "changedCount" "I").before a0 Z = true := hw _ (List.mem_of_getElem? (i := 144) rfl)
theorem w145 {a0 : Array Value} {Z : State} (hw : oHw a0 Z) : (Jvm.Cond.lays cU cU "changedCount" "I").before a0 Z = true := hw _ (List.mem_of_getElem? (i := 145) rfl)
theorem w146 {a0 : Array Value} {Z : State} (hw : oHw a0 Z) : (Jvm.Cond.methodLink cU (193 : Nat) ({ cls := "java/lang/Math", name := "addExact", desc := "(JJ)J" } : Jvm.MethodName)).before a0 Z = true := hw _ (List.mem_of_getElem? (i := 146) rfl)
theorem w147 {a0 : Array Value} {Z : State} (hw : oHw a0 Z) : (Jvm.Cond.methodLink cU (132 : Nat) ({ cls := cU, name := "handOver", desc := "(I)V" } : Jvm.MethodName)).before a0 Z = true := hw _ (List.mem_of_getElem? (i := 147) rfl)
theorem w148 {a0 : Array Value} {Z : State} (hw : oHw a0 Z) : (Jvm.Cond.instanceMethod ({ cls := cU, name := "handOver", desc := "(I)V" } : Jvm.MethodName)).before a0 Z = true := hw _ (List.mem_of_getElem? (i := 148) rfl)
theorem w149 {a0 : Array Value} {Z : State} (hw : oHw a0 Z) : (Jvm.Cond.privateMethod ({ cls := cU, name := "handOver", desc := "(I)V" } : Jvm.MethodName)).before a0 Z = true := hw _ (List.mem_of_getElem? (i := 149) rfl)
theorem w150 {a0 : Array Value} {Z : State} (hw : oHw a0 Z) : (Jvm.Cond.code ({ cls := cU, name := "handOver", desc := "(I)V" } : Jvm.MethodName) prog_54_method_22_code (5 : Nat) (Option.none : Option Jvm.ClassFile.FieldType)).before a0 Z = true := hw _ (List.mem_of_getElem? (i := 150) rfl)
theorem w151 {a0 : Array Value} {Z : State} (hw : oHw a0 Z) : (Jvm.Cond.methodLink "com/example/gavel/gavel/UnitDemandMarketResetPricePinLaw" (22 : Nat) ({ cls := cU, name := "resetPrice", desc := "(I)V" } : Jvm.MethodName)).before a0 Z = true := hw _ (List.mem_of_getElem? (i := 151) rfl)
theorem w152 {a0 : Array Value} {Z : State} (hw : oHw a0 Z) : (Jvm.Cond.declares ({ cls := cU, name := "resetPrice", desc := "(I)V" } : Jvm.MethodName)).before a0 Z = true := hw _ (List.mem_of_getElem? (i := 152) rfl)
theorem w153 {a0 : Array Value} {Z : State} (hw : oHw a0 Z) : (Jvm.Cond.instanceMethod ({ cls := cU, name := "resetPrice", desc := "(I)V" } : Jvm.MethodName)).before a0 Z = true := hw _ (List.mem_of_getElem? (i := 153) rfl)
theorem w154 {a0 : Array Value} {Z : State} (hw : oHw a0 Z) : (Jvm.Cond.selects cU ({ cls := cU, name := "resetPrice", desc := "(I)V" } : Jvm.MethodName) ({ cls := cU, name := "resetPrice", desc := "(I)V" } : Jvm.MethodName)).before a0 Z = true := hw _ (List.mem_of_getElem? (i := 154) rfl)
theorem w155 {a0 : Array Value} {Z : State} (hw : oHw a0 Z) : (Jvm.Cond.code ({ cls := cU, name := "resetPrice", desc := "(I)V" } : Jvm.MethodName) prog_54_method_11_code (3 : Nat) (Option.none : Option Jvm.ClassFile.FieldType)).before a0 Z = true := hw _ (List.mem_of_getElem? (i := 155) rfl)
theorem w156 {a0 : Array Value} {Z : State} (hw : oHw a0 Z) : (Jvm.Cond.methodLink "com/example/gavel/gavel/UnitDemandMarketResetPricePinLaw" (25 : Nat) ({ cls := cU, name := "setWeight", desc := "(IJ)V" } : Jvm.MethodName)).before a0 Z = true := hw _ (List.mem_of_getElem? (i := 156) rfl)
theorem w157 {a0 : Array Value} {Z : State} (hw : oHw a0 Z) : (Jvm.Cond.declares ({ cls := cU, name := "setWeight", desc := "(IJ)V" } : Jvm.MethodName)).before a0 Z = true := hw _ (List.mem_of_getElem? (i := 157) rfl)
theorem w158 {a0 : Array Value} {Z : State} (hw : oHw a0 Z) : (Jvm.Cond.instanceMethod ({ cls := cU, name := "setWeight", desc := "(IJ)V" } : Jvm.MethodName)).before a0 Z = true := hw _ (List.mem_of_getElem? (i := 158) rfl)
theorem w159 {a0 : Array Value} {Z : State} (hw : oHw a0 Z) : (Jvm.Cond.selects cU ({ cls := cU, name := "setWeight", desc := "(IJ)V" } : Jvm.MethodName) ({ cls := cU, name := "setWeight", desc := "(IJ)V" } : Jvm.MethodName)).before a0 Z = true := hw _ (List.mem_of_getElem? (i := 159) rfl)
theorem w160 {a0 : Array Value} {Z : State} (hw : oHw a0 Z) : (Jvm.Cond.code ({ cls := cU, name := "setWeight", desc := "(IJ)V" } : Jvm.MethodName) prog_54_method_10_code (4 : Nat) (Option.none : Option Jvm.ClassFile.FieldType)).before a0 Z = true := hw _ (List.mem_of_getElem? (i := 160) rfl)
theorem w161 {a0 : Array Value} {Z : State} (hw : oHw a0 Z) : (Jvm.Cond.methodLink "com/example/gavel/gavel/UnitDemandMarketResetPricePinLaw" (29 : Nat) ({ cls := cU, name := "price", desc := "(I)J" } : Jvm.MethodName)).before a0 Z = true := hw _ (List.mem_of_getElem? (i := 161) rfl)
theorem w162 {a0 : Array Value} {Z : State} (hw : oHw a0 Z) : (Jvm.Cond.declares ({ cls := cU, name := "price", desc := "(I)J" } : Jvm.MethodName)).before a0 Z = true := hw _ (List.mem_of_getElem? (i := 162) rfl)
theorem w163 {a0 : Array Value} {Z : State} (hw : oHw a0 Z) : (Jvm.Cond.instanceMethod ({ cls := cU, name := "price", desc := "(I)J" } : Jvm.MethodName)).before a0 Z = true := hw _ (List.mem_of_getElem? (i := 163) rfl)
theorem w164 {a0 : Array Value} {Z : State} (hw : oHw a0 Z) : (Jvm.Cond.selects cU ({ cls := cU, name := "price", desc := "(I)J" } : Jvm.MethodName) ({ cls := cU, name := "price", desc := "(I)J" } : Jvm.MethodName)).before a0 Z = true := hw _ (List.mem_of_getElem? (i := 164) rfl)
theorem w165 {a0 : Array Value} {Z : State} (hw : oHw a0 Z) : (Jvm.Cond.code ({ cls := cU, name := "price", desc := "(I)J" } : Jvm.MethodName) prog_54_method_3_code (2 : Nat) (Option.some Jvm.ClassFile.FieldType.long)).before a0 Z = true := hw _ (List.mem_of_getElem? (i := 165) rfl)
theorem w166 {a0 : Array Value} {Z : State} (hw : oHw a0 Z) : (Jvm.Cond.methodLink "com/example/gavel/gavel/UnitDemandMarketResetPricePinLaw" (33 : Nat) ({ cls := cU, name := "holder", desc := "(I)I" } : Jvm.MethodName)).before a0 Z = true := hw _ (List.mem_of_getElem? (i := 166) rfl)
theorem w167 {a0 : Array Value} {Z : State} (hw : oHw a0 Z) : (Jvm.Cond.declares ({ cls := cU, name := "holder", desc := "(I)I" } : Jvm.MethodName)).before a0 Z = true := hw _ (List.mem_of_getElem? (i := 167) rfl)
theorem w168 {a0 : Array Value} {Z : State} (hw : oHw a0 Z) : (Jvm.Cond.instanceMethod ({ cls := cU, name := "holder", desc := "(I)I" } : Jvm.MethodName)).before a0 Z = true := hw _ (List.mem_of_getElem? (i := 168) rfl)
theorem w169 {a0 : Array Value} {Z : State} (hw : oHw a0 Z) : (Jvm.Cond.selects cU ({ cls := cU, name := "holder", desc := "(I)I" } : Jvm.MethodName) ({ cls := cU, name := "holder", desc := "(I)I" } : Jvm.MethodName)).before a0 Z = true := hw _ (List.mem_of_getElem? (i := 169) rfl)
theorem w170 {a0 : Array Value} {Z : State} (hw : oHw a0 Z) : (Jvm.Cond.code ({ cls := cU, name := "holder", desc := "(I)I" } : Jvm.MethodName) prog_54_method_2_code (2 : Nat) (Option.some Jvm.ClassFile.FieldType.int)).before a0 Z = true := hw _ (List.mem_of_getElem? (i := 170) rfl)
theorem w171 {a0 : Array Value} {Z : State} (hw : oHw a0 Z) : (Jvm.Cond.methodLink "com/example/gavel/gavel/UnitDemandMarketResetPricePinLaw" (37 : Nat) ({ cls := "java/lang/Math", name := "min", desc := "(JJ)J" } : Jvm.MethodName)).before a0 Z = true := hw _ (List.mem_of_getElem? (i := 171) rfl)
theorem w172 {a0 : Array Value} {Z : State} (hw : oHw a0 Z) : (Jvm.Cond.static ({ cls := "java/lang/Math", name := "min", desc := "(JJ)J" } : Jvm.MethodName)).before a0 Z = true := hw _ (List.mem_of_getElem? (i := 172) rfl)
theorem w173 {a0 : Array Value} {Z : State} (hw : oHw a0 Z) : (Jvm.Cond.code ({ cls := "java/lang/Math", name := "min", desc := "(JJ)J" } : Jvm.MethodName) jdk_29_method_70_code (4 : Nat) (Option.some Jvm.ClassFile.FieldType.long)).before a0 Z = true := hw _ (List.mem_of_getElem? (i := 173) rfl)
theorem w174 {a0 : Array Value} {Z : State} (hw : oHw a0 Z) : (Jvm.Cond.methodLink cU (181 : Nat) ({ cls := "java/lang/Integer", name := "compare", desc := "(II)I" } : Jvm.MethodName)).before a0 Z = true := hw _ (List.mem_of_getElem? (i := 174) rfl)
theorem w175 {a0 : Array Value} {Z : State} (hw : oHw a0 Z) : (Jvm.Cond.static ({ cls := "java/lang/Integer", name := "compare", desc := "(II)I" } : Jvm.MethodName)).before a0 Z = true := hw _ (List.mem_of_getElem? (i := 175) rfl)
theorem w176 {a0 : Array Value} {Z : State} (hw : oHw a0 Z) : (Jvm.Cond.initialized "java/lang/Integer").before a0 Z = true := hw _ (List.mem_of_getElem? (i := 176) rfl)
theorem w177 {a0 : Array Value} {Z : State} (hw : oHw a0 Z) : (Jvm.Cond.code ({ cls := "java/lang/Integer", name := "compare", desc := "(II)I" } : Jvm.MethodName) jdk_33_method_40_code (2 : Nat) (Option.some Jvm.ClassFile.FieldType.int)).before a0 Z = true := hw _ (List.mem_of_getElem? (i := 177) rfl)
theorem own_sub0 (x : Int64) : x - (0 : Int64) = x := by
  rw [← Int64.toInt_inj]; have q := c_lsub x 0; have r := rng64 (x - 0); have r2 := rng64 x; rw [show (0 : Int64).toInt = 0 from rfl] at q; omega
theorem own_add0 (x : Int64) : x + (0 : Int64) = x := by
  rw [← Int64.toInt_inj]; have q := c_ladd x 0; have r := rng64 (x + 0); have r2 := rng64 x; rw [show (0 : Int64).toInt = 0 from rfl] at q; omega
theorem own_0add (x : Int64) : (0 : Int64) + x = x := by
  rw [← Int64.toInt_inj]; have q := c_ladd 0 x; have r := rng64 (0 + x); have r2 := rng64 x; rw [show (0 : Int64).toInt = 0 from rfl] at q; omega
theorem own_subs (x : Int64) : x - x = (0 : Int64) := by
  rw [← Int64.toInt_inj]; have q := c_lsub x x; have r := rng64 (x - x); rw [show (0 : Int64).toInt = 0 from rfl]; omega
theorem own_neg (x : Int64) : x < 0 ↔ x.toBitVec.msb = true := by
  rw [Int64.lt_iff_toInt_lt, show (0 : Int64).toInt = 0 from rfl, BitVec.msb_eq_toInt]; simp [Int64.toInt_toBitVec]
theorem own_msb (x : Int64) : x.toBitVec.msb = decide (x.toInt < 0) := by rw [BitVec.msb_eq_toInt]; rfl
theorem own_subx (x y : Int64) (h1 : -9223372036854775808 ≤ x.toInt - y.toInt) (h2 : x.toInt - y.toInt < 9223372036854775808) : ¬ ((x ^^^ y) &&& (x ^^^ (x - y))) < (0 : Int64) := by
  rw [own_neg]
  have e := c_lsub x y
  have r := rng64 (x - y)
  have m : ((x ^^^ y) &&& (x ^^^ (x - y))).toBitVec.msb = ((x.toBitVec.msb ^^ y.toBitVec.msb) && (x.toBitVec.msb ^^ (x - y).toBitVec.msb)) := by
    rw [show ((x ^^^ y) &&& (x ^^^ (x - y))).toBitVec = (x.toBitVec ^^^ y.toBitVec) &&& (x.toBitVec ^^^ (x - y).toBitVec) from rfl, BitVec.msb_and, BitVec.msb_xor, BitVec.msb_xor]
  rw [m, own_msb, own_msb, own_msb]
  clear m; generalize (x - y).toInt = w at *; generalize x.toInt = u at *; generalize y.toInt = v at *
  by_cases a : u < 0 <;> by_cases b : v < 0 <;> by_cases c : w < 0 <;> simp [a, b, c] <;> omega
theorem own_addx (x y : Int64) (h1 : -9223372036854775808 ≤ x.toInt + y.toInt) (h2 : x.toInt + y.toInt < 9223372036854775808) : ¬ ((x ^^^ (x + y)) &&& (y ^^^ (x + y))) < (0 : Int64) := by
  rw [own_neg]
  have e := c_ladd x y
  have r := rng64 (x + y)
  have m : ((x ^^^ (x + y)) &&& (y ^^^ (x + y))).toBitVec.msb = ((x.toBitVec.msb ^^ (x + y).toBitVec.msb) && (y.toBitVec.msb ^^ (x + y).toBitVec.msb)) := by
    rw [show ((x ^^^ (x + y)) &&& (y ^^^ (x + y))).toBitVec = (x.toBitVec ^^^ (x + y).toBitVec) &&& (y.toBitVec ^^^ (x + y).toBitVec) from rfl, BitVec.msb_and, BitVec.msb_xor, BitVec.msb_xor]
  rw [m, own_msb, own_msb, own_msb]
  clear m; generalize (x + y).toInt = w at *; generalize x.toInt = u at *; generalize y.toInt = v at *
  by_cases a : u < 0 <;> by_cases b : v < 0 <;> by_cases c : w < 0 <;> simp [a, b, c] <;> omega
theorem own_w0 (a : Int64) : 0 ≤ (a &&& (1152921504606846975 : Int64)).toInt ∧ (a &&& (1152921504606846975 : Int64)).toInt < 1152921504606846976 := by
  rw [c_maskL a 1152921504606846975 60 (by decide) (by decide)]; omega
theorem own_dd (b : Int64) : 1 ≤ ((1 : Int64) + (b &&& (1152921504606846975 : Int64))).toInt ∧ ((1 : Int64) + (b &&& (1152921504606846975 : Int64))).toInt ≤ 1152921504606846976 := by
  have h := own_w0 b; have q := c_ladd 1 (b &&& 1152921504606846975); have r := rng64 (1 + (b &&& 1152921504606846975)); rw [show (1 : Int64).toInt = 1 from rfl] at q; omega
theorem own_w1 {v0 dd : Int64} (h : 0 ≤ v0.toInt ∧ v0.toInt < 1152921504606846976) (k : 1 ≤ dd.toInt ∧ dd.toInt ≤ 1152921504606846976) : (v0 + dd).toInt = v0.toInt + dd.toInt := by
  have q := c_ladd v0 dd; have r := rng64 (v0 + dd); omega
theorem ef_26 (m : MethodId) (x0 : Int64) (x1 : Int64) : entryFrame m #[.long x0, .long x1] 4 = mkF m 0 #[.val (.long x0), .second, .val (.long x1), .second] [] := by first | (simp [entryFrame, mkF, argsToLocals, Value.category]; done) | rfl
def fMin (q1 : Int64) (q2 : Int64) : Int64 := (if q2 < q1 then q2 else q1)
theorem fMin_def (q1 : Int64) (q2 : Int64) : fMin q1 q2 = (if q2 < q1 then q2 else q1) := rfl
theorem d26_0 : decode jdk_29_method_70_code 0 = .ok (.lload_n 0, 1) := by decide +kernel
theorem d26_1 : decode jdk_29_method_70_code 1 = .ok (.lload_n 2, 1) := by decide +kernel
theorem d26_2 : decode jdk_29_method_70_code 2 = .ok (.lcmp, 1) := by decide +kernel
theorem d26_3 : decode jdk_29_method_70_code 3 = .ok (.ifCond .gt 7, 3) := by decide +kernel
theorem d26_6 : decode jdk_29_method_70_code 6 = .ok (.lload_n 0, 1) := by decide +kernel
theorem d26_7 : decode jdk_29_method_70_code 7 = .ok (.goto 4, 3) := by decide +kernel
theorem d26_10 : decode jdk_29_method_70_code 10 = .ok (.lload_n 2, 1) := by decide +kernel
theorem d26_11 : decode jdk_29_method_70_code 11 = .ok (.lreturn, 1) := by decide +kernel
set_option maxRecDepth 65536 in
set_option maxHeartbeats 40000000 in
theorem mt_fMin (l : Launch) (Z : State) (a0 : Array Value) (hw : oHw a0 Z) (h0 : Heap) (n0 : Nat) (Z0 : n0 ≤ h0.size) (q1 : Int64) (q2 : Int64)  :
    oMet l Z (⟨"java/lang/Math", "min", "(JJ)J"⟩ : MethodName) jdk_29_method_70_code 4 (some .long) [] ({ frames := 0, cells := 0, slots := 0, locals := 0 } : Room) 0 0 n0 #[.long q1, .long q2] h0 (fun v h => v = some (.long (fMin q1 q2)) ∧ h = h0) := by
  refine oMet.intro (Jvm.Free.JP.mathPlain rfl (by decide +kernel)) (fun m => ef_26 m q1 q2) ?_
  intro op oe os m obl omt ocd C
  refine oLloadN C d26_0 rfl rfl ?_
  refine oLloadN C d26_1 rfl rfl ?_
  refine oLcmp_gt C d26_2 rfl d26_3 (q := 10) (by decide) (by decide) (r := 6) rfl (fun hc2 => ?_) (fun hc2 => ?_)
  ·
   refine oLloadN C d26_10 rfl rfl ?_
   refine oRetL C d26_11 (by decide) (by decide) ?_
   exact ⟨by rw [fMin_def, if_pos hc2], rfl⟩
  ·
   refine oLloadN C d26_6 rfl rfl ?_
   refine oGoto C d26_7 (q := 11) (by decide) (by decide) ?_
   refine oRetL C d26_11 (by decide) (by decide) ?_
   exact ⟨by rw [fMin_def, if_neg hc2], rfl⟩
theorem ef_0 (m : MethodId) (x0 : Int64) (x1 : Int64) (x2 : Int64) (x3 : Int32) : entryFrame m #[.long x0, .long x1, .long x2, .int x3] maxLocals = mkF m 0 #[.val (.long x0), .second, .val (.long x1), .second, .val (.long x2), .second, .val (.int x3), .unset, .unset, .unset, .unset, .unset, .unset, .unset, .unset, .unset, .unset, .unset, .unset, .unset, .unset, .unset, .unset] [] := by first | (simp [entryFrame, mkF, argsToLocals, Value.category, maxLocals]; done) | rfl
theorem pn_307969 : plainName "com/example/gavel/gavel/UnitDemandMarketResetPricePinLaw" = true := by first | (simp [plainName, overriddenIn]; done) | decide +kernel
def fW2 (x2 : Int64) (fl : Int32) (dd : Int64) : Int64 := (if (fl &&& (1 : Int32)) = 0 then (x2 &&& (1152921504606846975 : Int64)) else dd)
theorem fW2_def (x2 : Int64) (fl : Int32) (dd : Int64) : fW2 x2 fl dd = (if (fl &&& (1 : Int32)) = 0 then (x2 &&& (1152921504606846975 : Int64)) else dd) := rfl
theorem ef_1 (m : MethodId) (x0 : Addr) (x1 : Int32) (x2 : Addr) (x3 : Addr) (x4 : Addr) : entryFrame m #[.ref x0, .int x1, .ref x2, .ref x3, .ref x4] 6 = mkF m 0 #[.val (.ref x0), .val (.int x1), .val (.ref x2), .val (.ref x3), .val (.ref x4), .unset] [] := by first | (simp [entryFrame, mkF, argsToLocals, Value.category]; done) | rfl
theorem pn_944982 : plainName cU = true := by first | (simp [plainName, overriddenIn]; done) | decide +kernel
def oFL0 : List (String × String × String) := [(cU, "displaced", "I"), (cU, "offerStart", "[I"), (cU, "offerItem", "[I"), (cU, "offerWeight", "[J"), (cU, "priceMoney", "[J"), (cU, "priceSales", "[J"), (cU, "holder", "[I"), (cU, "utilityMoney", "[J"), (cU, "utilitySales", "[J"), (cU, "held", "[I"), (cU, "distMoney", "[J"), (cU, "distSales", "[J"), (cU, "hops", "[I"), (cU, "pred", "[I"), (cU, "predOffer", "[I"), (cU, "mark", "[B"), (cU, "heap", "[I"), (cU, "heapIndex", "[I"), (cU, "touched", "[I"), (cU, "changed", "[Z"), (cU, "changedItems", "[I"), (cU, "searches", "I"), (cU, "sinkMoney", "J"), (cU, "sinkSales", "J"), (cU, "sinkMoves", "I"), (cU, "sinkEnd", "I"), (cU, "sinkGoesWithout", "Z"), (cU, "touchedCount", "I"), (cU, "heapSize", "I"), (cU, "changedCount", "I")]
theorem oLa0 {a0 : Array Value} {Z : State} (hw : oHw a0 Z) : ∀ p ∈ oFL0, Laid Z a0 cU p.1 p.2.1 p.2.2 ∧ ∃ t, parseFieldDescriptor p.2.2 = some t := by
  intro p hp
  simp only [oFL0, List.mem_cons, List.not_mem_nil, or_false] at hp
  rcases hp with rfl | rfl | rfl | rfl | rfl | rfl | rfl | rfl | rfl | rfl | rfl | rfl | rfl | rfl | rfl | rfl | rfl | rfl | rfl | rfl | rfl | rfl | rfl | rfl | rfl | rfl | rfl | rfl | rfl | rfl
  · exact ⟨(Or.inl (w13 hw)), _, (by decide : parseFieldDescriptor "I" = some .int)⟩
  · exact ⟨(Or.inr (w15 hw)), _, (by decide : parseFieldDescriptor "[I" = some (.array .int))⟩
  · exact ⟨(Or.inr (w17 hw)), _, (by decide : parseFieldDescriptor "[I" = some (.array .int))⟩
  · exact ⟨(Or.inr (w19 hw)), _, (by decide : parseFieldDescriptor "[J" = some (.array .long))⟩
  · exact ⟨(Or.inr (w21 hw)), _, (by decide : parseFieldDescriptor "[J" = some (.array .long))⟩
  · exact ⟨(Or.inr (w23 hw)), _, (by decide : parseFieldDescriptor "[J" = some (.array .long))⟩
  · exact ⟨(Or.inr (w25 hw)), _, (by decide : parseFieldDescriptor "[I" = some (.array .int))⟩
  · exact ⟨(Or.inr (w31 hw)), _, (by decide : parseFieldDescriptor "[J" = some (.array .long))⟩
  · exact ⟨(Or.inr (w33 hw)), _, (by decide : parseFieldDescriptor "[J" = some (.array .long))⟩
  · exact ⟨(Or.inr (w35 hw)), _, (by decide : parseFieldDescriptor "[I" = some (.array .int))⟩
  · exact ⟨(Or.inr (w37 hw)), _, (by decide : parseFieldDescriptor "[J" = some (.array .long))⟩
  · exact ⟨(Or.inr (w39 hw)), _, (by decide : parseFieldDescriptor "[J" = some (.array .long))⟩
  · exact ⟨(Or.inr (w41 hw)), _, (by decide : parseFieldDescriptor "[I" = some (.array .int))⟩
  · exact ⟨(Or.inr (w43 hw)), _, (by decide : parseFieldDescriptor "[I" = some (.array .int))⟩
  · exact ⟨(Or.inr (w45 hw)), _, (by decide : parseFieldDescriptor "[I" = some (.array .int))⟩
  · exact ⟨(Or.inr (w48 hw)), _, (by decide : parseFieldDescriptor "[B" = some (.array .byte))⟩
  · exact ⟨(Or.inr (w50 hw)), _, (by decide : parseFieldDescriptor "[I" = some (.array .int))⟩
  · exact ⟨(Or.inr (w52 hw)), _, (by decide : parseFieldDescriptor "[I" = some (.array .int))⟩
  · exact ⟨(Or.inr (w54 hw)), _, (by decide : parseFieldDescriptor "[I" = some (.array .int))⟩
  · exact ⟨(Or.inr (w57 hw)), _, (by decide : parseFieldDescriptor "[Z" = some (.array .boolean))⟩
  · exact ⟨(Or.inr (w59 hw)), _, (by decide : parseFieldDescriptor "[I" = some (.array .int))⟩
  · exact ⟨(Or.inl (w82 hw)), _, (by decide : parseFieldDescriptor "I" = some .int)⟩
  · exact ⟨(Or.inl (w88 hw)), _, (by decide : parseFieldDescriptor "J" = some .long)⟩
  · exact ⟨(Or.inl (w90 hw)), _, (by decide : parseFieldDescriptor "J" = some .long)⟩
  · exact ⟨(Or.inl (w92 hw)), _, (by decide : parseFieldDescriptor "I" = some .int)⟩
  · exact ⟨(Or.inl (w94 hw)), _, (by decide : parseFieldDescriptor "I" = some .int)⟩
  · exact ⟨(Or.inl (w96 hw)), _, (by decide : parseFieldDescriptor "Z" = some .boolean)⟩
  · exact ⟨(Or.inl (w113 hw)), _, (by decide : parseFieldDescriptor "I" = some .int)⟩
  · exact ⟨(Or.inl (w119 hw)), _, (by decide : parseFieldDescriptor "I" = some .int)⟩
  · exact ⟨(Or.inl (w145 hw)), _, (by decide : parseFieldDescriptor "I" = some .int)⟩
theorem oSn0 {a0 : Array Value} {Z : State} (hw : oHw a0 Z) (i j : Nat) {O n d O' n' d' : String} (hi : oFL0[i]? = some (O, n, d) := by rfl) (hj : oFL0[j]? = some (O', n', d') := by rfl) (hn : n ≠ n' := by decide) : Jvm.RoadKit.slotOf Z O n d ≠ Jvm.RoadKit.slotOf Z O' n' d' := by
  obtain ⟨l1, t1, e1⟩ := oLa0 hw _ (List.mem_of_getElem? hi)
  obtain ⟨l2, t2, e2⟩ := oLa0 hw _ (List.mem_of_getElem? hj)
  exact slot_ne l1 l2 hn e1 e2
theorem ef_3 (m : MethodId) (x0 : Addr) (x1 : Int32) : entryFrame m #[.ref x0, .int x1] 4 = mkF m 0 #[.val (.ref x0), .val (.int x1), .unset, .unset] [] := by first | (simp [entryFrame, mkF, argsToLocals, Value.category]; done) | rfl
theorem pn_654730 : plainName "java/util/Arrays" = true := by first | (simp [plainName, overriddenIn]; done) | decide +kernel
theorem d3_0 : decode jdk_65_method_103_code 0 = .ok (.iconst 0, 1) := by decide +kernel
theorem d3_1 : decode jdk_65_method_103_code 1 = .ok (.istore_n 2, 1) := by decide +kernel
theorem d3_2 : decode jdk_65_method_103_code 2 = .ok (.aload_n 0, 1) := by decide +kernel
theorem d3_3 : decode jdk_65_method_103_code 3 = .ok (.arraylength, 1) := by decide +kernel
theorem d3_4 : decode jdk_65_method_103_code 4 = .ok (.istore_n 3, 1) := by decide +kernel
theorem d3_5 : decode jdk_65_method_103_code 5 = .ok (.iload_n 2, 1) := by decide +kernel
theorem d3_6 : decode jdk_65_method_103_code 6 = .ok (.iload_n 3, 1) := by decide +kernel
theorem d3_7 : decode jdk_65_method_103_code 7 = .ok (.if_icmp .ge 13, 3) := by decide +kernel
theorem d3_10 : decode jdk_65_method_103_code 10 = .ok (.aload_n 0, 1) := by decide +kernel
theorem d3_11 : decode jdk_65_method_103_code 11 = .ok (.iload_n 2, 1) := by decide +kernel
theorem d3_12 : decode jdk_65_method_103_code 12 = .ok (.iload_n 1, 1) := by decide +kernel
theorem d3_13 : decode jdk_65_method_103_code 13 = .ok (.iastore, 1) := by decide +kernel
theorem d3_14 : decode jdk_65_method_103_code 14 = .ok (.iinc 2 1, 3) := by decide +kernel
theorem d3_17 : decode jdk_65_method_103_code 17 = .ok (.goto (-12), 3) := by decide +kernel
theorem d3_20 : decode jdk_65_method_103_code 20 = .ok (.return_, 1) := by decide +kernel
set_option maxRecDepth 65536 in
set_option maxHeartbeats 40000000 in
theorem ac3_0 (l : Launch) (Z : State) (a0 : Array Value) (hw : oHw a0 Z) (h0 : Heap) (n0 : Nat) (Z0 : n0 ≤ h0.size) (b1 : Addr) (p1 : oAr Z h0 b1 .int [.int 0, .int 0]) (p2 : n0 ≤ b1) :
    oMet l Z (⟨"java/util/Arrays", "fill", "([II)V"⟩ : MethodName) jdk_65_method_103_code 4 none [] ({ frames := 0, cells := 0, slots := 0, locals := 0 } : Room) 0 0 n0 #[.ref b1, .int (-1)] h0 (fun v h => v = none ∧ oKe h0 h [b1] [] ∧ oAr Z h b1 .int [.int (-1), .int (-1)]) := by
  refine oMet.intro (plainFor_of_name pn_654730) (fun m => ef_3 m b1 (-1 : Int32)) ?_
  intro op oe os m obl omt ocd C
  refine oIconst C d3_0 (z := 0) rfl rfl ?_
  refine oIstoreN C d3_1 (Ls' := #[.val (.ref b1), .val (.int (-1)), .val (.int 0), .unset]) rfl (q := 2) rfl ?_
  refine oAloadN C d3_2 rfl rfl rfl ?_
  refine oLen C p1 (z := (2 : Int32)) rfl d3_3 rfl ?_
  refine oIstoreN C d3_4 (Ls' := #[.val (.ref b1), .val (.int (-1)), .val (.int 0), .val (.int 2)]) rfl (q := 5) rfl ?_
  refine oIloadN C d3_5 rfl rfl ?_
  refine oIloadN C d3_6 rfl rfl ?_
  refine oIcmp_ge C d3_7 (q := 20) (by decide) (by decide) (r := 10) rfl (fun hq => absurd hq ((by decide))) (fun hc7 => ?_)
  refine oAloadN C d3_10 rfl rfl rfl ?_
  refine oIloadN C d3_11 rfl rfl ?_
  refine oIloadN C d3_12 rfl rfl ?_
  refine oIastore C p1 (by decide) (k := 0) rfl (v := .int 0) rfl (v' := .int (-1)) rfl d3_13 rfl p2 fun h1 W1 A1 => ?_
  have A1l : oAr Z h1 b1 .int [.int (-1), .int 0] := A1
  refine oIinc C d3_14 rfl (z := 1) rfl (w := (1 : Int32)) (by decide) (Ls' := #[.val (.ref b1), .val (.int (-1)), .val (.int 1), .val (.int 2)]) rfl rfl ?_
  refine oGoto C d3_17 (q := 5) (by decide) (by decide) ?_
  refine oIloadN C d3_5 rfl rfl ?_
  refine oIloadN C d3_6 rfl rfl ?_
  refine oIcmp_ge C d3_7 (q := 20) (by decide) (by decide) (r := 10) rfl (fun hq => absurd hq ((by decide))) (fun hc7_1 => ?_)
  refine oAloadN C d3_10 rfl rfl rfl ?_
  refine oIloadN C d3_11 rfl rfl ?_
  refine oIloadN C d3_12 rfl rfl ?_
  refine oIastore C A1l (by decide) (k := 1) rfl (v := .int 0) rfl (v' := .int (-1)) rfl d3_13 rfl p2 fun h2 W2 A2 => ?_
  have A2l : oAr Z h2 b1 .int [.int (-1), .int (-1)] := A2
  refine oIinc C d3_14 rfl (z := 1) rfl (w := (2 : Int32)) (by decide) (Ls' := #[.val (.ref b1), .val (.int (-1)), .val (.int 2), .val (.int 2)]) rfl rfl ?_
  refine oGoto C d3_17 (q := 5) (by decide) (by decide) ?_
  refine oIloadN C d3_5 rfl rfl ?_
  refine oIloadN C d3_6 rfl rfl ?_
  refine oIcmp_ge C d3_7 (q := 20) (by decide) (by decide) (r := 10) rfl (fun hc7_2 => ?_) (fun hq => absurd hq ((by decide)))
  refine oRetV C d3_20 (by decide) (by decide) ?_
  exact ⟨rfl, (((oKe.refl h0 [b1] []).wrA W1 (Or.inl (List.mem_of_getElem? (i := 0) rfl))).wrA W2 (Or.inl (List.mem_of_getElem? (i := 0) rfl))), A2l⟩
theorem pd_615396 : parseMethodDescriptor "([II)V" = some ⟨[(.array .int), .int], none⟩ := by decide +kernel
set_option maxRecDepth 65536 in
set_option maxHeartbeats 40000000 in
theorem ac3_1 (l : Launch) (Z : State) (a0 : Array Value) (hw : oHw a0 Z) (h0 : Heap) (n0 : Nat) (Z0 : n0 ≤ h0.size) (b1 : Addr) (p1 : oAr Z h0 b1 .int [.int 0, .int 0, .int 0]) (p2 : n0 ≤ b1) :
    oMet l Z (⟨"java/util/Arrays", "fill", "([II)V"⟩ : MethodName) jdk_65_method_103_code 4 none [] ({ frames := 0, cells := 0, slots := 0, locals := 0 } : Room) 0 0 n0 #[.ref b1, .int (-1)] h0 (fun v h => v = none ∧ oKe h0 h [b1] [] ∧ oAr Z h b1 .int [.int (-1), .int (-1), .int (-1)]) := by
  refine oMet.intro (plainFor_of_name pn_654730) (fun m => ef_3 m b1 (-1 : Int32)) ?_
  intro op oe os m obl omt ocd C
  refine oIconst C d3_0 (z := 0) rfl rfl ?_
  refine oIstoreN C d3_1 (Ls' := #[.val (.ref b1), .val (.int (-1)), .val (.int 0), .unset]) rfl (q := 2) rfl ?_
  refine oAloadN C d3_2 rfl rfl rfl ?_
  refine oLen C p1 (z := (3 : Int32)) rfl d3_3 rfl ?_
  refine oIstoreN C d3_4 (Ls' := #[.val (.ref b1), .val (.int (-1)), .val (.int 0), .val (.int 3)]) rfl (q := 5) rfl ?_
  refine oIloadN C d3_5 rfl rfl ?_
  refine oIloadN C d3_6 rfl rfl ?_
  refine oIcmp_ge C d3_7 (q := 20) (by decide) (by decide) (r := 10) rfl (fun hq => absurd hq ((by decide))) (fun hc7 => ?_)
  refine oAloadN C d3_10 rfl rfl rfl ?_
  refine oIloadN C d3_11 rfl rfl ?_
  refine oIloadN C d3_12 rfl rfl ?_
  refine oIastore C p1 (by decide) (k := 0) rfl (v := .int 0) rfl (v' := .int (-1)) rfl d3_13 rfl p2 fun h1 W1 A1 => ?_
  have A1l : oAr Z h1 b1 .int [.int (-1), .int 0, .int 0] := A1
  refine oIinc C d3_14 rfl (z := 1) rfl (w := (1 : Int32)) (by decide) (Ls' := #[.val (.ref b1), .val (.int (-1)), .val (.int 1), .val (.int 3)]) rfl rfl ?_
  refine oGoto C d3_17 (q := 5) (by decide) (by decide) ?_
  refine oIloadN C d3_5 rfl rfl ?_
  refine oIloadN C d3_6 rfl rfl ?_
  refine oIcmp_ge C d3_7 (q := 20) (by decide) (by decide) (r := 10) rfl (fun hq => absurd hq ((by decide))) (fun hc7_1 => ?_)
  refine oAloadN C d3_10 rfl rfl rfl ?_
  refine oIloadN C d3_11 rfl rfl ?_
  refine oIloadN C d3_12 rfl rfl ?_
  refine oIastore C A1l (by decide) (k := 1) rfl (v := .int 0) rfl (v' := .int (-1)) rfl d3_13 rfl p2 fun h2 W2 A2 => ?_
  have A2l : oAr Z h2 b1 .int [.int (-1), .int (-1), .int 0] := A2
  refine oIinc C d3_14 rfl (z := 1) rfl (w := (2 : Int32)) (by decide) (Ls' := #[.val (.ref b1), .val (.int (-1)), .val (.int 2), .val (.int 3)]) rfl rfl ?_
  refine oGoto C d3_17 (q := 5) (by decide) (by decide) ?_
  refine oIloadN C d3_5 rfl rfl ?_
  refine oIloadN C d3_6 rfl rfl ?_
  refine oIcmp_ge C d3_7 (q := 20) (by decide) (by decide) (r := 10) rfl (fun hq => absurd hq ((by decide))) (fun hc7_2 => ?_)
  refine oAloadN C d3_10 rfl rfl rfl ?_
  refine oIloadN C d3_11 rfl rfl ?_
  refine oIloadN C d3_12 rfl rfl ?_
  refine oIastore C A2l (by decide) (k := 2) rfl (v := .int 0) rfl (v' := .int (-1)) rfl d3_13 rfl p2 fun h3 W3 A3 => ?_
  have A3l : oAr Z h3 b1 .int [.int (-1), .int (-1), .int (-1)] := A3
  refine oIinc C d3_14 rfl (z := 1) rfl (w := (3 : Int32)) (by decide) (Ls' := #[.val (.ref b1), .val (.int (-1)), .val (.int 3), .val (.int 3)]) rfl rfl ?_
  refine oGoto C d3_17 (q := 5) (by decide) (by decide) ?_
  refine oIloadN C d3_5 rfl rfl ?_
  refine oIloadN C d3_6 rfl rfl ?_
  refine oIcmp_ge C d3_7 (q := 20) (by decide) (by decide) (r := 10) rfl (fun hc7_3 => ?_) (fun hq => absurd hq ((by decide)))
  refine oRetV C d3_20 (by decide) (by decide) ?_
  exact ⟨rfl, ((((oKe.refl h0 [b1] []).wrA W1 (Or.inl (List.mem_of_getElem? (i := 0) rfl))).wrA W2 (Or.inl (List.mem_of_getElem? (i := 0) rfl))).wrA W3 (Or.inl (List.mem_of_getElem? (i := 0) rfl))), A3l⟩
theorem d1_0 : decode prog_54_method_1_code 0 = .ok (.aload_n 0, 1) := by decide +kernel
theorem d1_1 : decode prog_54_method_1_code 1 = .ok (.invokespecial 1, 3) := by decide +kernel
theorem d1_4 : decode prog_54_method_1_code 4 = .ok (.aload_n 0, 1) := by decide +kernel
theorem d1_5 : decode prog_54_method_1_code 5 = .ok (.iconst (-1), 1) := by decide +kernel
theorem d1_6 : decode prog_54_method_1_code 6 = .ok (.putfield 9, 3) := by decide +kernel
theorem d1_9 : decode prog_54_method_1_code 9 = .ok (.aload_n 0, 1) := by decide +kernel
theorem d1_10 : decode prog_54_method_1_code 10 = .ok (.aload_n 2, 1) := by decide +kernel
theorem d1_11 : decode prog_54_method_1_code 11 = .ok (.putfield 13, 3) := by decide +kernel
theorem d1_14 : decode prog_54_method_1_code 14 = .ok (.aload_n 0, 1) := by decide +kernel
theorem d1_15 : decode prog_54_method_1_code 15 = .ok (.aload_n 3, 1) := by decide +kernel
theorem d1_16 : decode prog_54_method_1_code 16 = .ok (.putfield 17, 3) := by decide +kernel
theorem d1_19 : decode prog_54_method_1_code 19 = .ok (.aload_n 0, 1) := by decide +kernel
theorem d1_20 : decode prog_54_method_1_code 20 = .ok (.aload 4, 2) := by decide +kernel
theorem d1_22 : decode prog_54_method_1_code 22 = .ok (.putfield 20, 3) := by decide +kernel
theorem d1_25 : decode prog_54_method_1_code 25 = .ok (.aload_n 2, 1) := by decide +kernel
theorem d1_26 : decode prog_54_method_1_code 26 = .ok (.arraylength, 1) := by decide +kernel
theorem d1_27 : decode prog_54_method_1_code 27 = .ok (.iconst 1, 1) := by decide +kernel
theorem d1_28 : decode prog_54_method_1_code 28 = .ok (.isub, 1) := by decide +kernel
theorem d1_29 : decode prog_54_method_1_code 29 = .ok (.istore 5, 2) := by decide +kernel
theorem d1_31 : decode prog_54_method_1_code 31 = .ok (.aload_n 0, 1) := by decide +kernel
theorem d1_32 : decode prog_54_method_1_code 32 = .ok (.iload_n 1, 1) := by decide +kernel
theorem d1_33 : decode prog_54_method_1_code 33 = .ok (.newarray .long, 2) := by decide +kernel
theorem d1_35 : decode prog_54_method_1_code 35 = .ok (.putfield 24, 3) := by decide +kernel
theorem d1_38 : decode prog_54_method_1_code 38 = .ok (.aload_n 0, 1) := by decide +kernel
theorem d1_39 : decode prog_54_method_1_code 39 = .ok (.iload_n 1, 1) := by decide +kernel
theorem d1_40 : decode prog_54_method_1_code 40 = .ok (.newarray .long, 2) := by decide +kernel
theorem d1_42 : decode prog_54_method_1_code 42 = .ok (.putfield 27, 3) := by decide +kernel
theorem d1_45 : decode prog_54_method_1_code 45 = .ok (.aload_n 0, 1) := by decide +kernel
theorem d1_46 : decode prog_54_method_1_code 46 = .ok (.iload_n 1, 1) := by decide +kernel
theorem d1_47 : decode prog_54_method_1_code 47 = .ok (.newarray .int, 2) := by decide +kernel
theorem d1_49 : decode prog_54_method_1_code 49 = .ok (.putfield 30, 3) := by decide +kernel
theorem d1_52 : decode prog_54_method_1_code 52 = .ok (.aload_n 0, 1) := by decide +kernel
theorem d1_53 : decode prog_54_method_1_code 53 = .ok (.getfield 30, 3) := by decide +kernel
theorem d1_56 : decode prog_54_method_1_code 56 = .ok (.iconst (-1), 1) := by decide +kernel
theorem d1_57 : decode prog_54_method_1_code 57 = .ok (.invokestatic 33, 3) := by decide +kernel
theorem d1_60 : decode prog_54_method_1_code 60 = .ok (.aload_n 0, 1) := by decide +kernel
theorem d1_61 : decode prog_54_method_1_code 61 = .ok (.iload 5, 2) := by decide +kernel
theorem d1_63 : decode prog_54_method_1_code 63 = .ok (.newarray .long, 2) := by decide +kernel
theorem d1_65 : decode prog_54_method_1_code 65 = .ok (.putfield 39, 3) := by decide +kernel
theorem d1_68 : decode prog_54_method_1_code 68 = .ok (.aload_n 0, 1) := by decide +kernel
theorem d1_69 : decode prog_54_method_1_code 69 = .ok (.iload 5, 2) := by decide +kernel
theorem d1_71 : decode prog_54_method_1_code 71 = .ok (.newarray .long, 2) := by decide +kernel
theorem d1_73 : decode prog_54_method_1_code 73 = .ok (.putfield 42, 3) := by decide +kernel
theorem d1_76 : decode prog_54_method_1_code 76 = .ok (.aload_n 0, 1) := by decide +kernel
theorem d1_77 : decode prog_54_method_1_code 77 = .ok (.iload 5, 2) := by decide +kernel
theorem d1_79 : decode prog_54_method_1_code 79 = .ok (.newarray .int, 2) := by decide +kernel
theorem d1_81 : decode prog_54_method_1_code 81 = .ok (.putfield 45, 3) := by decide +kernel
theorem d1_84 : decode prog_54_method_1_code 84 = .ok (.aload_n 0, 1) := by decide +kernel
theorem d1_85 : decode prog_54_method_1_code 85 = .ok (.getfield 45, 3) := by decide +kernel
theorem d1_88 : decode prog_54_method_1_code 88 = .ok (.iconst (-1), 1) := by decide +kernel
theorem d1_89 : decode prog_54_method_1_code 89 = .ok (.invokestatic 33, 3) := by decide +kernel
theorem d1_92 : decode prog_54_method_1_code 92 = .ok (.aload_n 0, 1) := by decide +kernel
theorem d1_93 : decode prog_54_method_1_code 93 = .ok (.iload_n 1, 1) := by decide +kernel
theorem d1_94 : decode prog_54_method_1_code 94 = .ok (.newarray .long, 2) := by decide +kernel
theorem d1_96 : decode prog_54_method_1_code 96 = .ok (.putfield 48, 3) := by decide +kernel
theorem d1_99 : decode prog_54_method_1_code 99 = .ok (.aload_n 0, 1) := by decide +kernel
theorem d1_100 : decode prog_54_method_1_code 100 = .ok (.iload_n 1, 1) := by decide +kernel
theorem d1_101 : decode prog_54_method_1_code 101 = .ok (.newarray .long, 2) := by decide +kernel
theorem d1_103 : decode prog_54_method_1_code 103 = .ok (.putfield 51, 3) := by decide +kernel
theorem d1_106 : decode prog_54_method_1_code 106 = .ok (.aload_n 0, 1) := by decide +kernel
theorem d1_107 : decode prog_54_method_1_code 107 = .ok (.iload_n 1, 1) := by decide +kernel
theorem d1_108 : decode prog_54_method_1_code 108 = .ok (.newarray .int, 2) := by decide +kernel
theorem d1_110 : decode prog_54_method_1_code 110 = .ok (.putfield 54, 3) := by decide +kernel
theorem d1_113 : decode prog_54_method_1_code 113 = .ok (.aload_n 0, 1) := by decide +kernel
theorem d1_114 : decode prog_54_method_1_code 114 = .ok (.iload_n 1, 1) := by decide +kernel
theorem d1_115 : decode prog_54_method_1_code 115 = .ok (.newarray .int, 2) := by decide +kernel
theorem d1_117 : decode prog_54_method_1_code 117 = .ok (.putfield 57, 3) := by decide +kernel
theorem d1_120 : decode prog_54_method_1_code 120 = .ok (.aload_n 0, 1) := by decide +kernel
theorem d1_121 : decode prog_54_method_1_code 121 = .ok (.iload_n 1, 1) := by decide +kernel
theorem d1_122 : decode prog_54_method_1_code 122 = .ok (.newarray .int, 2) := by decide +kernel
theorem d1_124 : decode prog_54_method_1_code 124 = .ok (.putfield 60, 3) := by decide +kernel
theorem d1_127 : decode prog_54_method_1_code 127 = .ok (.aload_n 0, 1) := by decide +kernel
theorem d1_128 : decode prog_54_method_1_code 128 = .ok (.iload_n 1, 1) := by decide +kernel
theorem d1_129 : decode prog_54_method_1_code 129 = .ok (.newarray .byte, 2) := by decide +kernel
theorem d1_131 : decode prog_54_method_1_code 131 = .ok (.putfield 63, 3) := by decide +kernel
theorem d1_134 : decode prog_54_method_1_code 134 = .ok (.aload_n 0, 1) := by decide +kernel
theorem d1_135 : decode prog_54_method_1_code 135 = .ok (.iload_n 1, 1) := by decide +kernel
theorem d1_136 : decode prog_54_method_1_code 136 = .ok (.newarray .int, 2) := by decide +kernel
theorem d1_138 : decode prog_54_method_1_code 138 = .ok (.putfield 67, 3) := by decide +kernel
theorem d1_141 : decode prog_54_method_1_code 141 = .ok (.aload_n 0, 1) := by decide +kernel
theorem d1_142 : decode prog_54_method_1_code 142 = .ok (.iload_n 1, 1) := by decide +kernel
theorem d1_143 : decode prog_54_method_1_code 143 = .ok (.newarray .int, 2) := by decide +kernel
theorem d1_145 : decode prog_54_method_1_code 145 = .ok (.putfield 70, 3) := by decide +kernel
theorem d1_148 : decode prog_54_method_1_code 148 = .ok (.aload_n 0, 1) := by decide +kernel
theorem d1_149 : decode prog_54_method_1_code 149 = .ok (.iload_n 1, 1) := by decide +kernel
theorem d1_150 : decode prog_54_method_1_code 150 = .ok (.newarray .int, 2) := by decide +kernel
theorem d1_152 : decode prog_54_method_1_code 152 = .ok (.putfield 73, 3) := by decide +kernel
theorem d1_155 : decode prog_54_method_1_code 155 = .ok (.aload_n 0, 1) := by decide +kernel
theorem d1_156 : decode prog_54_method_1_code 156 = .ok (.iload_n 1, 1) := by decide +kernel
theorem d1_157 : decode prog_54_method_1_code 157 = .ok (.newarray .boolean, 2) := by decide +kernel
theorem d1_159 : decode prog_54_method_1_code 159 = .ok (.putfield 76, 3) := by decide +kernel
theorem d1_162 : decode prog_54_method_1_code 162 = .ok (.aload_n 0, 1) := by decide +kernel
theorem d1_163 : decode prog_54_method_1_code 163 = .ok (.iload_n 1, 1) := by decide +kernel
theorem d1_164 : decode prog_54_method_1_code 164 = .ok (.newarray .int, 2) := by decide +kernel
theorem d1_166 : decode prog_54_method_1_code 166 = .ok (.putfield 80, 3) := by decide +kernel
theorem d1_169 : decode prog_54_method_1_code 169 = .ok (.return_, 1) := by decide +kernel
set_option maxRecDepth 65536 in
set_option maxHeartbeats 40000000 in
theorem ac1_2 (l : Launch) (Z : State) (a0 : Array Value) (hw : oHw a0 Z) (h0 : Heap) (n0 : Nat) (Z0 : n0 ≤ h0.size) (b1 : Addr) (b2 : Addr) (b3 : Addr) (b4 : Addr) (p1 : Exa Z h0 b1 cU) (p2 : Fld Z h0 b1 cU "displaced" "I" (.int 0)) (p3 : n0 ≤ b1) (p4 : Fld Z h0 b1 cU "offerStart" "[I" (.null)) (p5 : Fld Z h0 b1 cU "offerItem" "[I" (.null)) (p6 : Fld Z h0 b1 cU "offerWeight" "[J" (.null)) (p7 : oAr Z h0 b2 .int [.int 0, .int 1, .int 2, .int 3]) (p8 : b2 ≠ b1) (p9 : Fld Z h0 b1 cU "priceMoney" "[J" (.null)) (p10 : Fld Z h0 b1 cU "priceSales" "[J" (.null)) (p11 : Fld Z h0 b1 cU "holder" "[I" (.null)) (p12 : Fld Z h0 b1 cU "utilityMoney" "[J" (.null)) (p13 : Fld Z h0 b1 cU "utilitySales" "[J" (.null)) (p14 : Fld Z h0 b1 cU "held" "[I" (.null)) (p15 : Fld Z h0 b1 cU "distMoney" "[J" (.null)) (p16 : Fld Z h0 b1 cU "distSales" "[J" (.null)) (p17 : Fld Z h0 b1 cU "hops" "[I" (.null)) (p18 : Fld Z h0 b1 cU "pred" "[I" (.null)) (p19 : Fld Z h0 b1 cU "predOffer" "[I" (.null)) (p20 : Fld Z h0 b1 cU "mark" "[B" (.null)) (p21 : Fld Z h0 b1 cU "heap" "[I" (.null)) (p22 : Fld Z h0 b1 cU "heapIndex" "[I" (.null)) (p23 : Fld Z h0 b1 cU "touched" "[I" (.null)) (p24 : Fld Z h0 b1 cU "changed" "[Z" (.null)) (p25 : Fld Z h0 b1 cU "changedItems" "[I" (.null)) :
    oMet l Z (⟨cU, "<init>", "(I[I[I[J)V"⟩ : MethodName) prog_54_method_1_code 6 none [] ({ frames := 1, cells := 17, slots := 37, locals := 15 } : Room) 17 37 n0 #[.ref b1, .int 2, .ref b2, .ref b3, .ref b4] h0 (fun v h => ∃ a12 : Addr, ∃ a17 : Addr, ∃ a22 : Addr, ∃ a31 : Addr, ∃ a36 : Addr, ∃ a41 : Addr, ∃ a50 : Addr, ∃ a55 : Addr, ∃ a60 : Addr, ∃ a65 : Addr, ∃ a70 : Addr, ∃ a75 : Addr, ∃ a80 : Addr, ∃ a85 : Addr, ∃ a90 : Addr, ∃ a95 : Addr, ∃ a100 : Addr, v = none ∧ oKe h0 h [] [(b1, Jvm.RoadKit.slotOf Z cU "displaced" "I"), (b1, Jvm.RoadKit.slotOf Z cU "offerStart" "[I"), (b1, Jvm.RoadKit.slotOf Z cU "offerItem" "[I"), (b1, Jvm.RoadKit.slotOf Z cU "offerWeight" "[J"), (b1, Jvm.RoadKit.slotOf Z cU "priceMoney" "[J"), (b1, Jvm.RoadKit.slotOf Z cU "priceSales" "[J"), (b1, Jvm.RoadKit.slotOf Z cU "holder" "[I"), (b1, Jvm.RoadKit.slotOf Z cU "utilityMoney" "[J"), (b1, Jvm.RoadKit.slotOf Z cU "utilitySales" "[J"), (b1, Jvm.RoadKit.slotOf Z cU "held" "[I"), (b1, Jvm.RoadKit.slotOf Z cU "distMoney" "[J"), (b1, Jvm.RoadKit.slotOf Z cU "distSales" "[J"), (b1, Jvm.RoadKit.slotOf Z cU "hops" "[I"), (b1, Jvm.RoadKit.slotOf Z cU "pred" "[I"), (b1, Jvm.RoadKit.slotOf Z cU "predOffer" "[I"), (b1, Jvm.RoadKit.slotOf Z cU "mark" "[B"), (b1, Jvm.RoadKit.slotOf Z cU "heap" "[I"), (b1, Jvm.RoadKit.slotOf Z cU "heapIndex" "[I"), (b1, Jvm.RoadKit.slotOf Z cU "touched" "[I"), (b1, Jvm.RoadKit.slotOf Z cU "changed" "[Z"), (b1, Jvm.RoadKit.slotOf Z cU "changedItems" "[I")] ∧ h0.size ≤ a12 ∧ a12 < a17 ∧ a17 < a22 ∧ a22 < a31 ∧ a31 < a36 ∧ a36 < a41 ∧ a41 < a50 ∧ a50 < a55 ∧ a55 < a60 ∧ a60 < a65 ∧ a65 < a70 ∧ a70 < a75 ∧ a75 < a80 ∧ a80 < a85 ∧ a85 < a90 ∧ a90 < a95 ∧ a95 < a100 ∧ Fld Z h b1 cU "displaced" "I" (.int (-1)) ∧ Fld Z h b1 cU "offerStart" "[I" (.ref b2) ∧ Fld Z h b1 cU "offerItem" "[I" (.ref b3) ∧ Fld Z h b1 cU "offerWeight" "[J" (.ref b4) ∧ oAr Z h a12 .long [.long 0, .long 0] ∧ Fld Z h b1 cU "priceMoney" "[J" (.ref a12) ∧ oAr Z h a17 .long [.long 0, .long 0] ∧ Fld Z h b1 cU "priceSales" "[J" (.ref a17) ∧ oAr Z h a22 .int [.int (-1), .int (-1)] ∧ Fld Z h b1 cU "holder" "[I" (.ref a22) ∧ oAr Z h a31 .long [.long 0, .long 0, .long 0] ∧ Fld Z h b1 cU "utilityMoney" "[J" (.ref a31) ∧ oAr Z h a36 .long [.long 0, .long 0, .long 0] ∧ Fld Z h b1 cU "utilitySales" "[J" (.ref a36) ∧ oAr Z h a41 .int [.int (-1), .int (-1), .int (-1)] ∧ Fld Z h b1 cU "held" "[I" (.ref a41) ∧ oAr Z h a50 .long [.long 0, .long 0] ∧ Fld Z h b1 cU "distMoney" "[J" (.ref a50) ∧ oAr Z h a55 .long [.long 0, .long 0] ∧ Fld Z h b1 cU "distSales" "[J" (.ref a55) ∧ oAr Z h a60 .int [.int 0, .int 0] ∧ Fld Z h b1 cU "hops" "[I" (.ref a60) ∧ oAr Z h a65 .int [.int 0, .int 0] ∧ Fld Z h b1 cU "pred" "[I" (.ref a65) ∧ oAr Z h a70 .int [.int 0, .int 0] ∧ Fld Z h b1 cU "predOffer" "[I" (.ref a70) ∧ oAr Z h a75 .byte [.int 0, .int 0] ∧ Fld Z h b1 cU "mark" "[B" (.ref a75) ∧ oAr Z h a80 .int [.int 0, .int 0] ∧ Fld Z h b1 cU "heap" "[I" (.ref a80) ∧ oAr Z h a85 .int [.int 0, .int 0] ∧ Fld Z h b1 cU "heapIndex" "[I" (.ref a85) ∧ oAr Z h a90 .int [.int 0, .int 0] ∧ Fld Z h b1 cU "touched" "[I" (.ref a90) ∧ oAr Z h a95 .boolean [.int 0, .int 0] ∧ Fld Z h b1 cU "changed" "[Z" (.ref a95) ∧ oAr Z h a100 .int [.int 0, .int 0] ∧ Fld Z h b1 cU "changedItems" "[I" (.ref a100)) := by
  refine oMet.intro (plainFor_of_name pn_944982) (fun m => ef_1 m b1 (2 : Int32) b2 b3 b4) ?_
  intro op oe os m obl omt ocd C
  refine oAloadN C d1_0 rfl rfl rfl ?_
  refine oInitO C (w9 hw) (w10 hw) (w11 hw) d1_1 rfl (W := 0) rfl rfl (by decide) (by decide) ?_
  refine oAloadN C d1_4 rfl rfl rfl ?_
  refine oIconst C d1_5 (z := (-1)) rfl rfl ?_
  refine oPutF C (w12 hw) Via.refl p2 p1 (Or.inl (w13 hw)) (w4 hw) (ty := .int) (by decide) rfl rfl d1_6 rfl p3 fun h1 W1 => ?_
  have f1w := Fld.same W1 p2
  refine oAloadN C d1_9 rfl rfl rfl ?_
  refine oAloadN C d1_10 rfl rfl rfl ?_
  have f2 := (Exa.wr W1 p1)
  have f3 := (Fld.other W1 p4 (Or.inr (oSn0 hw 1 0)))
  refine oPutF C (w14 hw) Via.refl f3 f2 (Or.inr ⟨(w15 hw), rfl, rfl⟩) (w4 hw) (ty := (.array .int)) (by decide) rfl rfl d1_11 rfl p3 fun h4 W4 => ?_
  have f4w := Fld.same W4 f3
  refine oAloadN C d1_14 rfl rfl rfl ?_
  refine oAloadN C d1_15 rfl rfl rfl ?_
  have f5 := (Exa.wr W4 f2)
  have f6 := (Fld.other W4 (Fld.other W1 p5 (Or.inr (oSn0 hw 2 0))) (Or.inr (oSn0 hw 2 1)))
  refine oPutF C (w16 hw) Via.refl f6 f5 (Or.inr ⟨(w17 hw), rfl, rfl⟩) (w4 hw) (ty := (.array .int)) (by decide) rfl rfl d1_16 rfl p3 fun h7 W7 => ?_
  have f7w := Fld.same W7 f6
  refine oAloadN C d1_19 rfl rfl rfl ?_
  refine oAload C d1_20 rfl rfl rfl ?_
  have f8 := (Exa.wr W7 f5)
  have f9 := (Fld.other W7 (Fld.other W4 (Fld.other W1 p6 (Or.inr (oSn0 hw 3 0))) (Or.inr (oSn0 hw 3 1))) (Or.inr (oSn0 hw 3 2)))
  refine oPutF C (w18 hw) Via.refl f9 f8 (Or.inr ⟨(w19 hw), rfl, rfl⟩) (w4 hw) (ty := (.array .long)) (by decide) rfl rfl d1_22 rfl p3 fun h10 W10 => ?_
  have f10w := Fld.same W10 f9
  refine oAloadN C d1_25 rfl rfl rfl ?_
  have f11 := ((((p7.other W1 p8).other W4 p8).other W7 p8).other W10 p8)
  refine oLen C f11 (z := (4 : Int32)) rfl d1_26 rfl ?_
  refine oIconst C d1_27 (z := 1) rfl rfl ?_
  refine oIsub C d1_28 rfl ?_
  refine oCastI (z' := (3 : Int32)) (by decide) ?_
  refine oIstore C d1_29 (Ls' := #[.val (.ref b1), .val (.int 2), .val (.ref b2), .val (.ref b3), .val (.ref b4), .val (.int 3)]) rfl (q := 31) rfl ?_
  refine oAloadN C d1_31 rfl rfl rfl ?_
  refine oIloadN C d1_32 rfl rfl ?_
  refine oNewA C (w2 hw) rfl d1_33 rfl (by decide) (k := 2) rfl (by decide) (by decide) (cap := 2) (Nat.le_refl _) (by decide) (by decide) fun a12 h12 g_a12 E12 A12 => ?_
  have z13 := (Nat.le_trans (Nat.le_trans (Nat.le_trans (Nat.le_trans Z0 (Nat.le_of_eq W1.size.symm)) (Nat.le_of_eq W4.size.symm)) (Nat.le_of_eq W7.size.symm)) (Nat.le_of_eq W10.size.symm))
  have ge_a12 : n0 ≤ a12 := g_a12 ▸ z13
  have A12l : oAr Z h12 a12 .long [.long 0, .long 0] := A12
  have f14 := (Exa.ext E12 (Exa.wr W10 f8))
  have f15 := (Fld.ext E12 (Fld.other W10 (Fld.other W7 (Fld.other W4 (Fld.other W1 p9 (Or.inr (oSn0 hw 4 0))) (Or.inr (oSn0 hw 4 1))) (Or.inr (oSn0 hw 4 2))) (Or.inr (oSn0 hw 4 3))))
  refine oPutF C (w20 hw) Via.refl f15 f14 (Or.inr ⟨(w21 hw), rfl, rfl⟩) (w4 hw) (ty := (.array .long)) (by decide) rfl rfl d1_35 rfl p3 fun h16 W16 => ?_
  have f16w := Fld.same W16 f15
  refine oAloadN C d1_38 rfl rfl rfl ?_
  refine oIloadN C d1_39 rfl rfl ?_
  refine oNewA C (w2 hw) rfl d1_40 rfl (by decide) (k := 2) rfl (by decide) (by decide) (cap := 2) (Nat.le_refl _) (by decide) (by decide) fun a17 h17 g_a17 E17 A17 => ?_
  have z18 := (Nat.le_trans (Nat.le_trans z13 E12.1) (Nat.le_of_eq W16.size.symm))
  have ge_a17 : n0 ≤ a17 := g_a17 ▸ z18
  have A17l : oAr Z h17 a17 .long [.long 0, .long 0] := A17
  have f19 := (Exa.ext E17 (Exa.wr W16 f14))
  have f20 := (Fld.ext E17 (Fld.other W16 (Fld.ext E12 (Fld.other W10 (Fld.other W7 (Fld.other W4 (Fld.other W1 p10 (Or.inr (oSn0 hw 5 0))) (Or.inr (oSn0 hw 5 1))) (Or.inr (oSn0 hw 5 2))) (Or.inr (oSn0 hw 5 3)))) (Or.inr (oSn0 hw 5 4))))
  refine oPutF C (w22 hw) Via.refl f20 f19 (Or.inr ⟨(w23 hw), rfl, rfl⟩) (w4 hw) (ty := (.array .long)) (by decide) rfl rfl d1_42 rfl p3 fun h21 W21 => ?_
  have f21w := Fld.same W21 f20
  refine oAloadN C d1_45 rfl rfl rfl ?_
  refine oIloadN C d1_46 rfl rfl ?_
  refine oNewA C (w1 hw) rfl d1_47 rfl (by decide) (k := 2) rfl (by decide) (by decide) (cap := 2) (Nat.le_refl _) (by decide) (by decide) fun a22 h22 g_a22 E22 A22 => ?_
  have z23 := (Nat.le_trans (Nat.le_trans z18 E17.1) (Nat.le_of_eq W21.size.symm))
  have ge_a22 : n0 ≤ a22 := g_a22 ▸ z23
  have A22l : oAr Z h22 a22 .int [.int 0, .int 0] := A22
  have f24 := (Exa.ext E22 (Exa.wr W21 f19))
  have f25 := (Fld.ext E22 (Fld.other W21 (Fld.ext E17 (Fld.other W16 (Fld.ext E12 (Fld.other W10 (Fld.other W7 (Fld.other W4 (Fld.other W1 p11 (Or.inr (oSn0 hw 6 0))) (Or.inr (oSn0 hw 6 1))) (Or.inr (oSn0 hw 6 2))) (Or.inr (oSn0 hw 6 3)))) (Or.inr (oSn0 hw 6 4)))) (Or.inr (oSn0 hw 6 5))))
  refine oPutF C (w24 hw) Via.refl f25 f24 (Or.inr ⟨(w25 hw), rfl, rfl⟩) (w4 hw) (ty := (.array .int)) (by decide) rfl rfl d1_49 rfl p3 fun h26 W26 => ?_
  have f26w := Fld.same W26 f25
  refine oAloadN C d1_52 rfl rfl rfl ?_
  refine oGetF C (w24 hw) Via.refl f26w d1_53 rfl ?_
  refine oIconst C d1_56 (z := (-1)) rfl rfl ?_
  have ne27 : b1 ≠ a22 := oNe' f21w.lt (Nat.le_of_eq g_a22.symm)
  have f28 := (A22l.other W26 (Ne.symm ne27))
  have z30 := (Nat.le_trans (Nat.le_trans z23 E22.1) (Nat.le_of_eq W26.size.symm))
  refine oCallS C (w26 hw) (w27 hw) (w28 hw) (w29 hw) d1_57 (by decide) pd_615396 rfl rfl (argsL := [.ref a22, .int (-1)]) (rest := []) rfl (W := 0) rfl (q := 60) rfl (by decide) (by decide) (by decide) (by decide) (ac3_0 l Z a0 hw _ n0 z30 a22 f28 ge_a22) (oVQ ?_)
  rintro h29 ⟨K29, f29_0⟩
  refine oAloadN C d1_60 rfl rfl rfl ?_
  refine oIload C d1_61 rfl rfl ?_
  refine oNewA C (w2 hw) rfl d1_63 rfl (by decide) (k := 3) rfl (by decide) (by decide) (cap := 3) (Nat.le_refl _) (by decide) (by decide) fun a31 h31 g_a31 E31 A31 => ?_
  have z32 := (Nat.le_trans z30 K29.1)
  have ge_a31 : n0 ≤ a31 := g_a31 ▸ z32
  have A31l : oAr Z h31 a31 .long [.long 0, .long 0, .long 0] := A31
  have f33 := (Exa.ext E31 (K29.exa (Exa.wr W26 f24)))
  have f34 := (Fld.ext E31 (K29.fld (Fld.other W26 (Fld.ext E22 (Fld.other W21 (Fld.ext E17 (Fld.other W16 (Fld.ext E12 (Fld.other W10 (Fld.other W7 (Fld.other W4 (Fld.other W1 p12 (Or.inr (oSn0 hw 7 0))) (Or.inr (oSn0 hw 7 1))) (Or.inr (oSn0 hw 7 2))) (Or.inr (oSn0 hw 7 3)))) (Or.inr (oSn0 hw 7 4)))) (Or.inr (oSn0 hw 7 5)))) (Or.inr (oSn0 hw 7 6))) (ninS ne27 nin0) oN0))
  refine oPutF C (w30 hw) Via.refl f34 f33 (Or.inr ⟨(w31 hw), rfl, rfl⟩) (w4 hw) (ty := (.array .long)) (by decide) rfl rfl d1_65 rfl p3 fun h35 W35 => ?_
  have f35w := Fld.same W35 f34
  refine oAloadN C d1_68 rfl rfl rfl ?_
  refine oIload C d1_69 rfl rfl ?_
  refine oNewA C (w2 hw) rfl d1_71 rfl (by decide) (k := 3) rfl (by decide) (by decide) (cap := 3) (Nat.le_refl _) (by decide) (by decide) fun a36 h36 g_a36 E36 A36 => ?_
  have z37 := (Nat.le_trans (Nat.le_trans z32 E31.1) (Nat.le_of_eq W35.size.symm))
  have ge_a36 : n0 ≤ a36 := g_a36 ▸ z37
  have A36l : oAr Z h36 a36 .long [.long 0, .long 0, .long 0] := A36
  have f38 := (Exa.ext E36 (Exa.wr W35 f33))
  have f39 := (Fld.ext E36 (Fld.other W35 (Fld.ext E31 (K29.fld (Fld.other W26 (Fld.ext E22 (Fld.other W21 (Fld.ext E17 (Fld.other W16 (Fld.ext E12 (Fld.other W10 (Fld.other W7 (Fld.other W4 (Fld.other W1 p13 (Or.inr (oSn0 hw 8 0))) (Or.inr (oSn0 hw 8 1))) (Or.inr (oSn0 hw 8 2))) (Or.inr (oSn0 hw 8 3)))) (Or.inr (oSn0 hw 8 4)))) (Or.inr (oSn0 hw 8 5)))) (Or.inr (oSn0 hw 8 6))) (ninS ne27 nin0) oN0)) (Or.inr (oSn0 hw 8 7))))
  refine oPutF C (w32 hw) Via.refl f39 f38 (Or.inr ⟨(w33 hw), rfl, rfl⟩) (w4 hw) (ty := (.array .long)) (by decide) rfl rfl d1_73 rfl p3 fun h40 W40 => ?_
  have f40w := Fld.same W40 f39
  refine oAloadN C d1_76 rfl rfl rfl ?_
  refine oIload C d1_77 rfl rfl ?_
  refine oNewA C (w1 hw) rfl d1_79 rfl (by decide) (k := 3) rfl (by decide) (by decide) (cap := 3) (Nat.le_refl _) (by decide) (by decide) fun a41 h41 g_a41 E41 A41 => ?_
  have z42 := (Nat.le_trans (Nat.le_trans z37 E36.1) (Nat.le_of_eq W40.size.symm))
  have ge_a41 : n0 ≤ a41 := g_a41 ▸ z42
  have A41l : oAr Z h41 a41 .int [.int 0, .int 0, .int 0] := A41
  have f43 := (Exa.ext E41 (Exa.wr W40 f38))
  have f44 := (Fld.ext E41 (Fld.other W40 (Fld.ext E36 (Fld.other W35 (Fld.ext E31 (K29.fld (Fld.other W26 (Fld.ext E22 (Fld.other W21 (Fld.ext E17 (Fld.other W16 (Fld.ext E12 (Fld.other W10 (Fld.other W7 (Fld.other W4 (Fld.other W1 p14 (Or.inr (oSn0 hw 9 0))) (Or.inr (oSn0 hw 9 1))) (Or.inr (oSn0 hw 9 2))) (Or.inr (oSn0 hw 9 3)))) (Or.inr (oSn0 hw 9 4)))) (Or.inr (oSn0 hw 9 5)))) (Or.inr (oSn0 hw 9 6))) (ninS ne27 nin0) oN0)) (Or.inr (oSn0 hw 9 7)))) (Or.inr (oSn0 hw 9 8))))
  refine oPutF C (w34 hw) Via.refl f44 f43 (Or.inr ⟨(w35 hw), rfl, rfl⟩) (w4 hw) (ty := (.array .int)) (by decide) rfl rfl d1_81 rfl p3 fun h45 W45 => ?_
  have f45w := Fld.same W45 f44
  refine oAloadN C d1_84 rfl rfl rfl ?_
  refine oGetF C (w34 hw) Via.refl f45w d1_85 rfl ?_
  refine oIconst C d1_88 (z := (-1)) rfl rfl ?_
  have ne46 : b1 ≠ a41 := oNe' f40w.lt (Nat.le_of_eq g_a41.symm)
  have f47 := (A41l.other W45 (Ne.symm ne46))
  have z49 := (Nat.le_trans (Nat.le_trans z42 E41.1) (Nat.le_of_eq W45.size.symm))
  refine oCallS C (w26 hw) (w27 hw) (w28 hw) (w29 hw) d1_89 (by decide) pd_615396 rfl rfl (argsL := [.ref a41, .int (-1)]) (rest := []) rfl (W := 0) rfl (q := 92) rfl (by decide) (by decide) (by decide) (by decide) (ac3_1 l Z a0 hw _ n0 z49 a41 f47 ge_a41) (oVQ ?_)
  rintro h48 ⟨K48, f48_0⟩
  refine oAloadN C d1_92 rfl rfl rfl ?_
  refine oIloadN C d1_93 rfl rfl ?_
  refine oNewA C (w2 hw) rfl d1_94 rfl (by decide) (k := 2) rfl (by decide) (by decide) (cap := 2) (Nat.le_refl _) (by decide) (by decide) fun a50 h50 g_a50 E50 A50 => ?_
  have z51 := (Nat.le_trans z49 K48.1)
  have ge_a50 : n0 ≤ a50 := g_a50 ▸ z51
  have A50l : oAr Z h50 a50 .long [.long 0, .long 0] := A50
  have f52 := (Exa.ext E50 (K48.exa (Exa.wr W45 f43)))
  have f53 := (Fld.ext E50 (K48.fld (Fld.other W45 (Fld.ext E41 (Fld.other W40 (Fld.ext E36 (Fld.other W35 (Fld.ext E31 (K29.fld (Fld.other W26 (Fld.ext E22 (Fld.other W21 (Fld.ext E17 (Fld.other W16 (Fld.ext E12 (Fld.other W10 (Fld.other W7 (Fld.other W4 (Fld.other W1 p15 (Or.inr (oSn0 hw 10 0))) (Or.inr (oSn0 hw 10 1))) (Or.inr (oSn0 hw 10 2))) (Or.inr (oSn0 hw 10 3)))) (Or.inr (oSn0 hw 10 4)))) (Or.inr (oSn0 hw 10 5)))) (Or.inr (oSn0 hw 10 6))) (ninS ne27 nin0) oN0)) (Or.inr (oSn0 hw 10 7)))) (Or.inr (oSn0 hw 10 8)))) (Or.inr (oSn0 hw 10 9))) (ninS ne46 nin0) oN0))
  refine oPutF C (w36 hw) Via.refl f53 f52 (Or.inr ⟨(w37 hw), rfl, rfl⟩) (w4 hw) (ty := (.array .long)) (by decide) rfl rfl d1_96 rfl p3 fun h54 W54 => ?_
  have f54w := Fld.same W54 f53
  refine oAloadN C d1_99 rfl rfl rfl ?_
  refine oIloadN C d1_100 rfl rfl ?_
  refine oNewA C (w2 hw) rfl d1_101 rfl (by decide) (k := 2) rfl (by decide) (by decide) (cap := 2) (Nat.le_refl _) (by decide) (by decide) fun a55 h55 g_a55 E55 A55 => ?_
  have z56 := (Nat.le_trans (Nat.le_trans z51 E50.1) (Nat.le_of_eq W54.size.symm))
  have ge_a55 : n0 ≤ a55 := g_a55 ▸ z56
  have A55l : oAr Z h55 a55 .long [.long 0, .long 0] := A55
  have f57 := (Exa.ext E55 (Exa.wr W54 f52))
  have f58 := (Fld.ext E55 (Fld.other W54 (Fld.ext E50 (K48.fld (Fld.other W45 (Fld.ext E41 (Fld.other W40 (Fld.ext E36 (Fld.other W35 (Fld.ext E31 (K29.fld (Fld.other W26 (Fld.ext E22 (Fld.other W21 (Fld.ext E17 (Fld.other W16 (Fld.ext E12 (Fld.other W10 (Fld.other W7 (Fld.other W4 (Fld.other W1 p16 (Or.inr (oSn0 hw 11 0))) (Or.inr (oSn0 hw 11 1))) (Or.inr (oSn0 hw 11 2))) (Or.inr (oSn0 hw 11 3)))) (Or.inr (oSn0 hw 11 4)))) (Or.inr (oSn0 hw 11 5)))) (Or.inr (oSn0 hw 11 6))) (ninS ne27 nin0) oN0)) (Or.inr (oSn0 hw 11 7)))) (Or.inr (oSn0 hw 11 8)))) (Or.inr (oSn0 hw 11 9))) (ninS ne46 nin0) oN0)) (Or.inr (oSn0 hw 11 10))))
  refine oPutF C (w38 hw) Via.refl f58 f57 (Or.inr ⟨(w39 hw), rfl, rfl⟩) (w4 hw) (ty := (.array .long)) (by decide) rfl rfl d1_103 rfl p3 fun h59 W59 => ?_
  have f59w := Fld.same W59 f58
  refine oAloadN C d1_106 rfl rfl rfl ?_
  refine oIloadN C d1_107 rfl rfl ?_
  refine oNewA C (w1 hw) rfl d1_108 rfl (by decide) (k := 2) rfl (by decide) (by decide) (cap := 2) (Nat.le_refl _) (by decide) (by decide) fun a60 h60 g_a60 E60 A60 => ?_
  have z61 := (Nat.le_trans (Nat.le_trans z56 E55.1) (Nat.le_of_eq W59.size.symm))
  have ge_a60 : n0 ≤ a60 := g_a60 ▸ z61
  have A60l : oAr Z h60 a60 .int [.int 0, .int 0] := A60
  have f62 := (Exa.ext E60 (Exa.wr W59 f57))
  have f63 := (Fld.ext E60 (Fld.other W59 (Fld.ext E55 (Fld.other W54 (Fld.ext E50 (K48.fld (Fld.other W45 (Fld.ext E41 (Fld.other W40 (Fld.ext E36 (Fld.other W35 (Fld.ext E31 (K29.fld (Fld.other W26 (Fld.ext E22 (Fld.other W21 (Fld.ext E17 (Fld.other W16 (Fld.ext E12 (Fld.other W10 (Fld.other W7 (Fld.other W4 (Fld.other W1 p17 (Or.inr (oSn0 hw 12 0))) (Or.inr (oSn0 hw 12 1))) (Or.inr (oSn0 hw 12 2))) (Or.inr (oSn0 hw 12 3)))) (Or.inr (oSn0 hw 12 4)))) (Or.inr (oSn0 hw 12 5)))) (Or.inr (oSn0 hw 12 6))) (ninS ne27 nin0) oN0)) (Or.inr (oSn0 hw 12 7)))) (Or.inr (oSn0 hw 12 8)))) (Or.inr (oSn0 hw 12 9))) (ninS ne46 nin0) oN0)) (Or.inr (oSn0 hw 12 10)))) (Or.inr (oSn0 hw 12 11))))
  refine oPutF C (w40 hw) Via.refl f63 f62 (Or.inr ⟨(w41 hw), rfl, rfl⟩) (w4 hw) (ty := (.array .int)) (by decide) rfl rfl d1_110 rfl p3 fun h64 W64 => ?_
  have f64w := Fld.same W64 f63
  refine oAloadN C d1_113 rfl rfl rfl ?_
  refine oIloadN C d1_114 rfl rfl ?_
  refine oNewA C (w1 hw) rfl d1_115 rfl (by decide) (k := 2) rfl (by decide) (by decide) (cap := 2) (Nat.le_refl _) (by decide) (by decide) fun a65 h65 g_a65 E65 A65 => ?_
  have z66 := (Nat.le_trans (Nat.le_trans z61 E60.1) (Nat.le_of_eq W64.size.symm))
  have ge_a65 : n0 ≤ a65 := g_a65 ▸ z66
  have A65l : oAr Z h65 a65 .int [.int 0, .int 0] := A65
  have f67 := (Exa.ext E65 (Exa.wr W64 f62))
  have f68 := (Fld.ext E65 (Fld.other W64 (Fld.ext E60 (Fld.other W59 (Fld.ext E55 (Fld.other W54 (Fld.ext E50 (K48.fld (Fld.other W45 (Fld.ext E41 (Fld.other W40 (Fld.ext E36 (Fld.other W35 (Fld.ext E31 (K29.fld (Fld.other W26 (Fld.ext E22 (Fld.other W21 (Fld.ext E17 (Fld.other W16 (Fld.ext E12 (Fld.other W10 (Fld.other W7 (Fld.other W4 (Fld.other W1 p18 (Or.inr (oSn0 hw 13 0))) (Or.inr (oSn0 hw 13 1))) (Or.inr (oSn0 hw 13 2))) (Or.inr (oSn0 hw 13 3)))) (Or.inr (oSn0 hw 13 4)))) (Or.inr (oSn0 hw 13 5)))) (Or.inr (oSn0 hw 13 6))) (ninS ne27 nin0) oN0)) (Or.inr (oSn0 hw 13 7)))) (Or.inr (oSn0 hw 13 8)))) (Or.inr (oSn0 hw 13 9))) (ninS ne46 nin0) oN0)) (Or.inr (oSn0 hw 13 10)))) (Or.inr (oSn0 hw 13 11)))) (Or.inr (oSn0 hw 13 12))))
  refine oPutF C (w42 hw) Via.refl f68 f67 (Or.inr ⟨(w43 hw), rfl, rfl⟩) (w4 hw) (ty := (.array .int)) (by decide) rfl rfl d1_117 rfl p3 fun h69 W69 => ?_
  have f69w := Fld.same W69 f68
  refine oAloadN C d1_120 rfl rfl rfl ?_
  refine oIloadN C d1_121 rfl rfl ?_
  refine oNewA C (w1 hw) rfl d1_122 rfl (by decide) (k := 2) rfl (by decide) (by decide) (cap := 2) (Nat.le_refl _) (by decide) (by decide) fun a70 h70 g_a70 E70 A70 => ?_
  have z71 := (Nat.le_trans (Nat.le_trans z66 E65.1) (Nat.le_of_eq W69.size.symm))
  have ge_a70 : n0 ≤ a70 := g_a70 ▸ z71
  have A70l : oAr Z h70 a70 .int [.int 0, .int 0] := A70
  have f72 := (Exa.ext E70 (Exa.wr W69 f67))
  have f73 := (Fld.ext E70 (Fld.other W69 (Fld.ext E65 (Fld.other W64 (Fld.ext E60 (Fld.other W59 (Fld.ext E55 (Fld.other W54 (Fld.ext E50 (K48.fld (Fld.other W45 (Fld.ext E41 (Fld.other W40 (Fld.ext E36 (Fld.other W35 (Fld.ext E31 (K29.fld (Fld.other W26 (Fld.ext E22 (Fld.other W21 (Fld.ext E17 (Fld.other W16 (Fld.ext E12 (Fld.other W10 (Fld.other W7 (Fld.other W4 (Fld.other W1 p19 (Or.inr (oSn0 hw 14 0))) (Or.inr (oSn0 hw 14 1))) (Or.inr (oSn0 hw 14 2))) (Or.inr (oSn0 hw 14 3)))) (Or.inr (oSn0 hw 14 4)))) (Or.inr (oSn0 hw 14 5)))) (Or.inr (oSn0 hw 14 6))) (ninS ne27 nin0) oN0)) (Or.inr (oSn0 hw 14 7)))) (Or.inr (oSn0 hw 14 8)))) (Or.inr (oSn0 hw 14 9))) (ninS ne46 nin0) oN0)) (Or.inr (oSn0 hw 14 10)))) (Or.inr (oSn0 hw 14 11)))) (Or.inr (oSn0 hw 14 12)))) (Or.inr (oSn0 hw 14 13))))
  refine oPutF C (w44 hw) Via.refl f73 f72 (Or.inr ⟨(w45 hw), rfl, rfl⟩) (w4 hw) (ty := (.array .int)) (by decide) rfl rfl d1_124 rfl p3 fun h74 W74 => ?_
  have f74w := Fld.same W74 f73
  refine oAloadN C d1_127 rfl rfl rfl ?_
  refine oIloadN C d1_128 rfl rfl ?_
  refine oNewA C (w46 hw) rfl d1_129 rfl (by decide) (k := 2) rfl (by decide) (by decide) (cap := 2) (Nat.le_refl _) (by decide) (by decide) fun a75 h75 g_a75 E75 A75 => ?_
  have z76 := (Nat.le_trans (Nat.le_trans z71 E70.1) (Nat.le_of_eq W74.size.symm))
  have ge_a75 : n0 ≤ a75 := g_a75 ▸ z76
  have A75l : oAr Z h75 a75 .byte [.int 0, .int 0] := A75
  have f77 := (Exa.ext E75 (Exa.wr W74 f72))
  have f78 := (Fld.ext E75 (Fld.other W74 (Fld.ext E70 (Fld.other W69 (Fld.ext E65 (Fld.other W64 (Fld.ext E60 (Fld.other W59 (Fld.ext E55 (Fld.other W54 (Fld.ext E50 (K48.fld (Fld.other W45 (Fld.ext E41 (Fld.other W40 (Fld.ext E36 (Fld.other W35 (Fld.ext E31 (K29.fld (Fld.other W26 (Fld.ext E22 (Fld.other W21 (Fld.ext E17 (Fld.other W16 (Fld.ext E12 (Fld.other W10 (Fld.other W7 (Fld.other W4 (Fld.other W1 p20 (Or.inr (oSn0 hw 15 0))) (Or.inr (oSn0 hw 15 1))) (Or.inr (oSn0 hw 15 2))) (Or.inr (oSn0 hw 15 3)))) (Or.inr (oSn0 hw 15 4)))) (Or.inr (oSn0 hw 15 5)))) (Or.inr (oSn0 hw 15 6))) (ninS ne27 nin0) oN0)) (Or.inr (oSn0 hw 15 7)))) (Or.inr (oSn0 hw 15 8)))) (Or.inr (oSn0 hw 15 9))) (ninS ne46 nin0) oN0)) (Or.inr (oSn0 hw 15 10)))) (Or.inr (oSn0 hw 15 11)))) (Or.inr (oSn0 hw 15 12)))) (Or.inr (oSn0 hw 15 13)))) (Or.inr (oSn0 hw 15 14))))
  refine oPutF C (w47 hw) Via.refl f78 f77 (Or.inr ⟨(w48 hw), rfl, rfl⟩) (w4 hw) (ty := (.array .byte)) (by decide) rfl rfl d1_131 rfl p3 fun h79 W79 => ?_
  have f79w := Fld.same W79 f78
  refine oAloadN C d1_134 rfl rfl rfl ?_
  refine oIloadN C d1_135 rfl rfl ?_
  refine oNewA C (w1 hw) rfl d1_136 rfl (by decide) (k := 2) rfl (by decide) (by decide) (cap := 2) (Nat.le_refl _) (by decide) (by decide) fun a80 h80 g_a80 E80 A80 => ?_
  have z81 := (Nat.le_trans (Nat.le_trans z76 E75.1) (Nat.le_of_eq W79.size.symm))
  have ge_a80 : n0 ≤ a80 := g_a80 ▸ z81
  have A80l : oAr Z h80 a80 .int [.int 0, .int 0] := A80
  have f82 := (Exa.ext E80 (Exa.wr W79 f77))
  have f83 := (Fld.ext E80 (Fld.other W79 (Fld.ext E75 (Fld.other W74 (Fld.ext E70 (Fld.other W69 (Fld.ext E65 (Fld.other W64 (Fld.ext E60 (Fld.other W59 (Fld.ext E55 (Fld.other W54 (Fld.ext E50 (K48.fld (Fld.other W45 (Fld.ext E41 (Fld.other W40 (Fld.ext E36 (Fld.other W35 (Fld.ext E31 (K29.fld (Fld.other W26 (Fld.ext E22 (Fld.other W21 (Fld.ext E17 (Fld.other W16 (Fld.ext E12 (Fld.other W10 (Fld.other W7 (Fld.other W4 (Fld.other W1 p21 (Or.inr (oSn0 hw 16 0))) (Or.inr (oSn0 hw 16 1))) (Or.inr (oSn0 hw 16 2))) (Or.inr (oSn0 hw 16 3)))) (Or.inr (oSn0 hw 16 4)))) (Or.inr (oSn0 hw 16 5)))) (Or.inr (oSn0 hw 16 6))) (ninS ne27 nin0) oN0)) (Or.inr (oSn0 hw 16 7)))) (Or.inr (oSn0 hw 16 8)))) (Or.inr (oSn0 hw 16 9))) (ninS ne46 nin0) oN0)) (Or.inr (oSn0 hw 16 10)))) (Or.inr (oSn0 hw 16 11)))) (Or.inr (oSn0 hw 16 12)))) (Or.inr (oSn0 hw 16 13)))) (Or.inr (oSn0 hw 16 14)))) (Or.inr (oSn0 hw 16 15))))
  refine oPutF C (w49 hw) Via.refl f83 f82 (Or.inr ⟨(w50 hw), rfl, rfl⟩) (w4 hw) (ty := (.array .int)) (by decide) rfl rfl d1_138 rfl p3 fun h84 W84 => ?_
  have f84w := Fld.same W84 f83
  refine oAloadN C d1_141 rfl rfl rfl ?_
  refine oIloadN C d1_142 rfl rfl ?_
  refine oNewA C (w1 hw) rfl d1_143 rfl (by decide) (k := 2) rfl (by decide) (by decide) (cap := 2) (Nat.le_refl _) (by decide) (by decide) fun a85 h85 g_a85 E85 A85 => ?_
  have z86 := (Nat.le_trans (Nat.le_trans z81 E80.1) (Nat.le_of_eq W84.size.symm))
  have ge_a85 : n0 ≤ a85 := g_a85 ▸ z86
  have A85l : oAr Z h85 a85 .int [.int 0, .int 0] := A85
  have f87 := (Exa.ext E85 (Exa.wr W84 f82))
  have f88 := (Fld.ext E85 (Fld.other W84 (Fld.ext E80 (Fld.other W79 (Fld.ext E75 (Fld.other W74 (Fld.ext E70 (Fld.other W69 (Fld.ext E65 (Fld.other W64 (Fld.ext E60 (Fld.other W59 (Fld.ext E55 (Fld.other W54 (Fld.ext E50 (K48.fld (Fld.other W45 (Fld.ext E41 (Fld.other W40 (Fld.ext E36 (Fld.other W35 (Fld.ext E31 (K29.fld (Fld.other W26 (Fld.ext E22 (Fld.other W21 (Fld.ext E17 (Fld.other W16 (Fld.ext E12 (Fld.other W10 (Fld.other W7 (Fld.other W4 (Fld.other W1 p22 (Or.inr (oSn0 hw 17 0))) (Or.inr (oSn0 hw 17 1))) (Or.inr (oSn0 hw 17 2))) (Or.inr (oSn0 hw 17 3)))) (Or.inr (oSn0 hw 17 4)))) (Or.inr (oSn0 hw 17 5)))) (Or.inr (oSn0 hw 17 6))) (ninS ne27 nin0) oN0)) (Or.inr (oSn0 hw 17 7)))) (Or.inr (oSn0 hw 17 8)))) (Or.inr (oSn0 hw 17 9))) (ninS ne46 nin0) oN0)) (Or.inr (oSn0 hw 17 10)))) (Or.inr (oSn0 hw 17 11)))) (Or.inr (oSn0 hw 17 12)))) (Or.inr (oSn0 hw 17 13)))) (Or.inr (oSn0 hw 17 14)))) (Or.inr (oSn0 hw 17 15)))) (Or.inr (oSn0 hw 17 16))))
  refine oPutF C (w51 hw) Via.refl f88 f87 (Or.inr ⟨(w52 hw), rfl, rfl⟩) (w4 hw) (ty := (.array .int)) (by decide) rfl rfl d1_145 rfl p3 fun h89 W89 => ?_
  have f89w := Fld.same W89 f88
  refine oAloadN C d1_148 rfl rfl rfl ?_
  refine oIloadN C d1_149 rfl rfl ?_
  refine oNewA C (w1 hw) rfl d1_150 rfl (by decide) (k := 2) rfl (by decide) (by decide) (cap := 2) (Nat.le_refl _) (by decide) (by decide) fun a90 h90 g_a90 E90 A90 => ?_
  have z91 := (Nat.le_trans (Nat.le_trans z86 E85.1) (Nat.le_of_eq W89.size.symm))
  have ge_a90 : n0 ≤ a90 := g_a90 ▸ z91
  have A90l : oAr Z h90 a90 .int [.int 0, .int 0] := A90
  have f92 := (Exa.ext E90 (Exa.wr W89 f87))
  have f93 := (Fld.ext E90 (Fld.other W89 (Fld.ext E85 (Fld.other W84 (Fld.ext E80 (Fld.other W79 (Fld.ext E75 (Fld.other W74 (Fld.ext E70 (Fld.other W69 (Fld.ext E65 (Fld.other W64 (Fld.ext E60 (Fld.other W59 (Fld.ext E55 (Fld.other W54 (Fld.ext E50 (K48.fld (Fld.other W45 (Fld.ext E41 (Fld.other W40 (Fld.ext E36 (Fld.other W35 (Fld.ext E31 (K29.fld (Fld.other W26 (Fld.ext E22 (Fld.other W21 (Fld.ext E17 (Fld.other W16 (Fld.ext E12 (Fld.other W10 (Fld.other W7 (Fld.other W4 (Fld.other W1 p23 (Or.inr (oSn0 hw 18 0))) (Or.inr (oSn0 hw 18 1))) (Or.inr (oSn0 hw 18 2))) (Or.inr (oSn0 hw 18 3)))) (Or.inr (oSn0 hw 18 4)))) (Or.inr (oSn0 hw 18 5)))) (Or.inr (oSn0 hw 18 6))) (ninS ne27 nin0) oN0)) (Or.inr (oSn0 hw 18 7)))) (Or.inr (oSn0 hw 18 8)))) (Or.inr (oSn0 hw 18 9))) (ninS ne46 nin0) oN0)) (Or.inr (oSn0 hw 18 10)))) (Or.inr (oSn0 hw 18 11)))) (Or.inr (oSn0 hw 18 12)))) (Or.inr (oSn0 hw 18 13)))) (Or.inr (oSn0 hw 18 14)))) (Or.inr (oSn0 hw 18 15)))) (Or.inr (oSn0 hw 18 16)))) (Or.inr (oSn0 hw 18 17))))
  refine oPutF C (w53 hw) Via.refl f93 f92 (Or.inr ⟨(w54 hw), rfl, rfl⟩) (w4 hw) (ty := (.array .int)) (by decide) rfl rfl d1_152 rfl p3 fun h94 W94 => ?_
  have f94w := Fld.same W94 f93
  refine oAloadN C d1_155 rfl rfl rfl ?_
  refine oIloadN C d1_156 rfl rfl ?_
  refine oNewA C (w55 hw) rfl d1_157 rfl (by decide) (k := 2) rfl (by decide) (by decide) (cap := 2) (Nat.le_refl _) (by decide) (by decide) fun a95 h95 g_a95 E95 A95 => ?_
  have z96 := (Nat.le_trans (Nat.le_trans z91 E90.1) (Nat.le_of_eq W94.size.symm))
  have ge_a95 : n0 ≤ a95 := g_a95 ▸ z96
  have A95l : oAr Z h95 a95 .boolean [.int 0, .int 0] := A95
  have f97 := (Exa.ext E95 (Exa.wr W94 f92))
  have f98 := (Fld.ext E95 (Fld.other W94 (Fld.ext E90 (Fld.other W89 (Fld.ext E85 (Fld.other W84 (Fld.ext E80 (Fld.other W79 (Fld.ext E75 (Fld.other W74 (Fld.ext E70 (Fld.other W69 (Fld.ext E65 (Fld.other W64 (Fld.ext E60 (Fld.other W59 (Fld.ext E55 (Fld.other W54 (Fld.ext E50 (K48.fld (Fld.other W45 (Fld.ext E41 (Fld.other W40 (Fld.ext E36 (Fld.other W35 (Fld.ext E31 (K29.fld (Fld.other W26 (Fld.ext E22 (Fld.other W21 (Fld.ext E17 (Fld.other W16 (Fld.ext E12 (Fld.other W10 (Fld.other W7 (Fld.other W4 (Fld.other W1 p24 (Or.inr (oSn0 hw 19 0))) (Or.inr (oSn0 hw 19 1))) (Or.inr (oSn0 hw 19 2))) (Or.inr (oSn0 hw 19 3)))) (Or.inr (oSn0 hw 19 4)))) (Or.inr (oSn0 hw 19 5)))) (Or.inr (oSn0 hw 19 6))) (ninS ne27 nin0) oN0)) (Or.inr (oSn0 hw 19 7)))) (Or.inr (oSn0 hw 19 8)))) (Or.inr (oSn0 hw 19 9))) (ninS ne46 nin0) oN0)) (Or.inr (oSn0 hw 19 10)))) (Or.inr (oSn0 hw 19 11)))) (Or.inr (oSn0 hw 19 12)))) (Or.inr (oSn0 hw 19 13)))) (Or.inr (oSn0 hw 19 14)))) (Or.inr (oSn0 hw 19 15)))) (Or.inr (oSn0 hw 19 16)))) (Or.inr (oSn0 hw 19 17)))) (Or.inr (oSn0 hw 19 18))))
  refine oPutF C (w56 hw) Via.refl f98 f97 (Or.inr ⟨(w57 hw), rfl, rfl⟩) (w4 hw) (ty := (.array .boolean)) (by decide) rfl rfl d1_159 rfl p3 fun h99 W99 => ?_
  have f99w := Fld.same W99 f98
  refine oAloadN C d1_162 rfl rfl rfl ?_
  refine oIloadN C d1_163 rfl rfl ?_
  refine oNewA C (w1 hw) rfl d1_164 rfl (by decide) (k := 2) rfl (by decide) (by decide) (cap := 2) (Nat.le_refl _) (by decide) (by decide) fun a100 h100 g_a100 E100 A100 => ?_
  have z101 := (Nat.le_trans (Nat.le_trans z96 E95.1) (Nat.le_of_eq W99.size.symm))
  have ge_a100 : n0 ≤ a100 := g_a100 ▸ z101
  have A100l : oAr Z h100 a100 .int [.int 0, .int 0] := A100
  have f102 := (Exa.ext E100 (Exa.wr W99 f97))
  have f103 := (Fld.ext E100 (Fld.other W99 (Fld.ext E95 (Fld.other W94 (Fld.ext E90 (Fld.other W89 (Fld.ext E85 (Fld.other W84 (Fld.ext E80 (Fld.other W79 (Fld.ext E75 (Fld.other W74 (Fld.ext E70 (Fld.other W69 (Fld.ext E65 (Fld.other W64 (Fld.ext E60 (Fld.other W59 (Fld.ext E55 (Fld.other W54 (Fld.ext E50 (K48.fld (Fld.other W45 (Fld.ext E41 (Fld.other W40 (Fld.ext E36 (Fld.other W35 (Fld.ext E31 (K29.fld (Fld.other W26 (Fld.ext E22 (Fld.other W21 (Fld.ext E17 (Fld.other W16 (Fld.ext E12 (Fld.other W10 (Fld.other W7 (Fld.other W4 (Fld.other W1 p25 (Or.inr (oSn0 hw 20 0))) (Or.inr (oSn0 hw 20 1))) (Or.inr (oSn0 hw 20 2))) (Or.inr (oSn0 hw 20 3)))) (Or.inr (oSn0 hw 20 4)))) (Or.inr (oSn0 hw 20 5)))) (Or.inr (oSn0 hw 20 6))) (ninS ne27 nin0) oN0)) (Or.inr (oSn0 hw 20 7)))) (Or.inr (oSn0 hw 20 8)))) (Or.inr (oSn0 hw 20 9))) (ninS ne46 nin0) oN0)) (Or.inr (oSn0 hw 20 10)))) (Or.inr (oSn0 hw 20 11)))) (Or.inr (oSn0 hw 20 12)))) (Or.inr (oSn0 hw 20 13)))) (Or.inr (oSn0 hw 20 14)))) (Or.inr (oSn0 hw 20 15)))) (Or.inr (oSn0 hw 20 16)))) (Or.inr (oSn0 hw 20 17)))) (Or.inr (oSn0 hw 20 18)))) (Or.inr (oSn0 hw 20 19))))
  refine oPutF C (w58 hw) Via.refl f103 f102 (Or.inr ⟨(w59 hw), rfl, rfl⟩) (w4 hw) (ty := (.array .int)) (by decide) rfl rfl d1_166 rfl p3 fun h104 W104 => ?_
  have f104w := Fld.same W104 f103
  refine oRetV C d1_169 (by decide) (by decide) ?_
  have f105 := (Fld.other W104 (Fld.ext E100 (Fld.other W99 (Fld.ext E95 (Fld.other W94 (Fld.ext E90 (Fld.other W89 (Fld.ext E85 (Fld.other W84 (Fld.ext E80 (Fld.other W79 (Fld.ext E75 (Fld.other W74 (Fld.ext E70 (Fld.other W69 (Fld.ext E65 (Fld.other W64 (Fld.ext E60 (Fld.other W59 (Fld.ext E55 (Fld.other W54 (Fld.ext E50 (K48.fld (Fld.other W45 (Fld.ext E41 (Fld.other W40 (Fld.ext E36 (Fld.other W35 (Fld.ext E31 (K29.fld (Fld.other W26 (Fld.ext E22 (Fld.other W21 (Fld.ext E17 (Fld.other W16 (Fld.ext E12 (Fld.other W10 (Fld.other W7 (Fld.other W4 f1w (Or.inr (oSn0 hw 0 1))) (Or.inr (oSn0 hw 0 2))) (Or.inr (oSn0 hw 0 3)))) (Or.inr (oSn0 hw 0 4)))) (Or.inr (oSn0 hw 0 5)))) (Or.inr (oSn0 hw 0 6))) (ninS ne27 nin0) oN0)) (Or.inr (oSn0 hw 0 7)))) (Or.inr (oSn0 hw 0 8)))) (Or.inr (oSn0 hw 0 9))) (ninS ne46 nin0) oN0)) (Or.inr (oSn0 hw 0 10)))) (Or.inr (oSn0 hw 0 11)))) (Or.inr (oSn0 hw 0 12)))) (Or.inr (oSn0 hw 0 13)))) (Or.inr (oSn0 hw 0 14)))) (Or.inr (oSn0 hw 0 15)))) (Or.inr (oSn0 hw 0 16)))) (Or.inr (oSn0 hw 0 17)))) (Or.inr (oSn0 hw 0 18)))) (Or.inr (oSn0 hw 0 19)))) (Or.inr (oSn0 hw 0 20)))
  have f106 := (Fld.other W104 (Fld.ext E100 (Fld.other W99 (Fld.ext E95 (Fld.other W94 (Fld.ext E90 (Fld.other W89 (Fld.ext E85 (Fld.other W84 (Fld.ext E80 (Fld.other W79 (Fld.ext E75 (Fld.other W74 (Fld.ext E70 (Fld.other W69 (Fld.ext E65 (Fld.other W64 (Fld.ext E60 (Fld.other W59 (Fld.ext E55 (Fld.other W54 (Fld.ext E50 (K48.fld (Fld.other W45 (Fld.ext E41 (Fld.other W40 (Fld.ext E36 (Fld.other W35 (Fld.ext E31 (K29.fld (Fld.other W26 (Fld.ext E22 (Fld.other W21 (Fld.ext E17 (Fld.other W16 (Fld.ext E12 (Fld.other W10 (Fld.other W7 f4w (Or.inr (oSn0 hw 1 2))) (Or.inr (oSn0 hw 1 3)))) (Or.inr (oSn0 hw 1 4)))) (Or.inr (oSn0 hw 1 5)))) (Or.inr (oSn0 hw 1 6))) (ninS ne27 nin0) oN0)) (Or.inr (oSn0 hw 1 7)))) (Or.inr (oSn0 hw 1 8)))) (Or.inr (oSn0 hw 1 9))) (ninS ne46 nin0) oN0)) (Or.inr (oSn0 hw 1 10)))) (Or.inr (oSn0 hw 1 11)))) (Or.inr (oSn0 hw 1 12)))) (Or.inr (oSn0 hw 1 13)))) (Or.inr (oSn0 hw 1 14)))) (Or.inr (oSn0 hw 1 15)))) (Or.inr (oSn0 hw 1 16)))) (Or.inr (oSn0 hw 1 17)))) (Or.inr (oSn0 hw 1 18)))) (Or.inr (oSn0 hw 1 19)))) (Or.inr (oSn0 hw 1 20)))
  have f107 := (Fld.other W104 (Fld.ext E100 (Fld.other W99 (Fld.ext E95 (Fld.other W94 (Fld.ext E90 (Fld.other W89 (Fld.ext E85 (Fld.other W84 (Fld.ext E80 (Fld.other W79 (Fld.ext E75 (Fld.other W74 (Fld.ext E70 (Fld.other W69 (Fld.ext E65 (Fld.other W64 (Fld.ext E60 (Fld.other W59 (Fld.ext E55 (Fld.other W54 (Fld.ext E50 (K48.fld (Fld.other W45 (Fld.ext E41 (Fld.other W40 (Fld.ext E36 (Fld.other W35 (Fld.ext E31 (K29.fld (Fld.other W26 (Fld.ext E22 (Fld.other W21 (Fld.ext E17 (Fld.other W16 (Fld.ext E12 (Fld.other W10 f7w (Or.inr (oSn0 hw 2 3)))) (Or.inr (oSn0 hw 2 4)))) (Or.inr (oSn0 hw 2 5)))) (Or.inr (oSn0 hw 2 6))) (ninS ne27 nin0) oN0)) (Or.inr (oSn0 hw 2 7)))) (Or.inr (oSn0 hw 2 8)))) (Or.inr (oSn0 hw 2 9))) (ninS ne46 nin0) oN0)) (Or.inr (oSn0 hw 2 10)))) (Or.inr (oSn0 hw 2 11)))) (Or.inr (oSn0 hw 2 12)))) (Or.inr (oSn0 hw 2 13)))) (Or.inr (oSn0 hw 2 14)))) (Or.inr (oSn0 hw 2 15)))) (Or.inr (oSn0 hw 2 16)))) (Or.inr (oSn0 hw 2 17)))) (Or.inr (oSn0 hw 2 18)))) (Or.inr (oSn0 hw 2 19)))) (Or.inr (oSn0 hw 2 20)))
  have f108 := (Fld.other W104 (Fld.ext E100 (Fld.other W99 (Fld.ext E95 (Fld.other W94 (Fld.ext E90 (Fld.other W89 (Fld.ext E85 (Fld.other W84 (Fld.ext E80 (Fld.other W79 (Fld.ext E75 (Fld.other W74 (Fld.ext E70 (Fld.other W69 (Fld.ext E65 (Fld.other W64 (Fld.ext E60 (Fld.other W59 (Fld.ext E55 (Fld.other W54 (Fld.ext E50 (K48.fld (Fld.other W45 (Fld.ext E41 (Fld.other W40 (Fld.ext E36 (Fld.other W35 (Fld.ext E31 (K29.fld (Fld.other W26 (Fld.ext E22 (Fld.other W21 (Fld.ext E17 (Fld.other W16 (Fld.ext E12 f10w) (Or.inr (oSn0 hw 3 4)))) (Or.inr (oSn0 hw 3 5)))) (Or.inr (oSn0 hw 3 6))) (ninS ne27 nin0) oN0)) (Or.inr (oSn0 hw 3 7)))) (Or.inr (oSn0 hw 3 8)))) (Or.inr (oSn0 hw 3 9))) (ninS ne46 nin0) oN0)) (Or.inr (oSn0 hw 3 10)))) (Or.inr (oSn0 hw 3 11)))) (Or.inr (oSn0 hw 3 12)))) (Or.inr (oSn0 hw 3 13)))) (Or.inr (oSn0 hw 3 14)))) (Or.inr (oSn0 hw 3 15)))) (Or.inr (oSn0 hw 3 16)))) (Or.inr (oSn0 hw 3 17)))) (Or.inr (oSn0 hw 3 18)))) (Or.inr (oSn0 hw 3 19)))) (Or.inr (oSn0 hw 3 20)))
  have ne109 : b1 ≠ a12 := oNe' (Nat.lt_of_lt_of_le p1.lt (Nat.le_trans (Nat.le_trans (Nat.le_trans (Nat.le_of_eq W1.size.symm) (Nat.le_of_eq W4.size.symm)) (Nat.le_of_eq W7.size.symm)) (Nat.le_of_eq W10.size.symm))) (Nat.le_of_eq g_a12.symm)
  have ne110 : a12 ≠ a22 := oNe' (Nat.lt_of_lt_of_le A12l.lt (Nat.le_trans (Nat.le_trans (Nat.le_of_eq W16.size.symm) E17.1) (Nat.le_of_eq W21.size.symm))) (Nat.le_of_eq g_a22.symm)
  have ne111 : a12 ≠ a41 := oNe' (Nat.lt_of_lt_of_le A12l.lt (Nat.le_trans (Nat.le_trans (Nat.le_trans (Nat.le_trans (Nat.le_trans (Nat.le_trans (Nat.le_trans (Nat.le_trans (Nat.le_trans (Nat.le_of_eq W16.size.symm) E17.1) (Nat.le_of_eq W21.size.symm)) E22.1) (Nat.le_of_eq W26.size.symm)) K29.1) E31.1) (Nat.le_of_eq W35.size.symm)) E36.1) (Nat.le_of_eq W40.size.symm))) (Nat.le_of_eq g_a41.symm)
  have f112 := (((((((((((((((((((((((K48.arr (((((((K29.arr (((((A12l.other W16 (Ne.symm ne109)).ext E17).other W21 (Ne.symm ne109)).ext E22).other W26 (Ne.symm ne109)) (ninS ne110 nin0) oA0).ext E31).other W35 (Ne.symm ne109)).ext E36).other W40 (Ne.symm ne109)).ext E41).other W45 (Ne.symm ne109)) (ninS ne111 nin0) oA0).ext E50).other W54 (Ne.symm ne109)).ext E55).other W59 (Ne.symm ne109)).ext E60).other W64 (Ne.symm ne109)).ext E65).other W69 (Ne.symm ne109)).ext E70).other W74 (Ne.symm ne109)).ext E75).other W79 (Ne.symm ne109)).ext E80).other W84 (Ne.symm ne109)).ext E85).other W89 (Ne.symm ne109)).ext E90).other W94 (Ne.symm ne109)).ext E95).other W99 (Ne.symm ne109)).ext E100).other W104 (Ne.symm ne109))
  have f113 := (Fld.other W104 (Fld.ext E100 (Fld.other W99 (Fld.ext E95 (Fld.other W94 (Fld.ext E90 (Fld.other W89 (Fld.ext E85 (Fld.other W84 (Fld.ext E80 (Fld.other W79 (Fld.ext E75 (Fld.other W74 (Fld.ext E70 (Fld.other W69 (Fld.ext E65 (Fld.other W64 (Fld.ext E60 (Fld.other W59 (Fld.ext E55 (Fld.other W54 (Fld.ext E50 (K48.fld (Fld.other W45 (Fld.ext E41 (Fld.other W40 (Fld.ext E36 (Fld.other W35 (Fld.ext E31 (K29.fld (Fld.other W26 (Fld.ext E22 (Fld.other W21 (Fld.ext E17 f16w) (Or.inr (oSn0 hw 4 5)))) (Or.inr (oSn0 hw 4 6))) (ninS ne27 nin0) oN0)) (Or.inr (oSn0 hw 4 7)))) (Or.inr (oSn0 hw 4 8)))) (Or.inr (oSn0 hw 4 9))) (ninS ne46 nin0) oN0)) (Or.inr (oSn0 hw 4 10)))) (Or.inr (oSn0 hw 4 11)))) (Or.inr (oSn0 hw 4 12)))) (Or.inr (oSn0 hw 4 13)))) (Or.inr (oSn0 hw 4 14)))) (Or.inr (oSn0 hw 4 15)))) (Or.inr (oSn0 hw 4 16)))) (Or.inr (oSn0 hw 4 17)))) (Or.inr (oSn0 hw 4 18)))) (Or.inr (oSn0 hw 4 19)))) (Or.inr (oSn0 hw 4 20)))
  have ne114 : b1 ≠ a17 := oNe' (Nat.lt_of_lt_of_le p1.lt (Nat.le_trans (Nat.le_trans (Nat.le_trans (Nat.le_trans (Nat.le_trans (Nat.le_of_eq W1.size.symm) (Nat.le_of_eq W4.size.symm)) (Nat.le_of_eq W7.size.symm)) (Nat.le_of_eq W10.size.symm)) E12.1) (Nat.le_of_eq W16.size.symm))) (Nat.le_of_eq g_a17.symm)
  have ne115 : a17 ≠ a22 := oNe' (Nat.lt_of_lt_of_le A17l.lt (Nat.le_of_eq W21.size.symm)) (Nat.le_of_eq g_a22.symm)
  have ne116 : a17 ≠ a41 := oNe' (Nat.lt_of_lt_of_le A17l.lt (Nat.le_trans (Nat.le_trans (Nat.le_trans (Nat.le_trans (Nat.le_trans (Nat.le_trans (Nat.le_trans (Nat.le_of_eq W21.size.symm) E22.1) (Nat.le_of_eq W26.size.symm)) K29.1) E31.1) (Nat.le_of_eq W35.size.symm)) E36.1) (Nat.le_of_eq W40.size.symm))) (Nat.le_of_eq g_a41.symm)
  have f117 := (((((((((((((((((((((((K48.arr (((((((K29.arr (((A17l.other W21 (Ne.symm ne114)).ext E22).other W26 (Ne.symm ne114)) (ninS ne115 nin0) oA0).ext E31).other W35 (Ne.symm ne114)).ext E36).other W40 (Ne.symm ne114)).ext E41).other W45 (Ne.symm ne114)) (ninS ne116 nin0) oA0).ext E50).other W54 (Ne.symm ne114)).ext E55).other W59 (Ne.symm ne114)).ext E60).other W64 (Ne.symm ne114)).ext E65).other W69 (Ne.symm ne114)).ext E70).other W74 (Ne.symm ne114)).ext E75).other W79 (Ne.symm ne114)).ext E80).other W84 (Ne.symm ne114)).ext E85).other W89 (Ne.symm ne114)).ext E90).other W94 (Ne.symm ne114)).ext E95).other W99 (Ne.symm ne114)).ext E100).other W104 (Ne.symm ne114))
  have f118 := (Fld.other W104 (Fld.ext E100 (Fld.other W99 (Fld.ext E95 (Fld.other W94 (Fld.ext E90 (Fld.other W89 (Fld.ext E85 (Fld.other W84 (Fld.ext E80 (Fld.other W79 (Fld.ext E75 (Fld.other W74 (Fld.ext E70 (Fld.other W69 (Fld.ext E65 (Fld.other W64 (Fld.ext E60 (Fld.other W59 (Fld.ext E55 (Fld.other W54 (Fld.ext E50 (K48.fld (Fld.other W45 (Fld.ext E41 (Fld.other W40 (Fld.ext E36 (Fld.other W35 (Fld.ext E31 (K29.fld (Fld.other W26 (Fld.ext E22 f21w) (Or.inr (oSn0 hw 5 6))) (ninS ne27 nin0) oN0)) (Or.inr (oSn0 hw 5 7)))) (Or.inr (oSn0 hw 5 8)))) (Or.inr (oSn0 hw 5 9))) (ninS ne46 nin0) oN0)) (Or.inr (oSn0 hw 5 10)))) (Or.inr (oSn0 hw 5 11)))) (Or.inr (oSn0 hw 5 12)))) (Or.inr (oSn0 hw 5 13)))) (Or.inr (oSn0 hw 5 14)))) (Or.inr (oSn0 hw 5 15)))) (Or.inr (oSn0 hw 5 16)))) (Or.inr (oSn0 hw 5 17)))) (Or.inr (oSn0 hw 5 18)))) (Or.inr (oSn0 hw 5 19)))) (Or.inr (oSn0 hw 5 20)))
  have ne119 : a22 ≠ a41 := oNe' (Nat.lt_of_lt_of_le f29_0.lt (Nat.le_trans (Nat.le_trans (Nat.le_trans E31.1 (Nat.le_of_eq W35.size.symm)) E36.1) (Nat.le_of_eq W40.size.symm))) (Nat.le_of_eq g_a41.symm)
  have f120 := (((((((((((((((((((((((K48.arr ((((((f29_0.ext E31).other W35 (Ne.symm ne27)).ext E36).other W40 (Ne.symm ne27)).ext E41).other W45 (Ne.symm ne27)) (ninS ne119 nin0) oA0).ext E50).other W54 (Ne.symm ne27)).ext E55).other W59 (Ne.symm ne27)).ext E60).other W64 (Ne.symm ne27)).ext E65).other W69 (Ne.symm ne27)).ext E70).other W74 (Ne.symm ne27)).ext E75).other W79 (Ne.symm ne27)).ext E80).other W84 (Ne.symm ne27)).ext E85).other W89 (Ne.symm ne27)).ext E90).other W94 (Ne.symm ne27)).ext E95).other W99 (Ne.symm ne27)).ext E100).other W104 (Ne.symm ne27))
  have f121 := (Fld.other W104 (Fld.ext E100 (Fld.other W99 (Fld.ext E95 (Fld.other W94 (Fld.ext E90 (Fld.other W89 (Fld.ext E85 (Fld.other W84 (Fld.ext E80 (Fld.other W79 (Fld.ext E75 (Fld.other W74 (Fld.ext E70 (Fld.other W69 (Fld.ext E65 (Fld.other W64 (Fld.ext E60 (Fld.other W59 (Fld.ext E55 (Fld.other W54 (Fld.ext E50 (K48.fld (Fld.other W45 (Fld.ext E41 (Fld.other W40 (Fld.ext E36 (Fld.other W35 (Fld.ext E31 (K29.fld f26w (ninS ne27 nin0) oN0)) (Or.inr (oSn0 hw 6 7)))) (Or.inr (oSn0 hw 6 8)))) (Or.inr (oSn0 hw 6 9))) (ninS ne46 nin0) oN0)) (Or.inr (oSn0 hw 6 10)))) (Or.inr (oSn0 hw 6 11)))) (Or.inr (oSn0 hw 6 12)))) (Or.inr (oSn0 hw 6 13)))) (Or.inr (oSn0 hw 6 14)))) (Or.inr (oSn0 hw 6 15)))) (Or.inr (oSn0 hw 6 16)))) (Or.inr (oSn0 hw 6 17)))) (Or.inr (oSn0 hw 6 18)))) (Or.inr (oSn0 hw 6 19)))) (Or.inr (oSn0 hw 6 20)))
  have ne122 : b1 ≠ a31 := oNe' (Nat.lt_of_lt_of_le p1.lt (Nat.le_trans (Nat.le_trans (Nat.le_trans (Nat.le_trans (Nat.le_trans (Nat.le_trans (Nat.le_trans (Nat.le_trans (Nat.le_trans (Nat.le_trans (Nat.le_of_eq W1.size.symm) (Nat.le_of_eq W4.size.symm)) (Nat.le_of_eq W7.size.symm)) (Nat.le_of_eq W10.size.symm)) E12.1) (Nat.le_of_eq W16.size.symm)) E17.1) (Nat.le_of_eq W21.size.symm)) E22.1) (Nat.le_of_eq W26.size.symm)) K29.1)) (Nat.le_of_eq g_a31.symm)
  have ne123 : a31 ≠ a41 := oNe' (Nat.lt_of_lt_of_le A31l.lt (Nat.le_trans (Nat.le_trans (Nat.le_of_eq W35.size.symm) E36.1) (Nat.le_of_eq W40.size.symm))) (Nat.le_of_eq g_a41.symm)
  have f124 := (((((((((((((((((((((((K48.arr (((((A31l.other W35 (Ne.symm ne122)).ext E36).other W40 (Ne.symm ne122)).ext E41).other W45 (Ne.symm ne122)) (ninS ne123 nin0) oA0).ext E50).other W54 (Ne.symm ne122)).ext E55).other W59 (Ne.symm ne122)).ext E60).other W64 (Ne.symm ne122)).ext E65).other W69 (Ne.symm ne122)).ext E70).other W74 (Ne.symm ne122)).ext E75).other W79 (Ne.symm ne122)).ext E80).other W84 (Ne.symm ne122)).ext E85).other W89 (Ne.symm ne122)).ext E90).other W94 (Ne.symm ne122)).ext E95).other W99 (Ne.symm ne122)).ext E100).other W104 (Ne.symm ne122))
  have f125 := (Fld.other W104 (Fld.ext E100 (Fld.other W99 (Fld.ext E95 (Fld.other W94 (Fld.ext E90 (Fld.other W89 (Fld.ext E85 (Fld.other W84 (Fld.ext E80 (Fld.other W79 (Fld.ext E75 (Fld.other W74 (Fld.ext E70 (Fld.other W69 (Fld.ext E65 (Fld.other W64 (Fld.ext E60 (Fld.other W59 (Fld.ext E55 (Fld.other W54 (Fld.ext E50 (K48.fld (Fld.other W45 (Fld.ext E41 (Fld.other W40 (Fld.ext E36 f35w) (Or.inr (oSn0 hw 7 8)))) (Or.inr (oSn0 hw 7 9))) (ninS ne46 nin0) oN0)) (Or.inr (oSn0 hw 7 10)))) (Or.inr (oSn0 hw 7 11)))) (Or.inr (oSn0 hw 7 12)))) (Or.inr (oSn0 hw 7 13)))) (Or.inr (oSn0 hw 7 14)))) (Or.inr (oSn0 hw 7 15)))) (Or.inr (oSn0 hw 7 16)))) (Or.inr (oSn0 hw 7 17)))) (Or.inr (oSn0 hw 7 18)))) (Or.inr (oSn0 hw 7 19)))) (Or.inr (oSn0 hw 7 20)))
  have ne126 : b1 ≠ a36 := oNe' (Nat.lt_of_lt_of_le p1.lt (Nat.le_trans (Nat.le_trans (Nat.le_trans (Nat.le_trans (Nat.le_trans (Nat.le_trans (Nat.le_trans (Nat.le_trans (Nat.le_trans (Nat.le_trans (Nat.le_trans (Nat.le_trans (Nat.le_of_eq W1.size.symm) (Nat.le_of_eq W4.size.symm)) (Nat.le_of_eq W7.size.symm)) (Nat.le_of_eq W10.size.symm)) E12.1) (Nat.le_of_eq W16.size.symm)) E17.1) (Nat.le_of_eq W21.size.symm)) E22.1) (Nat.le_of_eq W26.size.symm)) K29.1) E31.1) (Nat.le_of_eq W35.size.symm))) (Nat.le_of_eq g_a36.symm)
  have ne127 : a36 ≠ a41 := oNe' (Nat.lt_of_lt_of_le A36l.lt (Nat.le_of_eq W40.size.symm)) (Nat.le_of_eq g_a41.symm)
  have f128 := (((((((((((((((((((((((K48.arr (((A36l.other W40 (Ne.symm ne126)).ext E41).other W45 (Ne.symm ne126)) (ninS ne127 nin0) oA0).ext E50).other W54 (Ne.symm ne126)).ext E55).other W59 (Ne.symm ne126)).ext E60).other W64 (Ne.symm ne126)).ext E65).other W69 (Ne.symm ne126)).ext E70).other W74 (Ne.symm ne126)).ext E75).other W79 (Ne.symm ne126)).ext E80).other W84 (Ne.symm ne126)).ext E85).other W89 (Ne.symm ne126)).ext E90).other W94 (Ne.symm ne126)).ext E95).other W99 (Ne.symm ne126)).ext E100).other W104 (Ne.symm ne126))
  have f129 := (Fld.other W104 (Fld.ext E100 (Fld.other W99 (Fld.ext E95 (Fld.other W94 (Fld.ext E90 (Fld.other W89 (Fld.ext E85 (Fld.other W84 (Fld.ext E80 (Fld.other W79 (Fld.ext E75 (Fld.other W74 (Fld.ext E70 (Fld.other W69 (Fld.ext E65 (Fld.other W64 (Fld.ext E60 (Fld.other W59 (Fld.ext E55 (Fld.other W54 (Fld.ext E50 (K48.fld (Fld.other W45 (Fld.ext E41 f40w) (Or.inr (oSn0 hw 8 9))) (ninS ne46 nin0) oN0)) (Or.inr (oSn0 hw 8 10)))) (Or.inr (oSn0 hw 8 11)))) (Or.inr (oSn0 hw 8 12)))) (Or.inr (oSn0 hw 8 13)))) (Or.inr (oSn0 hw 8 14)))) (Or.inr (oSn0 hw 8 15)))) (Or.inr (oSn0 hw 8 16)))) (Or.inr (oSn0 hw 8 17)))) (Or.inr (oSn0 hw 8 18)))) (Or.inr (oSn0 hw 8 19)))) (Or.inr (oSn0 hw 8 20)))
  have f130 := ((((((((((((((((((((((f48_0.ext E50).other W54 (Ne.symm ne46)).ext E55).other W59 (Ne.symm ne46)).ext E60).other W64 (Ne.symm ne46)).ext E65).other W69 (Ne.symm ne46)).ext E70).other W74 (Ne.symm ne46)).ext E75).other W79 (Ne.symm ne46)).ext E80).other W84 (Ne.symm ne46)).ext E85).other W89 (Ne.symm ne46)).ext E90).other W94 (Ne.symm ne46)).ext E95).other W99 (Ne.symm ne46)).ext E100).other W104 (Ne.symm ne46))
  have f131 := (Fld.other W104 (Fld.ext E100 (Fld.other W99 (Fld.ext E95 (Fld.other W94 (Fld.ext E90 (Fld.other W89 (Fld.ext E85 (Fld.other W84 (Fld.ext E80 (Fld.other W79 (Fld.ext E75 (Fld.other W74 (Fld.ext E70 (Fld.other W69 (Fld.ext E65 (Fld.other W64 (Fld.ext E60 (Fld.other W59 (Fld.ext E55 (Fld.other W54 (Fld.ext E50 (K48.fld f45w (ninS ne46 nin0) oN0)) (Or.inr (oSn0 hw 9 10)))) (Or.inr (oSn0 hw 9 11)))) (Or.inr (oSn0 hw 9 12)))) (Or.inr (oSn0 hw 9 13)))) (Or.inr (oSn0 hw 9 14)))) (Or.inr (oSn0 hw 9 15)))) (Or.inr (oSn0 hw 9 16)))) (Or.inr (oSn0 hw 9 17)))) (Or.inr (oSn0 hw 9 18)))) (Or.inr (oSn0 hw 9 19)))) (Or.inr (oSn0 hw 9 20)))
  have ne132 : b1 ≠ a50 := oNe' (Nat.lt_of_lt_of_le p1.lt (Nat.le_trans (Nat.le_trans (Nat.le_trans (Nat.le_trans (Nat.le_trans (Nat.le_trans (Nat.le_trans (Nat.le_trans (Nat.le_trans (Nat.le_trans (Nat.le_trans (Nat.le_trans (Nat.le_trans (Nat.le_trans (Nat.le_trans (Nat.le_trans (Nat.le_trans (Nat.le_of_eq W1.size.symm) (Nat.le_of_eq W4.size.symm)) (Nat.le_of_eq W7.size.symm)) (Nat.le_of_eq W10.size.symm)) E12.1) (Nat.le_of_eq W16.size.symm)) E17.1) (Nat.le_of_eq W21.size.symm)) E22.1) (Nat.le_of_eq W26.size.symm)) K29.1) E31.1) (Nat.le_of_eq W35.size.symm)) E36.1) (Nat.le_of_eq W40.size.symm)) E41.1) (Nat.le_of_eq W45.size.symm)) K48.1)) (Nat.le_of_eq g_a50.symm)
  have f133 := (((((((((((((((((((((A50l.other W54 (Ne.symm ne132)).ext E55).other W59 (Ne.symm ne132)).ext E60).other W64 (Ne.symm ne132)).ext E65).other W69 (Ne.symm ne132)).ext E70).other W74 (Ne.symm ne132)).ext E75).other W79 (Ne.symm ne132)).ext E80).other W84 (Ne.symm ne132)).ext E85).other W89 (Ne.symm ne132)).ext E90).other W94 (Ne.symm ne132)).ext E95).other W99 (Ne.symm ne132)).ext E100).other W104 (Ne.symm ne132))
  have f134 := (Fld.other W104 (Fld.ext E100 (Fld.other W99 (Fld.ext E95 (Fld.other W94 (Fld.ext E90 (Fld.other W89 (Fld.ext E85 (Fld.other W84 (Fld.ext E80 (Fld.other W79 (Fld.ext E75 (Fld.other W74 (Fld.ext E70 (Fld.other W69 (Fld.ext E65 (Fld.other W64 (Fld.ext E60 (Fld.other W59 (Fld.ext E55 f54w) (Or.inr (oSn0 hw 10 11)))) (Or.inr (oSn0 hw 10 12)))) (Or.inr (oSn0 hw 10 13)))) (Or.inr (oSn0 hw 10 14)))) (Or.inr (oSn0 hw 10 15)))) (Or.inr (oSn0 hw 10 16)))) (Or.inr (oSn0 hw 10 17)))) (Or.inr (oSn0 hw 10 18)))) (Or.inr (oSn0 hw 10 19)))) (Or.inr (oSn0 hw 10 20)))
  have ne135 : b1 ≠ a55 := oNe' (Nat.lt_of_lt_of_le p1.lt (Nat.le_trans (Nat.le_trans (Nat.le_trans (Nat.le_trans (Nat.le_trans (Nat.le_trans (Nat.le_trans (Nat.le_trans (Nat.le_trans (Nat.le_trans (Nat.le_trans (Nat.le_trans (Nat.le_trans (Nat.le_trans (Nat.le_trans (Nat.le_trans (Nat.le_trans (Nat.le_trans (Nat.le_trans (Nat.le_of_eq W1.size.symm) (Nat.le_of_eq W4.size.symm)) (Nat.le_of_eq W7.size.symm)) (Nat.le_of_eq W10.size.symm)) E12.1) (Nat.le_of_eq W16.size.symm)) E17.1) (Nat.le_of_eq W21.size.symm)) E22.1) (Nat.le_of_eq W26.size.symm)) K29.1) E31.1) (Nat.le_of_eq W35.size.symm)) E36.1) (Nat.le_of_eq W40.size.symm)) E41.1) (Nat.le_of_eq W45.size.symm)) K48.1) E50.1) (Nat.le_of_eq W54.size.symm))) (Nat.le_of_eq g_a55.symm)
  have f136 := (((((((((((((((((((A55l.other W59 (Ne.symm ne135)).ext E60).other W64 (Ne.symm ne135)).ext E65).other W69 (Ne.symm ne135)).ext E70).other W74 (Ne.symm ne135)).ext E75).other W79 (Ne.symm ne135)).ext E80).other W84 (Ne.symm ne135)).ext E85).other W89 (Ne.symm ne135)).ext E90).other W94 (Ne.symm ne135)).ext E95).other W99 (Ne.symm ne135)).ext E100).other W104 (Ne.symm ne135))
  have f137 := (Fld.other W104 (Fld.ext E100 (Fld.other W99 (Fld.ext E95 (Fld.other W94 (Fld.ext E90 (Fld.other W89 (Fld.ext E85 (Fld.other W84 (Fld.ext E80 (Fld.other W79 (Fld.ext E75 (Fld.other W74 (Fld.ext E70 (Fld.other W69 (Fld.ext E65 (Fld.other W64 (Fld.ext E60 f59w) (Or.inr (oSn0 hw 11 12)))) (Or.inr (oSn0 hw 11 13)))) (Or.inr (oSn0 hw 11 14)))) (Or.inr (oSn0 hw 11 15)))) (Or.inr (oSn0 hw 11 16)))) (Or.inr (oSn0 hw 11 17)))) (Or.inr (oSn0 hw 11 18)))) (Or.inr (oSn0 hw 11 19)))) (Or.inr (oSn0 hw 11 20)))
  have ne138 : b1 ≠ a60 := oNe' (Nat.lt_of_lt_of_le p1.lt (Nat.le_trans (Nat.le_trans (Nat.le_trans (Nat.le_trans (Nat.le_trans (Nat.le_trans (Nat.le_trans (Nat.le_trans (Nat.le_trans (Nat.le_trans (Nat.le_trans (Nat.le_trans (Nat.le_trans (Nat.le_trans (Nat.le_trans (Nat.le_trans (Nat.le_trans (Nat.le_trans (Nat.le_trans (Nat.le_trans (Nat.le_trans (Nat.le_of_eq W1.size.symm) (Nat.le_of_eq W4.size.symm)) (Nat.le_of_eq W7.size.symm)) (Nat.le_of_eq W10.size.symm)) E12.1) (Nat.le_of_eq W16.size.symm)) E17.1) (Nat.le_of_eq W21.size.symm)) E22.1) (Nat.le_of_eq W26.size.symm)) K29.1) E31.1) (Nat.le_of_eq W35.size.symm)) E36.1) (Nat.le_of_eq W40.size.symm)) E41.1) (Nat.le_of_eq W45.size.symm)) K48.1) E50.1) (Nat.le_of_eq W54.size.symm)) E55.1) (Nat.le_of_eq W59.size.symm))) (Nat.le_of_eq g_a60.symm)
  have f139 := (((((((((((((((((A60l.other W64 (Ne.symm ne138)).ext E65).other W69 (Ne.symm ne138)).ext E70).other W74 (Ne.symm ne138)).ext E75).other W79 (Ne.symm ne138)).ext E80).other W84 (Ne.symm ne138)).ext E85).other W89 (Ne.symm ne138)).ext E90).other W94 (Ne.symm ne138)).ext E95).other W99 (Ne.symm ne138)).ext E100).other W104 (Ne.symm ne138))
  have f140 := (Fld.other W104 (Fld.ext E100 (Fld.other W99 (Fld.ext E95 (Fld.other W94 (Fld.ext E90 (Fld.other W89 (Fld.ext E85 (Fld.other W84 (Fld.ext E80 (Fld.other W79 (Fld.ext E75 (Fld.other W74 (Fld.ext E70 (Fld.other W69 (Fld.ext E65 f64w) (Or.inr (oSn0 hw 12 13)))) (Or.inr (oSn0 hw 12 14)))) (Or.inr (oSn0 hw 12 15)))) (Or.inr (oSn0 hw 12 16)))) (Or.inr (oSn0 hw 12 17)))) (Or.inr (oSn0 hw 12 18)))) (Or.inr (oSn0 hw 12 19)))) (Or.inr (oSn0 hw 12 20)))
  have ne141 : b1 ≠ a65 := oNe' (Nat.lt_of_lt_of_le p1.lt (Nat.le_trans (Nat.le_trans (Nat.le_trans (Nat.le_trans (Nat.le_trans (Nat.le_trans (Nat.le_trans (Nat.le_trans (Nat.le_trans (Nat.le_trans (Nat.le_trans (Nat.le_trans (Nat.le_trans (Nat.le_trans (Nat.le_trans (Nat.le_trans (Nat.le_trans (Nat.le_trans (Nat.le_trans (Nat.le_trans (Nat.le_trans (Nat.le_trans (Nat.le_trans (Nat.le_of_eq W1.size.symm) (Nat.le_of_eq W4.size.symm)) (Nat.le_of_eq W7.size.symm)) (Nat.le_of_eq W10.size.symm)) E12.1) (Nat.le_of_eq W16.size.symm)) E17.1) (Nat.le_of_eq W21.size.symm)) E22.1) (Nat.le_of_eq W26.size.symm)) K29.1) E31.1) (Nat.le_of_eq W35.size.symm)) E36.1) (Nat.le_of_eq W40.size.symm)) E41.1) (Nat.le_of_eq W45.size.symm)) K48.1) E50.1) (Nat.le_of_eq W54.size.symm)) E55.1) (Nat.le_of_eq W59.size.symm)) E60.1) (Nat.le_of_eq W64.size.symm))) (Nat.le_of_eq g_a65.symm)
  have f142 := (((((((((((((((A65l.other W69 (Ne.symm ne141)).ext E70).other W74 (Ne.symm ne141)).ext E75).other W79 (Ne.symm ne141)).ext E80).other W84 (Ne.symm ne141)).ext E85).other W89 (Ne.symm ne141)).ext E90).other W94 (Ne.symm ne141)).ext E95).other W99 (Ne.symm ne141)).ext E100).other W104 (Ne.symm ne141))
  have f143 := (Fld.other W104 (Fld.ext E100 (Fld.other W99 (Fld.ext E95 (Fld.other W94 (Fld.ext E90 (Fld.other W89 (Fld.ext E85 (Fld.other W84 (Fld.ext E80 (Fld.other W79 (Fld.ext E75 (Fld.other W74 (Fld.ext E70 f69w) (Or.inr (oSn0 hw 13 14)))) (Or.inr (oSn0 hw 13 15)))) (Or.inr (oSn0 hw 13 16)))) (Or.inr (oSn0 hw 13 17)))) (Or.inr (oSn0 hw 13 18)))) (Or.inr (oSn0 hw 13 19)))) (Or.inr (oSn0 hw 13 20)))
  have ne144 : b1 ≠ a70 := oNe' (Nat.lt_of_lt_of_le p1.lt (Nat.le_trans (Nat.le_trans (Nat.le_trans (Nat.le_trans (Nat.le_trans (Nat.le_trans (Nat.le_trans (Nat.le_trans (Nat.le_trans (Nat.le_trans (Nat.le_trans (Nat.le_trans (Nat.le_trans (Nat.le_trans (Nat.le_trans (Nat.le_trans (Nat.le_trans (Nat.le_trans (Nat.le_trans (Nat.le_trans (Nat.le_trans (Nat.le_trans (Nat.le_trans (Nat.le_trans (Nat.le_trans (Nat.le_of_eq W1.size.symm) (Nat.le_of_eq W4.size.symm)) (Nat.le_of_eq W7.size.symm)) (Nat.le_of_eq W10.size.symm)) E12.1) (Nat.le_of_eq W16.size.symm)) E17.1) (Nat.le_of_eq W21.size.symm)) E22.1) (Nat.le_of_eq W26.size.symm)) K29.1) E31.1) (Nat.le_of_eq W35.size.symm)) E36.1) (Nat.le_of_eq W40.size.symm)) E41.1) (Nat.le_of_eq W45.size.symm)) K48.1) E50.1) (Nat.le_of_eq W54.size.symm)) E55.1) (Nat.le_of_eq W59.size.symm)) E60.1) (Nat.le_of_eq W64.size.symm)) E65.1) (Nat.le_of_eq W69.size.symm))) (Nat.le_of_eq g_a70.symm)
  have f145 := (((((((((((((A70l.other W74 (Ne.symm ne144)).ext E75).other W79 (Ne.symm ne144)).ext E80).other W84 (Ne.symm ne144)).ext E85).other W89 (Ne.symm ne144)).ext E90).other W94 (Ne.symm ne144)).ext E95).other W99 (Ne.symm ne144)).ext E100).other W104 (Ne.symm ne144))
  have f146 := (Fld.other W104 (Fld.ext E100 (Fld.other W99 (Fld.ext E95 (Fld.other W94 (Fld.ext E90 (Fld.other W89 (Fld.ext E85 (Fld.other W84 (Fld.ext E80 (Fld.other W79 (Fld.ext E75 f74w) (Or.inr (oSn0 hw 14 15)))) (Or.inr (oSn0 hw 14 16)))) (Or.inr (oSn0 hw 14 17)))) (Or.inr (oSn0 hw 14 18)))) (Or.inr (oSn0 hw 14 19)))) (Or.inr (oSn0 hw 14 20)))
  have ne147 : b1 ≠ a75 := oNe' (Nat.lt_of_lt_of_le p1.lt (Nat.le_trans (Nat.le_trans (Nat.le_trans (Nat.le_trans (Nat.le_trans (Nat.le_trans (Nat.le_trans (Nat.le_trans (Nat.le_trans (Nat.le_trans (Nat.le_trans (Nat.le_trans (Nat.le_trans (Nat.le_trans (Nat.le_trans (Nat.le_trans (Nat.le_trans (Nat.le_trans (Nat.le_trans (Nat.le_trans (Nat.le_trans (Nat.le_trans (Nat.le_trans (Nat.le_trans (Nat.le_trans (Nat.le_trans (Nat.le_trans (Nat.le_of_eq W1.size.symm) (Nat.le_of_eq W4.size.symm)) (Nat.le_of_eq W7.size.symm)) (Nat.le_of_eq W10.size.symm)) E12.1) (Nat.le_of_eq W16.size.symm)) E17.1) (Nat.le_of_eq W21.size.symm)) E22.1) (Nat.le_of_eq W26.size.symm)) K29.1) E31.1) (Nat.le_of_eq W35.size.symm)) E36.1) (Nat.le_of_eq W40.size.symm)) E41.1) (Nat.le_of_eq W45.size.symm)) K48.1) E50.1) (Nat.le_of_eq W54.size.symm)) E55.1) (Nat.le_of_eq W59.size.symm)) E60.1) (Nat.le_of_eq W64.size.symm)) E65.1) (Nat.le_of_eq W69.size.symm)) E70.1) (Nat.le_of_eq W74.size.symm))) (Nat.le_of_eq g_a75.symm)
  have f148 := (((((((((((A75l.other W79 (Ne.symm ne147)).ext E80).other W84 (Ne.symm ne147)).ext E85).other W89 (Ne.symm ne147)).ext E90).other W94 (Ne.symm ne147)).ext E95).other W99 (Ne.symm ne147)).ext E100).other W104 (Ne.symm ne147))
  have f149 := (Fld.other W104 (Fld.ext E100 (Fld.other W99 (Fld.ext E95 (Fld.other W94 (Fld.ext E90 (Fld.other W89 (Fld.ext E85 (Fld.other W84 (Fld.ext E80 f79w) (Or.inr (oSn0 hw 15 16)))) (Or.inr (oSn0 hw 15 17)))) (Or.inr (oSn0 hw 15 18)))) (Or.inr (oSn0 hw 15 19)))) (Or.inr (oSn0 hw 15 20)))
  have ne150 : b1 ≠ a80 := oNe' (Nat.lt_of_lt_of_le p1.lt (Nat.le_trans (Nat.le_trans (Nat.le_trans (Nat.le_trans (Nat.le_trans (Nat.le_trans (Nat.le_trans (Nat.le_trans (Nat.le_trans (Nat.le_trans (Nat.le_trans (Nat.le_trans (Nat.le_trans (Nat.le_trans (Nat.le_trans (Nat.le_trans (Nat.le_trans (Nat.le_trans (Nat.le_trans (Nat.le_trans (Nat.le_trans (Nat.le_trans (Nat.le_trans (Nat.le_trans (Nat.le_trans (Nat.le_trans (Nat.le_trans (Nat.le_trans (Nat.le_trans (Nat.le_of_eq W1.size.symm) (Nat.le_of_eq W4.size.symm)) (Nat.le_of_eq W7.size.symm)) (Nat.le_of_eq W10.size.symm)) E12.1) (Nat.le_of_eq W16.size.symm)) E17.1) (Nat.le_of_eq W21.size.symm)) E22.1) (Nat.le_of_eq W26.size.symm)) K29.1) E31.1) (Nat.le_of_eq W35.size.symm)) E36.1) (Nat.le_of_eq W40.size.symm)) E41.1) (Nat.le_of_eq W45.size.symm)) K48.1) E50.1) (Nat.le_of_eq W54.size.symm)) E55.1) (Nat.le_of_eq W59.size.symm)) E60.1) (Nat.le_of_eq W64.size.symm)) E65.1) (Nat.le_of_eq W69.size.symm)) E70.1) (Nat.le_of_eq W74.size.symm)) E75.1) (Nat.le_of_eq W79.size.symm))) (Nat.le_of_eq g_a80.symm)
  have f151 := (((((((((A80l.other W84 (Ne.symm ne150)).ext E85).other W89 (Ne.symm ne150)).ext E90).other W94 (Ne.symm ne150)).ext E95).other W99 (Ne.symm ne150)).ext E100).other W104 (Ne.symm ne150))
  have f152 := (Fld.other W104 (Fld.ext E100 (Fld.other W99 (Fld.ext E95 (Fld.other W94 (Fld.ext E90 (Fld.other W89 (Fld.ext E85 f84w) (Or.inr (oSn0 hw 16 17)))) (Or.inr (oSn0 hw 16 18)))) (Or.inr (oSn0 hw 16 19)))) (Or.inr (oSn0 hw 16 20)))
  have ne153 : b1 ≠ a85 := oNe' (Nat.lt_of_lt_of_le p1.lt (Nat.le_trans (Nat.le_trans (Nat.le_trans (Nat.le_trans (Nat.le_trans (Nat.le_trans (Nat.le_trans (Nat.le_trans (Nat.le_trans (Nat.le_trans (Nat.le_trans (Nat.le_trans (Nat.le_trans (Nat.le_trans (Nat.le_trans (Nat.le_trans (Nat.le_trans (Nat.le_trans (Nat.le_trans (Nat.le_trans (Nat.le_trans (Nat.le_trans (Nat.le_trans (Nat.le_trans (Nat.le_trans (Nat.le_trans (Nat.le_trans (Nat.le_trans (Nat.le_trans (Nat.le_trans (Nat.le_trans (Nat.le_of_eq W1.size.symm) (Nat.le_of_eq W4.size.symm)) (Nat.le_of_eq W7.size.symm)) (Nat.le_of_eq W10.size.symm)) E12.1) (Nat.le_of_eq W16.size.symm)) E17.1) (Nat.le_of_eq W21.size.symm)) E22.1) (Nat.le_of_eq W26.size.symm)) K29.1) E31.1) (Nat.le_of_eq W35.size.symm)) E36.1) (Nat.le_of_eq W40.size.symm)) E41.1) (Nat.le_of_eq W45.size.symm)) K48.1) E50.1) (Nat.le_of_eq W54.size.symm)) E55.1) (Nat.le_of_eq W59.size.symm)) E60.1) (Nat.le_of_eq W64.size.symm)) E65.1) (Nat.le_of_eq W69.size.symm)) E70.1) (Nat.le_of_eq W74.size.symm)) E75.1) (Nat.le_of_eq W79.size.symm)) E80.1) (Nat.le_of_eq W84.size.symm))) (Nat.le_of_eq g_a85.symm)
  have f154 := (((((((A85l.other W89 (Ne.symm ne153)).ext E90).other W94 (Ne.symm ne153)).ext E95).other W99 (Ne.symm ne153)).ext E100).other W104 (Ne.symm ne153))
  have f155 := (Fld.other W104 (Fld.ext E100 (Fld.other W99 (Fld.ext E95 (Fld.other W94 (Fld.ext E90 f89w) (Or.inr (oSn0 hw 17 18)))) (Or.inr (oSn0 hw 17 19)))) (Or.inr (oSn0 hw 17 20)))
  have ne156 : b1 ≠ a90 := oNe' (Nat.lt_of_lt_of_le p1.lt (Nat.le_trans (Nat.le_trans (Nat.le_trans (Nat.le_trans (Nat.le_trans (Nat.le_trans (Nat.le_trans (Nat.le_trans (Nat.le_trans (Nat.le_trans (Nat.le_trans (Nat.le_trans (Nat.le_trans (Nat.le_trans (Nat.le_trans (Nat.le_trans (Nat.le_trans (Nat.le_trans (Nat.le_trans (Nat.le_trans (Nat.le_trans (Nat.le_trans (Nat.le_trans (Nat.le_trans (Nat.le_trans (Nat.le_trans (Nat.le_trans (Nat.le_trans (Nat.le_trans (Nat.le_trans (Nat.le_trans (Nat.le_trans (Nat.le_trans (Nat.le_of_eq W1.size.symm) (Nat.le_of_eq W4.size.symm)) (Nat.le_of_eq W7.size.symm)) (Nat.le_of_eq W10.size.symm)) E12.1) (Nat.le_of_eq W16.size.symm)) E17.1) (Nat.le_of_eq W21.size.symm)) E22.1) (Nat.le_of_eq W26.size.symm)) K29.1) E31.1) (Nat.le_of_eq W35.size.symm)) E36.1) (Nat.le_of_eq W40.size.symm)) E41.1) (Nat.le_of_eq W45.size.symm)) K48.1) E50.1) (Nat.le_of_eq W54.size.symm)) E55.1) (Nat.le_of_eq W59.size.symm)) E60.1) (Nat.le_of_eq W64.size.symm)) E65.1) (Nat.le_of_eq W69.size.symm)) E70.1) (Nat.le_of_eq W74.size.symm)) E75.1) (Nat.le_of_eq W79.size.symm)) E80.1) (Nat.le_of_eq W84.size.symm)) E85.1) (Nat.le_of_eq W89.size.symm))) (Nat.le_of_eq g_a90.symm)
  have f157 := (((((A90l.other W94 (Ne.symm ne156)).ext E95).other W99 (Ne.symm ne156)).ext E100).other W104 (Ne.symm ne156))
  have f158 := (Fld.other W104 (Fld.ext E100 (Fld.other W99 (Fld.ext E95 f94w) (Or.inr (oSn0 hw 18 19)))) (Or.inr (oSn0 hw 18 20)))
  have ne159 : b1 ≠ a95 := oNe' (Nat.lt_of_lt_of_le p1.lt (Nat.le_trans (Nat.le_trans (Nat.le_trans (Nat.le_trans (Nat.le_trans (Nat.le_trans (Nat.le_trans (Nat.le_trans (Nat.le_trans (Nat.le_trans (Nat.le_trans (Nat.le_trans (Nat.le_trans (Nat.le_trans (Nat.le_trans (Nat.le_trans (Nat.le_trans (Nat.le_trans (Nat.le_trans (Nat.le_trans (Nat.le_trans (Nat.le_trans (Nat.le_trans (Nat.le_trans (Nat.le_trans (Nat.le_trans (Nat.le_trans (Nat.le_trans (Nat.le_trans (Nat.le_trans (Nat.le_trans (Nat.le_trans (Nat.le_trans (Nat.le_trans (Nat.le_trans (Nat.le_of_eq W1.size.symm) (Nat.le_of_eq W4.size.symm)) (Nat.le_of_eq W7.size.symm)) (Nat.le_of_eq W10.size.symm)) E12.1) (Nat.le_of_eq W16.size.symm)) E17.1) (Nat.le_of_eq W21.size.symm)) E22.1) (Nat.le_of_eq W26.size.symm)) K29.1) E31.1) (Nat.le_of_eq W35.size.symm)) E36.1) (Nat.le_of_eq W40.size.symm)) E41.1) (Nat.le_of_eq W45.size.symm)) K48.1) E50.1) (Nat.le_of_eq W54.size.symm)) E55.1) (Nat.le_of_eq W59.size.symm)) E60.1) (Nat.le_of_eq W64.size.symm)) E65.1) (Nat.le_of_eq W69.size.symm)) E70.1) (Nat.le_of_eq W74.size.symm)) E75.1) (Nat.le_of_eq W79.size.symm)) E80.1) (Nat.le_of_eq W84.size.symm)) E85.1) (Nat.le_of_eq W89.size.symm)) E90.1) (Nat.le_of_eq W94.size.symm))) (Nat.le_of_eq g_a95.symm)
  have f160 := (((A95l.other W99 (Ne.symm ne159)).ext E100).other W104 (Ne.symm ne159))
  have f161 := (Fld.other W104 (Fld.ext E100 f99w) (Or.inr (oSn0 hw 19 20)))
  have ne162 : b1 ≠ a100 := oNe' (Nat.lt_of_lt_of_le p1.lt (Nat.le_trans (Nat.le_trans (Nat.le_trans (Nat.le_trans (Nat.le_trans (Nat.le_trans (Nat.le_trans (Nat.le_trans (Nat.le_trans (Nat.le_trans (Nat.le_trans (Nat.le_trans (Nat.le_trans (Nat.le_trans (Nat.le_trans (Nat.le_trans (Nat.le_trans (Nat.le_trans (Nat.le_trans (Nat.le_trans (Nat.le_trans (Nat.le_trans (Nat.le_trans (Nat.le_trans (Nat.le_trans (Nat.le_trans (Nat.le_trans (Nat.le_trans (Nat.le_trans (Nat.le_trans (Nat.le_trans (Nat.le_trans (Nat.le_trans (Nat.le_trans (Nat.le_trans (Nat.le_trans (Nat.le_trans (Nat.le_of_eq W1.size.symm) (Nat.le_of_eq W4.size.symm)) (Nat.le_of_eq W7.size.symm)) (Nat.le_of_eq W10.size.symm)) E12.1) (Nat.le_of_eq W16.size.symm)) E17.1) (Nat.le_of_eq W21.size.symm)) E22.1) (Nat.le_of_eq W26.size.symm)) K29.1) E31.1) (Nat.le_of_eq W35.size.symm)) E36.1) (Nat.le_of_eq W40.size.symm)) E41.1) (Nat.le_of_eq W45.size.symm)) K48.1) E50.1) (Nat.le_of_eq W54.size.symm)) E55.1) (Nat.le_of_eq W59.size.symm)) E60.1) (Nat.le_of_eq W64.size.symm)) E65.1) (Nat.le_of_eq W69.size.symm)) E70.1) (Nat.le_of_eq W74.size.symm)) E75.1) (Nat.le_of_eq W79.size.symm)) E80.1) (Nat.le_of_eq W84.size.symm)) E85.1) (Nat.le_of_eq W89.size.symm)) E90.1) (Nat.le_of_eq W94.size.symm)) E95.1) (Nat.le_of_eq W99.size.symm))) (Nat.le_of_eq g_a100.symm)
  have f163 := (A100l.other W104 (Ne.symm ne162))
  exact ⟨_, _, _, _, _, _, _, _, _, _, _, _, _, _, _, _, _, rfl, (((((((((((((((((((((((((((((((((((((((((oKe.refl h0 [] [(b1, Jvm.RoadKit.slotOf Z cU "displaced" "I"), (b1, Jvm.RoadKit.slotOf Z cU "offerStart" "[I"), (b1, Jvm.RoadKit.slotOf Z cU "offerItem" "[I"), (b1, Jvm.RoadKit.slotOf Z cU "offerWeight" "[J"), (b1, Jvm.RoadKit.slotOf Z cU "priceMoney" "[J"), (b1, Jvm.RoadKit.slotOf Z cU "priceSales" "[J"), (b1, Jvm.RoadKit.slotOf Z cU "holder" "[I"), (b1, Jvm.RoadKit.slotOf Z cU "utilityMoney" "[J"), (b1, Jvm.RoadKit.slotOf Z cU "utilitySales" "[J"), (b1, Jvm.RoadKit.slotOf Z cU "held" "[I"), (b1, Jvm.RoadKit.slotOf Z cU "distMoney" "[J"), (b1, Jvm.RoadKit.slotOf Z cU "distSales" "[J"), (b1, Jvm.RoadKit.slotOf Z cU "hops" "[I"), (b1, Jvm.RoadKit.slotOf Z cU "pred" "[I"), (b1, Jvm.RoadKit.slotOf Z cU "predOffer" "[I"), (b1, Jvm.RoadKit.slotOf Z cU "mark" "[B"), (b1, Jvm.RoadKit.slotOf Z cU "heap" "[I"), (b1, Jvm.RoadKit.slotOf Z cU "heapIndex" "[I"), (b1, Jvm.RoadKit.slotOf Z cU "touched" "[I"), (b1, Jvm.RoadKit.slotOf Z cU "changed" "[Z"), (b1, Jvm.RoadKit.slotOf Z cU "changedItems" "[I")]).wrF W1 (Or.inl (List.mem_of_getElem? (i := 0) rfl))).wrF W4 (Or.inl (List.mem_of_getElem? (i := 1) rfl))).wrF W7 (Or.inl (List.mem_of_getElem? (i := 2) rfl))).wrF W10 (Or.inl (List.mem_of_getElem? (i := 3) rfl))).ext E12).wrF W16 (Or.inl (List.mem_of_getElem? (i := 4) rfl))).ext E17).wrF W21 (Or.inl (List.mem_of_getElem? (i := 5) rfl))).ext E22).wrF W26 (Or.inl (List.mem_of_getElem? (i := 6) rfl))).trans K29 (allS (Or.inr (Nat.le_trans (((((((((oKe.refl h0 [] [(b1, Jvm.RoadKit.slotOf Z cU "displaced" "I"), (b1, Jvm.RoadKit.slotOf Z cU "offerStart" "[I"), (b1, Jvm.RoadKit.slotOf Z cU "offerItem" "[I"), (b1, Jvm.RoadKit.slotOf Z cU "offerWeight" "[J"), (b1, Jvm.RoadKit.slotOf Z cU "priceMoney" "[J"), (b1, Jvm.RoadKit.slotOf Z cU "priceSales" "[J"), (b1, Jvm.RoadKit.slotOf Z cU "holder" "[I"), (b1, Jvm.RoadKit.slotOf Z cU "utilityMoney" "[J"), (b1, Jvm.RoadKit.slotOf Z cU "utilitySales" "[J"), (b1, Jvm.RoadKit.slotOf Z cU "held" "[I"), (b1, Jvm.RoadKit.slotOf Z cU "distMoney" "[J"), (b1, Jvm.RoadKit.slotOf Z cU "distSales" "[J"), (b1, Jvm.RoadKit.slotOf Z cU "hops" "[I"), (b1, Jvm.RoadKit.slotOf Z cU "pred" "[I"), (b1, Jvm.RoadKit.slotOf Z cU "predOffer" "[I"), (b1, Jvm.RoadKit.slotOf Z cU "mark" "[B"), (b1, Jvm.RoadKit.slotOf Z cU "heap" "[I"), (b1, Jvm.RoadKit.slotOf Z cU "heapIndex" "[I"), (b1, Jvm.RoadKit.slotOf Z cU "touched" "[I"), (b1, Jvm.RoadKit.slotOf Z cU "changed" "[Z"), (b1, Jvm.RoadKit.slotOf Z cU "changedItems" "[I")]).wrF W1 (Or.inl (List.mem_of_getElem? (i := 0) rfl))).wrF W4 (Or.inl (List.mem_of_getElem? (i := 1) rfl))).wrF W7 (Or.inl (List.mem_of_getElem? (i := 2) rfl))).wrF W10 (Or.inl (List.mem_of_getElem? (i := 3) rfl))).ext E12).wrF W16 (Or.inl (List.mem_of_getElem? (i := 4) rfl))).ext E17).wrF W21 (Or.inl (List.mem_of_getElem? (i := 5) rfl))).1 (Nat.le_of_eq g_a22.symm))) all0) oA0).ext E31).wrF W35 (Or.inl (List.mem_of_getElem? (i := 7) rfl))).ext E36).wrF W40 (Or.inl (List.mem_of_getElem? (i := 8) rfl))).ext E41).wrF W45 (Or.inl (List.mem_of_getElem? (i := 9) rfl))).trans K48 (allS (Or.inr (Nat.le_trans ((((((((((((((((oKe.refl h0 [] [(b1, Jvm.RoadKit.slotOf Z cU "displaced" "I"), (b1, Jvm.RoadKit.slotOf Z cU "offerStart" "[I"), (b1, Jvm.RoadKit.slotOf Z cU "offerItem" "[I"), (b1, Jvm.RoadKit.slotOf Z cU "offerWeight" "[J"), (b1, Jvm.RoadKit.slotOf Z cU "priceMoney" "[J"), (b1, Jvm.RoadKit.slotOf Z cU "priceSales" "[J"), (b1, Jvm.RoadKit.slotOf Z cU "holder" "[I"), (b1, Jvm.RoadKit.slotOf Z cU "utilityMoney" "[J"), (b1, Jvm.RoadKit.slotOf Z cU "utilitySales" "[J"), (b1, Jvm.RoadKit.slotOf Z cU "held" "[I"), (b1, Jvm.RoadKit.slotOf Z cU "distMoney" "[J"), (b1, Jvm.RoadKit.slotOf Z cU "distSales" "[J"), (b1, Jvm.RoadKit.slotOf Z cU "hops" "[I"), (b1, Jvm.RoadKit.slotOf Z cU "pred" "[I"), (b1, Jvm.RoadKit.slotOf Z cU "predOffer" "[I"), (b1, Jvm.RoadKit.slotOf Z cU "mark" "[B"), (b1, Jvm.RoadKit.slotOf Z cU "heap" "[I"), (b1, Jvm.RoadKit.slotOf Z cU "heapIndex" "[I"), (b1, Jvm.RoadKit.slotOf Z cU "touched" "[I"), (b1, Jvm.RoadKit.slotOf Z cU "changed" "[Z"), (b1, Jvm.RoadKit.slotOf Z cU "changedItems" "[I")]).wrF W1 (Or.inl (List.mem_of_getElem? (i := 0) rfl))).wrF W4 (Or.inl (List.mem_of_getElem? (i := 1) rfl))).wrF W7 (Or.inl (List.mem_of_getElem? (i := 2) rfl))).wrF W10 (Or.inl (List.mem_of_getElem? (i := 3) rfl))).ext E12).wrF W16 (Or.inl (List.mem_of_getElem? (i := 4) rfl))).ext E17).wrF W21 (Or.inl (List.mem_of_getElem? (i := 5) rfl))).ext E22).wrF W26 (Or.inl (List.mem_of_getElem? (i := 6) rfl))).trans K29 (allS (Or.inr (Nat.le_trans (((((((((oKe.refl h0 [] [(b1, Jvm.RoadKit.slotOf Z cU "displaced" "I"), (b1, Jvm.RoadKit.slotOf Z cU "offerStart" "[I"), (b1, Jvm.RoadKit.slotOf Z cU "offerItem" "[I"), (b1, Jvm.RoadKit.slotOf Z cU "offerWeight" "[J"), (b1, Jvm.RoadKit.slotOf Z cU "priceMoney" "[J"), (b1, Jvm.RoadKit.slotOf Z cU "priceSales" "[J"), (b1, Jvm.RoadKit.slotOf Z cU "holder" "[I"), (b1, Jvm.RoadKit.slotOf Z cU "utilityMoney" "[J"), (b1, Jvm.RoadKit.slotOf Z cU "utilitySales" "[J"), (b1, Jvm.RoadKit.slotOf Z cU "held" "[I"), (b1, Jvm.RoadKit.slotOf Z cU "distMoney" "[J"), (b1, Jvm.RoadKit.slotOf Z cU "distSales" "[J"), (b1, Jvm.RoadKit.slotOf Z cU "hops" "[I"), (b1, Jvm.RoadKit.slotOf Z cU "pred" "[I"), (b1, Jvm.RoadKit.slotOf Z cU "predOffer" "[I"), (b1, Jvm.RoadKit.slotOf Z cU "mark" "[B"), (b1, Jvm.RoadKit.slotOf Z cU "heap" "[I"), (b1, Jvm.RoadKit.slotOf Z cU "heapIndex" "[I"), (b1, Jvm.RoadKit.slotOf Z cU "touched" "[I"), (b1, Jvm.RoadKit.slotOf Z cU "changed" "[Z"), (b1, Jvm.RoadKit.slotOf Z cU "changedItems" "[I")]).wrF W1 (Or.inl (List.mem_of_getElem? (i := 0) rfl))).wrF W4 (Or.inl (List.mem_of_getElem? (i := 1) rfl))).wrF W7 (Or.inl (List.mem_of_getElem? (i := 2) rfl))).wrF W10 (Or.inl (List.mem_of_getElem? (i := 3) rfl))).ext E12).wrF W16 (Or.inl (List.mem_of_getElem? (i := 4) rfl))).ext E17).wrF W21 (Or.inl (List.mem_of_getElem? (i := 5) rfl))).1 (Nat.le_of_eq g_a22.symm))) all0) oA0).ext E31).wrF W35 (Or.inl (List.mem_of_getElem? (i := 7) rfl))).ext E36).wrF W40 (Or.inl (List.mem_of_getElem? (i := 8) rfl))).1 (Nat.le_of_eq g_a41.symm))) all0) oA0).ext E50).wrF W54 (Or.inl (List.mem_of_getElem? (i := 10) rfl))).ext E55).wrF W59 (Or.inl (List.mem_of_getElem? (i := 11) rfl))).ext E60).wrF W64 (Or.inl (List.mem_of_getElem? (i := 12) rfl))).ext E65).wrF W69 (Or.inl (List.mem_of_getElem? (i := 13) rfl))).ext E70).wrF W74 (Or.inl (List.mem_of_getElem? (i := 14) rfl))).ext E75).wrF W79 (Or.inl (List.mem_of_getElem? (i := 15) rfl))).ext E80).wrF W84 (Or.inl (List.mem_of_getElem? (i := 16) rfl))).ext E85).wrF W89 (Or.inl (List.mem_of_getElem? (i := 17) rfl))).ext E90).wrF W94 (Or.inl (List.mem_of_getElem? (i := 18) rfl))).ext E95).wrF W99 (Or.inl (List.mem_of_getElem? (i := 19) rfl))).ext E100).wrF W104 (Or.inl (List.mem_of_getElem? (i := 20) rfl))), (Nat.le_trans (((((oKe.refl h0 [] [(b1, Jvm.RoadKit.slotOf Z cU "displaced" "I"), (b1, Jvm.RoadKit.slotOf Z cU "offerStart" "[I"), (b1, Jvm.RoadKit.slotOf Z cU "offerItem" "[I"), (b1, Jvm.RoadKit.slotOf Z cU "offerWeight" "[J"), (b1, Jvm.RoadKit.slotOf Z cU "priceMoney" "[J"), (b1, Jvm.RoadKit.slotOf Z cU "priceSales" "[J"), (b1, Jvm.RoadKit.slotOf Z cU "holder" "[I"), (b1, Jvm.RoadKit.slotOf Z cU "utilityMoney" "[J"), (b1, Jvm.RoadKit.slotOf Z cU "utilitySales" "[J"), (b1, Jvm.RoadKit.slotOf Z cU "held" "[I"), (b1, Jvm.RoadKit.slotOf Z cU "distMoney" "[J"), (b1, Jvm.RoadKit.slotOf Z cU "distSales" "[J"), (b1, Jvm.RoadKit.slotOf Z cU "hops" "[I"), (b1, Jvm.RoadKit.slotOf Z cU "pred" "[I"), (b1, Jvm.RoadKit.slotOf Z cU "predOffer" "[I"), (b1, Jvm.RoadKit.slotOf Z cU "mark" "[B"), (b1, Jvm.RoadKit.slotOf Z cU "heap" "[I"), (b1, Jvm.RoadKit.slotOf Z cU "heapIndex" "[I"), (b1, Jvm.RoadKit.slotOf Z cU "touched" "[I"), (b1, Jvm.RoadKit.slotOf Z cU "changed" "[Z"), (b1, Jvm.RoadKit.slotOf Z cU "changedItems" "[I")]).wrF W1 (Or.inl (List.mem_of_getElem? (i := 0) rfl))).wrF W4 (Or.inl (List.mem_of_getElem? (i := 1) rfl))).wrF W7 (Or.inl (List.mem_of_getElem? (i := 2) rfl))).wrF W10 (Or.inl (List.mem_of_getElem? (i := 3) rfl))).1 (Nat.le_of_eq g_a12.symm)), (Nat.lt_of_lt_of_le (Nat.lt_of_lt_of_le A12l.lt (Nat.le_of_eq W16.size.symm)) (Nat.le_of_eq g_a17.symm)), (Nat.lt_of_lt_of_le (Nat.lt_of_lt_of_le A17l.lt (Nat.le_of_eq W21.size.symm)) (Nat.le_of_eq g_a22.symm)), (Nat.lt_of_lt_of_le f29_0.lt (Nat.le_of_eq g_a31.symm)), (Nat.lt_of_lt_of_le (Nat.lt_of_lt_of_le A31l.lt (Nat.le_of_eq W35.size.symm)) (Nat.le_of_eq g_a36.symm)), (Nat.lt_of_lt_of_le (Nat.lt_of_lt_of_le A36l.lt (Nat.le_of_eq W40.size.symm)) (Nat.le_of_eq g_a41.symm)), (Nat.lt_of_lt_of_le f48_0.lt (Nat.le_of_eq g_a50.symm)), (Nat.lt_of_lt_of_le (Nat.lt_of_lt_of_le A50l.lt (Nat.le_of_eq W54.size.symm)) (Nat.le_of_eq g_a55.symm)), (Nat.lt_of_lt_of_le (Nat.lt_of_lt_of_le A55l.lt (Nat.le_of_eq W59.size.symm)) (Nat.le_of_eq g_a60.symm)), (Nat.lt_of_lt_of_le (Nat.lt_of_lt_of_le A60l.lt (Nat.le_of_eq W64.size.symm)) (Nat.le_of_eq g_a65.symm)), (Nat.lt_of_lt_of_le (Nat.lt_of_lt_of_le A65l.lt (Nat.le_of_eq W69.size.symm)) (Nat.le_of_eq g_a70.symm)), (Nat.lt_of_lt_of_le (Nat.lt_of_lt_of_le A70l.lt (Nat.le_of_eq W74.size.symm)) (Nat.le_of_eq g_a75.symm)), (Nat.lt_of_lt_of_le (Nat.lt_of_lt_of_le A75l.lt (Nat.le_of_eq W79.size.symm)) (Nat.le_of_eq g_a80.symm)), (Nat.lt_of_lt_of_le (Nat.lt_of_lt_of_le A80l.lt (Nat.le_of_eq W84.size.symm)) (Nat.le_of_eq g_a85.symm)), (Nat.lt_of_lt_of_le (Nat.lt_of_lt_of_le A85l.lt (Nat.le_of_eq W89.size.symm)) (Nat.le_of_eq g_a90.symm)), (Nat.lt_of_lt_of_le (Nat.lt_of_lt_of_le A90l.lt (Nat.le_of_eq W94.size.symm)) (Nat.le_of_eq g_a95.symm)), (Nat.lt_of_lt_of_le (Nat.lt_of_lt_of_le A95l.lt (Nat.le_of_eq W99.size.symm)) (Nat.le_of_eq g_a100.symm)), f105, f106, f107, f108, f112, f113, f117, f118, f120, f121, f124, f125, f128, f129, f130, f131, f133, f134, f136, f137, f139, f140, f142, f143, f145, f146, f148, f149, f151, f152, f154, f155, f157, f158, f160, f161, f163, f104w⟩
theorem pd_507326 : parseMethodDescriptor "(I[I[I[J)V" = some ⟨[.int, (.array .int), (.array .int), (.array .long)], none⟩ := by decide +kernel
theorem ef_4 (m : MethodId) (x0 : Addr) (x1 : Int32) (x2 : Int32) : entryFrame m #[.ref x0, .int x1, .int x2] 12 = mkF m 0 #[.val (.ref x0), .val (.int x1), .val (.int x2), .unset, .unset, .unset, .unset, .unset, .unset, .unset, .unset, .unset] [] := by first | (simp [entryFrame, mkF, argsToLocals, Value.category]; done) | rfl
theorem or0 (v0 dd v1 v2 : Int64) (r_v0 : 0 ≤ v0.toInt ∧ v0.toInt < 1152921504606846976) (r_dd : 1 ≤ dd.toInt ∧ dd.toInt ≤ 1152921504606846976) (r_v1 : v1.toInt = v0.toInt + dd.toInt) (r_v2 : 0 ≤ v2.toInt ∧ v2.toInt ≤ 1152921504606846976)  : ¬ v0 < (0 : Int64) := by (try simp only [Int64.lt_iff_toInt_lt, ← Int64.toInt_inj, Int64.reduceToInt] at *) <;> omega
theorem ef_5 (m : MethodId) (x0 : Int64) (x1 : Int64) : entryFrame m #[.long x0, .long x1] 6 = mkF m 0 #[.val (.long x0), .second, .val (.long x1), .second, .unset, .unset] [] := by first | (simp [entryFrame, mkF, argsToLocals, Value.category]; done) | rfl
theorem d5_0 : decode jdk_29_method_27_code 0 = .ok (.lload_n 0, 1) := by decide +kernel
theorem d5_1 : decode jdk_29_method_27_code 1 = .ok (.lload_n 2, 1) := by decide +kernel
theorem d5_2 : decode jdk_29_method_27_code 2 = .ok (.lsub, 1) := by decide +kernel
theorem d5_3 : decode jdk_29_method_27_code 3 = .ok (.lstore 4, 2) := by decide +kernel
theorem d5_5 : decode jdk_29_method_27_code 5 = .ok (.lload_n 0, 1) := by decide +kernel
theorem d5_6 : decode jdk_29_method_27_code 6 = .ok (.lload_n 2, 1) := by decide +kernel
theorem d5_7 : decode jdk_29_method_27_code 7 = .ok (.lxor, 1) := by decide +kernel
theorem d5_8 : decode jdk_29_method_27_code 8 = .ok (.lload_n 0, 1) := by decide +kernel
theorem d5_9 : decode jdk_29_method_27_code 9 = .ok (.lload 4, 2) := by decide +kernel
theorem d5_11 : decode jdk_29_method_27_code 11 = .ok (.lxor, 1) := by decide +kernel
theorem d5_12 : decode jdk_29_method_27_code 12 = .ok (.land, 1) := by decide +kernel
theorem d5_13 : decode jdk_29_method_27_code 13 = .ok (.lconst 0, 1) := by decide +kernel
theorem d5_14 : decode jdk_29_method_27_code 14 = .ok (.lcmp, 1) := by decide +kernel
theorem d5_15 : decode jdk_29_method_27_code 15 = .ok (.ifCond .ge 13, 3) := by decide +kernel
theorem d5_28 : decode jdk_29_method_27_code 28 = .ok (.lload 4, 2) := by decide +kernel
theorem d5_30 : decode jdk_29_method_27_code 30 = .ok (.lreturn, 1) := by decide +kernel
set_option maxRecDepth 65536 in
set_option maxHeartbeats 40000000 in
theorem ac5_3 (l : Launch) (Z : State) (a0 : Array Value) (hw : oHw a0 Z) (h0 : Heap) (n0 : Nat) (Z0 : n0 ≤ h0.size) (y1 : Int64) (p1 : ¬ ((y1 ^^^ (0 : Int64)) &&& (y1 ^^^ (y1 - (0 : Int64)))) < (0 : Int64)) :
    oMet l Z (⟨"java/lang/Math", "subtractExact", "(JJ)J"⟩ : MethodName) jdk_29_method_27_code 6 (some .long) [] ({ frames := 0, cells := 0, slots := 0, locals := 0 } : Room) 0 0 n0 #[.long y1, .long 0] h0 (fun v h => v = some (.long (y1 - (0 : Int64))) ∧ oKe h0 h [] []) := by
  refine oMet.intro (Jvm.Free.JP.mathPlain rfl (by decide +kernel)) (fun m => ef_5 m y1 (0 : Int64)) ?_
  intro op oe os m obl omt ocd C
  refine oLloadN C d5_0 rfl rfl ?_
  refine oLloadN C d5_1 rfl rfl ?_
  refine oLsub C d5_2 rfl ?_
  refine oLstore C d5_3 (Ls' := #[.val (.long y1), .second, .val (.long 0), .second, .val (.long (y1 - (0 : Int64))), .second]) rfl (q := 5) rfl ?_
  refine oLloadN C d5_5 rfl rfl ?_
  refine oLloadN C d5_6 rfl rfl ?_
  refine oLxor C d5_7 rfl ?_
  refine oLloadN C d5_8 rfl rfl ?_
  refine oLload C d5_9 rfl rfl ?_
  refine oLxor C d5_11 rfl ?_
  refine oLand C d5_12 rfl ?_
  refine oLconst C d5_13 (z := 0) rfl rfl ?_
  refine oLcmp_ge C d5_14 rfl d5_15 (q := 28) (by decide) (by decide) (r := 18) rfl (fun hc14 => ?_) (fun hq => absurd hq (p1))
  refine oLload C d5_28 rfl rfl ?_
  refine oRetL C d5_30 (by decide) (by decide) ?_
  exact ⟨rfl, (oKe.refl h0 [] [])⟩
theorem or1 (v0 dd v1 v2 : Int64) (r_v0 : 0 ≤ v0.toInt ∧ v0.toInt < 1152921504606846976) (r_dd : 1 ≤ dd.toInt ∧ dd.toInt ≤ 1152921504606846976) (r_v1 : v1.toInt = v0.toInt + dd.toInt) (r_v2 : 0 ≤ v2.toInt ∧ v2.toInt ≤ 1152921504606846976)  : ¬ ((v0 ^^^ (0 : Int64)) &&& (v0 ^^^ (v0 - (0 : Int64)))) < (0 : Int64) := own_subx v0 (0 : Int64) (by have q0 := c_lsub v0 (0 : Int64); have q1 := rng64 (v0 - (0 : Int64)); (try simp only [Int64.lt_iff_toInt_lt, ← Int64.toInt_inj, Int64.reduceToInt] at *) <;> omega) (by have q0 := c_lsub v0 (0 : Int64); have q1 := rng64 (v0 - (0 : Int64)); (try simp only [Int64.lt_iff_toInt_lt, ← Int64.toInt_inj, Int64.reduceToInt] at *) <;> omega)
theorem pd_212481 : parseMethodDescriptor "(JJ)J" = some ⟨[.long, .long], some .long⟩ := by decide +kernel
theorem ef_6 (m : MethodId) (x0 : Int64) (x1 : Int64) (x2 : Int64) (x3 : Int64) : entryFrame m #[.long x0, .long x1, .long x2, .long x3] 9 = mkF m 0 #[.val (.long x0), .second, .val (.long x1), .second, .val (.long x2), .second, .val (.long x3), .second, .unset] [] := by first | (simp [entryFrame, mkF, argsToLocals, Value.category]; done) | rfl
theorem ef_7 (m : MethodId) (x0 : Int64) (x1 : Int64) : entryFrame m #[.long x0, .long x1] 4 = mkF m 0 #[.val (.long x0), .second, .val (.long x1), .second] [] := by first | (simp [entryFrame, mkF, argsToLocals, Value.category]; done) | rfl
theorem pn_77341 : plainName "java/lang/Long" = true := by first | (simp [plainName, overriddenIn]; done) | decide +kernel
theorem d7_0 : decode jdk_35_method_42_code 0 = .ok (.lload_n 0, 1) := by decide +kernel
theorem d7_1 : decode jdk_35_method_42_code 1 = .ok (.lload_n 2, 1) := by decide +kernel
theorem d7_2 : decode jdk_35_method_42_code 2 = .ok (.lcmp, 1) := by decide +kernel
theorem d7_3 : decode jdk_35_method_42_code 3 = .ok (.ifCond .ge 7, 3) := by decide +kernel
theorem d7_10 : decode jdk_35_method_42_code 10 = .ok (.lload_n 0, 1) := by decide +kernel
theorem d7_11 : decode jdk_35_method_42_code 11 = .ok (.lload_n 2, 1) := by decide +kernel
theorem d7_12 : decode jdk_35_method_42_code 12 = .ok (.lcmp, 1) := by decide +kernel
theorem d7_13 : decode jdk_35_method_42_code 13 = .ok (.ifCond .ne 7, 3) := by decide +kernel
theorem d7_16 : decode jdk_35_method_42_code 16 = .ok (.iconst 0, 1) := by decide +kernel
theorem d7_17 : decode jdk_35_method_42_code 17 = .ok (.goto 4, 3) := by decide +kernel
theorem d7_21 : decode jdk_35_method_42_code 21 = .ok (.ireturn, 1) := by decide +kernel
set_option maxRecDepth 65536 in
set_option maxHeartbeats 40000000 in
theorem ac7_4 (l : Launch) (Z : State) (a0 : Array Value) (hw : oHw a0 Z) (h0 : Heap) (n0 : Nat) (Z0 : n0 ≤ h0.size) (y1 : Int64)  :
    oMet l Z (⟨"java/lang/Long", "compare", "(JJ)I"⟩ : MethodName) jdk_35_method_42_code 4 (some .int) [] ({ frames := 0, cells := 0, slots := 0, locals := 0 } : Room) 0 0 n0 #[.long y1, .long y1] h0 (fun v h => v = some (.int 0) ∧ oKe h0 h [] []) := by
  refine oMet.intro (plainFor_of_name pn_77341) (fun m => ef_7 m y1 y1) ?_
  intro op oe os m obl omt ocd C
  refine oLloadN C d7_0 rfl rfl ?_
  refine oLloadN C d7_1 rfl rfl ?_
  refine oLcmp_ge C d7_2 rfl d7_3 (q := 10) (by decide) (by decide) (r := 6) rfl (fun hc2 => ?_) (fun hq => absurd hq (Int64.lt_irrefl))
  refine oLloadN C d7_10 rfl rfl ?_
  refine oLloadN C d7_11 rfl rfl ?_
  refine oLcmp_ne C d7_12 rfl d7_13 (q := 20) (by decide) (by decide) (r := 16) rfl (fun hq => absurd hq (not_not_intro rfl)) (fun hc12 => ?_)
  refine oIconst C d7_16 (z := 0) rfl rfl ?_
  refine oGoto C d7_17 (q := 21) (by decide) (by decide) ?_
  refine oRetI C d7_21 (by decide) (by decide) ?_
  exact ⟨rfl, (oKe.refl h0 [] [])⟩
theorem pd_212480 : parseMethodDescriptor "(JJ)I" = some ⟨[.long, .long], some .int⟩ := by decide +kernel
set_option maxRecDepth 65536 in
set_option maxHeartbeats 40000000 in
theorem ac7_5 (l : Launch) (Z : State) (a0 : Array Value) (hw : oHw a0 Z) (h0 : Heap) (n0 : Nat) (Z0 : n0 ≤ h0.size)   :
    oMet l Z (⟨"java/lang/Long", "compare", "(JJ)I"⟩ : MethodName) jdk_35_method_42_code 4 (some .int) [] ({ frames := 0, cells := 0, slots := 0, locals := 0 } : Room) 0 0 n0 #[.long 1, .long 1] h0 (fun v h => v = some (.int 0) ∧ oKe h0 h [] []) := by
  refine oMet.intro (plainFor_of_name pn_77341) (fun m => ef_7 m (1 : Int64) (1 : Int64)) ?_
  intro op oe os m obl omt ocd C
  refine oLloadN C d7_0 rfl rfl ?_
  refine oLloadN C d7_1 rfl rfl ?_
  refine oLcmp_ge C d7_2 rfl d7_3 (q := 10) (by decide) (by decide) (r := 6) rfl (fun hc2 => ?_) (fun hq => absurd hq ((by decide)))
  refine oLloadN C d7_10 rfl rfl ?_
  refine oLloadN C d7_11 rfl rfl ?_
  refine oLcmp_ne C d7_12 rfl d7_13 (q := 20) (by decide) (by decide) (r := 16) rfl (fun hq => absurd hq ((by decide))) (fun hc12 => ?_)
  refine oIconst C d7_16 (z := 0) rfl rfl ?_
  refine oGoto C d7_17 (q := 21) (by decide) (by decide) ?_
  refine oRetI C d7_21 (by decide) (by decide) ?_
  exact ⟨rfl, (oKe.refl h0 [] [])⟩
theorem d6_0 : decode prog_54_method_28_code 0 = .ok (.lload_n 0, 1) := by decide +kernel
theorem d6_1 : decode prog_54_method_28_code 1 = .ok (.lload 4, 2) := by decide +kernel
theorem d6_3 : decode prog_54_method_28_code 3 = .ok (.invokestatic 205, 3) := by decide +kernel
theorem d6_6 : decode prog_54_method_28_code 6 = .ok (.istore 8, 2) := by decide +kernel
theorem d6_8 : decode prog_54_method_28_code 8 = .ok (.iload 8, 2) := by decide +kernel
theorem d6_10 : decode prog_54_method_28_code 10 = .ok (.ifCond .eq 8, 3) := by decide +kernel
theorem d6_18 : decode prog_54_method_28_code 18 = .ok (.lload_n 2, 1) := by decide +kernel
theorem d6_19 : decode prog_54_method_28_code 19 = .ok (.lload 6, 2) := by decide +kernel
theorem d6_21 : decode prog_54_method_28_code 21 = .ok (.invokestatic 205, 3) := by decide +kernel
theorem d6_24 : decode prog_54_method_28_code 24 = .ok (.ireturn, 1) := by decide +kernel
set_option maxRecDepth 65536 in
set_option maxHeartbeats 40000000 in
theorem ac6_6 (l : Launch) (Z : State) (a0 : Array Value) (hw : oHw a0 Z) (h0 : Heap) (n0 : Nat) (Z0 : n0 ≤ h0.size) (y1 : Int64)  :
    oMet l Z (⟨cU, "compare", "(JJJJ)I"⟩ : MethodName) prog_54_method_28_code 9 (some .int) [] ({ frames := 1, cells := 0, slots := 0, locals := 15 } : Room) 0 0 n0 #[.long y1, .long 1, .long y1, .long 1] h0 (fun v h => v = some (.int 0) ∧ oKe h0 h [] []) := by
  refine oMet.intro (plainFor_of_name pn_944982) (fun m => ef_6 m y1 (1 : Int64) y1 (1 : Int64)) ?_
  intro op oe os m obl omt ocd C
  refine oLloadN C d6_0 rfl rfl ?_
  refine oLload C d6_1 rfl rfl ?_
  refine oCallS C (w72 hw) (w73 hw) (w74 hw) (w75 hw) d6_3 (by decide) pd_212480 rfl rfl (argsL := [.long y1, .long y1]) (rest := []) rfl (W := 0) rfl (q := 6) rfl (by decide) (by decide) (by decide) (by decide) (ac7_4 l Z a0 hw _ n0 Z0 y1 ) (oRQ ?_)
  rintro h1 K1
  refine oIstore C d6_6 (Ls' := #[.val (.long y1), .second, .val (.long 1), .second, .val (.long y1), .second, .val (.long 1), .second, .val (.int 0)]) rfl (q := 8) rfl ?_
  refine oIload C d6_8 rfl rfl ?_
  refine oIf_eq C d6_10 (q := 18) (by decide) (by decide) (r := 13) rfl (fun hc10 => ?_) (fun hq => absurd hq ((by decide)))
  refine oLloadN C d6_18 rfl rfl ?_
  refine oLload C d6_19 rfl rfl ?_
  have z3 := (Nat.le_trans Z0 K1.1)
  refine oCallS C (w72 hw) (w73 hw) (w74 hw) (w75 hw) d6_21 (by decide) pd_212480 rfl rfl (argsL := [.long 1, .long 1]) (rest := []) rfl (W := 0) rfl (q := 24) rfl (by decide) (by decide) (by decide) (by decide) (ac7_5 l Z a0 hw _ n0 z3  ) (oRQ ?_)
  rintro h2 K2
  refine oRetI C d6_24 (by decide) (by decide) ?_
  exact ⟨rfl, (((oKe.refl h0 [] []).trans K1 all0 oA0).trans K2 all0 oA0)⟩
theorem pd_567728 : parseMethodDescriptor "(JJJJ)I" = some ⟨[.long, .long, .long, .long], some .int⟩ := by decide +kernel
theorem d4_0 : decode prog_54_method_8_code 0 = .ok (.iload_n 2, 1) := by decide +kernel
theorem d4_1 : decode prog_54_method_8_code 1 = .ok (.aload_n 0, 1) := by decide +kernel
theorem d4_2 : decode prog_54_method_8_code 2 = .ok (.getfield 13, 3) := by decide +kernel
theorem d4_5 : decode prog_54_method_8_code 5 = .ok (.iload_n 1, 1) := by decide +kernel
theorem d4_6 : decode prog_54_method_8_code 6 = .ok (.iaload, 1) := by decide +kernel
theorem d4_7 : decode prog_54_method_8_code 7 = .ok (.if_icmp .lt 26, 3) := by decide +kernel
theorem d4_10 : decode prog_54_method_8_code 10 = .ok (.iload_n 2, 1) := by decide +kernel
theorem d4_11 : decode prog_54_method_8_code 11 = .ok (.aload_n 0, 1) := by decide +kernel
theorem d4_12 : decode prog_54_method_8_code 12 = .ok (.getfield 13, 3) := by decide +kernel
theorem d4_15 : decode prog_54_method_8_code 15 = .ok (.iload_n 1, 1) := by decide +kernel
theorem d4_16 : decode prog_54_method_8_code 16 = .ok (.iconst 1, 1) := by decide +kernel
theorem d4_17 : decode prog_54_method_8_code 17 = .ok (.iadd, 1) := by decide +kernel
theorem d4_18 : decode prog_54_method_8_code 18 = .ok (.iaload, 1) := by decide +kernel
theorem d4_19 : decode prog_54_method_8_code 19 = .ok (.if_icmp .ge 14, 3) := by decide +kernel
theorem d4_22 : decode prog_54_method_8_code 22 = .ok (.aload_n 0, 1) := by decide +kernel
theorem d4_23 : decode prog_54_method_8_code 23 = .ok (.getfield 20, 3) := by decide +kernel
theorem d4_26 : decode prog_54_method_8_code 26 = .ok (.iload_n 2, 1) := by decide +kernel
theorem d4_27 : decode prog_54_method_8_code 27 = .ok (.laload, 1) := by decide +kernel
theorem d4_28 : decode prog_54_method_8_code 28 = .ok (.lconst 0, 1) := by decide +kernel
theorem d4_29 : decode prog_54_method_8_code 29 = .ok (.lcmp, 1) := by decide +kernel
theorem d4_30 : decode prog_54_method_8_code 30 = .ok (.ifCond .ge 18, 3) := by decide +kernel
theorem d4_48 : decode prog_54_method_8_code 48 = .ok (.aload_n 0, 1) := by decide +kernel
theorem d4_49 : decode prog_54_method_8_code 49 = .ok (.getfield 17, 3) := by decide +kernel
theorem d4_52 : decode prog_54_method_8_code 52 = .ok (.iload_n 2, 1) := by decide +kernel
theorem d4_53 : decode prog_54_method_8_code 53 = .ok (.iaload, 1) := by decide +kernel
theorem d4_54 : decode prog_54_method_8_code 54 = .ok (.istore_n 3, 1) := by decide +kernel
theorem d4_55 : decode prog_54_method_8_code 55 = .ok (.aload_n 0, 1) := by decide +kernel
theorem d4_56 : decode prog_54_method_8_code 56 = .ok (.getfield 45, 3) := by decide +kernel
theorem d4_59 : decode prog_54_method_8_code 59 = .ok (.iload_n 1, 1) := by decide +kernel
theorem d4_60 : decode prog_54_method_8_code 60 = .ok (.iaload, 1) := by decide +kernel
theorem d4_61 : decode prog_54_method_8_code 61 = .ok (.iconst (-1), 1) := by decide +kernel
theorem d4_62 : decode prog_54_method_8_code 62 = .ok (.if_icmp .ne 13, 3) := by decide +kernel
theorem d4_65 : decode prog_54_method_8_code 65 = .ok (.aload_n 0, 1) := by decide +kernel
theorem d4_66 : decode prog_54_method_8_code 66 = .ok (.getfield 30, 3) := by decide +kernel
theorem d4_69 : decode prog_54_method_8_code 69 = .ok (.iload_n 3, 1) := by decide +kernel
theorem d4_70 : decode prog_54_method_8_code 70 = .ok (.iaload, 1) := by decide +kernel
theorem d4_71 : decode prog_54_method_8_code 71 = .ok (.iconst (-1), 1) := by decide +kernel
theorem d4_72 : decode prog_54_method_8_code 72 = .ok (.if_icmp .eq 18, 3) := by decide +kernel
theorem d4_90 : decode prog_54_method_8_code 90 = .ok (.aload_n 0, 1) := by decide +kernel
theorem d4_91 : decode prog_54_method_8_code 91 = .ok (.getfield 20, 3) := by decide +kernel
theorem d4_94 : decode prog_54_method_8_code 94 = .ok (.iload_n 2, 1) := by decide +kernel
theorem d4_95 : decode prog_54_method_8_code 95 = .ok (.laload, 1) := by decide +kernel
theorem d4_96 : decode prog_54_method_8_code 96 = .ok (.aload_n 0, 1) := by decide +kernel
theorem d4_97 : decode prog_54_method_8_code 97 = .ok (.getfield 24, 3) := by decide +kernel
theorem d4_100 : decode prog_54_method_8_code 100 = .ok (.iload_n 3, 1) := by decide +kernel
theorem d4_101 : decode prog_54_method_8_code 101 = .ok (.laload, 1) := by decide +kernel
theorem d4_102 : decode prog_54_method_8_code 102 = .ok (.invokestatic 102, 3) := by decide +kernel
theorem d4_105 : decode prog_54_method_8_code 105 = .ok (.lstore 4, 2) := by decide +kernel
theorem d4_107 : decode prog_54_method_8_code 107 = .ok (.lconst 1, 1) := by decide +kernel
theorem d4_108 : decode prog_54_method_8_code 108 = .ok (.aload_n 0, 1) := by decide +kernel
theorem d4_109 : decode prog_54_method_8_code 109 = .ok (.getfield 27, 3) := by decide +kernel
theorem d4_112 : decode prog_54_method_8_code 112 = .ok (.iload_n 3, 1) := by decide +kernel
theorem d4_113 : decode prog_54_method_8_code 113 = .ok (.laload, 1) := by decide +kernel
theorem d4_114 : decode prog_54_method_8_code 114 = .ok (.lsub, 1) := by decide +kernel
theorem d4_115 : decode prog_54_method_8_code 115 = .ok (.lstore 6, 2) := by decide +kernel
theorem d4_117 : decode prog_54_method_8_code 117 = .ok (.aload_n 0, 1) := by decide +kernel
theorem d4_118 : decode prog_54_method_8_code 118 = .ok (.getfield 13, 3) := by decide +kernel
theorem d4_121 : decode prog_54_method_8_code 121 = .ok (.iload_n 1, 1) := by decide +kernel
theorem d4_122 : decode prog_54_method_8_code 122 = .ok (.iaload, 1) := by decide +kernel
theorem d4_123 : decode prog_54_method_8_code 123 = .ok (.istore 8, 2) := by decide +kernel
theorem d4_125 : decode prog_54_method_8_code 125 = .ok (.iload 8, 2) := by decide +kernel
theorem d4_127 : decode prog_54_method_8_code 127 = .ok (.aload_n 0, 1) := by decide +kernel
theorem d4_128 : decode prog_54_method_8_code 128 = .ok (.getfield 13, 3) := by decide +kernel
theorem d4_131 : decode prog_54_method_8_code 131 = .ok (.iload_n 1, 1) := by decide +kernel
theorem d4_132 : decode prog_54_method_8_code 132 = .ok (.iconst 1, 1) := by decide +kernel
theorem d4_133 : decode prog_54_method_8_code 133 = .ok (.iadd, 1) := by decide +kernel
theorem d4_134 : decode prog_54_method_8_code 134 = .ok (.iaload, 1) := by decide +kernel
theorem d4_135 : decode prog_54_method_8_code 135 = .ok (.if_icmp .ge 89, 3) := by decide +kernel
theorem d4_138 : decode prog_54_method_8_code 138 = .ok (.aload_n 0, 1) := by decide +kernel
theorem d4_139 : decode prog_54_method_8_code 139 = .ok (.getfield 20, 3) := by decide +kernel
theorem d4_142 : decode prog_54_method_8_code 142 = .ok (.iload 8, 2) := by decide +kernel
theorem d4_144 : decode prog_54_method_8_code 144 = .ok (.laload, 1) := by decide +kernel
theorem d4_145 : decode prog_54_method_8_code 145 = .ok (.lconst 0, 1) := by decide +kernel
theorem d4_146 : decode prog_54_method_8_code 146 = .ok (.lcmp, 1) := by decide +kernel
theorem d4_147 : decode prog_54_method_8_code 147 = .ok (.ifCond .ge 6, 3) := by decide +kernel
theorem d4_153 : decode prog_54_method_8_code 153 = .ok (.aload_n 0, 1) := by decide +kernel
theorem d4_154 : decode prog_54_method_8_code 154 = .ok (.getfield 17, 3) := by decide +kernel
theorem d4_157 : decode prog_54_method_8_code 157 = .ok (.iload 8, 2) := by decide +kernel
theorem d4_159 : decode prog_54_method_8_code 159 = .ok (.iaload, 1) := by decide +kernel
theorem d4_160 : decode prog_54_method_8_code 160 = .ok (.istore 9, 2) := by decide +kernel
theorem d4_162 : decode prog_54_method_8_code 162 = .ok (.aload_n 0, 1) := by decide +kernel
theorem d4_163 : decode prog_54_method_8_code 163 = .ok (.getfield 20, 3) := by decide +kernel
theorem d4_166 : decode prog_54_method_8_code 166 = .ok (.iload 8, 2) := by decide +kernel
theorem d4_168 : decode prog_54_method_8_code 168 = .ok (.laload, 1) := by decide +kernel
theorem d4_169 : decode prog_54_method_8_code 169 = .ok (.aload_n 0, 1) := by decide +kernel
theorem d4_170 : decode prog_54_method_8_code 170 = .ok (.getfield 24, 3) := by decide +kernel
theorem d4_173 : decode prog_54_method_8_code 173 = .ok (.iload 9, 2) := by decide +kernel
theorem d4_175 : decode prog_54_method_8_code 175 = .ok (.laload, 1) := by decide +kernel
theorem d4_176 : decode prog_54_method_8_code 176 = .ok (.invokestatic 102, 3) := by decide +kernel
theorem d4_179 : decode prog_54_method_8_code 179 = .ok (.lstore 10, 2) := by decide +kernel
theorem d4_181 : decode prog_54_method_8_code 181 = .ok (.lload 10, 2) := by decide +kernel
theorem d4_183 : decode prog_54_method_8_code 183 = .ok (.lconst 1, 1) := by decide +kernel
theorem d4_184 : decode prog_54_method_8_code 184 = .ok (.aload_n 0, 1) := by decide +kernel
theorem d4_185 : decode prog_54_method_8_code 185 = .ok (.getfield 27, 3) := by decide +kernel
theorem d4_188 : decode prog_54_method_8_code 188 = .ok (.iload 9, 2) := by decide +kernel
theorem d4_190 : decode prog_54_method_8_code 190 = .ok (.laload, 1) := by decide +kernel
theorem d4_191 : decode prog_54_method_8_code 191 = .ok (.lsub, 1) := by decide +kernel
theorem d4_192 : decode prog_54_method_8_code 192 = .ok (.lload 4, 2) := by decide +kernel
theorem d4_194 : decode prog_54_method_8_code 194 = .ok (.lload 6, 2) := by decide +kernel
theorem d4_196 : decode prog_54_method_8_code 196 = .ok (.invokestatic 107, 3) := by decide +kernel
theorem d4_199 : decode prog_54_method_8_code 199 = .ok (.ifCond .le 19, 3) := by decide +kernel
theorem d4_218 : decode prog_54_method_8_code 218 = .ok (.iinc 8 1, 3) := by decide +kernel
theorem d4_221 : decode prog_54_method_8_code 221 = .ok (.goto (-96), 3) := by decide +kernel
theorem d4_224 : decode prog_54_method_8_code 224 = .ok (.aload_n 0, 1) := by decide +kernel
theorem d4_225 : decode prog_54_method_8_code 225 = .ok (.getfield 30, 3) := by decide +kernel
theorem d4_228 : decode prog_54_method_8_code 228 = .ok (.iload_n 3, 1) := by decide +kernel
theorem d4_229 : decode prog_54_method_8_code 229 = .ok (.iload_n 1, 1) := by decide +kernel
theorem d4_230 : decode prog_54_method_8_code 230 = .ok (.iastore, 1) := by decide +kernel
theorem d4_231 : decode prog_54_method_8_code 231 = .ok (.aload_n 0, 1) := by decide +kernel
theorem d4_232 : decode prog_54_method_8_code 232 = .ok (.getfield 45, 3) := by decide +kernel
theorem d4_235 : decode prog_54_method_8_code 235 = .ok (.iload_n 1, 1) := by decide +kernel
theorem d4_236 : decode prog_54_method_8_code 236 = .ok (.iload_n 2, 1) := by decide +kernel
theorem d4_237 : decode prog_54_method_8_code 237 = .ok (.iastore, 1) := by decide +kernel
theorem d4_238 : decode prog_54_method_8_code 238 = .ok (.aload_n 0, 1) := by decide +kernel
theorem d4_239 : decode prog_54_method_8_code 239 = .ok (.getfield 39, 3) := by decide +kernel
theorem d4_242 : decode prog_54_method_8_code 242 = .ok (.iload_n 1, 1) := by decide +kernel
theorem d4_243 : decode prog_54_method_8_code 243 = .ok (.lload 4, 2) := by decide +kernel
theorem d4_245 : decode prog_54_method_8_code 245 = .ok (.lastore, 1) := by decide +kernel
theorem d4_246 : decode prog_54_method_8_code 246 = .ok (.aload_n 0, 1) := by decide +kernel
theorem d4_247 : decode prog_54_method_8_code 247 = .ok (.getfield 42, 3) := by decide +kernel
theorem d4_250 : decode prog_54_method_8_code 250 = .ok (.iload_n 1, 1) := by decide +kernel
theorem d4_251 : decode prog_54_method_8_code 251 = .ok (.lload 6, 2) := by decide +kernel
theorem d4_253 : decode prog_54_method_8_code 253 = .ok (.lastore, 1) := by decide +kernel
theorem d4_254 : decode prog_54_method_8_code 254 = .ok (.return_, 1) := by decide +kernel
set_option maxRecDepth 65536 in
set_option maxHeartbeats 40000000 in
theorem ac4_7 (l : Launch) (Z : State) (a0 : Array Value) (hw : oHw a0 Z) (h0 : Heap) (n0 : Nat) (Z0 : n0 ≤ h0.size) (b1 : Addr) (b2 : Addr) (b3 : Addr) (y4 : Int64) (y5 : Int64) (y6 : Int64) (b7 : Addr) (b8 : Addr) (b9 : Addr) (b10 : Addr) (b11 : Addr) (b12 : Addr) (b13 : Addr) (p1 : Fld Z h0 b1 cU "offerStart" "[I" (.ref b2)) (p2 : oAr Z h0 b2 .int [.int 0, .int 1, .int 2, .int 3]) (p3 : Fld Z h0 b1 cU "offerWeight" "[J" (.ref b3)) (p4 : oAr Z h0 b3 .long [.long y4, .long y5, .long y6]) (p5 : ¬ y4 < (0 : Int64)) (p6 : Fld Z h0 b1 cU "offerItem" "[I" (.ref b7)) (p7 : oAr Z h0 b7 .int [.int 0, .int 0, .int 0]) (p8 : Fld Z h0 b1 cU "held" "[I" (.ref b8)) (p9 : oAr Z h0 b8 .int [.int (-1), .int (-1), .int (-1)]) (p10 : Fld Z h0 b1 cU "holder" "[I" (.ref b9)) (p11 : oAr Z h0 b9 .int [.int (-1), .int (-1)]) (p12 : Fld Z h0 b1 cU "priceMoney" "[J" (.ref b10)) (p13 : oAr Z h0 b10 .long [.long 0, .long 0]) (p14 : ¬ ((y4 ^^^ (0 : Int64)) &&& (y4 ^^^ (y4 - (0 : Int64)))) < (0 : Int64)) (p15 : Fld Z h0 b1 cU "priceSales" "[J" (.ref b11)) (p16 : oAr Z h0 b11 .long [.long 0, .long 0]) (p17 : n0 ≤ b9) (p18 : b1 ≠ b9) (p19 : b8 ≠ b9) (p20 : n0 ≤ b8) (p21 : Fld Z h0 b1 cU "utilityMoney" "[J" (.ref b12)) (p22 : b1 ≠ b8) (p23 : oAr Z h0 b12 .long [.long 0, .long 0, .long 0]) (p24 : b12 ≠ b9) (p25 : b12 ≠ b8) (p26 : n0 ≤ b12) (p27 : Fld Z h0 b1 cU "utilitySales" "[J" (.ref b13)) (p28 : b1 ≠ b12) (p29 : oAr Z h0 b13 .long [.long 0, .long 0, .long 0]) (p30 : b13 ≠ b9) (p31 : b13 ≠ b8) (p32 : b13 ≠ b12) (p33 : n0 ≤ b13) (p34 : b8 ≠ b12) (p35 : b8 ≠ b13) (p36 : b9 ≠ b8) (p37 : b9 ≠ b12) (p38 : b9 ≠ b13) (p39 : b12 ≠ b13) :
    oMet l Z (⟨cU, "assign", "(II)V"⟩ : MethodName) prog_54_method_8_code 12 none [] ({ frames := 2, cells := 0, slots := 0, locals := 35 } : Room) 0 0 n0 #[.ref b1, .int 0, .int 0] h0 (fun v h => v = none ∧ oKe h0 h [b9, b8, b12, b13] [] ∧ oAr Z h b8 .int [.int 0, .int (-1), .int (-1)] ∧ oAr Z h b9 .int [.int 0, .int (-1)] ∧ oAr Z h b12 .long [.long y4, .long 0, .long 0] ∧ oAr Z h b13 .long [.long 1, .long 0, .long 0]) := by
  refine oMet.intro (plainFor_of_name pn_944982) (fun m => ef_4 m b1 (0 : Int32) (0 : Int32)) ?_
  intro op oe os m obl omt ocd C
  refine oIloadN C d4_0 rfl rfl ?_
  refine oAloadN C d4_1 rfl rfl rfl ?_
  refine oGetF C (w14 hw) Via.refl p1 d4_2 rfl ?_
  refine oIloadN C d4_5 rfl rfl ?_
  refine oIaload C p2 (by decide) (k := 0) rfl (v := .int 0) rfl d4_6 rfl ?_
  refine oIcmp_lt C d4_7 (q := 33) (by decide) (by decide) (r := 10) rfl (fun hq => absurd hq ((by decide))) (fun hc7 => ?_)
  refine oIloadN C d4_10 rfl rfl ?_
  refine oAloadN C d4_11 rfl rfl rfl ?_
  refine oGetF C (w14 hw) Via.refl p1 d4_12 rfl ?_
  refine oIloadN C d4_15 rfl rfl ?_
  refine oIconst C d4_16 (z := 1) rfl rfl ?_
  refine oIadd C d4_17 rfl ?_
  refine oCastI (z' := (1 : Int32)) (by decide) ?_
  refine oIaload C p2 (by decide) (k := 1) rfl (v := .int 1) rfl d4_18 rfl ?_
  refine oIcmp_ge C d4_19 (q := 33) (by decide) (by decide) (r := 22) rfl (fun hq => absurd hq ((by decide))) (fun hc19 => ?_)
  refine oAloadN C d4_22 rfl rfl rfl ?_
  refine oGetF C (w18 hw) Via.refl p3 d4_23 rfl ?_
  refine oIloadN C d4_26 rfl rfl ?_
  refine oLaload C p4 (by decide) (k := 0) rfl (v := .long y4) rfl d4_27 rfl ?_
  refine oLconst C d4_28 (z := 0) rfl rfl ?_
  refine oLcmp_ge C d4_29 rfl d4_30 (q := 48) (by decide) (by decide) (r := 33) rfl (fun hc29 => ?_) (fun hq => absurd hq (p5))
  refine oAloadN C d4_48 rfl rfl rfl ?_
  refine oGetF C (w16 hw) Via.refl p6 d4_49 rfl ?_
  refine oIloadN C d4_52 rfl rfl ?_
  refine oIaload C p7 (by decide) (k := 0) rfl (v := .int 0) rfl d4_53 rfl ?_
  refine oIstoreN C d4_54 (Ls' := #[.val (.ref b1), .val (.int 0), .val (.int 0), .val (.int 0), .unset, .unset, .unset, .unset, .unset, .unset, .unset, .unset]) rfl (q := 55) rfl ?_
  refine oAloadN C d4_55 rfl rfl rfl ?_
  refine oGetF C (w34 hw) Via.refl p8 d4_56 rfl ?_
  refine oIloadN C d4_59 rfl rfl ?_
  refine oIaload C p9 (by decide) (k := 0) rfl (v := .int (-1)) rfl d4_60 rfl ?_
  refine oIconst C d4_61 (z := (-1)) rfl rfl ?_
  refine oIcmp_ne C d4_62 (q := 75) (by decide) (by decide) (r := 65) rfl (fun hq => absurd hq ((by decide))) (fun hc62 => ?_)
  refine oAloadN C d4_65 rfl rfl rfl ?_
  refine oGetF C (w24 hw) Via.refl p10 d4_66 rfl ?_
  refine oIloadN C d4_69 rfl rfl ?_
  refine oIaload C p11 (by decide) (k := 0) rfl (v := .int (-1)) rfl d4_70 rfl ?_
  refine oIconst C d4_71 (z := (-1)) rfl rfl ?_
  refine oIcmp_eq C d4_72 (q := 90) (by decide) (by decide) (r := 75) rfl (fun hc72 => ?_) (fun hq => absurd hq ((by decide)))
  refine oAloadN C d4_90 rfl rfl rfl ?_
  refine oGetF C (w18 hw) Via.refl p3 d4_91 rfl ?_
  refine oIloadN C d4_94 rfl rfl ?_
  refine oLaload C p4 (by decide) (k := 0) rfl (v := .long y4) rfl d4_95 rfl ?_
  refine oAloadN C d4_96 rfl rfl rfl ?_
  refine oGetF C (w20 hw) Via.refl p12 d4_97 rfl ?_
  refine oIloadN C d4_100 rfl rfl ?_
  refine oLaload C p13 (by decide) (k := 0) rfl (v := .long 0) rfl d4_101 rfl ?_
  refine oCallS C (w65 hw) (w66 hw) (w67 hw) (w68 hw) d4_102 (by decide) pd_212481 rfl rfl (argsL := [.long y4, .long 0]) (rest := []) rfl (W := 0) rfl (q := 105) rfl (by decide) (by decide) (by decide) (by decide) (ac5_3 l Z a0 hw _ n0 Z0 y4 p14) (oRQ ?_)
  rintro h1 K1
  refine oCastL (z' := y4) (own_sub0 _) ?_
  refine oLstore C d4_105 (Ls' := #[.val (.ref b1), .val (.int 0), .val (.int 0), .val (.int 0), .val (.long y4), .second, .unset, .unset, .unset, .unset, .unset, .unset]) rfl (q := 107) rfl ?_
  refine oLconst C d4_107 (z := 1) rfl rfl ?_
  refine oAloadN C d4_108 rfl rfl rfl ?_
  have f2 := (K1.fld p15 nin0 oN0)
  refine oGetF C (w22 hw) Via.refl f2 d4_109 rfl ?_
  refine oIloadN C d4_112 rfl rfl ?_
  have f3 := (K1.arr p16 nin0 oA0)
  refine oLaload C f3 (by decide) (k := 0) rfl (v := .long 0) rfl d4_113 rfl ?_
  refine oLsub C d4_114 rfl ?_
  refine oCastL (z' := (1 : Int64)) (by decide) ?_
  refine oLstore C d4_115 (Ls' := #[.val (.ref b1), .val (.int 0), .val (.int 0), .val (.int 0), .val (.long y4), .second, .val (.long 1), .second, .unset, .unset, .unset, .unset]) rfl (q := 117) rfl ?_
  refine oAloadN C d4_117 rfl rfl rfl ?_
  have f4 := (K1.fld p1 nin0 oN0)
  refine oGetF C (w14 hw) Via.refl f4 d4_118 rfl ?_
  refine oIloadN C d4_121 rfl rfl ?_
  have f5 := (K1.arr p2 nin0 oA0)
  refine oIaload C f5 (by decide) (k := 0) rfl (v := .int 0) rfl d4_122 rfl ?_
  refine oIstore C d4_123 (Ls' := #[.val (.ref b1), .val (.int 0), .val (.int 0), .val (.int 0), .val (.long y4), .second, .val (.long 1), .second, .val (.int 0), .unset, .unset, .unset]) rfl (q := 125) rfl ?_
  refine oIload C d4_125 rfl rfl ?_
  refine oAloadN C d4_127 rfl rfl rfl ?_
  refine oGetF C (w14 hw) Via.refl f4 d4_128 rfl ?_
  refine oIloadN C d4_131 rfl rfl ?_
  refine oIconst C d4_132 (z := 1) rfl rfl ?_
  refine oIadd C d4_133 rfl ?_
  refine oCastI (z' := (1 : Int32)) (by decide) ?_
  refine oIaload C f5 (by decide) (k := 1) rfl (v := .int 1) rfl d4_134 rfl ?_
  refine oIcmp_ge C d4_135 (q := 224) (by decide) (by decide) (r := 138) rfl (fun hq => absurd hq ((by decide))) (fun hc135 => ?_)
  refine oAloadN C d4_138 rfl rfl rfl ?_
  have f6 := (K1.fld p3 nin0 oN0)
  refine oGetF C (w18 hw) Via.refl f6 d4_139 rfl ?_
  refine oIload C d4_142 rfl rfl ?_
  have f7 := (K1.arr p4 nin0 oA0)
  refine oLaload C f7 (by decide) (k := 0) rfl (v := .long y4) rfl d4_144 rfl ?_
  refine oLconst C d4_145 (z := 0) rfl rfl ?_
  refine oLcmp_ge C d4_146 rfl d4_147 (q := 153) (by decide) (by decide) (r := 150) rfl (fun hc146 => ?_) (fun hq => absurd hq (hc29))
  refine oAloadN C d4_153 rfl rfl rfl ?_
  have f8 := (K1.fld p6 nin0 oN0)
  refine oGetF C (w16 hw) Via.refl f8 d4_154 rfl ?_
  refine oIload C d4_157 rfl rfl ?_
  have f9 := (K1.arr p7 nin0 oA0)
  refine oIaload C f9 (by decide) (k := 0) rfl (v := .int 0) rfl d4_159 rfl ?_
  refine oIstore C d4_160 (Ls' := #[.val (.ref b1), .val (.int 0), .val (.int 0), .val (.int 0), .val (.long y4), .second, .val (.long 1), .second, .val (.int 0), .val (.int 0), .unset, .unset]) rfl (q := 162) rfl ?_
  refine oAloadN C d4_162 rfl rfl rfl ?_
  refine oGetF C (w18 hw) Via.refl f6 d4_163 rfl ?_
  refine oIload C d4_166 rfl rfl ?_
  refine oLaload C f7 (by decide) (k := 0) rfl (v := .long y4) rfl d4_168 rfl ?_
  refine oAloadN C d4_169 rfl rfl rfl ?_
  have f10 := (K1.fld p12 nin0 oN0)
  refine oGetF C (w20 hw) Via.refl f10 d4_170 rfl ?_
  refine oIload C d4_173 rfl rfl ?_
  have f11 := (K1.arr p13 nin0 oA0)
  refine oLaload C f11 (by decide) (k := 0) rfl (v := .long 0) rfl d4_175 rfl ?_
  have z13 := (Nat.le_trans Z0 K1.1)
  refine oCallS C (w65 hw) (w66 hw) (w67 hw) (w68 hw) d4_176 (by decide) pd_212481 rfl rfl (argsL := [.long y4, .long 0]) (rest := []) rfl (W := 0) rfl (q := 179) rfl (by decide) (by decide) (by decide) (by decide) (ac5_3 l Z a0 hw _ n0 z13 y4 p14) (oRQ ?_)
  rintro h12 K12
  refine oCastL (z' := y4) (own_sub0 _) ?_
  refine oLstore C d4_179 (Ls' := #[.val (.ref b1), .val (.int 0), .val (.int 0), .val (.int 0), .val (.long y4), .second, .val (.long 1), .second, .val (.int 0), .val (.int 0), .val (.long y4), .second]) rfl (q := 181) rfl ?_
  refine oLload C d4_181 rfl rfl ?_
  refine oLconst C d4_183 (z := 1) rfl rfl ?_
  refine oAloadN C d4_184 rfl rfl rfl ?_
  have f14 := (K12.fld f2 nin0 oN0)
  refine oGetF C (w22 hw) Via.refl f14 d4_185 rfl ?_
  refine oIload C d4_188 rfl rfl ?_
  have f15 := (K12.arr f3 nin0 oA0)
  refine oLaload C f15 (by decide) (k := 0) rfl (v := .long 0) rfl d4_190 rfl ?_
  refine oLsub C d4_191 rfl ?_
  refine oCastL (z' := (1 : Int64)) (by decide) ?_
  refine oLload C d4_192 rfl rfl ?_
  refine oLload C d4_194 rfl rfl ?_
  have z17 := (Nat.le_trans z13 K12.1)
  refine oCallS C (w69 hw) (w70 hw) (w5 hw) (w71 hw) d4_196 (by decide) pd_567728 rfl rfl (argsL := [.long y4, .long 1, .long y4, .long 1]) (rest := []) rfl (W := 0) rfl (q := 199) rfl (by decide) (by decide) (by decide) (by decide) (ac6_6 l Z a0 hw _ n0 z17 y4 ) (oRQ ?_)
  rintro h16 K16
  refine oIf_le C d4_199 (q := 218) (by decide) (by decide) (r := 202) rfl (fun hc199 => ?_) (fun hq => absurd hq ((by decide)))
  refine oIinc C d4_218 rfl (z := 1) rfl (w := (1 : Int32)) (by decide) (Ls' := #[.val (.ref b1), .val (.int 0), .val (.int 0), .val (.int 0), .val (.long y4), .second, .val (.long 1), .second, .val (.int 1), .val (.int 0), .val (.long y4), .second]) rfl rfl ?_
  refine oGoto C d4_221 (q := 125) (by decide) (by decide) ?_
  refine oIload C d4_125 rfl rfl ?_
  refine oAloadN C d4_127 rfl rfl rfl ?_
  have f18 := (K16.fld (K12.fld f4 nin0 oN0) nin0 oN0)
  refine oGetF C (w14 hw) Via.refl f18 d4_128 rfl ?_
  refine oIloadN C d4_131 rfl rfl ?_
  refine oIconst C d4_132 (z := 1) rfl rfl ?_
  refine oIadd C d4_133 rfl ?_
  refine oCastI (z' := (1 : Int32)) (by decide) ?_
  have f19 := (K16.arr (K12.arr f5 nin0 oA0) nin0 oA0)
  refine oIaload C f19 (by decide) (k := 1) rfl (v := .int 1) rfl d4_134 rfl ?_
  refine oIcmp_ge C d4_135 (q := 224) (by decide) (by decide) (r := 138) rfl (fun hc135_1 => ?_) (fun hq => absurd hq ((by decide)))
  refine oAloadN C d4_224 rfl rfl rfl ?_
  have f20 := (K16.fld (K12.fld (K1.fld p10 nin0 oN0) nin0 oN0) nin0 oN0)
  refine oGetF C (w24 hw) Via.refl f20 d4_225 rfl ?_
  refine oIloadN C d4_228 rfl rfl ?_
  refine oIloadN C d4_229 rfl rfl ?_
  have f21 := (K16.arr (K12.arr (K1.arr p11 nin0 oA0) nin0 oA0) nin0 oA0)
  refine oIastore C f21 (by decide) (k := 0) rfl (v := .int (-1)) rfl (v' := .int 0) rfl d4_230 rfl p17 fun h22 W22 A22 => ?_
  have A22l : oAr Z h22 b9 .int [.int 0, .int (-1)] := A22
  refine oAloadN C d4_231 rfl rfl rfl ?_
  have f23 := (Fld.other W22 (K16.fld (K12.fld (K1.fld p8 nin0 oN0) nin0 oN0) nin0 oN0) (Or.inl p18))
  refine oGetF C (w34 hw) Via.refl f23 d4_232 rfl ?_
  refine oIloadN C d4_235 rfl rfl ?_
  refine oIloadN C d4_236 rfl rfl ?_
  have f24 := ((K16.arr (K12.arr (K1.arr p9 nin0 oA0) nin0 oA0) nin0 oA0).other W22 p19)
  refine oIastore C f24 (by decide) (k := 0) rfl (v := .int (-1)) rfl (v' := .int 0) rfl d4_237 rfl p20 fun h25 W25 A25 => ?_
  have A25l : oAr Z h25 b8 .int [.int 0, .int (-1), .int (-1)] := A25
  refine oAloadN C d4_238 rfl rfl rfl ?_
  have f26 := (Fld.other W25 (Fld.other W22 (K16.fld (K12.fld (K1.fld p21 nin0 oN0) nin0 oN0) nin0 oN0) (Or.inl p18)) (Or.inl p22))
  refine oGetF C (w30 hw) Via.refl f26 d4_239 rfl ?_
  refine oIloadN C d4_242 rfl rfl ?_
  refine oLload C d4_243 rfl rfl ?_
  have f27 := (((K16.arr (K12.arr (K1.arr p23 nin0 oA0) nin0 oA0) nin0 oA0).other W22 p24).other W25 p25)
  refine oLastore C f27 (by decide) (k := 0) rfl (v := .long 0) rfl (v' := .long y4) rfl d4_245 rfl p26 fun h28 W28 A28 => ?_
  have A28l : oAr Z h28 b12 .long [.long y4, .long 0, .long 0] := A28
  refine oAloadN C d4_246 rfl rfl rfl ?_
  have f29 := (Fld.other W28 (Fld.other W25 (Fld.other W22 (K16.fld (K12.fld (K1.fld p27 nin0 oN0) nin0 oN0) nin0 oN0) (Or.inl p18)) (Or.inl p22)) (Or.inl p28))
  refine oGetF C (w32 hw) Via.refl f29 d4_247 rfl ?_
  refine oIloadN C d4_250 rfl rfl ?_
  refine oLload C d4_251 rfl rfl ?_
  have f30 := ((((K16.arr (K12.arr (K1.arr p29 nin0 oA0) nin0 oA0) nin0 oA0).other W22 p30).other W25 p31).other W28 p32)
  refine oLastore C f30 (by decide) (k := 0) rfl (v := .long 0) rfl (v' := .long 1) rfl d4_253 rfl p33 fun h31 W31 A31 => ?_
  have A31l : oAr Z h31 b13 .long [.long 1, .long 0, .long 0] := A31
  refine oRetV C d4_254 (by decide) (by decide) ?_
  have f32 := ((A25l.other W28 p34).other W31 p35)
  have f33 := (((A22l.other W25 p36).other W28 p37).other W31 p38)
  have f34 := (A28l.other W31 p39)
  exact ⟨rfl, ((((((((oKe.refl h0 [b9, b8, b12, b13] []).trans K1 all0 oA0).trans K12 all0 oA0).trans K16 all0 oA0).wrA W22 (Or.inl (List.mem_of_getElem? (i := 0) rfl))).wrA W25 (Or.inl (List.mem_of_getElem? (i := 1) rfl))).wrA W28 (Or.inl (List.mem_of_getElem? (i := 2) rfl))).wrA W31 (Or.inl (List.mem_of_getElem? (i := 3) rfl))), f32, f33, f34, A31l⟩
theorem pd_947250 : parseMethodDescriptor "(II)V" = some ⟨[.int, .int], none⟩ := by decide +kernel
theorem ef_8 (m : MethodId) (x0 : Addr) (x1 : Int32) : entryFrame m #[.ref x0, .int x1] 12 = mkF m 0 #[.val (.ref x0), .val (.int x1), .unset, .unset, .unset, .unset, .unset, .unset, .unset, .unset, .unset, .unset] [] := by first | (simp [entryFrame, mkF, argsToLocals, Value.category]; done) | rfl
theorem or2 (v0 dd v1 v2 : Int64) (r_v0 : 0 ≤ v0.toInt ∧ v0.toInt < 1152921504606846976) (r_dd : 1 ≤ dd.toInt ∧ dd.toInt ≤ 1152921504606846976) (r_v1 : v1.toInt = v0.toInt + dd.toInt) (r_v2 : 0 ≤ v2.toInt ∧ v2.toInt ≤ 1152921504606846976)  : ¬ v1 < (0 : Int64) := by (try simp only [Int64.lt_iff_toInt_lt, ← Int64.toInt_inj, Int64.reduceToInt] at *) <;> omega
theorem or3 (v0 dd v1 v2 : Int64) (r_v0 : 0 ≤ v0.toInt ∧ v0.toInt < 1152921504606846976) (r_dd : 1 ≤ dd.toInt ∧ dd.toInt ≤ 1152921504606846976) (r_v1 : v1.toInt = v0.toInt + dd.toInt) (r_v2 : 0 ≤ v2.toInt ∧ v2.toInt ≤ 1152921504606846976)  : ¬ ((v1 ^^^ (0 : Int64)) &&& (v1 ^^^ (v1 - (0 : Int64)))) < (0 : Int64) := own_subx v1 (0 : Int64) (by have q0 := c_lsub v1 (0 : Int64); have q1 := rng64 (v1 - (0 : Int64)); (try simp only [Int64.lt_iff_toInt_lt, ← Int64.toInt_inj, Int64.reduceToInt] at *) <;> omega) (by have q0 := c_lsub v1 (0 : Int64); have q1 := rng64 (v1 - (0 : Int64)); (try simp only [Int64.lt_iff_toInt_lt, ← Int64.toInt_inj, Int64.reduceToInt] at *) <;> omega)
theorem d7_20 : decode jdk_35_method_42_code 20 = .ok (.iconst 1, 1) := by decide +kernel
set_option maxRecDepth 65536 in
set_option maxHeartbeats 40000000 in
theorem ac7_8 (l : Launch) (Z : State) (a0 : Array Value) (hw : oHw a0 Z) (h0 : Heap) (n0 : Nat) (Z0 : n0 ≤ h0.size) (y1 : Int64) (p1 : ¬ y1 < (0 : Int64)) (p2 : ¬ y1 = (0 : Int64)) :
    oMet l Z (⟨"java/lang/Long", "compare", "(JJ)I"⟩ : MethodName) jdk_35_method_42_code 4 (some .int) [] ({ frames := 0, cells := 0, slots := 0, locals := 0 } : Room) 0 0 n0 #[.long y1, .long 0] h0 (fun v h => v = some (.int 1) ∧ oKe h0 h [] []) := by
  refine oMet.intro (plainFor_of_name pn_77341) (fun m => ef_7 m y1 (0 : Int64)) ?_
  intro op oe os m obl omt ocd C
  refine oLloadN C d7_0 rfl rfl ?_
  refine oLloadN C d7_1 rfl rfl ?_
  refine oLcmp_ge C d7_2 rfl d7_3 (q := 10) (by decide) (by decide) (r := 6) rfl (fun hc2 => ?_) (fun hq => absurd hq (p1))
  refine oLloadN C d7_10 rfl rfl ?_
  refine oLloadN C d7_11 rfl rfl ?_
  refine oLcmp_ne C d7_12 rfl d7_13 (q := 20) (by decide) (by decide) (r := 16) rfl (fun hc12 => ?_) (fun hq => absurd hq (p2))
  refine oIconst C d7_20 (z := 1) rfl rfl ?_
  refine oRetI C d7_21 (by decide) (by decide) ?_
  exact ⟨rfl, (oKe.refl h0 [] [])⟩
theorem d6_13 : decode prog_54_method_28_code 13 = .ok (.iload 8, 2) := by decide +kernel
theorem d6_15 : decode prog_54_method_28_code 15 = .ok (.goto 9, 3) := by decide +kernel
set_option maxRecDepth 65536 in
set_option maxHeartbeats 40000000 in
theorem ac6_9 (l : Launch) (Z : State) (a0 : Array Value) (hw : oHw a0 Z) (h0 : Heap) (n0 : Nat) (Z0 : n0 ≤ h0.size) (y1 : Int64) (p1 : ¬ y1 < (0 : Int64)) (p2 : ¬ y1 = (0 : Int64)) :
    oMet l Z (⟨cU, "compare", "(JJJJ)I"⟩ : MethodName) prog_54_method_28_code 9 (some .int) [] ({ frames := 1, cells := 0, slots := 0, locals := 15 } : Room) 0 0 n0 #[.long y1, .long 1, .long 0, .long 0] h0 (fun v h => v = some (.int 1) ∧ oKe h0 h [] []) := by
  refine oMet.intro (plainFor_of_name pn_944982) (fun m => ef_6 m y1 (1 : Int64) (0 : Int64) (0 : Int64)) ?_
  intro op oe os m obl omt ocd C
  refine oLloadN C d6_0 rfl rfl ?_
  refine oLload C d6_1 rfl rfl ?_
  refine oCallS C (w72 hw) (w73 hw) (w74 hw) (w75 hw) d6_3 (by decide) pd_212480 rfl rfl (argsL := [.long y1, .long 0]) (rest := []) rfl (W := 0) rfl (q := 6) rfl (by decide) (by decide) (by decide) (by decide) (ac7_8 l Z a0 hw _ n0 Z0 y1 p1 p2) (oRQ ?_)
  rintro h1 K1
  refine oIstore C d6_6 (Ls' := #[.val (.long y1), .second, .val (.long 1), .second, .val (.long 0), .second, .val (.long 0), .second, .val (.int 1)]) rfl (q := 8) rfl ?_
  refine oIload C d6_8 rfl rfl ?_
  refine oIf_eq C d6_10 (q := 18) (by decide) (by decide) (r := 13) rfl (fun hq => absurd hq ((by decide))) (fun hc10 => ?_)
  refine oIload C d6_13 rfl rfl ?_
  refine oGoto C d6_15 (q := 24) (by decide) (by decide) ?_
  refine oRetI C d6_24 (by decide) (by decide) ?_
  exact ⟨rfl, ((oKe.refl h0 [] []).trans K1 all0 oA0)⟩
theorem or4 (v0 dd v1 v2 : Int64) (r_v0 : 0 ≤ v0.toInt ∧ v0.toInt < 1152921504606846976) (r_dd : 1 ≤ dd.toInt ∧ dd.toInt ≤ 1152921504606846976) (r_v1 : v1.toInt = v0.toInt + dd.toInt) (r_v2 : 0 ≤ v2.toInt ∧ v2.toInt ≤ 1152921504606846976)  : ¬ v1 = (0 : Int64) := by (try simp only [Int64.lt_iff_toInt_lt, ← Int64.toInt_inj, Int64.reduceToInt] at *) <;> omega
theorem ef_9 (m : MethodId) (x0 : Addr) (x1 : Int32) (x2 : Int64) (x3 : Int64) : entryFrame m #[.ref x0, .int x1, .long x2, .long x3] 18 = mkF m 0 #[.val (.ref x0), .val (.int x1), .val (.long x2), .second, .val (.long x3), .second, .unset, .unset, .unset, .unset, .unset, .unset, .unset, .unset, .unset, .unset, .unset, .unset] [] := by first | (simp [entryFrame, mkF, argsToLocals, Value.category]; done) | rfl
theorem ef_10 (m : MethodId) (x0 : Int64) (x1 : Int64) : entryFrame m #[.long x0, .long x1] 5 = mkF m 0 #[.val (.long x0), .second, .val (.long x1), .second, .unset] [] := by first | (simp [entryFrame, mkF, argsToLocals, Value.category]; done) | rfl
theorem pn_631609 : plainName "com/example/gavel/gavel/Money" = true := by first | (simp [plainName, overriddenIn]; done) | decide +kernel
theorem ef_11 (m : MethodId) (x0 : Int64) (x1 : Int64) : entryFrame m #[.long x0, .long x1] 6 = mkF m 0 #[.val (.long x0), .second, .val (.long x1), .second, .unset, .unset] [] := by first | (simp [entryFrame, mkF, argsToLocals, Value.category]; done) | rfl
theorem d11_0 : decode jdk_29_method_25_code 0 = .ok (.lload_n 0, 1) := by decide +kernel
theorem d11_1 : decode jdk_29_method_25_code 1 = .ok (.lload_n 2, 1) := by decide +kernel
theorem d11_2 : decode jdk_29_method_25_code 2 = .ok (.ladd, 1) := by decide +kernel
theorem d11_3 : decode jdk_29_method_25_code 3 = .ok (.lstore 4, 2) := by decide +kernel
theorem d11_5 : decode jdk_29_method_25_code 5 = .ok (.lload_n 0, 1) := by decide +kernel
theorem d11_6 : decode jdk_29_method_25_code 6 = .ok (.lload 4, 2) := by decide +kernel
theorem d11_8 : decode jdk_29_method_25_code 8 = .ok (.lxor, 1) := by decide +kernel
theorem d11_9 : decode jdk_29_method_25_code 9 = .ok (.lload_n 2, 1) := by decide +kernel
theorem d11_10 : decode jdk_29_method_25_code 10 = .ok (.lload 4, 2) := by decide +kernel
theorem d11_12 : decode jdk_29_method_25_code 12 = .ok (.lxor, 1) := by decide +kernel
theorem d11_13 : decode jdk_29_method_25_code 13 = .ok (.land, 1) := by decide +kernel
theorem d11_14 : decode jdk_29_method_25_code 14 = .ok (.lconst 0, 1) := by decide +kernel
theorem d11_15 : decode jdk_29_method_25_code 15 = .ok (.lcmp, 1) := by decide +kernel
theorem d11_16 : decode jdk_29_method_25_code 16 = .ok (.ifCond .ge 13, 3) := by decide +kernel
theorem d11_29 : decode jdk_29_method_25_code 29 = .ok (.lload 4, 2) := by decide +kernel
theorem d11_31 : decode jdk_29_method_25_code 31 = .ok (.lreturn, 1) := by decide +kernel
set_option maxRecDepth 65536 in
set_option maxHeartbeats 40000000 in
theorem ac11_10 (l : Launch) (Z : State) (a0 : Array Value) (hw : oHw a0 Z) (h0 : Heap) (n0 : Nat) (Z0 : n0 ≤ h0.size) (y1 : Int64) (p1 : ¬ ((y1 ^^^ (y1 + (0 : Int64))) &&& ((0 : Int64) ^^^ (y1 + (0 : Int64)))) < (0 : Int64)) :
    oMet l Z (⟨"java/lang/Math", "addExact", "(JJ)J"⟩ : MethodName) jdk_29_method_25_code 6 (some .long) [] ({ frames := 0, cells := 0, slots := 0, locals := 0 } : Room) 0 0 n0 #[.long y1, .long 0] h0 (fun v h => v = some (.long (y1 + (0 : Int64))) ∧ oKe h0 h [] []) := by
  refine oMet.intro (Jvm.Free.JP.mathPlain rfl (by decide +kernel)) (fun m => ef_11 m y1 (0 : Int64)) ?_
  intro op oe os m obl omt ocd C
  refine oLloadN C d11_0 rfl rfl ?_
  refine oLloadN C d11_1 rfl rfl ?_
  refine oLadd C d11_2 rfl ?_
  refine oLstore C d11_3 (Ls' := #[.val (.long y1), .second, .val (.long 0), .second, .val (.long (y1 + (0 : Int64))), .second]) rfl (q := 5) rfl ?_
  refine oLloadN C d11_5 rfl rfl ?_
  refine oLload C d11_6 rfl rfl ?_
  refine oLxor C d11_8 rfl ?_
  refine oLloadN C d11_9 rfl rfl ?_
  refine oLload C d11_10 rfl rfl ?_
  refine oLxor C d11_12 rfl ?_
  refine oLand C d11_13 rfl ?_
  refine oLconst C d11_14 (z := 0) rfl rfl ?_
  refine oLcmp_ge C d11_15 rfl d11_16 (q := 29) (by decide) (by decide) (r := 19) rfl (fun hc15 => ?_) (fun hq => absurd hq (p1))
  refine oLload C d11_29 rfl rfl ?_
  refine oRetL C d11_31 (by decide) (by decide) ?_
  exact ⟨rfl, (oKe.refl h0 [] [])⟩
theorem d10_0 : decode prog_35_method_4_code 0 = .ok (.lload_n 0, 1) := by decide +kernel
theorem d10_1 : decode prog_35_method_4_code 1 = .ok (.lload_n 2, 1) := by decide +kernel
theorem d10_2 : decode prog_35_method_4_code 2 = .ok (.invokestatic 56, 3) := by decide +kernel
theorem d10_5 : decode prog_35_method_4_code 5 = .ok (.lreturn, 1) := by decide +kernel
set_option maxRecDepth 65536 in
set_option maxHeartbeats 40000000 in
theorem ac10_11 (l : Launch) (Z : State) (a0 : Array Value) (hw : oHw a0 Z) (h0 : Heap) (n0 : Nat) (Z0 : n0 ≤ h0.size) (y1 : Int64) (p1 : ¬ ((y1 ^^^ (y1 + (0 : Int64))) &&& ((0 : Int64) ^^^ (y1 + (0 : Int64)))) < (0 : Int64)) :
    oMetH l Z (⟨"com/example/gavel/gavel/Money", "addCents", "(JJ)J"⟩ : MethodName) prog_35_method_4_code 5 (some .long) [((0 : Nat), (5 : Nat), (6 : Nat), (60 : Nat))] ({ frames := 1, cells := 0, slots := 0, locals := 17 } : Room) 0 0 n0 #[.long y1, .long 0] h0 (fun v h => v = some (.long y1) ∧ oKe h0 h [] []) := by
  refine oMetH.intro (plainFor_of_name pn_631609) (fun m => ef_10 m y1 (0 : Int64)) ?_
  intro op oe os m obl omt ocd C
  refine oLloadN C d10_0 rfl rfl ?_
  refine oLloadN C d10_1 rfl rfl ?_
  refine oCallS C (w101 hw) (w102 hw) (w67 hw) (w103 hw) d10_2 (by decide) pd_212481 rfl rfl (argsL := [.long y1, .long 0]) (rest := []) rfl (W := 0) rfl (q := 5) rfl (by decide) (by decide) (by decide) (by decide) (ac11_10 l Z a0 hw _ n0 Z0 y1 p1) (oRQ ?_)
  rintro h1 K1
  refine oCastL (z' := y1) (own_add0 _) ?_
  refine oRetL C d10_5 (by decide) (by decide) ?_
  exact ⟨rfl, ((oKe.refl h0 [] []).trans K1 all0 oA0)⟩
set_option maxRecDepth 65536 in
set_option maxHeartbeats 40000000 in
theorem ac5_12 (l : Launch) (Z : State) (a0 : Array Value) (hw : oHw a0 Z) (h0 : Heap) (n0 : Nat) (Z0 : n0 ≤ h0.size) (y1 : Int64) (p1 : ¬ ((y1 ^^^ y1) &&& (y1 ^^^ (y1 - y1))) < (0 : Int64)) :
    oMet l Z (⟨"java/lang/Math", "subtractExact", "(JJ)J"⟩ : MethodName) jdk_29_method_27_code 6 (some .long) [] ({ frames := 0, cells := 0, slots := 0, locals := 0 } : Room) 0 0 n0 #[.long y1, .long y1] h0 (fun v h => v = some (.long (y1 - y1)) ∧ oKe h0 h [] []) := by
  refine oMet.intro (Jvm.Free.JP.mathPlain rfl (by decide +kernel)) (fun m => ef_5 m y1 y1) ?_
  intro op oe os m obl omt ocd C
  refine oLloadN C d5_0 rfl rfl ?_
  refine oLloadN C d5_1 rfl rfl ?_
  refine oLsub C d5_2 rfl ?_
  refine oLstore C d5_3 (Ls' := #[.val (.long y1), .second, .val (.long y1), .second, .val (.long (y1 - y1)), .second]) rfl (q := 5) rfl ?_
  refine oLloadN C d5_5 rfl rfl ?_
  refine oLloadN C d5_6 rfl rfl ?_
  refine oLxor C d5_7 rfl ?_
  refine oLloadN C d5_8 rfl rfl ?_
  refine oLload C d5_9 rfl rfl ?_
  refine oLxor C d5_11 rfl ?_
  refine oLand C d5_12 rfl ?_
  refine oLconst C d5_13 (z := 0) rfl rfl ?_
  refine oLcmp_ge C d5_14 rfl d5_15 (q := 28) (by decide) (by decide) (r := 18) rfl (fun hc14 => ?_) (fun hq => absurd hq (p1))
  refine oLload C d5_28 rfl rfl ?_
  refine oRetL C d5_30 (by decide) (by decide) ?_
  exact ⟨rfl, (oKe.refl h0 [] [])⟩
theorem ef_12 (m : MethodId) (x0 : Addr) (x1 : Int32) (x2 : Int64) (x3 : Int64) (x4 : Int32) (x5 : Int32) (x6 : Int32) : entryFrame m #[.ref x0, .int x1, .long x2, .long x3, .int x4, .int x5, .int x6] 10 = mkF m 0 #[.val (.ref x0), .val (.int x1), .val (.long x2), .second, .val (.long x3), .second, .val (.int x4), .val (.int x5), .val (.int x6), .unset] [] := by first | (simp [entryFrame, mkF, argsToLocals, Value.category]; done) | rfl
theorem ef_13 (m : MethodId) (x0 : Addr) (x1 : Int64) (x2 : Int64) (x3 : Int32) : entryFrame m #[.ref x0, .long x1, .long x2, .int x3] 7 = mkF m 0 #[.val (.ref x0), .val (.long x1), .second, .val (.long x2), .second, .val (.int x3), .unset] [] := by first | (simp [entryFrame, mkF, argsToLocals, Value.category]; done) | rfl
theorem d7_6 : decode jdk_35_method_42_code 6 = .ok (.iconst (-1), 1) := by decide +kernel
theorem d7_7 : decode jdk_35_method_42_code 7 = .ok (.goto 14, 3) := by decide +kernel
set_option maxRecDepth 65536 in
set_option maxHeartbeats 40000000 in
theorem ac7_13 (l : Launch) (Z : State) (a0 : Array Value) (hw : oHw a0 Z) (h0 : Heap) (n0 : Nat) (Z0 : n0 ≤ h0.size) (y1 : Int64) (p1 : (0 : Int64) < y1) :
    oMet l Z (⟨"java/lang/Long", "compare", "(JJ)I"⟩ : MethodName) jdk_35_method_42_code 4 (some .int) [] ({ frames := 0, cells := 0, slots := 0, locals := 0 } : Room) 0 0 n0 #[.long 0, .long y1] h0 (fun v h => v = some (.int (-1)) ∧ oKe h0 h [] []) := by
  refine oMet.intro (plainFor_of_name pn_77341) (fun m => ef_7 m (0 : Int64) y1) ?_
  intro op oe os m obl omt ocd C
  refine oLloadN C d7_0 rfl rfl ?_
  refine oLloadN C d7_1 rfl rfl ?_
  refine oLcmp_ge C d7_2 rfl d7_3 (q := 10) (by decide) (by decide) (r := 6) rfl (fun hq => absurd hq (not_not_intro p1)) (fun hc2 => ?_)
  refine oIconst C d7_6 (z := (-1)) rfl rfl ?_
  refine oGoto C d7_7 (q := 21) (by decide) (by decide) ?_
  refine oRetI C d7_21 (by decide) (by decide) ?_
  exact ⟨rfl, (oKe.refl h0 [] [])⟩
set_option maxRecDepth 65536 in
set_option maxHeartbeats 40000000 in
theorem ac6_14 (l : Launch) (Z : State) (a0 : Array Value) (hw : oHw a0 Z) (h0 : Heap) (n0 : Nat) (Z0 : n0 ≤ h0.size) (y1 : Int64) (p1 : (0 : Int64) < y1) :
    oMet l Z (⟨cU, "compare", "(JJJJ)I"⟩ : MethodName) prog_54_method_28_code 9 (some .int) [] ({ frames := 1, cells := 0, slots := 0, locals := 15 } : Room) 0 0 n0 #[.long 0, .long 0, .long y1, .long 1] h0 (fun v h => v = some (.int (-1)) ∧ oKe h0 h [] []) := by
  refine oMet.intro (plainFor_of_name pn_944982) (fun m => ef_6 m (0 : Int64) (0 : Int64) y1 (1 : Int64)) ?_
  intro op oe os m obl omt ocd C
  refine oLloadN C d6_0 rfl rfl ?_
  refine oLload C d6_1 rfl rfl ?_
  refine oCallS C (w72 hw) (w73 hw) (w74 hw) (w75 hw) d6_3 (by decide) pd_212480 rfl rfl (argsL := [.long 0, .long y1]) (rest := []) rfl (W := 0) rfl (q := 6) rfl (by decide) (by decide) (by decide) (by decide) (ac7_13 l Z a0 hw _ n0 Z0 y1 p1) (oRQ ?_)
  rintro h1 K1
  refine oIstore C d6_6 (Ls' := #[.val (.long 0), .second, .val (.long 0), .second, .val (.long y1), .second, .val (.long 1), .second, .val (.int (-1))]) rfl (q := 8) rfl ?_
  refine oIload C d6_8 rfl rfl ?_
  refine oIf_eq C d6_10 (q := 18) (by decide) (by decide) (r := 13) rfl (fun hq => absurd hq ((by decide))) (fun hc10 => ?_)
  refine oIload C d6_13 rfl rfl ?_
  refine oGoto C d6_15 (q := 24) (by decide) (by decide) ?_
  refine oRetI C d6_24 (by decide) (by decide) ?_
  exact ⟨rfl, ((oKe.refl h0 [] []).trans K1 all0 oA0)⟩
theorem d13_0 : decode prog_54_method_18_code 0 = .ok (.lload_n 1, 1) := by decide +kernel
theorem d13_1 : decode prog_54_method_18_code 1 = .ok (.lload_n 3, 1) := by decide +kernel
theorem d13_2 : decode prog_54_method_18_code 2 = .ok (.aload_n 0, 1) := by decide +kernel
theorem d13_3 : decode prog_54_method_18_code 3 = .ok (.getfield 142, 3) := by decide +kernel
theorem d13_6 : decode prog_54_method_18_code 6 = .ok (.aload_n 0, 1) := by decide +kernel
theorem d13_7 : decode prog_54_method_18_code 7 = .ok (.getfield 146, 3) := by decide +kernel
theorem d13_10 : decode prog_54_method_18_code 10 = .ok (.invokestatic 107, 3) := by decide +kernel
theorem d13_13 : decode prog_54_method_18_code 13 = .ok (.istore 6, 2) := by decide +kernel
theorem d13_15 : decode prog_54_method_18_code 15 = .ok (.iload 6, 2) := by decide +kernel
theorem d13_17 : decode prog_54_method_18_code 17 = .ok (.ifCond .eq 8, 3) := by decide +kernel
theorem d13_20 : decode prog_54_method_18_code 20 = .ok (.iload 6, 2) := by decide +kernel
theorem d13_22 : decode prog_54_method_18_code 22 = .ok (.goto 12, 3) := by decide +kernel
theorem d13_34 : decode prog_54_method_18_code 34 = .ok (.ireturn, 1) := by decide +kernel
set_option maxRecDepth 65536 in
set_option maxHeartbeats 40000000 in
theorem ac13_15 (l : Launch) (Z : State) (a0 : Array Value) (hw : oHw a0 Z) (h0 : Heap) (n0 : Nat) (Z0 : n0 ≤ h0.size) (b1 : Addr) (y2 : Int64) (p1 : Fld Z h0 b1 cU "sinkMoney" "J" (.long y2)) (p2 : Fld Z h0 b1 cU "sinkSales" "J" (.long 1)) (p3 : (0 : Int64) < y2) :
    oMet l Z (⟨cU, "compareSink", "(JJI)I"⟩ : MethodName) prog_54_method_18_code 7 (some .int) [] ({ frames := 2, cells := 0, slots := 0, locals := 35 } : Room) 0 0 n0 #[.ref b1, .long 0, .long 0, .int 0] h0 (fun v h => v = some (.int (-1)) ∧ oKe h0 h [] []) := by
  refine oMet.intro (plainFor_of_name pn_944982) (fun m => ef_13 m b1 (0 : Int64) (0 : Int64) (0 : Int32)) ?_
  intro op oe os m obl omt ocd C
  refine oLloadN C d13_0 rfl rfl ?_
  refine oLloadN C d13_1 rfl rfl ?_
  refine oAloadN C d13_2 rfl rfl rfl ?_
  refine oGetF C (w87 hw) Via.refl p1 d13_3 rfl ?_
  refine oAloadN C d13_6 rfl rfl rfl ?_
  refine oGetF C (w89 hw) Via.refl p2 d13_7 rfl ?_
  refine oCallS C (w69 hw) (w70 hw) (w5 hw) (w71 hw) d13_10 (by decide) pd_567728 rfl rfl (argsL := [.long 0, .long 0, .long y2, .long 1]) (rest := []) rfl (W := 0) rfl (q := 13) rfl (by decide) (by decide) (by decide) (by decide) (ac6_14 l Z a0 hw _ n0 Z0 y2 p3) (oRQ ?_)
  rintro h1 K1
  refine oIstore C d13_13 (Ls' := #[.val (.ref b1), .val (.long 0), .second, .val (.long 0), .second, .val (.int 0), .val (.int (-1))]) rfl (q := 15) rfl ?_
  refine oIload C d13_15 rfl rfl ?_
  refine oIf_eq C d13_17 (q := 25) (by decide) (by decide) (r := 20) rfl (fun hq => absurd hq ((by decide))) (fun hc17 => ?_)
  refine oIload C d13_20 rfl rfl ?_
  refine oGoto C d13_22 (q := 34) (by decide) (by decide) ?_
  refine oRetI C d13_34 (by decide) (by decide) ?_
  exact ⟨rfl, ((oKe.refl h0 [] []).trans K1 all0 oA0)⟩
theorem pd_379829 : parseMethodDescriptor "(JJI)I" = some ⟨[.long, .long, .int], some .int⟩ := by decide +kernel
theorem ef_14 (m : MethodId) (x0 : Addr) (x1 : Int32) (x2 : Int64) (x3 : Int64) (x4 : Int32) (x5 : Int32) (x6 : Int32) : entryFrame m #[.ref x0, .int x1, .long x2, .long x3, .int x4, .int x5, .int x6] 9 = mkF m 0 #[.val (.ref x0), .val (.int x1), .val (.long x2), .second, .val (.long x3), .second, .val (.int x4), .val (.int x5), .val (.int x6)] [] := by first | (simp [entryFrame, mkF, argsToLocals, Value.category]; done) | rfl
theorem d14_0 : decode prog_54_method_17_code 0 = .ok (.aload_n 0, 1) := by decide +kernel
theorem d14_1 : decode prog_54_method_17_code 1 = .ok (.getfield 48, 3) := by decide +kernel
theorem d14_4 : decode prog_54_method_17_code 4 = .ok (.iload_n 1, 1) := by decide +kernel
theorem d14_5 : decode prog_54_method_17_code 5 = .ok (.lload_n 2, 1) := by decide +kernel
theorem d14_6 : decode prog_54_method_17_code 6 = .ok (.lastore, 1) := by decide +kernel
theorem d14_7 : decode prog_54_method_17_code 7 = .ok (.aload_n 0, 1) := by decide +kernel
theorem d14_8 : decode prog_54_method_17_code 8 = .ok (.getfield 51, 3) := by decide +kernel
theorem d14_11 : decode prog_54_method_17_code 11 = .ok (.iload_n 1, 1) := by decide +kernel
theorem d14_12 : decode prog_54_method_17_code 12 = .ok (.lload 4, 2) := by decide +kernel
theorem d14_14 : decode prog_54_method_17_code 14 = .ok (.lastore, 1) := by decide +kernel
theorem d14_15 : decode prog_54_method_17_code 15 = .ok (.aload_n 0, 1) := by decide +kernel
theorem d14_16 : decode prog_54_method_17_code 16 = .ok (.getfield 54, 3) := by decide +kernel
theorem d14_19 : decode prog_54_method_17_code 19 = .ok (.iload_n 1, 1) := by decide +kernel
theorem d14_20 : decode prog_54_method_17_code 20 = .ok (.iload 6, 2) := by decide +kernel
theorem d14_22 : decode prog_54_method_17_code 22 = .ok (.iastore, 1) := by decide +kernel
theorem d14_23 : decode prog_54_method_17_code 23 = .ok (.aload_n 0, 1) := by decide +kernel
theorem d14_24 : decode prog_54_method_17_code 24 = .ok (.getfield 57, 3) := by decide +kernel
theorem d14_27 : decode prog_54_method_17_code 27 = .ok (.iload_n 1, 1) := by decide +kernel
theorem d14_28 : decode prog_54_method_17_code 28 = .ok (.iload 7, 2) := by decide +kernel
theorem d14_30 : decode prog_54_method_17_code 30 = .ok (.iastore, 1) := by decide +kernel
theorem d14_31 : decode prog_54_method_17_code 31 = .ok (.aload_n 0, 1) := by decide +kernel
theorem d14_32 : decode prog_54_method_17_code 32 = .ok (.getfield 60, 3) := by decide +kernel
theorem d14_35 : decode prog_54_method_17_code 35 = .ok (.iload_n 1, 1) := by decide +kernel
theorem d14_36 : decode prog_54_method_17_code 36 = .ok (.iload 8, 2) := by decide +kernel
theorem d14_38 : decode prog_54_method_17_code 38 = .ok (.iastore, 1) := by decide +kernel
theorem d14_39 : decode prog_54_method_17_code 39 = .ok (.return_, 1) := by decide +kernel
set_option maxRecDepth 65536 in
set_option maxHeartbeats 40000000 in
theorem ac14_16 (l : Launch) (Z : State) (a0 : Array Value) (hw : oHw a0 Z) (h0 : Heap) (n0 : Nat) (Z0 : n0 ≤ h0.size) (b1 : Addr) (b2 : Addr) (b3 : Addr) (b4 : Addr) (b5 : Addr) (b6 : Addr) (p1 : Fld Z h0 b1 cU "distMoney" "[J" (.ref b2)) (p2 : oAr Z h0 b2 .long [.long 0, .long 0]) (p3 : n0 ≤ b2) (p4 : Fld Z h0 b1 cU "distSales" "[J" (.ref b3)) (p5 : b1 ≠ b2) (p6 : oAr Z h0 b3 .long [.long 0, .long 0]) (p7 : b3 ≠ b2) (p8 : n0 ≤ b3) (p9 : Fld Z h0 b1 cU "hops" "[I" (.ref b4)) (p10 : b1 ≠ b3) (p11 : oAr Z h0 b4 .int [.int 0, .int 0]) (p12 : b4 ≠ b2) (p13 : b4 ≠ b3) (p14 : n0 ≤ b4) (p15 : Fld Z h0 b1 cU "pred" "[I" (.ref b5)) (p16 : b1 ≠ b4) (p17 : oAr Z h0 b5 .int [.int 0, .int 0]) (p18 : b5 ≠ b2) (p19 : b5 ≠ b3) (p20 : b5 ≠ b4) (p21 : n0 ≤ b5) (p22 : Fld Z h0 b1 cU "predOffer" "[I" (.ref b6)) (p23 : b1 ≠ b5) (p24 : oAr Z h0 b6 .int [.int 0, .int 0]) (p25 : b6 ≠ b2) (p26 : b6 ≠ b3) (p27 : b6 ≠ b4) (p28 : b6 ≠ b5) (p29 : n0 ≤ b6) (p30 : b2 ≠ b3) (p31 : b2 ≠ b4) (p32 : b2 ≠ b5) (p33 : b2 ≠ b6) (p34 : b3 ≠ b4) (p35 : b3 ≠ b5) (p36 : b3 ≠ b6) (p37 : b4 ≠ b5) (p38 : b4 ≠ b6) (p39 : b5 ≠ b6) :
    oMet l Z (⟨cU, "setLabel", "(IJJIII)V"⟩ : MethodName) prog_54_method_17_code 9 none [] ({ frames := 0, cells := 0, slots := 0, locals := 0 } : Room) 0 0 n0 #[.ref b1, .int 0, .long 0, .long 0, .int 1, .int (-1), .int 1] h0 (fun v h => v = none ∧ oKe h0 h [b2, b3, b4, b5, b6] [] ∧ oAr Z h b2 .long [.long 0, .long 0] ∧ oAr Z h b3 .long [.long 0, .long 0] ∧ oAr Z h b4 .int [.int 1, .int 0] ∧ oAr Z h b5 .int [.int (-1), .int 0] ∧ oAr Z h b6 .int [.int 1, .int 0]) := by
  refine oMet.intro (plainFor_of_name pn_944982) (fun m => ef_14 m b1 (0 : Int32) (0 : Int64) (0 : Int64) (1 : Int32) (-1 : Int32) (1 : Int32)) ?_
  intro op oe os m obl omt ocd C
  refine oAloadN C d14_0 rfl rfl rfl ?_
  refine oGetF C (w36 hw) Via.refl p1 d14_1 rfl ?_
  refine oIloadN C d14_4 rfl rfl ?_
  refine oLloadN C d14_5 rfl rfl ?_
  refine oLastore C p2 (by decide) (k := 0) rfl (v := .long 0) rfl (v' := .long 0) rfl d14_6 rfl p3 fun h1 W1 A1 => ?_
  have A1l : oAr Z h1 b2 .long [.long 0, .long 0] := A1
  refine oAloadN C d14_7 rfl rfl rfl ?_
  have f2 := (Fld.other W1 p4 (Or.inl p5))
  refine oGetF C (w38 hw) Via.refl f2 d14_8 rfl ?_
  refine oIloadN C d14_11 rfl rfl ?_
  refine oLload C d14_12 rfl rfl ?_
  have f3 := (p6.other W1 p7)
  refine oLastore C f3 (by decide) (k := 0) rfl (v := .long 0) rfl (v' := .long 0) rfl d14_14 rfl p8 fun h4 W4 A4 => ?_
  have A4l : oAr Z h4 b3 .long [.long 0, .long 0] := A4
  refine oAloadN C d14_15 rfl rfl rfl ?_
  have f5 := (Fld.other W4 (Fld.other W1 p9 (Or.inl p5)) (Or.inl p10))
  refine oGetF C (w40 hw) Via.refl f5 d14_16 rfl ?_
  refine oIloadN C d14_19 rfl rfl ?_
  refine oIload C d14_20 rfl rfl ?_
  have f6 := ((p11.other W1 p12).other W4 p13)
  refine oIastore C f6 (by decide) (k := 0) rfl (v := .int 0) rfl (v' := .int 1) rfl d14_22 rfl p14 fun h7 W7 A7 => ?_
  have A7l : oAr Z h7 b4 .int [.int 1, .int 0] := A7
  refine oAloadN C d14_23 rfl rfl rfl ?_
  have f8 := (Fld.other W7 (Fld.other W4 (Fld.other W1 p15 (Or.inl p5)) (Or.inl p10)) (Or.inl p16))
  refine oGetF C (w42 hw) Via.refl f8 d14_24 rfl ?_
  refine oIloadN C d14_27 rfl rfl ?_
  refine oIload C d14_28 rfl rfl ?_
  have f9 := (((p17.other W1 p18).other W4 p19).other W7 p20)
  refine oIastore C f9 (by decide) (k := 0) rfl (v := .int 0) rfl (v' := .int (-1)) rfl d14_30 rfl p21 fun h10 W10 A10 => ?_
  have A10l : oAr Z h10 b5 .int [.int (-1), .int 0] := A10
  refine oAloadN C d14_31 rfl rfl rfl ?_
  have f11 := (Fld.other W10 (Fld.other W7 (Fld.other W4 (Fld.other W1 p22 (Or.inl p5)) (Or.inl p10)) (Or.inl p16)) (Or.inl p23))
  refine oGetF C (w44 hw) Via.refl f11 d14_32 rfl ?_
  refine oIloadN C d14_35 rfl rfl ?_
  refine oIload C d14_36 rfl rfl ?_
  have f12 := ((((p24.other W1 p25).other W4 p26).other W7 p27).other W10 p28)
  refine oIastore C f12 (by decide) (k := 0) rfl (v := .int 0) rfl (v' := .int 1) rfl d14_38 rfl p29 fun h13 W13 A13 => ?_
  have A13l : oAr Z h13 b6 .int [.int 1, .int 0] := A13
  refine oRetV C d14_39 (by decide) (by decide) ?_
  have f14 := ((((A1l.other W4 p30).other W7 p31).other W10 p32).other W13 p33)
  have f15 := (((A4l.other W7 p34).other W10 p35).other W13 p36)
  have f16 := ((A7l.other W10 p37).other W13 p38)
  have f17 := (A10l.other W13 p39)
  exact ⟨rfl, ((((((oKe.refl h0 [b2, b3, b4, b5, b6] []).wrA W1 (Or.inl (List.mem_of_getElem? (i := 0) rfl))).wrA W4 (Or.inl (List.mem_of_getElem? (i := 1) rfl))).wrA W7 (Or.inl (List.mem_of_getElem? (i := 2) rfl))).wrA W10 (Or.inl (List.mem_of_getElem? (i := 3) rfl))).wrA W13 (Or.inl (List.mem_of_getElem? (i := 4) rfl))), f14, f15, f16, f17, A13l⟩
theorem pd_477193 : parseMethodDescriptor "(IJJIII)V" = some ⟨[.int, .long, .long, .int, .int, .int], none⟩ := by decide +kernel
theorem ef_15 (m : MethodId) (x0 : Addr) (x1 : Int32) (x2 : Int32) : entryFrame m #[.ref x0, .int x1, .int x2] 4 = mkF m 0 #[.val (.ref x0), .val (.int x1), .val (.int x2), .unset] [] := by first | (simp [entryFrame, mkF, argsToLocals, Value.category]; done) | rfl
theorem ef_16 (m : MethodId) (x0 : Addr) (x1 : Int32) (x2 : Int32) : entryFrame m #[.ref x0, .int x1, .int x2] 3 = mkF m 0 #[.val (.ref x0), .val (.int x1), .val (.int x2)] [] := by first | (simp [entryFrame, mkF, argsToLocals, Value.category]; done) | rfl
theorem d16_0 : decode prog_54_method_26_code 0 = .ok (.aload_n 0, 1) := by decide +kernel
theorem d16_1 : decode prog_54_method_26_code 1 = .ok (.getfield 67, 3) := by decide +kernel
theorem d16_4 : decode prog_54_method_26_code 4 = .ok (.iload_n 2, 1) := by decide +kernel
theorem d16_5 : decode prog_54_method_26_code 5 = .ok (.iload_n 1, 1) := by decide +kernel
theorem d16_6 : decode prog_54_method_26_code 6 = .ok (.iastore, 1) := by decide +kernel
theorem d16_7 : decode prog_54_method_26_code 7 = .ok (.aload_n 0, 1) := by decide +kernel
theorem d16_8 : decode prog_54_method_26_code 8 = .ok (.getfield 70, 3) := by decide +kernel
theorem d16_11 : decode prog_54_method_26_code 11 = .ok (.iload_n 1, 1) := by decide +kernel
theorem d16_12 : decode prog_54_method_26_code 12 = .ok (.iload_n 2, 1) := by decide +kernel
theorem d16_13 : decode prog_54_method_26_code 13 = .ok (.iastore, 1) := by decide +kernel
theorem d16_14 : decode prog_54_method_26_code 14 = .ok (.return_, 1) := by decide +kernel
set_option maxRecDepth 65536 in
set_option maxHeartbeats 40000000 in
theorem ac16_17 (l : Launch) (Z : State) (a0 : Array Value) (hw : oHw a0 Z) (h0 : Heap) (n0 : Nat) (Z0 : n0 ≤ h0.size) (b1 : Addr) (b2 : Addr) (b3 : Addr) (p1 : Fld Z h0 b1 cU "heap" "[I" (.ref b2)) (p2 : oAr Z h0 b2 .int [.int 0, .int 0]) (p3 : n0 ≤ b2) (p4 : Fld Z h0 b1 cU "heapIndex" "[I" (.ref b3)) (p5 : b1 ≠ b2) (p6 : oAr Z h0 b3 .int [.int 0, .int 0]) (p7 : b3 ≠ b2) (p8 : n0 ≤ b3) (p9 : b2 ≠ b3) :
    oMet l Z (⟨cU, "place", "(II)V"⟩ : MethodName) prog_54_method_26_code 3 none [] ({ frames := 0, cells := 0, slots := 0, locals := 0 } : Room) 0 0 n0 #[.ref b1, .int 0, .int 0] h0 (fun v h => v = none ∧ oKe h0 h [b2, b3] [] ∧ oAr Z h b2 .int [.int 0, .int 0] ∧ oAr Z h b3 .int [.int 0, .int 0]) := by
  refine oMet.intro (plainFor_of_name pn_944982) (fun m => ef_16 m b1 (0 : Int32) (0 : Int32)) ?_
  intro op oe os m obl omt ocd C
  refine oAloadN C d16_0 rfl rfl rfl ?_
  refine oGetF C (w49 hw) Via.refl p1 d16_1 rfl ?_
  refine oIloadN C d16_4 rfl rfl ?_
  refine oIloadN C d16_5 rfl rfl ?_
  refine oIastore C p2 (by decide) (k := 0) rfl (v := .int 0) rfl (v' := .int 0) rfl d16_6 rfl p3 fun h1 W1 A1 => ?_
  have A1l : oAr Z h1 b2 .int [.int 0, .int 0] := A1
  refine oAloadN C d16_7 rfl rfl rfl ?_
  have f2 := (Fld.other W1 p4 (Or.inl p5))
  refine oGetF C (w51 hw) Via.refl f2 d16_8 rfl ?_
  refine oIloadN C d16_11 rfl rfl ?_
  refine oIloadN C d16_12 rfl rfl ?_
  have f3 := (p6.other W1 p7)
  refine oIastore C f3 (by decide) (k := 0) rfl (v := .int 0) rfl (v' := .int 0) rfl d16_13 rfl p8 fun h4 W4 A4 => ?_
  have A4l : oAr Z h4 b3 .int [.int 0, .int 0] := A4
  refine oRetV C d16_14 (by decide) (by decide) ?_
  have f5 := (A1l.other W4 p9)
  exact ⟨rfl, (((oKe.refl h0 [b2, b3] []).wrA W1 (Or.inl (List.mem_of_getElem? (i := 0) rfl))).wrA W4 (Or.inl (List.mem_of_getElem? (i := 1) rfl))), f5, A4l⟩
theorem d15_0 : decode prog_54_method_24_code 0 = .ok (.iload_n 2, 1) := by decide +kernel
theorem d15_1 : decode prog_54_method_24_code 1 = .ok (.ifCond .le 42, 3) := by decide +kernel
theorem d15_43 : decode prog_54_method_24_code 43 = .ok (.aload_n 0, 1) := by decide +kernel
theorem d15_44 : decode prog_54_method_24_code 44 = .ok (.iload_n 1, 1) := by decide +kernel
theorem d15_45 : decode prog_54_method_24_code 45 = .ok (.iload_n 2, 1) := by decide +kernel
theorem d15_46 : decode prog_54_method_24_code 46 = .ok (.invokevirtual 202, 3) := by decide +kernel
theorem d15_49 : decode prog_54_method_24_code 49 = .ok (.return_, 1) := by decide +kernel
set_option maxRecDepth 65536 in
set_option maxHeartbeats 40000000 in
theorem ac15_18 (l : Launch) (Z : State) (a0 : Array Value) (hw : oHw a0 Z) (h0 : Heap) (n0 : Nat) (Z0 : n0 ≤ h0.size) (b1 : Addr) (b2 : Addr) (b3 : Addr) (p1 : Fld Z h0 b1 cU "heap" "[I" (.ref b2)) (p2 : oAr Z h0 b2 .int [.int 0, .int 0]) (p3 : Fld Z h0 b1 cU "heapIndex" "[I" (.ref b3)) (p4 : oAr Z h0 b3 .int [.int 0, .int 0]) (p5 : n0 ≤ b2) (p6 : b1 ≠ b2) (p7 : b3 ≠ b2) (p8 : n0 ≤ b3) (p9 : b2 ≠ b3) (p10 : Exa Z h0 b1 cU) :
    oMet l Z (⟨cU, "siftUp", "(II)V"⟩ : MethodName) prog_54_method_24_code 4 none [] ({ frames := 1, cells := 0, slots := 0, locals := 14 } : Room) 0 0 n0 #[.ref b1, .int 0, .int 0] h0 (fun v h => v = none ∧ oKe h0 h [b2, b3] [] ∧ oAr Z h b2 .int [.int 0, .int 0] ∧ oAr Z h b3 .int [.int 0, .int 0]) := by
  refine oMet.intro (plainFor_of_name pn_944982) (fun m => ef_15 m b1 (0 : Int32) (0 : Int32)) ?_
  intro op oe os m obl omt ocd C
  refine oIloadN C d15_0 rfl rfl ?_
  refine oIf_le C d15_1 (q := 43) (by decide) (by decide) (r := 4) rfl (fun hc1 => ?_) (fun hq => absurd hq ((by decide)))
  refine oAloadN C d15_43 rfl rfl rfl ?_
  refine oIloadN C d15_44 rfl rfl ?_
  refine oIloadN C d15_45 rfl rfl ?_
  refine oCallP C (w124 hw) (w126 hw) (w4 hw) (w125 hw) (w5 hw) (w127 hw) d15_46 p10 (by decide) pd_947250 rfl rfl (a := b1) (argsL := [.int 0, .int 0]) (rest := []) rfl (W := 0) rfl (q := 49) rfl (by decide) (by decide) (by decide) (by decide) (ac16_17 l Z a0 hw _ n0 Z0 b1 b2 b3 p1 p2 p5 p3 p6 p4 p7 p8 p9) (oVQ ?_)
  rintro h1 ⟨K1, f1_0, f1_1⟩
  refine oRetV C d15_49 (by decide) (by decide) ?_
  exact ⟨rfl, ((oKe.refl h0 [b2, b3] []).trans K1 (allS (Or.inl (List.mem_of_getElem? (i := 0) rfl)) (allS (Or.inl (List.mem_of_getElem? (i := 1) rfl)) all0)) oA0), f1_0, f1_1⟩
theorem d12_0 : decode prog_54_method_16_code 0 = .ok (.aload_n 0, 1) := by decide +kernel
theorem d12_1 : decode prog_54_method_16_code 1 = .ok (.lload_n 2, 1) := by decide +kernel
theorem d12_2 : decode prog_54_method_16_code 2 = .ok (.lload 4, 2) := by decide +kernel
theorem d12_4 : decode prog_54_method_16_code 4 = .ok (.iload 6, 2) := by decide +kernel
theorem d12_6 : decode prog_54_method_16_code 6 = .ok (.iconst 1, 1) := by decide +kernel
theorem d12_7 : decode prog_54_method_16_code 7 = .ok (.isub, 1) := by decide +kernel
theorem d12_8 : decode prog_54_method_16_code 8 = .ok (.invokevirtual 163, 3) := by decide +kernel
theorem d12_11 : decode prog_54_method_16_code 11 = .ok (.ifCond .le 4, 3) := by decide +kernel
theorem d12_15 : decode prog_54_method_16_code 15 = .ok (.aload_n 0, 1) := by decide +kernel
theorem d12_16 : decode prog_54_method_16_code 16 = .ok (.getfield 63, 3) := by decide +kernel
theorem d12_19 : decode prog_54_method_16_code 19 = .ok (.iload_n 1, 1) := by decide +kernel
theorem d12_20 : decode prog_54_method_16_code 20 = .ok (.baload, 1) := by decide +kernel
theorem d12_21 : decode prog_54_method_16_code 21 = .ok (.ifCond .ne 58, 3) := by decide +kernel
theorem d12_24 : decode prog_54_method_16_code 24 = .ok (.aload_n 0, 1) := by decide +kernel
theorem d12_25 : decode prog_54_method_16_code 25 = .ok (.getfield 63, 3) := by decide +kernel
theorem d12_28 : decode prog_54_method_16_code 28 = .ok (.iload_n 1, 1) := by decide +kernel
theorem d12_29 : decode prog_54_method_16_code 29 = .ok (.iconst 1, 1) := by decide +kernel
theorem d12_30 : decode prog_54_method_16_code 30 = .ok (.bastore, 1) := by decide +kernel
theorem d12_31 : decode prog_54_method_16_code 31 = .ok (.aload_n 0, 1) := by decide +kernel
theorem d12_32 : decode prog_54_method_16_code 32 = .ok (.getfield 73, 3) := by decide +kernel
theorem d12_35 : decode prog_54_method_16_code 35 = .ok (.aload_n 0, 1) := by decide +kernel
theorem d12_36 : decode prog_54_method_16_code 36 = .ok (.dup, 1) := by decide +kernel
theorem d12_37 : decode prog_54_method_16_code 37 = .ok (.getfield 136, 3) := by decide +kernel
theorem d12_40 : decode prog_54_method_16_code 40 = .ok (.dup_x1, 1) := by decide +kernel
theorem d12_41 : decode prog_54_method_16_code 41 = .ok (.iconst 1, 1) := by decide +kernel
theorem d12_42 : decode prog_54_method_16_code 42 = .ok (.iadd, 1) := by decide +kernel
theorem d12_43 : decode prog_54_method_16_code 43 = .ok (.putfield 136, 3) := by decide +kernel
theorem d12_46 : decode prog_54_method_16_code 46 = .ok (.iload_n 1, 1) := by decide +kernel
theorem d12_47 : decode prog_54_method_16_code 47 = .ok (.iastore, 1) := by decide +kernel
theorem d12_48 : decode prog_54_method_16_code 48 = .ok (.aload_n 0, 1) := by decide +kernel
theorem d12_49 : decode prog_54_method_16_code 49 = .ok (.iload_n 1, 1) := by decide +kernel
theorem d12_50 : decode prog_54_method_16_code 50 = .ok (.lload_n 2, 1) := by decide +kernel
theorem d12_51 : decode prog_54_method_16_code 51 = .ok (.lload 4, 2) := by decide +kernel
theorem d12_53 : decode prog_54_method_16_code 53 = .ok (.iload 6, 2) := by decide +kernel
theorem d12_55 : decode prog_54_method_16_code 55 = .ok (.iload 7, 2) := by decide +kernel
theorem d12_57 : decode prog_54_method_16_code 57 = .ok (.iload 8, 2) := by decide +kernel
theorem d12_59 : decode prog_54_method_16_code 59 = .ok (.invokevirtual 174, 3) := by decide +kernel
theorem d12_62 : decode prog_54_method_16_code 62 = .ok (.aload_n 0, 1) := by decide +kernel
theorem d12_63 : decode prog_54_method_16_code 63 = .ok (.iload_n 1, 1) := by decide +kernel
theorem d12_64 : decode prog_54_method_16_code 64 = .ok (.aload_n 0, 1) := by decide +kernel
theorem d12_65 : decode prog_54_method_16_code 65 = .ok (.dup, 1) := by decide +kernel
theorem d12_66 : decode prog_54_method_16_code 66 = .ok (.getfield 139, 3) := by decide +kernel
theorem d12_69 : decode prog_54_method_16_code 69 = .ok (.dup_x1, 1) := by decide +kernel
theorem d12_70 : decode prog_54_method_16_code 70 = .ok (.iconst 1, 1) := by decide +kernel
theorem d12_71 : decode prog_54_method_16_code 71 = .ok (.iadd, 1) := by decide +kernel
theorem d12_72 : decode prog_54_method_16_code 72 = .ok (.putfield 139, 3) := by decide +kernel
theorem d12_75 : decode prog_54_method_16_code 75 = .ok (.invokevirtual 177, 3) := by decide +kernel
theorem d12_78 : decode prog_54_method_16_code 78 = .ok (.return_, 1) := by decide +kernel
set_option maxRecDepth 65536 in
set_option maxHeartbeats 40000000 in
theorem ac12_19 (l : Launch) (Z : State) (a0 : Array Value) (hw : oHw a0 Z) (h0 : Heap) (n0 : Nat) (Z0 : n0 ≤ h0.size) (b1 : Addr) (y2 : Int64) (b3 : Addr) (b4 : Addr) (b5 : Addr) (b6 : Addr) (b7 : Addr) (b8 : Addr) (b9 : Addr) (b10 : Addr) (b11 : Addr) (p1 : Fld Z h0 b1 cU "sinkMoney" "J" (.long y2)) (p2 : Fld Z h0 b1 cU "sinkSales" "J" (.long 1)) (p3 : (0 : Int64) < y2) (p4 : Exa Z h0 b1 cU) (p5 : Fld Z h0 b1 cU "mark" "[B" (.ref b3)) (p6 : oAr Z h0 b3 .byte [.int 0, .int 0]) (p7 : n0 ≤ b3) (p8 : Fld Z h0 b1 cU "touched" "[I" (.ref b4)) (p9 : b1 ≠ b3) (p10 : Fld Z h0 b1 cU "touchedCount" "I" (.int 0)) (p11 : n0 ≤ b1) (p12 : oAr Z h0 b4 .int [.int 0, .int 0]) (p13 : b4 ≠ b3) (p14 : b4 ≠ b1) (p15 : n0 ≤ b4) (p16 : Fld Z h0 b1 cU "distMoney" "[J" (.ref b5)) (p17 : oAr Z h0 b5 .long [.long 0, .long 0]) (p18 : Fld Z h0 b1 cU "distSales" "[J" (.ref b6)) (p19 : oAr Z h0 b6 .long [.long 0, .long 0]) (p20 : Fld Z h0 b1 cU "hops" "[I" (.ref b7)) (p21 : oAr Z h0 b7 .int [.int 0, .int 0]) (p22 : Fld Z h0 b1 cU "pred" "[I" (.ref b8)) (p23 : oAr Z h0 b8 .int [.int 0, .int 0]) (p24 : Fld Z h0 b1 cU "predOffer" "[I" (.ref b9)) (p25 : oAr Z h0 b9 .int [.int 0, .int 0]) (p26 : b1 ≠ b4) (p27 : b5 ≠ b3) (p28 : b5 ≠ b1) (p29 : b5 ≠ b4) (p30 : n0 ≤ b5) (p31 : b1 ≠ b5) (p32 : b6 ≠ b3) (p33 : b6 ≠ b1) (p34 : b6 ≠ b4) (p35 : b6 ≠ b5) (p36 : n0 ≤ b6) (p37 : b1 ≠ b6) (p38 : b7 ≠ b3) (p39 : b7 ≠ b1) (p40 : b7 ≠ b4) (p41 : b7 ≠ b5) (p42 : b7 ≠ b6) (p43 : n0 ≤ b7) (p44 : b1 ≠ b7) (p45 : b8 ≠ b3) (p46 : b8 ≠ b1) (p47 : b8 ≠ b4) (p48 : b8 ≠ b5) (p49 : b8 ≠ b6) (p50 : b8 ≠ b7) (p51 : n0 ≤ b8) (p52 : b1 ≠ b8) (p53 : b9 ≠ b3) (p54 : b9 ≠ b1) (p55 : b9 ≠ b4) (p56 : b9 ≠ b5) (p57 : b9 ≠ b6) (p58 : b9 ≠ b7) (p59 : b9 ≠ b8) (p60 : n0 ≤ b9) (p61 : b5 ≠ b6) (p62 : b5 ≠ b7) (p63 : b5 ≠ b8) (p64 : b5 ≠ b9) (p65 : b6 ≠ b7) (p66 : b6 ≠ b8) (p67 : b6 ≠ b9) (p68 : b7 ≠ b8) (p69 : b7 ≠ b9) (p70 : b8 ≠ b9) (p71 : Fld Z h0 b1 cU "heapSize" "I" (.int 0)) (p72 : b1 ≠ b9) (p73 : Fld Z h0 b1 cU "heap" "[I" (.ref b10)) (p74 : oAr Z h0 b10 .int [.int 0, .int 0]) (p75 : Fld Z h0 b1 cU "heapIndex" "[I" (.ref b11)) (p76 : oAr Z h0 b11 .int [.int 0, .int 0]) (p77 : b10 ≠ b3) (p78 : b10 ≠ b1) (p79 : b10 ≠ b4) (p80 : b10 ≠ b9) (p81 : b10 ≠ b8) (p82 : b10 ≠ b7) (p83 : b10 ≠ b6) (p84 : b10 ≠ b5) (p85 : b11 ≠ b3) (p86 : b11 ≠ b1) (p87 : b11 ≠ b4) (p88 : b11 ≠ b9) (p89 : b11 ≠ b8) (p90 : b11 ≠ b7) (p91 : b11 ≠ b6) (p92 : b11 ≠ b5) (p93 : n0 ≤ b10) (p94 : b1 ≠ b10) (p95 : b11 ≠ b10) (p96 : n0 ≤ b11) (p97 : b10 ≠ b11) (p98 : b3 ≠ b1) (p99 : b3 ≠ b4) (p100 : b3 ≠ b9) (p101 : b3 ≠ b8) (p102 : b3 ≠ b7) (p103 : b3 ≠ b6) (p104 : b3 ≠ b5) (p105 : b3 ≠ b11) (p106 : b3 ≠ b10) (p107 : b1 ≠ b11) (p108 : b4 ≠ b9) (p109 : b4 ≠ b8) (p110 : b4 ≠ b7) (p111 : b4 ≠ b6) (p112 : b4 ≠ b5) (p113 : b4 ≠ b11) (p114 : b4 ≠ b10) (p115 : b5 ≠ b11) (p116 : b5 ≠ b10) (p117 : b6 ≠ b11) (p118 : b6 ≠ b10) (p119 : b7 ≠ b11) (p120 : b7 ≠ b10) (p121 : b8 ≠ b11) (p122 : b8 ≠ b10) (p123 : b9 ≠ b11) (p124 : b9 ≠ b10) :
    oMet l Z (⟨cU, "label", "(IJJIII)V"⟩ : MethodName) prog_54_method_16_code 10 none [] ({ frames := 3, cells := 0, slots := 0, locals := 53 } : Room) 0 0 n0 #[.ref b1, .int 0, .long 0, .long 0, .int 1, .int (-1), .int 1] h0 (fun v h => v = none ∧ oKe h0 h [b3, b4, b5, b6, b7, b8, b9, b10, b11] [(b1, Jvm.RoadKit.slotOf Z cU "touchedCount" "I"), (b1, Jvm.RoadKit.slotOf Z cU "heapSize" "I")] ∧ oAr Z h b3 .byte [.int 1, .int 0] ∧ Fld Z h b1 cU "touchedCount" "I" (.int 1) ∧ oAr Z h b4 .int [.int 0, .int 0] ∧ oAr Z h b5 .long [.long 0, .long 0] ∧ oAr Z h b6 .long [.long 0, .long 0] ∧ oAr Z h b7 .int [.int 1, .int 0] ∧ oAr Z h b8 .int [.int (-1), .int 0] ∧ oAr Z h b9 .int [.int 1, .int 0] ∧ Fld Z h b1 cU "heapSize" "I" (.int 1) ∧ oAr Z h b10 .int [.int 0, .int 0] ∧ oAr Z h b11 .int [.int 0, .int 0]) := by
  refine oMet.intro (plainFor_of_name pn_944982) (fun m => ef_12 m b1 (0 : Int32) (0 : Int64) (0 : Int64) (1 : Int32) (-1 : Int32) (1 : Int32)) ?_
  intro op oe os m obl omt ocd C
  refine oAloadN C d12_0 rfl rfl rfl ?_
  refine oLloadN C d12_1 rfl rfl ?_
  refine oLload C d12_2 rfl rfl ?_
  refine oIload C d12_4 rfl rfl ?_
  refine oIconst C d12_6 (z := 1) rfl rfl ?_
  refine oIsub C d12_7 rfl ?_
  refine oCastI (z' := (0 : Int32)) (by decide) ?_
  refine oCallP C (w108 hw) (w110 hw) (w4 hw) (w109 hw) (w5 hw) (w111 hw) d12_8 p4 (by decide) pd_379829 rfl rfl (a := b1) (argsL := [.long 0, .long 0, .int 0]) (rest := []) rfl (W := 0) rfl (q := 11) rfl (by decide) (by decide) (by decide) (by decide) (ac13_15 l Z a0 hw _ n0 Z0 b1 y2 p1 p2 p3) (oRQ ?_)
  rintro h1 K1
  refine oIf_le C d12_11 (q := 15) (by decide) (by decide) (r := 14) rfl (fun hc11 => ?_) (fun hq => absurd hq ((by decide)))
  refine oAloadN C d12_15 rfl rfl rfl ?_
  have f2 := (K1.fld p5 nin0 oN0)
  refine oGetF C (w47 hw) Via.refl f2 d12_16 rfl ?_
  refine oIloadN C d12_19 rfl rfl ?_
  have f3 := (K1.arr p6 nin0 oA0)
  refine oBaload C f3 (by decide) (k := 0) rfl (v := .int 0) rfl d12_20 rfl ?_
  refine oIf_ne C d12_21 (q := 79) (by decide) (by decide) (r := 24) rfl (fun hq => absurd hq ((by decide))) (fun hc21 => ?_)
  refine oAloadN C d12_24 rfl rfl rfl ?_
  refine oGetF C (w47 hw) Via.refl f2 d12_25 rfl ?_
  refine oIloadN C d12_28 rfl rfl ?_
  refine oIconst C d12_29 (z := 1) rfl rfl ?_
  refine oBastore C f3 (by decide) (k := 0) rfl (v := .int 0) rfl (v' := .int 1) rfl d12_30 rfl p7 fun h4 W4 A4 => ?_
  have A4l : oAr Z h4 b3 .byte [.int 1, .int 0] := A4
  refine oAloadN C d12_31 rfl rfl rfl ?_
  have f5 := (Fld.other W4 (K1.fld p8 nin0 oN0) (Or.inl p9))
  refine oGetF C (w53 hw) Via.refl f5 d12_32 rfl ?_
  refine oAloadN C d12_35 rfl rfl rfl ?_
  refine oDup C d12_36 rfl rfl ?_
  have f6 := (Fld.other W4 (K1.fld p10 nin0 oN0) (Or.inl p9))
  refine oGetF C (w112 hw) Via.refl f6 d12_37 rfl ?_
  refine oDupX1 C d12_40 rfl rfl rfl ?_
  refine oIconst C d12_41 (z := 1) rfl rfl ?_
  refine oIadd C d12_42 rfl ?_
  refine oCastI (z' := (1 : Int32)) (by decide) ?_
  have f7 := (Exa.wr W4 (K1.exa p4))
  refine oPutF C (w112 hw) Via.refl f6 f7 (Or.inl (w113 hw)) (w4 hw) (ty := .int) (by decide) rfl rfl d12_43 rfl p11 fun h8 W8 => ?_
  have f8w := Fld.same W8 f6
  refine oIloadN C d12_46 rfl rfl ?_
  have f9 := (((K1.arr p12 nin0 oA0).other W4 p13).other W8 p14)
  refine oIastore C f9 (by decide) (k := 0) rfl (v := .int 0) rfl (v' := .int 0) rfl d12_47 rfl p15 fun h10 W10 A10 => ?_
  have A10l : oAr Z h10 b4 .int [.int 0, .int 0] := A10
  refine oAloadN C d12_48 rfl rfl rfl ?_
  refine oIloadN C d12_49 rfl rfl ?_
  refine oLloadN C d12_50 rfl rfl ?_
  refine oLload C d12_51 rfl rfl ?_
  refine oIload C d12_53 rfl rfl ?_
  refine oIload C d12_55 rfl rfl ?_
  refine oIload C d12_57 rfl rfl ?_
  have f11 := (Fld.other W10 (Fld.other W8 (Fld.other W4 (K1.fld p16 nin0 oN0) (Or.inl p9)) (Or.inr (oSn0 hw 10 27))) (Or.inl p26))
  have f12 := ((((K1.arr p17 nin0 oA0).other W4 p27).other W8 p28).other W10 p29)
  have f13 := (Fld.other W10 (Fld.other W8 (Fld.other W4 (K1.fld p18 nin0 oN0) (Or.inl p9)) (Or.inr (oSn0 hw 11 27))) (Or.inl p26))
  have f14 := ((((K1.arr p19 nin0 oA0).other W4 p32).other W8 p33).other W10 p34)
  have f15 := (Fld.other W10 (Fld.other W8 (Fld.other W4 (K1.fld p20 nin0 oN0) (Or.inl p9)) (Or.inr (oSn0 hw 12 27))) (Or.inl p26))
  have f16 := ((((K1.arr p21 nin0 oA0).other W4 p38).other W8 p39).other W10 p40)
  have f17 := (Fld.other W10 (Fld.other W8 (Fld.other W4 (K1.fld p22 nin0 oN0) (Or.inl p9)) (Or.inr (oSn0 hw 13 27))) (Or.inl p26))
  have f18 := ((((K1.arr p23 nin0 oA0).other W4 p45).other W8 p46).other W10 p47)
  have f19 := (Fld.other W10 (Fld.other W8 (Fld.other W4 (K1.fld p24 nin0 oN0) (Or.inl p9)) (Or.inr (oSn0 hw 14 27))) (Or.inl p26))
  have f20 := ((((K1.arr p25 nin0 oA0).other W4 p53).other W8 p54).other W10 p55)
  have f22 := (Exa.wr W10 (Exa.wr W8 f7))
  have z23 := (Nat.le_trans (Nat.le_trans (Nat.le_trans (Nat.le_trans Z0 K1.1) (Nat.le_of_eq W4.size.symm)) (Nat.le_of_eq W8.size.symm)) (Nat.le_of_eq W10.size.symm))
  refine oCallP C (w114 hw) (w116 hw) (w4 hw) (w115 hw) (w5 hw) (w117 hw) d12_59 f22 (by decide) pd_477193 rfl rfl (a := b1) (argsL := [.int 0, .long 0, .long 0, .int 1, .int (-1), .int 1]) (rest := []) rfl (W := 0) rfl (q := 62) rfl (by decide) (by decide) (by decide) (by decide) (ac14_16 l Z a0 hw _ n0 z23 b1 b5 b6 b7 b8 b9 f11 f12 p30 f13 p31 f14 p35 p36 f15 p37 f16 p41 p42 p43 f17 p44 f18 p48 p49 p50 p51 f19 p52 f20 p56 p57 p58 p59 p60 p61 p62 p63 p64 p65 p66 p67 p68 p69 p70) (oVQ ?_)
  rintro h21 ⟨K21, f21_0, f21_1, f21_2, f21_3, f21_4⟩
  refine oAloadN C d12_62 rfl rfl rfl ?_
  refine oIloadN C d12_63 rfl rfl ?_
  refine oAloadN C d12_64 rfl rfl rfl ?_
  refine oDup C d12_65 rfl rfl ?_
  have f24 := (K21.fld (Fld.other W10 (Fld.other W8 (Fld.other W4 (K1.fld p71 nin0 oN0) (Or.inl p9)) (Or.inr (oSn0 hw 28 27))) (Or.inl p26)) (ninS p31 (ninS p37 (ninS p44 (ninS p52 (ninS p72 nin0))))) oN0)
  refine oGetF C (w118 hw) Via.refl f24 d12_66 rfl ?_
  refine oDupX1 C d12_69 rfl rfl rfl ?_
  refine oIconst C d12_70 (z := 1) rfl rfl ?_
  refine oIadd C d12_71 rfl ?_
  refine oCastI (z' := (1 : Int32)) (by decide) ?_
  have f25 := (K21.exa f22)
  refine oPutF C (w118 hw) Via.refl f24 f25 (Or.inl (w119 hw)) (w4 hw) (ty := .int) (by decide) rfl rfl d12_72 rfl p11 fun h26 W26 => ?_
  have f26w := Fld.same W26 f24
  have f27 := (Fld.other W26 (K21.fld (Fld.other W10 (Fld.other W8 (Fld.other W4 (K1.fld p73 nin0 oN0) (Or.inl p9)) (Or.inr (oSn0 hw 16 27))) (Or.inl p26)) (ninS p31 (ninS p37 (ninS p44 (ninS p52 (ninS p72 nin0))))) oN0) (Or.inr (oSn0 hw 16 28)))
  have f28 := ((K21.arr ((((K1.arr p74 nin0 oA0).other W4 p77).other W8 p78).other W10 p79) (ninS p84 (ninS p83 (ninS p82 (ninS p81 (ninS p80 nin0))))) oA0).other W26 p78)
  have f29 := (Fld.other W26 (K21.fld (Fld.other W10 (Fld.other W8 (Fld.other W4 (K1.fld p75 nin0 oN0) (Or.inl p9)) (Or.inr (oSn0 hw 17 27))) (Or.inl p26)) (ninS p31 (ninS p37 (ninS p44 (ninS p52 (ninS p72 nin0))))) oN0) (Or.inr (oSn0 hw 17 28)))
  have f30 := ((K21.arr ((((K1.arr p76 nin0 oA0).other W4 p85).other W8 p86).other W10 p87) (ninS p92 (ninS p91 (ninS p90 (ninS p89 (ninS p88 nin0))))) oA0).other W26 p86)
  have f31 := (Exa.wr W26 f25)
  have z33 := (Nat.le_trans (Nat.le_trans z23 K21.1) (Nat.le_of_eq W26.size.symm))
  refine oCallP C (w120 hw) (w122 hw) (w4 hw) (w121 hw) (w5 hw) (w123 hw) d12_75 f31 (by decide) pd_947250 rfl rfl (a := b1) (argsL := [.int 0, .int 0]) (rest := []) rfl (W := 0) rfl (q := 78) rfl (by decide) (by decide) (by decide) (by decide) (ac15_18 l Z a0 hw _ n0 z33 b1 b10 b11 f27 f28 f29 f30 p93 p94 p95 p96 p97 f31) (oVQ ?_)
  rintro h32 ⟨K32, f32_0, f32_1⟩
  refine oRetV C d12_78 (by decide) (by decide) ?_
  have f34 := (K32.arr ((K21.arr ((A4l.other W8 p98).other W10 p99) (ninS p104 (ninS p103 (ninS p102 (ninS p101 (ninS p100 nin0))))) oA0).other W26 p98) (ninS p106 (ninS p105 nin0)) oA0)
  have f35 := (K32.fld (Fld.other W26 (K21.fld (Fld.other W10 f8w (Or.inl p26)) (ninS p31 (ninS p37 (ninS p44 (ninS p52 (ninS p72 nin0))))) oN0) (Or.inr (oSn0 hw 27 28))) (ninS p94 (ninS p107 nin0)) oN0)
  have f36 := (K32.arr ((K21.arr A10l (ninS p112 (ninS p111 (ninS p110 (ninS p109 (ninS p108 nin0))))) oA0).other W26 p14) (ninS p114 (ninS p113 nin0)) oA0)
  have f37 := (K32.arr (f21_0.other W26 p28) (ninS p116 (ninS p115 nin0)) oA0)
  have f38 := (K32.arr (f21_1.other W26 p33) (ninS p118 (ninS p117 nin0)) oA0)
  have f39 := (K32.arr (f21_2.other W26 p39) (ninS p120 (ninS p119 nin0)) oA0)
  have f40 := (K32.arr (f21_3.other W26 p46) (ninS p122 (ninS p121 nin0)) oA0)
  have f41 := (K32.arr (f21_4.other W26 p54) (ninS p124 (ninS p123 nin0)) oA0)
  have f42 := (K32.fld f26w (ninS p94 (ninS p107 nin0)) oN0)
  exact ⟨rfl, ((((((((oKe.refl h0 [b3, b4, b5, b6, b7, b8, b9, b10, b11] [(b1, Jvm.RoadKit.slotOf Z cU "touchedCount" "I"), (b1, Jvm.RoadKit.slotOf Z cU "heapSize" "I")]).trans K1 all0 oA0).wrA W4 (Or.inl (List.mem_of_getElem? (i := 0) rfl))).wrF W8 (Or.inl (List.mem_of_getElem? (i := 0) rfl))).wrA W10 (Or.inl (List.mem_of_getElem? (i := 1) rfl))).trans K21 (allS (Or.inl (List.mem_of_getElem? (i := 2) rfl)) (allS (Or.inl (List.mem_of_getElem? (i := 3) rfl)) (allS (Or.inl (List.mem_of_getElem? (i := 4) rfl)) (allS (Or.inl (List.mem_of_getElem? (i := 5) rfl)) (allS (Or.inl (List.mem_of_getElem? (i := 6) rfl)) all0))))) oA0).wrF W26 (Or.inl (List.mem_of_getElem? (i := 1) rfl))).trans K32 (allS (Or.inl (List.mem_of_getElem? (i := 7) rfl)) (allS (Or.inl (List.mem_of_getElem? (i := 8) rfl)) all0)) oA0), f34, f35, f36, f37, f38, f39, f40, f41, f42, f32_0, f32_1⟩
theorem ef_17 (m : MethodId) (x0 : Addr) : entryFrame m #[.ref x0] 1 = mkF m 0 #[.val (.ref x0)] [] := by first | (simp [entryFrame, mkF, argsToLocals, Value.category]; done) | rfl
theorem d17_0 : decode prog_54_method_23_code 0 = .ok (.aload_n 0, 1) := by decide +kernel
theorem d17_1 : decode prog_54_method_23_code 1 = .ok (.dup, 1) := by decide +kernel
theorem d17_2 : decode prog_54_method_23_code 2 = .ok (.getfield 139, 3) := by decide +kernel
theorem d17_5 : decode prog_54_method_23_code 5 = .ok (.iconst 1, 1) := by decide +kernel
theorem d17_6 : decode prog_54_method_23_code 6 = .ok (.isub, 1) := by decide +kernel
theorem d17_7 : decode prog_54_method_23_code 7 = .ok (.putfield 139, 3) := by decide +kernel
theorem d17_10 : decode prog_54_method_23_code 10 = .ok (.aload_n 0, 1) := by decide +kernel
theorem d17_11 : decode prog_54_method_23_code 11 = .ok (.getfield 139, 3) := by decide +kernel
theorem d17_14 : decode prog_54_method_23_code 14 = .ok (.ifCond .le 17, 3) := by decide +kernel
theorem d17_31 : decode prog_54_method_23_code 31 = .ok (.return_, 1) := by decide +kernel
set_option maxRecDepth 65536 in
set_option maxHeartbeats 40000000 in
theorem ac17_20 (l : Launch) (Z : State) (a0 : Array Value) (hw : oHw a0 Z) (h0 : Heap) (n0 : Nat) (Z0 : n0 ≤ h0.size) (b1 : Addr) (p1 : Fld Z h0 b1 cU "heapSize" "I" (.int 1)) (p2 : Exa Z h0 b1 cU) (p3 : n0 ≤ b1) :
    oMet l Z (⟨cU, "pop", "()V"⟩ : MethodName) prog_54_method_23_code 1 none [] ({ frames := 0, cells := 0, slots := 0, locals := 0 } : Room) 0 0 n0 #[.ref b1] h0 (fun v h => v = none ∧ oKe h0 h [] [(b1, Jvm.RoadKit.slotOf Z cU "heapSize" "I")] ∧ Fld Z h b1 cU "heapSize" "I" (.int 0)) := by
  refine oMet.intro (plainFor_of_name pn_944982) (fun m => ef_17 m b1) ?_
  intro op oe os m obl omt ocd C
  refine oAloadN C d17_0 rfl rfl rfl ?_
  refine oDup C d17_1 rfl rfl ?_
  refine oGetF C (w118 hw) Via.refl p1 d17_2 rfl ?_
  refine oIconst C d17_5 (z := 1) rfl rfl ?_
  refine oIsub C d17_6 rfl ?_
  refine oCastI (z' := (0 : Int32)) (by decide) ?_
  refine oPutF C (w118 hw) Via.refl p1 p2 (Or.inl (w119 hw)) (w4 hw) (ty := .int) (by decide) rfl rfl d17_7 rfl p3 fun h1 W1 => ?_
  have f1w := Fld.same W1 p1
  refine oAloadN C d17_10 rfl rfl rfl ?_
  refine oGetF C (w118 hw) Via.refl f1w d17_11 rfl ?_
  refine oIf_le C d17_14 (q := 31) (by decide) (by decide) (r := 17) rfl (fun hc14 => ?_) (fun hq => absurd hq ((by decide)))
  refine oRetV C d17_31 (by decide) (by decide) ?_
  exact ⟨rfl, ((oKe.refl h0 [] [(b1, Jvm.RoadKit.slotOf Z cU "heapSize" "I")]).wrF W1 (Or.inl (List.mem_of_getElem? (i := 0) rfl))), f1w⟩
theorem pd_428486 : parseMethodDescriptor "()V" = some ⟨[], none⟩ := by decide +kernel
set_option maxRecDepth 65536 in
set_option maxHeartbeats 40000000 in
theorem ac11_21 (l : Launch) (Z : State) (a0 : Array Value) (hw : oHw a0 Z) (h0 : Heap) (n0 : Nat) (Z0 : n0 ≤ h0.size) (y1 : Int64) (p1 : ¬ (((0 : Int64) ^^^ ((0 : Int64) + y1)) &&& (y1 ^^^ ((0 : Int64) + y1))) < (0 : Int64)) :
    oMet l Z (⟨"java/lang/Math", "addExact", "(JJ)J"⟩ : MethodName) jdk_29_method_25_code 6 (some .long) [] ({ frames := 0, cells := 0, slots := 0, locals := 0 } : Room) 0 0 n0 #[.long 0, .long y1] h0 (fun v h => v = some (.long ((0 : Int64) + y1)) ∧ oKe h0 h [] []) := by
  refine oMet.intro (Jvm.Free.JP.mathPlain rfl (by decide +kernel)) (fun m => ef_11 m (0 : Int64) y1) ?_
  intro op oe os m obl omt ocd C
  refine oLloadN C d11_0 rfl rfl ?_
  refine oLloadN C d11_1 rfl rfl ?_
  refine oLadd C d11_2 rfl ?_
  refine oLstore C d11_3 (Ls' := #[.val (.long 0), .second, .val (.long y1), .second, .val (.long ((0 : Int64) + y1)), .second]) rfl (q := 5) rfl ?_
  refine oLloadN C d11_5 rfl rfl ?_
  refine oLload C d11_6 rfl rfl ?_
  refine oLxor C d11_8 rfl ?_
  refine oLloadN C d11_9 rfl rfl ?_
  refine oLload C d11_10 rfl rfl ?_
  refine oLxor C d11_12 rfl ?_
  refine oLand C d11_13 rfl ?_
  refine oLconst C d11_14 (z := 0) rfl rfl ?_
  refine oLcmp_ge C d11_15 rfl d11_16 (q := 29) (by decide) (by decide) (r := 19) rfl (fun hc15 => ?_) (fun hq => absurd hq (p1))
  refine oLload C d11_29 rfl rfl ?_
  refine oRetL C d11_31 (by decide) (by decide) ?_
  exact ⟨rfl, (oKe.refl h0 [] [])⟩
set_option maxRecDepth 65536 in
set_option maxHeartbeats 40000000 in
theorem ac10_22 (l : Launch) (Z : State) (a0 : Array Value) (hw : oHw a0 Z) (h0 : Heap) (n0 : Nat) (Z0 : n0 ≤ h0.size) (y1 : Int64) (p1 : ¬ (((0 : Int64) ^^^ ((0 : Int64) + y1)) &&& (y1 ^^^ ((0 : Int64) + y1))) < (0 : Int64)) :
    oMetH l Z (⟨"com/example/gavel/gavel/Money", "addCents", "(JJ)J"⟩ : MethodName) prog_35_method_4_code 5 (some .long) [((0 : Nat), (5 : Nat), (6 : Nat), (60 : Nat))] ({ frames := 1, cells := 0, slots := 0, locals := 17 } : Room) 0 0 n0 #[.long 0, .long y1] h0 (fun v h => v = some (.long y1) ∧ oKe h0 h [] []) := by
  refine oMetH.intro (plainFor_of_name pn_631609) (fun m => ef_10 m (0 : Int64) y1) ?_
  intro op oe os m obl omt ocd C
  refine oLloadN C d10_0 rfl rfl ?_
  refine oLloadN C d10_1 rfl rfl ?_
  refine oCallS C (w101 hw) (w102 hw) (w67 hw) (w103 hw) d10_2 (by decide) pd_212481 rfl rfl (argsL := [.long 0, .long y1]) (rest := []) rfl (W := 0) rfl (q := 5) rfl (by decide) (by decide) (by decide) (by decide) (ac11_21 l Z a0 hw _ n0 Z0 y1 p1) (oRQ ?_)
  rintro h1 K1
  refine oCastL (z' := y1) (own_0add _) ?_
  refine oRetL C d10_5 (by decide) (by decide) ?_
  exact ⟨rfl, ((oKe.refl h0 [] []).trans K1 all0 oA0)⟩
theorem ef_18 (m : MethodId) (x0 : Addr) (x1 : Int64) (x2 : Int64) (x3 : Int32) (x4 : Int32) (x5 : Int32) : entryFrame m #[.ref x0, .long x1, .long x2, .int x3, .int x4, .int x5] 9 = mkF m 0 #[.val (.ref x0), .val (.long x1), .second, .val (.long x2), .second, .val (.int x3), .val (.int x4), .val (.int x5), .unset] [] := by first | (simp [entryFrame, mkF, argsToLocals, Value.category]; done) | rfl
set_option maxRecDepth 65536 in
set_option maxHeartbeats 40000000 in
theorem ac7_23 (l : Launch) (Z : State) (a0 : Array Value) (hw : oHw a0 Z) (h0 : Heap) (n0 : Nat) (Z0 : n0 ≤ h0.size) (y1 : Int64) (y2 : Int64) (p1 : y1 < y2) :
    oMet l Z (⟨"java/lang/Long", "compare", "(JJ)I"⟩ : MethodName) jdk_35_method_42_code 4 (some .int) [] ({ frames := 0, cells := 0, slots := 0, locals := 0 } : Room) 0 0 n0 #[.long y1, .long y2] h0 (fun v h => v = some (.int (-1)) ∧ oKe h0 h [] []) := by
  refine oMet.intro (plainFor_of_name pn_77341) (fun m => ef_7 m y1 y2) ?_
  intro op oe os m obl omt ocd C
  refine oLloadN C d7_0 rfl rfl ?_
  refine oLloadN C d7_1 rfl rfl ?_
  refine oLcmp_ge C d7_2 rfl d7_3 (q := 10) (by decide) (by decide) (r := 6) rfl (fun hq => absurd hq (not_not_intro p1)) (fun hc2 => ?_)
  refine oIconst C d7_6 (z := (-1)) rfl rfl ?_
  refine oGoto C d7_7 (q := 21) (by decide) (by decide) ?_
  refine oRetI C d7_21 (by decide) (by decide) ?_
  exact ⟨rfl, (oKe.refl h0 [] [])⟩
set_option maxRecDepth 65536 in
set_option maxHeartbeats 40000000 in
theorem ac6_24 (l : Launch) (Z : State) (a0 : Array Value) (hw : oHw a0 Z) (h0 : Heap) (n0 : Nat) (Z0 : n0 ≤ h0.size) (y1 : Int64) (y2 : Int64) (p1 : y1 < y2) :
    oMet l Z (⟨cU, "compare", "(JJJJ)I"⟩ : MethodName) prog_54_method_28_code 9 (some .int) [] ({ frames := 1, cells := 0, slots := 0, locals := 15 } : Room) 0 0 n0 #[.long y1, .long 1, .long y2, .long 1] h0 (fun v h => v = some (.int (-1)) ∧ oKe h0 h [] []) := by
  refine oMet.intro (plainFor_of_name pn_944982) (fun m => ef_6 m y1 (1 : Int64) y2 (1 : Int64)) ?_
  intro op oe os m obl omt ocd C
  refine oLloadN C d6_0 rfl rfl ?_
  refine oLload C d6_1 rfl rfl ?_
  refine oCallS C (w72 hw) (w73 hw) (w74 hw) (w75 hw) d6_3 (by decide) pd_212480 rfl rfl (argsL := [.long y1, .long y2]) (rest := []) rfl (W := 0) rfl (q := 6) rfl (by decide) (by decide) (by decide) (by decide) (ac7_23 l Z a0 hw _ n0 Z0 y1 y2 p1) (oRQ ?_)
  rintro h1 K1
  refine oIstore C d6_6 (Ls' := #[.val (.long y1), .second, .val (.long 1), .second, .val (.long y2), .second, .val (.long 1), .second, .val (.int (-1))]) rfl (q := 8) rfl ?_
  refine oIload C d6_8 rfl rfl ?_
  refine oIf_eq C d6_10 (q := 18) (by decide) (by decide) (r := 13) rfl (fun hq => absurd hq ((by decide))) (fun hc10 => ?_)
  refine oIload C d6_13 rfl rfl ?_
  refine oGoto C d6_15 (q := 24) (by decide) (by decide) ?_
  refine oRetI C d6_24 (by decide) (by decide) ?_
  exact ⟨rfl, ((oKe.refl h0 [] []).trans K1 all0 oA0)⟩
set_option maxRecDepth 65536 in
set_option maxHeartbeats 40000000 in
theorem ac13_25 (l : Launch) (Z : State) (a0 : Array Value) (hw : oHw a0 Z) (h0 : Heap) (n0 : Nat) (Z0 : n0 ≤ h0.size) (b1 : Addr) (y2 : Int64) (y3 : Int64) (p1 : Fld Z h0 b1 cU "sinkMoney" "J" (.long y3)) (p2 : Fld Z h0 b1 cU "sinkSales" "J" (.long 1)) (p3 : y2 < y3) :
    oMet l Z (⟨cU, "compareSink", "(JJI)I"⟩ : MethodName) prog_54_method_18_code 7 (some .int) [] ({ frames := 2, cells := 0, slots := 0, locals := 35 } : Room) 0 0 n0 #[.ref b1, .long y2, .long 1, .int 1] h0 (fun v h => v = some (.int (-1)) ∧ oKe h0 h [] []) := by
  refine oMet.intro (plainFor_of_name pn_944982) (fun m => ef_13 m b1 y2 (1 : Int64) (1 : Int32)) ?_
  intro op oe os m obl omt ocd C
  refine oLloadN C d13_0 rfl rfl ?_
  refine oLloadN C d13_1 rfl rfl ?_
  refine oAloadN C d13_2 rfl rfl rfl ?_
  refine oGetF C (w87 hw) Via.refl p1 d13_3 rfl ?_
  refine oAloadN C d13_6 rfl rfl rfl ?_
  refine oGetF C (w89 hw) Via.refl p2 d13_7 rfl ?_
  refine oCallS C (w69 hw) (w70 hw) (w5 hw) (w71 hw) d13_10 (by decide) pd_567728 rfl rfl (argsL := [.long y2, .long 1, .long y3, .long 1]) (rest := []) rfl (W := 0) rfl (q := 13) rfl (by decide) (by decide) (by decide) (by decide) (ac6_24 l Z a0 hw _ n0 Z0 y2 y3 p3) (oRQ ?_)
  rintro h1 K1
  refine oIstore C d13_13 (Ls' := #[.val (.ref b1), .val (.long y2), .second, .val (.long 1), .second, .val (.int 1), .val (.int (-1))]) rfl (q := 15) rfl ?_
  refine oIload C d13_15 rfl rfl ?_
  refine oIf_eq C d13_17 (q := 25) (by decide) (by decide) (r := 20) rfl (fun hq => absurd hq ((by decide))) (fun hc17 => ?_)
  refine oIload C d13_20 rfl rfl ?_
  refine oGoto C d13_22 (q := 34) (by decide) (by decide) ?_
  refine oRetI C d13_34 (by decide) (by decide) ?_
  exact ⟨rfl, ((oKe.refl h0 [] []).trans K1 all0 oA0)⟩
theorem d18_0 : decode prog_54_method_19_code 0 = .ok (.aload_n 0, 1) := by decide +kernel
theorem d18_1 : decode prog_54_method_19_code 1 = .ok (.lload_n 1, 1) := by decide +kernel
theorem d18_2 : decode prog_54_method_19_code 2 = .ok (.lload_n 3, 1) := by decide +kernel
theorem d18_3 : decode prog_54_method_19_code 3 = .ok (.iload 5, 2) := by decide +kernel
theorem d18_5 : decode prog_54_method_19_code 5 = .ok (.invokevirtual 163, 3) := by decide +kernel
theorem d18_8 : decode prog_54_method_19_code 8 = .ok (.istore 8, 2) := by decide +kernel
theorem d18_10 : decode prog_54_method_19_code 10 = .ok (.iload 8, 2) := by decide +kernel
theorem d18_12 : decode prog_54_method_19_code 12 = .ok (.ifCond .lt 21, 3) := by decide +kernel
theorem d18_33 : decode prog_54_method_19_code 33 = .ok (.aload_n 0, 1) := by decide +kernel
theorem d18_34 : decode prog_54_method_19_code 34 = .ok (.lload_n 1, 1) := by decide +kernel
theorem d18_35 : decode prog_54_method_19_code 35 = .ok (.putfield 142, 3) := by decide +kernel
theorem d18_38 : decode prog_54_method_19_code 38 = .ok (.aload_n 0, 1) := by decide +kernel
theorem d18_39 : decode prog_54_method_19_code 39 = .ok (.lload_n 3, 1) := by decide +kernel
theorem d18_40 : decode prog_54_method_19_code 40 = .ok (.putfield 146, 3) := by decide +kernel
theorem d18_43 : decode prog_54_method_19_code 43 = .ok (.aload_n 0, 1) := by decide +kernel
theorem d18_44 : decode prog_54_method_19_code 44 = .ok (.iload 5, 2) := by decide +kernel
theorem d18_46 : decode prog_54_method_19_code 46 = .ok (.putfield 149, 3) := by decide +kernel
theorem d18_49 : decode prog_54_method_19_code 49 = .ok (.aload_n 0, 1) := by decide +kernel
theorem d18_50 : decode prog_54_method_19_code 50 = .ok (.iload 6, 2) := by decide +kernel
theorem d18_52 : decode prog_54_method_19_code 52 = .ok (.putfield 152, 3) := by decide +kernel
theorem d18_55 : decode prog_54_method_19_code 55 = .ok (.aload_n 0, 1) := by decide +kernel
theorem d18_56 : decode prog_54_method_19_code 56 = .ok (.iload 7, 2) := by decide +kernel
theorem d18_58 : decode prog_54_method_19_code 58 = .ok (.putfield 155, 3) := by decide +kernel
theorem d18_61 : decode prog_54_method_19_code 61 = .ok (.return_, 1) := by decide +kernel
set_option maxRecDepth 65536 in
set_option maxHeartbeats 40000000 in
theorem ac18_26 (l : Launch) (Z : State) (a0 : Array Value) (hw : oHw a0 Z) (h0 : Heap) (n0 : Nat) (Z0 : n0 ≤ h0.size) (b1 : Addr) (y2 : Int64) (y3 : Int64) (p1 : Fld Z h0 b1 cU "sinkMoney" "J" (.long y3)) (p2 : Fld Z h0 b1 cU "sinkSales" "J" (.long 1)) (p3 : y2 < y3) (p4 : Exa Z h0 b1 cU) (p5 : n0 ≤ b1) (p6 : Fld Z h0 b1 cU "sinkMoves" "I" (.int 0)) (p7 : Fld Z h0 b1 cU "sinkEnd" "I" (.int (-1))) (p8 : Fld Z h0 b1 cU "sinkGoesWithout" "Z" (.int 1)) :
    oMet l Z (⟨cU, "considerSink", "(JJIIZ)V"⟩ : MethodName) prog_54_method_19_code 9 none [] ({ frames := 3, cells := 0, slots := 0, locals := 53 } : Room) 0 0 n0 #[.ref b1, .long y2, .long 1, .int 1, .int 0, .int 1] h0 (fun v h => v = none ∧ oKe h0 h [] [(b1, Jvm.RoadKit.slotOf Z cU "sinkMoney" "J"), (b1, Jvm.RoadKit.slotOf Z cU "sinkSales" "J"), (b1, Jvm.RoadKit.slotOf Z cU "sinkMoves" "I"), (b1, Jvm.RoadKit.slotOf Z cU "sinkEnd" "I"), (b1, Jvm.RoadKit.slotOf Z cU "sinkGoesWithout" "Z")] ∧ Fld Z h b1 cU "sinkMoney" "J" (.long y2) ∧ Fld Z h b1 cU "sinkSales" "J" (.long 1) ∧ Fld Z h b1 cU "sinkMoves" "I" (.int 1) ∧ Fld Z h b1 cU "sinkEnd" "I" (.int 0) ∧ Fld Z h b1 cU "sinkGoesWithout" "Z" (.int 1)) := by
  refine oMet.intro (plainFor_of_name pn_944982) (fun m => ef_18 m b1 y2 (1 : Int64) (1 : Int32) (0 : Int32) (1 : Int32)) ?_
  intro op oe os m obl omt ocd C
  refine oAloadN C d18_0 rfl rfl rfl ?_
  refine oLloadN C d18_1 rfl rfl ?_
  refine oLloadN C d18_2 rfl rfl ?_
  refine oIload C d18_3 rfl rfl ?_
  refine oCallP C (w108 hw) (w110 hw) (w4 hw) (w109 hw) (w5 hw) (w111 hw) d18_5 p4 (by decide) pd_379829 rfl rfl (a := b1) (argsL := [.long y2, .long 1, .int 1]) (rest := []) rfl (W := 0) rfl (q := 8) rfl (by decide) (by decide) (by decide) (by decide) (ac13_25 l Z a0 hw _ n0 Z0 b1 y2 y3 p1 p2 p3) (oRQ ?_)
  rintro h1 K1
  refine oIstore C d18_8 (Ls' := #[.val (.ref b1), .val (.long y2), .second, .val (.long 1), .second, .val (.int 1), .val (.int 0), .val (.int 1), .val (.int (-1))]) rfl (q := 10) rfl ?_
  refine oIload C d18_10 rfl rfl ?_
  refine oIf_lt C d18_12 (q := 33) (by decide) (by decide) (r := 15) rfl (fun hc12 => ?_) (fun hq => absurd hq ((by decide)))
  refine oAloadN C d18_33 rfl rfl rfl ?_
  refine oLloadN C d18_34 rfl rfl ?_
  have f2 := (K1.exa p4)
  have f3 := (K1.fld p1 nin0 oN0)
  refine oPutF C (w87 hw) Via.refl f3 f2 (Or.inl (w88 hw)) (w4 hw) (ty := .long) (by decide) rfl rfl d18_35 rfl p5 fun h4 W4 => ?_
  have f4w := Fld.same W4 f3
  refine oAloadN C d18_38 rfl rfl rfl ?_
  refine oLloadN C d18_39 rfl rfl ?_
  have f5 := (Exa.wr W4 f2)
  have f6 := (Fld.other W4 (K1.fld p2 nin0 oN0) (Or.inr (oSn0 hw 23 22)))
  refine oPutF C (w89 hw) Via.refl f6 f5 (Or.inl (w90 hw)) (w4 hw) (ty := .long) (by decide) rfl rfl d18_40 rfl p5 fun h7 W7 => ?_
  have f7w := Fld.same W7 f6
  refine oAloadN C d18_43 rfl rfl rfl ?_
  refine oIload C d18_44 rfl rfl ?_
  have f8 := (Exa.wr W7 f5)
  have f9 := (Fld.other W7 (Fld.other W4 (K1.fld p6 nin0 oN0) (Or.inr (oSn0 hw 24 22))) (Or.inr (oSn0 hw 24 23)))
  refine oPutF C (w91 hw) Via.refl f9 f8 (Or.inl (w92 hw)) (w4 hw) (ty := .int) (by decide) rfl rfl d18_46 rfl p5 fun h10 W10 => ?_
  have f10w := Fld.same W10 f9
  refine oAloadN C d18_49 rfl rfl rfl ?_
  refine oIload C d18_50 rfl rfl ?_
  have f11 := (Exa.wr W10 f8)
  have f12 := (Fld.other W10 (Fld.other W7 (Fld.other W4 (K1.fld p7 nin0 oN0) (Or.inr (oSn0 hw 25 22))) (Or.inr (oSn0 hw 25 23))) (Or.inr (oSn0 hw 25 24)))
  refine oPutF C (w93 hw) Via.refl f12 f11 (Or.inl (w94 hw)) (w4 hw) (ty := .int) (by decide) rfl rfl d18_52 rfl p5 fun h13 W13 => ?_
  have f13w := Fld.same W13 f12
  refine oAloadN C d18_55 rfl rfl rfl ?_
  refine oIload C d18_56 rfl rfl ?_
  have f14 := (Exa.wr W13 f11)
  have f15 := (Fld.other W13 (Fld.other W10 (Fld.other W7 (Fld.other W4 (K1.fld p8 nin0 oN0) (Or.inr (oSn0 hw 26 22))) (Or.inr (oSn0 hw 26 23))) (Or.inr (oSn0 hw 26 24))) (Or.inr (oSn0 hw 26 25)))
  refine oPutFN C (w95 hw) Via.refl f15 f14 (Or.inl (w96 hw)) (w4 hw) (ty := .boolean) (v' := .int 1) (by decide) rfl rfl d18_58 rfl p5 fun h16 W16 => ?_
  have f16w := Fld.same W16 f15
  refine oRetV C d18_61 (by decide) (by decide) ?_
  have f17 := (Fld.other W16 (Fld.other W13 (Fld.other W10 (Fld.other W7 f4w (Or.inr (oSn0 hw 22 23))) (Or.inr (oSn0 hw 22 24))) (Or.inr (oSn0 hw 22 25))) (Or.inr (oSn0 hw 22 26)))
  have f18 := (Fld.other W16 (Fld.other W13 (Fld.other W10 f7w (Or.inr (oSn0 hw 23 24))) (Or.inr (oSn0 hw 23 25))) (Or.inr (oSn0 hw 23 26)))
  have f19 := (Fld.other W16 (Fld.other W13 f10w (Or.inr (oSn0 hw 24 25))) (Or.inr (oSn0 hw 24 26)))
  have f20 := (Fld.other W16 f13w (Or.inr (oSn0 hw 25 26)))
  exact ⟨rfl, (((((((oKe.refl h0 [] [(b1, Jvm.RoadKit.slotOf Z cU "sinkMoney" "J"), (b1, Jvm.RoadKit.slotOf Z cU "sinkSales" "J"), (b1, Jvm.RoadKit.slotOf Z cU "sinkMoves" "I"), (b1, Jvm.RoadKit.slotOf Z cU "sinkEnd" "I"), (b1, Jvm.RoadKit.slotOf Z cU "sinkGoesWithout" "Z")]).trans K1 all0 oA0).wrF W4 (Or.inl (List.mem_of_getElem? (i := 0) rfl))).wrF W7 (Or.inl (List.mem_of_getElem? (i := 1) rfl))).wrF W10 (Or.inl (List.mem_of_getElem? (i := 2) rfl))).wrF W13 (Or.inl (List.mem_of_getElem? (i := 3) rfl))).wrF W16 (Or.inl (List.mem_of_getElem? (i := 4) rfl))), f17, f18, f19, f20, f16w⟩
theorem pd_461805 : parseMethodDescriptor "(JJIIZ)V" = some ⟨[.long, .long, .int, .int, .boolean], none⟩ := by decide +kernel
theorem d9_0 : decode prog_54_method_15_code 0 = .ok (.aload_n 0, 1) := by decide +kernel
theorem d9_1 : decode prog_54_method_15_code 1 = .ok (.lload_n 2, 1) := by decide +kernel
theorem d9_2 : decode prog_54_method_15_code 2 = .ok (.putfield 142, 3) := by decide +kernel
theorem d9_5 : decode prog_54_method_15_code 5 = .ok (.aload_n 0, 1) := by decide +kernel
theorem d9_6 : decode prog_54_method_15_code 6 = .ok (.lload 4, 2) := by decide +kernel
theorem d9_8 : decode prog_54_method_15_code 8 = .ok (.putfield 146, 3) := by decide +kernel
theorem d9_11 : decode prog_54_method_15_code 11 = .ok (.aload_n 0, 1) := by decide +kernel
theorem d9_12 : decode prog_54_method_15_code 12 = .ok (.iconst 0, 1) := by decide +kernel
theorem d9_13 : decode prog_54_method_15_code 13 = .ok (.putfield 149, 3) := by decide +kernel
theorem d9_16 : decode prog_54_method_15_code 16 = .ok (.aload_n 0, 1) := by decide +kernel
theorem d9_17 : decode prog_54_method_15_code 17 = .ok (.iconst (-1), 1) := by decide +kernel
theorem d9_18 : decode prog_54_method_15_code 18 = .ok (.putfield 152, 3) := by decide +kernel
theorem d9_21 : decode prog_54_method_15_code 21 = .ok (.aload_n 0, 1) := by decide +kernel
theorem d9_22 : decode prog_54_method_15_code 22 = .ok (.iconst 1, 1) := by decide +kernel
theorem d9_23 : decode prog_54_method_15_code 23 = .ok (.putfield 155, 3) := by decide +kernel
theorem d9_26 : decode prog_54_method_15_code 26 = .ok (.aload_n 0, 1) := by decide +kernel
theorem d9_27 : decode prog_54_method_15_code 27 = .ok (.getfield 13, 3) := by decide +kernel
theorem d9_30 : decode prog_54_method_15_code 30 = .ok (.iload_n 1, 1) := by decide +kernel
theorem d9_31 : decode prog_54_method_15_code 31 = .ok (.iaload, 1) := by decide +kernel
theorem d9_32 : decode prog_54_method_15_code 32 = .ok (.istore 6, 2) := by decide +kernel
theorem d9_34 : decode prog_54_method_15_code 34 = .ok (.iload 6, 2) := by decide +kernel
theorem d9_36 : decode prog_54_method_15_code 36 = .ok (.aload_n 0, 1) := by decide +kernel
theorem d9_37 : decode prog_54_method_15_code 37 = .ok (.getfield 13, 3) := by decide +kernel
theorem d9_40 : decode prog_54_method_15_code 40 = .ok (.iload_n 1, 1) := by decide +kernel
theorem d9_41 : decode prog_54_method_15_code 41 = .ok (.iconst 1, 1) := by decide +kernel
theorem d9_42 : decode prog_54_method_15_code 42 = .ok (.iadd, 1) := by decide +kernel
theorem d9_43 : decode prog_54_method_15_code 43 = .ok (.iaload, 1) := by decide +kernel
theorem d9_44 : decode prog_54_method_15_code 44 = .ok (.if_icmp .ge 84, 3) := by decide +kernel
theorem d9_47 : decode prog_54_method_15_code 47 = .ok (.aload_n 0, 1) := by decide +kernel
theorem d9_48 : decode prog_54_method_15_code 48 = .ok (.getfield 20, 3) := by decide +kernel
theorem d9_51 : decode prog_54_method_15_code 51 = .ok (.iload 6, 2) := by decide +kernel
theorem d9_53 : decode prog_54_method_15_code 53 = .ok (.laload, 1) := by decide +kernel
theorem d9_54 : decode prog_54_method_15_code 54 = .ok (.lconst 0, 1) := by decide +kernel
theorem d9_55 : decode prog_54_method_15_code 55 = .ok (.lcmp, 1) := by decide +kernel
theorem d9_56 : decode prog_54_method_15_code 56 = .ok (.ifCond .ge 6, 3) := by decide +kernel
theorem d9_62 : decode prog_54_method_15_code 62 = .ok (.aload_n 0, 1) := by decide +kernel
theorem d9_63 : decode prog_54_method_15_code 63 = .ok (.getfield 17, 3) := by decide +kernel
theorem d9_66 : decode prog_54_method_15_code 66 = .ok (.iload 6, 2) := by decide +kernel
theorem d9_68 : decode prog_54_method_15_code 68 = .ok (.iaload, 1) := by decide +kernel
theorem d9_69 : decode prog_54_method_15_code 69 = .ok (.istore 7, 2) := by decide +kernel
theorem d9_71 : decode prog_54_method_15_code 71 = .ok (.lload_n 2, 1) := by decide +kernel
theorem d9_72 : decode prog_54_method_15_code 72 = .ok (.aload_n 0, 1) := by decide +kernel
theorem d9_73 : decode prog_54_method_15_code 73 = .ok (.getfield 24, 3) := by decide +kernel
theorem d9_76 : decode prog_54_method_15_code 76 = .ok (.iload 7, 2) := by decide +kernel
theorem d9_78 : decode prog_54_method_15_code 78 = .ok (.laload, 1) := by decide +kernel
theorem d9_79 : decode prog_54_method_15_code 79 = .ok (.invokestatic 83, 3) := by decide +kernel
theorem d9_82 : decode prog_54_method_15_code 82 = .ok (.aload_n 0, 1) := by decide +kernel
theorem d9_83 : decode prog_54_method_15_code 83 = .ok (.getfield 20, 3) := by decide +kernel
theorem d9_86 : decode prog_54_method_15_code 86 = .ok (.iload 6, 2) := by decide +kernel
theorem d9_88 : decode prog_54_method_15_code 88 = .ok (.laload, 1) := by decide +kernel
theorem d9_89 : decode prog_54_method_15_code 89 = .ok (.invokestatic 102, 3) := by decide +kernel
theorem d9_92 : decode prog_54_method_15_code 92 = .ok (.lstore 8, 2) := by decide +kernel
theorem d9_94 : decode prog_54_method_15_code 94 = .ok (.lload 4, 2) := by decide +kernel
theorem d9_96 : decode prog_54_method_15_code 96 = .ok (.aload_n 0, 1) := by decide +kernel
theorem d9_97 : decode prog_54_method_15_code 97 = .ok (.getfield 27, 3) := by decide +kernel
theorem d9_100 : decode prog_54_method_15_code 100 = .ok (.iload 7, 2) := by decide +kernel
theorem d9_102 : decode prog_54_method_15_code 102 = .ok (.laload, 1) := by decide +kernel
theorem d9_103 : decode prog_54_method_15_code 103 = .ok (.ladd, 1) := by decide +kernel
theorem d9_104 : decode prog_54_method_15_code 104 = .ok (.lconst 1, 1) := by decide +kernel
theorem d9_105 : decode prog_54_method_15_code 105 = .ok (.lsub, 1) := by decide +kernel
theorem d9_106 : decode prog_54_method_15_code 106 = .ok (.lstore 10, 2) := by decide +kernel
theorem d9_108 : decode prog_54_method_15_code 108 = .ok (.aload_n 0, 1) := by decide +kernel
theorem d9_109 : decode prog_54_method_15_code 109 = .ok (.iload 7, 2) := by decide +kernel
theorem d9_111 : decode prog_54_method_15_code 111 = .ok (.lload 8, 2) := by decide +kernel
theorem d9_113 : decode prog_54_method_15_code 113 = .ok (.lload 10, 2) := by decide +kernel
theorem d9_115 : decode prog_54_method_15_code 115 = .ok (.iconst 1, 1) := by decide +kernel
theorem d9_116 : decode prog_54_method_15_code 116 = .ok (.iconst (-1), 1) := by decide +kernel
theorem d9_117 : decode prog_54_method_15_code 117 = .ok (.iload 6, 2) := by decide +kernel
theorem d9_119 : decode prog_54_method_15_code 119 = .ok (.invokevirtual 159, 3) := by decide +kernel
theorem d9_122 : decode prog_54_method_15_code 122 = .ok (.iinc 6 1, 3) := by decide +kernel
theorem d9_125 : decode prog_54_method_15_code 125 = .ok (.goto (-91), 3) := by decide +kernel
theorem d9_128 : decode prog_54_method_15_code 128 = .ok (.aload_n 0, 1) := by decide +kernel
theorem d9_129 : decode prog_54_method_15_code 129 = .ok (.getfield 139, 3) := by decide +kernel
theorem d9_132 : decode prog_54_method_15_code 132 = .ok (.ifCond .le 284, 3) := by decide +kernel
theorem d9_135 : decode prog_54_method_15_code 135 = .ok (.aload_n 0, 1) := by decide +kernel
theorem d9_136 : decode prog_54_method_15_code 136 = .ok (.getfield 67, 3) := by decide +kernel
theorem d9_139 : decode prog_54_method_15_code 139 = .ok (.iconst 0, 1) := by decide +kernel
theorem d9_140 : decode prog_54_method_15_code 140 = .ok (.iaload, 1) := by decide +kernel
theorem d9_141 : decode prog_54_method_15_code 141 = .ok (.istore 6, 2) := by decide +kernel
theorem d9_143 : decode prog_54_method_15_code 143 = .ok (.aload_n 0, 1) := by decide +kernel
theorem d9_144 : decode prog_54_method_15_code 144 = .ok (.aload_n 0, 1) := by decide +kernel
theorem d9_145 : decode prog_54_method_15_code 145 = .ok (.getfield 48, 3) := by decide +kernel
theorem d9_148 : decode prog_54_method_15_code 148 = .ok (.iload 6, 2) := by decide +kernel
theorem d9_150 : decode prog_54_method_15_code 150 = .ok (.laload, 1) := by decide +kernel
theorem d9_151 : decode prog_54_method_15_code 151 = .ok (.aload_n 0, 1) := by decide +kernel
theorem d9_152 : decode prog_54_method_15_code 152 = .ok (.getfield 51, 3) := by decide +kernel
theorem d9_155 : decode prog_54_method_15_code 155 = .ok (.iload 6, 2) := by decide +kernel
theorem d9_157 : decode prog_54_method_15_code 157 = .ok (.laload, 1) := by decide +kernel
theorem d9_158 : decode prog_54_method_15_code 158 = .ok (.aload_n 0, 1) := by decide +kernel
theorem d9_159 : decode prog_54_method_15_code 159 = .ok (.getfield 54, 3) := by decide +kernel
theorem d9_162 : decode prog_54_method_15_code 162 = .ok (.iload 6, 2) := by decide +kernel
theorem d9_164 : decode prog_54_method_15_code 164 = .ok (.iaload, 1) := by decide +kernel
theorem d9_165 : decode prog_54_method_15_code 165 = .ok (.iconst 1, 1) := by decide +kernel
theorem d9_166 : decode prog_54_method_15_code 166 = .ok (.isub, 1) := by decide +kernel
theorem d9_167 : decode prog_54_method_15_code 167 = .ok (.invokevirtual 163, 3) := by decide +kernel
theorem d9_170 : decode prog_54_method_15_code 170 = .ok (.ifCond .le 4, 3) := by decide +kernel
theorem d9_174 : decode prog_54_method_15_code 174 = .ok (.aload_n 0, 1) := by decide +kernel
theorem d9_175 : decode prog_54_method_15_code 175 = .ok (.invokevirtual 167, 3) := by decide +kernel
theorem d9_178 : decode prog_54_method_15_code 178 = .ok (.aload_n 0, 1) := by decide +kernel
theorem d9_179 : decode prog_54_method_15_code 179 = .ok (.getfield 63, 3) := by decide +kernel
theorem d9_182 : decode prog_54_method_15_code 182 = .ok (.iload 6, 2) := by decide +kernel
theorem d9_184 : decode prog_54_method_15_code 184 = .ok (.iconst 2, 1) := by decide +kernel
theorem d9_185 : decode prog_54_method_15_code 185 = .ok (.bastore, 1) := by decide +kernel
theorem d9_186 : decode prog_54_method_15_code 186 = .ok (.aload_n 0, 1) := by decide +kernel
theorem d9_187 : decode prog_54_method_15_code 187 = .ok (.getfield 30, 3) := by decide +kernel
theorem d9_190 : decode prog_54_method_15_code 190 = .ok (.iload 6, 2) := by decide +kernel
theorem d9_192 : decode prog_54_method_15_code 192 = .ok (.iaload, 1) := by decide +kernel
theorem d9_193 : decode prog_54_method_15_code 193 = .ok (.istore 7, 2) := by decide +kernel
theorem d9_195 : decode prog_54_method_15_code 195 = .ok (.iload 7, 2) := by decide +kernel
theorem d9_197 : decode prog_54_method_15_code 197 = .ok (.iconst (-1), 1) := by decide +kernel
theorem d9_198 : decode prog_54_method_15_code 198 = .ok (.if_icmp .ne 36, 3) := by decide +kernel
theorem d9_234 : decode prog_54_method_15_code 234 = .ok (.aload_n 0, 1) := by decide +kernel
theorem d9_235 : decode prog_54_method_15_code 235 = .ok (.getfield 48, 3) := by decide +kernel
theorem d9_238 : decode prog_54_method_15_code 238 = .ok (.iload 6, 2) := by decide +kernel
theorem d9_240 : decode prog_54_method_15_code 240 = .ok (.laload, 1) := by decide +kernel
theorem d9_241 : decode prog_54_method_15_code 241 = .ok (.aload_n 0, 1) := by decide +kernel
theorem d9_242 : decode prog_54_method_15_code 242 = .ok (.getfield 39, 3) := by decide +kernel
theorem d9_245 : decode prog_54_method_15_code 245 = .ok (.iload 7, 2) := by decide +kernel
theorem d9_247 : decode prog_54_method_15_code 247 = .ok (.laload, 1) := by decide +kernel
theorem d9_248 : decode prog_54_method_15_code 248 = .ok (.invokestatic 83, 3) := by decide +kernel
theorem d9_251 : decode prog_54_method_15_code 251 = .ok (.lstore 8, 2) := by decide +kernel
theorem d9_253 : decode prog_54_method_15_code 253 = .ok (.aload_n 0, 1) := by decide +kernel
theorem d9_254 : decode prog_54_method_15_code 254 = .ok (.getfield 51, 3) := by decide +kernel
theorem d9_257 : decode prog_54_method_15_code 257 = .ok (.iload 6, 2) := by decide +kernel
theorem d9_259 : decode prog_54_method_15_code 259 = .ok (.laload, 1) := by decide +kernel
theorem d9_260 : decode prog_54_method_15_code 260 = .ok (.aload_n 0, 1) := by decide +kernel
theorem d9_261 : decode prog_54_method_15_code 261 = .ok (.getfield 42, 3) := by decide +kernel
theorem d9_264 : decode prog_54_method_15_code 264 = .ok (.iload 7, 2) := by decide +kernel
theorem d9_266 : decode prog_54_method_15_code 266 = .ok (.laload, 1) := by decide +kernel
theorem d9_267 : decode prog_54_method_15_code 267 = .ok (.ladd, 1) := by decide +kernel
theorem d9_268 : decode prog_54_method_15_code 268 = .ok (.lstore 10, 2) := by decide +kernel
theorem d9_270 : decode prog_54_method_15_code 270 = .ok (.aload_n 0, 1) := by decide +kernel
theorem d9_271 : decode prog_54_method_15_code 271 = .ok (.lload 8, 2) := by decide +kernel
theorem d9_273 : decode prog_54_method_15_code 273 = .ok (.lload 10, 2) := by decide +kernel
theorem d9_275 : decode prog_54_method_15_code 275 = .ok (.aload_n 0, 1) := by decide +kernel
theorem d9_276 : decode prog_54_method_15_code 276 = .ok (.getfield 54, 3) := by decide +kernel
theorem d9_279 : decode prog_54_method_15_code 279 = .ok (.iload 6, 2) := by decide +kernel
theorem d9_281 : decode prog_54_method_15_code 281 = .ok (.iaload, 1) := by decide +kernel
theorem d9_282 : decode prog_54_method_15_code 282 = .ok (.iload 6, 2) := by decide +kernel
theorem d9_284 : decode prog_54_method_15_code 284 = .ok (.iconst 1, 1) := by decide +kernel
theorem d9_285 : decode prog_54_method_15_code 285 = .ok (.invokevirtual 170, 3) := by decide +kernel
theorem d9_288 : decode prog_54_method_15_code 288 = .ok (.aload_n 0, 1) := by decide +kernel
theorem d9_289 : decode prog_54_method_15_code 289 = .ok (.getfield 13, 3) := by decide +kernel
theorem d9_292 : decode prog_54_method_15_code 292 = .ok (.iload 7, 2) := by decide +kernel
theorem d9_294 : decode prog_54_method_15_code 294 = .ok (.iaload, 1) := by decide +kernel
theorem d9_295 : decode prog_54_method_15_code 295 = .ok (.istore 12, 2) := by decide +kernel
theorem d9_297 : decode prog_54_method_15_code 297 = .ok (.iload 12, 2) := by decide +kernel
theorem d9_299 : decode prog_54_method_15_code 299 = .ok (.aload_n 0, 1) := by decide +kernel
theorem d9_300 : decode prog_54_method_15_code 300 = .ok (.getfield 13, 3) := by decide +kernel
theorem d9_303 : decode prog_54_method_15_code 303 = .ok (.iload 7, 2) := by decide +kernel
theorem d9_305 : decode prog_54_method_15_code 305 = .ok (.iconst 1, 1) := by decide +kernel
theorem d9_306 : decode prog_54_method_15_code 306 = .ok (.iadd, 1) := by decide +kernel
theorem d9_307 : decode prog_54_method_15_code 307 = .ok (.iaload, 1) := by decide +kernel
theorem d9_308 : decode prog_54_method_15_code 308 = .ok (.if_icmp .ge 105, 3) := by decide +kernel
theorem d9_311 : decode prog_54_method_15_code 311 = .ok (.aload_n 0, 1) := by decide +kernel
theorem d9_312 : decode prog_54_method_15_code 312 = .ok (.getfield 17, 3) := by decide +kernel
theorem d9_315 : decode prog_54_method_15_code 315 = .ok (.iload 12, 2) := by decide +kernel
theorem d9_317 : decode prog_54_method_15_code 317 = .ok (.iaload, 1) := by decide +kernel
theorem d9_318 : decode prog_54_method_15_code 318 = .ok (.istore 13, 2) := by decide +kernel
theorem d9_320 : decode prog_54_method_15_code 320 = .ok (.aload_n 0, 1) := by decide +kernel
theorem d9_321 : decode prog_54_method_15_code 321 = .ok (.getfield 63, 3) := by decide +kernel
theorem d9_324 : decode prog_54_method_15_code 324 = .ok (.iload 13, 2) := by decide +kernel
theorem d9_326 : decode prog_54_method_15_code 326 = .ok (.baload, 1) := by decide +kernel
theorem d9_327 : decode prog_54_method_15_code 327 = .ok (.iconst 2, 1) := by decide +kernel
theorem d9_328 : decode prog_54_method_15_code 328 = .ok (.if_icmp .eq 79, 3) := by decide +kernel
theorem d9_407 : decode prog_54_method_15_code 407 = .ok (.iinc 12 1, 3) := by decide +kernel
theorem d9_410 : decode prog_54_method_15_code 410 = .ok (.goto (-113), 3) := by decide +kernel
theorem d9_413 : decode prog_54_method_15_code 413 = .ok (.goto (-285), 3) := by decide +kernel
theorem d9_416 : decode prog_54_method_15_code 416 = .ok (.return_, 1) := by decide +kernel
set_option maxRecDepth 65536 in
set_option maxHeartbeats 40000000 in
theorem ac9_27 (l : Launch) (Z : State) (a0 : Array Value) (hw : oHw a0 Z) (h0 : Heap) (n0 : Nat) (Z0 : n0 ≤ h0.size) (b1 : Addr) (y2 : Int64) (b3 : Addr) (b4 : Addr) (y5 : Int64) (y6 : Int64) (b7 : Addr) (b8 : Addr) (b9 : Addr) (b10 : Addr) (b11 : Addr) (b12 : Addr) (b13 : Addr) (b14 : Addr) (b15 : Addr) (b16 : Addr) (b17 : Addr) (b18 : Addr) (b19 : Addr) (b20 : Addr) (b21 : Addr) (p1 : Exa Z h0 b1 cU) (p2 : Fld Z h0 b1 cU "sinkMoney" "J" (.long 0)) (p3 : n0 ≤ b1) (p4 : Fld Z h0 b1 cU "sinkSales" "J" (.long 0)) (p5 : Fld Z h0 b1 cU "sinkMoves" "I" (.int 0)) (p6 : Fld Z h0 b1 cU "sinkEnd" "I" (.int 0)) (p7 : Fld Z h0 b1 cU "sinkGoesWithout" "Z" (.int 0)) (p8 : Fld Z h0 b1 cU "offerStart" "[I" (.ref b3)) (p9 : oAr Z h0 b3 .int [.int 0, .int 1, .int 2, .int 3]) (p10 : b3 ≠ b1) (p11 : Fld Z h0 b1 cU "offerWeight" "[J" (.ref b4)) (p12 : oAr Z h0 b4 .long [.long y5, .long y2, .long y6]) (p13 : b4 ≠ b1) (p14 : ¬ y2 < (0 : Int64)) (p15 : Fld Z h0 b1 cU "offerItem" "[I" (.ref b7)) (p16 : oAr Z h0 b7 .int [.int 0, .int 0, .int 0]) (p17 : b7 ≠ b1) (p18 : Fld Z h0 b1 cU "priceMoney" "[J" (.ref b8)) (p19 : oAr Z h0 b8 .long [.long 0, .long 0]) (p20 : b8 ≠ b1) (p21 : ¬ ((y2 ^^^ (y2 + (0 : Int64))) &&& ((0 : Int64) ^^^ (y2 + (0 : Int64)))) < (0 : Int64)) (p22 : ¬ ((y2 ^^^ y2) &&& (y2 ^^^ (y2 - y2))) < (0 : Int64)) (p23 : Fld Z h0 b1 cU "priceSales" "[J" (.ref b9)) (p24 : oAr Z h0 b9 .long [.long 0, .long 0]) (p25 : b9 ≠ b1) (p26 : Fld Z h0 b1 cU "mark" "[B" (.ref b10)) (p27 : oAr Z h0 b10 .byte [.int 0, .int 0]) (p28 : Fld Z h0 b1 cU "touched" "[I" (.ref b11)) (p29 : Fld Z h0 b1 cU "touchedCount" "I" (.int 0)) (p30 : oAr Z h0 b11 .int [.int 0, .int 0]) (p31 : Fld Z h0 b1 cU "distMoney" "[J" (.ref b12)) (p32 : oAr Z h0 b12 .long [.long 0, .long 0]) (p33 : Fld Z h0 b1 cU "distSales" "[J" (.ref b13)) (p34 : oAr Z h0 b13 .long [.long 0, .long 0]) (p35 : Fld Z h0 b1 cU "hops" "[I" (.ref b14)) (p36 : oAr Z h0 b14 .int [.int 0, .int 0]) (p37 : Fld Z h0 b1 cU "pred" "[I" (.ref b15)) (p38 : oAr Z h0 b15 .int [.int 0, .int 0]) (p39 : Fld Z h0 b1 cU "predOffer" "[I" (.ref b16)) (p40 : oAr Z h0 b16 .int [.int 0, .int 0]) (p41 : Fld Z h0 b1 cU "heapSize" "I" (.int 0)) (p42 : Fld Z h0 b1 cU "heap" "[I" (.ref b17)) (p43 : oAr Z h0 b17 .int [.int 0, .int 0]) (p44 : Fld Z h0 b1 cU "heapIndex" "[I" (.ref b18)) (p45 : oAr Z h0 b18 .int [.int 0, .int 0]) (p46 : (0 : Int64) < y2) (p47 : b10 ≠ b1) (p48 : n0 ≤ b10) (p49 : b1 ≠ b10) (p50 : b11 ≠ b1) (p51 : b11 ≠ b10) (p52 : n0 ≤ b11) (p53 : b12 ≠ b1) (p54 : b13 ≠ b1) (p55 : b14 ≠ b1) (p56 : b15 ≠ b1) (p57 : b16 ≠ b1) (p58 : b1 ≠ b11) (p59 : b12 ≠ b10) (p60 : b12 ≠ b11) (p61 : n0 ≤ b12) (p62 : b1 ≠ b12) (p63 : b13 ≠ b10) (p64 : b13 ≠ b11) (p65 : b13 ≠ b12) (p66 : n0 ≤ b13) (p67 : b1 ≠ b13) (p68 : b14 ≠ b10) (p69 : b14 ≠ b11) (p70 : b14 ≠ b12) (p71 : b14 ≠ b13) (p72 : n0 ≤ b14) (p73 : b1 ≠ b14) (p74 : b15 ≠ b10) (p75 : b15 ≠ b11) (p76 : b15 ≠ b12) (p77 : b15 ≠ b13) (p78 : b15 ≠ b14) (p79 : n0 ≤ b15) (p80 : b1 ≠ b15) (p81 : b16 ≠ b10) (p82 : b16 ≠ b11) (p83 : b16 ≠ b12) (p84 : b16 ≠ b13) (p85 : b16 ≠ b14) (p86 : b16 ≠ b15) (p87 : n0 ≤ b16) (p88 : b12 ≠ b13) (p89 : b12 ≠ b14) (p90 : b12 ≠ b15) (p91 : b12 ≠ b16) (p92 : b13 ≠ b14) (p93 : b13 ≠ b15) (p94 : b13 ≠ b16) (p95 : b14 ≠ b15) (p96 : b14 ≠ b16) (p97 : b15 ≠ b16) (p98 : b1 ≠ b16) (p99 : b17 ≠ b1) (p100 : b18 ≠ b1) (p101 : b17 ≠ b10) (p102 : b17 ≠ b11) (p103 : b17 ≠ b16) (p104 : b17 ≠ b15) (p105 : b17 ≠ b14) (p106 : b17 ≠ b13) (p107 : b17 ≠ b12) (p108 : b18 ≠ b10) (p109 : b18 ≠ b11) (p110 : b18 ≠ b16) (p111 : b18 ≠ b15) (p112 : b18 ≠ b14) (p113 : b18 ≠ b13) (p114 : b18 ≠ b12) (p115 : n0 ≤ b17) (p116 : b1 ≠ b17) (p117 : b18 ≠ b17) (p118 : n0 ≤ b18) (p119 : b17 ≠ b18) (p120 : b10 ≠ b11) (p121 : b10 ≠ b16) (p122 : b10 ≠ b15) (p123 : b10 ≠ b14) (p124 : b10 ≠ b13) (p125 : b10 ≠ b12) (p126 : b10 ≠ b18) (p127 : b10 ≠ b17) (p128 : b1 ≠ b18) (p129 : b11 ≠ b16) (p130 : b11 ≠ b15) (p131 : b11 ≠ b14) (p132 : b11 ≠ b13) (p133 : b11 ≠ b12) (p134 : b11 ≠ b18) (p135 : b11 ≠ b17) (p136 : b12 ≠ b18) (p137 : b12 ≠ b17) (p138 : b13 ≠ b18) (p139 : b13 ≠ b17) (p140 : b14 ≠ b18) (p141 : b14 ≠ b17) (p142 : b15 ≠ b18) (p143 : b15 ≠ b17) (p144 : b16 ≠ b18) (p145 : b16 ≠ b17) (p146 : b3 ≠ b18) (p147 : b3 ≠ b17) (p148 : b3 ≠ b16) (p149 : b3 ≠ b15) (p150 : b3 ≠ b14) (p151 : b3 ≠ b13) (p152 : b3 ≠ b12) (p153 : b3 ≠ b11) (p154 : b3 ≠ b10) (p155 : Fld Z h0 b1 cU "holder" "[I" (.ref b19)) (p156 : oAr Z h0 b19 .int [.int 0, .int (-1)]) (p157 : b19 ≠ b1) (p158 : b19 ≠ b18) (p159 : b19 ≠ b17) (p160 : b19 ≠ b16) (p161 : b19 ≠ b15) (p162 : b19 ≠ b14) (p163 : b19 ≠ b13) (p164 : b19 ≠ b12) (p165 : b19 ≠ b11) (p166 : b19 ≠ b10) (p167 : Fld Z h0 b1 cU "utilityMoney" "[J" (.ref b20)) (p168 : oAr Z h0 b20 .long [.long y5, .long 0, .long 0]) (p169 : b20 ≠ b1) (p170 : b20 ≠ b18) (p171 : b20 ≠ b17) (p172 : b20 ≠ b16) (p173 : b20 ≠ b15) (p174 : b20 ≠ b14) (p175 : b20 ≠ b13) (p176 : b20 ≠ b12) (p177 : b20 ≠ b11) (p178 : b20 ≠ b10) (p179 : ¬ (((0 : Int64) ^^^ ((0 : Int64) + y5)) &&& (y5 ^^^ ((0 : Int64) + y5))) < (0 : Int64)) (p180 : Fld Z h0 b1 cU "utilitySales" "[J" (.ref b21)) (p181 : oAr Z h0 b21 .long [.long 1, .long 0, .long 0]) (p182 : b21 ≠ b1) (p183 : b21 ≠ b18) (p184 : b21 ≠ b17) (p185 : b21 ≠ b16) (p186 : b21 ≠ b15) (p187 : b21 ≠ b14) (p188 : b21 ≠ b13) (p189 : b21 ≠ b12) (p190 : b21 ≠ b11) (p191 : b21 ≠ b10) (p192 : y5 < y2) (p193 : b7 ≠ b18) (p194 : b7 ≠ b17) (p195 : b7 ≠ b16) (p196 : b7 ≠ b15) (p197 : b7 ≠ b14) (p198 : b7 ≠ b13) (p199 : b7 ≠ b12) (p200 : b7 ≠ b11) (p201 : b7 ≠ b10) :
    oMet l Z (⟨cU, "search", "(IJJ)V"⟩ : MethodName) prog_54_method_15_code 18 none [] ({ frames := 4, cells := 0, slots := 0, locals := 74 } : Room) 0 0 n0 #[.ref b1, .int 1, .long y2, .long 1] h0 (fun v h => v = none ∧ oKe h0 h [b10, b11, b12, b13, b14, b15, b16, b17, b18] [(b1, Jvm.RoadKit.slotOf Z cU "sinkMoney" "J"), (b1, Jvm.RoadKit.slotOf Z cU "sinkSales" "J"), (b1, Jvm.RoadKit.slotOf Z cU "sinkMoves" "I"), (b1, Jvm.RoadKit.slotOf Z cU "sinkEnd" "I"), (b1, Jvm.RoadKit.slotOf Z cU "sinkGoesWithout" "Z"), (b1, Jvm.RoadKit.slotOf Z cU "touchedCount" "I"), (b1, Jvm.RoadKit.slotOf Z cU "heapSize" "I")] ∧ Fld Z h b1 cU "sinkMoney" "J" (.long y5) ∧ Fld Z h b1 cU "sinkSales" "J" (.long 1) ∧ Fld Z h b1 cU "sinkMoves" "I" (.int 1) ∧ Fld Z h b1 cU "sinkEnd" "I" (.int 0) ∧ Fld Z h b1 cU "sinkGoesWithout" "Z" (.int 1) ∧ oAr Z h b10 .byte [.int 2, .int 0] ∧ Fld Z h b1 cU "touchedCount" "I" (.int 1) ∧ oAr Z h b11 .int [.int 0, .int 0] ∧ oAr Z h b12 .long [.long 0, .long 0] ∧ oAr Z h b13 .long [.long 0, .long 0] ∧ oAr Z h b14 .int [.int 1, .int 0] ∧ oAr Z h b15 .int [.int (-1), .int 0] ∧ oAr Z h b16 .int [.int 1, .int 0] ∧ Fld Z h b1 cU "heapSize" "I" (.int 0) ∧ oAr Z h b17 .int [.int 0, .int 0] ∧ oAr Z h b18 .int [.int 0, .int 0]) := by
  refine oMet.intro (plainFor_of_name pn_944982) (fun m => ef_9 m b1 (1 : Int32) y2 (1 : Int64)) ?_
  intro op oe os m obl omt ocd C
  refine oAloadN C d9_0 rfl rfl rfl ?_
  refine oLloadN C d9_1 rfl rfl ?_
  refine oPutF C (w87 hw) Via.refl p2 p1 (Or.inl (w88 hw)) (w4 hw) (ty := .long) (by decide) rfl rfl d9_2 rfl p3 fun h1 W1 => ?_
  have f1w := Fld.same W1 p2
  refine oAloadN C d9_5 rfl rfl rfl ?_
  refine oLload C d9_6 rfl rfl ?_
  have f2 := (Exa.wr W1 p1)
  have f3 := (Fld.other W1 p4 (Or.inr (oSn0 hw 23 22)))
  refine oPutF C (w89 hw) Via.refl f3 f2 (Or.inl (w90 hw)) (w4 hw) (ty := .long) (by decide) rfl rfl d9_8 rfl p3 fun h4 W4 => ?_
  have f4w := Fld.same W4 f3
  refine oAloadN C d9_11 rfl rfl rfl ?_
  refine oIconst C d9_12 (z := 0) rfl rfl ?_
  have f5 := (Exa.wr W4 f2)
  have f6 := (Fld.other W4 (Fld.other W1 p5 (Or.inr (oSn0 hw 24 22))) (Or.inr (oSn0 hw 24 23)))
  refine oPutF C (w91 hw) Via.refl f6 f5 (Or.inl (w92 hw)) (w4 hw) (ty := .int) (by decide) rfl rfl d9_13 rfl p3 fun h7 W7 => ?_
  have f7w := Fld.same W7 f6
  refine oAloadN C d9_16 rfl rfl rfl ?_
  refine oIconst C d9_17 (z := (-1)) rfl rfl ?_
  have f8 := (Exa.wr W7 f5)
  have f9 := (Fld.other W7 (Fld.other W4 (Fld.other W1 p6 (Or.inr (oSn0 hw 25 22))) (Or.inr (oSn0 hw 25 23))) (Or.inr (oSn0 hw 25 24)))
  refine oPutF C (w93 hw) Via.refl f9 f8 (Or.inl (w94 hw)) (w4 hw) (ty := .int) (by decide) rfl rfl d9_18 rfl p3 fun h10 W10 => ?_
  have f10w := Fld.same W10 f9
  refine oAloadN C d9_21 rfl rfl rfl ?_
  refine oIconst C d9_22 (z := 1) rfl rfl ?_
  have f11 := (Exa.wr W10 f8)
  have f12 := (Fld.other W10 (Fld.other W7 (Fld.other W4 (Fld.other W1 p7 (Or.inr (oSn0 hw 26 22))) (Or.inr (oSn0 hw 26 23))) (Or.inr (oSn0 hw 26 24))) (Or.inr (oSn0 hw 26 25)))
  refine oPutFN C (w95 hw) Via.refl f12 f11 (Or.inl (w96 hw)) (w4 hw) (ty := .boolean) (v' := .int 1) (by decide) rfl rfl d9_23 rfl p3 fun h13 W13 => ?_
  have f13w := Fld.same W13 f12
  refine oAloadN C d9_26 rfl rfl rfl ?_
  have f14 := (Fld.other W13 (Fld.other W10 (Fld.other W7 (Fld.other W4 (Fld.other W1 p8 (Or.inr (oSn0 hw 1 22))) (Or.inr (oSn0 hw 1 23))) (Or.inr (oSn0 hw 1 24))) (Or.inr (oSn0 hw 1 25))) (Or.inr (oSn0 hw 1 26)))
  refine oGetF C (w14 hw) Via.refl f14 d9_27 rfl ?_
  refine oIloadN C d9_30 rfl rfl ?_
  have f15 := (((((p9.other W1 p10).other W4 p10).other W7 p10).other W10 p10).other W13 p10)
  refine oIaload C f15 (by decide) (k := 1) rfl (v := .int 1) rfl d9_31 rfl ?_
  refine oIstore C d9_32 (Ls' := #[.val (.ref b1), .val (.int 1), .val (.long y2), .second, .val (.long 1), .second, .val (.int 1), .unset, .unset, .unset, .unset, .unset, .unset, .unset, .unset, .unset, .unset, .unset]) rfl (q := 34) rfl ?_
  refine oIload C d9_34 rfl rfl ?_
  refine oAloadN C d9_36 rfl rfl rfl ?_
  refine oGetF C (w14 hw) Via.refl f14 d9_37 rfl ?_
  refine oIloadN C d9_40 rfl rfl ?_
  refine oIconst C d9_41 (z := 1) rfl rfl ?_
  refine oIadd C d9_42 rfl ?_
  refine oCastI (z' := (2 : Int32)) (by decide) ?_
  refine oIaload C f15 (by decide) (k := 2) rfl (v := .int 2) rfl d9_43 rfl ?_
  refine oIcmp_ge C d9_44 (q := 128) (by decide) (by decide) (r := 47) rfl (fun hq => absurd hq ((by decide))) (fun hc44 => ?_)
  refine oAloadN C d9_47 rfl rfl rfl ?_
  have f16 := (Fld.other W13 (Fld.other W10 (Fld.other W7 (Fld.other W4 (Fld.other W1 p11 (Or.inr (oSn0 hw 3 22))) (Or.inr (oSn0 hw 3 23))) (Or.inr (oSn0 hw 3 24))) (Or.inr (oSn0 hw 3 25))) (Or.inr (oSn0 hw 3 26)))
  refine oGetF C (w18 hw) Via.refl f16 d9_48 rfl ?_
  refine oIload C d9_51 rfl rfl ?_
  have f17 := (((((p12.other W1 p13).other W4 p13).other W7 p13).other W10 p13).other W13 p13)
  refine oLaload C f17 (by decide) (k := 1) rfl (v := .long y2) rfl d9_53 rfl ?_
  refine oLconst C d9_54 (z := 0) rfl rfl ?_
  refine oLcmp_ge C d9_55 rfl d9_56 (q := 62) (by decide) (by decide) (r := 59) rfl (fun hc55 => ?_) (fun hq => absurd hq (p14))
  refine oAloadN C d9_62 rfl rfl rfl ?_
  have f18 := (Fld.other W13 (Fld.other W10 (Fld.other W7 (Fld.other W4 (Fld.other W1 p15 (Or.inr (oSn0 hw 2 22))) (Or.inr (oSn0 hw 2 23))) (Or.inr (oSn0 hw 2 24))) (Or.inr (oSn0 hw 2 25))) (Or.inr (oSn0 hw 2 26)))
  refine oGetF C (w16 hw) Via.refl f18 d9_63 rfl ?_
  refine oIload C d9_66 rfl rfl ?_
  have f19 := (((((p16.other W1 p17).other W4 p17).other W7 p17).other W10 p17).other W13 p17)
  refine oIaload C f19 (by decide) (k := 1) rfl (v := .int 0) rfl d9_68 rfl ?_
  refine oIstore C d9_69 (Ls' := #[.val (.ref b1), .val (.int 1), .val (.long y2), .second, .val (.long 1), .second, .val (.int 1), .val (.int 0), .unset, .unset, .unset, .unset, .unset, .unset, .unset, .unset, .unset, .unset]) rfl (q := 71) rfl ?_
  refine oLloadN C d9_71 rfl rfl ?_
  refine oAloadN C d9_72 rfl rfl rfl ?_
  have f20 := (Fld.other W13 (Fld.other W10 (Fld.other W7 (Fld.other W4 (Fld.other W1 p18 (Or.inr (oSn0 hw 4 22))) (Or.inr (oSn0 hw 4 23))) (Or.inr (oSn0 hw 4 24))) (Or.inr (oSn0 hw 4 25))) (Or.inr (oSn0 hw 4 26)))
  refine oGetF C (w20 hw) Via.refl f20 d9_73 rfl ?_
  refine oIload C d9_76 rfl rfl ?_
  have f21 := (((((p19.other W1 p20).other W4 p20).other W7 p20).other W10 p20).other W13 p20)
  refine oLaload C f21 (by decide) (k := 0) rfl (v := .long 0) rfl d9_78 rfl ?_
  have z23 := (Nat.le_trans (Nat.le_trans (Nat.le_trans (Nat.le_trans (Nat.le_trans Z0 (Nat.le_of_eq W1.size.symm)) (Nat.le_of_eq W4.size.symm)) (Nat.le_of_eq W7.size.symm)) (Nat.le_of_eq W10.size.symm)) (Nat.le_of_eq W13.size.symm))
  refine oCallSH C (w97 hw) (w98 hw) (w99 hw) (w100 hw) d9_79 (by decide) pd_212481 rfl rfl (argsL := [.long y2, .long 0]) (rest := []) rfl (W := 0) rfl (q := 82) rfl (by decide) (by decide) (by decide) (by decide) (ac10_11 l Z a0 hw _ n0 z23 y2 p21) (oRQ ?_)
  rintro h22 K22
  refine oAloadN C d9_82 rfl rfl rfl ?_
  have f24 := (K22.fld f16 nin0 oN0)
  refine oGetF C (w18 hw) Via.refl f24 d9_83 rfl ?_
  refine oIload C d9_86 rfl rfl ?_
  have f25 := (K22.arr f17 nin0 oA0)
  refine oLaload C f25 (by decide) (k := 1) rfl (v := .long y2) rfl d9_88 rfl ?_
  have z27 := (Nat.le_trans z23 K22.1)
  refine oCallS C (w65 hw) (w66 hw) (w67 hw) (w68 hw) d9_89 (by decide) pd_212481 rfl rfl (argsL := [.long y2, .long y2]) (rest := []) rfl (W := 0) rfl (q := 92) rfl (by decide) (by decide) (by decide) (by decide) (ac5_12 l Z a0 hw _ n0 z27 y2 p22) (oRQ ?_)
  rintro h26 K26
  refine oCastL (z' := (0 : Int64)) (own_subs _) ?_
  refine oLstore C d9_92 (Ls' := #[.val (.ref b1), .val (.int 1), .val (.long y2), .second, .val (.long 1), .second, .val (.int 1), .val (.int 0), .val (.long 0), .second, .unset, .unset, .unset, .unset, .unset, .unset, .unset, .unset]) rfl (q := 94) rfl ?_
  refine oLload C d9_94 rfl rfl ?_
  refine oAloadN C d9_96 rfl rfl rfl ?_
  have f28 := (K26.fld (K22.fld (Fld.other W13 (Fld.other W10 (Fld.other W7 (Fld.other W4 (Fld.other W1 p23 (Or.inr (oSn0 hw 5 22))) (Or.inr (oSn0 hw 5 23))) (Or.inr (oSn0 hw 5 24))) (Or.inr (oSn0 hw 5 25))) (Or.inr (oSn0 hw 5 26))) nin0 oN0) nin0 oN0)
  refine oGetF C (w22 hw) Via.refl f28 d9_97 rfl ?_
  refine oIload C d9_100 rfl rfl ?_
  have f29 := (K26.arr (K22.arr (((((p24.other W1 p25).other W4 p25).other W7 p25).other W10 p25).other W13 p25) nin0 oA0) nin0 oA0)
  refine oLaload C f29 (by decide) (k := 0) rfl (v := .long 0) rfl d9_102 rfl ?_
  refine oLadd C d9_103 rfl ?_
  refine oCastL (z' := (1 : Int64)) (by decide) ?_
  refine oLconst C d9_104 (z := 1) rfl rfl ?_
  refine oLsub C d9_105 rfl ?_
  refine oCastL (z' := (0 : Int64)) (by decide) ?_
  refine oLstore C d9_106 (Ls' := #[.val (.ref b1), .val (.int 1), .val (.long y2), .second, .val (.long 1), .second, .val (.int 1), .val (.int 0), .val (.long 0), .second, .val (.long 0), .second, .unset, .unset, .unset, .unset, .unset, .unset]) rfl (q := 108) rfl ?_
  refine oAloadN C d9_108 rfl rfl rfl ?_
  refine oIload C d9_109 rfl rfl ?_
  refine oLload C d9_111 rfl rfl ?_
  refine oLload C d9_113 rfl rfl ?_
  refine oIconst C d9_115 (z := 1) rfl rfl ?_
  refine oIconst C d9_116 (z := (-1)) rfl rfl ?_
  refine oIload C d9_117 rfl rfl ?_
  have f30 := (K26.fld (K22.fld (Fld.other W13 (Fld.other W10 (Fld.other W7 (Fld.other W4 f1w (Or.inr (oSn0 hw 22 23))) (Or.inr (oSn0 hw 22 24))) (Or.inr (oSn0 hw 22 25))) (Or.inr (oSn0 hw 22 26))) nin0 oN0) nin0 oN0)
  have f31 := (K26.fld (K22.fld (Fld.other W13 (Fld.other W10 (Fld.other W7 f4w (Or.inr (oSn0 hw 23 24))) (Or.inr (oSn0 hw 23 25))) (Or.inr (oSn0 hw 23 26))) nin0 oN0) nin0 oN0)
  have f32 := (K26.exa (K22.exa (Exa.wr W13 f11)))
  have f33 := (K26.fld (K22.fld (Fld.other W13 (Fld.other W10 (Fld.other W7 (Fld.other W4 (Fld.other W1 p26 (Or.inr (oSn0 hw 15 22))) (Or.inr (oSn0 hw 15 23))) (Or.inr (oSn0 hw 15 24))) (Or.inr (oSn0 hw 15 25))) (Or.inr (oSn0 hw 15 26))) nin0 oN0) nin0 oN0)
  have f34 := (K26.arr (K22.arr (((((p27.other W1 p47).other W4 p47).other W7 p47).other W10 p47).other W13 p47) nin0 oA0) nin0 oA0)
  have f35 := (K26.fld (K22.fld (Fld.other W13 (Fld.other W10 (Fld.other W7 (Fld.other W4 (Fld.other W1 p28 (Or.inr (oSn0 hw 18 22))) (Or.inr (oSn0 hw 18 23))) (Or.inr (oSn0 hw 18 24))) (Or.inr (oSn0 hw 18 25))) (Or.inr (oSn0 hw 18 26))) nin0 oN0) nin0 oN0)
  have f36 := (K26.fld (K22.fld (Fld.other W13 (Fld.other W10 (Fld.other W7 (Fld.other W4 (Fld.other W1 p29 (Or.inr (oSn0 hw 27 22))) (Or.inr (oSn0 hw 27 23))) (Or.inr (oSn0 hw 27 24))) (Or.inr (oSn0 hw 27 25))) (Or.inr (oSn0 hw 27 26))) nin0 oN0) nin0 oN0)
  have f37 := (K26.arr (K22.arr (((((p30.other W1 p50).other W4 p50).other W7 p50).other W10 p50).other W13 p50) nin0 oA0) nin0 oA0)
  have f38 := (K26.fld (K22.fld (Fld.other W13 (Fld.other W10 (Fld.other W7 (Fld.other W4 (Fld.other W1 p31 (Or.inr (oSn0 hw 10 22))) (Or.inr (oSn0 hw 10 23))) (Or.inr (oSn0 hw 10 24))) (Or.inr (oSn0 hw 10 25))) (Or.inr (oSn0 hw 10 26))) nin0 oN0) nin0 oN0)
  have f39 := (K26.arr (K22.arr (((((p32.other W1 p53).other W4 p53).other W7 p53).other W10 p53).other W13 p53) nin0 oA0) nin0 oA0)
  have f40 := (K26.fld (K22.fld (Fld.other W13 (Fld.other W10 (Fld.other W7 (Fld.other W4 (Fld.other W1 p33 (Or.inr (oSn0 hw 11 22))) (Or.inr (oSn0 hw 11 23))) (Or.inr (oSn0 hw 11 24))) (Or.inr (oSn0 hw 11 25))) (Or.inr (oSn0 hw 11 26))) nin0 oN0) nin0 oN0)
  have f41 := (K26.arr (K22.arr (((((p34.other W1 p54).other W4 p54).other W7 p54).other W10 p54).other W13 p54) nin0 oA0) nin0 oA0)
  have f42 := (K26.fld (K22.fld (Fld.other W13 (Fld.other W10 (Fld.other W7 (Fld.other W4 (Fld.other W1 p35 (Or.inr (oSn0 hw 12 22))) (Or.inr (oSn0 hw 12 23))) (Or.inr (oSn0 hw 12 24))) (Or.inr (oSn0 hw 12 25))) (Or.inr (oSn0 hw 12 26))) nin0 oN0) nin0 oN0)
  have f43 := (K26.arr (K22.arr (((((p36.other W1 p55).other W4 p55).other W7 p55).other W10 p55).other W13 p55) nin0 oA0) nin0 oA0)
  have f44 := (K26.fld (K22.fld (Fld.other W13 (Fld.other W10 (Fld.other W7 (Fld.other W4 (Fld.other W1 p37 (Or.inr (oSn0 hw 13 22))) (Or.inr (oSn0 hw 13 23))) (Or.inr (oSn0 hw 13 24))) (Or.inr (oSn0 hw 13 25))) (Or.inr (oSn0 hw 13 26))) nin0 oN0) nin0 oN0)
  have f45 := (K26.arr (K22.arr (((((p38.other W1 p56).other W4 p56).other W7 p56).other W10 p56).other W13 p56) nin0 oA0) nin0 oA0)
  have f46 := (K26.fld (K22.fld (Fld.other W13 (Fld.other W10 (Fld.other W7 (Fld.other W4 (Fld.other W1 p39 (Or.inr (oSn0 hw 14 22))) (Or.inr (oSn0 hw 14 23))) (Or.inr (oSn0 hw 14 24))) (Or.inr (oSn0 hw 14 25))) (Or.inr (oSn0 hw 14 26))) nin0 oN0) nin0 oN0)
  have f47 := (K26.arr (K22.arr (((((p40.other W1 p57).other W4 p57).other W7 p57).other W10 p57).other W13 p57) nin0 oA0) nin0 oA0)
  have f48 := (K26.fld (K22.fld (Fld.other W13 (Fld.other W10 (Fld.other W7 (Fld.other W4 (Fld.other W1 p41 (Or.inr (oSn0 hw 28 22))) (Or.inr (oSn0 hw 28 23))) (Or.inr (oSn0 hw 28 24))) (Or.inr (oSn0 hw 28 25))) (Or.inr (oSn0 hw 28 26))) nin0 oN0) nin0 oN0)
  have f49 := (K26.fld (K22.fld (Fld.other W13 (Fld.other W10 (Fld.other W7 (Fld.other W4 (Fld.other W1 p42 (Or.inr (oSn0 hw 16 22))) (Or.inr (oSn0 hw 16 23))) (Or.inr (oSn0 hw 16 24))) (Or.inr (oSn0 hw 16 25))) (Or.inr (oSn0 hw 16 26))) nin0 oN0) nin0 oN0)
  have f50 := (K26.arr (K22.arr (((((p43.other W1 p99).other W4 p99).other W7 p99).other W10 p99).other W13 p99) nin0 oA0) nin0 oA0)
  have f51 := (K26.fld (K22.fld (Fld.other W13 (Fld.other W10 (Fld.other W7 (Fld.other W4 (Fld.other W1 p44 (Or.inr (oSn0 hw 17 22))) (Or.inr (oSn0 hw 17 23))) (Or.inr (oSn0 hw 17 24))) (Or.inr (oSn0 hw 17 25))) (Or.inr (oSn0 hw 17 26))) nin0 oN0) nin0 oN0)
  have f52 := (K26.arr (K22.arr (((((p45.other W1 p100).other W4 p100).other W7 p100).other W10 p100).other W13 p100) nin0 oA0) nin0 oA0)
  have z54 := (Nat.le_trans z27 K26.1)
  refine oCallP C (w104 hw) (w106 hw) (w4 hw) (w105 hw) (w5 hw) (w107 hw) d9_119 f32 (by decide) pd_477193 rfl rfl (a := b1) (argsL := [.int 0, .long 0, .long 0, .int 1, .int (-1), .int 1]) (rest := []) rfl (W := 0) rfl (q := 122) rfl (by decide) (by decide) (by decide) (by decide) (ac12_19 l Z a0 hw _ n0 z54 b1 y2 b10 b11 b12 b13 b14 b15 b16 b17 b18 f30 f31 p46 f32 f33 f34 p48 f35 p49 f36 p3 f37 p51 p50 p52 f38 f39 f40 f41 f42 f43 f44 f45 f46 f47 p58 p59 p53 p60 p61 p62 p63 p54 p64 p65 p66 p67 p68 p55 p69 p70 p71 p72 p73 p74 p56 p75 p76 p77 p78 p79 p80 p81 p57 p82 p83 p84 p85 p86 p87 p88 p89 p90 p91 p92 p93 p94 p95 p96 p97 f48 p98 f49 f50 f51 f52 p101 p99 p102 p103 p104 p105 p106 p107 p108 p100 p109 p110 p111 p112 p113 p114 p115 p116 p117 p118 p119 p47 p120 p121 p122 p123 p124 p125 p126 p127 p128 p129 p130 p131 p132 p133 p134 p135 p136 p137 p138 p139 p140 p141 p142 p143 p144 p145) (oVQ ?_)
  rintro h53 ⟨K53, f53_0, f53_1, f53_2, f53_3, f53_4, f53_5, f53_6, f53_7, f53_8, f53_9, f53_10⟩
  refine oIinc C d9_122 rfl (z := 1) rfl (w := (2 : Int32)) (by decide) (Ls' := #[.val (.ref b1), .val (.int 1), .val (.long y2), .second, .val (.long 1), .second, .val (.int 2), .val (.int 0), .val (.long 0), .second, .val (.long 0), .second, .unset, .unset, .unset, .unset, .unset, .unset]) rfl rfl ?_
  refine oGoto C d9_125 (q := 34) (by decide) (by decide) ?_
  refine oIload C d9_34 rfl rfl ?_
  refine oAloadN C d9_36 rfl rfl rfl ?_
  have f55 := (K53.fld (K26.fld (K22.fld f14 nin0 oN0) nin0 oN0) (ninS p49 (ninS p58 (ninS p62 (ninS p67 (ninS p73 (ninS p80 (ninS p98 (ninS p116 (ninS p128 nin0))))))))) (oNF (Or.inr (oSn0 hw 1 27)) (oNF (Or.inr (oSn0 hw 1 28)) oN0)))
  refine oGetF C (w14 hw) Via.refl f55 d9_37 rfl ?_
  refine oIloadN C d9_40 rfl rfl ?_
  refine oIconst C d9_41 (z := 1) rfl rfl ?_
  refine oIadd C d9_42 rfl ?_
  refine oCastI (z' := (2 : Int32)) (by decide) ?_
  have f56 := (K53.arr (K26.arr (K22.arr f15 nin0 oA0) nin0 oA0) (ninS p154 (ninS p153 (ninS p152 (ninS p151 (ninS p150 (ninS p149 (ninS p148 (ninS p147 (ninS p146 nin0))))))))) (oAS p10 (oAS p10 oA0)))
  refine oIaload C f56 (by decide) (k := 2) rfl (v := .int 2) rfl d9_43 rfl ?_
  refine oIcmp_ge C d9_44 (q := 128) (by decide) (by decide) (r := 47) rfl (fun hc44_1 => ?_) (fun hq => absurd hq ((by decide)))
  refine oAloadN C d9_128 rfl rfl rfl ?_
  refine oGetF C (w118 hw) Via.refl f53_8 d9_129 rfl ?_
  refine oIf_le C d9_132 (q := 416) (by decide) (by decide) (r := 135) rfl (fun hq => absurd hq ((by decide))) (fun hc132 => ?_)
  refine oAloadN C d9_135 rfl rfl rfl ?_
  have f57 := (K53.fld f49 (ninS p49 (ninS p58 (ninS p62 (ninS p67 (ninS p73 (ninS p80 (ninS p98 (ninS p116 (ninS p128 nin0))))))))) (oNF (Or.inr (oSn0 hw 16 27)) (oNF (Or.inr (oSn0 hw 16 28)) oN0)))
  refine oGetF C (w49 hw) Via.refl f57 d9_136 rfl ?_
  refine oIconst C d9_139 (z := 0) rfl rfl ?_
  refine oIaload C f53_9 (by decide) (k := 0) rfl (v := .int 0) rfl d9_140 rfl ?_
  refine oIstore C d9_141 (Ls' := #[.val (.ref b1), .val (.int 1), .val (.long y2), .second, .val (.long 1), .second, .val (.int 0), .val (.int 0), .val (.long 0), .second, .val (.long 0), .second, .unset, .unset, .unset, .unset, .unset, .unset]) rfl (q := 143) rfl ?_
  refine oAloadN C d9_143 rfl rfl rfl ?_
  refine oAloadN C d9_144 rfl rfl rfl ?_
  have f58 := (K53.fld f38 (ninS p49 (ninS p58 (ninS p62 (ninS p67 (ninS p73 (ninS p80 (ninS p98 (ninS p116 (ninS p128 nin0))))))))) (oNF (Or.inr (oSn0 hw 10 27)) (oNF (Or.inr (oSn0 hw 10 28)) oN0)))
  refine oGetF C (w36 hw) Via.refl f58 d9_145 rfl ?_
  refine oIload C d9_148 rfl rfl ?_
  refine oLaload C f53_3 (by decide) (k := 0) rfl (v := .long 0) rfl d9_150 rfl ?_
  refine oAloadN C d9_151 rfl rfl rfl ?_
  have f59 := (K53.fld f40 (ninS p49 (ninS p58 (ninS p62 (ninS p67 (ninS p73 (ninS p80 (ninS p98 (ninS p116 (ninS p128 nin0))))))))) (oNF (Or.inr (oSn0 hw 11 27)) (oNF (Or.inr (oSn0 hw 11 28)) oN0)))
  refine oGetF C (w38 hw) Via.refl f59 d9_152 rfl ?_
  refine oIload C d9_155 rfl rfl ?_
  refine oLaload C f53_4 (by decide) (k := 0) rfl (v := .long 0) rfl d9_157 rfl ?_
  refine oAloadN C d9_158 rfl rfl rfl ?_
  have f60 := (K53.fld f42 (ninS p49 (ninS p58 (ninS p62 (ninS p67 (ninS p73 (ninS p80 (ninS p98 (ninS p116 (ninS p128 nin0))))))))) (oNF (Or.inr (oSn0 hw 12 27)) (oNF (Or.inr (oSn0 hw 12 28)) oN0)))
  refine oGetF C (w40 hw) Via.refl f60 d9_159 rfl ?_
  refine oIload C d9_162 rfl rfl ?_
  refine oIaload C f53_5 (by decide) (k := 0) rfl (v := .int 1) rfl d9_164 rfl ?_
  refine oIconst C d9_165 (z := 1) rfl rfl ?_
  refine oIsub C d9_166 rfl ?_
  refine oCastI (z' := (0 : Int32)) (by decide) ?_
  have f61 := (K53.fld f30 (ninS p49 (ninS p58 (ninS p62 (ninS p67 (ninS p73 (ninS p80 (ninS p98 (ninS p116 (ninS p128 nin0))))))))) (oNF (Or.inr (oSn0 hw 22 27)) (oNF (Or.inr (oSn0 hw 22 28)) oN0)))
  have f62 := (K53.fld f31 (ninS p49 (ninS p58 (ninS p62 (ninS p67 (ninS p73 (ninS p80 (ninS p98 (ninS p116 (ninS p128 nin0))))))))) (oNF (Or.inr (oSn0 hw 23 27)) (oNF (Or.inr (oSn0 hw 23 28)) oN0)))
  have f64 := (K53.exa f32)
  have z65 := (Nat.le_trans z54 K53.1)
  refine oCallP C (w108 hw) (w110 hw) (w4 hw) (w109 hw) (w5 hw) (w111 hw) d9_167 f64 (by decide) pd_379829 rfl rfl (a := b1) (argsL := [.long 0, .long 0, .int 0]) (rest := []) rfl (W := 0) rfl (q := 170) rfl (by decide) (by decide) (by decide) (by decide) (ac13_15 l Z a0 hw _ n0 z65 b1 y2 f61 f62 p46) (oRQ ?_)
  rintro h63 K63
  refine oIf_le C d9_170 (q := 174) (by decide) (by decide) (r := 173) rfl (fun hc170 => ?_) (fun hq => absurd hq ((by decide)))
  refine oAloadN C d9_174 rfl rfl rfl ?_
  have f66 := (K63.fld f53_8 nin0 oN0)
  have f67 := (K63.exa f64)
  have z69 := (Nat.le_trans z65 K63.1)
  refine oCallP C (w128 hw) (w130 hw) (w4 hw) (w129 hw) (w5 hw) (w131 hw) d9_175 f67 (by decide) pd_428486 rfl rfl (a := b1) (argsL := []) (rest := []) rfl (W := 0) rfl (q := 178) rfl (by decide) (by decide) (by decide) (by decide) (ac17_20 l Z a0 hw _ n0 z69 b1 f66 f67 p3) (oVQ ?_)
  rintro h68 ⟨K68, f68_0⟩
  refine oAloadN C d9_178 rfl rfl rfl ?_
  have f70 := (K68.fld (K63.fld (K53.fld f33 (ninS p49 (ninS p58 (ninS p62 (ninS p67 (ninS p73 (ninS p80 (ninS p98 (ninS p116 (ninS p128 nin0))))))))) (oNF (Or.inr (oSn0 hw 15 27)) (oNF (Or.inr (oSn0 hw 15 28)) oN0))) nin0 oN0) nin0 (oNF (Or.inr (oSn0 hw 15 28)) oN0))
  refine oGetF C (w47 hw) Via.refl f70 d9_179 rfl ?_
  refine oIload C d9_182 rfl rfl ?_
  refine oIconst C d9_184 (z := 2) rfl rfl ?_
  have f71 := (K68.arr (K63.arr f53_0 nin0 oA0) nin0 (oAS p47 oA0))
  refine oBastore C f71 (by decide) (k := 0) rfl (v := .int 1) rfl (v' := .int 2) rfl d9_185 rfl p48 fun h72 W72 A72 => ?_
  have A72l : oAr Z h72 b10 .byte [.int 2, .int 0] := A72
  refine oAloadN C d9_186 rfl rfl rfl ?_
  have f73 := (Fld.other W72 (K68.fld (K63.fld (K53.fld (K26.fld (K22.fld (Fld.other W13 (Fld.other W10 (Fld.other W7 (Fld.other W4 (Fld.other W1 p155 (Or.inr (oSn0 hw 6 22))) (Or.inr (oSn0 hw 6 23))) (Or.inr (oSn0 hw 6 24))) (Or.inr (oSn0 hw 6 25))) (Or.inr (oSn0 hw 6 26))) nin0 oN0) nin0 oN0) (ninS p49 (ninS p58 (ninS p62 (ninS p67 (ninS p73 (ninS p80 (ninS p98 (ninS p116 (ninS p128 nin0))))))))) (oNF (Or.inr (oSn0 hw 6 27)) (oNF (Or.inr (oSn0 hw 6 28)) oN0))) nin0 oN0) nin0 (oNF (Or.inr (oSn0 hw 6 28)) oN0)) (Or.inl p49))
  refine oGetF C (w24 hw) Via.refl f73 d9_187 rfl ?_
  refine oIload C d9_190 rfl rfl ?_
  have f74 := ((K68.arr (K63.arr (K53.arr (K26.arr (K22.arr (((((p156.other W1 p157).other W4 p157).other W7 p157).other W10 p157).other W13 p157) nin0 oA0) nin0 oA0) (ninS p166 (ninS p165 (ninS p164 (ninS p163 (ninS p162 (ninS p161 (ninS p160 (ninS p159 (ninS p158 nin0))))))))) (oAS p157 (oAS p157 oA0))) nin0 oA0) nin0 (oAS p157 oA0)).other W72 p166)
  refine oIaload C f74 (by decide) (k := 0) rfl (v := .int 0) rfl d9_192 rfl ?_
  refine oIstore C d9_193 (Ls' := #[.val (.ref b1), .val (.int 1), .val (.long y2), .second, .val (.long 1), .second, .val (.int 0), .val (.int 0), .val (.long 0), .second, .val (.long 0), .second, .unset, .unset, .unset, .unset, .unset, .unset]) rfl (q := 195) rfl ?_
  refine oIload C d9_195 rfl rfl ?_
  refine oIconst C d9_197 (z := (-1)) rfl rfl ?_
  refine oIcmp_ne C d9_198 (q := 234) (by decide) (by decide) (r := 201) rfl (fun hc198 => ?_) (fun hq => absurd hq ((by decide)))
  refine oAloadN C d9_234 rfl rfl rfl ?_
  have f75 := (Fld.other W72 (K68.fld (K63.fld f58 nin0 oN0) nin0 (oNF (Or.inr (oSn0 hw 10 28)) oN0)) (Or.inl p49))
  refine oGetF C (w36 hw) Via.refl f75 d9_235 rfl ?_
  refine oIload C d9_238 rfl rfl ?_
  have f76 := ((K68.arr (K63.arr f53_3 nin0 oA0) nin0 (oAS p53 oA0)).other W72 p59)
  refine oLaload C f76 (by decide) (k := 0) rfl (v := .long 0) rfl d9_240 rfl ?_
  refine oAloadN C d9_241 rfl rfl rfl ?_
  have f77 := (Fld.other W72 (K68.fld (K63.fld (K53.fld (K26.fld (K22.fld (Fld.other W13 (Fld.other W10 (Fld.other W7 (Fld.other W4 (Fld.other W1 p167 (Or.inr (oSn0 hw 7 22))) (Or.inr (oSn0 hw 7 23))) (Or.inr (oSn0 hw 7 24))) (Or.inr (oSn0 hw 7 25))) (Or.inr (oSn0 hw 7 26))) nin0 oN0) nin0 oN0) (ninS p49 (ninS p58 (ninS p62 (ninS p67 (ninS p73 (ninS p80 (ninS p98 (ninS p116 (ninS p128 nin0))))))))) (oNF (Or.inr (oSn0 hw 7 27)) (oNF (Or.inr (oSn0 hw 7 28)) oN0))) nin0 oN0) nin0 (oNF (Or.inr (oSn0 hw 7 28)) oN0)) (Or.inl p49))
  refine oGetF C (w30 hw) Via.refl f77 d9_242 rfl ?_
  refine oIload C d9_245 rfl rfl ?_
  have f78 := ((K68.arr (K63.arr (K53.arr (K26.arr (K22.arr (((((p168.other W1 p169).other W4 p169).other W7 p169).other W10 p169).other W13 p169) nin0 oA0) nin0 oA0) (ninS p178 (ninS p177 (ninS p176 (ninS p175 (ninS p174 (ninS p173 (ninS p172 (ninS p171 (ninS p170 nin0))))))))) (oAS p169 (oAS p169 oA0))) nin0 oA0) nin0 (oAS p169 oA0)).other W72 p178)
  refine oLaload C f78 (by decide) (k := 0) rfl (v := .long y5) rfl d9_247 rfl ?_
  have z80 := (Nat.le_trans (Nat.le_trans z69 K68.1) (Nat.le_of_eq W72.size.symm))
  refine oCallSH C (w97 hw) (w98 hw) (w99 hw) (w100 hw) d9_248 (by decide) pd_212481 rfl rfl (argsL := [.long 0, .long y5]) (rest := []) rfl (W := 0) rfl (q := 251) rfl (by decide) (by decide) (by decide) (by decide) (ac10_22 l Z a0 hw _ n0 z80 y5 p179) (oRQ ?_)
  rintro h79 K79
  refine oLstore C d9_251 (Ls' := #[.val (.ref b1), .val (.int 1), .val (.long y2), .second, .val (.long 1), .second, .val (.int 0), .val (.int 0), .val (.long y5), .second, .val (.long 0), .second, .unset, .unset, .unset, .unset, .unset, .unset]) rfl (q := 253) rfl ?_
  refine oAloadN C d9_253 rfl rfl rfl ?_
  have f81 := (K79.fld (Fld.other W72 (K68.fld (K63.fld f59 nin0 oN0) nin0 (oNF (Or.inr (oSn0 hw 11 28)) oN0)) (Or.inl p49)) nin0 oN0)
  refine oGetF C (w38 hw) Via.refl f81 d9_254 rfl ?_
  refine oIload C d9_257 rfl rfl ?_
  have f82 := (K79.arr ((K68.arr (K63.arr f53_4 nin0 oA0) nin0 (oAS p54 oA0)).other W72 p63) nin0 oA0)
  refine oLaload C f82 (by decide) (k := 0) rfl (v := .long 0) rfl d9_259 rfl ?_
  refine oAloadN C d9_260 rfl rfl rfl ?_
  have f83 := (K79.fld (Fld.other W72 (K68.fld (K63.fld (K53.fld (K26.fld (K22.fld (Fld.other W13 (Fld.other W10 (Fld.other W7 (Fld.other W4 (Fld.other W1 p180 (Or.inr (oSn0 hw 8 22))) (Or.inr (oSn0 hw 8 23))) (Or.inr (oSn0 hw 8 24))) (Or.inr (oSn0 hw 8 25))) (Or.inr (oSn0 hw 8 26))) nin0 oN0) nin0 oN0) (ninS p49 (ninS p58 (ninS p62 (ninS p67 (ninS p73 (ninS p80 (ninS p98 (ninS p116 (ninS p128 nin0))))))))) (oNF (Or.inr (oSn0 hw 8 27)) (oNF (Or.inr (oSn0 hw 8 28)) oN0))) nin0 oN0) nin0 (oNF (Or.inr (oSn0 hw 8 28)) oN0)) (Or.inl p49)) nin0 oN0)
  refine oGetF C (w32 hw) Via.refl f83 d9_261 rfl ?_
  refine oIload C d9_264 rfl rfl ?_
  have f84 := (K79.arr ((K68.arr (K63.arr (K53.arr (K26.arr (K22.arr (((((p181.other W1 p182).other W4 p182).other W7 p182).other W10 p182).other W13 p182) nin0 oA0) nin0 oA0) (ninS p191 (ninS p190 (ninS p189 (ninS p188 (ninS p187 (ninS p186 (ninS p185 (ninS p184 (ninS p183 nin0))))))))) (oAS p182 (oAS p182 oA0))) nin0 oA0) nin0 (oAS p182 oA0)).other W72 p191) nin0 oA0)
  refine oLaload C f84 (by decide) (k := 0) rfl (v := .long 1) rfl d9_266 rfl ?_
  refine oLadd C d9_267 rfl ?_
  refine oCastL (z' := (1 : Int64)) (by decide) ?_
  refine oLstore C d9_268 (Ls' := #[.val (.ref b1), .val (.int 1), .val (.long y2), .second, .val (.long 1), .second, .val (.int 0), .val (.int 0), .val (.long y5), .second, .val (.long 1), .second, .unset, .unset, .unset, .unset, .unset, .unset]) rfl (q := 270) rfl ?_
  refine oAloadN C d9_270 rfl rfl rfl ?_
  refine oLload C d9_271 rfl rfl ?_
  refine oLload C d9_273 rfl rfl ?_
  refine oAloadN C d9_275 rfl rfl rfl ?_
  have f85 := (K79.fld (Fld.other W72 (K68.fld (K63.fld f60 nin0 oN0) nin0 (oNF (Or.inr (oSn0 hw 12 28)) oN0)) (Or.inl p49)) nin0 oN0)
  refine oGetF C (w40 hw) Via.refl f85 d9_276 rfl ?_
  refine oIload C d9_279 rfl rfl ?_
  have f86 := (K79.arr ((K68.arr (K63.arr f53_5 nin0 oA0) nin0 (oAS p55 oA0)).other W72 p68) nin0 oA0)
  refine oIaload C f86 (by decide) (k := 0) rfl (v := .int 1) rfl d9_281 rfl ?_
  refine oIload C d9_282 rfl rfl ?_
  refine oIconst C d9_284 (z := 1) rfl rfl ?_
  have f87 := (K79.fld (Fld.other W72 (K68.fld (K63.fld f61 nin0 oN0) nin0 (oNF (Or.inr (oSn0 hw 22 28)) oN0)) (Or.inl p49)) nin0 oN0)
  have f88 := (K79.fld (Fld.other W72 (K68.fld (K63.fld f62 nin0 oN0) nin0 (oNF (Or.inr (oSn0 hw 23 28)) oN0)) (Or.inl p49)) nin0 oN0)
  have f89 := (K79.exa (Exa.wr W72 (K68.exa f67)))
  have f90 := (K79.fld (Fld.other W72 (K68.fld (K63.fld (K53.fld (K26.fld (K22.fld (Fld.other W13 (Fld.other W10 f7w (Or.inr (oSn0 hw 24 25))) (Or.inr (oSn0 hw 24 26))) nin0 oN0) nin0 oN0) (ninS p49 (ninS p58 (ninS p62 (ninS p67 (ninS p73 (ninS p80 (ninS p98 (ninS p116 (ninS p128 nin0))))))))) (oNF (Or.inr (oSn0 hw 24 27)) (oNF (Or.inr (oSn0 hw 24 28)) oN0))) nin0 oN0) nin0 (oNF (Or.inr (oSn0 hw 24 28)) oN0)) (Or.inl p49)) nin0 oN0)
  have f91 := (K79.fld (Fld.other W72 (K68.fld (K63.fld (K53.fld (K26.fld (K22.fld (Fld.other W13 f10w (Or.inr (oSn0 hw 25 26))) nin0 oN0) nin0 oN0) (ninS p49 (ninS p58 (ninS p62 (ninS p67 (ninS p73 (ninS p80 (ninS p98 (ninS p116 (ninS p128 nin0))))))))) (oNF (Or.inr (oSn0 hw 25 27)) (oNF (Or.inr (oSn0 hw 25 28)) oN0))) nin0 oN0) nin0 (oNF (Or.inr (oSn0 hw 25 28)) oN0)) (Or.inl p49)) nin0 oN0)
  have f92 := (K79.fld (Fld.other W72 (K68.fld (K63.fld (K53.fld (K26.fld (K22.fld f13w nin0 oN0) nin0 oN0) (ninS p49 (ninS p58 (ninS p62 (ninS p67 (ninS p73 (ninS p80 (ninS p98 (ninS p116 (ninS p128 nin0))))))))) (oNF (Or.inr (oSn0 hw 26 27)) (oNF (Or.inr (oSn0 hw 26 28)) oN0))) nin0 oN0) nin0 (oNF (Or.inr (oSn0 hw 26 28)) oN0)) (Or.inl p49)) nin0 oN0)
  have z94 := (Nat.le_trans z80 K79.1)
  refine oCallP C (w132 hw) (w134 hw) (w4 hw) (w133 hw) (w5 hw) (w135 hw) d9_285 f89 (by decide) pd_461805 rfl rfl (a := b1) (argsL := [.long y5, .long 1, .int 1, .int 0, .int 1]) (rest := []) rfl (W := 0) rfl (q := 288) rfl (by decide) (by decide) (by decide) (by decide) (ac18_26 l Z a0 hw _ n0 z94 b1 y5 y2 f87 f88 p192 f89 p3 f90 f91 f92) (oVQ ?_)
  rintro h93 ⟨K93, f93_0, f93_1, f93_2, f93_3, f93_4⟩
  refine oAloadN C d9_288 rfl rfl rfl ?_
  have f95 := (K93.fld (K79.fld (Fld.other W72 (K68.fld (K63.fld f55 nin0 oN0) nin0 (oNF (Or.inr (oSn0 hw 1 28)) oN0)) (Or.inl p49)) nin0 oN0) nin0 (oNF (Or.inr (oSn0 hw 1 22)) (oNF (Or.inr (oSn0 hw 1 23)) (oNF (Or.inr (oSn0 hw 1 24)) (oNF (Or.inr (oSn0 hw 1 25)) (oNF (Or.inr (oSn0 hw 1 26)) oN0))))))
  refine oGetF C (w14 hw) Via.refl f95 d9_289 rfl ?_
  refine oIload C d9_292 rfl rfl ?_
  have f96 := (K93.arr (K79.arr ((K68.arr (K63.arr f56 nin0 oA0) nin0 (oAS p10 oA0)).other W72 p154) nin0 oA0) nin0 (oAS p10 (oAS p10 (oAS p10 (oAS p10 (oAS p10 oA0))))))
  refine oIaload C f96 (by decide) (k := 0) rfl (v := .int 0) rfl d9_294 rfl ?_
  refine oIstore C d9_295 (Ls' := #[.val (.ref b1), .val (.int 1), .val (.long y2), .second, .val (.long 1), .second, .val (.int 0), .val (.int 0), .val (.long y5), .second, .val (.long 1), .second, .val (.int 0), .unset, .unset, .unset, .unset, .unset]) rfl (q := 297) rfl ?_
  refine oIload C d9_297 rfl rfl ?_
  refine oAloadN C d9_299 rfl rfl rfl ?_
  refine oGetF C (w14 hw) Via.refl f95 d9_300 rfl ?_
  refine oIload C d9_303 rfl rfl ?_
  refine oIconst C d9_305 (z := 1) rfl rfl ?_
  refine oIadd C d9_306 rfl ?_
  refine oCastI (z' := (1 : Int32)) (by decide) ?_
  refine oIaload C f96 (by decide) (k := 1) rfl (v := .int 1) rfl d9_307 rfl ?_
  refine oIcmp_ge C d9_308 (q := 413) (by decide) (by decide) (r := 311) rfl (fun hq => absurd hq ((by decide))) (fun hc308 => ?_)
  refine oAloadN C d9_311 rfl rfl rfl ?_
  have f97 := (K93.fld (K79.fld (Fld.other W72 (K68.fld (K63.fld (K53.fld (K26.fld (K22.fld f18 nin0 oN0) nin0 oN0) (ninS p49 (ninS p58 (ninS p62 (ninS p67 (ninS p73 (ninS p80 (ninS p98 (ninS p116 (ninS p128 nin0))))))))) (oNF (Or.inr (oSn0 hw 2 27)) (oNF (Or.inr (oSn0 hw 2 28)) oN0))) nin0 oN0) nin0 (oNF (Or.inr (oSn0 hw 2 28)) oN0)) (Or.inl p49)) nin0 oN0) nin0 (oNF (Or.inr (oSn0 hw 2 22)) (oNF (Or.inr (oSn0 hw 2 23)) (oNF (Or.inr (oSn0 hw 2 24)) (oNF (Or.inr (oSn0 hw 2 25)) (oNF (Or.inr (oSn0 hw 2 26)) oN0))))))
  refine oGetF C (w16 hw) Via.refl f97 d9_312 rfl ?_
  refine oIload C d9_315 rfl rfl ?_
  have f98 := (K93.arr (K79.arr ((K68.arr (K63.arr (K53.arr (K26.arr (K22.arr f19 nin0 oA0) nin0 oA0) (ninS p201 (ninS p200 (ninS p199 (ninS p198 (ninS p197 (ninS p196 (ninS p195 (ninS p194 (ninS p193 nin0))))))))) (oAS p17 (oAS p17 oA0))) nin0 oA0) nin0 (oAS p17 oA0)).other W72 p201) nin0 oA0) nin0 (oAS p17 (oAS p17 (oAS p17 (oAS p17 (oAS p17 oA0))))))
  refine oIaload C f98 (by decide) (k := 0) rfl (v := .int 0) rfl d9_317 rfl ?_
  refine oIstore C d9_318 (Ls' := #[.val (.ref b1), .val (.int 1), .val (.long y2), .second, .val (.long 1), .second, .val (.int 0), .val (.int 0), .val (.long y5), .second, .val (.long 1), .second, .val (.int 0), .val (.int 0), .unset, .unset, .unset, .unset]) rfl (q := 320) rfl ?_
  refine oAloadN C d9_320 rfl rfl rfl ?_
  have f99 := (K93.fld (K79.fld (Fld.other W72 f70 (Or.inl p49)) nin0 oN0) nin0 (oNF (Or.inr (oSn0 hw 15 22)) (oNF (Or.inr (oSn0 hw 15 23)) (oNF (Or.inr (oSn0 hw 15 24)) (oNF (Or.inr (oSn0 hw 15 25)) (oNF (Or.inr (oSn0 hw 15 26)) oN0))))))
  refine oGetF C (w47 hw) Via.refl f99 d9_321 rfl ?_
  refine oIload C d9_324 rfl rfl ?_
  have f100 := (K93.arr (K79.arr A72l nin0 oA0) nin0 (oAS p47 (oAS p47 (oAS p47 (oAS p47 (oAS p47 oA0))))))
  refine oBaload C f100 (by decide) (k := 0) rfl (v := .int 2) rfl d9_326 rfl ?_
  refine oIconst C d9_327 (z := 2) rfl rfl ?_
  refine oIcmp_eq C d9_328 (q := 407) (by decide) (by decide) (r := 331) rfl (fun hc328 => ?_) (fun hq => absurd hq ((by decide)))
  refine oIinc C d9_407 rfl (z := 1) rfl (w := (1 : Int32)) (by decide) (Ls' := #[.val (.ref b1), .val (.int 1), .val (.long y2), .second, .val (.long 1), .second, .val (.int 0), .val (.int 0), .val (.long y5), .second, .val (.long 1), .second, .val (.int 1), .val (.int 0), .unset, .unset, .unset, .unset]) rfl rfl ?_
  refine oGoto C d9_410 (q := 297) (by decide) (by decide) ?_
  refine oIload C d9_297 rfl rfl ?_
  refine oAloadN C d9_299 rfl rfl rfl ?_
  refine oGetF C (w14 hw) Via.refl f95 d9_300 rfl ?_
  refine oIload C d9_303 rfl rfl ?_
  refine oIconst C d9_305 (z := 1) rfl rfl ?_
  refine oIadd C d9_306 rfl ?_
  refine oCastI (z' := (1 : Int32)) (by decide) ?_
  refine oIaload C f96 (by decide) (k := 1) rfl (v := .int 1) rfl d9_307 rfl ?_
  refine oIcmp_ge C d9_308 (q := 413) (by decide) (by decide) (r := 311) rfl (fun hc308_1 => ?_) (fun hq => absurd hq ((by decide)))
  refine oGoto C d9_413 (q := 128) (by decide) (by decide) ?_
  refine oAloadN C d9_128 rfl rfl rfl ?_
  have f101 := (K93.fld (K79.fld (Fld.other W72 f68_0 (Or.inl p49)) nin0 oN0) nin0 (oNF (Or.inr (oSn0 hw 28 22)) (oNF (Or.inr (oSn0 hw 28 23)) (oNF (Or.inr (oSn0 hw 28 24)) (oNF (Or.inr (oSn0 hw 28 25)) (oNF (Or.inr (oSn0 hw 28 26)) oN0))))))
  refine oGetF C (w118 hw) Via.refl f101 d9_129 rfl ?_
  refine oIf_le C d9_132 (q := 416) (by decide) (by decide) (r := 135) rfl (fun hc132_1 => ?_) (fun hq => absurd hq ((by decide)))
  refine oRetV C d9_416 (by decide) (by decide) ?_
  have f102 := (K93.fld (K79.fld (Fld.other W72 (K68.fld (K63.fld f53_1 nin0 oN0) nin0 (oNF (Or.inr (oSn0 hw 27 28)) oN0)) (Or.inl p49)) nin0 oN0) nin0 (oNF (Or.inr (oSn0 hw 27 22)) (oNF (Or.inr (oSn0 hw 27 23)) (oNF (Or.inr (oSn0 hw 27 24)) (oNF (Or.inr (oSn0 hw 27 25)) (oNF (Or.inr (oSn0 hw 27 26)) oN0))))))
  have f103 := (K93.arr (K79.arr ((K68.arr (K63.arr f53_2 nin0 oA0) nin0 (oAS p50 oA0)).other W72 p51) nin0 oA0) nin0 (oAS p50 (oAS p50 (oAS p50 (oAS p50 (oAS p50 oA0))))))
  have f104 := (K93.arr (K79.arr f76 nin0 oA0) nin0 (oAS p53 (oAS p53 (oAS p53 (oAS p53 (oAS p53 oA0))))))
  have f105 := (K93.arr f82 nin0 (oAS p54 (oAS p54 (oAS p54 (oAS p54 (oAS p54 oA0))))))
  have f106 := (K93.arr f86 nin0 (oAS p55 (oAS p55 (oAS p55 (oAS p55 (oAS p55 oA0))))))
  have f107 := (K93.arr (K79.arr ((K68.arr (K63.arr f53_6 nin0 oA0) nin0 (oAS p56 oA0)).other W72 p74) nin0 oA0) nin0 (oAS p56 (oAS p56 (oAS p56 (oAS p56 (oAS p56 oA0))))))
  have f108 := (K93.arr (K79.arr ((K68.arr (K63.arr f53_7 nin0 oA0) nin0 (oAS p57 oA0)).other W72 p81) nin0 oA0) nin0 (oAS p57 (oAS p57 (oAS p57 (oAS p57 (oAS p57 oA0))))))
  have f109 := (K93.arr (K79.arr ((K68.arr (K63.arr f53_9 nin0 oA0) nin0 (oAS p99 oA0)).other W72 p101) nin0 oA0) nin0 (oAS p99 (oAS p99 (oAS p99 (oAS p99 (oAS p99 oA0))))))
  have f110 := (K93.arr (K79.arr ((K68.arr (K63.arr f53_10 nin0 oA0) nin0 (oAS p100 oA0)).other W72 p108) nin0 oA0) nin0 (oAS p100 (oAS p100 (oAS p100 (oAS p100 (oAS p100 oA0))))))
  exact ⟨rfl, ((((((((((((((oKe.refl h0 [b10, b11, b12, b13, b14, b15, b16, b17, b18] [(b1, Jvm.RoadKit.slotOf Z cU "sinkMoney" "J"), (b1, Jvm.RoadKit.slotOf Z cU "sinkSales" "J"), (b1, Jvm.RoadKit.slotOf Z cU "sinkMoves" "I"), (b1, Jvm.RoadKit.slotOf Z cU "sinkEnd" "I"), (b1, Jvm.RoadKit.slotOf Z cU "sinkGoesWithout" "Z"), (b1, Jvm.RoadKit.slotOf Z cU "touchedCount" "I"), (b1, Jvm.RoadKit.slotOf Z cU "heapSize" "I")]).wrF W1 (Or.inl (List.mem_of_getElem? (i := 0) rfl))).wrF W4 (Or.inl (List.mem_of_getElem? (i := 1) rfl))).wrF W7 (Or.inl (List.mem_of_getElem? (i := 2) rfl))).wrF W10 (Or.inl (List.mem_of_getElem? (i := 3) rfl))).wrF W13 (Or.inl (List.mem_of_getElem? (i := 4) rfl))).trans K22 all0 oA0).trans K26 all0 oA0).trans K53 (allS (Or.inl (List.mem_of_getElem? (i := 0) rfl)) (allS (Or.inl (List.mem_of_getElem? (i := 1) rfl)) (allS (Or.inl (List.mem_of_getElem? (i := 2) rfl)) (allS (Or.inl (List.mem_of_getElem? (i := 3) rfl)) (allS (Or.inl (List.mem_of_getElem? (i := 4) rfl)) (allS (Or.inl (List.mem_of_getElem? (i := 5) rfl)) (allS (Or.inl (List.mem_of_getElem? (i := 6) rfl)) (allS (Or.inl (List.mem_of_getElem? (i := 7) rfl)) (allS (Or.inl (List.mem_of_getElem? (i := 8) rfl)) all0))))))))) (oAS (Or.inl (List.mem_of_getElem? (i := 5) rfl)) (oAS (Or.inl (List.mem_of_getElem? (i := 6) rfl)) oA0))).trans K63 all0 oA0).trans K68 all0 (oAS (Or.inl (List.mem_of_getElem? (i := 6) rfl)) oA0)).wrA W72 (Or.inl (List.mem_of_getElem? (i := 0) rfl))).trans K79 all0 oA0).trans K93 all0 (oAS (Or.inl (List.mem_of_getElem? (i := 0) rfl)) (oAS (Or.inl (List.mem_of_getElem? (i := 1) rfl)) (oAS (Or.inl (List.mem_of_getElem? (i := 2) rfl)) (oAS (Or.inl (List.mem_of_getElem? (i := 3) rfl)) (oAS (Or.inl (List.mem_of_getElem? (i := 4) rfl)) oA0)))))), f93_0, f93_1, f93_2, f93_3, f93_4, f100, f102, f103, f104, f105, f106, f107, f108, f101, f109, f110⟩
theorem or5 (v0 dd v1 v2 : Int64) (r_v0 : 0 ≤ v0.toInt ∧ v0.toInt < 1152921504606846976) (r_dd : 1 ≤ dd.toInt ∧ dd.toInt ≤ 1152921504606846976) (r_v1 : v1.toInt = v0.toInt + dd.toInt) (r_v2 : 0 ≤ v2.toInt ∧ v2.toInt ≤ 1152921504606846976)  : ¬ ((v1 ^^^ (v1 + (0 : Int64))) &&& ((0 : Int64) ^^^ (v1 + (0 : Int64)))) < (0 : Int64) := own_addx v1 (0 : Int64) (by have q0 := c_ladd v1 (0 : Int64); have q1 := rng64 (v1 + (0 : Int64)); (try simp only [Int64.lt_iff_toInt_lt, ← Int64.toInt_inj, Int64.reduceToInt] at *) <;> omega) (by have q0 := c_ladd v1 (0 : Int64); have q1 := rng64 (v1 + (0 : Int64)); (try simp only [Int64.lt_iff_toInt_lt, ← Int64.toInt_inj, Int64.reduceToInt] at *) <;> omega)
theorem or6 (v0 dd v1 v2 : Int64) (r_v0 : 0 ≤ v0.toInt ∧ v0.toInt < 1152921504606846976) (r_dd : 1 ≤ dd.toInt ∧ dd.toInt ≤ 1152921504606846976) (r_v1 : v1.toInt = v0.toInt + dd.toInt) (r_v2 : 0 ≤ v2.toInt ∧ v2.toInt ≤ 1152921504606846976)  : ¬ ((v1 ^^^ v1) &&& (v1 ^^^ (v1 - v1))) < (0 : Int64) := own_subx v1 v1 (by have q0 := c_lsub v1 v1; have q1 := rng64 (v1 - v1); (try simp only [Int64.lt_iff_toInt_lt, ← Int64.toInt_inj, Int64.reduceToInt] at *) <;> omega) (by have q0 := c_lsub v1 v1; have q1 := rng64 (v1 - v1); (try simp only [Int64.lt_iff_toInt_lt, ← Int64.toInt_inj, Int64.reduceToInt] at *) <;> omega)
theorem or7 (v0 dd v1 v2 : Int64) (r_v0 : 0 ≤ v0.toInt ∧ v0.toInt < 1152921504606846976) (r_dd : 1 ≤ dd.toInt ∧ dd.toInt ≤ 1152921504606846976) (r_v1 : v1.toInt = v0.toInt + dd.toInt) (r_v2 : 0 ≤ v2.toInt ∧ v2.toInt ≤ 1152921504606846976)  : (0 : Int64) < v1 := by (try simp only [Int64.lt_iff_toInt_lt, ← Int64.toInt_inj, Int64.reduceToInt] at *) <;> omega
theorem or8 (v0 dd v1 v2 : Int64) (r_v0 : 0 ≤ v0.toInt ∧ v0.toInt < 1152921504606846976) (r_dd : 1 ≤ dd.toInt ∧ dd.toInt ≤ 1152921504606846976) (r_v1 : v1.toInt = v0.toInt + dd.toInt) (r_v2 : 0 ≤ v2.toInt ∧ v2.toInt ≤ 1152921504606846976)  : ¬ (((0 : Int64) ^^^ ((0 : Int64) + v0)) &&& (v0 ^^^ ((0 : Int64) + v0))) < (0 : Int64) := own_addx (0 : Int64) v0 (by have q0 := c_ladd (0 : Int64) v0; have q1 := rng64 ((0 : Int64) + v0); (try simp only [Int64.lt_iff_toInt_lt, ← Int64.toInt_inj, Int64.reduceToInt] at *) <;> omega) (by have q0 := c_ladd (0 : Int64) v0; have q1 := rng64 ((0 : Int64) + v0); (try simp only [Int64.lt_iff_toInt_lt, ← Int64.toInt_inj, Int64.reduceToInt] at *) <;> omega)
theorem or9 (v0 dd v1 v2 : Int64) (r_v0 : 0 ≤ v0.toInt ∧ v0.toInt < 1152921504606846976) (r_dd : 1 ≤ dd.toInt ∧ dd.toInt ≤ 1152921504606846976) (r_v1 : v1.toInt = v0.toInt + dd.toInt) (r_v2 : 0 ≤ v2.toInt ∧ v2.toInt ≤ 1152921504606846976)  : v0 < v1 := by (try simp only [Int64.lt_iff_toInt_lt, ← Int64.toInt_inj, Int64.reduceToInt] at *) <;> omega
theorem pd_897967 : parseMethodDescriptor "(IJJ)V" = some ⟨[.int, .long, .long], none⟩ := by decide +kernel
theorem ef_19 (m : MethodId) (x0 : Addr) (x1 : Int32) (x2 : Int64) (x3 : Int64) : entryFrame m #[.ref x0, .int x1, .long x2, .long x3] 13 = mkF m 0 #[.val (.ref x0), .val (.int x1), .val (.long x2), .second, .val (.long x3), .second, .unset, .unset, .unset, .unset, .unset, .unset, .unset] [] := by first | (simp [entryFrame, mkF, argsToLocals, Value.category]; done) | rfl
theorem ef_20 (m : MethodId) (x0 : Addr) (x1 : Int32) : entryFrame m #[.ref x0, .int x1] 2 = mkF m 0 #[.val (.ref x0), .val (.int x1)] [] := by first | (simp [entryFrame, mkF, argsToLocals, Value.category]; done) | rfl
theorem d20_0 : decode prog_54_method_13_code 0 = .ok (.aload_n 0, 1) := by decide +kernel
theorem d20_1 : decode prog_54_method_13_code 1 = .ok (.getfield 76, 3) := by decide +kernel
theorem d20_4 : decode prog_54_method_13_code 4 = .ok (.iload_n 1, 1) := by decide +kernel
theorem d20_5 : decode prog_54_method_13_code 5 = .ok (.baload, 1) := by decide +kernel
theorem d20_6 : decode prog_54_method_13_code 6 = .ok (.ifCond .ne 27, 3) := by decide +kernel
theorem d20_9 : decode prog_54_method_13_code 9 = .ok (.aload_n 0, 1) := by decide +kernel
theorem d20_10 : decode prog_54_method_13_code 10 = .ok (.getfield 76, 3) := by decide +kernel
theorem d20_13 : decode prog_54_method_13_code 13 = .ok (.iload_n 1, 1) := by decide +kernel
theorem d20_14 : decode prog_54_method_13_code 14 = .ok (.iconst 1, 1) := by decide +kernel
theorem d20_15 : decode prog_54_method_13_code 15 = .ok (.bastore, 1) := by decide +kernel
theorem d20_16 : decode prog_54_method_13_code 16 = .ok (.aload_n 0, 1) := by decide +kernel
theorem d20_17 : decode prog_54_method_13_code 17 = .ok (.getfield 80, 3) := by decide +kernel
theorem d20_20 : decode prog_54_method_13_code 20 = .ok (.aload_n 0, 1) := by decide +kernel
theorem d20_21 : decode prog_54_method_13_code 21 = .ok (.dup, 1) := by decide +kernel
theorem d20_22 : decode prog_54_method_13_code 22 = .ok (.getfield 118, 3) := by decide +kernel
theorem d20_25 : decode prog_54_method_13_code 25 = .ok (.dup_x1, 1) := by decide +kernel
theorem d20_26 : decode prog_54_method_13_code 26 = .ok (.iconst 1, 1) := by decide +kernel
theorem d20_27 : decode prog_54_method_13_code 27 = .ok (.iadd, 1) := by decide +kernel
theorem d20_28 : decode prog_54_method_13_code 28 = .ok (.putfield 118, 3) := by decide +kernel
theorem d20_31 : decode prog_54_method_13_code 31 = .ok (.iload_n 1, 1) := by decide +kernel
theorem d20_32 : decode prog_54_method_13_code 32 = .ok (.iastore, 1) := by decide +kernel
theorem d20_33 : decode prog_54_method_13_code 33 = .ok (.return_, 1) := by decide +kernel
set_option maxRecDepth 65536 in
set_option maxHeartbeats 40000000 in
theorem ac20_28 (l : Launch) (Z : State) (a0 : Array Value) (hw : oHw a0 Z) (h0 : Heap) (n0 : Nat) (Z0 : n0 ≤ h0.size) (b1 : Addr) (b2 : Addr) (b3 : Addr) (p1 : Fld Z h0 b1 cU "changed" "[Z" (.ref b2)) (p2 : oAr Z h0 b2 .boolean [.int 0, .int 0]) (p3 : n0 ≤ b2) (p4 : Fld Z h0 b1 cU "changedItems" "[I" (.ref b3)) (p5 : b1 ≠ b2) (p6 : Fld Z h0 b1 cU "changedCount" "I" (.int 0)) (p7 : Exa Z h0 b1 cU) (p8 : n0 ≤ b1) (p9 : oAr Z h0 b3 .int [.int 0, .int 0]) (p10 : b3 ≠ b2) (p11 : b3 ≠ b1) (p12 : n0 ≤ b3) (p13 : b2 ≠ b1) (p14 : b2 ≠ b3) (p15 : b1 ≠ b3) :
    oMet l Z (⟨cU, "markChanged", "(I)V"⟩ : MethodName) prog_54_method_13_code 2 none [] ({ frames := 0, cells := 0, slots := 0, locals := 0 } : Room) 0 0 n0 #[.ref b1, .int 0] h0 (fun v h => v = none ∧ oKe h0 h [b2, b3] [(b1, Jvm.RoadKit.slotOf Z cU "changedCount" "I")] ∧ oAr Z h b2 .boolean [.int 1, .int 0] ∧ Fld Z h b1 cU "changedCount" "I" (.int 1) ∧ oAr Z h b3 .int [.int 0, .int 0]) := by
  refine oMet.intro (plainFor_of_name pn_944982) (fun m => ef_20 m b1 (0 : Int32)) ?_
  intro op oe os m obl omt ocd C
  refine oAloadN C d20_0 rfl rfl rfl ?_
  refine oGetF C (w56 hw) Via.refl p1 d20_1 rfl ?_
  refine oIloadN C d20_4 rfl rfl ?_
  refine oZaload C p2 (by decide) (k := 0) rfl (v := .int 0) rfl d20_5 rfl ?_
  refine oIf_ne C d20_6 (q := 33) (by decide) (by decide) (r := 9) rfl (fun hq => absurd hq ((by decide))) (fun hc6 => ?_)
  refine oAloadN C d20_9 rfl rfl rfl ?_
  refine oGetF C (w56 hw) Via.refl p1 d20_10 rfl ?_
  refine oIloadN C d20_13 rfl rfl ?_
  refine oIconst C d20_14 (z := 1) rfl rfl ?_
  refine oZastore C p2 (by decide) (k := 0) rfl (v := .int 0) rfl (v' := .int 1) rfl d20_15 rfl p3 fun h1 W1 A1 => ?_
  have A1l : oAr Z h1 b2 .boolean [.int 1, .int 0] := A1
  refine oAloadN C d20_16 rfl rfl rfl ?_
  have f2 := (Fld.other W1 p4 (Or.inl p5))
  refine oGetF C (w58 hw) Via.refl f2 d20_17 rfl ?_
  refine oAloadN C d20_20 rfl rfl rfl ?_
  refine oDup C d20_21 rfl rfl ?_
  have f3 := (Fld.other W1 p6 (Or.inl p5))
  refine oGetF C (w144 hw) Via.refl f3 d20_22 rfl ?_
  refine oDupX1 C d20_25 rfl rfl rfl ?_
  refine oIconst C d20_26 (z := 1) rfl rfl ?_
  refine oIadd C d20_27 rfl ?_
  refine oCastI (z' := (1 : Int32)) (by decide) ?_
  have f4 := (Exa.wr W1 p7)
  refine oPutF C (w144 hw) Via.refl f3 f4 (Or.inl (w145 hw)) (w4 hw) (ty := .int) (by decide) rfl rfl d20_28 rfl p8 fun h5 W5 => ?_
  have f5w := Fld.same W5 f3
  refine oIloadN C d20_31 rfl rfl ?_
  have f6 := ((p9.other W1 p10).other W5 p11)
  refine oIastore C f6 (by decide) (k := 0) rfl (v := .int 0) rfl (v' := .int 0) rfl d20_32 rfl p12 fun h7 W7 A7 => ?_
  have A7l : oAr Z h7 b3 .int [.int 0, .int 0] := A7
  refine oRetV C d20_33 (by decide) (by decide) ?_
  have f8 := ((A1l.other W5 p13).other W7 p14)
  have f9 := (Fld.other W7 f5w (Or.inl p15))
  exact ⟨rfl, ((((oKe.refl h0 [b2, b3] [(b1, Jvm.RoadKit.slotOf Z cU "changedCount" "I")]).wrA W1 (Or.inl (List.mem_of_getElem? (i := 0) rfl))).wrF W5 (Or.inl (List.mem_of_getElem? (i := 0) rfl))).wrA W7 (Or.inl (List.mem_of_getElem? (i := 1) rfl))), f8, f9, A7l⟩
theorem pd_674841 : parseMethodDescriptor "(I)V" = some ⟨[.int], none⟩ := by decide +kernel
theorem d19_0 : decode prog_54_method_21_code 0 = .ok (.iconst 0, 1) := by decide +kernel
theorem d19_1 : decode prog_54_method_21_code 1 = .ok (.istore 6, 2) := by decide +kernel
theorem d19_3 : decode prog_54_method_21_code 3 = .ok (.iload 6, 2) := by decide +kernel
theorem d19_5 : decode prog_54_method_21_code 5 = .ok (.aload_n 0, 1) := by decide +kernel
theorem d19_6 : decode prog_54_method_21_code 6 = .ok (.getfield 136, 3) := by decide +kernel
theorem d19_9 : decode prog_54_method_21_code 9 = .ok (.if_icmp .ge 155, 3) := by decide +kernel
theorem d19_12 : decode prog_54_method_21_code 12 = .ok (.aload_n 0, 1) := by decide +kernel
theorem d19_13 : decode prog_54_method_21_code 13 = .ok (.getfield 73, 3) := by decide +kernel
theorem d19_16 : decode prog_54_method_21_code 16 = .ok (.iload 6, 2) := by decide +kernel
theorem d19_18 : decode prog_54_method_21_code 18 = .ok (.iaload, 1) := by decide +kernel
theorem d19_19 : decode prog_54_method_21_code 19 = .ok (.istore 7, 2) := by decide +kernel
theorem d19_21 : decode prog_54_method_21_code 21 = .ok (.aload_n 0, 1) := by decide +kernel
theorem d19_22 : decode prog_54_method_21_code 22 = .ok (.getfield 63, 3) := by decide +kernel
theorem d19_25 : decode prog_54_method_21_code 25 = .ok (.iload 7, 2) := by decide +kernel
theorem d19_27 : decode prog_54_method_21_code 27 = .ok (.baload, 1) := by decide +kernel
theorem d19_28 : decode prog_54_method_21_code 28 = .ok (.iconst 2, 1) := by decide +kernel
theorem d19_29 : decode prog_54_method_21_code 29 = .ok (.if_icmp .eq 6, 3) := by decide +kernel
theorem d19_35 : decode prog_54_method_21_code 35 = .ok (.aload_n 0, 1) := by decide +kernel
theorem d19_36 : decode prog_54_method_21_code 36 = .ok (.getfield 142, 3) := by decide +kernel
theorem d19_39 : decode prog_54_method_21_code 39 = .ok (.aload_n 0, 1) := by decide +kernel
theorem d19_40 : decode prog_54_method_21_code 40 = .ok (.getfield 48, 3) := by decide +kernel
theorem d19_43 : decode prog_54_method_21_code 43 = .ok (.iload 7, 2) := by decide +kernel
theorem d19_45 : decode prog_54_method_21_code 45 = .ok (.laload, 1) := by decide +kernel
theorem d19_46 : decode prog_54_method_21_code 46 = .ok (.invokestatic 102, 3) := by decide +kernel
theorem d19_49 : decode prog_54_method_21_code 49 = .ok (.lstore 8, 2) := by decide +kernel
theorem d19_51 : decode prog_54_method_21_code 51 = .ok (.aload_n 0, 1) := by decide +kernel
theorem d19_52 : decode prog_54_method_21_code 52 = .ok (.getfield 146, 3) := by decide +kernel
theorem d19_55 : decode prog_54_method_21_code 55 = .ok (.aload_n 0, 1) := by decide +kernel
theorem d19_56 : decode prog_54_method_21_code 56 = .ok (.getfield 51, 3) := by decide +kernel
theorem d19_59 : decode prog_54_method_21_code 59 = .ok (.iload 7, 2) := by decide +kernel
theorem d19_61 : decode prog_54_method_21_code 61 = .ok (.laload, 1) := by decide +kernel
theorem d19_62 : decode prog_54_method_21_code 62 = .ok (.lsub, 1) := by decide +kernel
theorem d19_63 : decode prog_54_method_21_code 63 = .ok (.lstore 10, 2) := by decide +kernel
theorem d19_65 : decode prog_54_method_21_code 65 = .ok (.lload 8, 2) := by decide +kernel
theorem d19_67 : decode prog_54_method_21_code 67 = .ok (.lconst 0, 1) := by decide +kernel
theorem d19_68 : decode prog_54_method_21_code 68 = .ok (.lcmp, 1) := by decide +kernel
theorem d19_69 : decode prog_54_method_21_code 69 = .ok (.ifCond .ne 13, 3) := by decide +kernel
theorem d19_72 : decode prog_54_method_21_code 72 = .ok (.lload 10, 2) := by decide +kernel
theorem d19_74 : decode prog_54_method_21_code 74 = .ok (.lconst 0, 1) := by decide +kernel
theorem d19_75 : decode prog_54_method_21_code 75 = .ok (.lcmp, 1) := by decide +kernel
theorem d19_76 : decode prog_54_method_21_code 76 = .ok (.ifCond .ne 6, 3) := by decide +kernel
theorem d19_82 : decode prog_54_method_21_code 82 = .ok (.aload_n 0, 1) := by decide +kernel
theorem d19_83 : decode prog_54_method_21_code 83 = .ok (.iload 7, 2) := by decide +kernel
theorem d19_85 : decode prog_54_method_21_code 85 = .ok (.invokevirtual 190, 3) := by decide +kernel
theorem d19_88 : decode prog_54_method_21_code 88 = .ok (.aload_n 0, 1) := by decide +kernel
theorem d19_89 : decode prog_54_method_21_code 89 = .ok (.getfield 24, 3) := by decide +kernel
theorem d19_92 : decode prog_54_method_21_code 92 = .ok (.iload 7, 2) := by decide +kernel
theorem d19_94 : decode prog_54_method_21_code 94 = .ok (.aload_n 0, 1) := by decide +kernel
theorem d19_95 : decode prog_54_method_21_code 95 = .ok (.getfield 24, 3) := by decide +kernel
theorem d19_98 : decode prog_54_method_21_code 98 = .ok (.iload 7, 2) := by decide +kernel
theorem d19_100 : decode prog_54_method_21_code 100 = .ok (.laload, 1) := by decide +kernel
theorem d19_101 : decode prog_54_method_21_code 101 = .ok (.lload 8, 2) := by decide +kernel
theorem d19_103 : decode prog_54_method_21_code 103 = .ok (.invokestatic 193, 3) := by decide +kernel
theorem d19_106 : decode prog_54_method_21_code 106 = .ok (.lastore, 1) := by decide +kernel
theorem d19_107 : decode prog_54_method_21_code 107 = .ok (.aload_n 0, 1) := by decide +kernel
theorem d19_108 : decode prog_54_method_21_code 108 = .ok (.getfield 27, 3) := by decide +kernel
theorem d19_111 : decode prog_54_method_21_code 111 = .ok (.iload 7, 2) := by decide +kernel
theorem d19_113 : decode prog_54_method_21_code 113 = .ok (.dup2, 1) := by decide +kernel
theorem d19_114 : decode prog_54_method_21_code 114 = .ok (.laload, 1) := by decide +kernel
theorem d19_115 : decode prog_54_method_21_code 115 = .ok (.lload 10, 2) := by decide +kernel
theorem d19_117 : decode prog_54_method_21_code 117 = .ok (.ladd, 1) := by decide +kernel
theorem d19_118 : decode prog_54_method_21_code 118 = .ok (.lastore, 1) := by decide +kernel
theorem d19_119 : decode prog_54_method_21_code 119 = .ok (.aload_n 0, 1) := by decide +kernel
theorem d19_120 : decode prog_54_method_21_code 120 = .ok (.getfield 30, 3) := by decide +kernel
theorem d19_123 : decode prog_54_method_21_code 123 = .ok (.iload 7, 2) := by decide +kernel
theorem d19_125 : decode prog_54_method_21_code 125 = .ok (.iaload, 1) := by decide +kernel
theorem d19_126 : decode prog_54_method_21_code 126 = .ok (.istore 12, 2) := by decide +kernel
theorem d19_128 : decode prog_54_method_21_code 128 = .ok (.iload 12, 2) := by decide +kernel
theorem d19_130 : decode prog_54_method_21_code 130 = .ok (.iconst (-1), 1) := by decide +kernel
theorem d19_131 : decode prog_54_method_21_code 131 = .ok (.if_icmp .eq 27, 3) := by decide +kernel
theorem d19_134 : decode prog_54_method_21_code 134 = .ok (.aload_n 0, 1) := by decide +kernel
theorem d19_135 : decode prog_54_method_21_code 135 = .ok (.getfield 39, 3) := by decide +kernel
theorem d19_138 : decode prog_54_method_21_code 138 = .ok (.iload 12, 2) := by decide +kernel
theorem d19_140 : decode prog_54_method_21_code 140 = .ok (.dup2, 1) := by decide +kernel
theorem d19_141 : decode prog_54_method_21_code 141 = .ok (.laload, 1) := by decide +kernel
theorem d19_142 : decode prog_54_method_21_code 142 = .ok (.lload 8, 2) := by decide +kernel
theorem d19_144 : decode prog_54_method_21_code 144 = .ok (.lsub, 1) := by decide +kernel
theorem d19_145 : decode prog_54_method_21_code 145 = .ok (.lastore, 1) := by decide +kernel
theorem d19_146 : decode prog_54_method_21_code 146 = .ok (.aload_n 0, 1) := by decide +kernel
theorem d19_147 : decode prog_54_method_21_code 147 = .ok (.getfield 42, 3) := by decide +kernel
theorem d19_150 : decode prog_54_method_21_code 150 = .ok (.iload 12, 2) := by decide +kernel
theorem d19_152 : decode prog_54_method_21_code 152 = .ok (.dup2, 1) := by decide +kernel
theorem d19_153 : decode prog_54_method_21_code 153 = .ok (.laload, 1) := by decide +kernel
theorem d19_154 : decode prog_54_method_21_code 154 = .ok (.lload 10, 2) := by decide +kernel
theorem d19_156 : decode prog_54_method_21_code 156 = .ok (.lsub, 1) := by decide +kernel
theorem d19_157 : decode prog_54_method_21_code 157 = .ok (.lastore, 1) := by decide +kernel
theorem d19_158 : decode prog_54_method_21_code 158 = .ok (.iinc 6 1, 3) := by decide +kernel
theorem d19_161 : decode prog_54_method_21_code 161 = .ok (.goto (-158), 3) := by decide +kernel
theorem d19_164 : decode prog_54_method_21_code 164 = .ok (.aload_n 0, 1) := by decide +kernel
theorem d19_165 : decode prog_54_method_21_code 165 = .ok (.getfield 39, 3) := by decide +kernel
theorem d19_168 : decode prog_54_method_21_code 168 = .ok (.iload_n 1, 1) := by decide +kernel
theorem d19_169 : decode prog_54_method_21_code 169 = .ok (.lload_n 2, 1) := by decide +kernel
theorem d19_170 : decode prog_54_method_21_code 170 = .ok (.aload_n 0, 1) := by decide +kernel
theorem d19_171 : decode prog_54_method_21_code 171 = .ok (.getfield 142, 3) := by decide +kernel
theorem d19_174 : decode prog_54_method_21_code 174 = .ok (.lsub, 1) := by decide +kernel
theorem d19_175 : decode prog_54_method_21_code 175 = .ok (.lastore, 1) := by decide +kernel
theorem d19_176 : decode prog_54_method_21_code 176 = .ok (.aload_n 0, 1) := by decide +kernel
theorem d19_177 : decode prog_54_method_21_code 177 = .ok (.getfield 42, 3) := by decide +kernel
theorem d19_180 : decode prog_54_method_21_code 180 = .ok (.iload_n 1, 1) := by decide +kernel
theorem d19_181 : decode prog_54_method_21_code 181 = .ok (.lload 4, 2) := by decide +kernel
theorem d19_183 : decode prog_54_method_21_code 183 = .ok (.aload_n 0, 1) := by decide +kernel
theorem d19_184 : decode prog_54_method_21_code 184 = .ok (.getfield 146, 3) := by decide +kernel
theorem d19_187 : decode prog_54_method_21_code 187 = .ok (.lsub, 1) := by decide +kernel
theorem d19_188 : decode prog_54_method_21_code 188 = .ok (.lastore, 1) := by decide +kernel
theorem d19_189 : decode prog_54_method_21_code 189 = .ok (.return_, 1) := by decide +kernel
set_option maxRecDepth 65536 in
set_option maxHeartbeats 40000000 in
theorem ac19_29 (l : Launch) (Z : State) (a0 : Array Value) (hw : oHw a0 Z) (h0 : Heap) (n0 : Nat) (Z0 : n0 ≤ h0.size) (b1 : Addr) (y2 : Int64) (b3 : Addr) (b4 : Addr) (y5 : Int64) (b6 : Addr) (b7 : Addr) (b8 : Addr) (b9 : Addr) (b10 : Addr) (b11 : Addr) (b12 : Addr) (b13 : Addr) (b14 : Addr) (p1 : Fld Z h0 b1 cU "touchedCount" "I" (.int 1)) (p2 : Fld Z h0 b1 cU "touched" "[I" (.ref b3)) (p3 : oAr Z h0 b3 .int [.int 0, .int 0]) (p4 : Fld Z h0 b1 cU "mark" "[B" (.ref b4)) (p5 : oAr Z h0 b4 .byte [.int 2, .int 0]) (p6 : Fld Z h0 b1 cU "sinkMoney" "J" (.long y5)) (p7 : Fld Z h0 b1 cU "distMoney" "[J" (.ref b6)) (p8 : oAr Z h0 b6 .long [.long 0, .long 0]) (p9 : ¬ ((y5 ^^^ (0 : Int64)) &&& (y5 ^^^ (y5 - (0 : Int64)))) < (0 : Int64)) (p10 : Fld Z h0 b1 cU "sinkSales" "J" (.long 1)) (p11 : Fld Z h0 b1 cU "distSales" "[J" (.ref b7)) (p12 : oAr Z h0 b7 .long [.long 0, .long 0]) (p13 : Fld Z h0 b1 cU "changed" "[Z" (.ref b8)) (p14 : oAr Z h0 b8 .boolean [.int 0, .int 0]) (p15 : Fld Z h0 b1 cU "changedItems" "[I" (.ref b9)) (p16 : Fld Z h0 b1 cU "changedCount" "I" (.int 0)) (p17 : Exa Z h0 b1 cU) (p18 : oAr Z h0 b9 .int [.int 0, .int 0]) (p19 : n0 ≤ b8) (p20 : b1 ≠ b8) (p21 : n0 ≤ b1) (p22 : b9 ≠ b8) (p23 : b9 ≠ b1) (p24 : n0 ≤ b9) (p25 : b8 ≠ b1) (p26 : b8 ≠ b9) (p27 : b1 ≠ b9) (p28 : Fld Z h0 b1 cU "priceMoney" "[J" (.ref b10)) (p29 : oAr Z h0 b10 .long [.long 0, .long 0]) (p30 : b10 ≠ b9) (p31 : b10 ≠ b8) (p32 : b10 ≠ b1) (p33 : ¬ (((0 : Int64) ^^^ ((0 : Int64) + y5)) &&& (y5 ^^^ ((0 : Int64) + y5))) < (0 : Int64)) (p34 : n0 ≤ b10) (p35 : Fld Z h0 b1 cU "priceSales" "[J" (.ref b11)) (p36 : b1 ≠ b10) (p37 : oAr Z h0 b11 .long [.long 0, .long 0]) (p38 : b11 ≠ b9) (p39 : b11 ≠ b8) (p40 : b11 ≠ b1) (p41 : b11 ≠ b10) (p42 : n0 ≤ b11) (p43 : Fld Z h0 b1 cU "holder" "[I" (.ref b12)) (p44 : b1 ≠ b11) (p45 : oAr Z h0 b12 .int [.int 0, .int (-1)]) (p46 : b12 ≠ b9) (p47 : b12 ≠ b8) (p48 : b12 ≠ b1) (p49 : b12 ≠ b10) (p50 : b12 ≠ b11) (p51 : Fld Z h0 b1 cU "utilityMoney" "[J" (.ref b13)) (p52 : oAr Z h0 b13 .long [.long y5, .long 0, .long 0]) (p53 : b13 ≠ b9) (p54 : b13 ≠ b8) (p55 : b13 ≠ b1) (p56 : b13 ≠ b10) (p57 : b13 ≠ b11) (p58 : n0 ≤ b13) (p59 : Fld Z h0 b1 cU "utilitySales" "[J" (.ref b14)) (p60 : b1 ≠ b13) (p61 : oAr Z h0 b14 .long [.long 1, .long 0, .long 0]) (p62 : b14 ≠ b9) (p63 : b14 ≠ b8) (p64 : b14 ≠ b1) (p65 : b14 ≠ b10) (p66 : b14 ≠ b11) (p67 : b14 ≠ b13) (p68 : n0 ≤ b14) (p69 : b1 ≠ b14) (p70 : b13 ≠ b14) (p71 : b8 ≠ b10) (p72 : b8 ≠ b11) (p73 : b8 ≠ b13) (p74 : b8 ≠ b14) (p75 : b9 ≠ b10) (p76 : b9 ≠ b11) (p77 : b9 ≠ b13) (p78 : b9 ≠ b14) (p79 : b10 ≠ b11) (p80 : b10 ≠ b13) (p81 : b10 ≠ b14) (p82 : b11 ≠ b13) (p83 : b11 ≠ b14) :
    oMet l Z (⟨cU, "raisePrices", "(IJJ)V"⟩ : MethodName) prog_54_method_21_code 13 none [] ({ frames := 1, cells := 0, slots := 0, locals := 19 } : Room) 0 0 n0 #[.ref b1, .int 1, .long y2, .long 1] h0 (fun v h => v = none ∧ oKe h0 h [b8, b9, b10, b11, b13, b14] [(b1, Jvm.RoadKit.slotOf Z cU "changedCount" "I")] ∧ oAr Z h b8 .boolean [.int 1, .int 0] ∧ Fld Z h b1 cU "changedCount" "I" (.int 1) ∧ oAr Z h b9 .int [.int 0, .int 0] ∧ oAr Z h b10 .long [.long y5, .long 0] ∧ oAr Z h b11 .long [.long 1, .long 0] ∧ oAr Z h b13 .long [.long 0, .long (y2 - y5), .long 0] ∧ oAr Z h b14 .long [.long 0, .long 0, .long 0]) := by
  refine oMet.intro (plainFor_of_name pn_944982) (fun m => ef_19 m b1 (1 : Int32) y2 (1 : Int64)) ?_
  intro op oe os m obl omt ocd C
  refine oIconst C d19_0 (z := 0) rfl rfl ?_
  refine oIstore C d19_1 (Ls' := #[.val (.ref b1), .val (.int 1), .val (.long y2), .second, .val (.long 1), .second, .val (.int 0), .unset, .unset, .unset, .unset, .unset, .unset]) rfl (q := 3) rfl ?_
  refine oIload C d19_3 rfl rfl ?_
  refine oAloadN C d19_5 rfl rfl rfl ?_
  refine oGetF C (w112 hw) Via.refl p1 d19_6 rfl ?_
  refine oIcmp_ge C d19_9 (q := 164) (by decide) (by decide) (r := 12) rfl (fun hq => absurd hq ((by decide))) (fun hc9 => ?_)
  refine oAloadN C d19_12 rfl rfl rfl ?_
  refine oGetF C (w53 hw) Via.refl p2 d19_13 rfl ?_
  refine oIload C d19_16 rfl rfl ?_
  refine oIaload C p3 (by decide) (k := 0) rfl (v := .int 0) rfl d19_18 rfl ?_
  refine oIstore C d19_19 (Ls' := #[.val (.ref b1), .val (.int 1), .val (.long y2), .second, .val (.long 1), .second, .val (.int 0), .val (.int 0), .unset, .unset, .unset, .unset, .unset]) rfl (q := 21) rfl ?_
  refine oAloadN C d19_21 rfl rfl rfl ?_
  refine oGetF C (w47 hw) Via.refl p4 d19_22 rfl ?_
  refine oIload C d19_25 rfl rfl ?_
  refine oBaload C p5 (by decide) (k := 0) rfl (v := .int 2) rfl d19_27 rfl ?_
  refine oIconst C d19_28 (z := 2) rfl rfl ?_
  refine oIcmp_eq C d19_29 (q := 35) (by decide) (by decide) (r := 32) rfl (fun hc29 => ?_) (fun hq => absurd hq ((by decide)))
  refine oAloadN C d19_35 rfl rfl rfl ?_
  refine oGetF C (w87 hw) Via.refl p6 d19_36 rfl ?_
  refine oAloadN C d19_39 rfl rfl rfl ?_
  refine oGetF C (w36 hw) Via.refl p7 d19_40 rfl ?_
  refine oIload C d19_43 rfl rfl ?_
  refine oLaload C p8 (by decide) (k := 0) rfl (v := .long 0) rfl d19_45 rfl ?_
  refine oCallS C (w65 hw) (w66 hw) (w67 hw) (w68 hw) d19_46 (by decide) pd_212481 rfl rfl (argsL := [.long y5, .long 0]) (rest := []) rfl (W := 0) rfl (q := 49) rfl (by decide) (by decide) (by decide) (by decide) (ac5_3 l Z a0 hw _ n0 Z0 y5 p9) (oRQ ?_)
  rintro h1 K1
  refine oCastL (z' := y5) (own_sub0 _) ?_
  refine oLstore C d19_49 (Ls' := #[.val (.ref b1), .val (.int 1), .val (.long y2), .second, .val (.long 1), .second, .val (.int 0), .val (.int 0), .val (.long y5), .second, .unset, .unset, .unset]) rfl (q := 51) rfl ?_
  refine oAloadN C d19_51 rfl rfl rfl ?_
  have f2 := (K1.fld p10 nin0 oN0)
  refine oGetF C (w89 hw) Via.refl f2 d19_52 rfl ?_
  refine oAloadN C d19_55 rfl rfl rfl ?_
  have f3 := (K1.fld p11 nin0 oN0)
  refine oGetF C (w38 hw) Via.refl f3 d19_56 rfl ?_
  refine oIload C d19_59 rfl rfl ?_
  have f4 := (K1.arr p12 nin0 oA0)
  refine oLaload C f4 (by decide) (k := 0) rfl (v := .long 0) rfl d19_61 rfl ?_
  refine oLsub C d19_62 rfl ?_
  refine oCastL (z' := (1 : Int64)) (by decide) ?_
  refine oLstore C d19_63 (Ls' := #[.val (.ref b1), .val (.int 1), .val (.long y2), .second, .val (.long 1), .second, .val (.int 0), .val (.int 0), .val (.long y5), .second, .val (.long 1), .second, .unset]) rfl (q := 65) rfl ?_
  refine oJoin (α := Unit) (fun _ => True) (fun _ => h1) (fun _ => (mkF m 82 #[.val (.ref b1), .val (.int 1), .val (.long y2), .second, .val (.long 1), .second, .val (.int 0), .val (.int 0), .val (.long y5), .second, .val (.long 1), .second, .unset] [])) (k := 0) (n := 0) (fun _ _ => ?_) (fun J82 => ?_)
  ·
   show oW _ _ _ _ _ _ _ _ _ _ _ _ _ _ _ (mkF m 82 #[.val (.ref b1), .val (.int 1), .val (.long y2), .second, .val (.long 1), .second, .val (.int 0), .val (.int 0), .val (.long y5), .second, .val (.long 1), .second, .unset] [])
   refine oAloadN C d19_82 rfl rfl rfl ?_
   refine oIload C d19_83 rfl rfl ?_
   have f5 := (K1.fld p13 nin0 oN0)
   have f6 := (K1.arr p14 nin0 oA0)
   have f7 := (K1.fld p15 nin0 oN0)
   have f8 := (K1.fld p16 nin0 oN0)
   have f9 := (K1.exa p17)
   have f10 := (K1.arr p18 nin0 oA0)
   have z12 := (Nat.le_trans Z0 K1.1)
   refine oCallP C (w140 hw) (w142 hw) (w4 hw) (w141 hw) (w5 hw) (w143 hw) d19_85 f9 (by decide) pd_674841 rfl rfl (a := b1) (argsL := [.int 0]) (rest := []) rfl (W := 0) rfl (q := 88) rfl (by decide) (by decide) (by decide) (by decide) (ac20_28 l Z a0 hw _ n0 z12 b1 b8 b9 f5 f6 p19 f7 p20 f8 f9 p21 f10 p22 p23 p24 p25 p26 p27) (oVQ ?_)
   rintro h11 ⟨K11, f11_0, f11_1, f11_2⟩
   refine oAloadN C d19_88 rfl rfl rfl ?_
   have f13 := (K11.fld (K1.fld p28 nin0 oN0) (ninS p20 (ninS p27 nin0)) (oNF (Or.inr (oSn0 hw 4 29)) oN0))
   refine oGetF C (w20 hw) Via.refl f13 d19_89 rfl ?_
   refine oIload C d19_92 rfl rfl ?_
   refine oAloadN C d19_94 rfl rfl rfl ?_
   refine oGetF C (w20 hw) Via.refl f13 d19_95 rfl ?_
   refine oIload C d19_98 rfl rfl ?_
   have f14 := (K11.arr (K1.arr p29 nin0 oA0) (ninS p31 (ninS p30 nin0)) (oAS p32 oA0))
   refine oLaload C f14 (by decide) (k := 0) rfl (v := .long 0) rfl d19_100 rfl ?_
   refine oLload C d19_101 rfl rfl ?_
   have z16 := (Nat.le_trans z12 K11.1)
   refine oCallS C (w146 hw) (w102 hw) (w67 hw) (w103 hw) d19_103 (by decide) pd_212481 rfl rfl (argsL := [.long 0, .long y5]) (rest := [.int 0, .ref b10]) rfl (W := 2) rfl (q := 106) rfl (by decide) (by decide) (by decide) (by decide) (ac11_21 l Z a0 hw _ n0 z16 y5 p33) (oRQ ?_)
   rintro h15 K15
   refine oCastL (z' := y5) (own_0add _) ?_
   have f17 := (K15.arr f14 nin0 oA0)
   refine oLastore C f17 (by decide) (k := 0) rfl (v := .long 0) rfl (v' := .long y5) rfl d19_106 rfl p34 fun h18 W18 A18 => ?_
   have A18l : oAr Z h18 b10 .long [.long y5, .long 0] := A18
   refine oAloadN C d19_107 rfl rfl rfl ?_
   have f19 := (Fld.other W18 (K15.fld (K11.fld (K1.fld p35 nin0 oN0) (ninS p20 (ninS p27 nin0)) (oNF (Or.inr (oSn0 hw 5 29)) oN0)) nin0 oN0) (Or.inl p36))
   refine oGetF C (w22 hw) Via.refl f19 d19_108 rfl ?_
   refine oIload C d19_111 rfl rfl ?_
   refine oDup2 C d19_113 rfl rfl rfl ?_
   have f20 := ((K15.arr (K11.arr (K1.arr p37 nin0 oA0) (ninS p39 (ninS p38 nin0)) (oAS p40 oA0)) nin0 oA0).other W18 p41)
   refine oLaload C f20 (by decide) (k := 0) rfl (v := .long 0) rfl d19_114 rfl ?_
   refine oLload C d19_115 rfl rfl ?_
   refine oLadd C d19_117 rfl ?_
   refine oCastL (z' := (1 : Int64)) (by decide) ?_
   refine oLastore C f20 (by decide) (k := 0) rfl (v := .long 0) rfl (v' := .long 1) rfl d19_118 rfl p42 fun h21 W21 A21 => ?_
   have A21l : oAr Z h21 b11 .long [.long 1, .long 0] := A21
   refine oAloadN C d19_119 rfl rfl rfl ?_
   have f22 := (Fld.other W21 (Fld.other W18 (K15.fld (K11.fld (K1.fld p43 nin0 oN0) (ninS p20 (ninS p27 nin0)) (oNF (Or.inr (oSn0 hw 6 29)) oN0)) nin0 oN0) (Or.inl p36)) (Or.inl p44))
   refine oGetF C (w24 hw) Via.refl f22 d19_120 rfl ?_
   refine oIload C d19_123 rfl rfl ?_
   have f23 := (((K15.arr (K11.arr (K1.arr p45 nin0 oA0) (ninS p47 (ninS p46 nin0)) (oAS p48 oA0)) nin0 oA0).other W18 p49).other W21 p50)
   refine oIaload C f23 (by decide) (k := 0) rfl (v := .int 0) rfl d19_125 rfl ?_
   refine oIstore C d19_126 (Ls' := #[.val (.ref b1), .val (.int 1), .val (.long y2), .second, .val (.long 1), .second, .val (.int 0), .val (.int 0), .val (.long y5), .second, .val (.long 1), .second, .val (.int 0)]) rfl (q := 128) rfl ?_
   refine oIload C d19_128 rfl rfl ?_
   refine oIconst C d19_130 (z := (-1)) rfl rfl ?_
   refine oIcmp_eq C d19_131 (q := 158) (by decide) (by decide) (r := 134) rfl (fun hq => absurd hq ((by decide))) (fun hc131 => ?_)
   refine oAloadN C d19_134 rfl rfl rfl ?_
   have f24 := (Fld.other W21 (Fld.other W18 (K15.fld (K11.fld (K1.fld p51 nin0 oN0) (ninS p20 (ninS p27 nin0)) (oNF (Or.inr (oSn0 hw 7 29)) oN0)) nin0 oN0) (Or.inl p36)) (Or.inl p44))
   refine oGetF C (w30 hw) Via.refl f24 d19_135 rfl ?_
   refine oIload C d19_138 rfl rfl ?_
   refine oDup2 C d19_140 rfl rfl rfl ?_
   have f25 := (((K15.arr (K11.arr (K1.arr p52 nin0 oA0) (ninS p54 (ninS p53 nin0)) (oAS p55 oA0)) nin0 oA0).other W18 p56).other W21 p57)
   refine oLaload C f25 (by decide) (k := 0) rfl (v := .long y5) rfl d19_141 rfl ?_
   refine oLload C d19_142 rfl rfl ?_
   refine oLsub C d19_144 rfl ?_
   refine oCastL (z' := (0 : Int64)) (own_subs _) ?_
   refine oLastore C f25 (by decide) (k := 0) rfl (v := .long y5) rfl (v' := .long 0) rfl d19_145 rfl p58 fun h26 W26 A26 => ?_
   have A26l : oAr Z h26 b13 .long [.long 0, .long 0, .long 0] := A26
   refine oAloadN C d19_146 rfl rfl rfl ?_
   have f27 := (Fld.other W26 (Fld.other W21 (Fld.other W18 (K15.fld (K11.fld (K1.fld p59 nin0 oN0) (ninS p20 (ninS p27 nin0)) (oNF (Or.inr (oSn0 hw 8 29)) oN0)) nin0 oN0) (Or.inl p36)) (Or.inl p44)) (Or.inl p60))
   refine oGetF C (w32 hw) Via.refl f27 d19_147 rfl ?_
   refine oIload C d19_150 rfl rfl ?_
   refine oDup2 C d19_152 rfl rfl rfl ?_
   have f28 := ((((K15.arr (K11.arr (K1.arr p61 nin0 oA0) (ninS p63 (ninS p62 nin0)) (oAS p64 oA0)) nin0 oA0).other W18 p65).other W21 p66).other W26 p67)
   refine oLaload C f28 (by decide) (k := 0) rfl (v := .long 1) rfl d19_153 rfl ?_
   refine oLload C d19_154 rfl rfl ?_
   refine oLsub C d19_156 rfl ?_
   refine oCastL (z' := (0 : Int64)) (by decide) ?_
   refine oLastore C f28 (by decide) (k := 0) rfl (v := .long 1) rfl (v' := .long 0) rfl d19_157 rfl p68 fun h29 W29 A29 => ?_
   have A29l : oAr Z h29 b14 .long [.long 0, .long 0, .long 0] := A29
   refine oIinc C d19_158 rfl (z := 1) rfl (w := (1 : Int32)) (by decide) (Ls' := #[.val (.ref b1), .val (.int 1), .val (.long y2), .second, .val (.long 1), .second, .val (.int 1), .val (.int 0), .val (.long y5), .second, .val (.long 1), .second, .val (.int 0)]) rfl rfl ?_
   refine oGoto C d19_161 (q := 3) (by decide) (by decide) ?_
   refine oIload C d19_3 rfl rfl ?_
   refine oAloadN C d19_5 rfl rfl rfl ?_
   have f30 := (Fld.other W29 (Fld.other W26 (Fld.other W21 (Fld.other W18 (K15.fld (K11.fld (K1.fld p1 nin0 oN0) (ninS p20 (ninS p27 nin0)) (oNF (Or.inr (oSn0 hw 27 29)) oN0)) nin0 oN0) (Or.inl p36)) (Or.inl p44)) (Or.inl p60)) (Or.inl p69))
   refine oGetF C (w112 hw) Via.refl f30 d19_6 rfl ?_
   refine oIcmp_ge C d19_9 (q := 164) (by decide) (by decide) (r := 12) rfl (fun hc9_1 => ?_) (fun hq => absurd hq ((by decide)))
   refine oAloadN C d19_164 rfl rfl rfl ?_
   have f31 := (Fld.other W29 (Fld.other W26 f24 (Or.inl p60)) (Or.inl p69))
   refine oGetF C (w30 hw) Via.refl f31 d19_165 rfl ?_
   refine oIloadN C d19_168 rfl rfl ?_
   refine oLloadN C d19_169 rfl rfl ?_
   refine oAloadN C d19_170 rfl rfl rfl ?_
   have f32 := (Fld.other W29 (Fld.other W26 (Fld.other W21 (Fld.other W18 (K15.fld (K11.fld (K1.fld p6 nin0 oN0) (ninS p20 (ninS p27 nin0)) (oNF (Or.inr (oSn0 hw 22 29)) oN0)) nin0 oN0) (Or.inl p36)) (Or.inl p44)) (Or.inl p60)) (Or.inl p69))
   refine oGetF C (w87 hw) Via.refl f32 d19_171 rfl ?_
   refine oLsub C d19_174 rfl ?_
   have f33 := (A26l.other W29 p70)
   refine oLastore C f33 (by decide) (k := 1) rfl (v := .long 0) rfl (v' := .long (y2 - y5)) rfl d19_175 rfl p58 fun h34 W34 A34 => ?_
   have A34l : oAr Z h34 b13 .long [.long 0, .long (y2 - y5), .long 0] := A34
   refine oAloadN C d19_176 rfl rfl rfl ?_
   have f35 := (Fld.other W34 (Fld.other W29 f27 (Or.inl p69)) (Or.inl p60))
   refine oGetF C (w32 hw) Via.refl f35 d19_177 rfl ?_
   refine oIloadN C d19_180 rfl rfl ?_
   refine oLload C d19_181 rfl rfl ?_
   refine oAloadN C d19_183 rfl rfl rfl ?_
   have f36 := (Fld.other W34 (Fld.other W29 (Fld.other W26 (Fld.other W21 (Fld.other W18 (K15.fld (K11.fld f2 (ninS p20 (ninS p27 nin0)) (oNF (Or.inr (oSn0 hw 23 29)) oN0)) nin0 oN0) (Or.inl p36)) (Or.inl p44)) (Or.inl p60)) (Or.inl p69)) (Or.inl p60))
   refine oGetF C (w89 hw) Via.refl f36 d19_184 rfl ?_
   refine oLsub C d19_187 rfl ?_
   refine oCastL (z' := (0 : Int64)) (by decide) ?_
   have f37 := (A29l.other W34 p67)
   refine oLastore C f37 (by decide) (k := 1) rfl (v := .long 0) rfl (v' := .long 0) rfl d19_188 rfl p68 fun h38 W38 A38 => ?_
   have A38l : oAr Z h38 b14 .long [.long 0, .long 0, .long 0] := A38
   refine oRetV C d19_189 (by decide) (by decide) ?_
   have f39 := (((((((K15.arr f11_0 nin0 oA0).other W18 p71).other W21 p72).other W26 p73).other W29 p74).other W34 p73).other W38 p74)
   have f40 := (Fld.other W38 (Fld.other W34 (Fld.other W29 (Fld.other W26 (Fld.other W21 (Fld.other W18 (K15.fld f11_1 nin0 oN0) (Or.inl p36)) (Or.inl p44)) (Or.inl p60)) (Or.inl p69)) (Or.inl p60)) (Or.inl p69))
   have f41 := (((((((K15.arr f11_2 nin0 oA0).other W18 p75).other W21 p76).other W26 p77).other W29 p78).other W34 p77).other W38 p78)
   have f42 := (((((A18l.other W21 p79).other W26 p80).other W29 p81).other W34 p80).other W38 p81)
   have f43 := ((((A21l.other W26 p82).other W29 p83).other W34 p82).other W38 p83)
   have f44 := (A34l.other W38 p70)
   exact ⟨rfl, ((((((((((oKe.refl h0 [b8, b9, b10, b11, b13, b14] [(b1, Jvm.RoadKit.slotOf Z cU "changedCount" "I")]).trans K1 all0 oA0).trans K11 (allS (Or.inl (List.mem_of_getElem? (i := 0) rfl)) (allS (Or.inl (List.mem_of_getElem? (i := 1) rfl)) all0)) (oAS (Or.inl (List.mem_of_getElem? (i := 0) rfl)) oA0)).trans K15 all0 oA0).wrA W18 (Or.inl (List.mem_of_getElem? (i := 2) rfl))).wrA W21 (Or.inl (List.mem_of_getElem? (i := 3) rfl))).wrA W26 (Or.inl (List.mem_of_getElem? (i := 4) rfl))).wrA W29 (Or.inl (List.mem_of_getElem? (i := 5) rfl))).wrA W34 (Or.inl (List.mem_of_getElem? (i := 4) rfl))).wrA W38 (Or.inl (List.mem_of_getElem? (i := 5) rfl))), f39, f40, f41, f42, f43, f44, A38l⟩
  ·
   refine oLload C d19_65 rfl rfl ?_
   refine oLconst C d19_67 (z := 0) rfl rfl ?_
   refine oLcmp_ne C d19_68 rfl d19_69 (q := 82) (by decide) (by decide) (r := 72) rfl (fun hc68 => ?_) (fun hc68 => ?_)
   ·
    exact J82 () trivial
   ·
    refine oLload C d19_72 rfl rfl ?_
    refine oLconst C d19_74 (z := 0) rfl rfl ?_
    refine oLcmp_ne C d19_75 rfl d19_76 (q := 82) (by decide) (by decide) (r := 79) rfl (fun hc75 => ?_) (fun hq => absurd hq ((by decide)))
    exact J82 () trivial
theorem ef_21 (m : MethodId) (x0 : Addr) (x1 : Int32) : entryFrame m #[.ref x0, .int x1] 5 = mkF m 0 #[.val (.ref x0), .val (.int x1), .unset, .unset, .unset] [] := by first | (simp [entryFrame, mkF, argsToLocals, Value.category]; done) | rfl
set_option maxRecDepth 65536 in
set_option maxHeartbeats 40000000 in
theorem ac20_30 (l : Launch) (Z : State) (a0 : Array Value) (hw : oHw a0 Z) (h0 : Heap) (n0 : Nat) (Z0 : n0 ≤ h0.size) (b1 : Addr) (b2 : Addr) (p1 : Fld Z h0 b1 cU "changed" "[Z" (.ref b2)) (p2 : oAr Z h0 b2 .boolean [.int 1, .int 0]) :
    oMet l Z (⟨cU, "markChanged", "(I)V"⟩ : MethodName) prog_54_method_13_code 2 none [] ({ frames := 0, cells := 0, slots := 0, locals := 0 } : Room) 0 0 n0 #[.ref b1, .int 0] h0 (fun v h => v = none ∧ oKe h0 h [] []) := by
  refine oMet.intro (plainFor_of_name pn_944982) (fun m => ef_20 m b1 (0 : Int32)) ?_
  intro op oe os m obl omt ocd C
  refine oAloadN C d20_0 rfl rfl rfl ?_
  refine oGetF C (w56 hw) Via.refl p1 d20_1 rfl ?_
  refine oIloadN C d20_4 rfl rfl ?_
  refine oZaload C p2 (by decide) (k := 0) rfl (v := .int 1) rfl d20_5 rfl ?_
  refine oIf_ne C d20_6 (q := 33) (by decide) (by decide) (r := 9) rfl (fun hc6 => ?_) (fun hq => absurd hq ((by decide)))
  refine oRetV C d20_33 (by decide) (by decide) ?_
  exact ⟨rfl, (oKe.refl h0 [] [])⟩
theorem d21_0 : decode prog_54_method_22_code 0 = .ok (.aload_n 0, 1) := by decide +kernel
theorem d21_1 : decode prog_54_method_22_code 1 = .ok (.getfield 152, 3) := by decide +kernel
theorem d21_4 : decode prog_54_method_22_code 4 = .ok (.istore_n 2, 1) := by decide +kernel
theorem d21_5 : decode prog_54_method_22_code 5 = .ok (.iload_n 2, 1) := by decide +kernel
theorem d21_6 : decode prog_54_method_22_code 6 = .ok (.iconst (-1), 1) := by decide +kernel
theorem d21_7 : decode prog_54_method_22_code 7 = .ok (.if_icmp .ne 4, 3) := by decide +kernel
theorem d21_11 : decode prog_54_method_22_code 11 = .ok (.aload_n 0, 1) := by decide +kernel
theorem d21_12 : decode prog_54_method_22_code 12 = .ok (.getfield 155, 3) := by decide +kernel
theorem d21_15 : decode prog_54_method_22_code 15 = .ok (.ifCond .eq 23, 3) := by decide +kernel
theorem d21_18 : decode prog_54_method_22_code 18 = .ok (.aload_n 0, 1) := by decide +kernel
theorem d21_19 : decode prog_54_method_22_code 19 = .ok (.aload_n 0, 1) := by decide +kernel
theorem d21_20 : decode prog_54_method_22_code 20 = .ok (.getfield 30, 3) := by decide +kernel
theorem d21_23 : decode prog_54_method_22_code 23 = .ok (.iload_n 2, 1) := by decide +kernel
theorem d21_24 : decode prog_54_method_22_code 24 = .ok (.iaload, 1) := by decide +kernel
theorem d21_25 : decode prog_54_method_22_code 25 = .ok (.putfield 9, 3) := by decide +kernel
theorem d21_28 : decode prog_54_method_22_code 28 = .ok (.aload_n 0, 1) := by decide +kernel
theorem d21_29 : decode prog_54_method_22_code 29 = .ok (.getfield 45, 3) := by decide +kernel
theorem d21_32 : decode prog_54_method_22_code 32 = .ok (.aload_n 0, 1) := by decide +kernel
theorem d21_33 : decode prog_54_method_22_code 33 = .ok (.getfield 9, 3) := by decide +kernel
theorem d21_36 : decode prog_54_method_22_code 36 = .ok (.iconst (-1), 1) := by decide +kernel
theorem d21_37 : decode prog_54_method_22_code 37 = .ok (.iastore, 1) := by decide +kernel
theorem d21_38 : decode prog_54_method_22_code 38 = .ok (.aload_n 0, 1) := by decide +kernel
theorem d21_39 : decode prog_54_method_22_code 39 = .ok (.iload_n 2, 1) := by decide +kernel
theorem d21_40 : decode prog_54_method_22_code 40 = .ok (.invokevirtual 190, 3) := by decide +kernel
theorem d21_43 : decode prog_54_method_22_code 43 = .ok (.aload_n 0, 1) := by decide +kernel
theorem d21_44 : decode prog_54_method_22_code 44 = .ok (.getfield 57, 3) := by decide +kernel
theorem d21_47 : decode prog_54_method_22_code 47 = .ok (.iload_n 2, 1) := by decide +kernel
theorem d21_48 : decode prog_54_method_22_code 48 = .ok (.iaload, 1) := by decide +kernel
theorem d21_49 : decode prog_54_method_22_code 49 = .ok (.istore_n 3, 1) := by decide +kernel
theorem d21_50 : decode prog_54_method_22_code 50 = .ok (.iload_n 3, 1) := by decide +kernel
theorem d21_51 : decode prog_54_method_22_code 51 = .ok (.iconst (-1), 1) := by decide +kernel
theorem d21_52 : decode prog_54_method_22_code 52 = .ok (.if_icmp .ne 7, 3) := by decide +kernel
theorem d21_55 : decode prog_54_method_22_code 55 = .ok (.iload_n 1, 1) := by decide +kernel
theorem d21_56 : decode prog_54_method_22_code 56 = .ok (.goto 9, 3) := by decide +kernel
theorem d21_65 : decode prog_54_method_22_code 65 = .ok (.istore 4, 2) := by decide +kernel
theorem d21_67 : decode prog_54_method_22_code 67 = .ok (.aload_n 0, 1) := by decide +kernel
theorem d21_68 : decode prog_54_method_22_code 68 = .ok (.getfield 30, 3) := by decide +kernel
theorem d21_71 : decode prog_54_method_22_code 71 = .ok (.iload_n 2, 1) := by decide +kernel
theorem d21_72 : decode prog_54_method_22_code 72 = .ok (.iload 4, 2) := by decide +kernel
theorem d21_74 : decode prog_54_method_22_code 74 = .ok (.iastore, 1) := by decide +kernel
theorem d21_75 : decode prog_54_method_22_code 75 = .ok (.aload_n 0, 1) := by decide +kernel
theorem d21_76 : decode prog_54_method_22_code 76 = .ok (.getfield 45, 3) := by decide +kernel
theorem d21_79 : decode prog_54_method_22_code 79 = .ok (.iload 4, 2) := by decide +kernel
theorem d21_81 : decode prog_54_method_22_code 81 = .ok (.aload_n 0, 1) := by decide +kernel
theorem d21_82 : decode prog_54_method_22_code 82 = .ok (.getfield 60, 3) := by decide +kernel
theorem d21_85 : decode prog_54_method_22_code 85 = .ok (.iload_n 2, 1) := by decide +kernel
theorem d21_86 : decode prog_54_method_22_code 86 = .ok (.iaload, 1) := by decide +kernel
theorem d21_87 : decode prog_54_method_22_code 87 = .ok (.iastore, 1) := by decide +kernel
theorem d21_88 : decode prog_54_method_22_code 88 = .ok (.iload_n 3, 1) := by decide +kernel
theorem d21_89 : decode prog_54_method_22_code 89 = .ok (.iconst (-1), 1) := by decide +kernel
theorem d21_90 : decode prog_54_method_22_code 90 = .ok (.if_icmp .ne 4, 3) := by decide +kernel
theorem d21_93 : decode prog_54_method_22_code 93 = .ok (.return_, 1) := by decide +kernel
set_option maxRecDepth 65536 in
set_option maxHeartbeats 40000000 in
theorem ac21_31 (l : Launch) (Z : State) (a0 : Array Value) (hw : oHw a0 Z) (h0 : Heap) (n0 : Nat) (Z0 : n0 ≤ h0.size) (b1 : Addr) (b2 : Addr) (b3 : Addr) (b4 : Addr) (b5 : Addr) (b6 : Addr) (p1 : Fld Z h0 b1 cU "sinkEnd" "I" (.int 0)) (p2 : Fld Z h0 b1 cU "sinkGoesWithout" "Z" (.int 1)) (p3 : Fld Z h0 b1 cU "holder" "[I" (.ref b2)) (p4 : oAr Z h0 b2 .int [.int 0, .int (-1)]) (p5 : Exa Z h0 b1 cU) (p6 : Fld Z h0 b1 cU "displaced" "I" (.int (-1))) (p7 : n0 ≤ b1) (p8 : Fld Z h0 b1 cU "held" "[I" (.ref b3)) (p9 : oAr Z h0 b3 .int [.int 0, .int (-1), .int (-1)]) (p10 : b3 ≠ b1) (p11 : n0 ≤ b3) (p12 : Fld Z h0 b1 cU "changed" "[Z" (.ref b4)) (p13 : oAr Z h0 b4 .boolean [.int 1, .int 0]) (p14 : b1 ≠ b3) (p15 : b4 ≠ b1) (p16 : b4 ≠ b3) (p17 : Fld Z h0 b1 cU "pred" "[I" (.ref b5)) (p18 : oAr Z h0 b5 .int [.int (-1), .int 0]) (p19 : b5 ≠ b1) (p20 : b5 ≠ b3) (p21 : b2 ≠ b1) (p22 : b2 ≠ b3) (p23 : n0 ≤ b2) (p24 : b1 ≠ b2) (p25 : Fld Z h0 b1 cU "predOffer" "[I" (.ref b6)) (p26 : oAr Z h0 b6 .int [.int 1, .int 0]) (p27 : b6 ≠ b1) (p28 : b6 ≠ b3) (p29 : b6 ≠ b2) (p30 : b3 ≠ b2) :
    oMet l Z (⟨cU, "handOver", "(I)V"⟩ : MethodName) prog_54_method_22_code 5 none [] ({ frames := 1, cells := 0, slots := 0, locals := 13 } : Room) 0 0 n0 #[.ref b1, .int 1] h0 (fun v h => v = none ∧ oKe h0 h [b3, b2] [(b1, Jvm.RoadKit.slotOf Z cU "displaced" "I")] ∧ oAr Z h b2 .int [.int 1, .int (-1)] ∧ Fld Z h b1 cU "displaced" "I" (.int 0) ∧ oAr Z h b3 .int [.int (-1), .int 1, .int (-1)]) := by
  refine oMet.intro (plainFor_of_name pn_944982) (fun m => ef_21 m b1 (1 : Int32)) ?_
  intro op oe os m obl omt ocd C
  refine oAloadN C d21_0 rfl rfl rfl ?_
  refine oGetF C (w93 hw) Via.refl p1 d21_1 rfl ?_
  refine oIstoreN C d21_4 (Ls' := #[.val (.ref b1), .val (.int 1), .val (.int 0), .unset, .unset]) rfl (q := 5) rfl ?_
  refine oIloadN C d21_5 rfl rfl ?_
  refine oIconst C d21_6 (z := (-1)) rfl rfl ?_
  refine oIcmp_ne C d21_7 (q := 11) (by decide) (by decide) (r := 10) rfl (fun hc7 => ?_) (fun hq => absurd hq ((by decide)))
  refine oAloadN C d21_11 rfl rfl rfl ?_
  refine oGetF C (w95 hw) Via.refl p2 d21_12 rfl ?_
  refine oIf_eq C d21_15 (q := 38) (by decide) (by decide) (r := 18) rfl (fun hq => absurd hq ((by decide))) (fun hc15 => ?_)
  refine oAloadN C d21_18 rfl rfl rfl ?_
  refine oAloadN C d21_19 rfl rfl rfl ?_
  refine oGetF C (w24 hw) Via.refl p3 d21_20 rfl ?_
  refine oIloadN C d21_23 rfl rfl ?_
  refine oIaload C p4 (by decide) (k := 0) rfl (v := .int 0) rfl d21_24 rfl ?_
  refine oPutF C (w12 hw) Via.refl p6 p5 (Or.inl (w13 hw)) (w4 hw) (ty := .int) (by decide) rfl rfl d21_25 rfl p7 fun h1 W1 => ?_
  have f1w := Fld.same W1 p6
  refine oAloadN C d21_28 rfl rfl rfl ?_
  have f2 := (Fld.other W1 p8 (Or.inr (oSn0 hw 9 0)))
  refine oGetF C (w34 hw) Via.refl f2 d21_29 rfl ?_
  refine oAloadN C d21_32 rfl rfl rfl ?_
  refine oGetF C (w12 hw) Via.refl f1w d21_33 rfl ?_
  refine oIconst C d21_36 (z := (-1)) rfl rfl ?_
  have f3 := (p9.other W1 p10)
  refine oIastore C f3 (by decide) (k := 0) rfl (v := .int 0) rfl (v' := .int (-1)) rfl d21_37 rfl p11 fun h4 W4 A4 => ?_
  have A4l : oAr Z h4 b3 .int [.int (-1), .int (-1), .int (-1)] := A4
  refine oAloadN C d21_38 rfl rfl rfl ?_
  refine oIloadN C d21_39 rfl rfl ?_
  have f5 := (Fld.other W4 (Fld.other W1 p12 (Or.inr (oSn0 hw 19 0))) (Or.inl p14))
  have f6 := ((p13.other W1 p15).other W4 p16)
  have f8 := (Exa.wr W4 (Exa.wr W1 p5))
  have z9 := (Nat.le_trans (Nat.le_trans Z0 (Nat.le_of_eq W1.size.symm)) (Nat.le_of_eq W4.size.symm))
  refine oCallP C (w140 hw) (w142 hw) (w4 hw) (w141 hw) (w5 hw) (w143 hw) d21_40 f8 (by decide) pd_674841 rfl rfl (a := b1) (argsL := [.int 0]) (rest := []) rfl (W := 0) rfl (q := 43) rfl (by decide) (by decide) (by decide) (by decide) (ac20_30 l Z a0 hw _ n0 z9 b1 b4 f5 f6) (oVQ ?_)
  rintro h7 K7
  refine oAloadN C d21_43 rfl rfl rfl ?_
  have f10 := (K7.fld (Fld.other W4 (Fld.other W1 p17 (Or.inr (oSn0 hw 13 0))) (Or.inl p14)) nin0 oN0)
  refine oGetF C (w42 hw) Via.refl f10 d21_44 rfl ?_
  refine oIloadN C d21_47 rfl rfl ?_
  have f11 := (K7.arr ((p18.other W1 p19).other W4 p20) nin0 oA0)
  refine oIaload C f11 (by decide) (k := 0) rfl (v := .int (-1)) rfl d21_48 rfl ?_
  refine oIstoreN C d21_49 (Ls' := #[.val (.ref b1), .val (.int 1), .val (.int 0), .val (.int (-1)), .unset]) rfl (q := 50) rfl ?_
  refine oIloadN C d21_50 rfl rfl ?_
  refine oIconst C d21_51 (z := (-1)) rfl rfl ?_
  refine oIcmp_ne C d21_52 (q := 59) (by decide) (by decide) (r := 55) rfl (fun hq => absurd hq ((by decide))) (fun hc52 => ?_)
  refine oIloadN C d21_55 rfl rfl ?_
  refine oGoto C d21_56 (q := 65) (by decide) (by decide) ?_
  refine oIstore C d21_65 (Ls' := #[.val (.ref b1), .val (.int 1), .val (.int 0), .val (.int (-1)), .val (.int 1)]) rfl (q := 67) rfl ?_
  refine oAloadN C d21_67 rfl rfl rfl ?_
  have f12 := (K7.fld (Fld.other W4 (Fld.other W1 p3 (Or.inr (oSn0 hw 6 0))) (Or.inl p14)) nin0 oN0)
  refine oGetF C (w24 hw) Via.refl f12 d21_68 rfl ?_
  refine oIloadN C d21_71 rfl rfl ?_
  refine oIload C d21_72 rfl rfl ?_
  have f13 := (K7.arr ((p4.other W1 p21).other W4 p22) nin0 oA0)
  refine oIastore C f13 (by decide) (k := 0) rfl (v := .int 0) rfl (v' := .int 1) rfl d21_74 rfl p23 fun h14 W14 A14 => ?_
  have A14l : oAr Z h14 b2 .int [.int 1, .int (-1)] := A14
  refine oAloadN C d21_75 rfl rfl rfl ?_
  have f15 := (Fld.other W14 (K7.fld (Fld.other W4 f2 (Or.inl p14)) nin0 oN0) (Or.inl p24))
  refine oGetF C (w34 hw) Via.refl f15 d21_76 rfl ?_
  refine oIload C d21_79 rfl rfl ?_
  refine oAloadN C d21_81 rfl rfl rfl ?_
  have f16 := (Fld.other W14 (K7.fld (Fld.other W4 (Fld.other W1 p25 (Or.inr (oSn0 hw 14 0))) (Or.inl p14)) nin0 oN0) (Or.inl p24))
  refine oGetF C (w44 hw) Via.refl f16 d21_82 rfl ?_
  refine oIloadN C d21_85 rfl rfl ?_
  have f17 := ((K7.arr ((p26.other W1 p27).other W4 p28) nin0 oA0).other W14 p29)
  refine oIaload C f17 (by decide) (k := 0) rfl (v := .int 1) rfl d21_86 rfl ?_
  have f18 := ((K7.arr A4l nin0 oA0).other W14 p30)
  refine oIastore C f18 (by decide) (k := 1) rfl (v := .int (-1)) rfl (v' := .int 1) rfl d21_87 rfl p11 fun h19 W19 A19 => ?_
  have A19l : oAr Z h19 b3 .int [.int (-1), .int 1, .int (-1)] := A19
  refine oIloadN C d21_88 rfl rfl ?_
  refine oIconst C d21_89 (z := (-1)) rfl rfl ?_
  refine oIcmp_ne C d21_90 (q := 94) (by decide) (by decide) (r := 93) rfl (fun hq => absurd hq ((by decide))) (fun hc90 => ?_)
  refine oRetV C d21_93 (by decide) (by decide) ?_
  have f20 := (A14l.other W19 p22)
  have f21 := (Fld.other W19 (Fld.other W14 (K7.fld (Fld.other W4 f1w (Or.inl p14)) nin0 oN0) (Or.inl p24)) (Or.inl p14))
  exact ⟨rfl, ((((((oKe.refl h0 [b3, b2] [(b1, Jvm.RoadKit.slotOf Z cU "displaced" "I")]).wrF W1 (Or.inl (List.mem_of_getElem? (i := 0) rfl))).wrA W4 (Or.inl (List.mem_of_getElem? (i := 0) rfl))).trans K7 all0 oA0).wrA W14 (Or.inl (List.mem_of_getElem? (i := 1) rfl))).wrA W19 (Or.inl (List.mem_of_getElem? (i := 0) rfl))), f20, f21, A19l⟩
theorem d8_0 : decode prog_54_method_14_code 0 = .ok (.aload_n 0, 1) := by decide +kernel
theorem d8_1 : decode prog_54_method_14_code 1 = .ok (.iconst (-1), 1) := by decide +kernel
theorem d8_2 : decode prog_54_method_14_code 2 = .ok (.putfield 9, 3) := by decide +kernel
theorem d8_5 : decode prog_54_method_14_code 5 = .ok (.lconst 0, 1) := by decide +kernel
theorem d8_6 : decode prog_54_method_14_code 6 = .ok (.lstore_n 2, 1) := by decide +kernel
theorem d8_7 : decode prog_54_method_14_code 7 = .ok (.lconst 0, 1) := by decide +kernel
theorem d8_8 : decode prog_54_method_14_code 8 = .ok (.lstore 4, 2) := by decide +kernel
theorem d8_10 : decode prog_54_method_14_code 10 = .ok (.aload_n 0, 1) := by decide +kernel
theorem d8_11 : decode prog_54_method_14_code 11 = .ok (.getfield 13, 3) := by decide +kernel
theorem d8_14 : decode prog_54_method_14_code 14 = .ok (.iload_n 1, 1) := by decide +kernel
theorem d8_15 : decode prog_54_method_14_code 15 = .ok (.iaload, 1) := by decide +kernel
theorem d8_16 : decode prog_54_method_14_code 16 = .ok (.istore 6, 2) := by decide +kernel
theorem d8_18 : decode prog_54_method_14_code 18 = .ok (.iload 6, 2) := by decide +kernel
theorem d8_20 : decode prog_54_method_14_code 20 = .ok (.aload_n 0, 1) := by decide +kernel
theorem d8_21 : decode prog_54_method_14_code 21 = .ok (.getfield 13, 3) := by decide +kernel
theorem d8_24 : decode prog_54_method_14_code 24 = .ok (.iload_n 1, 1) := by decide +kernel
theorem d8_25 : decode prog_54_method_14_code 25 = .ok (.iconst 1, 1) := by decide +kernel
theorem d8_26 : decode prog_54_method_14_code 26 = .ok (.iadd, 1) := by decide +kernel
theorem d8_27 : decode prog_54_method_14_code 27 = .ok (.iaload, 1) := by decide +kernel
theorem d8_28 : decode prog_54_method_14_code 28 = .ok (.if_icmp .ge 83, 3) := by decide +kernel
theorem d8_31 : decode prog_54_method_14_code 31 = .ok (.aload_n 0, 1) := by decide +kernel
theorem d8_32 : decode prog_54_method_14_code 32 = .ok (.getfield 20, 3) := by decide +kernel
theorem d8_35 : decode prog_54_method_14_code 35 = .ok (.iload 6, 2) := by decide +kernel
theorem d8_37 : decode prog_54_method_14_code 37 = .ok (.laload, 1) := by decide +kernel
theorem d8_38 : decode prog_54_method_14_code 38 = .ok (.lconst 0, 1) := by decide +kernel
theorem d8_39 : decode prog_54_method_14_code 39 = .ok (.lcmp, 1) := by decide +kernel
theorem d8_40 : decode prog_54_method_14_code 40 = .ok (.ifCond .ge 6, 3) := by decide +kernel
theorem d8_46 : decode prog_54_method_14_code 46 = .ok (.aload_n 0, 1) := by decide +kernel
theorem d8_47 : decode prog_54_method_14_code 47 = .ok (.getfield 17, 3) := by decide +kernel
theorem d8_50 : decode prog_54_method_14_code 50 = .ok (.iload 6, 2) := by decide +kernel
theorem d8_52 : decode prog_54_method_14_code 52 = .ok (.iaload, 1) := by decide +kernel
theorem d8_53 : decode prog_54_method_14_code 53 = .ok (.istore 7, 2) := by decide +kernel
theorem d8_55 : decode prog_54_method_14_code 55 = .ok (.aload_n 0, 1) := by decide +kernel
theorem d8_56 : decode prog_54_method_14_code 56 = .ok (.getfield 20, 3) := by decide +kernel
theorem d8_59 : decode prog_54_method_14_code 59 = .ok (.iload 6, 2) := by decide +kernel
theorem d8_61 : decode prog_54_method_14_code 61 = .ok (.laload, 1) := by decide +kernel
theorem d8_62 : decode prog_54_method_14_code 62 = .ok (.aload_n 0, 1) := by decide +kernel
theorem d8_63 : decode prog_54_method_14_code 63 = .ok (.getfield 24, 3) := by decide +kernel
theorem d8_66 : decode prog_54_method_14_code 66 = .ok (.iload 7, 2) := by decide +kernel
theorem d8_68 : decode prog_54_method_14_code 68 = .ok (.laload, 1) := by decide +kernel
theorem d8_69 : decode prog_54_method_14_code 69 = .ok (.invokestatic 102, 3) := by decide +kernel
theorem d8_72 : decode prog_54_method_14_code 72 = .ok (.lstore 8, 2) := by decide +kernel
theorem d8_74 : decode prog_54_method_14_code 74 = .ok (.lconst 1, 1) := by decide +kernel
theorem d8_75 : decode prog_54_method_14_code 75 = .ok (.aload_n 0, 1) := by decide +kernel
theorem d8_76 : decode prog_54_method_14_code 76 = .ok (.getfield 27, 3) := by decide +kernel
theorem d8_79 : decode prog_54_method_14_code 79 = .ok (.iload 7, 2) := by decide +kernel
theorem d8_81 : decode prog_54_method_14_code 81 = .ok (.laload, 1) := by decide +kernel
theorem d8_82 : decode prog_54_method_14_code 82 = .ok (.lsub, 1) := by decide +kernel
theorem d8_83 : decode prog_54_method_14_code 83 = .ok (.lstore 10, 2) := by decide +kernel
theorem d8_85 : decode prog_54_method_14_code 85 = .ok (.lload 8, 2) := by decide +kernel
theorem d8_87 : decode prog_54_method_14_code 87 = .ok (.lload 10, 2) := by decide +kernel
theorem d8_89 : decode prog_54_method_14_code 89 = .ok (.lload_n 2, 1) := by decide +kernel
theorem d8_90 : decode prog_54_method_14_code 90 = .ok (.lload 4, 2) := by decide +kernel
theorem d8_92 : decode prog_54_method_14_code 92 = .ok (.invokestatic 107, 3) := by decide +kernel
theorem d8_95 : decode prog_54_method_14_code 95 = .ok (.ifCond .le 10, 3) := by decide +kernel
theorem d8_98 : decode prog_54_method_14_code 98 = .ok (.lload 8, 2) := by decide +kernel
theorem d8_100 : decode prog_54_method_14_code 100 = .ok (.lstore_n 2, 1) := by decide +kernel
theorem d8_101 : decode prog_54_method_14_code 101 = .ok (.lload 10, 2) := by decide +kernel
theorem d8_103 : decode prog_54_method_14_code 103 = .ok (.lstore 4, 2) := by decide +kernel
theorem d8_105 : decode prog_54_method_14_code 105 = .ok (.iinc 6 1, 3) := by decide +kernel
theorem d8_108 : decode prog_54_method_14_code 108 = .ok (.goto (-90), 3) := by decide +kernel
theorem d8_111 : decode prog_54_method_14_code 111 = .ok (.lload_n 2, 1) := by decide +kernel
theorem d8_112 : decode prog_54_method_14_code 112 = .ok (.lconst 0, 1) := by decide +kernel
theorem d8_113 : decode prog_54_method_14_code 113 = .ok (.lcmp, 1) := by decide +kernel
theorem d8_114 : decode prog_54_method_14_code 114 = .ok (.ifCond .ne 11, 3) := by decide +kernel
theorem d8_125 : decode prog_54_method_14_code 125 = .ok (.aload_n 0, 1) := by decide +kernel
theorem d8_126 : decode prog_54_method_14_code 126 = .ok (.dup, 1) := by decide +kernel
theorem d8_127 : decode prog_54_method_14_code 127 = .ok (.getfield 89, 3) := by decide +kernel
theorem d8_130 : decode prog_54_method_14_code 130 = .ok (.iconst 1, 1) := by decide +kernel
theorem d8_131 : decode prog_54_method_14_code 131 = .ok (.iadd, 1) := by decide +kernel
theorem d8_132 : decode prog_54_method_14_code 132 = .ok (.putfield 89, 3) := by decide +kernel
theorem d8_135 : decode prog_54_method_14_code 135 = .ok (.aload_n 0, 1) := by decide +kernel
theorem d8_136 : decode prog_54_method_14_code 136 = .ok (.iload_n 1, 1) := by decide +kernel
theorem d8_137 : decode prog_54_method_14_code 137 = .ok (.lload_n 2, 1) := by decide +kernel
theorem d8_138 : decode prog_54_method_14_code 138 = .ok (.lload 4, 2) := by decide +kernel
theorem d8_140 : decode prog_54_method_14_code 140 = .ok (.invokevirtual 125, 3) := by decide +kernel
theorem d8_143 : decode prog_54_method_14_code 143 = .ok (.aload_n 0, 1) := by decide +kernel
theorem d8_144 : decode prog_54_method_14_code 144 = .ok (.iload_n 1, 1) := by decide +kernel
theorem d8_145 : decode prog_54_method_14_code 145 = .ok (.lload_n 2, 1) := by decide +kernel
theorem d8_146 : decode prog_54_method_14_code 146 = .ok (.lload 4, 2) := by decide +kernel
theorem d8_148 : decode prog_54_method_14_code 148 = .ok (.invokevirtual 129, 3) := by decide +kernel
theorem d8_151 : decode prog_54_method_14_code 151 = .ok (.aload_n 0, 1) := by decide +kernel
theorem d8_152 : decode prog_54_method_14_code 152 = .ok (.iload_n 1, 1) := by decide +kernel
theorem d8_153 : decode prog_54_method_14_code 153 = .ok (.invokevirtual 132, 3) := by decide +kernel
theorem d8_156 : decode prog_54_method_14_code 156 = .ok (.iconst 0, 1) := by decide +kernel
theorem d8_157 : decode prog_54_method_14_code 157 = .ok (.istore 6, 2) := by decide +kernel
theorem d8_159 : decode prog_54_method_14_code 159 = .ok (.iload 6, 2) := by decide +kernel
theorem d8_161 : decode prog_54_method_14_code 161 = .ok (.aload_n 0, 1) := by decide +kernel
theorem d8_162 : decode prog_54_method_14_code 162 = .ok (.getfield 136, 3) := by decide +kernel
theorem d8_165 : decode prog_54_method_14_code 165 = .ok (.if_icmp .ge 22, 3) := by decide +kernel
theorem d8_168 : decode prog_54_method_14_code 168 = .ok (.aload_n 0, 1) := by decide +kernel
theorem d8_169 : decode prog_54_method_14_code 169 = .ok (.getfield 63, 3) := by decide +kernel
theorem d8_172 : decode prog_54_method_14_code 172 = .ok (.aload_n 0, 1) := by decide +kernel
theorem d8_173 : decode prog_54_method_14_code 173 = .ok (.getfield 73, 3) := by decide +kernel
theorem d8_176 : decode prog_54_method_14_code 176 = .ok (.iload 6, 2) := by decide +kernel
theorem d8_178 : decode prog_54_method_14_code 178 = .ok (.iaload, 1) := by decide +kernel
theorem d8_179 : decode prog_54_method_14_code 179 = .ok (.iconst 0, 1) := by decide +kernel
theorem d8_180 : decode prog_54_method_14_code 180 = .ok (.bastore, 1) := by decide +kernel
theorem d8_181 : decode prog_54_method_14_code 181 = .ok (.iinc 6 1, 3) := by decide +kernel
theorem d8_184 : decode prog_54_method_14_code 184 = .ok (.goto (-25), 3) := by decide +kernel
theorem d8_187 : decode prog_54_method_14_code 187 = .ok (.aload_n 0, 1) := by decide +kernel
theorem d8_188 : decode prog_54_method_14_code 188 = .ok (.iconst 0, 1) := by decide +kernel
theorem d8_189 : decode prog_54_method_14_code 189 = .ok (.putfield 136, 3) := by decide +kernel
theorem d8_192 : decode prog_54_method_14_code 192 = .ok (.aload_n 0, 1) := by decide +kernel
theorem d8_193 : decode prog_54_method_14_code 193 = .ok (.iconst 0, 1) := by decide +kernel
theorem d8_194 : decode prog_54_method_14_code 194 = .ok (.putfield 139, 3) := by decide +kernel
theorem d8_197 : decode prog_54_method_14_code 197 = .ok (.return_, 1) := by decide +kernel
set_option maxRecDepth 65536 in
set_option maxHeartbeats 40000000 in
theorem ac8_32 (l : Launch) (Z : State) (a0 : Array Value) (hw : oHw a0 Z) (h0 : Heap) (n0 : Nat) (Z0 : n0 ≤ h0.size) (b1 : Addr) (b2 : Addr) (b3 : Addr) (y4 : Int64) (y5 : Int64) (y6 : Int64) (b7 : Addr) (b8 : Addr) (b9 : Addr) (b10 : Addr) (b11 : Addr) (b12 : Addr) (b13 : Addr) (b14 : Addr) (b15 : Addr) (b16 : Addr) (b17 : Addr) (b18 : Addr) (b19 : Addr) (b20 : Addr) (b21 : Addr) (b22 : Addr) (b23 : Addr) (b24 : Addr) (p1 : Exa Z h0 b1 cU) (p2 : Fld Z h0 b1 cU "displaced" "I" (.int (-1))) (p3 : n0 ≤ b1) (p4 : Fld Z h0 b1 cU "offerStart" "[I" (.ref b2)) (p5 : oAr Z h0 b2 .int [.int 0, .int 1, .int 2, .int 3]) (p6 : b2 ≠ b1) (p7 : Fld Z h0 b1 cU "offerWeight" "[J" (.ref b3)) (p8 : oAr Z h0 b3 .long [.long y4, .long y5, .long y6]) (p9 : b3 ≠ b1) (p10 : ¬ y5 < (0 : Int64)) (p11 : Fld Z h0 b1 cU "offerItem" "[I" (.ref b7)) (p12 : oAr Z h0 b7 .int [.int 0, .int 0, .int 0]) (p13 : b7 ≠ b1) (p14 : Fld Z h0 b1 cU "priceMoney" "[J" (.ref b8)) (p15 : oAr Z h0 b8 .long [.long 0, .long 0]) (p16 : b8 ≠ b1) (p17 : ¬ ((y5 ^^^ (0 : Int64)) &&& (y5 ^^^ (y5 - (0 : Int64)))) < (0 : Int64)) (p18 : Fld Z h0 b1 cU "priceSales" "[J" (.ref b9)) (p19 : oAr Z h0 b9 .long [.long 0, .long 0]) (p20 : b9 ≠ b1) (p21 : ¬ y5 = (0 : Int64)) (p22 : Fld Z h0 b1 cU "searches" "I" (.int 0)) (p23 : Fld Z h0 b1 cU "sinkMoney" "J" (.long 0)) (p24 : Fld Z h0 b1 cU "sinkSales" "J" (.long 0)) (p25 : Fld Z h0 b1 cU "sinkMoves" "I" (.int 0)) (p26 : Fld Z h0 b1 cU "sinkEnd" "I" (.int 0)) (p27 : Fld Z h0 b1 cU "sinkGoesWithout" "Z" (.int 0)) (p28 : Fld Z h0 b1 cU "mark" "[B" (.ref b10)) (p29 : oAr Z h0 b10 .byte [.int 0, .int 0]) (p30 : Fld Z h0 b1 cU "touched" "[I" (.ref b11)) (p31 : Fld Z h0 b1 cU "touchedCount" "I" (.int 0)) (p32 : oAr Z h0 b11 .int [.int 0, .int 0]) (p33 : Fld Z h0 b1 cU "distMoney" "[J" (.ref b12)) (p34 : oAr Z h0 b12 .long [.long 0, .long 0]) (p35 : Fld Z h0 b1 cU "distSales" "[J" (.ref b13)) (p36 : oAr Z h0 b13 .long [.long 0, .long 0]) (p37 : Fld Z h0 b1 cU "hops" "[I" (.ref b14)) (p38 : oAr Z h0 b14 .int [.int 0, .int 0]) (p39 : Fld Z h0 b1 cU "pred" "[I" (.ref b15)) (p40 : oAr Z h0 b15 .int [.int 0, .int 0]) (p41 : Fld Z h0 b1 cU "predOffer" "[I" (.ref b16)) (p42 : oAr Z h0 b16 .int [.int 0, .int 0]) (p43 : Fld Z h0 b1 cU "heapSize" "I" (.int 0)) (p44 : Fld Z h0 b1 cU "heap" "[I" (.ref b17)) (p45 : oAr Z h0 b17 .int [.int 0, .int 0]) (p46 : Fld Z h0 b1 cU "heapIndex" "[I" (.ref b18)) (p47 : oAr Z h0 b18 .int [.int 0, .int 0]) (p48 : Fld Z h0 b1 cU "holder" "[I" (.ref b19)) (p49 : oAr Z h0 b19 .int [.int 0, .int (-1)]) (p50 : Fld Z h0 b1 cU "utilityMoney" "[J" (.ref b20)) (p51 : oAr Z h0 b20 .long [.long y4, .long 0, .long 0]) (p52 : Fld Z h0 b1 cU "utilitySales" "[J" (.ref b21)) (p53 : oAr Z h0 b21 .long [.long 1, .long 0, .long 0]) (p54 : ¬ ((y5 ^^^ (y5 + (0 : Int64))) &&& ((0 : Int64) ^^^ (y5 + (0 : Int64)))) < (0 : Int64)) (p55 : ¬ ((y5 ^^^ y5) &&& (y5 ^^^ (y5 - y5))) < (0 : Int64)) (p56 : b10 ≠ b1) (p57 : b11 ≠ b1) (p58 : b12 ≠ b1) (p59 : b13 ≠ b1) (p60 : b14 ≠ b1) (p61 : b15 ≠ b1) (p62 : b16 ≠ b1) (p63 : b17 ≠ b1) (p64 : b18 ≠ b1) (p65 : (0 : Int64) < y5) (p66 : n0 ≤ b10) (p67 : b1 ≠ b10) (p68 : b11 ≠ b10) (p69 : n0 ≤ b11) (p70 : b1 ≠ b11) (p71 : b12 ≠ b10) (p72 : b12 ≠ b11) (p73 : n0 ≤ b12) (p74 : b1 ≠ b12) (p75 : b13 ≠ b10) (p76 : b13 ≠ b11) (p77 : b13 ≠ b12) (p78 : n0 ≤ b13) (p79 : b1 ≠ b13) (p80 : b14 ≠ b10) (p81 : b14 ≠ b11) (p82 : b14 ≠ b12) (p83 : b14 ≠ b13) (p84 : n0 ≤ b14) (p85 : b1 ≠ b14) (p86 : b15 ≠ b10) (p87 : b15 ≠ b11) (p88 : b15 ≠ b12) (p89 : b15 ≠ b13) (p90 : b15 ≠ b14) (p91 : n0 ≤ b15) (p92 : b1 ≠ b15) (p93 : b16 ≠ b10) (p94 : b16 ≠ b11) (p95 : b16 ≠ b12) (p96 : b16 ≠ b13) (p97 : b16 ≠ b14) (p98 : b16 ≠ b15) (p99 : n0 ≤ b16) (p100 : b12 ≠ b13) (p101 : b12 ≠ b14) (p102 : b12 ≠ b15) (p103 : b12 ≠ b16) (p104 : b13 ≠ b14) (p105 : b13 ≠ b15) (p106 : b13 ≠ b16) (p107 : b14 ≠ b15) (p108 : b14 ≠ b16) (p109 : b15 ≠ b16) (p110 : b1 ≠ b16) (p111 : b17 ≠ b10) (p112 : b17 ≠ b11) (p113 : b17 ≠ b16) (p114 : b17 ≠ b15) (p115 : b17 ≠ b14) (p116 : b17 ≠ b13) (p117 : b17 ≠ b12) (p118 : b18 ≠ b10) (p119 : b18 ≠ b11) (p120 : b18 ≠ b16) (p121 : b18 ≠ b15) (p122 : b18 ≠ b14) (p123 : b18 ≠ b13) (p124 : b18 ≠ b12) (p125 : n0 ≤ b17) (p126 : b1 ≠ b17) (p127 : b18 ≠ b17) (p128 : n0 ≤ b18) (p129 : b17 ≠ b18) (p130 : b10 ≠ b11) (p131 : b10 ≠ b16) (p132 : b10 ≠ b15) (p133 : b10 ≠ b14) (p134 : b10 ≠ b13) (p135 : b10 ≠ b12) (p136 : b10 ≠ b18) (p137 : b10 ≠ b17) (p138 : b1 ≠ b18) (p139 : b11 ≠ b16) (p140 : b11 ≠ b15) (p141 : b11 ≠ b14) (p142 : b11 ≠ b13) (p143 : b11 ≠ b12) (p144 : b11 ≠ b18) (p145 : b11 ≠ b17) (p146 : b12 ≠ b18) (p147 : b12 ≠ b17) (p148 : b13 ≠ b18) (p149 : b13 ≠ b17) (p150 : b14 ≠ b18) (p151 : b14 ≠ b17) (p152 : b15 ≠ b18) (p153 : b15 ≠ b17) (p154 : b16 ≠ b18) (p155 : b16 ≠ b17) (p156 : b2 ≠ b18) (p157 : b2 ≠ b17) (p158 : b2 ≠ b16) (p159 : b2 ≠ b15) (p160 : b2 ≠ b14) (p161 : b2 ≠ b13) (p162 : b2 ≠ b12) (p163 : b2 ≠ b11) (p164 : b2 ≠ b10) (p165 : b19 ≠ b1) (p166 : b19 ≠ b18) (p167 : b19 ≠ b17) (p168 : b19 ≠ b16) (p169 : b19 ≠ b15) (p170 : b19 ≠ b14) (p171 : b19 ≠ b13) (p172 : b19 ≠ b12) (p173 : b19 ≠ b11) (p174 : b19 ≠ b10) (p175 : b20 ≠ b1) (p176 : b20 ≠ b18) (p177 : b20 ≠ b17) (p178 : b20 ≠ b16) (p179 : b20 ≠ b15) (p180 : b20 ≠ b14) (p181 : b20 ≠ b13) (p182 : b20 ≠ b12) (p183 : b20 ≠ b11) (p184 : b20 ≠ b10) (p185 : ¬ (((0 : Int64) ^^^ ((0 : Int64) + y4)) &&& (y4 ^^^ ((0 : Int64) + y4))) < (0 : Int64)) (p186 : b21 ≠ b1) (p187 : b21 ≠ b18) (p188 : b21 ≠ b17) (p189 : b21 ≠ b16) (p190 : b21 ≠ b15) (p191 : b21 ≠ b14) (p192 : b21 ≠ b13) (p193 : b21 ≠ b12) (p194 : b21 ≠ b11) (p195 : b21 ≠ b10) (p196 : y4 < y5) (p197 : b7 ≠ b18) (p198 : b7 ≠ b17) (p199 : b7 ≠ b16) (p200 : b7 ≠ b15) (p201 : b7 ≠ b14) (p202 : b7 ≠ b13) (p203 : b7 ≠ b12) (p204 : b7 ≠ b11) (p205 : b7 ≠ b10) (p206 : Fld Z h0 b1 cU "changed" "[Z" (.ref b22)) (p207 : oAr Z h0 b22 .boolean [.int 0, .int 0]) (p208 : Fld Z h0 b1 cU "changedItems" "[I" (.ref b23)) (p209 : Fld Z h0 b1 cU "changedCount" "I" (.int 0)) (p210 : oAr Z h0 b23 .int [.int 0, .int 0]) (p211 : ¬ ((y4 ^^^ (0 : Int64)) &&& (y4 ^^^ (y4 - (0 : Int64)))) < (0 : Int64)) (p212 : b22 ≠ b1) (p213 : b22 ≠ b18) (p214 : b22 ≠ b17) (p215 : b22 ≠ b16) (p216 : b22 ≠ b15) (p217 : b22 ≠ b14) (p218 : b22 ≠ b13) (p219 : b22 ≠ b12) (p220 : b22 ≠ b11) (p221 : b22 ≠ b10) (p222 : b23 ≠ b1) (p223 : b23 ≠ b18) (p224 : b23 ≠ b17) (p225 : b23 ≠ b16) (p226 : b23 ≠ b15) (p227 : b23 ≠ b14) (p228 : b23 ≠ b13) (p229 : b23 ≠ b12) (p230 : b23 ≠ b11) (p231 : b23 ≠ b10) (p232 : n0 ≤ b22) (p233 : b1 ≠ b22) (p234 : b23 ≠ b22) (p235 : n0 ≤ b23) (p236 : b22 ≠ b23) (p237 : b1 ≠ b23) (p238 : b8 ≠ b18) (p239 : b8 ≠ b17) (p240 : b8 ≠ b16) (p241 : b8 ≠ b15) (p242 : b8 ≠ b14) (p243 : b8 ≠ b13) (p244 : b8 ≠ b12) (p245 : b8 ≠ b11) (p246 : b8 ≠ b10) (p247 : b8 ≠ b23) (p248 : b8 ≠ b22) (p249 : n0 ≤ b8) (p250 : b1 ≠ b8) (p251 : b9 ≠ b18) (p252 : b9 ≠ b17) (p253 : b9 ≠ b16) (p254 : b9 ≠ b15) (p255 : b9 ≠ b14) (p256 : b9 ≠ b13) (p257 : b9 ≠ b12) (p258 : b9 ≠ b11) (p259 : b9 ≠ b10) (p260 : b9 ≠ b23) (p261 : b9 ≠ b22) (p262 : b9 ≠ b8) (p263 : n0 ≤ b9) (p264 : b1 ≠ b9) (p265 : b19 ≠ b23) (p266 : b19 ≠ b22) (p267 : b19 ≠ b8) (p268 : b19 ≠ b9) (p269 : b20 ≠ b23) (p270 : b20 ≠ b22) (p271 : b20 ≠ b8) (p272 : b20 ≠ b9) (p273 : n0 ≤ b20) (p274 : b1 ≠ b20) (p275 : b21 ≠ b23) (p276 : b21 ≠ b22) (p277 : b21 ≠ b8) (p278 : b21 ≠ b9) (p279 : b21 ≠ b20) (p280 : n0 ≤ b21) (p281 : b1 ≠ b21) (p282 : b20 ≠ b21) (p283 : b22 ≠ b8) (p284 : b22 ≠ b9) (p285 : b22 ≠ b20) (p286 : b22 ≠ b21) (p287 : b23 ≠ b8) (p288 : b23 ≠ b9) (p289 : b23 ≠ b20) (p290 : b23 ≠ b21) (p291 : b8 ≠ b9) (p292 : b8 ≠ b20) (p293 : b8 ≠ b21) (p294 : b9 ≠ b20) (p295 : b9 ≠ b21) (p296 : Fld Z h0 b1 cU "held" "[I" (.ref b24)) (p297 : oAr Z h0 b24 .int [.int 0, .int (-1), .int (-1)]) (p298 : b19 ≠ b21) (p299 : b19 ≠ b20) (p300 : b24 ≠ b1) (p301 : b24 ≠ b18) (p302 : b24 ≠ b17) (p303 : b24 ≠ b16) (p304 : b24 ≠ b15) (p305 : b24 ≠ b14) (p306 : b24 ≠ b13) (p307 : b24 ≠ b12) (p308 : b24 ≠ b11) (p309 : b24 ≠ b10) (p310 : b24 ≠ b21) (p311 : b24 ≠ b20) (p312 : b24 ≠ b9) (p313 : b24 ≠ b8) (p314 : b24 ≠ b23) (p315 : b24 ≠ b22) (p316 : n0 ≤ b24) (p317 : b1 ≠ b24) (p318 : b22 ≠ b24) (p319 : b15 ≠ b21) (p320 : b15 ≠ b20) (p321 : b15 ≠ b9) (p322 : b15 ≠ b8) (p323 : b15 ≠ b23) (p324 : b15 ≠ b22) (p325 : b15 ≠ b24) (p326 : b19 ≠ b24) (p327 : n0 ≤ b19) (p328 : b1 ≠ b19) (p329 : b16 ≠ b21) (p330 : b16 ≠ b20) (p331 : b16 ≠ b9) (p332 : b16 ≠ b8) (p333 : b16 ≠ b23) (p334 : b16 ≠ b22) (p335 : b16 ≠ b24) (p336 : b16 ≠ b19) (p337 : b24 ≠ b19) (p338 : b11 ≠ b21) (p339 : b11 ≠ b20) (p340 : b11 ≠ b9) (p341 : b11 ≠ b8) (p342 : b11 ≠ b23) (p343 : b11 ≠ b22) (p344 : b11 ≠ b19) (p345 : b11 ≠ b24) (p346 : b10 ≠ b21) (p347 : b10 ≠ b20) (p348 : b10 ≠ b9) (p349 : b10 ≠ b8) (p350 : b10 ≠ b23) (p351 : b10 ≠ b22) (p352 : b10 ≠ b19) (p353 : b10 ≠ b24) (p354 : b8 ≠ b19) (p355 : b8 ≠ b24) (p356 : b9 ≠ b19) (p357 : b9 ≠ b24) (p358 : b12 ≠ b21) (p359 : b12 ≠ b20) (p360 : b12 ≠ b9) (p361 : b12 ≠ b8) (p362 : b12 ≠ b23) (p363 : b12 ≠ b22) (p364 : b12 ≠ b19) (p365 : b12 ≠ b24) (p366 : b13 ≠ b21) (p367 : b13 ≠ b20) (p368 : b13 ≠ b9) (p369 : b13 ≠ b8) (p370 : b13 ≠ b23) (p371 : b13 ≠ b22) (p372 : b13 ≠ b19) (p373 : b13 ≠ b24) (p374 : b14 ≠ b21) (p375 : b14 ≠ b20) (p376 : b14 ≠ b9) (p377 : b14 ≠ b8) (p378 : b14 ≠ b23) (p379 : b14 ≠ b22) (p380 : b14 ≠ b19) (p381 : b14 ≠ b24) (p382 : b15 ≠ b19) (p383 : b17 ≠ b21) (p384 : b17 ≠ b20) (p385 : b17 ≠ b9) (p386 : b17 ≠ b8) (p387 : b17 ≠ b23) (p388 : b17 ≠ b22) (p389 : b17 ≠ b19) (p390 : b17 ≠ b24) (p391 : b18 ≠ b21) (p392 : b18 ≠ b20) (p393 : b18 ≠ b9) (p394 : b18 ≠ b8) (p395 : b18 ≠ b23) (p396 : b18 ≠ b22) (p397 : b18 ≠ b19) (p398 : b18 ≠ b24) (p399 : b20 ≠ b19) (p400 : b20 ≠ b24) (p401 : b21 ≠ b19) (p402 : b21 ≠ b24) (p403 : b22 ≠ b19) (p404 : b23 ≠ b19) (p405 : b23 ≠ b24) :
    oMet l Z (⟨cU, "join", "(I)V"⟩ : MethodName) prog_54_method_14_code 12 none [] ({ frames := 5, cells := 0, slots := 0, locals := 103 } : Room) 0 0 n0 #[.ref b1, .int 1] h0 (fun v h => v = none ∧ oKe h0 h [b10, b11, b12, b13, b14, b15, b16, b17, b18, b22, b23, b8, b9, b20, b21, b24, b19] [(b1, Jvm.RoadKit.slotOf Z cU "displaced" "I"), (b1, Jvm.RoadKit.slotOf Z cU "searches" "I"), (b1, Jvm.RoadKit.slotOf Z cU "sinkMoney" "J"), (b1, Jvm.RoadKit.slotOf Z cU "sinkSales" "J"), (b1, Jvm.RoadKit.slotOf Z cU "sinkMoves" "I"), (b1, Jvm.RoadKit.slotOf Z cU "sinkEnd" "I"), (b1, Jvm.RoadKit.slotOf Z cU "sinkGoesWithout" "Z"), (b1, Jvm.RoadKit.slotOf Z cU "touchedCount" "I"), (b1, Jvm.RoadKit.slotOf Z cU "heapSize" "I"), (b1, Jvm.RoadKit.slotOf Z cU "changedCount" "I")] ∧ Fld Z h b1 cU "displaced" "I" (.int 0) ∧ oAr Z h b8 .long [.long y4, .long 0] ∧ oAr Z h b9 .long [.long 1, .long 0] ∧ Fld Z h b1 cU "searches" "I" (.int 1) ∧ Fld Z h b1 cU "sinkMoney" "J" (.long y4) ∧ Fld Z h b1 cU "sinkSales" "J" (.long 1) ∧ Fld Z h b1 cU "sinkMoves" "I" (.int 1) ∧ Fld Z h b1 cU "sinkEnd" "I" (.int 0) ∧ Fld Z h b1 cU "sinkGoesWithout" "Z" (.int 1) ∧ oAr Z h b10 .byte [.int 0, .int 0] ∧ Fld Z h b1 cU "touchedCount" "I" (.int 0) ∧ oAr Z h b11 .int [.int 0, .int 0] ∧ oAr Z h b12 .long [.long 0, .long 0] ∧ oAr Z h b13 .long [.long 0, .long 0] ∧ oAr Z h b14 .int [.int 1, .int 0] ∧ oAr Z h b15 .int [.int (-1), .int 0] ∧ oAr Z h b16 .int [.int 1, .int 0] ∧ Fld Z h b1 cU "heapSize" "I" (.int 0) ∧ oAr Z h b17 .int [.int 0, .int 0] ∧ oAr Z h b18 .int [.int 0, .int 0] ∧ oAr Z h b19 .int [.int 1, .int (-1)] ∧ oAr Z h b20 .long [.long 0, .long (y5 - y4), .long 0] ∧ oAr Z h b21 .long [.long 0, .long 0, .long 0] ∧ oAr Z h b22 .boolean [.int 1, .int 0] ∧ Fld Z h b1 cU "changedCount" "I" (.int 1) ∧ oAr Z h b23 .int [.int 0, .int 0] ∧ oAr Z h b24 .int [.int (-1), .int 1, .int (-1)]) := by
  refine oMet.intro (plainFor_of_name pn_944982) (fun m => ef_8 m b1 (1 : Int32)) ?_
  intro op oe os m obl omt ocd C
  refine oAloadN C d8_0 rfl rfl rfl ?_
  refine oIconst C d8_1 (z := (-1)) rfl rfl ?_
  refine oPutF C (w12 hw) Via.refl p2 p1 (Or.inl (w13 hw)) (w4 hw) (ty := .int) (by decide) rfl rfl d8_2 rfl p3 fun h1 W1 => ?_
  have f1w := Fld.same W1 p2
  refine oLconst C d8_5 (z := 0) rfl rfl ?_
  refine oLstoreN C d8_6 (Ls' := #[.val (.ref b1), .val (.int 1), .val (.long 0), .second, .unset, .unset, .unset, .unset, .unset, .unset, .unset, .unset]) rfl (q := 7) rfl ?_
  refine oLconst C d8_7 (z := 0) rfl rfl ?_
  refine oLstore C d8_8 (Ls' := #[.val (.ref b1), .val (.int 1), .val (.long 0), .second, .val (.long 0), .second, .unset, .unset, .unset, .unset, .unset, .unset]) rfl (q := 10) rfl ?_
  refine oAloadN C d8_10 rfl rfl rfl ?_
  have f2 := (Fld.other W1 p4 (Or.inr (oSn0 hw 1 0)))
  refine oGetF C (w14 hw) Via.refl f2 d8_11 rfl ?_
  refine oIloadN C d8_14 rfl rfl ?_
  have f3 := (p5.other W1 p6)
  refine oIaload C f3 (by decide) (k := 1) rfl (v := .int 1) rfl d8_15 rfl ?_
  refine oIstore C d8_16 (Ls' := #[.val (.ref b1), .val (.int 1), .val (.long 0), .second, .val (.long 0), .second, .val (.int 1), .unset, .unset, .unset, .unset, .unset]) rfl (q := 18) rfl ?_
  refine oIload C d8_18 rfl rfl ?_
  refine oAloadN C d8_20 rfl rfl rfl ?_
  refine oGetF C (w14 hw) Via.refl f2 d8_21 rfl ?_
  refine oIloadN C d8_24 rfl rfl ?_
  refine oIconst C d8_25 (z := 1) rfl rfl ?_
  refine oIadd C d8_26 rfl ?_
  refine oCastI (z' := (2 : Int32)) (by decide) ?_
  refine oIaload C f3 (by decide) (k := 2) rfl (v := .int 2) rfl d8_27 rfl ?_
  refine oIcmp_ge C d8_28 (q := 111) (by decide) (by decide) (r := 31) rfl (fun hq => absurd hq ((by decide))) (fun hc28 => ?_)
  refine oAloadN C d8_31 rfl rfl rfl ?_
  have f4 := (Fld.other W1 p7 (Or.inr (oSn0 hw 3 0)))
  refine oGetF C (w18 hw) Via.refl f4 d8_32 rfl ?_
  refine oIload C d8_35 rfl rfl ?_
  have f5 := (p8.other W1 p9)
  refine oLaload C f5 (by decide) (k := 1) rfl (v := .long y5) rfl d8_37 rfl ?_
  refine oLconst C d8_38 (z := 0) rfl rfl ?_
  refine oLcmp_ge C d8_39 rfl d8_40 (q := 46) (by decide) (by decide) (r := 43) rfl (fun hc39 => ?_) (fun hq => absurd hq (p10))
  refine oAloadN C d8_46 rfl rfl rfl ?_
  have f6 := (Fld.other W1 p11 (Or.inr (oSn0 hw 2 0)))
  refine oGetF C (w16 hw) Via.refl f6 d8_47 rfl ?_
  refine oIload C d8_50 rfl rfl ?_
  have f7 := (p12.other W1 p13)
  refine oIaload C f7 (by decide) (k := 1) rfl (v := .int 0) rfl d8_52 rfl ?_
  refine oIstore C d8_53 (Ls' := #[.val (.ref b1), .val (.int 1), .val (.long 0), .second, .val (.long 0), .second, .val (.int 1), .val (.int 0), .unset, .unset, .unset, .unset]) rfl (q := 55) rfl ?_
  refine oAloadN C d8_55 rfl rfl rfl ?_
  refine oGetF C (w18 hw) Via.refl f4 d8_56 rfl ?_
  refine oIload C d8_59 rfl rfl ?_
  refine oLaload C f5 (by decide) (k := 1) rfl (v := .long y5) rfl d8_61 rfl ?_
  refine oAloadN C d8_62 rfl rfl rfl ?_
  have f8 := (Fld.other W1 p14 (Or.inr (oSn0 hw 4 0)))
  refine oGetF C (w20 hw) Via.refl f8 d8_63 rfl ?_
  refine oIload C d8_66 rfl rfl ?_
  have f9 := (p15.other W1 p16)
  refine oLaload C f9 (by decide) (k := 0) rfl (v := .long 0) rfl d8_68 rfl ?_
  have z11 := (Nat.le_trans Z0 (Nat.le_of_eq W1.size.symm))
  refine oCallS C (w65 hw) (w66 hw) (w67 hw) (w68 hw) d8_69 (by decide) pd_212481 rfl rfl (argsL := [.long y5, .long 0]) (rest := []) rfl (W := 0) rfl (q := 72) rfl (by decide) (by decide) (by decide) (by decide) (ac5_3 l Z a0 hw _ n0 z11 y5 p17) (oRQ ?_)
  rintro h10 K10
  refine oCastL (z' := y5) (own_sub0 _) ?_
  refine oLstore C d8_72 (Ls' := #[.val (.ref b1), .val (.int 1), .val (.long 0), .second, .val (.long 0), .second, .val (.int 1), .val (.int 0), .val (.long y5), .second, .unset, .unset]) rfl (q := 74) rfl ?_
  refine oLconst C d8_74 (z := 1) rfl rfl ?_
  refine oAloadN C d8_75 rfl rfl rfl ?_
  have f12 := (K10.fld (Fld.other W1 p18 (Or.inr (oSn0 hw 5 0))) nin0 oN0)
  refine oGetF C (w22 hw) Via.refl f12 d8_76 rfl ?_
  refine oIload C d8_79 rfl rfl ?_
  have f13 := (K10.arr (p19.other W1 p20) nin0 oA0)
  refine oLaload C f13 (by decide) (k := 0) rfl (v := .long 0) rfl d8_81 rfl ?_
  refine oLsub C d8_82 rfl ?_
  refine oCastL (z' := (1 : Int64)) (by decide) ?_
  refine oLstore C d8_83 (Ls' := #[.val (.ref b1), .val (.int 1), .val (.long 0), .second, .val (.long 0), .second, .val (.int 1), .val (.int 0), .val (.long y5), .second, .val (.long 1), .second]) rfl (q := 85) rfl ?_
  refine oLload C d8_85 rfl rfl ?_
  refine oLload C d8_87 rfl rfl ?_
  refine oLloadN C d8_89 rfl rfl ?_
  refine oLload C d8_90 rfl rfl ?_
  have z15 := (Nat.le_trans z11 K10.1)
  refine oCallS C (w69 hw) (w70 hw) (w5 hw) (w71 hw) d8_92 (by decide) pd_567728 rfl rfl (argsL := [.long y5, .long 1, .long 0, .long 0]) (rest := []) rfl (W := 0) rfl (q := 95) rfl (by decide) (by decide) (by decide) (by decide) (ac6_9 l Z a0 hw _ n0 z15 y5 hc39 p21) (oRQ ?_)
  rintro h14 K14
  refine oIf_le C d8_95 (q := 105) (by decide) (by decide) (r := 98) rfl (fun hq => absurd hq ((by decide))) (fun hc95 => ?_)
  refine oLload C d8_98 rfl rfl ?_
  refine oLstoreN C d8_100 (Ls' := #[.val (.ref b1), .val (.int 1), .val (.long y5), .second, .val (.long 0), .second, .val (.int 1), .val (.int 0), .val (.long y5), .second, .val (.long 1), .second]) rfl (q := 101) rfl ?_
  refine oLload C d8_101 rfl rfl ?_
  refine oLstore C d8_103 (Ls' := #[.val (.ref b1), .val (.int 1), .val (.long y5), .second, .val (.long 1), .second, .val (.int 1), .val (.int 0), .val (.long y5), .second, .val (.long 1), .second]) rfl (q := 105) rfl ?_
  refine oIinc C d8_105 rfl (z := 1) rfl (w := (2 : Int32)) (by decide) (Ls' := #[.val (.ref b1), .val (.int 1), .val (.long y5), .second, .val (.long 1), .second, .val (.int 2), .val (.int 0), .val (.long y5), .second, .val (.long 1), .second]) rfl rfl ?_
  refine oGoto C d8_108 (q := 18) (by decide) (by decide) ?_
  refine oIload C d8_18 rfl rfl ?_
  refine oAloadN C d8_20 rfl rfl rfl ?_
  have f16 := (K14.fld (K10.fld f2 nin0 oN0) nin0 oN0)
  refine oGetF C (w14 hw) Via.refl f16 d8_21 rfl ?_
  refine oIloadN C d8_24 rfl rfl ?_
  refine oIconst C d8_25 (z := 1) rfl rfl ?_
  refine oIadd C d8_26 rfl ?_
  refine oCastI (z' := (2 : Int32)) (by decide) ?_
  have f17 := (K14.arr (K10.arr f3 nin0 oA0) nin0 oA0)
  refine oIaload C f17 (by decide) (k := 2) rfl (v := .int 2) rfl d8_27 rfl ?_
  refine oIcmp_ge C d8_28 (q := 111) (by decide) (by decide) (r := 31) rfl (fun hc28_1 => ?_) (fun hq => absurd hq ((by decide)))
  refine oJoin (α := Unit) (fun _ => True) (fun _ => h14) (fun _ => (mkF m 125 #[.val (.ref b1), .val (.int 1), .val (.long y5), .second, .val (.long 1), .second, .val (.int 2), .val (.int 0), .val (.long y5), .second, .val (.long 1), .second] [])) (k := 0) (n := 0) (fun _ _ => ?_) (fun J125 => ?_)
  ·
   show oW _ _ _ _ _ _ _ _ _ _ _ _ _ _ _ (mkF m 125 #[.val (.ref b1), .val (.int 1), .val (.long y5), .second, .val (.long 1), .second, .val (.int 2), .val (.int 0), .val (.long y5), .second, .val (.long 1), .second] [])
   refine oAloadN C d8_125 rfl rfl rfl ?_
   refine oDup C d8_126 rfl rfl ?_
   have f18 := (K14.fld (K10.fld (Fld.other W1 p22 (Or.inr (oSn0 hw 21 0))) nin0 oN0) nin0 oN0)
   refine oGetF C (w81 hw) Via.refl f18 d8_127 rfl ?_
   refine oIconst C d8_130 (z := 1) rfl rfl ?_
   refine oIadd C d8_131 rfl ?_
   refine oCastI (z' := (1 : Int32)) (by decide) ?_
   have f19 := (K14.exa (K10.exa (Exa.wr W1 p1)))
   refine oPutF C (w81 hw) Via.refl f18 f19 (Or.inl (w82 hw)) (w4 hw) (ty := .int) (by decide) rfl rfl d8_132 rfl p3 fun h20 W20 => ?_
   have f20w := Fld.same W20 f18
   refine oAloadN C d8_135 rfl rfl rfl ?_
   refine oIloadN C d8_136 rfl rfl ?_
   refine oLloadN C d8_137 rfl rfl ?_
   refine oLload C d8_138 rfl rfl ?_
   have f21 := (Exa.wr W20 f19)
   have f22 := (Fld.other W20 (K14.fld (K10.fld (Fld.other W1 p23 (Or.inr (oSn0 hw 22 0))) nin0 oN0) nin0 oN0) (Or.inr (oSn0 hw 22 21)))
   have f23 := (Fld.other W20 (K14.fld (K10.fld (Fld.other W1 p24 (Or.inr (oSn0 hw 23 0))) nin0 oN0) nin0 oN0) (Or.inr (oSn0 hw 23 21)))
   have f24 := (Fld.other W20 (K14.fld (K10.fld (Fld.other W1 p25 (Or.inr (oSn0 hw 24 0))) nin0 oN0) nin0 oN0) (Or.inr (oSn0 hw 24 21)))
   have f25 := (Fld.other W20 (K14.fld (K10.fld (Fld.other W1 p26 (Or.inr (oSn0 hw 25 0))) nin0 oN0) nin0 oN0) (Or.inr (oSn0 hw 25 21)))
   have f26 := (Fld.other W20 (K14.fld (K10.fld (Fld.other W1 p27 (Or.inr (oSn0 hw 26 0))) nin0 oN0) nin0 oN0) (Or.inr (oSn0 hw 26 21)))
   have f27 := (Fld.other W20 f16 (Or.inr (oSn0 hw 1 21)))
   have f28 := (f17.other W20 p6)
   have f29 := (Fld.other W20 (K14.fld (K10.fld f4 nin0 oN0) nin0 oN0) (Or.inr (oSn0 hw 3 21)))
   have f30 := ((K14.arr (K10.arr f5 nin0 oA0) nin0 oA0).other W20 p9)
   have f31 := (Fld.other W20 (K14.fld (K10.fld f6 nin0 oN0) nin0 oN0) (Or.inr (oSn0 hw 2 21)))
   have f32 := ((K14.arr (K10.arr f7 nin0 oA0) nin0 oA0).other W20 p13)
   have f33 := (Fld.other W20 (K14.fld (K10.fld f8 nin0 oN0) nin0 oN0) (Or.inr (oSn0 hw 4 21)))
   have f34 := ((K14.arr (K10.arr f9 nin0 oA0) nin0 oA0).other W20 p16)
   have f35 := (Fld.other W20 (K14.fld f12 nin0 oN0) (Or.inr (oSn0 hw 5 21)))
   have f36 := ((K14.arr f13 nin0 oA0).other W20 p20)
   have f37 := (Fld.other W20 (K14.fld (K10.fld (Fld.other W1 p28 (Or.inr (oSn0 hw 15 0))) nin0 oN0) nin0 oN0) (Or.inr (oSn0 hw 15 21)))
   have f38 := ((K14.arr (K10.arr (p29.other W1 p56) nin0 oA0) nin0 oA0).other W20 p56)
   have f39 := (Fld.other W20 (K14.fld (K10.fld (Fld.other W1 p30 (Or.inr (oSn0 hw 18 0))) nin0 oN0) nin0 oN0) (Or.inr (oSn0 hw 18 21)))
   have f40 := (Fld.other W20 (K14.fld (K10.fld (Fld.other W1 p31 (Or.inr (oSn0 hw 27 0))) nin0 oN0) nin0 oN0) (Or.inr (oSn0 hw 27 21)))
   have f41 := ((K14.arr (K10.arr (p32.other W1 p57) nin0 oA0) nin0 oA0).other W20 p57)
   have f42 := (Fld.other W20 (K14.fld (K10.fld (Fld.other W1 p33 (Or.inr (oSn0 hw 10 0))) nin0 oN0) nin0 oN0) (Or.inr (oSn0 hw 10 21)))
   have f43 := ((K14.arr (K10.arr (p34.other W1 p58) nin0 oA0) nin0 oA0).other W20 p58)
   have f44 := (Fld.other W20 (K14.fld (K10.fld (Fld.other W1 p35 (Or.inr (oSn0 hw 11 0))) nin0 oN0) nin0 oN0) (Or.inr (oSn0 hw 11 21)))
   have f45 := ((K14.arr (K10.arr (p36.other W1 p59) nin0 oA0) nin0 oA0).other W20 p59)
   have f46 := (Fld.other W20 (K14.fld (K10.fld (Fld.other W1 p37 (Or.inr (oSn0 hw 12 0))) nin0 oN0) nin0 oN0) (Or.inr (oSn0 hw 12 21)))
   have f47 := ((K14.arr (K10.arr (p38.other W1 p60) nin0 oA0) nin0 oA0).other W20 p60)
   have f48 := (Fld.other W20 (K14.fld (K10.fld (Fld.other W1 p39 (Or.inr (oSn0 hw 13 0))) nin0 oN0) nin0 oN0) (Or.inr (oSn0 hw 13 21)))
   have f49 := ((K14.arr (K10.arr (p40.other W1 p61) nin0 oA0) nin0 oA0).other W20 p61)
   have f50 := (Fld.other W20 (K14.fld (K10.fld (Fld.other W1 p41 (Or.inr (oSn0 hw 14 0))) nin0 oN0) nin0 oN0) (Or.inr (oSn0 hw 14 21)))
   have f51 := ((K14.arr (K10.arr (p42.other W1 p62) nin0 oA0) nin0 oA0).other W20 p62)
   have f52 := (Fld.other W20 (K14.fld (K10.fld (Fld.other W1 p43 (Or.inr (oSn0 hw 28 0))) nin0 oN0) nin0 oN0) (Or.inr (oSn0 hw 28 21)))
   have f53 := (Fld.other W20 (K14.fld (K10.fld (Fld.other W1 p44 (Or.inr (oSn0 hw 16 0))) nin0 oN0) nin0 oN0) (Or.inr (oSn0 hw 16 21)))
   have f54 := ((K14.arr (K10.arr (p45.other W1 p63) nin0 oA0) nin0 oA0).other W20 p63)
   have f55 := (Fld.other W20 (K14.fld (K10.fld (Fld.other W1 p46 (Or.inr (oSn0 hw 17 0))) nin0 oN0) nin0 oN0) (Or.inr (oSn0 hw 17 21)))
   have f56 := ((K14.arr (K10.arr (p47.other W1 p64) nin0 oA0) nin0 oA0).other W20 p64)
   have f57 := (Fld.other W20 (K14.fld (K10.fld (Fld.other W1 p48 (Or.inr (oSn0 hw 6 0))) nin0 oN0) nin0 oN0) (Or.inr (oSn0 hw 6 21)))
   have f58 := ((K14.arr (K10.arr (p49.other W1 p165) nin0 oA0) nin0 oA0).other W20 p165)
   have f59 := (Fld.other W20 (K14.fld (K10.fld (Fld.other W1 p50 (Or.inr (oSn0 hw 7 0))) nin0 oN0) nin0 oN0) (Or.inr (oSn0 hw 7 21)))
   have f60 := ((K14.arr (K10.arr (p51.other W1 p175) nin0 oA0) nin0 oA0).other W20 p175)
   have f61 := (Fld.other W20 (K14.fld (K10.fld (Fld.other W1 p52 (Or.inr (oSn0 hw 8 0))) nin0 oN0) nin0 oN0) (Or.inr (oSn0 hw 8 21)))
   have f62 := ((K14.arr (K10.arr (p53.other W1 p186) nin0 oA0) nin0 oA0).other W20 p186)
   have z64 := (Nat.le_trans (Nat.le_trans z15 K14.1) (Nat.le_of_eq W20.size.symm))
   refine oCallP C (w83 hw) (w85 hw) (w4 hw) (w84 hw) (w5 hw) (w86 hw) d8_140 f21 (by decide) pd_897967 rfl rfl (a := b1) (argsL := [.int 1, .long y5, .long 1]) (rest := []) rfl (W := 0) rfl (q := 143) rfl (by decide) (by decide) (by decide) (by decide) (ac9_27 l Z a0 hw _ n0 z64 b1 y5 b2 b3 y4 y6 b7 b8 b9 b10 b11 b12 b13 b14 b15 b16 b17 b18 b19 b20 b21 f21 f22 p3 f23 f24 f25 f26 f27 f28 p6 f29 f30 p9 hc39 f31 f32 p13 f33 f34 p16 p54 p55 f35 f36 p20 f37 f38 f39 f40 f41 f42 f43 f44 f45 f46 f47 f48 f49 f50 f51 f52 f53 f54 f55 f56 p65 p56 p66 p67 p57 p68 p69 p58 p59 p60 p61 p62 p70 p71 p72 p73 p74 p75 p76 p77 p78 p79 p80 p81 p82 p83 p84 p85 p86 p87 p88 p89 p90 p91 p92 p93 p94 p95 p96 p97 p98 p99 p100 p101 p102 p103 p104 p105 p106 p107 p108 p109 p110 p63 p64 p111 p112 p113 p114 p115 p116 p117 p118 p119 p120 p121 p122 p123 p124 p125 p126 p127 p128 p129 p130 p131 p132 p133 p134 p135 p136 p137 p138 p139 p140 p141 p142 p143 p144 p145 p146 p147 p148 p149 p150 p151 p152 p153 p154 p155 p156 p157 p158 p159 p160 p161 p162 p163 p164 f57 f58 p165 p166 p167 p168 p169 p170 p171 p172 p173 p174 f59 f60 p175 p176 p177 p178 p179 p180 p181 p182 p183 p184 p185 f61 f62 p186 p187 p188 p189 p190 p191 p192 p193 p194 p195 p196 p197 p198 p199 p200 p201 p202 p203 p204 p205) (oVQ ?_)
   rintro h63 ⟨K63, f63_0, f63_1, f63_2, f63_3, f63_4, f63_5, f63_6, f63_7, f63_8, f63_9, f63_10, f63_11, f63_12, f63_13, f63_14, f63_15⟩
   refine oAloadN C d8_143 rfl rfl rfl ?_
   refine oIloadN C d8_144 rfl rfl ?_
   refine oLloadN C d8_145 rfl rfl ?_
   refine oLload C d8_146 rfl rfl ?_
   have f65 := (K63.fld f39 (ninS p67 (ninS p70 (ninS p74 (ninS p79 (ninS p85 (ninS p92 (ninS p110 (ninS p126 (ninS p138 nin0))))))))) (oNF (Or.inr (oSn0 hw 18 22)) (oNF (Or.inr (oSn0 hw 18 23)) (oNF (Or.inr (oSn0 hw 18 24)) (oNF (Or.inr (oSn0 hw 18 25)) (oNF (Or.inr (oSn0 hw 18 26)) (oNF (Or.inr (oSn0 hw 18 27)) (oNF (Or.inr (oSn0 hw 18 28)) oN0))))))))
   have f66 := (K63.fld f37 (ninS p67 (ninS p70 (ninS p74 (ninS p79 (ninS p85 (ninS p92 (ninS p110 (ninS p126 (ninS p138 nin0))))))))) (oNF (Or.inr (oSn0 hw 15 22)) (oNF (Or.inr (oSn0 hw 15 23)) (oNF (Or.inr (oSn0 hw 15 24)) (oNF (Or.inr (oSn0 hw 15 25)) (oNF (Or.inr (oSn0 hw 15 26)) (oNF (Or.inr (oSn0 hw 15 27)) (oNF (Or.inr (oSn0 hw 15 28)) oN0))))))))
   have f67 := (K63.fld f42 (ninS p67 (ninS p70 (ninS p74 (ninS p79 (ninS p85 (ninS p92 (ninS p110 (ninS p126 (ninS p138 nin0))))))))) (oNF (Or.inr (oSn0 hw 10 22)) (oNF (Or.inr (oSn0 hw 10 23)) (oNF (Or.inr (oSn0 hw 10 24)) (oNF (Or.inr (oSn0 hw 10 25)) (oNF (Or.inr (oSn0 hw 10 26)) (oNF (Or.inr (oSn0 hw 10 27)) (oNF (Or.inr (oSn0 hw 10 28)) oN0))))))))
   have f68 := (K63.fld f44 (ninS p67 (ninS p70 (ninS p74 (ninS p79 (ninS p85 (ninS p92 (ninS p110 (ninS p126 (ninS p138 nin0))))))))) (oNF (Or.inr (oSn0 hw 11 22)) (oNF (Or.inr (oSn0 hw 11 23)) (oNF (Or.inr (oSn0 hw 11 24)) (oNF (Or.inr (oSn0 hw 11 25)) (oNF (Or.inr (oSn0 hw 11 26)) (oNF (Or.inr (oSn0 hw 11 27)) (oNF (Or.inr (oSn0 hw 11 28)) oN0))))))))
   have f69 := (K63.fld (Fld.other W20 (K14.fld (K10.fld (Fld.other W1 p206 (Or.inr (oSn0 hw 19 0))) nin0 oN0) nin0 oN0) (Or.inr (oSn0 hw 19 21))) (ninS p67 (ninS p70 (ninS p74 (ninS p79 (ninS p85 (ninS p92 (ninS p110 (ninS p126 (ninS p138 nin0))))))))) (oNF (Or.inr (oSn0 hw 19 22)) (oNF (Or.inr (oSn0 hw 19 23)) (oNF (Or.inr (oSn0 hw 19 24)) (oNF (Or.inr (oSn0 hw 19 25)) (oNF (Or.inr (oSn0 hw 19 26)) (oNF (Or.inr (oSn0 hw 19 27)) (oNF (Or.inr (oSn0 hw 19 28)) oN0))))))))
   have f70 := (K63.arr ((K14.arr (K10.arr (p207.other W1 p212) nin0 oA0) nin0 oA0).other W20 p212) (ninS p221 (ninS p220 (ninS p219 (ninS p218 (ninS p217 (ninS p216 (ninS p215 (ninS p214 (ninS p213 nin0))))))))) (oAS p212 (oAS p212 (oAS p212 (oAS p212 (oAS p212 (oAS p212 (oAS p212 oA0))))))))
   have f71 := (K63.fld (Fld.other W20 (K14.fld (K10.fld (Fld.other W1 p208 (Or.inr (oSn0 hw 20 0))) nin0 oN0) nin0 oN0) (Or.inr (oSn0 hw 20 21))) (ninS p67 (ninS p70 (ninS p74 (ninS p79 (ninS p85 (ninS p92 (ninS p110 (ninS p126 (ninS p138 nin0))))))))) (oNF (Or.inr (oSn0 hw 20 22)) (oNF (Or.inr (oSn0 hw 20 23)) (oNF (Or.inr (oSn0 hw 20 24)) (oNF (Or.inr (oSn0 hw 20 25)) (oNF (Or.inr (oSn0 hw 20 26)) (oNF (Or.inr (oSn0 hw 20 27)) (oNF (Or.inr (oSn0 hw 20 28)) oN0))))))))
   have f72 := (K63.fld (Fld.other W20 (K14.fld (K10.fld (Fld.other W1 p209 (Or.inr (oSn0 hw 29 0))) nin0 oN0) nin0 oN0) (Or.inr (oSn0 hw 29 21))) (ninS p67 (ninS p70 (ninS p74 (ninS p79 (ninS p85 (ninS p92 (ninS p110 (ninS p126 (ninS p138 nin0))))))))) (oNF (Or.inr (oSn0 hw 29 22)) (oNF (Or.inr (oSn0 hw 29 23)) (oNF (Or.inr (oSn0 hw 29 24)) (oNF (Or.inr (oSn0 hw 29 25)) (oNF (Or.inr (oSn0 hw 29 26)) (oNF (Or.inr (oSn0 hw 29 27)) (oNF (Or.inr (oSn0 hw 29 28)) oN0))))))))
   have f73 := (K63.exa f21)
   have f74 := (K63.arr ((K14.arr (K10.arr (p210.other W1 p222) nin0 oA0) nin0 oA0).other W20 p222) (ninS p231 (ninS p230 (ninS p229 (ninS p228 (ninS p227 (ninS p226 (ninS p225 (ninS p224 (ninS p223 nin0))))))))) (oAS p222 (oAS p222 (oAS p222 (oAS p222 (oAS p222 (oAS p222 (oAS p222 oA0))))))))
   have f75 := (K63.fld f33 (ninS p67 (ninS p70 (ninS p74 (ninS p79 (ninS p85 (ninS p92 (ninS p110 (ninS p126 (ninS p138 nin0))))))))) (oNF (Or.inr (oSn0 hw 4 22)) (oNF (Or.inr (oSn0 hw 4 23)) (oNF (Or.inr (oSn0 hw 4 24)) (oNF (Or.inr (oSn0 hw 4 25)) (oNF (Or.inr (oSn0 hw 4 26)) (oNF (Or.inr (oSn0 hw 4 27)) (oNF (Or.inr (oSn0 hw 4 28)) oN0))))))))
   have f76 := (K63.arr f34 (ninS p246 (ninS p245 (ninS p244 (ninS p243 (ninS p242 (ninS p241 (ninS p240 (ninS p239 (ninS p238 nin0))))))))) (oAS p16 (oAS p16 (oAS p16 (oAS p16 (oAS p16 (oAS p16 (oAS p16 oA0))))))))
   have f77 := (K63.fld f35 (ninS p67 (ninS p70 (ninS p74 (ninS p79 (ninS p85 (ninS p92 (ninS p110 (ninS p126 (ninS p138 nin0))))))))) (oNF (Or.inr (oSn0 hw 5 22)) (oNF (Or.inr (oSn0 hw 5 23)) (oNF (Or.inr (oSn0 hw 5 24)) (oNF (Or.inr (oSn0 hw 5 25)) (oNF (Or.inr (oSn0 hw 5 26)) (oNF (Or.inr (oSn0 hw 5 27)) (oNF (Or.inr (oSn0 hw 5 28)) oN0))))))))
   have f78 := (K63.arr f36 (ninS p259 (ninS p258 (ninS p257 (ninS p256 (ninS p255 (ninS p254 (ninS p253 (ninS p252 (ninS p251 nin0))))))))) (oAS p20 (oAS p20 (oAS p20 (oAS p20 (oAS p20 (oAS p20 (oAS p20 oA0))))))))
   have f79 := (K63.fld f57 (ninS p67 (ninS p70 (ninS p74 (ninS p79 (ninS p85 (ninS p92 (ninS p110 (ninS p126 (ninS p138 nin0))))))))) (oNF (Or.inr (oSn0 hw 6 22)) (oNF (Or.inr (oSn0 hw 6 23)) (oNF (Or.inr (oSn0 hw 6 24)) (oNF (Or.inr (oSn0 hw 6 25)) (oNF (Or.inr (oSn0 hw 6 26)) (oNF (Or.inr (oSn0 hw 6 27)) (oNF (Or.inr (oSn0 hw 6 28)) oN0))))))))
   have f80 := (K63.arr f58 (ninS p174 (ninS p173 (ninS p172 (ninS p171 (ninS p170 (ninS p169 (ninS p168 (ninS p167 (ninS p166 nin0))))))))) (oAS p165 (oAS p165 (oAS p165 (oAS p165 (oAS p165 (oAS p165 (oAS p165 oA0))))))))
   have f81 := (K63.fld f59 (ninS p67 (ninS p70 (ninS p74 (ninS p79 (ninS p85 (ninS p92 (ninS p110 (ninS p126 (ninS p138 nin0))))))))) (oNF (Or.inr (oSn0 hw 7 22)) (oNF (Or.inr (oSn0 hw 7 23)) (oNF (Or.inr (oSn0 hw 7 24)) (oNF (Or.inr (oSn0 hw 7 25)) (oNF (Or.inr (oSn0 hw 7 26)) (oNF (Or.inr (oSn0 hw 7 27)) (oNF (Or.inr (oSn0 hw 7 28)) oN0))))))))
   have f82 := (K63.arr f60 (ninS p184 (ninS p183 (ninS p182 (ninS p181 (ninS p180 (ninS p179 (ninS p178 (ninS p177 (ninS p176 nin0))))))))) (oAS p175 (oAS p175 (oAS p175 (oAS p175 (oAS p175 (oAS p175 (oAS p175 oA0))))))))
   have f83 := (K63.fld f61 (ninS p67 (ninS p70 (ninS p74 (ninS p79 (ninS p85 (ninS p92 (ninS p110 (ninS p126 (ninS p138 nin0))))))))) (oNF (Or.inr (oSn0 hw 8 22)) (oNF (Or.inr (oSn0 hw 8 23)) (oNF (Or.inr (oSn0 hw 8 24)) (oNF (Or.inr (oSn0 hw 8 25)) (oNF (Or.inr (oSn0 hw 8 26)) (oNF (Or.inr (oSn0 hw 8 27)) (oNF (Or.inr (oSn0 hw 8 28)) oN0))))))))
   have f84 := (K63.arr f62 (ninS p195 (ninS p194 (ninS p193 (ninS p192 (ninS p191 (ninS p190 (ninS p189 (ninS p188 (ninS p187 nin0))))))))) (oAS p186 (oAS p186 (oAS p186 (oAS p186 (oAS p186 (oAS p186 (oAS p186 oA0))))))))
   have z86 := (Nat.le_trans z64 K63.1)
   refine oCallP C (w136 hw) (w138 hw) (w4 hw) (w137 hw) (w5 hw) (w139 hw) d8_148 f73 (by decide) pd_897967 rfl rfl (a := b1) (argsL := [.int 1, .long y5, .long 1]) (rest := []) rfl (W := 0) rfl (q := 151) rfl (by decide) (by decide) (by decide) (by decide) (ac19_29 l Z a0 hw _ n0 z86 b1 y5 b11 b10 y4 b12 b13 b22 b23 b8 b9 b19 b20 b21 f63_6 f65 f63_7 f66 f63_5 f63_0 f67 f63_8 p211 f63_1 f68 f63_9 f69 f70 f71 f72 f73 f74 p232 p233 p3 p234 p222 p235 p212 p236 p237 f75 f76 p247 p248 p16 p185 p249 f77 p250 f78 p260 p261 p20 p262 p263 f79 p264 f80 p265 p266 p165 p267 p268 f81 f82 p269 p270 p175 p271 p272 p273 f83 p274 f84 p275 p276 p186 p277 p278 p279 p280 p281 p282 p283 p284 p285 p286 p287 p288 p289 p290 p291 p292 p293 p294 p295) (oVQ ?_)
   rintro h85 ⟨K85, f85_0, f85_1, f85_2, f85_3, f85_4, f85_5, f85_6⟩
   refine oAloadN C d8_151 rfl rfl rfl ?_
   refine oIloadN C d8_152 rfl rfl ?_
   have f87 := (K85.fld f63_3 (ninS p233 (ninS p237 (ninS p250 (ninS p264 (ninS p274 (ninS p281 nin0)))))) (oNF (Or.inr (oSn0 hw 25 29)) oN0))
   have f88 := (K85.fld f63_4 (ninS p233 (ninS p237 (ninS p250 (ninS p264 (ninS p274 (ninS p281 nin0)))))) (oNF (Or.inr (oSn0 hw 26 29)) oN0))
   have f89 := (K85.fld f79 (ninS p233 (ninS p237 (ninS p250 (ninS p264 (ninS p274 (ninS p281 nin0)))))) (oNF (Or.inr (oSn0 hw 6 29)) oN0))
   have f90 := (K85.arr f80 (ninS p266 (ninS p265 (ninS p267 (ninS p268 (ninS p299 (ninS p298 nin0)))))) (oAS p165 oA0))
   have f91 := (K85.exa f73)
   have f92 := (K85.fld (K63.fld (Fld.other W20 (K14.fld (K10.fld f1w nin0 oN0) nin0 oN0) (Or.inr (oSn0 hw 0 21))) (ninS p67 (ninS p70 (ninS p74 (ninS p79 (ninS p85 (ninS p92 (ninS p110 (ninS p126 (ninS p138 nin0))))))))) (oNF (Or.inr (oSn0 hw 0 22)) (oNF (Or.inr (oSn0 hw 0 23)) (oNF (Or.inr (oSn0 hw 0 24)) (oNF (Or.inr (oSn0 hw 0 25)) (oNF (Or.inr (oSn0 hw 0 26)) (oNF (Or.inr (oSn0 hw 0 27)) (oNF (Or.inr (oSn0 hw 0 28)) oN0)))))))) (ninS p233 (ninS p237 (ninS p250 (ninS p264 (ninS p274 (ninS p281 nin0)))))) (oNF (Or.inr (oSn0 hw 0 29)) oN0))
   have f93 := (K85.fld (K63.fld (Fld.other W20 (K14.fld (K10.fld (Fld.other W1 p296 (Or.inr (oSn0 hw 9 0))) nin0 oN0) nin0 oN0) (Or.inr (oSn0 hw 9 21))) (ninS p67 (ninS p70 (ninS p74 (ninS p79 (ninS p85 (ninS p92 (ninS p110 (ninS p126 (ninS p138 nin0))))))))) (oNF (Or.inr (oSn0 hw 9 22)) (oNF (Or.inr (oSn0 hw 9 23)) (oNF (Or.inr (oSn0 hw 9 24)) (oNF (Or.inr (oSn0 hw 9 25)) (oNF (Or.inr (oSn0 hw 9 26)) (oNF (Or.inr (oSn0 hw 9 27)) (oNF (Or.inr (oSn0 hw 9 28)) oN0)))))))) (ninS p233 (ninS p237 (ninS p250 (ninS p264 (ninS p274 (ninS p281 nin0)))))) (oNF (Or.inr (oSn0 hw 9 29)) oN0))
   have f94 := (K85.arr (K63.arr ((K14.arr (K10.arr (p297.other W1 p300) nin0 oA0) nin0 oA0).other W20 p300) (ninS p309 (ninS p308 (ninS p307 (ninS p306 (ninS p305 (ninS p304 (ninS p303 (ninS p302 (ninS p301 nin0))))))))) (oAS p300 (oAS p300 (oAS p300 (oAS p300 (oAS p300 (oAS p300 (oAS p300 oA0)))))))) (ninS p315 (ninS p314 (ninS p313 (ninS p312 (ninS p311 (ninS p310 nin0)))))) (oAS p300 oA0))
   have f95 := (K85.fld f69 (ninS p233 (ninS p237 (ninS p250 (ninS p264 (ninS p274 (ninS p281 nin0)))))) (oNF (Or.inr (oSn0 hw 19 29)) oN0))
   have f96 := (K85.fld (K63.fld f48 (ninS p67 (ninS p70 (ninS p74 (ninS p79 (ninS p85 (ninS p92 (ninS p110 (ninS p126 (ninS p138 nin0))))))))) (oNF (Or.inr (oSn0 hw 13 22)) (oNF (Or.inr (oSn0 hw 13 23)) (oNF (Or.inr (oSn0 hw 13 24)) (oNF (Or.inr (oSn0 hw 13 25)) (oNF (Or.inr (oSn0 hw 13 26)) (oNF (Or.inr (oSn0 hw 13 27)) (oNF (Or.inr (oSn0 hw 13 28)) oN0)))))))) (ninS p233 (ninS p237 (ninS p250 (ninS p264 (ninS p274 (ninS p281 nin0)))))) (oNF (Or.inr (oSn0 hw 13 29)) oN0))
   have f97 := (K85.arr f63_11 (ninS p324 (ninS p323 (ninS p322 (ninS p321 (ninS p320 (ninS p319 nin0)))))) (oAS p61 oA0))
   have f98 := (K85.fld (K63.fld f50 (ninS p67 (ninS p70 (ninS p74 (ninS p79 (ninS p85 (ninS p92 (ninS p110 (ninS p126 (ninS p138 nin0))))))))) (oNF (Or.inr (oSn0 hw 14 22)) (oNF (Or.inr (oSn0 hw 14 23)) (oNF (Or.inr (oSn0 hw 14 24)) (oNF (Or.inr (oSn0 hw 14 25)) (oNF (Or.inr (oSn0 hw 14 26)) (oNF (Or.inr (oSn0 hw 14 27)) (oNF (Or.inr (oSn0 hw 14 28)) oN0)))))))) (ninS p233 (ninS p237 (ninS p250 (ninS p264 (ninS p274 (ninS p281 nin0)))))) (oNF (Or.inr (oSn0 hw 14 29)) oN0))
   have f99 := (K85.arr f63_12 (ninS p334 (ninS p333 (ninS p332 (ninS p331 (ninS p330 (ninS p329 nin0)))))) (oAS p62 oA0))
   have z101 := (Nat.le_trans z86 K85.1)
   refine oCallP C (w147 hw) (w149 hw) (w4 hw) (w148 hw) (w5 hw) (w150 hw) d8_153 f91 (by decide) pd_674841 rfl rfl (a := b1) (argsL := [.int 1]) (rest := []) rfl (W := 0) rfl (q := 156) rfl (by decide) (by decide) (by decide) (by decide) (ac21_31 l Z a0 hw _ n0 z101 b1 b19 b24 b22 b15 b16 f87 f88 f89 f90 f91 f92 p3 f93 f94 p300 p316 f95 f85_0 p317 p212 p318 f96 f97 p61 p325 p165 p326 p327 p328 f98 f99 p62 p335 p336 p337) (oVQ ?_)
   rintro h100 ⟨K100, f100_0, f100_1, f100_2⟩
   refine oIconst C d8_156 (z := 0) rfl rfl ?_
   refine oIstore C d8_157 (Ls' := #[.val (.ref b1), .val (.int 1), .val (.long y5), .second, .val (.long 1), .second, .val (.int 0), .val (.int 0), .val (.long y5), .second, .val (.long 1), .second]) rfl (q := 159) rfl ?_
   refine oIload C d8_159 rfl rfl ?_
   refine oAloadN C d8_161 rfl rfl rfl ?_
   have f102 := (K100.fld (K85.fld f63_6 (ninS p233 (ninS p237 (ninS p250 (ninS p264 (ninS p274 (ninS p281 nin0)))))) (oNF (Or.inr (oSn0 hw 27 29)) oN0)) (ninS p317 (ninS p328 nin0)) (oNF (Or.inr (oSn0 hw 27 0)) oN0))
   refine oGetF C (w112 hw) Via.refl f102 d8_162 rfl ?_
   refine oIcmp_ge C d8_165 (q := 187) (by decide) (by decide) (r := 168) rfl (fun hq => absurd hq ((by decide))) (fun hc165 => ?_)
   refine oAloadN C d8_168 rfl rfl rfl ?_
   have f103 := (K100.fld (K85.fld f66 (ninS p233 (ninS p237 (ninS p250 (ninS p264 (ninS p274 (ninS p281 nin0)))))) (oNF (Or.inr (oSn0 hw 15 29)) oN0)) (ninS p317 (ninS p328 nin0)) (oNF (Or.inr (oSn0 hw 15 0)) oN0))
   refine oGetF C (w47 hw) Via.refl f103 d8_169 rfl ?_
   refine oAloadN C d8_172 rfl rfl rfl ?_
   have f104 := (K100.fld (K85.fld f65 (ninS p233 (ninS p237 (ninS p250 (ninS p264 (ninS p274 (ninS p281 nin0)))))) (oNF (Or.inr (oSn0 hw 18 29)) oN0)) (ninS p317 (ninS p328 nin0)) (oNF (Or.inr (oSn0 hw 18 0)) oN0))
   refine oGetF C (w53 hw) Via.refl f104 d8_173 rfl ?_
   refine oIload C d8_176 rfl rfl ?_
   have f105 := (K100.arr (K85.arr f63_7 (ninS p343 (ninS p342 (ninS p341 (ninS p340 (ninS p339 (ninS p338 nin0)))))) (oAS p57 oA0)) (ninS p345 (ninS p344 nin0)) (oAS p57 oA0))
   refine oIaload C f105 (by decide) (k := 0) rfl (v := .int 0) rfl d8_178 rfl ?_
   refine oIconst C d8_179 (z := 0) rfl rfl ?_
   have f106 := (K100.arr (K85.arr f63_5 (ninS p351 (ninS p350 (ninS p349 (ninS p348 (ninS p347 (ninS p346 nin0)))))) (oAS p56 oA0)) (ninS p353 (ninS p352 nin0)) (oAS p56 oA0))
   refine oBastore C f106 (by decide) (k := 0) rfl (v := .int 2) rfl (v' := .int 0) rfl d8_180 rfl p66 fun h107 W107 A107 => ?_
   have A107l : oAr Z h107 b10 .byte [.int 0, .int 0] := A107
   refine oIinc C d8_181 rfl (z := 1) rfl (w := (1 : Int32)) (by decide) (Ls' := #[.val (.ref b1), .val (.int 1), .val (.long y5), .second, .val (.long 1), .second, .val (.int 1), .val (.int 0), .val (.long y5), .second, .val (.long 1), .second]) rfl rfl ?_
   refine oGoto C d8_184 (q := 159) (by decide) (by decide) ?_
   refine oIload C d8_159 rfl rfl ?_
   refine oAloadN C d8_161 rfl rfl rfl ?_
   have f108 := (Fld.other W107 f102 (Or.inl p67))
   refine oGetF C (w112 hw) Via.refl f108 d8_162 rfl ?_
   refine oIcmp_ge C d8_165 (q := 187) (by decide) (by decide) (r := 168) rfl (fun hc165_1 => ?_) (fun hq => absurd hq ((by decide)))
   refine oAloadN C d8_187 rfl rfl rfl ?_
   refine oIconst C d8_188 (z := 0) rfl rfl ?_
   have f109 := (Exa.wr W107 (K100.exa f91))
   refine oPutF C (w112 hw) Via.refl f108 f109 (Or.inl (w113 hw)) (w4 hw) (ty := .int) (by decide) rfl rfl d8_189 rfl p3 fun h110 W110 => ?_
   have f110w := Fld.same W110 f108
   refine oAloadN C d8_192 rfl rfl rfl ?_
   refine oIconst C d8_193 (z := 0) rfl rfl ?_
   have f111 := (Exa.wr W110 f109)
   have f112 := (Fld.other W110 (Fld.other W107 (K100.fld (K85.fld f63_13 (ninS p233 (ninS p237 (ninS p250 (ninS p264 (ninS p274 (ninS p281 nin0)))))) (oNF (Or.inr (oSn0 hw 28 29)) oN0)) (ninS p317 (ninS p328 nin0)) (oNF (Or.inr (oSn0 hw 28 0)) oN0)) (Or.inl p67)) (Or.inr (oSn0 hw 28 27)))
   refine oPutF C (w118 hw) Via.refl f112 f111 (Or.inl (w119 hw)) (w4 hw) (ty := .int) (by decide) rfl rfl d8_194 rfl p3 fun h113 W113 => ?_
   have f113w := Fld.same W113 f112
   refine oRetV C d8_197 (by decide) (by decide) ?_
   have f114 := (Fld.other W113 (Fld.other W110 (Fld.other W107 f100_1 (Or.inl p67)) (Or.inr (oSn0 hw 0 27))) (Or.inr (oSn0 hw 0 28)))
   have f115 := ((((K100.arr f85_3 (ninS p355 (ninS p354 nin0)) (oAS p16 oA0)).other W107 p246).other W110 p16).other W113 p16)
   have f116 := ((((K100.arr f85_4 (ninS p357 (ninS p356 nin0)) (oAS p20 oA0)).other W107 p259).other W110 p20).other W113 p20)
   have f117 := (Fld.other W113 (Fld.other W110 (Fld.other W107 (K100.fld (K85.fld (K63.fld f20w (ninS p67 (ninS p70 (ninS p74 (ninS p79 (ninS p85 (ninS p92 (ninS p110 (ninS p126 (ninS p138 nin0))))))))) (oNF (Or.inr (oSn0 hw 21 22)) (oNF (Or.inr (oSn0 hw 21 23)) (oNF (Or.inr (oSn0 hw 21 24)) (oNF (Or.inr (oSn0 hw 21 25)) (oNF (Or.inr (oSn0 hw 21 26)) (oNF (Or.inr (oSn0 hw 21 27)) (oNF (Or.inr (oSn0 hw 21 28)) oN0)))))))) (ninS p233 (ninS p237 (ninS p250 (ninS p264 (ninS p274 (ninS p281 nin0)))))) (oNF (Or.inr (oSn0 hw 21 29)) oN0)) (ninS p317 (ninS p328 nin0)) (oNF (Or.inr (oSn0 hw 21 0)) oN0)) (Or.inl p67)) (Or.inr (oSn0 hw 21 27))) (Or.inr (oSn0 hw 21 28)))
   have f118 := (Fld.other W113 (Fld.other W110 (Fld.other W107 (K100.fld (K85.fld f63_0 (ninS p233 (ninS p237 (ninS p250 (ninS p264 (ninS p274 (ninS p281 nin0)))))) (oNF (Or.inr (oSn0 hw 22 29)) oN0)) (ninS p317 (ninS p328 nin0)) (oNF (Or.inr (oSn0 hw 22 0)) oN0)) (Or.inl p67)) (Or.inr (oSn0 hw 22 27))) (Or.inr (oSn0 hw 22 28)))
   have f119 := (Fld.other W113 (Fld.other W110 (Fld.other W107 (K100.fld (K85.fld f63_1 (ninS p233 (ninS p237 (ninS p250 (ninS p264 (ninS p274 (ninS p281 nin0)))))) (oNF (Or.inr (oSn0 hw 23 29)) oN0)) (ninS p317 (ninS p328 nin0)) (oNF (Or.inr (oSn0 hw 23 0)) oN0)) (Or.inl p67)) (Or.inr (oSn0 hw 23 27))) (Or.inr (oSn0 hw 23 28)))
   have f120 := (Fld.other W113 (Fld.other W110 (Fld.other W107 (K100.fld (K85.fld f63_2 (ninS p233 (ninS p237 (ninS p250 (ninS p264 (ninS p274 (ninS p281 nin0)))))) (oNF (Or.inr (oSn0 hw 24 29)) oN0)) (ninS p317 (ninS p328 nin0)) (oNF (Or.inr (oSn0 hw 24 0)) oN0)) (Or.inl p67)) (Or.inr (oSn0 hw 24 27))) (Or.inr (oSn0 hw 24 28)))
   have f121 := (Fld.other W113 (Fld.other W110 (Fld.other W107 (K100.fld f87 (ninS p317 (ninS p328 nin0)) (oNF (Or.inr (oSn0 hw 25 0)) oN0)) (Or.inl p67)) (Or.inr (oSn0 hw 25 27))) (Or.inr (oSn0 hw 25 28)))
   have f122 := (Fld.other W113 (Fld.other W110 (Fld.other W107 (K100.fld f88 (ninS p317 (ninS p328 nin0)) (oNF (Or.inr (oSn0 hw 26 0)) oN0)) (Or.inl p67)) (Or.inr (oSn0 hw 26 27))) (Or.inr (oSn0 hw 26 28)))
   have f123 := ((A107l.other W110 p56).other W113 p56)
   have f124 := (Fld.other W113 f110w (Or.inr (oSn0 hw 27 28)))
   have f125 := (((f105.other W107 p68).other W110 p57).other W113 p57)
   have f126 := ((((K100.arr (K85.arr f63_8 (ninS p363 (ninS p362 (ninS p361 (ninS p360 (ninS p359 (ninS p358 nin0)))))) (oAS p58 oA0)) (ninS p365 (ninS p364 nin0)) (oAS p58 oA0)).other W107 p71).other W110 p58).other W113 p58)
   have f127 := ((((K100.arr (K85.arr f63_9 (ninS p371 (ninS p370 (ninS p369 (ninS p368 (ninS p367 (ninS p366 nin0)))))) (oAS p59 oA0)) (ninS p373 (ninS p372 nin0)) (oAS p59 oA0)).other W107 p75).other W110 p59).other W113 p59)
   have f128 := ((((K100.arr (K85.arr f63_10 (ninS p379 (ninS p378 (ninS p377 (ninS p376 (ninS p375 (ninS p374 nin0)))))) (oAS p60 oA0)) (ninS p381 (ninS p380 nin0)) (oAS p60 oA0)).other W107 p80).other W110 p60).other W113 p60)
   have f129 := ((((K100.arr f97 (ninS p325 (ninS p382 nin0)) (oAS p61 oA0)).other W107 p86).other W110 p61).other W113 p61)
   have f130 := ((((K100.arr f99 (ninS p335 (ninS p336 nin0)) (oAS p62 oA0)).other W107 p93).other W110 p62).other W113 p62)
   have f131 := ((((K100.arr (K85.arr f63_14 (ninS p388 (ninS p387 (ninS p386 (ninS p385 (ninS p384 (ninS p383 nin0)))))) (oAS p63 oA0)) (ninS p390 (ninS p389 nin0)) (oAS p63 oA0)).other W107 p111).other W110 p63).other W113 p63)
   have f132 := ((((K100.arr (K85.arr f63_15 (ninS p396 (ninS p395 (ninS p394 (ninS p393 (ninS p392 (ninS p391 nin0)))))) (oAS p64 oA0)) (ninS p398 (ninS p397 nin0)) (oAS p64 oA0)).other W107 p118).other W110 p64).other W113 p64)
   have f133 := (((f100_0.other W107 p174).other W110 p165).other W113 p165)
   have f134 := ((((K100.arr f85_5 (ninS p400 (ninS p399 nin0)) (oAS p175 oA0)).other W107 p184).other W110 p175).other W113 p175)
   have f135 := ((((K100.arr f85_6 (ninS p402 (ninS p401 nin0)) (oAS p186 oA0)).other W107 p195).other W110 p186).other W113 p186)
   have f136 := ((((K100.arr f85_0 (ninS p318 (ninS p403 nin0)) (oAS p212 oA0)).other W107 p221).other W110 p212).other W113 p212)
   have f137 := (Fld.other W113 (Fld.other W110 (Fld.other W107 (K100.fld f85_1 (ninS p317 (ninS p328 nin0)) (oNF (Or.inr (oSn0 hw 29 0)) oN0)) (Or.inl p67)) (Or.inr (oSn0 hw 29 27))) (Or.inr (oSn0 hw 29 28)))
   have f138 := ((((K100.arr f85_2 (ninS p405 (ninS p404 nin0)) (oAS p222 oA0)).other W107 p231).other W110 p222).other W113 p222)
   have f139 := (((f100_2.other W107 p309).other W110 p300).other W113 p300)
   exact ⟨rfl, (((((((((((oKe.refl h0 [b10, b11, b12, b13, b14, b15, b16, b17, b18, b22, b23, b8, b9, b20, b21, b24, b19] [(b1, Jvm.RoadKit.slotOf Z cU "displaced" "I"), (b1, Jvm.RoadKit.slotOf Z cU "searches" "I"), (b1, Jvm.RoadKit.slotOf Z cU "sinkMoney" "J"), (b1, Jvm.RoadKit.slotOf Z cU "sinkSales" "J"), (b1, Jvm.RoadKit.slotOf Z cU "sinkMoves" "I"), (b1, Jvm.RoadKit.slotOf Z cU "sinkEnd" "I"), (b1, Jvm.RoadKit.slotOf Z cU "sinkGoesWithout" "Z"), (b1, Jvm.RoadKit.slotOf Z cU "touchedCount" "I"), (b1, Jvm.RoadKit.slotOf Z cU "heapSize" "I"), (b1, Jvm.RoadKit.slotOf Z cU "changedCount" "I")]).wrF W1 (Or.inl (List.mem_of_getElem? (i := 0) rfl))).trans K10 all0 oA0).trans K14 all0 oA0).wrF W20 (Or.inl (List.mem_of_getElem? (i := 1) rfl))).trans K63 (allS (Or.inl (List.mem_of_getElem? (i := 0) rfl)) (allS (Or.inl (List.mem_of_getElem? (i := 1) rfl)) (allS (Or.inl (List.mem_of_getElem? (i := 2) rfl)) (allS (Or.inl (List.mem_of_getElem? (i := 3) rfl)) (allS (Or.inl (List.mem_of_getElem? (i := 4) rfl)) (allS (Or.inl (List.mem_of_getElem? (i := 5) rfl)) (allS (Or.inl (List.mem_of_getElem? (i := 6) rfl)) (allS (Or.inl (List.mem_of_getElem? (i := 7) rfl)) (allS (Or.inl (List.mem_of_getElem? (i := 8) rfl)) all0))))))))) (oAS (Or.inl (List.mem_of_getElem? (i := 2) rfl)) (oAS (Or.inl (List.mem_of_getElem? (i := 3) rfl)) (oAS (Or.inl (List.mem_of_getElem? (i := 4) rfl)) (oAS (Or.inl (List.mem_of_getElem? (i := 5) rfl)) (oAS (Or.inl (List.mem_of_getElem? (i := 6) rfl)) (oAS (Or.inl (List.mem_of_getElem? (i := 7) rfl)) (oAS (Or.inl (List.mem_of_getElem? (i := 8) rfl)) oA0)))))))).trans K85 (allS (Or.inl (List.mem_of_getElem? (i := 9) rfl)) (allS (Or.inl (List.mem_of_getElem? (i := 10) rfl)) (allS (Or.inl (List.mem_of_getElem? (i := 11) rfl)) (allS (Or.inl (List.mem_of_getElem? (i := 12) rfl)) (allS (Or.inl (List.mem_of_getElem? (i := 13) rfl)) (allS (Or.inl (List.mem_of_getElem? (i := 14) rfl)) all0)))))) (oAS (Or.inl (List.mem_of_getElem? (i := 9) rfl)) oA0)).trans K100 (allS (Or.inl (List.mem_of_getElem? (i := 15) rfl)) (allS (Or.inl (List.mem_of_getElem? (i := 16) rfl)) all0)) (oAS (Or.inl (List.mem_of_getElem? (i := 0) rfl)) oA0)).wrA W107 (Or.inl (List.mem_of_getElem? (i := 0) rfl))).wrF W110 (Or.inl (List.mem_of_getElem? (i := 7) rfl))).wrF W113 (Or.inl (List.mem_of_getElem? (i := 8) rfl))), f114, f115, f116, f117, f118, f119, f120, f121, f122, f123, f124, f125, f126, f127, f128, f129, f130, f113w, f131, f132, f133, f134, f135, f136, f137, f138, f139⟩
  ·
   refine oLloadN C d8_111 rfl rfl ?_
   refine oLconst C d8_112 (z := 0) rfl rfl ?_
   refine oLcmp_ne C d8_113 rfl d8_114 (q := 125) (by decide) (by decide) (r := 117) rfl (fun hc113 => ?_) (fun hq => absurd hq (p21))
   exact J125 () trivial
theorem ef_22 (m : MethodId) (x0 : Addr) (x1 : Int32) : entryFrame m #[.ref x0, .int x1] 3 = mkF m 0 #[.val (.ref x0), .val (.int x1), .unset] [] := by first | (simp [entryFrame, mkF, argsToLocals, Value.category]; done) | rfl
theorem d22_0 : decode prog_54_method_11_code 0 = .ok (.aload_n 0, 1) := by decide +kernel
theorem d22_1 : decode prog_54_method_11_code 1 = .ok (.getfield 30, 3) := by decide +kernel
theorem d22_4 : decode prog_54_method_11_code 4 = .ok (.iload_n 1, 1) := by decide +kernel
theorem d22_5 : decode prog_54_method_11_code 5 = .ok (.iaload, 1) := by decide +kernel
theorem d22_6 : decode prog_54_method_11_code 6 = .ok (.istore_n 2, 1) := by decide +kernel
theorem d22_7 : decode prog_54_method_11_code 7 = .ok (.iload_n 2, 1) := by decide +kernel
theorem d22_8 : decode prog_54_method_11_code 8 = .ok (.iconst (-1), 1) := by decide +kernel
theorem d22_9 : decode prog_54_method_11_code 9 = .ok (.if_icmp .eq 18, 3) := by decide +kernel
theorem d22_12 : decode prog_54_method_11_code 12 = .ok (.aload_n 0, 1) := by decide +kernel
theorem d22_13 : decode prog_54_method_11_code 13 = .ok (.getfield 42, 3) := by decide +kernel
theorem d22_16 : decode prog_54_method_11_code 16 = .ok (.iload_n 2, 1) := by decide +kernel
theorem d22_17 : decode prog_54_method_11_code 17 = .ok (.dup2, 1) := by decide +kernel
theorem d22_18 : decode prog_54_method_11_code 18 = .ok (.laload, 1) := by decide +kernel
theorem d22_19 : decode prog_54_method_11_code 19 = .ok (.aload_n 0, 1) := by decide +kernel
theorem d22_20 : decode prog_54_method_11_code 20 = .ok (.getfield 27, 3) := by decide +kernel
theorem d22_23 : decode prog_54_method_11_code 23 = .ok (.iload_n 1, 1) := by decide +kernel
theorem d22_24 : decode prog_54_method_11_code 24 = .ok (.laload, 1) := by decide +kernel
theorem d22_25 : decode prog_54_method_11_code 25 = .ok (.ladd, 1) := by decide +kernel
theorem d22_26 : decode prog_54_method_11_code 26 = .ok (.lastore, 1) := by decide +kernel
theorem d22_27 : decode prog_54_method_11_code 27 = .ok (.aload_n 0, 1) := by decide +kernel
theorem d22_28 : decode prog_54_method_11_code 28 = .ok (.getfield 24, 3) := by decide +kernel
theorem d22_31 : decode prog_54_method_11_code 31 = .ok (.iload_n 1, 1) := by decide +kernel
theorem d22_32 : decode prog_54_method_11_code 32 = .ok (.lconst 0, 1) := by decide +kernel
theorem d22_33 : decode prog_54_method_11_code 33 = .ok (.lastore, 1) := by decide +kernel
theorem d22_34 : decode prog_54_method_11_code 34 = .ok (.aload_n 0, 1) := by decide +kernel
theorem d22_35 : decode prog_54_method_11_code 35 = .ok (.getfield 27, 3) := by decide +kernel
theorem d22_38 : decode prog_54_method_11_code 38 = .ok (.iload_n 1, 1) := by decide +kernel
theorem d22_39 : decode prog_54_method_11_code 39 = .ok (.lconst 0, 1) := by decide +kernel
theorem d22_40 : decode prog_54_method_11_code 40 = .ok (.lastore, 1) := by decide +kernel
theorem d22_41 : decode prog_54_method_11_code 41 = .ok (.return_, 1) := by decide +kernel
set_option maxRecDepth 65536 in
set_option maxHeartbeats 40000000 in
theorem ac22_33 (l : Launch) (Z : State) (a0 : Array Value) (hw : oHw a0 Z) (h0 : Heap) (n0 : Nat) (Z0 : n0 ≤ h0.size) (b1 : Addr) (b2 : Addr) (b3 : Addr) (b4 : Addr) (b5 : Addr) (y6 : Int64) (p1 : Fld Z h0 b1 cU "holder" "[I" (.ref b2)) (p2 : oAr Z h0 b2 .int [.int 1, .int (-1)]) (p3 : Fld Z h0 b1 cU "utilitySales" "[J" (.ref b3)) (p4 : oAr Z h0 b3 .long [.long 0, .long 0, .long 0]) (p5 : Fld Z h0 b1 cU "priceSales" "[J" (.ref b4)) (p6 : oAr Z h0 b4 .long [.long 1, .long 0]) (p7 : n0 ≤ b3) (p8 : Fld Z h0 b1 cU "priceMoney" "[J" (.ref b5)) (p9 : b1 ≠ b3) (p10 : oAr Z h0 b5 .long [.long y6, .long 0]) (p11 : b5 ≠ b3) (p12 : n0 ≤ b5) (p13 : b1 ≠ b5) (p14 : b4 ≠ b3) (p15 : b4 ≠ b5) (p16 : n0 ≤ b4) (p17 : b3 ≠ b5) (p18 : b3 ≠ b4) (p19 : b5 ≠ b4) :
    oMet l Z (⟨cU, "resetPrice", "(I)V"⟩ : MethodName) prog_54_method_11_code 3 none [] ({ frames := 0, cells := 0, slots := 0, locals := 0 } : Room) 0 0 n0 #[.ref b1, .int 0] h0 (fun v h => v = none ∧ oKe h0 h [b3, b5, b4] [] ∧ oAr Z h b3 .long [.long 0, .long 1, .long 0] ∧ oAr Z h b4 .long [.long 0, .long 0] ∧ oAr Z h b5 .long [.long 0, .long 0]) := by
  refine oMet.intro (plainFor_of_name pn_944982) (fun m => ef_22 m b1 (0 : Int32)) ?_
  intro op oe os m obl omt ocd C
  refine oAloadN C d22_0 rfl rfl rfl ?_
  refine oGetF C (w24 hw) Via.refl p1 d22_1 rfl ?_
  refine oIloadN C d22_4 rfl rfl ?_
  refine oIaload C p2 (by decide) (k := 0) rfl (v := .int 1) rfl d22_5 rfl ?_
  refine oIstoreN C d22_6 (Ls' := #[.val (.ref b1), .val (.int 0), .val (.int 1)]) rfl (q := 7) rfl ?_
  refine oIloadN C d22_7 rfl rfl ?_
  refine oIconst C d22_8 (z := (-1)) rfl rfl ?_
  refine oIcmp_eq C d22_9 (q := 27) (by decide) (by decide) (r := 12) rfl (fun hq => absurd hq ((by decide))) (fun hc9 => ?_)
  refine oAloadN C d22_12 rfl rfl rfl ?_
  refine oGetF C (w32 hw) Via.refl p3 d22_13 rfl ?_
  refine oIloadN C d22_16 rfl rfl ?_
  refine oDup2 C d22_17 rfl rfl rfl ?_
  refine oLaload C p4 (by decide) (k := 1) rfl (v := .long 0) rfl d22_18 rfl ?_
  refine oAloadN C d22_19 rfl rfl rfl ?_
  refine oGetF C (w22 hw) Via.refl p5 d22_20 rfl ?_
  refine oIloadN C d22_23 rfl rfl ?_
  refine oLaload C p6 (by decide) (k := 0) rfl (v := .long 1) rfl d22_24 rfl ?_
  refine oLadd C d22_25 rfl ?_
  refine oCastL (z' := (1 : Int64)) (by decide) ?_
  refine oLastore C p4 (by decide) (k := 1) rfl (v := .long 0) rfl (v' := .long 1) rfl d22_26 rfl p7 fun h1 W1 A1 => ?_
  have A1l : oAr Z h1 b3 .long [.long 0, .long 1, .long 0] := A1
  refine oAloadN C d22_27 rfl rfl rfl ?_
  have f2 := (Fld.other W1 p8 (Or.inl p9))
  refine oGetF C (w20 hw) Via.refl f2 d22_28 rfl ?_
  refine oIloadN C d22_31 rfl rfl ?_
  refine oLconst C d22_32 (z := 0) rfl rfl ?_
  have f3 := (p10.other W1 p11)
  refine oLastore C f3 (by decide) (k := 0) rfl (v := .long y6) rfl (v' := .long 0) rfl d22_33 rfl p12 fun h4 W4 A4 => ?_
  have A4l : oAr Z h4 b5 .long [.long 0, .long 0] := A4
  refine oAloadN C d22_34 rfl rfl rfl ?_
  have f5 := (Fld.other W4 (Fld.other W1 p5 (Or.inl p9)) (Or.inl p13))
  refine oGetF C (w22 hw) Via.refl f5 d22_35 rfl ?_
  refine oIloadN C d22_38 rfl rfl ?_
  refine oLconst C d22_39 (z := 0) rfl rfl ?_
  have f6 := ((p6.other W1 p14).other W4 p15)
  refine oLastore C f6 (by decide) (k := 0) rfl (v := .long 1) rfl (v' := .long 0) rfl d22_40 rfl p16 fun h7 W7 A7 => ?_
  have A7l : oAr Z h7 b4 .long [.long 0, .long 0] := A7
  refine oRetV C d22_41 (by decide) (by decide) ?_
  have f8 := ((A1l.other W4 p17).other W7 p18)
  have f9 := (A4l.other W7 p19)
  exact ⟨rfl, ((((oKe.refl h0 [b3, b5, b4] []).wrA W1 (Or.inl (List.mem_of_getElem? (i := 0) rfl))).wrA W4 (Or.inl (List.mem_of_getElem? (i := 1) rfl))).wrA W7 (Or.inl (List.mem_of_getElem? (i := 2) rfl))), f8, A7l, f9⟩
theorem ef_23 (m : MethodId) (x0 : Addr) (x1 : Int32) (x2 : Int64) : entryFrame m #[.ref x0, .int x1, .long x2] 4 = mkF m 0 #[.val (.ref x0), .val (.int x1), .val (.long x2), .second] [] := by first | (simp [entryFrame, mkF, argsToLocals, Value.category]; done) | rfl
theorem d23_0 : decode prog_54_method_10_code 0 = .ok (.aload_n 0, 1) := by decide +kernel
theorem d23_1 : decode prog_54_method_10_code 1 = .ok (.getfield 20, 3) := by decide +kernel
theorem d23_4 : decode prog_54_method_10_code 4 = .ok (.iload_n 1, 1) := by decide +kernel
theorem d23_5 : decode prog_54_method_10_code 5 = .ok (.lload_n 2, 1) := by decide +kernel
theorem d23_6 : decode prog_54_method_10_code 6 = .ok (.lastore, 1) := by decide +kernel
theorem d23_7 : decode prog_54_method_10_code 7 = .ok (.return_, 1) := by decide +kernel
set_option maxRecDepth 65536 in
set_option maxHeartbeats 40000000 in
theorem ac23_34 (l : Launch) (Z : State) (a0 : Array Value) (hw : oHw a0 Z) (h0 : Heap) (n0 : Nat) (Z0 : n0 ≤ h0.size) (b1 : Addr) (y2 : Int64) (b3 : Addr) (y4 : Int64) (y5 : Int64) (y6 : Int64) (p1 : Fld Z h0 b1 cU "offerWeight" "[J" (.ref b3)) (p2 : oAr Z h0 b3 .long [.long y4, .long y5, .long y6]) (p3 : n0 ≤ b3) :
    oMet l Z (⟨cU, "setWeight", "(IJ)V"⟩ : MethodName) prog_54_method_10_code 4 none [] ({ frames := 0, cells := 0, slots := 0, locals := 0 } : Room) 0 0 n0 #[.ref b1, .int 1, .long y2] h0 (fun v h => v = none ∧ oKe h0 h [b3] [] ∧ oAr Z h b3 .long [.long y4, .long y2, .long y6]) := by
  refine oMet.intro (plainFor_of_name pn_944982) (fun m => ef_23 m b1 (1 : Int32) y2) ?_
  intro op oe os m obl omt ocd C
  refine oAloadN C d23_0 rfl rfl rfl ?_
  refine oGetF C (w18 hw) Via.refl p1 d23_1 rfl ?_
  refine oIloadN C d23_4 rfl rfl ?_
  refine oLloadN C d23_5 rfl rfl ?_
  refine oLastore C p2 (by decide) (k := 1) rfl (v := .long y5) rfl (v' := .long y2) rfl d23_6 rfl p3 fun h1 W1 A1 => ?_
  have A1l : oAr Z h1 b3 .long [.long y4, .long y2, .long y6] := A1
  refine oRetV C d23_7 (by decide) (by decide) ?_
  exact ⟨rfl, ((oKe.refl h0 [b3] []).wrA W1 (Or.inl (List.mem_of_getElem? (i := 0) rfl))), A1l⟩
theorem pd_964411 : parseMethodDescriptor "(IJ)V" = some ⟨[.int, .long], none⟩ := by decide +kernel
theorem ef_24 (m : MethodId) (x0 : Addr) (x1 : Int32) : entryFrame m #[.ref x0, .int x1] 2 = mkF m 0 #[.val (.ref x0), .val (.int x1)] [] := by first | (simp [entryFrame, mkF, argsToLocals, Value.category]; done) | rfl
theorem d24_0 : decode prog_54_method_3_code 0 = .ok (.aload_n 0, 1) := by decide +kernel
theorem d24_1 : decode prog_54_method_3_code 1 = .ok (.getfield 24, 3) := by decide +kernel
theorem d24_4 : decode prog_54_method_3_code 4 = .ok (.iload_n 1, 1) := by decide +kernel
theorem d24_5 : decode prog_54_method_3_code 5 = .ok (.laload, 1) := by decide +kernel
theorem d24_6 : decode prog_54_method_3_code 6 = .ok (.lreturn, 1) := by decide +kernel
set_option maxRecDepth 65536 in
set_option maxHeartbeats 40000000 in
theorem ac24_35 (l : Launch) (Z : State) (a0 : Array Value) (hw : oHw a0 Z) (h0 : Heap) (n0 : Nat) (Z0 : n0 ≤ h0.size) (b1 : Addr) (b2 : Addr) (p1 : Fld Z h0 b1 cU "priceMoney" "[J" (.ref b2)) (p2 : oAr Z h0 b2 .long [.long 0, .long 0]) :
    oMet l Z (⟨cU, "price", "(I)J"⟩ : MethodName) prog_54_method_3_code 2 (some .long) [] ({ frames := 0, cells := 0, slots := 0, locals := 0 } : Room) 0 0 n0 #[.ref b1, .int 0] h0 (fun v h => v = some (.long 0) ∧ oKe h0 h [] []) := by
  refine oMet.intro (plainFor_of_name pn_944982) (fun m => ef_24 m b1 (0 : Int32)) ?_
  intro op oe os m obl omt ocd C
  refine oAloadN C d24_0 rfl rfl rfl ?_
  refine oGetF C (w20 hw) Via.refl p1 d24_1 rfl ?_
  refine oIloadN C d24_4 rfl rfl ?_
  refine oLaload C p2 (by decide) (k := 0) rfl (v := .long 0) rfl d24_5 rfl ?_
  refine oRetL C d24_6 (by decide) (by decide) ?_
  exact ⟨rfl, (oKe.refl h0 [] [])⟩
theorem pd_674829 : parseMethodDescriptor "(I)J" = some ⟨[.int], some .long⟩ := by decide +kernel
theorem ef_25 (m : MethodId) (x0 : Addr) (x1 : Int32) : entryFrame m #[.ref x0, .int x1] 2 = mkF m 0 #[.val (.ref x0), .val (.int x1)] [] := by first | (simp [entryFrame, mkF, argsToLocals, Value.category]; done) | rfl
theorem d25_0 : decode prog_54_method_2_code 0 = .ok (.aload_n 0, 1) := by decide +kernel
theorem d25_1 : decode prog_54_method_2_code 1 = .ok (.getfield 30, 3) := by decide +kernel
theorem d25_4 : decode prog_54_method_2_code 4 = .ok (.iload_n 1, 1) := by decide +kernel
theorem d25_5 : decode prog_54_method_2_code 5 = .ok (.iaload, 1) := by decide +kernel
theorem d25_6 : decode prog_54_method_2_code 6 = .ok (.ireturn, 1) := by decide +kernel
set_option maxRecDepth 65536 in
set_option maxHeartbeats 40000000 in
theorem ac25_36 (l : Launch) (Z : State) (a0 : Array Value) (hw : oHw a0 Z) (h0 : Heap) (n0 : Nat) (Z0 : n0 ≤ h0.size) (b1 : Addr) (b2 : Addr) (p1 : Fld Z h0 b1 cU "holder" "[I" (.ref b2)) (p2 : oAr Z h0 b2 .int [.int 1, .int (-1)]) :
    oMet l Z (⟨cU, "holder", "(I)I"⟩ : MethodName) prog_54_method_2_code 2 (some .int) [] ({ frames := 0, cells := 0, slots := 0, locals := 0 } : Room) 0 0 n0 #[.ref b1, .int 0] h0 (fun v h => v = some (.int 1) ∧ oKe h0 h [] []) := by
  refine oMet.intro (plainFor_of_name pn_944982) (fun m => ef_25 m b1 (0 : Int32)) ?_
  intro op oe os m obl omt ocd C
  refine oAloadN C d25_0 rfl rfl rfl ?_
  refine oGetF C (w24 hw) Via.refl p1 d25_1 rfl ?_
  refine oIloadN C d25_4 rfl rfl ?_
  refine oIaload C p2 (by decide) (k := 0) rfl (v := .int 1) rfl d25_5 rfl ?_
  refine oRetI C d25_6 (by decide) (by decide) ?_
  exact ⟨rfl, (oKe.refl h0 [] [])⟩
theorem pd_674828 : parseMethodDescriptor "(I)I" = some ⟨[.int], some .int⟩ := by decide +kernel
set_option maxRecDepth 65536 in
set_option maxHeartbeats 40000000 in
theorem ac14_37 (l : Launch) (Z : State) (a0 : Array Value) (hw : oHw a0 Z) (h0 : Heap) (n0 : Nat) (Z0 : n0 ≤ h0.size) (b1 : Addr) (b2 : Addr) (b3 : Addr) (b4 : Addr) (b5 : Addr) (b6 : Addr) (p1 : Fld Z h0 b1 cU "distMoney" "[J" (.ref b2)) (p2 : oAr Z h0 b2 .long [.long 0, .long 0]) (p3 : n0 ≤ b2) (p4 : Fld Z h0 b1 cU "distSales" "[J" (.ref b3)) (p5 : b1 ≠ b2) (p6 : oAr Z h0 b3 .long [.long 0, .long 0]) (p7 : b3 ≠ b2) (p8 : n0 ≤ b3) (p9 : Fld Z h0 b1 cU "hops" "[I" (.ref b4)) (p10 : b1 ≠ b3) (p11 : oAr Z h0 b4 .int [.int 1, .int 0]) (p12 : b4 ≠ b2) (p13 : b4 ≠ b3) (p14 : n0 ≤ b4) (p15 : Fld Z h0 b1 cU "pred" "[I" (.ref b5)) (p16 : b1 ≠ b4) (p17 : oAr Z h0 b5 .int [.int (-1), .int 0]) (p18 : b5 ≠ b2) (p19 : b5 ≠ b3) (p20 : b5 ≠ b4) (p21 : n0 ≤ b5) (p22 : Fld Z h0 b1 cU "predOffer" "[I" (.ref b6)) (p23 : b1 ≠ b5) (p24 : oAr Z h0 b6 .int [.int 1, .int 0]) (p25 : b6 ≠ b2) (p26 : b6 ≠ b3) (p27 : b6 ≠ b4) (p28 : b6 ≠ b5) (p29 : n0 ≤ b6) (p30 : b2 ≠ b3) (p31 : b2 ≠ b4) (p32 : b2 ≠ b5) (p33 : b2 ≠ b6) (p34 : b3 ≠ b4) (p35 : b3 ≠ b5) (p36 : b3 ≠ b6) (p37 : b4 ≠ b5) (p38 : b4 ≠ b6) (p39 : b5 ≠ b6) :
    oMet l Z (⟨cU, "setLabel", "(IJJIII)V"⟩ : MethodName) prog_54_method_17_code 9 none [] ({ frames := 0, cells := 0, slots := 0, locals := 0 } : Room) 0 0 n0 #[.ref b1, .int 0, .long 0, .long 0, .int 1, .int (-1), .int 2] h0 (fun v h => v = none ∧ oKe h0 h [b2, b3, b4, b5, b6] [] ∧ oAr Z h b2 .long [.long 0, .long 0] ∧ oAr Z h b3 .long [.long 0, .long 0] ∧ oAr Z h b4 .int [.int 1, .int 0] ∧ oAr Z h b5 .int [.int (-1), .int 0] ∧ oAr Z h b6 .int [.int 2, .int 0]) := by
  refine oMet.intro (plainFor_of_name pn_944982) (fun m => ef_14 m b1 (0 : Int32) (0 : Int64) (0 : Int64) (1 : Int32) (-1 : Int32) (2 : Int32)) ?_
  intro op oe os m obl omt ocd C
  refine oAloadN C d14_0 rfl rfl rfl ?_
  refine oGetF C (w36 hw) Via.refl p1 d14_1 rfl ?_
  refine oIloadN C d14_4 rfl rfl ?_
  refine oLloadN C d14_5 rfl rfl ?_
  refine oLastore C p2 (by decide) (k := 0) rfl (v := .long 0) rfl (v' := .long 0) rfl d14_6 rfl p3 fun h1 W1 A1 => ?_
  have A1l : oAr Z h1 b2 .long [.long 0, .long 0] := A1
  refine oAloadN C d14_7 rfl rfl rfl ?_
  have f2 := (Fld.other W1 p4 (Or.inl p5))
  refine oGetF C (w38 hw) Via.refl f2 d14_8 rfl ?_
  refine oIloadN C d14_11 rfl rfl ?_
  refine oLload C d14_12 rfl rfl ?_
  have f3 := (p6.other W1 p7)
  refine oLastore C f3 (by decide) (k := 0) rfl (v := .long 0) rfl (v' := .long 0) rfl d14_14 rfl p8 fun h4 W4 A4 => ?_
  have A4l : oAr Z h4 b3 .long [.long 0, .long 0] := A4
  refine oAloadN C d14_15 rfl rfl rfl ?_
  have f5 := (Fld.other W4 (Fld.other W1 p9 (Or.inl p5)) (Or.inl p10))
  refine oGetF C (w40 hw) Via.refl f5 d14_16 rfl ?_
  refine oIloadN C d14_19 rfl rfl ?_
  refine oIload C d14_20 rfl rfl ?_
  have f6 := ((p11.other W1 p12).other W4 p13)
  refine oIastore C f6 (by decide) (k := 0) rfl (v := .int 1) rfl (v' := .int 1) rfl d14_22 rfl p14 fun h7 W7 A7 => ?_
  have A7l : oAr Z h7 b4 .int [.int 1, .int 0] := A7
  refine oAloadN C d14_23 rfl rfl rfl ?_
  have f8 := (Fld.other W7 (Fld.other W4 (Fld.other W1 p15 (Or.inl p5)) (Or.inl p10)) (Or.inl p16))
  refine oGetF C (w42 hw) Via.refl f8 d14_24 rfl ?_
  refine oIloadN C d14_27 rfl rfl ?_
  refine oIload C d14_28 rfl rfl ?_
  have f9 := (((p17.other W1 p18).other W4 p19).other W7 p20)
  refine oIastore C f9 (by decide) (k := 0) rfl (v := .int (-1)) rfl (v' := .int (-1)) rfl d14_30 rfl p21 fun h10 W10 A10 => ?_
  have A10l : oAr Z h10 b5 .int [.int (-1), .int 0] := A10
  refine oAloadN C d14_31 rfl rfl rfl ?_
  have f11 := (Fld.other W10 (Fld.other W7 (Fld.other W4 (Fld.other W1 p22 (Or.inl p5)) (Or.inl p10)) (Or.inl p16)) (Or.inl p23))
  refine oGetF C (w44 hw) Via.refl f11 d14_32 rfl ?_
  refine oIloadN C d14_35 rfl rfl ?_
  refine oIload C d14_36 rfl rfl ?_
  have f12 := ((((p24.other W1 p25).other W4 p26).other W7 p27).other W10 p28)
  refine oIastore C f12 (by decide) (k := 0) rfl (v := .int 1) rfl (v' := .int 2) rfl d14_38 rfl p29 fun h13 W13 A13 => ?_
  have A13l : oAr Z h13 b6 .int [.int 2, .int 0] := A13
  refine oRetV C d14_39 (by decide) (by decide) ?_
  have f14 := ((((A1l.other W4 p30).other W7 p31).other W10 p32).other W13 p33)
  have f15 := (((A4l.other W7 p34).other W10 p35).other W13 p36)
  have f16 := ((A7l.other W10 p37).other W13 p38)
  have f17 := (A10l.other W13 p39)
  exact ⟨rfl, ((((((oKe.refl h0 [b2, b3, b4, b5, b6] []).wrA W1 (Or.inl (List.mem_of_getElem? (i := 0) rfl))).wrA W4 (Or.inl (List.mem_of_getElem? (i := 1) rfl))).wrA W7 (Or.inl (List.mem_of_getElem? (i := 2) rfl))).wrA W10 (Or.inl (List.mem_of_getElem? (i := 3) rfl))).wrA W13 (Or.inl (List.mem_of_getElem? (i := 4) rfl))), f14, f15, f16, f17, A13l⟩
set_option maxRecDepth 65536 in
set_option maxHeartbeats 40000000 in
theorem ac12_38 (l : Launch) (Z : State) (a0 : Array Value) (hw : oHw a0 Z) (h0 : Heap) (n0 : Nat) (Z0 : n0 ≤ h0.size) (b1 : Addr) (y2 : Int64) (b3 : Addr) (b4 : Addr) (b5 : Addr) (b6 : Addr) (b7 : Addr) (b8 : Addr) (b9 : Addr) (b10 : Addr) (b11 : Addr) (p1 : Fld Z h0 b1 cU "sinkMoney" "J" (.long y2)) (p2 : Fld Z h0 b1 cU "sinkSales" "J" (.long 1)) (p3 : (0 : Int64) < y2) (p4 : Exa Z h0 b1 cU) (p5 : Fld Z h0 b1 cU "mark" "[B" (.ref b3)) (p6 : oAr Z h0 b3 .byte [.int 0, .int 0]) (p7 : n0 ≤ b3) (p8 : Fld Z h0 b1 cU "touched" "[I" (.ref b4)) (p9 : b1 ≠ b3) (p10 : Fld Z h0 b1 cU "touchedCount" "I" (.int 0)) (p11 : n0 ≤ b1) (p12 : oAr Z h0 b4 .int [.int 0, .int 0]) (p13 : b4 ≠ b3) (p14 : b4 ≠ b1) (p15 : n0 ≤ b4) (p16 : Fld Z h0 b1 cU "distMoney" "[J" (.ref b5)) (p17 : oAr Z h0 b5 .long [.long 0, .long 0]) (p18 : Fld Z h0 b1 cU "distSales" "[J" (.ref b6)) (p19 : oAr Z h0 b6 .long [.long 0, .long 0]) (p20 : Fld Z h0 b1 cU "hops" "[I" (.ref b7)) (p21 : oAr Z h0 b7 .int [.int 1, .int 0]) (p22 : Fld Z h0 b1 cU "pred" "[I" (.ref b8)) (p23 : oAr Z h0 b8 .int [.int (-1), .int 0]) (p24 : Fld Z h0 b1 cU "predOffer" "[I" (.ref b9)) (p25 : oAr Z h0 b9 .int [.int 1, .int 0]) (p26 : b1 ≠ b4) (p27 : b5 ≠ b3) (p28 : b5 ≠ b1) (p29 : b5 ≠ b4) (p30 : n0 ≤ b5) (p31 : b1 ≠ b5) (p32 : b6 ≠ b3) (p33 : b6 ≠ b1) (p34 : b6 ≠ b4) (p35 : b6 ≠ b5) (p36 : n0 ≤ b6) (p37 : b1 ≠ b6) (p38 : b7 ≠ b3) (p39 : b7 ≠ b1) (p40 : b7 ≠ b4) (p41 : b7 ≠ b5) (p42 : b7 ≠ b6) (p43 : n0 ≤ b7) (p44 : b1 ≠ b7) (p45 : b8 ≠ b3) (p46 : b8 ≠ b1) (p47 : b8 ≠ b4) (p48 : b8 ≠ b5) (p49 : b8 ≠ b6) (p50 : b8 ≠ b7) (p51 : n0 ≤ b8) (p52 : b1 ≠ b8) (p53 : b9 ≠ b3) (p54 : b9 ≠ b1) (p55 : b9 ≠ b4) (p56 : b9 ≠ b5) (p57 : b9 ≠ b6) (p58 : b9 ≠ b7) (p59 : b9 ≠ b8) (p60 : n0 ≤ b9) (p61 : b5 ≠ b6) (p62 : b5 ≠ b7) (p63 : b5 ≠ b8) (p64 : b5 ≠ b9) (p65 : b6 ≠ b7) (p66 : b6 ≠ b8) (p67 : b6 ≠ b9) (p68 : b7 ≠ b8) (p69 : b7 ≠ b9) (p70 : b8 ≠ b9) (p71 : Fld Z h0 b1 cU "heapSize" "I" (.int 0)) (p72 : b1 ≠ b9) (p73 : Fld Z h0 b1 cU "heap" "[I" (.ref b10)) (p74 : oAr Z h0 b10 .int [.int 0, .int 0]) (p75 : Fld Z h0 b1 cU "heapIndex" "[I" (.ref b11)) (p76 : oAr Z h0 b11 .int [.int 0, .int 0]) (p77 : b10 ≠ b3) (p78 : b10 ≠ b1) (p79 : b10 ≠ b4) (p80 : b10 ≠ b9) (p81 : b10 ≠ b8) (p82 : b10 ≠ b7) (p83 : b10 ≠ b6) (p84 : b10 ≠ b5) (p85 : b11 ≠ b3) (p86 : b11 ≠ b1) (p87 : b11 ≠ b4) (p88 : b11 ≠ b9) (p89 : b11 ≠ b8) (p90 : b11 ≠ b7) (p91 : b11 ≠ b6) (p92 : b11 ≠ b5) (p93 : n0 ≤ b10) (p94 : b1 ≠ b10) (p95 : b11 ≠ b10) (p96 : n0 ≤ b11) (p97 : b10 ≠ b11) (p98 : b3 ≠ b1) (p99 : b3 ≠ b4) (p100 : b3 ≠ b9) (p101 : b3 ≠ b8) (p102 : b3 ≠ b7) (p103 : b3 ≠ b6) (p104 : b3 ≠ b5) (p105 : b3 ≠ b11) (p106 : b3 ≠ b10) (p107 : b1 ≠ b11) (p108 : b4 ≠ b9) (p109 : b4 ≠ b8) (p110 : b4 ≠ b7) (p111 : b4 ≠ b6) (p112 : b4 ≠ b5) (p113 : b4 ≠ b11) (p114 : b4 ≠ b10) (p115 : b5 ≠ b11) (p116 : b5 ≠ b10) (p117 : b6 ≠ b11) (p118 : b6 ≠ b10) (p119 : b7 ≠ b11) (p120 : b7 ≠ b10) (p121 : b8 ≠ b11) (p122 : b8 ≠ b10) (p123 : b9 ≠ b11) (p124 : b9 ≠ b10) :
    oMet l Z (⟨cU, "label", "(IJJIII)V"⟩ : MethodName) prog_54_method_16_code 10 none [] ({ frames := 3, cells := 0, slots := 0, locals := 53 } : Room) 0 0 n0 #[.ref b1, .int 0, .long 0, .long 0, .int 1, .int (-1), .int 2] h0 (fun v h => v = none ∧ oKe h0 h [b3, b4, b5, b6, b7, b8, b9, b10, b11] [(b1, Jvm.RoadKit.slotOf Z cU "touchedCount" "I"), (b1, Jvm.RoadKit.slotOf Z cU "heapSize" "I")] ∧ oAr Z h b3 .byte [.int 1, .int 0] ∧ Fld Z h b1 cU "touchedCount" "I" (.int 1) ∧ oAr Z h b4 .int [.int 0, .int 0] ∧ oAr Z h b5 .long [.long 0, .long 0] ∧ oAr Z h b6 .long [.long 0, .long 0] ∧ oAr Z h b7 .int [.int 1, .int 0] ∧ oAr Z h b8 .int [.int (-1), .int 0] ∧ oAr Z h b9 .int [.int 2, .int 0] ∧ Fld Z h b1 cU "heapSize" "I" (.int 1) ∧ oAr Z h b10 .int [.int 0, .int 0] ∧ oAr Z h b11 .int [.int 0, .int 0]) := by
  refine oMet.intro (plainFor_of_name pn_944982) (fun m => ef_12 m b1 (0 : Int32) (0 : Int64) (0 : Int64) (1 : Int32) (-1 : Int32) (2 : Int32)) ?_
  intro op oe os m obl omt ocd C
  refine oAloadN C d12_0 rfl rfl rfl ?_
  refine oLloadN C d12_1 rfl rfl ?_
  refine oLload C d12_2 rfl rfl ?_
  refine oIload C d12_4 rfl rfl ?_
  refine oIconst C d12_6 (z := 1) rfl rfl ?_
  refine oIsub C d12_7 rfl ?_
  refine oCastI (z' := (0 : Int32)) (by decide) ?_
  refine oCallP C (w108 hw) (w110 hw) (w4 hw) (w109 hw) (w5 hw) (w111 hw) d12_8 p4 (by decide) pd_379829 rfl rfl (a := b1) (argsL := [.long 0, .long 0, .int 0]) (rest := []) rfl (W := 0) rfl (q := 11) rfl (by decide) (by decide) (by decide) (by decide) (ac13_15 l Z a0 hw _ n0 Z0 b1 y2 p1 p2 p3) (oRQ ?_)
  rintro h1 K1
  refine oIf_le C d12_11 (q := 15) (by decide) (by decide) (r := 14) rfl (fun hc11 => ?_) (fun hq => absurd hq ((by decide)))
  refine oAloadN C d12_15 rfl rfl rfl ?_
  have f2 := (K1.fld p5 nin0 oN0)
  refine oGetF C (w47 hw) Via.refl f2 d12_16 rfl ?_
  refine oIloadN C d12_19 rfl rfl ?_
  have f3 := (K1.arr p6 nin0 oA0)
  refine oBaload C f3 (by decide) (k := 0) rfl (v := .int 0) rfl d12_20 rfl ?_
  refine oIf_ne C d12_21 (q := 79) (by decide) (by decide) (r := 24) rfl (fun hq => absurd hq ((by decide))) (fun hc21 => ?_)
  refine oAloadN C d12_24 rfl rfl rfl ?_
  refine oGetF C (w47 hw) Via.refl f2 d12_25 rfl ?_
  refine oIloadN C d12_28 rfl rfl ?_
  refine oIconst C d12_29 (z := 1) rfl rfl ?_
  refine oBastore C f3 (by decide) (k := 0) rfl (v := .int 0) rfl (v' := .int 1) rfl d12_30 rfl p7 fun h4 W4 A4 => ?_
  have A4l : oAr Z h4 b3 .byte [.int 1, .int 0] := A4
  refine oAloadN C d12_31 rfl rfl rfl ?_
  have f5 := (Fld.other W4 (K1.fld p8 nin0 oN0) (Or.inl p9))
  refine oGetF C (w53 hw) Via.refl f5 d12_32 rfl ?_
  refine oAloadN C d12_35 rfl rfl rfl ?_
  refine oDup C d12_36 rfl rfl ?_
  have f6 := (Fld.other W4 (K1.fld p10 nin0 oN0) (Or.inl p9))
  refine oGetF C (w112 hw) Via.refl f6 d12_37 rfl ?_
  refine oDupX1 C d12_40 rfl rfl rfl ?_
  refine oIconst C d12_41 (z := 1) rfl rfl ?_
  refine oIadd C d12_42 rfl ?_
  refine oCastI (z' := (1 : Int32)) (by decide) ?_
  have f7 := (Exa.wr W4 (K1.exa p4))
  refine oPutF C (w112 hw) Via.refl f6 f7 (Or.inl (w113 hw)) (w4 hw) (ty := .int) (by decide) rfl rfl d12_43 rfl p11 fun h8 W8 => ?_
  have f8w := Fld.same W8 f6
  refine oIloadN C d12_46 rfl rfl ?_
  have f9 := (((K1.arr p12 nin0 oA0).other W4 p13).other W8 p14)
  refine oIastore C f9 (by decide) (k := 0) rfl (v := .int 0) rfl (v' := .int 0) rfl d12_47 rfl p15 fun h10 W10 A10 => ?_
  have A10l : oAr Z h10 b4 .int [.int 0, .int 0] := A10
  refine oAloadN C d12_48 rfl rfl rfl ?_
  refine oIloadN C d12_49 rfl rfl ?_
  refine oLloadN C d12_50 rfl rfl ?_
  refine oLload C d12_51 rfl rfl ?_
  refine oIload C d12_53 rfl rfl ?_
  refine oIload C d12_55 rfl rfl ?_
  refine oIload C d12_57 rfl rfl ?_
  have f11 := (Fld.other W10 (Fld.other W8 (Fld.other W4 (K1.fld p16 nin0 oN0) (Or.inl p9)) (Or.inr (oSn0 hw 10 27))) (Or.inl p26))
  have f12 := ((((K1.arr p17 nin0 oA0).other W4 p27).other W8 p28).other W10 p29)
  have f13 := (Fld.other W10 (Fld.other W8 (Fld.other W4 (K1.fld p18 nin0 oN0) (Or.inl p9)) (Or.inr (oSn0 hw 11 27))) (Or.inl p26))
  have f14 := ((((K1.arr p19 nin0 oA0).other W4 p32).other W8 p33).other W10 p34)
  have f15 := (Fld.other W10 (Fld.other W8 (Fld.other W4 (K1.fld p20 nin0 oN0) (Or.inl p9)) (Or.inr (oSn0 hw 12 27))) (Or.inl p26))
  have f16 := ((((K1.arr p21 nin0 oA0).other W4 p38).other W8 p39).other W10 p40)
  have f17 := (Fld.other W10 (Fld.other W8 (Fld.other W4 (K1.fld p22 nin0 oN0) (Or.inl p9)) (Or.inr (oSn0 hw 13 27))) (Or.inl p26))
  have f18 := ((((K1.arr p23 nin0 oA0).other W4 p45).other W8 p46).other W10 p47)
  have f19 := (Fld.other W10 (Fld.other W8 (Fld.other W4 (K1.fld p24 nin0 oN0) (Or.inl p9)) (Or.inr (oSn0 hw 14 27))) (Or.inl p26))
  have f20 := ((((K1.arr p25 nin0 oA0).other W4 p53).other W8 p54).other W10 p55)
  have f22 := (Exa.wr W10 (Exa.wr W8 f7))
  have z23 := (Nat.le_trans (Nat.le_trans (Nat.le_trans (Nat.le_trans Z0 K1.1) (Nat.le_of_eq W4.size.symm)) (Nat.le_of_eq W8.size.symm)) (Nat.le_of_eq W10.size.symm))
  refine oCallP C (w114 hw) (w116 hw) (w4 hw) (w115 hw) (w5 hw) (w117 hw) d12_59 f22 (by decide) pd_477193 rfl rfl (a := b1) (argsL := [.int 0, .long 0, .long 0, .int 1, .int (-1), .int 2]) (rest := []) rfl (W := 0) rfl (q := 62) rfl (by decide) (by decide) (by decide) (by decide) (ac14_37 l Z a0 hw _ n0 z23 b1 b5 b6 b7 b8 b9 f11 f12 p30 f13 p31 f14 p35 p36 f15 p37 f16 p41 p42 p43 f17 p44 f18 p48 p49 p50 p51 f19 p52 f20 p56 p57 p58 p59 p60 p61 p62 p63 p64 p65 p66 p67 p68 p69 p70) (oVQ ?_)
  rintro h21 ⟨K21, f21_0, f21_1, f21_2, f21_3, f21_4⟩
  refine oAloadN C d12_62 rfl rfl rfl ?_
  refine oIloadN C d12_63 rfl rfl ?_
  refine oAloadN C d12_64 rfl rfl rfl ?_
  refine oDup C d12_65 rfl rfl ?_
  have f24 := (K21.fld (Fld.other W10 (Fld.other W8 (Fld.other W4 (K1.fld p71 nin0 oN0) (Or.inl p9)) (Or.inr (oSn0 hw 28 27))) (Or.inl p26)) (ninS p31 (ninS p37 (ninS p44 (ninS p52 (ninS p72 nin0))))) oN0)
  refine oGetF C (w118 hw) Via.refl f24 d12_66 rfl ?_
  refine oDupX1 C d12_69 rfl rfl rfl ?_
  refine oIconst C d12_70 (z := 1) rfl rfl ?_
  refine oIadd C d12_71 rfl ?_
  refine oCastI (z' := (1 : Int32)) (by decide) ?_
  have f25 := (K21.exa f22)
  refine oPutF C (w118 hw) Via.refl f24 f25 (Or.inl (w119 hw)) (w4 hw) (ty := .int) (by decide) rfl rfl d12_72 rfl p11 fun h26 W26 => ?_
  have f26w := Fld.same W26 f24
  have f27 := (Fld.other W26 (K21.fld (Fld.other W10 (Fld.other W8 (Fld.other W4 (K1.fld p73 nin0 oN0) (Or.inl p9)) (Or.inr (oSn0 hw 16 27))) (Or.inl p26)) (ninS p31 (ninS p37 (ninS p44 (ninS p52 (ninS p72 nin0))))) oN0) (Or.inr (oSn0 hw 16 28)))
  have f28 := ((K21.arr ((((K1.arr p74 nin0 oA0).other W4 p77).other W8 p78).other W10 p79) (ninS p84 (ninS p83 (ninS p82 (ninS p81 (ninS p80 nin0))))) oA0).other W26 p78)
  have f29 := (Fld.other W26 (K21.fld (Fld.other W10 (Fld.other W8 (Fld.other W4 (K1.fld p75 nin0 oN0) (Or.inl p9)) (Or.inr (oSn0 hw 17 27))) (Or.inl p26)) (ninS p31 (ninS p37 (ninS p44 (ninS p52 (ninS p72 nin0))))) oN0) (Or.inr (oSn0 hw 17 28)))
  have f30 := ((K21.arr ((((K1.arr p76 nin0 oA0).other W4 p85).other W8 p86).other W10 p87) (ninS p92 (ninS p91 (ninS p90 (ninS p89 (ninS p88 nin0))))) oA0).other W26 p86)
  have f31 := (Exa.wr W26 f25)
  have z33 := (Nat.le_trans (Nat.le_trans z23 K21.1) (Nat.le_of_eq W26.size.symm))
  refine oCallP C (w120 hw) (w122 hw) (w4 hw) (w121 hw) (w5 hw) (w123 hw) d12_75 f31 (by decide) pd_947250 rfl rfl (a := b1) (argsL := [.int 0, .int 0]) (rest := []) rfl (W := 0) rfl (q := 78) rfl (by decide) (by decide) (by decide) (by decide) (ac15_18 l Z a0 hw _ n0 z33 b1 b10 b11 f27 f28 f29 f30 p93 p94 p95 p96 p97 f31) (oVQ ?_)
  rintro h32 ⟨K32, f32_0, f32_1⟩
  refine oRetV C d12_78 (by decide) (by decide) ?_
  have f34 := (K32.arr ((K21.arr ((A4l.other W8 p98).other W10 p99) (ninS p104 (ninS p103 (ninS p102 (ninS p101 (ninS p100 nin0))))) oA0).other W26 p98) (ninS p106 (ninS p105 nin0)) oA0)
  have f35 := (K32.fld (Fld.other W26 (K21.fld (Fld.other W10 f8w (Or.inl p26)) (ninS p31 (ninS p37 (ninS p44 (ninS p52 (ninS p72 nin0))))) oN0) (Or.inr (oSn0 hw 27 28))) (ninS p94 (ninS p107 nin0)) oN0)
  have f36 := (K32.arr ((K21.arr A10l (ninS p112 (ninS p111 (ninS p110 (ninS p109 (ninS p108 nin0))))) oA0).other W26 p14) (ninS p114 (ninS p113 nin0)) oA0)
  have f37 := (K32.arr (f21_0.other W26 p28) (ninS p116 (ninS p115 nin0)) oA0)
  have f38 := (K32.arr (f21_1.other W26 p33) (ninS p118 (ninS p117 nin0)) oA0)
  have f39 := (K32.arr (f21_2.other W26 p39) (ninS p120 (ninS p119 nin0)) oA0)
  have f40 := (K32.arr (f21_3.other W26 p46) (ninS p122 (ninS p121 nin0)) oA0)
  have f41 := (K32.arr (f21_4.other W26 p54) (ninS p124 (ninS p123 nin0)) oA0)
  have f42 := (K32.fld f26w (ninS p94 (ninS p107 nin0)) oN0)
  exact ⟨rfl, ((((((((oKe.refl h0 [b3, b4, b5, b6, b7, b8, b9, b10, b11] [(b1, Jvm.RoadKit.slotOf Z cU "touchedCount" "I"), (b1, Jvm.RoadKit.slotOf Z cU "heapSize" "I")]).trans K1 all0 oA0).wrA W4 (Or.inl (List.mem_of_getElem? (i := 0) rfl))).wrF W8 (Or.inl (List.mem_of_getElem? (i := 0) rfl))).wrA W10 (Or.inl (List.mem_of_getElem? (i := 1) rfl))).trans K21 (allS (Or.inl (List.mem_of_getElem? (i := 2) rfl)) (allS (Or.inl (List.mem_of_getElem? (i := 3) rfl)) (allS (Or.inl (List.mem_of_getElem? (i := 4) rfl)) (allS (Or.inl (List.mem_of_getElem? (i := 5) rfl)) (allS (Or.inl (List.mem_of_getElem? (i := 6) rfl)) all0))))) oA0).wrF W26 (Or.inl (List.mem_of_getElem? (i := 1) rfl))).trans K32 (allS (Or.inl (List.mem_of_getElem? (i := 7) rfl)) (allS (Or.inl (List.mem_of_getElem? (i := 8) rfl)) all0)) oA0), f34, f35, f36, f37, f38, f39, f40, f41, f42, f32_0, f32_1⟩
set_option maxRecDepth 65536 in
set_option maxHeartbeats 40000000 in
theorem ac9_39 (l : Launch) (Z : State) (a0 : Array Value) (hw : oHw a0 Z) (h0 : Heap) (n0 : Nat) (Z0 : n0 ≤ h0.size) (b1 : Addr) (y2 : Int64) (y3 : Int64) (b4 : Addr) (b5 : Addr) (y6 : Int64) (b7 : Addr) (b8 : Addr) (b9 : Addr) (b10 : Addr) (b11 : Addr) (b12 : Addr) (b13 : Addr) (b14 : Addr) (b15 : Addr) (b16 : Addr) (b17 : Addr) (b18 : Addr) (b19 : Addr) (b20 : Addr) (y21 : Int64) (b22 : Addr) (p1 : Exa Z h0 b1 cU) (p2 : Fld Z h0 b1 cU "sinkMoney" "J" (.long y3)) (p3 : n0 ≤ b1) (p4 : Fld Z h0 b1 cU "sinkSales" "J" (.long 1)) (p5 : Fld Z h0 b1 cU "sinkMoves" "I" (.int 1)) (p6 : Fld Z h0 b1 cU "sinkEnd" "I" (.int 0)) (p7 : Fld Z h0 b1 cU "sinkGoesWithout" "Z" (.int 1)) (p8 : Fld Z h0 b1 cU "offerStart" "[I" (.ref b4)) (p9 : oAr Z h0 b4 .int [.int 0, .int 1, .int 2, .int 3]) (p10 : b4 ≠ b1) (p11 : Fld Z h0 b1 cU "offerWeight" "[J" (.ref b5)) (p12 : oAr Z h0 b5 .long [.long y3, .long y6, .long y2]) (p13 : b5 ≠ b1) (p14 : ¬ y2 < (0 : Int64)) (p15 : Fld Z h0 b1 cU "offerItem" "[I" (.ref b7)) (p16 : oAr Z h0 b7 .int [.int 0, .int 0, .int 0]) (p17 : b7 ≠ b1) (p18 : Fld Z h0 b1 cU "priceMoney" "[J" (.ref b8)) (p19 : oAr Z h0 b8 .long [.long 0, .long 0]) (p20 : b8 ≠ b1) (p21 : ¬ ((y2 ^^^ (y2 + (0 : Int64))) &&& ((0 : Int64) ^^^ (y2 + (0 : Int64)))) < (0 : Int64)) (p22 : ¬ ((y2 ^^^ y2) &&& (y2 ^^^ (y2 - y2))) < (0 : Int64)) (p23 : Fld Z h0 b1 cU "priceSales" "[J" (.ref b9)) (p24 : oAr Z h0 b9 .long [.long 0, .long 0]) (p25 : b9 ≠ b1) (p26 : Fld Z h0 b1 cU "mark" "[B" (.ref b10)) (p27 : oAr Z h0 b10 .byte [.int 0, .int 0]) (p28 : Fld Z h0 b1 cU "touched" "[I" (.ref b11)) (p29 : Fld Z h0 b1 cU "touchedCount" "I" (.int 0)) (p30 : oAr Z h0 b11 .int [.int 0, .int 0]) (p31 : Fld Z h0 b1 cU "distMoney" "[J" (.ref b12)) (p32 : oAr Z h0 b12 .long [.long 0, .long 0]) (p33 : Fld Z h0 b1 cU "distSales" "[J" (.ref b13)) (p34 : oAr Z h0 b13 .long [.long 0, .long 0]) (p35 : Fld Z h0 b1 cU "hops" "[I" (.ref b14)) (p36 : oAr Z h0 b14 .int [.int 1, .int 0]) (p37 : Fld Z h0 b1 cU "pred" "[I" (.ref b15)) (p38 : oAr Z h0 b15 .int [.int (-1), .int 0]) (p39 : Fld Z h0 b1 cU "predOffer" "[I" (.ref b16)) (p40 : oAr Z h0 b16 .int [.int 1, .int 0]) (p41 : Fld Z h0 b1 cU "heapSize" "I" (.int 0)) (p42 : Fld Z h0 b1 cU "heap" "[I" (.ref b17)) (p43 : oAr Z h0 b17 .int [.int 0, .int 0]) (p44 : Fld Z h0 b1 cU "heapIndex" "[I" (.ref b18)) (p45 : oAr Z h0 b18 .int [.int 0, .int 0]) (p46 : (0 : Int64) < y2) (p47 : b10 ≠ b1) (p48 : n0 ≤ b10) (p49 : b1 ≠ b10) (p50 : b11 ≠ b1) (p51 : b11 ≠ b10) (p52 : n0 ≤ b11) (p53 : b12 ≠ b1) (p54 : b13 ≠ b1) (p55 : b14 ≠ b1) (p56 : b15 ≠ b1) (p57 : b16 ≠ b1) (p58 : b1 ≠ b11) (p59 : b12 ≠ b10) (p60 : b12 ≠ b11) (p61 : n0 ≤ b12) (p62 : b1 ≠ b12) (p63 : b13 ≠ b10) (p64 : b13 ≠ b11) (p65 : b13 ≠ b12) (p66 : n0 ≤ b13) (p67 : b1 ≠ b13) (p68 : b14 ≠ b10) (p69 : b14 ≠ b11) (p70 : b14 ≠ b12) (p71 : b14 ≠ b13) (p72 : n0 ≤ b14) (p73 : b1 ≠ b14) (p74 : b15 ≠ b10) (p75 : b15 ≠ b11) (p76 : b15 ≠ b12) (p77 : b15 ≠ b13) (p78 : b15 ≠ b14) (p79 : n0 ≤ b15) (p80 : b1 ≠ b15) (p81 : b16 ≠ b10) (p82 : b16 ≠ b11) (p83 : b16 ≠ b12) (p84 : b16 ≠ b13) (p85 : b16 ≠ b14) (p86 : b16 ≠ b15) (p87 : n0 ≤ b16) (p88 : b12 ≠ b13) (p89 : b12 ≠ b14) (p90 : b12 ≠ b15) (p91 : b12 ≠ b16) (p92 : b13 ≠ b14) (p93 : b13 ≠ b15) (p94 : b13 ≠ b16) (p95 : b14 ≠ b15) (p96 : b14 ≠ b16) (p97 : b15 ≠ b16) (p98 : b1 ≠ b16) (p99 : b17 ≠ b1) (p100 : b18 ≠ b1) (p101 : b17 ≠ b10) (p102 : b17 ≠ b11) (p103 : b17 ≠ b16) (p104 : b17 ≠ b15) (p105 : b17 ≠ b14) (p106 : b17 ≠ b13) (p107 : b17 ≠ b12) (p108 : b18 ≠ b10) (p109 : b18 ≠ b11) (p110 : b18 ≠ b16) (p111 : b18 ≠ b15) (p112 : b18 ≠ b14) (p113 : b18 ≠ b13) (p114 : b18 ≠ b12) (p115 : n0 ≤ b17) (p116 : b1 ≠ b17) (p117 : b18 ≠ b17) (p118 : n0 ≤ b18) (p119 : b17 ≠ b18) (p120 : b10 ≠ b11) (p121 : b10 ≠ b16) (p122 : b10 ≠ b15) (p123 : b10 ≠ b14) (p124 : b10 ≠ b13) (p125 : b10 ≠ b12) (p126 : b10 ≠ b18) (p127 : b10 ≠ b17) (p128 : b1 ≠ b18) (p129 : b11 ≠ b16) (p130 : b11 ≠ b15) (p131 : b11 ≠ b14) (p132 : b11 ≠ b13) (p133 : b11 ≠ b12) (p134 : b11 ≠ b18) (p135 : b11 ≠ b17) (p136 : b12 ≠ b18) (p137 : b12 ≠ b17) (p138 : b13 ≠ b18) (p139 : b13 ≠ b17) (p140 : b14 ≠ b18) (p141 : b14 ≠ b17) (p142 : b15 ≠ b18) (p143 : b15 ≠ b17) (p144 : b16 ≠ b18) (p145 : b16 ≠ b17) (p146 : b4 ≠ b18) (p147 : b4 ≠ b17) (p148 : b4 ≠ b16) (p149 : b4 ≠ b15) (p150 : b4 ≠ b14) (p151 : b4 ≠ b13) (p152 : b4 ≠ b12) (p153 : b4 ≠ b11) (p154 : b4 ≠ b10) (p155 : Fld Z h0 b1 cU "holder" "[I" (.ref b19)) (p156 : oAr Z h0 b19 .int [.int 1, .int (-1)]) (p157 : b19 ≠ b1) (p158 : b19 ≠ b18) (p159 : b19 ≠ b17) (p160 : b19 ≠ b16) (p161 : b19 ≠ b15) (p162 : b19 ≠ b14) (p163 : b19 ≠ b13) (p164 : b19 ≠ b12) (p165 : b19 ≠ b11) (p166 : b19 ≠ b10) (p167 : Fld Z h0 b1 cU "utilityMoney" "[J" (.ref b20)) (p168 : oAr Z h0 b20 .long [.long 0, .long y21, .long 0]) (p169 : b20 ≠ b1) (p170 : b20 ≠ b18) (p171 : b20 ≠ b17) (p172 : b20 ≠ b16) (p173 : b20 ≠ b15) (p174 : b20 ≠ b14) (p175 : b20 ≠ b13) (p176 : b20 ≠ b12) (p177 : b20 ≠ b11) (p178 : b20 ≠ b10) (p179 : ¬ (((0 : Int64) ^^^ ((0 : Int64) + y21)) &&& (y21 ^^^ ((0 : Int64) + y21))) < (0 : Int64)) (p180 : Fld Z h0 b1 cU "utilitySales" "[J" (.ref b22)) (p181 : oAr Z h0 b22 .long [.long 0, .long 1, .long 0]) (p182 : b22 ≠ b1) (p183 : b22 ≠ b18) (p184 : b22 ≠ b17) (p185 : b22 ≠ b16) (p186 : b22 ≠ b15) (p187 : b22 ≠ b14) (p188 : b22 ≠ b13) (p189 : b22 ≠ b12) (p190 : b22 ≠ b11) (p191 : b22 ≠ b10) (p192 : y21 < y2) (p193 : b7 ≠ b18) (p194 : b7 ≠ b17) (p195 : b7 ≠ b16) (p196 : b7 ≠ b15) (p197 : b7 ≠ b14) (p198 : b7 ≠ b13) (p199 : b7 ≠ b12) (p200 : b7 ≠ b11) (p201 : b7 ≠ b10) :
    oMet l Z (⟨cU, "search", "(IJJ)V"⟩ : MethodName) prog_54_method_15_code 18 none [] ({ frames := 4, cells := 0, slots := 0, locals := 74 } : Room) 0 0 n0 #[.ref b1, .int 2, .long y2, .long 1] h0 (fun v h => v = none ∧ oKe h0 h [b10, b11, b12, b13, b14, b15, b16, b17, b18] [(b1, Jvm.RoadKit.slotOf Z cU "sinkMoney" "J"), (b1, Jvm.RoadKit.slotOf Z cU "sinkSales" "J"), (b1, Jvm.RoadKit.slotOf Z cU "sinkMoves" "I"), (b1, Jvm.RoadKit.slotOf Z cU "sinkEnd" "I"), (b1, Jvm.RoadKit.slotOf Z cU "sinkGoesWithout" "Z"), (b1, Jvm.RoadKit.slotOf Z cU "touchedCount" "I"), (b1, Jvm.RoadKit.slotOf Z cU "heapSize" "I")] ∧ Fld Z h b1 cU "sinkMoney" "J" (.long y21) ∧ Fld Z h b1 cU "sinkSales" "J" (.long 1) ∧ Fld Z h b1 cU "sinkMoves" "I" (.int 1) ∧ Fld Z h b1 cU "sinkEnd" "I" (.int 0) ∧ Fld Z h b1 cU "sinkGoesWithout" "Z" (.int 1) ∧ oAr Z h b10 .byte [.int 2, .int 0] ∧ Fld Z h b1 cU "touchedCount" "I" (.int 1) ∧ oAr Z h b11 .int [.int 0, .int 0] ∧ oAr Z h b12 .long [.long 0, .long 0] ∧ oAr Z h b13 .long [.long 0, .long 0] ∧ oAr Z h b14 .int [.int 1, .int 0] ∧ oAr Z h b15 .int [.int (-1), .int 0] ∧ oAr Z h b16 .int [.int 2, .int 0] ∧ Fld Z h b1 cU "heapSize" "I" (.int 0) ∧ oAr Z h b17 .int [.int 0, .int 0] ∧ oAr Z h b18 .int [.int 0, .int 0]) := by
  refine oMet.intro (plainFor_of_name pn_944982) (fun m => ef_9 m b1 (2 : Int32) y2 (1 : Int64)) ?_
  intro op oe os m obl omt ocd C
  refine oAloadN C d9_0 rfl rfl rfl ?_
  refine oLloadN C d9_1 rfl rfl ?_
  refine oPutF C (w87 hw) Via.refl p2 p1 (Or.inl (w88 hw)) (w4 hw) (ty := .long) (by decide) rfl rfl d9_2 rfl p3 fun h1 W1 => ?_
  have f1w := Fld.same W1 p2
  refine oAloadN C d9_5 rfl rfl rfl ?_
  refine oLload C d9_6 rfl rfl ?_
  have f2 := (Exa.wr W1 p1)
  have f3 := (Fld.other W1 p4 (Or.inr (oSn0 hw 23 22)))
  refine oPutF C (w89 hw) Via.refl f3 f2 (Or.inl (w90 hw)) (w4 hw) (ty := .long) (by decide) rfl rfl d9_8 rfl p3 fun h4 W4 => ?_
  have f4w := Fld.same W4 f3
  refine oAloadN C d9_11 rfl rfl rfl ?_
  refine oIconst C d9_12 (z := 0) rfl rfl ?_
  have f5 := (Exa.wr W4 f2)
  have f6 := (Fld.other W4 (Fld.other W1 p5 (Or.inr (oSn0 hw 24 22))) (Or.inr (oSn0 hw 24 23)))
  refine oPutF C (w91 hw) Via.refl f6 f5 (Or.inl (w92 hw)) (w4 hw) (ty := .int) (by decide) rfl rfl d9_13 rfl p3 fun h7 W7 => ?_
  have f7w := Fld.same W7 f6
  refine oAloadN C d9_16 rfl rfl rfl ?_
  refine oIconst C d9_17 (z := (-1)) rfl rfl ?_
  have f8 := (Exa.wr W7 f5)
  have f9 := (Fld.other W7 (Fld.other W4 (Fld.other W1 p6 (Or.inr (oSn0 hw 25 22))) (Or.inr (oSn0 hw 25 23))) (Or.inr (oSn0 hw 25 24)))
  refine oPutF C (w93 hw) Via.refl f9 f8 (Or.inl (w94 hw)) (w4 hw) (ty := .int) (by decide) rfl rfl d9_18 rfl p3 fun h10 W10 => ?_
  have f10w := Fld.same W10 f9
  refine oAloadN C d9_21 rfl rfl rfl ?_
  refine oIconst C d9_22 (z := 1) rfl rfl ?_
  have f11 := (Exa.wr W10 f8)
  have f12 := (Fld.other W10 (Fld.other W7 (Fld.other W4 (Fld.other W1 p7 (Or.inr (oSn0 hw 26 22))) (Or.inr (oSn0 hw 26 23))) (Or.inr (oSn0 hw 26 24))) (Or.inr (oSn0 hw 26 25)))
  refine oPutFN C (w95 hw) Via.refl f12 f11 (Or.inl (w96 hw)) (w4 hw) (ty := .boolean) (v' := .int 1) (by decide) rfl rfl d9_23 rfl p3 fun h13 W13 => ?_
  have f13w := Fld.same W13 f12
  refine oAloadN C d9_26 rfl rfl rfl ?_
  have f14 := (Fld.other W13 (Fld.other W10 (Fld.other W7 (Fld.other W4 (Fld.other W1 p8 (Or.inr (oSn0 hw 1 22))) (Or.inr (oSn0 hw 1 23))) (Or.inr (oSn0 hw 1 24))) (Or.inr (oSn0 hw 1 25))) (Or.inr (oSn0 hw 1 26)))
  refine oGetF C (w14 hw) Via.refl f14 d9_27 rfl ?_
  refine oIloadN C d9_30 rfl rfl ?_
  have f15 := (((((p9.other W1 p10).other W4 p10).other W7 p10).other W10 p10).other W13 p10)
  refine oIaload C f15 (by decide) (k := 2) rfl (v := .int 2) rfl d9_31 rfl ?_
  refine oIstore C d9_32 (Ls' := #[.val (.ref b1), .val (.int 2), .val (.long y2), .second, .val (.long 1), .second, .val (.int 2), .unset, .unset, .unset, .unset, .unset, .unset, .unset, .unset, .unset, .unset, .unset]) rfl (q := 34) rfl ?_
  refine oIload C d9_34 rfl rfl ?_
  refine oAloadN C d9_36 rfl rfl rfl ?_
  refine oGetF C (w14 hw) Via.refl f14 d9_37 rfl ?_
  refine oIloadN C d9_40 rfl rfl ?_
  refine oIconst C d9_41 (z := 1) rfl rfl ?_
  refine oIadd C d9_42 rfl ?_
  refine oCastI (z' := (3 : Int32)) (by decide) ?_
  refine oIaload C f15 (by decide) (k := 3) rfl (v := .int 3) rfl d9_43 rfl ?_
  refine oIcmp_ge C d9_44 (q := 128) (by decide) (by decide) (r := 47) rfl (fun hq => absurd hq ((by decide))) (fun hc44 => ?_)
  refine oAloadN C d9_47 rfl rfl rfl ?_
  have f16 := (Fld.other W13 (Fld.other W10 (Fld.other W7 (Fld.other W4 (Fld.other W1 p11 (Or.inr (oSn0 hw 3 22))) (Or.inr (oSn0 hw 3 23))) (Or.inr (oSn0 hw 3 24))) (Or.inr (oSn0 hw 3 25))) (Or.inr (oSn0 hw 3 26)))
  refine oGetF C (w18 hw) Via.refl f16 d9_48 rfl ?_
  refine oIload C d9_51 rfl rfl ?_
  have f17 := (((((p12.other W1 p13).other W4 p13).other W7 p13).other W10 p13).other W13 p13)
  refine oLaload C f17 (by decide) (k := 2) rfl (v := .long y2) rfl d9_53 rfl ?_
  refine oLconst C d9_54 (z := 0) rfl rfl ?_
  refine oLcmp_ge C d9_55 rfl d9_56 (q := 62) (by decide) (by decide) (r := 59) rfl (fun hc55 => ?_) (fun hq => absurd hq (p14))
  refine oAloadN C d9_62 rfl rfl rfl ?_
  have f18 := (Fld.other W13 (Fld.other W10 (Fld.other W7 (Fld.other W4 (Fld.other W1 p15 (Or.inr (oSn0 hw 2 22))) (Or.inr (oSn0 hw 2 23))) (Or.inr (oSn0 hw 2 24))) (Or.inr (oSn0 hw 2 25))) (Or.inr (oSn0 hw 2 26)))
  refine oGetF C (w16 hw) Via.refl f18 d9_63 rfl ?_
  refine oIload C d9_66 rfl rfl ?_
  have f19 := (((((p16.other W1 p17).other W4 p17).other W7 p17).other W10 p17).other W13 p17)
  refine oIaload C f19 (by decide) (k := 2) rfl (v := .int 0) rfl d9_68 rfl ?_
  refine oIstore C d9_69 (Ls' := #[.val (.ref b1), .val (.int 2), .val (.long y2), .second, .val (.long 1), .second, .val (.int 2), .val (.int 0), .unset, .unset, .unset, .unset, .unset, .unset, .unset, .unset, .unset, .unset]) rfl (q := 71) rfl ?_
  refine oLloadN C d9_71 rfl rfl ?_
  refine oAloadN C d9_72 rfl rfl rfl ?_
  have f20 := (Fld.other W13 (Fld.other W10 (Fld.other W7 (Fld.other W4 (Fld.other W1 p18 (Or.inr (oSn0 hw 4 22))) (Or.inr (oSn0 hw 4 23))) (Or.inr (oSn0 hw 4 24))) (Or.inr (oSn0 hw 4 25))) (Or.inr (oSn0 hw 4 26)))
  refine oGetF C (w20 hw) Via.refl f20 d9_73 rfl ?_
  refine oIload C d9_76 rfl rfl ?_
  have f21 := (((((p19.other W1 p20).other W4 p20).other W7 p20).other W10 p20).other W13 p20)
  refine oLaload C f21 (by decide) (k := 0) rfl (v := .long 0) rfl d9_78 rfl ?_
  have z23 := (Nat.le_trans (Nat.le_trans (Nat.le_trans (Nat.le_trans (Nat.le_trans Z0 (Nat.le_of_eq W1.size.symm)) (Nat.le_of_eq W4.size.symm)) (Nat.le_of_eq W7.size.symm)) (Nat.le_of_eq W10.size.symm)) (Nat.le_of_eq W13.size.symm))
  refine oCallSH C (w97 hw) (w98 hw) (w99 hw) (w100 hw) d9_79 (by decide) pd_212481 rfl rfl (argsL := [.long y2, .long 0]) (rest := []) rfl (W := 0) rfl (q := 82) rfl (by decide) (by decide) (by decide) (by decide) (ac10_11 l Z a0 hw _ n0 z23 y2 p21) (oRQ ?_)
  rintro h22 K22
  refine oAloadN C d9_82 rfl rfl rfl ?_
  have f24 := (K22.fld f16 nin0 oN0)
  refine oGetF C (w18 hw) Via.refl f24 d9_83 rfl ?_
  refine oIload C d9_86 rfl rfl ?_
  have f25 := (K22.arr f17 nin0 oA0)
  refine oLaload C f25 (by decide) (k := 2) rfl (v := .long y2) rfl d9_88 rfl ?_
  have z27 := (Nat.le_trans z23 K22.1)
  refine oCallS C (w65 hw) (w66 hw) (w67 hw) (w68 hw) d9_89 (by decide) pd_212481 rfl rfl (argsL := [.long y2, .long y2]) (rest := []) rfl (W := 0) rfl (q := 92) rfl (by decide) (by decide) (by decide) (by decide) (ac5_12 l Z a0 hw _ n0 z27 y2 p22) (oRQ ?_)
  rintro h26 K26
  refine oCastL (z' := (0 : Int64)) (own_subs _) ?_
  refine oLstore C d9_92 (Ls' := #[.val (.ref b1), .val (.int 2), .val (.long y2), .second, .val (.long 1), .second, .val (.int 2), .val (.int 0), .val (.long 0), .second, .unset, .unset, .unset, .unset, .unset, .unset, .unset, .unset]) rfl (q := 94) rfl ?_
  refine oLload C d9_94 rfl rfl ?_
  refine oAloadN C d9_96 rfl rfl rfl ?_
  have f28 := (K26.fld (K22.fld (Fld.other W13 (Fld.other W10 (Fld.other W7 (Fld.other W4 (Fld.other W1 p23 (Or.inr (oSn0 hw 5 22))) (Or.inr (oSn0 hw 5 23))) (Or.inr (oSn0 hw 5 24))) (Or.inr (oSn0 hw 5 25))) (Or.inr (oSn0 hw 5 26))) nin0 oN0) nin0 oN0)
  refine oGetF C (w22 hw) Via.refl f28 d9_97 rfl ?_
  refine oIload C d9_100 rfl rfl ?_
  have f29 := (K26.arr (K22.arr (((((p24.other W1 p25).other W4 p25).other W7 p25).other W10 p25).other W13 p25) nin0 oA0) nin0 oA0)
  refine oLaload C f29 (by decide) (k := 0) rfl (v := .long 0) rfl d9_102 rfl ?_
  refine oLadd C d9_103 rfl ?_
  refine oCastL (z' := (1 : Int64)) (by decide) ?_
  refine oLconst C d9_104 (z := 1) rfl rfl ?_
  refine oLsub C d9_105 rfl ?_
  refine oCastL (z' := (0 : Int64)) (by decide) ?_
  refine oLstore C d9_106 (Ls' := #[.val (.ref b1), .val (.int 2), .val (.long y2), .second, .val (.long 1), .second, .val (.int 2), .val (.int 0), .val (.long 0), .second, .val (.long 0), .second, .unset, .unset, .unset, .unset, .unset, .unset]) rfl (q := 108) rfl ?_
  refine oAloadN C d9_108 rfl rfl rfl ?_
  refine oIload C d9_109 rfl rfl ?_
  refine oLload C d9_111 rfl rfl ?_
  refine oLload C d9_113 rfl rfl ?_
  refine oIconst C d9_115 (z := 1) rfl rfl ?_
  refine oIconst C d9_116 (z := (-1)) rfl rfl ?_
  refine oIload C d9_117 rfl rfl ?_
  have f30 := (K26.fld (K22.fld (Fld.other W13 (Fld.other W10 (Fld.other W7 (Fld.other W4 f1w (Or.inr (oSn0 hw 22 23))) (Or.inr (oSn0 hw 22 24))) (Or.inr (oSn0 hw 22 25))) (Or.inr (oSn0 hw 22 26))) nin0 oN0) nin0 oN0)
  have f31 := (K26.fld (K22.fld (Fld.other W13 (Fld.other W10 (Fld.other W7 f4w (Or.inr (oSn0 hw 23 24))) (Or.inr (oSn0 hw 23 25))) (Or.inr (oSn0 hw 23 26))) nin0 oN0) nin0 oN0)
  have f32 := (K26.exa (K22.exa (Exa.wr W13 f11)))
  have f33 := (K26.fld (K22.fld (Fld.other W13 (Fld.other W10 (Fld.other W7 (Fld.other W4 (Fld.other W1 p26 (Or.inr (oSn0 hw 15 22))) (Or.inr (oSn0 hw 15 23))) (Or.inr (oSn0 hw 15 24))) (Or.inr (oSn0 hw 15 25))) (Or.inr (oSn0 hw 15 26))) nin0 oN0) nin0 oN0)
  have f34 := (K26.arr (K22.arr (((((p27.other W1 p47).other W4 p47).other W7 p47).other W10 p47).other W13 p47) nin0 oA0) nin0 oA0)
  have f35 := (K26.fld (K22.fld (Fld.other W13 (Fld.other W10 (Fld.other W7 (Fld.other W4 (Fld.other W1 p28 (Or.inr (oSn0 hw 18 22))) (Or.inr (oSn0 hw 18 23))) (Or.inr (oSn0 hw 18 24))) (Or.inr (oSn0 hw 18 25))) (Or.inr (oSn0 hw 18 26))) nin0 oN0) nin0 oN0)
  have f36 := (K26.fld (K22.fld (Fld.other W13 (Fld.other W10 (Fld.other W7 (Fld.other W4 (Fld.other W1 p29 (Or.inr (oSn0 hw 27 22))) (Or.inr (oSn0 hw 27 23))) (Or.inr (oSn0 hw 27 24))) (Or.inr (oSn0 hw 27 25))) (Or.inr (oSn0 hw 27 26))) nin0 oN0) nin0 oN0)
  have f37 := (K26.arr (K22.arr (((((p30.other W1 p50).other W4 p50).other W7 p50).other W10 p50).other W13 p50) nin0 oA0) nin0 oA0)
  have f38 := (K26.fld (K22.fld (Fld.other W13 (Fld.other W10 (Fld.other W7 (Fld.other W4 (Fld.other W1 p31 (Or.inr (oSn0 hw 10 22))) (Or.inr (oSn0 hw 10 23))) (Or.inr (oSn0 hw 10 24))) (Or.inr (oSn0 hw 10 25))) (Or.inr (oSn0 hw 10 26))) nin0 oN0) nin0 oN0)
  have f39 := (K26.arr (K22.arr (((((p32.other W1 p53).other W4 p53).other W7 p53).other W10 p53).other W13 p53) nin0 oA0) nin0 oA0)
  have f40 := (K26.fld (K22.fld (Fld.other W13 (Fld.other W10 (Fld.other W7 (Fld.other W4 (Fld.other W1 p33 (Or.inr (oSn0 hw 11 22))) (Or.inr (oSn0 hw 11 23))) (Or.inr (oSn0 hw 11 24))) (Or.inr (oSn0 hw 11 25))) (Or.inr (oSn0 hw 11 26))) nin0 oN0) nin0 oN0)
  have f41 := (K26.arr (K22.arr (((((p34.other W1 p54).other W4 p54).other W7 p54).other W10 p54).other W13 p54) nin0 oA0) nin0 oA0)
  have f42 := (K26.fld (K22.fld (Fld.other W13 (Fld.other W10 (Fld.other W7 (Fld.other W4 (Fld.other W1 p35 (Or.inr (oSn0 hw 12 22))) (Or.inr (oSn0 hw 12 23))) (Or.inr (oSn0 hw 12 24))) (Or.inr (oSn0 hw 12 25))) (Or.inr (oSn0 hw 12 26))) nin0 oN0) nin0 oN0)
  have f43 := (K26.arr (K22.arr (((((p36.other W1 p55).other W4 p55).other W7 p55).other W10 p55).other W13 p55) nin0 oA0) nin0 oA0)
  have f44 := (K26.fld (K22.fld (Fld.other W13 (Fld.other W10 (Fld.other W7 (Fld.other W4 (Fld.other W1 p37 (Or.inr (oSn0 hw 13 22))) (Or.inr (oSn0 hw 13 23))) (Or.inr (oSn0 hw 13 24))) (Or.inr (oSn0 hw 13 25))) (Or.inr (oSn0 hw 13 26))) nin0 oN0) nin0 oN0)
  have f45 := (K26.arr (K22.arr (((((p38.other W1 p56).other W4 p56).other W7 p56).other W10 p56).other W13 p56) nin0 oA0) nin0 oA0)
  have f46 := (K26.fld (K22.fld (Fld.other W13 (Fld.other W10 (Fld.other W7 (Fld.other W4 (Fld.other W1 p39 (Or.inr (oSn0 hw 14 22))) (Or.inr (oSn0 hw 14 23))) (Or.inr (oSn0 hw 14 24))) (Or.inr (oSn0 hw 14 25))) (Or.inr (oSn0 hw 14 26))) nin0 oN0) nin0 oN0)
  have f47 := (K26.arr (K22.arr (((((p40.other W1 p57).other W4 p57).other W7 p57).other W10 p57).other W13 p57) nin0 oA0) nin0 oA0)
  have f48 := (K26.fld (K22.fld (Fld.other W13 (Fld.other W10 (Fld.other W7 (Fld.other W4 (Fld.other W1 p41 (Or.inr (oSn0 hw 28 22))) (Or.inr (oSn0 hw 28 23))) (Or.inr (oSn0 hw 28 24))) (Or.inr (oSn0 hw 28 25))) (Or.inr (oSn0 hw 28 26))) nin0 oN0) nin0 oN0)
  have f49 := (K26.fld (K22.fld (Fld.other W13 (Fld.other W10 (Fld.other W7 (Fld.other W4 (Fld.other W1 p42 (Or.inr (oSn0 hw 16 22))) (Or.inr (oSn0 hw 16 23))) (Or.inr (oSn0 hw 16 24))) (Or.inr (oSn0 hw 16 25))) (Or.inr (oSn0 hw 16 26))) nin0 oN0) nin0 oN0)
  have f50 := (K26.arr (K22.arr (((((p43.other W1 p99).other W4 p99).other W7 p99).other W10 p99).other W13 p99) nin0 oA0) nin0 oA0)
  have f51 := (K26.fld (K22.fld (Fld.other W13 (Fld.other W10 (Fld.other W7 (Fld.other W4 (Fld.other W1 p44 (Or.inr (oSn0 hw 17 22))) (Or.inr (oSn0 hw 17 23))) (Or.inr (oSn0 hw 17 24))) (Or.inr (oSn0 hw 17 25))) (Or.inr (oSn0 hw 17 26))) nin0 oN0) nin0 oN0)
  have f52 := (K26.arr (K22.arr (((((p45.other W1 p100).other W4 p100).other W7 p100).other W10 p100).other W13 p100) nin0 oA0) nin0 oA0)
  have z54 := (Nat.le_trans z27 K26.1)
  refine oCallP C (w104 hw) (w106 hw) (w4 hw) (w105 hw) (w5 hw) (w107 hw) d9_119 f32 (by decide) pd_477193 rfl rfl (a := b1) (argsL := [.int 0, .long 0, .long 0, .int 1, .int (-1), .int 2]) (rest := []) rfl (W := 0) rfl (q := 122) rfl (by decide) (by decide) (by decide) (by decide) (ac12_38 l Z a0 hw _ n0 z54 b1 y2 b10 b11 b12 b13 b14 b15 b16 b17 b18 f30 f31 p46 f32 f33 f34 p48 f35 p49 f36 p3 f37 p51 p50 p52 f38 f39 f40 f41 f42 f43 f44 f45 f46 f47 p58 p59 p53 p60 p61 p62 p63 p54 p64 p65 p66 p67 p68 p55 p69 p70 p71 p72 p73 p74 p56 p75 p76 p77 p78 p79 p80 p81 p57 p82 p83 p84 p85 p86 p87 p88 p89 p90 p91 p92 p93 p94 p95 p96 p97 f48 p98 f49 f50 f51 f52 p101 p99 p102 p103 p104 p105 p106 p107 p108 p100 p109 p110 p111 p112 p113 p114 p115 p116 p117 p118 p119 p47 p120 p121 p122 p123 p124 p125 p126 p127 p128 p129 p130 p131 p132 p133 p134 p135 p136 p137 p138 p139 p140 p141 p142 p143 p144 p145) (oVQ ?_)
  rintro h53 ⟨K53, f53_0, f53_1, f53_2, f53_3, f53_4, f53_5, f53_6, f53_7, f53_8, f53_9, f53_10⟩
  refine oIinc C d9_122 rfl (z := 1) rfl (w := (3 : Int32)) (by decide) (Ls' := #[.val (.ref b1), .val (.int 2), .val (.long y2), .second, .val (.long 1), .second, .val (.int 3), .val (.int 0), .val (.long 0), .second, .val (.long 0), .second, .unset, .unset, .unset, .unset, .unset, .unset]) rfl rfl ?_
  refine oGoto C d9_125 (q := 34) (by decide) (by decide) ?_
  refine oIload C d9_34 rfl rfl ?_
  refine oAloadN C d9_36 rfl rfl rfl ?_
  have f55 := (K53.fld (K26.fld (K22.fld f14 nin0 oN0) nin0 oN0) (ninS p49 (ninS p58 (ninS p62 (ninS p67 (ninS p73 (ninS p80 (ninS p98 (ninS p116 (ninS p128 nin0))))))))) (oNF (Or.inr (oSn0 hw 1 27)) (oNF (Or.inr (oSn0 hw 1 28)) oN0)))
  refine oGetF C (w14 hw) Via.refl f55 d9_37 rfl ?_
  refine oIloadN C d9_40 rfl rfl ?_
  refine oIconst C d9_41 (z := 1) rfl rfl ?_
  refine oIadd C d9_42 rfl ?_
  refine oCastI (z' := (3 : Int32)) (by decide) ?_
  have f56 := (K53.arr (K26.arr (K22.arr f15 nin0 oA0) nin0 oA0) (ninS p154 (ninS p153 (ninS p152 (ninS p151 (ninS p150 (ninS p149 (ninS p148 (ninS p147 (ninS p146 nin0))))))))) (oAS p10 (oAS p10 oA0)))
  refine oIaload C f56 (by decide) (k := 3) rfl (v := .int 3) rfl d9_43 rfl ?_
  refine oIcmp_ge C d9_44 (q := 128) (by decide) (by decide) (r := 47) rfl (fun hc44_1 => ?_) (fun hq => absurd hq ((by decide)))
  refine oAloadN C d9_128 rfl rfl rfl ?_
  refine oGetF C (w118 hw) Via.refl f53_8 d9_129 rfl ?_
  refine oIf_le C d9_132 (q := 416) (by decide) (by decide) (r := 135) rfl (fun hq => absurd hq ((by decide))) (fun hc132 => ?_)
  refine oAloadN C d9_135 rfl rfl rfl ?_
  have f57 := (K53.fld f49 (ninS p49 (ninS p58 (ninS p62 (ninS p67 (ninS p73 (ninS p80 (ninS p98 (ninS p116 (ninS p128 nin0))))))))) (oNF (Or.inr (oSn0 hw 16 27)) (oNF (Or.inr (oSn0 hw 16 28)) oN0)))
  refine oGetF C (w49 hw) Via.refl f57 d9_136 rfl ?_
  refine oIconst C d9_139 (z := 0) rfl rfl ?_
  refine oIaload C f53_9 (by decide) (k := 0) rfl (v := .int 0) rfl d9_140 rfl ?_
  refine oIstore C d9_141 (Ls' := #[.val (.ref b1), .val (.int 2), .val (.long y2), .second, .val (.long 1), .second, .val (.int 0), .val (.int 0), .val (.long 0), .second, .val (.long 0), .second, .unset, .unset, .unset, .unset, .unset, .unset]) rfl (q := 143) rfl ?_
  refine oAloadN C d9_143 rfl rfl rfl ?_
  refine oAloadN C d9_144 rfl rfl rfl ?_
  have f58 := (K53.fld f38 (ninS p49 (ninS p58 (ninS p62 (ninS p67 (ninS p73 (ninS p80 (ninS p98 (ninS p116 (ninS p128 nin0))))))))) (oNF (Or.inr (oSn0 hw 10 27)) (oNF (Or.inr (oSn0 hw 10 28)) oN0)))
  refine oGetF C (w36 hw) Via.refl f58 d9_145 rfl ?_
  refine oIload C d9_148 rfl rfl ?_
  refine oLaload C f53_3 (by decide) (k := 0) rfl (v := .long 0) rfl d9_150 rfl ?_
  refine oAloadN C d9_151 rfl rfl rfl ?_
  have f59 := (K53.fld f40 (ninS p49 (ninS p58 (ninS p62 (ninS p67 (ninS p73 (ninS p80 (ninS p98 (ninS p116 (ninS p128 nin0))))))))) (oNF (Or.inr (oSn0 hw 11 27)) (oNF (Or.inr (oSn0 hw 11 28)) oN0)))
  refine oGetF C (w38 hw) Via.refl f59 d9_152 rfl ?_
  refine oIload C d9_155 rfl rfl ?_
  refine oLaload C f53_4 (by decide) (k := 0) rfl (v := .long 0) rfl d9_157 rfl ?_
  refine oAloadN C d9_158 rfl rfl rfl ?_
  have f60 := (K53.fld f42 (ninS p49 (ninS p58 (ninS p62 (ninS p67 (ninS p73 (ninS p80 (ninS p98 (ninS p116 (ninS p128 nin0))))))))) (oNF (Or.inr (oSn0 hw 12 27)) (oNF (Or.inr (oSn0 hw 12 28)) oN0)))
  refine oGetF C (w40 hw) Via.refl f60 d9_159 rfl ?_
  refine oIload C d9_162 rfl rfl ?_
  refine oIaload C f53_5 (by decide) (k := 0) rfl (v := .int 1) rfl d9_164 rfl ?_
  refine oIconst C d9_165 (z := 1) rfl rfl ?_
  refine oIsub C d9_166 rfl ?_
  refine oCastI (z' := (0 : Int32)) (by decide) ?_
  have f61 := (K53.fld f30 (ninS p49 (ninS p58 (ninS p62 (ninS p67 (ninS p73 (ninS p80 (ninS p98 (ninS p116 (ninS p128 nin0))))))))) (oNF (Or.inr (oSn0 hw 22 27)) (oNF (Or.inr (oSn0 hw 22 28)) oN0)))
  have f62 := (K53.fld f31 (ninS p49 (ninS p58 (ninS p62 (ninS p67 (ninS p73 (ninS p80 (ninS p98 (ninS p116 (ninS p128 nin0))))))))) (oNF (Or.inr (oSn0 hw 23 27)) (oNF (Or.inr (oSn0 hw 23 28)) oN0)))
  have f64 := (K53.exa f32)
  have z65 := (Nat.le_trans z54 K53.1)
  refine oCallP C (w108 hw) (w110 hw) (w4 hw) (w109 hw) (w5 hw) (w111 hw) d9_167 f64 (by decide) pd_379829 rfl rfl (a := b1) (argsL := [.long 0, .long 0, .int 0]) (rest := []) rfl (W := 0) rfl (q := 170) rfl (by decide) (by decide) (by decide) (by decide) (ac13_15 l Z a0 hw _ n0 z65 b1 y2 f61 f62 p46) (oRQ ?_)
  rintro h63 K63
  refine oIf_le C d9_170 (q := 174) (by decide) (by decide) (r := 173) rfl (fun hc170 => ?_) (fun hq => absurd hq ((by decide)))
  refine oAloadN C d9_174 rfl rfl rfl ?_
  have f66 := (K63.fld f53_8 nin0 oN0)
  have f67 := (K63.exa f64)
  have z69 := (Nat.le_trans z65 K63.1)
  refine oCallP C (w128 hw) (w130 hw) (w4 hw) (w129 hw) (w5 hw) (w131 hw) d9_175 f67 (by decide) pd_428486 rfl rfl (a := b1) (argsL := []) (rest := []) rfl (W := 0) rfl (q := 178) rfl (by decide) (by decide) (by decide) (by decide) (ac17_20 l Z a0 hw _ n0 z69 b1 f66 f67 p3) (oVQ ?_)
  rintro h68 ⟨K68, f68_0⟩
  refine oAloadN C d9_178 rfl rfl rfl ?_
  have f70 := (K68.fld (K63.fld (K53.fld f33 (ninS p49 (ninS p58 (ninS p62 (ninS p67 (ninS p73 (ninS p80 (ninS p98 (ninS p116 (ninS p128 nin0))))))))) (oNF (Or.inr (oSn0 hw 15 27)) (oNF (Or.inr (oSn0 hw 15 28)) oN0))) nin0 oN0) nin0 (oNF (Or.inr (oSn0 hw 15 28)) oN0))
  refine oGetF C (w47 hw) Via.refl f70 d9_179 rfl ?_
  refine oIload C d9_182 rfl rfl ?_
  refine oIconst C d9_184 (z := 2) rfl rfl ?_
  have f71 := (K68.arr (K63.arr f53_0 nin0 oA0) nin0 (oAS p47 oA0))
  refine oBastore C f71 (by decide) (k := 0) rfl (v := .int 1) rfl (v' := .int 2) rfl d9_185 rfl p48 fun h72 W72 A72 => ?_
  have A72l : oAr Z h72 b10 .byte [.int 2, .int 0] := A72
  refine oAloadN C d9_186 rfl rfl rfl ?_
  have f73 := (Fld.other W72 (K68.fld (K63.fld (K53.fld (K26.fld (K22.fld (Fld.other W13 (Fld.other W10 (Fld.other W7 (Fld.other W4 (Fld.other W1 p155 (Or.inr (oSn0 hw 6 22))) (Or.inr (oSn0 hw 6 23))) (Or.inr (oSn0 hw 6 24))) (Or.inr (oSn0 hw 6 25))) (Or.inr (oSn0 hw 6 26))) nin0 oN0) nin0 oN0) (ninS p49 (ninS p58 (ninS p62 (ninS p67 (ninS p73 (ninS p80 (ninS p98 (ninS p116 (ninS p128 nin0))))))))) (oNF (Or.inr (oSn0 hw 6 27)) (oNF (Or.inr (oSn0 hw 6 28)) oN0))) nin0 oN0) nin0 (oNF (Or.inr (oSn0 hw 6 28)) oN0)) (Or.inl p49))
  refine oGetF C (w24 hw) Via.refl f73 d9_187 rfl ?_
  refine oIload C d9_190 rfl rfl ?_
  have f74 := ((K68.arr (K63.arr (K53.arr (K26.arr (K22.arr (((((p156.other W1 p157).other W4 p157).other W7 p157).other W10 p157).other W13 p157) nin0 oA0) nin0 oA0) (ninS p166 (ninS p165 (ninS p164 (ninS p163 (ninS p162 (ninS p161 (ninS p160 (ninS p159 (ninS p158 nin0))))))))) (oAS p157 (oAS p157 oA0))) nin0 oA0) nin0 (oAS p157 oA0)).other W72 p166)
  refine oIaload C f74 (by decide) (k := 0) rfl (v := .int 1) rfl d9_192 rfl ?_
  refine oIstore C d9_193 (Ls' := #[.val (.ref b1), .val (.int 2), .val (.long y2), .second, .val (.long 1), .second, .val (.int 0), .val (.int 1), .val (.long 0), .second, .val (.long 0), .second, .unset, .unset, .unset, .unset, .unset, .unset]) rfl (q := 195) rfl ?_
  refine oIload C d9_195 rfl rfl ?_
  refine oIconst C d9_197 (z := (-1)) rfl rfl ?_
  refine oIcmp_ne C d9_198 (q := 234) (by decide) (by decide) (r := 201) rfl (fun hc198 => ?_) (fun hq => absurd hq ((by decide)))
  refine oAloadN C d9_234 rfl rfl rfl ?_
  have f75 := (Fld.other W72 (K68.fld (K63.fld f58 nin0 oN0) nin0 (oNF (Or.inr (oSn0 hw 10 28)) oN0)) (Or.inl p49))
  refine oGetF C (w36 hw) Via.refl f75 d9_235 rfl ?_
  refine oIload C d9_238 rfl rfl ?_
  have f76 := ((K68.arr (K63.arr f53_3 nin0 oA0) nin0 (oAS p53 oA0)).other W72 p59)
  refine oLaload C f76 (by decide) (k := 0) rfl (v := .long 0) rfl d9_240 rfl ?_
  refine oAloadN C d9_241 rfl rfl rfl ?_
  have f77 := (Fld.other W72 (K68.fld (K63.fld (K53.fld (K26.fld (K22.fld (Fld.other W13 (Fld.other W10 (Fld.other W7 (Fld.other W4 (Fld.other W1 p167 (Or.inr (oSn0 hw 7 22))) (Or.inr (oSn0 hw 7 23))) (Or.inr (oSn0 hw 7 24))) (Or.inr (oSn0 hw 7 25))) (Or.inr (oSn0 hw 7 26))) nin0 oN0) nin0 oN0) (ninS p49 (ninS p58 (ninS p62 (ninS p67 (ninS p73 (ninS p80 (ninS p98 (ninS p116 (ninS p128 nin0))))))))) (oNF (Or.inr (oSn0 hw 7 27)) (oNF (Or.inr (oSn0 hw 7 28)) oN0))) nin0 oN0) nin0 (oNF (Or.inr (oSn0 hw 7 28)) oN0)) (Or.inl p49))
  refine oGetF C (w30 hw) Via.refl f77 d9_242 rfl ?_
  refine oIload C d9_245 rfl rfl ?_
  have f78 := ((K68.arr (K63.arr (K53.arr (K26.arr (K22.arr (((((p168.other W1 p169).other W4 p169).other W7 p169).other W10 p169).other W13 p169) nin0 oA0) nin0 oA0) (ninS p178 (ninS p177 (ninS p176 (ninS p175 (ninS p174 (ninS p173 (ninS p172 (ninS p171 (ninS p170 nin0))))))))) (oAS p169 (oAS p169 oA0))) nin0 oA0) nin0 (oAS p169 oA0)).other W72 p178)
  refine oLaload C f78 (by decide) (k := 1) rfl (v := .long y21) rfl d9_247 rfl ?_
  have z80 := (Nat.le_trans (Nat.le_trans z69 K68.1) (Nat.le_of_eq W72.size.symm))
  refine oCallSH C (w97 hw) (w98 hw) (w99 hw) (w100 hw) d9_248 (by decide) pd_212481 rfl rfl (argsL := [.long 0, .long y21]) (rest := []) rfl (W := 0) rfl (q := 251) rfl (by decide) (by decide) (by decide) (by decide) (ac10_22 l Z a0 hw _ n0 z80 y21 p179) (oRQ ?_)
  rintro h79 K79
  refine oLstore C d9_251 (Ls' := #[.val (.ref b1), .val (.int 2), .val (.long y2), .second, .val (.long 1), .second, .val (.int 0), .val (.int 1), .val (.long y21), .second, .val (.long 0), .second, .unset, .unset, .unset, .unset, .unset, .unset]) rfl (q := 253) rfl ?_
  refine oAloadN C d9_253 rfl rfl rfl ?_
  have f81 := (K79.fld (Fld.other W72 (K68.fld (K63.fld f59 nin0 oN0) nin0 (oNF (Or.inr (oSn0 hw 11 28)) oN0)) (Or.inl p49)) nin0 oN0)
  refine oGetF C (w38 hw) Via.refl f81 d9_254 rfl ?_
  refine oIload C d9_257 rfl rfl ?_
  have f82 := (K79.arr ((K68.arr (K63.arr f53_4 nin0 oA0) nin0 (oAS p54 oA0)).other W72 p63) nin0 oA0)
  refine oLaload C f82 (by decide) (k := 0) rfl (v := .long 0) rfl d9_259 rfl ?_
  refine oAloadN C d9_260 rfl rfl rfl ?_
  have f83 := (K79.fld (Fld.other W72 (K68.fld (K63.fld (K53.fld (K26.fld (K22.fld (Fld.other W13 (Fld.other W10 (Fld.other W7 (Fld.other W4 (Fld.other W1 p180 (Or.inr (oSn0 hw 8 22))) (Or.inr (oSn0 hw 8 23))) (Or.inr (oSn0 hw 8 24))) (Or.inr (oSn0 hw 8 25))) (Or.inr (oSn0 hw 8 26))) nin0 oN0) nin0 oN0) (ninS p49 (ninS p58 (ninS p62 (ninS p67 (ninS p73 (ninS p80 (ninS p98 (ninS p116 (ninS p128 nin0))))))))) (oNF (Or.inr (oSn0 hw 8 27)) (oNF (Or.inr (oSn0 hw 8 28)) oN0))) nin0 oN0) nin0 (oNF (Or.inr (oSn0 hw 8 28)) oN0)) (Or.inl p49)) nin0 oN0)
  refine oGetF C (w32 hw) Via.refl f83 d9_261 rfl ?_
  refine oIload C d9_264 rfl rfl ?_
  have f84 := (K79.arr ((K68.arr (K63.arr (K53.arr (K26.arr (K22.arr (((((p181.other W1 p182).other W4 p182).other W7 p182).other W10 p182).other W13 p182) nin0 oA0) nin0 oA0) (ninS p191 (ninS p190 (ninS p189 (ninS p188 (ninS p187 (ninS p186 (ninS p185 (ninS p184 (ninS p183 nin0))))))))) (oAS p182 (oAS p182 oA0))) nin0 oA0) nin0 (oAS p182 oA0)).other W72 p191) nin0 oA0)
  refine oLaload C f84 (by decide) (k := 1) rfl (v := .long 1) rfl d9_266 rfl ?_
  refine oLadd C d9_267 rfl ?_
  refine oCastL (z' := (1 : Int64)) (by decide) ?_
  refine oLstore C d9_268 (Ls' := #[.val (.ref b1), .val (.int 2), .val (.long y2), .second, .val (.long 1), .second, .val (.int 0), .val (.int 1), .val (.long y21), .second, .val (.long 1), .second, .unset, .unset, .unset, .unset, .unset, .unset]) rfl (q := 270) rfl ?_
  refine oAloadN C d9_270 rfl rfl rfl ?_
  refine oLload C d9_271 rfl rfl ?_
  refine oLload C d9_273 rfl rfl ?_
  refine oAloadN C d9_275 rfl rfl rfl ?_
  have f85 := (K79.fld (Fld.other W72 (K68.fld (K63.fld f60 nin0 oN0) nin0 (oNF (Or.inr (oSn0 hw 12 28)) oN0)) (Or.inl p49)) nin0 oN0)
  refine oGetF C (w40 hw) Via.refl f85 d9_276 rfl ?_
  refine oIload C d9_279 rfl rfl ?_
  have f86 := (K79.arr ((K68.arr (K63.arr f53_5 nin0 oA0) nin0 (oAS p55 oA0)).other W72 p68) nin0 oA0)
  refine oIaload C f86 (by decide) (k := 0) rfl (v := .int 1) rfl d9_281 rfl ?_
  refine oIload C d9_282 rfl rfl ?_
  refine oIconst C d9_284 (z := 1) rfl rfl ?_
  have f87 := (K79.fld (Fld.other W72 (K68.fld (K63.fld f61 nin0 oN0) nin0 (oNF (Or.inr (oSn0 hw 22 28)) oN0)) (Or.inl p49)) nin0 oN0)
  have f88 := (K79.fld (Fld.other W72 (K68.fld (K63.fld f62 nin0 oN0) nin0 (oNF (Or.inr (oSn0 hw 23 28)) oN0)) (Or.inl p49)) nin0 oN0)
  have f89 := (K79.exa (Exa.wr W72 (K68.exa f67)))
  have f90 := (K79.fld (Fld.other W72 (K68.fld (K63.fld (K53.fld (K26.fld (K22.fld (Fld.other W13 (Fld.other W10 f7w (Or.inr (oSn0 hw 24 25))) (Or.inr (oSn0 hw 24 26))) nin0 oN0) nin0 oN0) (ninS p49 (ninS p58 (ninS p62 (ninS p67 (ninS p73 (ninS p80 (ninS p98 (ninS p116 (ninS p128 nin0))))))))) (oNF (Or.inr (oSn0 hw 24 27)) (oNF (Or.inr (oSn0 hw 24 28)) oN0))) nin0 oN0) nin0 (oNF (Or.inr (oSn0 hw 24 28)) oN0)) (Or.inl p49)) nin0 oN0)
  have f91 := (K79.fld (Fld.other W72 (K68.fld (K63.fld (K53.fld (K26.fld (K22.fld (Fld.other W13 f10w (Or.inr (oSn0 hw 25 26))) nin0 oN0) nin0 oN0) (ninS p49 (ninS p58 (ninS p62 (ninS p67 (ninS p73 (ninS p80 (ninS p98 (ninS p116 (ninS p128 nin0))))))))) (oNF (Or.inr (oSn0 hw 25 27)) (oNF (Or.inr (oSn0 hw 25 28)) oN0))) nin0 oN0) nin0 (oNF (Or.inr (oSn0 hw 25 28)) oN0)) (Or.inl p49)) nin0 oN0)
  have f92 := (K79.fld (Fld.other W72 (K68.fld (K63.fld (K53.fld (K26.fld (K22.fld f13w nin0 oN0) nin0 oN0) (ninS p49 (ninS p58 (ninS p62 (ninS p67 (ninS p73 (ninS p80 (ninS p98 (ninS p116 (ninS p128 nin0))))))))) (oNF (Or.inr (oSn0 hw 26 27)) (oNF (Or.inr (oSn0 hw 26 28)) oN0))) nin0 oN0) nin0 (oNF (Or.inr (oSn0 hw 26 28)) oN0)) (Or.inl p49)) nin0 oN0)
  have z94 := (Nat.le_trans z80 K79.1)
  refine oCallP C (w132 hw) (w134 hw) (w4 hw) (w133 hw) (w5 hw) (w135 hw) d9_285 f89 (by decide) pd_461805 rfl rfl (a := b1) (argsL := [.long y21, .long 1, .int 1, .int 0, .int 1]) (rest := []) rfl (W := 0) rfl (q := 288) rfl (by decide) (by decide) (by decide) (by decide) (ac18_26 l Z a0 hw _ n0 z94 b1 y21 y2 f87 f88 p192 f89 p3 f90 f91 f92) (oVQ ?_)
  rintro h93 ⟨K93, f93_0, f93_1, f93_2, f93_3, f93_4⟩
  refine oAloadN C d9_288 rfl rfl rfl ?_
  have f95 := (K93.fld (K79.fld (Fld.other W72 (K68.fld (K63.fld f55 nin0 oN0) nin0 (oNF (Or.inr (oSn0 hw 1 28)) oN0)) (Or.inl p49)) nin0 oN0) nin0 (oNF (Or.inr (oSn0 hw 1 22)) (oNF (Or.inr (oSn0 hw 1 23)) (oNF (Or.inr (oSn0 hw 1 24)) (oNF (Or.inr (oSn0 hw 1 25)) (oNF (Or.inr (oSn0 hw 1 26)) oN0))))))
  refine oGetF C (w14 hw) Via.refl f95 d9_289 rfl ?_
  refine oIload C d9_292 rfl rfl ?_
  have f96 := (K93.arr (K79.arr ((K68.arr (K63.arr f56 nin0 oA0) nin0 (oAS p10 oA0)).other W72 p154) nin0 oA0) nin0 (oAS p10 (oAS p10 (oAS p10 (oAS p10 (oAS p10 oA0))))))
  refine oIaload C f96 (by decide) (k := 1) rfl (v := .int 1) rfl d9_294 rfl ?_
  refine oIstore C d9_295 (Ls' := #[.val (.ref b1), .val (.int 2), .val (.long y2), .second, .val (.long 1), .second, .val (.int 0), .val (.int 1), .val (.long y21), .second, .val (.long 1), .second, .val (.int 1), .unset, .unset, .unset, .unset, .unset]) rfl (q := 297) rfl ?_
  refine oIload C d9_297 rfl rfl ?_
  refine oAloadN C d9_299 rfl rfl rfl ?_
  refine oGetF C (w14 hw) Via.refl f95 d9_300 rfl ?_
  refine oIload C d9_303 rfl rfl ?_
  refine oIconst C d9_305 (z := 1) rfl rfl ?_
  refine oIadd C d9_306 rfl ?_
  refine oCastI (z' := (2 : Int32)) (by decide) ?_
  refine oIaload C f96 (by decide) (k := 2) rfl (v := .int 2) rfl d9_307 rfl ?_
  refine oIcmp_ge C d9_308 (q := 413) (by decide) (by decide) (r := 311) rfl (fun hq => absurd hq ((by decide))) (fun hc308 => ?_)
  refine oAloadN C d9_311 rfl rfl rfl ?_
  have f97 := (K93.fld (K79.fld (Fld.other W72 (K68.fld (K63.fld (K53.fld (K26.fld (K22.fld f18 nin0 oN0) nin0 oN0) (ninS p49 (ninS p58 (ninS p62 (ninS p67 (ninS p73 (ninS p80 (ninS p98 (ninS p116 (ninS p128 nin0))))))))) (oNF (Or.inr (oSn0 hw 2 27)) (oNF (Or.inr (oSn0 hw 2 28)) oN0))) nin0 oN0) nin0 (oNF (Or.inr (oSn0 hw 2 28)) oN0)) (Or.inl p49)) nin0 oN0) nin0 (oNF (Or.inr (oSn0 hw 2 22)) (oNF (Or.inr (oSn0 hw 2 23)) (oNF (Or.inr (oSn0 hw 2 24)) (oNF (Or.inr (oSn0 hw 2 25)) (oNF (Or.inr (oSn0 hw 2 26)) oN0))))))
  refine oGetF C (w16 hw) Via.refl f97 d9_312 rfl ?_
  refine oIload C d9_315 rfl rfl ?_
  have f98 := (K93.arr (K79.arr ((K68.arr (K63.arr (K53.arr (K26.arr (K22.arr f19 nin0 oA0) nin0 oA0) (ninS p201 (ninS p200 (ninS p199 (ninS p198 (ninS p197 (ninS p196 (ninS p195 (ninS p194 (ninS p193 nin0))))))))) (oAS p17 (oAS p17 oA0))) nin0 oA0) nin0 (oAS p17 oA0)).other W72 p201) nin0 oA0) nin0 (oAS p17 (oAS p17 (oAS p17 (oAS p17 (oAS p17 oA0))))))
  refine oIaload C f98 (by decide) (k := 1) rfl (v := .int 0) rfl d9_317 rfl ?_
  refine oIstore C d9_318 (Ls' := #[.val (.ref b1), .val (.int 2), .val (.long y2), .second, .val (.long 1), .second, .val (.int 0), .val (.int 1), .val (.long y21), .second, .val (.long 1), .second, .val (.int 1), .val (.int 0), .unset, .unset, .unset, .unset]) rfl (q := 320) rfl ?_
  refine oAloadN C d9_320 rfl rfl rfl ?_
  have f99 := (K93.fld (K79.fld (Fld.other W72 f70 (Or.inl p49)) nin0 oN0) nin0 (oNF (Or.inr (oSn0 hw 15 22)) (oNF (Or.inr (oSn0 hw 15 23)) (oNF (Or.inr (oSn0 hw 15 24)) (oNF (Or.inr (oSn0 hw 15 25)) (oNF (Or.inr (oSn0 hw 15 26)) oN0))))))
  refine oGetF C (w47 hw) Via.refl f99 d9_321 rfl ?_
  refine oIload C d9_324 rfl rfl ?_
  have f100 := (K93.arr (K79.arr A72l nin0 oA0) nin0 (oAS p47 (oAS p47 (oAS p47 (oAS p47 (oAS p47 oA0))))))
  refine oBaload C f100 (by decide) (k := 0) rfl (v := .int 2) rfl d9_326 rfl ?_
  refine oIconst C d9_327 (z := 2) rfl rfl ?_
  refine oIcmp_eq C d9_328 (q := 407) (by decide) (by decide) (r := 331) rfl (fun hc328 => ?_) (fun hq => absurd hq ((by decide)))
  refine oIinc C d9_407 rfl (z := 1) rfl (w := (2 : Int32)) (by decide) (Ls' := #[.val (.ref b1), .val (.int 2), .val (.long y2), .second, .val (.long 1), .second, .val (.int 0), .val (.int 1), .val (.long y21), .second, .val (.long 1), .second, .val (.int 2), .val (.int 0), .unset, .unset, .unset, .unset]) rfl rfl ?_
  refine oGoto C d9_410 (q := 297) (by decide) (by decide) ?_
  refine oIload C d9_297 rfl rfl ?_
  refine oAloadN C d9_299 rfl rfl rfl ?_
  refine oGetF C (w14 hw) Via.refl f95 d9_300 rfl ?_
  refine oIload C d9_303 rfl rfl ?_
  refine oIconst C d9_305 (z := 1) rfl rfl ?_
  refine oIadd C d9_306 rfl ?_
  refine oCastI (z' := (2 : Int32)) (by decide) ?_
  refine oIaload C f96 (by decide) (k := 2) rfl (v := .int 2) rfl d9_307 rfl ?_
  refine oIcmp_ge C d9_308 (q := 413) (by decide) (by decide) (r := 311) rfl (fun hc308_1 => ?_) (fun hq => absurd hq ((by decide)))
  refine oGoto C d9_413 (q := 128) (by decide) (by decide) ?_
  refine oAloadN C d9_128 rfl rfl rfl ?_
  have f101 := (K93.fld (K79.fld (Fld.other W72 f68_0 (Or.inl p49)) nin0 oN0) nin0 (oNF (Or.inr (oSn0 hw 28 22)) (oNF (Or.inr (oSn0 hw 28 23)) (oNF (Or.inr (oSn0 hw 28 24)) (oNF (Or.inr (oSn0 hw 28 25)) (oNF (Or.inr (oSn0 hw 28 26)) oN0))))))
  refine oGetF C (w118 hw) Via.refl f101 d9_129 rfl ?_
  refine oIf_le C d9_132 (q := 416) (by decide) (by decide) (r := 135) rfl (fun hc132_1 => ?_) (fun hq => absurd hq ((by decide)))
  refine oRetV C d9_416 (by decide) (by decide) ?_
  have f102 := (K93.fld (K79.fld (Fld.other W72 (K68.fld (K63.fld f53_1 nin0 oN0) nin0 (oNF (Or.inr (oSn0 hw 27 28)) oN0)) (Or.inl p49)) nin0 oN0) nin0 (oNF (Or.inr (oSn0 hw 27 22)) (oNF (Or.inr (oSn0 hw 27 23)) (oNF (Or.inr (oSn0 hw 27 24)) (oNF (Or.inr (oSn0 hw 27 25)) (oNF (Or.inr (oSn0 hw 27 26)) oN0))))))
  have f103 := (K93.arr (K79.arr ((K68.arr (K63.arr f53_2 nin0 oA0) nin0 (oAS p50 oA0)).other W72 p51) nin0 oA0) nin0 (oAS p50 (oAS p50 (oAS p50 (oAS p50 (oAS p50 oA0))))))
  have f104 := (K93.arr (K79.arr f76 nin0 oA0) nin0 (oAS p53 (oAS p53 (oAS p53 (oAS p53 (oAS p53 oA0))))))
  have f105 := (K93.arr f82 nin0 (oAS p54 (oAS p54 (oAS p54 (oAS p54 (oAS p54 oA0))))))
  have f106 := (K93.arr f86 nin0 (oAS p55 (oAS p55 (oAS p55 (oAS p55 (oAS p55 oA0))))))
  have f107 := (K93.arr (K79.arr ((K68.arr (K63.arr f53_6 nin0 oA0) nin0 (oAS p56 oA0)).other W72 p74) nin0 oA0) nin0 (oAS p56 (oAS p56 (oAS p56 (oAS p56 (oAS p56 oA0))))))
  have f108 := (K93.arr (K79.arr ((K68.arr (K63.arr f53_7 nin0 oA0) nin0 (oAS p57 oA0)).other W72 p81) nin0 oA0) nin0 (oAS p57 (oAS p57 (oAS p57 (oAS p57 (oAS p57 oA0))))))
  have f109 := (K93.arr (K79.arr ((K68.arr (K63.arr f53_9 nin0 oA0) nin0 (oAS p99 oA0)).other W72 p101) nin0 oA0) nin0 (oAS p99 (oAS p99 (oAS p99 (oAS p99 (oAS p99 oA0))))))
  have f110 := (K93.arr (K79.arr ((K68.arr (K63.arr f53_10 nin0 oA0) nin0 (oAS p100 oA0)).other W72 p108) nin0 oA0) nin0 (oAS p100 (oAS p100 (oAS p100 (oAS p100 (oAS p100 oA0))))))
  exact ⟨rfl, ((((((((((((((oKe.refl h0 [b10, b11, b12, b13, b14, b15, b16, b17, b18] [(b1, Jvm.RoadKit.slotOf Z cU "sinkMoney" "J"), (b1, Jvm.RoadKit.slotOf Z cU "sinkSales" "J"), (b1, Jvm.RoadKit.slotOf Z cU "sinkMoves" "I"), (b1, Jvm.RoadKit.slotOf Z cU "sinkEnd" "I"), (b1, Jvm.RoadKit.slotOf Z cU "sinkGoesWithout" "Z"), (b1, Jvm.RoadKit.slotOf Z cU "touchedCount" "I"), (b1, Jvm.RoadKit.slotOf Z cU "heapSize" "I")]).wrF W1 (Or.inl (List.mem_of_getElem? (i := 0) rfl))).wrF W4 (Or.inl (List.mem_of_getElem? (i := 1) rfl))).wrF W7 (Or.inl (List.mem_of_getElem? (i := 2) rfl))).wrF W10 (Or.inl (List.mem_of_getElem? (i := 3) rfl))).wrF W13 (Or.inl (List.mem_of_getElem? (i := 4) rfl))).trans K22 all0 oA0).trans K26 all0 oA0).trans K53 (allS (Or.inl (List.mem_of_getElem? (i := 0) rfl)) (allS (Or.inl (List.mem_of_getElem? (i := 1) rfl)) (allS (Or.inl (List.mem_of_getElem? (i := 2) rfl)) (allS (Or.inl (List.mem_of_getElem? (i := 3) rfl)) (allS (Or.inl (List.mem_of_getElem? (i := 4) rfl)) (allS (Or.inl (List.mem_of_getElem? (i := 5) rfl)) (allS (Or.inl (List.mem_of_getElem? (i := 6) rfl)) (allS (Or.inl (List.mem_of_getElem? (i := 7) rfl)) (allS (Or.inl (List.mem_of_getElem? (i := 8) rfl)) all0))))))))) (oAS (Or.inl (List.mem_of_getElem? (i := 5) rfl)) (oAS (Or.inl (List.mem_of_getElem? (i := 6) rfl)) oA0))).trans K63 all0 oA0).trans K68 all0 (oAS (Or.inl (List.mem_of_getElem? (i := 6) rfl)) oA0)).wrA W72 (Or.inl (List.mem_of_getElem? (i := 0) rfl))).trans K79 all0 oA0).trans K93 all0 (oAS (Or.inl (List.mem_of_getElem? (i := 0) rfl)) (oAS (Or.inl (List.mem_of_getElem? (i := 1) rfl)) (oAS (Or.inl (List.mem_of_getElem? (i := 2) rfl)) (oAS (Or.inl (List.mem_of_getElem? (i := 3) rfl)) (oAS (Or.inl (List.mem_of_getElem? (i := 4) rfl)) oA0)))))), f93_0, f93_1, f93_2, f93_3, f93_4, f100, f102, f103, f104, f105, f106, f107, f108, f101, f109, f110⟩
set_option maxRecDepth 65536 in
set_option maxHeartbeats 40000000 in
theorem ac19_40 (l : Launch) (Z : State) (a0 : Array Value) (hw : oHw a0 Z) (h0 : Heap) (n0 : Nat) (Z0 : n0 ≤ h0.size) (b1 : Addr) (y2 : Int64) (b3 : Addr) (b4 : Addr) (y5 : Int64) (b6 : Addr) (b7 : Addr) (b8 : Addr) (b9 : Addr) (b10 : Addr) (b11 : Addr) (b12 : Addr) (b13 : Addr) (p1 : Fld Z h0 b1 cU "touchedCount" "I" (.int 1)) (p2 : Fld Z h0 b1 cU "touched" "[I" (.ref b3)) (p3 : oAr Z h0 b3 .int [.int 0, .int 0]) (p4 : Fld Z h0 b1 cU "mark" "[B" (.ref b4)) (p5 : oAr Z h0 b4 .byte [.int 2, .int 0]) (p6 : Fld Z h0 b1 cU "sinkMoney" "J" (.long y5)) (p7 : Fld Z h0 b1 cU "distMoney" "[J" (.ref b6)) (p8 : oAr Z h0 b6 .long [.long 0, .long 0]) (p9 : ¬ ((y5 ^^^ (0 : Int64)) &&& (y5 ^^^ (y5 - (0 : Int64)))) < (0 : Int64)) (p10 : Fld Z h0 b1 cU "sinkSales" "J" (.long 1)) (p11 : Fld Z h0 b1 cU "distSales" "[J" (.ref b7)) (p12 : oAr Z h0 b7 .long [.long 0, .long 0]) (p13 : Fld Z h0 b1 cU "changed" "[Z" (.ref b8)) (p14 : oAr Z h0 b8 .boolean [.int 1, .int 0]) (p15 : Exa Z h0 b1 cU) (p16 : Fld Z h0 b1 cU "priceMoney" "[J" (.ref b9)) (p17 : oAr Z h0 b9 .long [.long 0, .long 0]) (p18 : ¬ (((0 : Int64) ^^^ ((0 : Int64) + y5)) &&& (y5 ^^^ ((0 : Int64) + y5))) < (0 : Int64)) (p19 : n0 ≤ b9) (p20 : Fld Z h0 b1 cU "priceSales" "[J" (.ref b10)) (p21 : b1 ≠ b9) (p22 : oAr Z h0 b10 .long [.long 0, .long 0]) (p23 : b10 ≠ b9) (p24 : n0 ≤ b10) (p25 : Fld Z h0 b1 cU "holder" "[I" (.ref b11)) (p26 : b1 ≠ b10) (p27 : oAr Z h0 b11 .int [.int 1, .int (-1)]) (p28 : b11 ≠ b9) (p29 : b11 ≠ b10) (p30 : Fld Z h0 b1 cU "utilityMoney" "[J" (.ref b12)) (p31 : oAr Z h0 b12 .long [.long 0, .long y5, .long 0]) (p32 : b12 ≠ b9) (p33 : b12 ≠ b10) (p34 : n0 ≤ b12) (p35 : Fld Z h0 b1 cU "utilitySales" "[J" (.ref b13)) (p36 : b1 ≠ b12) (p37 : oAr Z h0 b13 .long [.long 0, .long 1, .long 0]) (p38 : b13 ≠ b9) (p39 : b13 ≠ b10) (p40 : b13 ≠ b12) (p41 : n0 ≤ b13) (p42 : b1 ≠ b13) (p43 : b12 ≠ b13) (p44 : b9 ≠ b10) (p45 : b9 ≠ b12) (p46 : b9 ≠ b13) (p47 : b10 ≠ b12) (p48 : b10 ≠ b13) (p49 : ¬ y5 = (0 : Int64)) :
    oMet l Z (⟨cU, "raisePrices", "(IJJ)V"⟩ : MethodName) prog_54_method_21_code 13 none [] ({ frames := 1, cells := 0, slots := 0, locals := 19 } : Room) 0 0 n0 #[.ref b1, .int 2, .long y2, .long 1] h0 (fun v h => v = none ∧ oKe h0 h [b9, b10, b12, b13] [] ∧ oAr Z h b9 .long [.long y5, .long 0] ∧ oAr Z h b10 .long [.long 1, .long 0] ∧ oAr Z h b12 .long [.long 0, .long 0, .long (y2 - y5)] ∧ oAr Z h b13 .long [.long 0, .long 0, .long 0]) := by
  refine oMet.intro (plainFor_of_name pn_944982) (fun m => ef_19 m b1 (2 : Int32) y2 (1 : Int64)) ?_
  intro op oe os m obl omt ocd C
  refine oIconst C d19_0 (z := 0) rfl rfl ?_
  refine oIstore C d19_1 (Ls' := #[.val (.ref b1), .val (.int 2), .val (.long y2), .second, .val (.long 1), .second, .val (.int 0), .unset, .unset, .unset, .unset, .unset, .unset]) rfl (q := 3) rfl ?_
  refine oIload C d19_3 rfl rfl ?_
  refine oAloadN C d19_5 rfl rfl rfl ?_
  refine oGetF C (w112 hw) Via.refl p1 d19_6 rfl ?_
  refine oIcmp_ge C d19_9 (q := 164) (by decide) (by decide) (r := 12) rfl (fun hq => absurd hq ((by decide))) (fun hc9 => ?_)
  refine oAloadN C d19_12 rfl rfl rfl ?_
  refine oGetF C (w53 hw) Via.refl p2 d19_13 rfl ?_
  refine oIload C d19_16 rfl rfl ?_
  refine oIaload C p3 (by decide) (k := 0) rfl (v := .int 0) rfl d19_18 rfl ?_
  refine oIstore C d19_19 (Ls' := #[.val (.ref b1), .val (.int 2), .val (.long y2), .second, .val (.long 1), .second, .val (.int 0), .val (.int 0), .unset, .unset, .unset, .unset, .unset]) rfl (q := 21) rfl ?_
  refine oAloadN C d19_21 rfl rfl rfl ?_
  refine oGetF C (w47 hw) Via.refl p4 d19_22 rfl ?_
  refine oIload C d19_25 rfl rfl ?_
  refine oBaload C p5 (by decide) (k := 0) rfl (v := .int 2) rfl d19_27 rfl ?_
  refine oIconst C d19_28 (z := 2) rfl rfl ?_
  refine oIcmp_eq C d19_29 (q := 35) (by decide) (by decide) (r := 32) rfl (fun hc29 => ?_) (fun hq => absurd hq ((by decide)))
  refine oAloadN C d19_35 rfl rfl rfl ?_
  refine oGetF C (w87 hw) Via.refl p6 d19_36 rfl ?_
  refine oAloadN C d19_39 rfl rfl rfl ?_
  refine oGetF C (w36 hw) Via.refl p7 d19_40 rfl ?_
  refine oIload C d19_43 rfl rfl ?_
  refine oLaload C p8 (by decide) (k := 0) rfl (v := .long 0) rfl d19_45 rfl ?_
  refine oCallS C (w65 hw) (w66 hw) (w67 hw) (w68 hw) d19_46 (by decide) pd_212481 rfl rfl (argsL := [.long y5, .long 0]) (rest := []) rfl (W := 0) rfl (q := 49) rfl (by decide) (by decide) (by decide) (by decide) (ac5_3 l Z a0 hw _ n0 Z0 y5 p9) (oRQ ?_)
  rintro h1 K1
  refine oCastL (z' := y5) (own_sub0 _) ?_
  refine oLstore C d19_49 (Ls' := #[.val (.ref b1), .val (.int 2), .val (.long y2), .second, .val (.long 1), .second, .val (.int 0), .val (.int 0), .val (.long y5), .second, .unset, .unset, .unset]) rfl (q := 51) rfl ?_
  refine oAloadN C d19_51 rfl rfl rfl ?_
  have f2 := (K1.fld p10 nin0 oN0)
  refine oGetF C (w89 hw) Via.refl f2 d19_52 rfl ?_
  refine oAloadN C d19_55 rfl rfl rfl ?_
  have f3 := (K1.fld p11 nin0 oN0)
  refine oGetF C (w38 hw) Via.refl f3 d19_56 rfl ?_
  refine oIload C d19_59 rfl rfl ?_
  have f4 := (K1.arr p12 nin0 oA0)
  refine oLaload C f4 (by decide) (k := 0) rfl (v := .long 0) rfl d19_61 rfl ?_
  refine oLsub C d19_62 rfl ?_
  refine oCastL (z' := (1 : Int64)) (by decide) ?_
  refine oLstore C d19_63 (Ls' := #[.val (.ref b1), .val (.int 2), .val (.long y2), .second, .val (.long 1), .second, .val (.int 0), .val (.int 0), .val (.long y5), .second, .val (.long 1), .second, .unset]) rfl (q := 65) rfl ?_
  refine oJoin (α := Unit) (fun _ => True) (fun _ => h1) (fun _ => (mkF m 82 #[.val (.ref b1), .val (.int 2), .val (.long y2), .second, .val (.long 1), .second, .val (.int 0), .val (.int 0), .val (.long y5), .second, .val (.long 1), .second, .unset] [])) (k := 0) (n := 0) (fun _ _ => ?_) (fun J82 => ?_)
  ·
   show oW _ _ _ _ _ _ _ _ _ _ _ _ _ _ _ (mkF m 82 #[.val (.ref b1), .val (.int 2), .val (.long y2), .second, .val (.long 1), .second, .val (.int 0), .val (.int 0), .val (.long y5), .second, .val (.long 1), .second, .unset] [])
   refine oAloadN C d19_82 rfl rfl rfl ?_
   refine oIload C d19_83 rfl rfl ?_
   have f5 := (K1.fld p13 nin0 oN0)
   have f6 := (K1.arr p14 nin0 oA0)
   have f8 := (K1.exa p15)
   have z9 := (Nat.le_trans Z0 K1.1)
   refine oCallP C (w140 hw) (w142 hw) (w4 hw) (w141 hw) (w5 hw) (w143 hw) d19_85 f8 (by decide) pd_674841 rfl rfl (a := b1) (argsL := [.int 0]) (rest := []) rfl (W := 0) rfl (q := 88) rfl (by decide) (by decide) (by decide) (by decide) (ac20_30 l Z a0 hw _ n0 z9 b1 b8 f5 f6) (oVQ ?_)
   rintro h7 K7
   refine oAloadN C d19_88 rfl rfl rfl ?_
   have f10 := (K7.fld (K1.fld p16 nin0 oN0) nin0 oN0)
   refine oGetF C (w20 hw) Via.refl f10 d19_89 rfl ?_
   refine oIload C d19_92 rfl rfl ?_
   refine oAloadN C d19_94 rfl rfl rfl ?_
   refine oGetF C (w20 hw) Via.refl f10 d19_95 rfl ?_
   refine oIload C d19_98 rfl rfl ?_
   have f11 := (K7.arr (K1.arr p17 nin0 oA0) nin0 oA0)
   refine oLaload C f11 (by decide) (k := 0) rfl (v := .long 0) rfl d19_100 rfl ?_
   refine oLload C d19_101 rfl rfl ?_
   have z13 := (Nat.le_trans z9 K7.1)
   refine oCallS C (w146 hw) (w102 hw) (w67 hw) (w103 hw) d19_103 (by decide) pd_212481 rfl rfl (argsL := [.long 0, .long y5]) (rest := [.int 0, .ref b9]) rfl (W := 2) rfl (q := 106) rfl (by decide) (by decide) (by decide) (by decide) (ac11_21 l Z a0 hw _ n0 z13 y5 p18) (oRQ ?_)
   rintro h12 K12
   refine oCastL (z' := y5) (own_0add _) ?_
   have f14 := (K12.arr f11 nin0 oA0)
   refine oLastore C f14 (by decide) (k := 0) rfl (v := .long 0) rfl (v' := .long y5) rfl d19_106 rfl p19 fun h15 W15 A15 => ?_
   have A15l : oAr Z h15 b9 .long [.long y5, .long 0] := A15
   refine oAloadN C d19_107 rfl rfl rfl ?_
   have f16 := (Fld.other W15 (K12.fld (K7.fld (K1.fld p20 nin0 oN0) nin0 oN0) nin0 oN0) (Or.inl p21))
   refine oGetF C (w22 hw) Via.refl f16 d19_108 rfl ?_
   refine oIload C d19_111 rfl rfl ?_
   refine oDup2 C d19_113 rfl rfl rfl ?_
   have f17 := ((K12.arr (K7.arr (K1.arr p22 nin0 oA0) nin0 oA0) nin0 oA0).other W15 p23)
   refine oLaload C f17 (by decide) (k := 0) rfl (v := .long 0) rfl d19_114 rfl ?_
   refine oLload C d19_115 rfl rfl ?_
   refine oLadd C d19_117 rfl ?_
   refine oCastL (z' := (1 : Int64)) (by decide) ?_
   refine oLastore C f17 (by decide) (k := 0) rfl (v := .long 0) rfl (v' := .long 1) rfl d19_118 rfl p24 fun h18 W18 A18 => ?_
   have A18l : oAr Z h18 b10 .long [.long 1, .long 0] := A18
   refine oAloadN C d19_119 rfl rfl rfl ?_
   have f19 := (Fld.other W18 (Fld.other W15 (K12.fld (K7.fld (K1.fld p25 nin0 oN0) nin0 oN0) nin0 oN0) (Or.inl p21)) (Or.inl p26))
   refine oGetF C (w24 hw) Via.refl f19 d19_120 rfl ?_
   refine oIload C d19_123 rfl rfl ?_
   have f20 := (((K12.arr (K7.arr (K1.arr p27 nin0 oA0) nin0 oA0) nin0 oA0).other W15 p28).other W18 p29)
   refine oIaload C f20 (by decide) (k := 0) rfl (v := .int 1) rfl d19_125 rfl ?_
   refine oIstore C d19_126 (Ls' := #[.val (.ref b1), .val (.int 2), .val (.long y2), .second, .val (.long 1), .second, .val (.int 0), .val (.int 0), .val (.long y5), .second, .val (.long 1), .second, .val (.int 1)]) rfl (q := 128) rfl ?_
   refine oIload C d19_128 rfl rfl ?_
   refine oIconst C d19_130 (z := (-1)) rfl rfl ?_
   refine oIcmp_eq C d19_131 (q := 158) (by decide) (by decide) (r := 134) rfl (fun hq => absurd hq ((by decide))) (fun hc131 => ?_)
   refine oAloadN C d19_134 rfl rfl rfl ?_
   have f21 := (Fld.other W18 (Fld.other W15 (K12.fld (K7.fld (K1.fld p30 nin0 oN0) nin0 oN0) nin0 oN0) (Or.inl p21)) (Or.inl p26))
   refine oGetF C (w30 hw) Via.refl f21 d19_135 rfl ?_
   refine oIload C d19_138 rfl rfl ?_
   refine oDup2 C d19_140 rfl rfl rfl ?_
   have f22 := (((K12.arr (K7.arr (K1.arr p31 nin0 oA0) nin0 oA0) nin0 oA0).other W15 p32).other W18 p33)
   refine oLaload C f22 (by decide) (k := 1) rfl (v := .long y5) rfl d19_141 rfl ?_
   refine oLload C d19_142 rfl rfl ?_
   refine oLsub C d19_144 rfl ?_
   refine oCastL (z' := (0 : Int64)) (own_subs _) ?_
   refine oLastore C f22 (by decide) (k := 1) rfl (v := .long y5) rfl (v' := .long 0) rfl d19_145 rfl p34 fun h23 W23 A23 => ?_
   have A23l : oAr Z h23 b12 .long [.long 0, .long 0, .long 0] := A23
   refine oAloadN C d19_146 rfl rfl rfl ?_
   have f24 := (Fld.other W23 (Fld.other W18 (Fld.other W15 (K12.fld (K7.fld (K1.fld p35 nin0 oN0) nin0 oN0) nin0 oN0) (Or.inl p21)) (Or.inl p26)) (Or.inl p36))
   refine oGetF C (w32 hw) Via.refl f24 d19_147 rfl ?_
   refine oIload C d19_150 rfl rfl ?_
   refine oDup2 C d19_152 rfl rfl rfl ?_
   have f25 := ((((K12.arr (K7.arr (K1.arr p37 nin0 oA0) nin0 oA0) nin0 oA0).other W15 p38).other W18 p39).other W23 p40)
   refine oLaload C f25 (by decide) (k := 1) rfl (v := .long 1) rfl d19_153 rfl ?_
   refine oLload C d19_154 rfl rfl ?_
   refine oLsub C d19_156 rfl ?_
   refine oCastL (z' := (0 : Int64)) (by decide) ?_
   refine oLastore C f25 (by decide) (k := 1) rfl (v := .long 1) rfl (v' := .long 0) rfl d19_157 rfl p41 fun h26 W26 A26 => ?_
   have A26l : oAr Z h26 b13 .long [.long 0, .long 0, .long 0] := A26
   refine oIinc C d19_158 rfl (z := 1) rfl (w := (1 : Int32)) (by decide) (Ls' := #[.val (.ref b1), .val (.int 2), .val (.long y2), .second, .val (.long 1), .second, .val (.int 1), .val (.int 0), .val (.long y5), .second, .val (.long 1), .second, .val (.int 1)]) rfl rfl ?_
   refine oGoto C d19_161 (q := 3) (by decide) (by decide) ?_
   refine oIload C d19_3 rfl rfl ?_
   refine oAloadN C d19_5 rfl rfl rfl ?_
   have f27 := (Fld.other W26 (Fld.other W23 (Fld.other W18 (Fld.other W15 (K12.fld (K7.fld (K1.fld p1 nin0 oN0) nin0 oN0) nin0 oN0) (Or.inl p21)) (Or.inl p26)) (Or.inl p36)) (Or.inl p42))
   refine oGetF C (w112 hw) Via.refl f27 d19_6 rfl ?_
   refine oIcmp_ge C d19_9 (q := 164) (by decide) (by decide) (r := 12) rfl (fun hc9_1 => ?_) (fun hq => absurd hq ((by decide)))
   refine oAloadN C d19_164 rfl rfl rfl ?_
   have f28 := (Fld.other W26 (Fld.other W23 f21 (Or.inl p36)) (Or.inl p42))
   refine oGetF C (w30 hw) Via.refl f28 d19_165 rfl ?_
   refine oIloadN C d19_168 rfl rfl ?_
   refine oLloadN C d19_169 rfl rfl ?_
   refine oAloadN C d19_170 rfl rfl rfl ?_
   have f29 := (Fld.other W26 (Fld.other W23 (Fld.other W18 (Fld.other W15 (K12.fld (K7.fld (K1.fld p6 nin0 oN0) nin0 oN0) nin0 oN0) (Or.inl p21)) (Or.inl p26)) (Or.inl p36)) (Or.inl p42))
   refine oGetF C (w87 hw) Via.refl f29 d19_171 rfl ?_
   refine oLsub C d19_174 rfl ?_
   have f30 := (A23l.other W26 p43)
   refine oLastore C f30 (by decide) (k := 2) rfl (v := .long 0) rfl (v' := .long (y2 - y5)) rfl d19_175 rfl p34 fun h31 W31 A31 => ?_
   have A31l : oAr Z h31 b12 .long [.long 0, .long 0, .long (y2 - y5)] := A31
   refine oAloadN C d19_176 rfl rfl rfl ?_
   have f32 := (Fld.other W31 (Fld.other W26 f24 (Or.inl p42)) (Or.inl p36))
   refine oGetF C (w32 hw) Via.refl f32 d19_177 rfl ?_
   refine oIloadN C d19_180 rfl rfl ?_
   refine oLload C d19_181 rfl rfl ?_
   refine oAloadN C d19_183 rfl rfl rfl ?_
   have f33 := (Fld.other W31 (Fld.other W26 (Fld.other W23 (Fld.other W18 (Fld.other W15 (K12.fld (K7.fld f2 nin0 oN0) nin0 oN0) (Or.inl p21)) (Or.inl p26)) (Or.inl p36)) (Or.inl p42)) (Or.inl p36))
   refine oGetF C (w89 hw) Via.refl f33 d19_184 rfl ?_
   refine oLsub C d19_187 rfl ?_
   refine oCastL (z' := (0 : Int64)) (by decide) ?_
   have f34 := (A26l.other W31 p40)
   refine oLastore C f34 (by decide) (k := 2) rfl (v := .long 0) rfl (v' := .long 0) rfl d19_188 rfl p41 fun h35 W35 A35 => ?_
   have A35l : oAr Z h35 b13 .long [.long 0, .long 0, .long 0] := A35
   refine oRetV C d19_189 (by decide) (by decide) ?_
   have f36 := (((((A15l.other W18 p44).other W23 p45).other W26 p46).other W31 p45).other W35 p46)
   have f37 := ((((A18l.other W23 p47).other W26 p48).other W31 p47).other W35 p48)
   have f38 := (A31l.other W35 p43)
   exact ⟨rfl, ((((((((((oKe.refl h0 [b9, b10, b12, b13] []).trans K1 all0 oA0).trans K7 all0 oA0).trans K12 all0 oA0).wrA W15 (Or.inl (List.mem_of_getElem? (i := 0) rfl))).wrA W18 (Or.inl (List.mem_of_getElem? (i := 1) rfl))).wrA W23 (Or.inl (List.mem_of_getElem? (i := 2) rfl))).wrA W26 (Or.inl (List.mem_of_getElem? (i := 3) rfl))).wrA W31 (Or.inl (List.mem_of_getElem? (i := 2) rfl))).wrA W35 (Or.inl (List.mem_of_getElem? (i := 3) rfl))), f36, f37, f38, A35l⟩
  ·
   refine oLload C d19_65 rfl rfl ?_
   refine oLconst C d19_67 (z := 0) rfl rfl ?_
   refine oLcmp_ne C d19_68 rfl d19_69 (q := 82) (by decide) (by decide) (r := 72) rfl (fun hc68 => ?_) (fun hq => absurd hq (p49))
   exact J82 () trivial
set_option maxRecDepth 65536 in
set_option maxHeartbeats 40000000 in
theorem ac21_41 (l : Launch) (Z : State) (a0 : Array Value) (hw : oHw a0 Z) (h0 : Heap) (n0 : Nat) (Z0 : n0 ≤ h0.size) (b1 : Addr) (b2 : Addr) (b3 : Addr) (b4 : Addr) (b5 : Addr) (b6 : Addr) (p1 : Fld Z h0 b1 cU "sinkEnd" "I" (.int 0)) (p2 : Fld Z h0 b1 cU "sinkGoesWithout" "Z" (.int 1)) (p3 : Fld Z h0 b1 cU "holder" "[I" (.ref b2)) (p4 : oAr Z h0 b2 .int [.int 1, .int (-1)]) (p5 : Exa Z h0 b1 cU) (p6 : Fld Z h0 b1 cU "displaced" "I" (.int (-1))) (p7 : n0 ≤ b1) (p8 : Fld Z h0 b1 cU "held" "[I" (.ref b3)) (p9 : oAr Z h0 b3 .int [.int (-1), .int 1, .int (-1)]) (p10 : b3 ≠ b1) (p11 : n0 ≤ b3) (p12 : Fld Z h0 b1 cU "changed" "[Z" (.ref b4)) (p13 : oAr Z h0 b4 .boolean [.int 1, .int 0]) (p14 : b1 ≠ b3) (p15 : b4 ≠ b1) (p16 : b4 ≠ b3) (p17 : Fld Z h0 b1 cU "pred" "[I" (.ref b5)) (p18 : oAr Z h0 b5 .int [.int (-1), .int 0]) (p19 : b5 ≠ b1) (p20 : b5 ≠ b3) (p21 : b2 ≠ b1) (p22 : b2 ≠ b3) (p23 : n0 ≤ b2) (p24 : b1 ≠ b2) (p25 : Fld Z h0 b1 cU "predOffer" "[I" (.ref b6)) (p26 : oAr Z h0 b6 .int [.int 2, .int 0]) (p27 : b6 ≠ b1) (p28 : b6 ≠ b3) (p29 : b6 ≠ b2) (p30 : b3 ≠ b2) :
    oMet l Z (⟨cU, "handOver", "(I)V"⟩ : MethodName) prog_54_method_22_code 5 none [] ({ frames := 1, cells := 0, slots := 0, locals := 13 } : Room) 0 0 n0 #[.ref b1, .int 2] h0 (fun v h => v = none ∧ oKe h0 h [b3, b2] [(b1, Jvm.RoadKit.slotOf Z cU "displaced" "I")] ∧ oAr Z h b2 .int [.int 2, .int (-1)] ∧ Fld Z h b1 cU "displaced" "I" (.int 1) ∧ oAr Z h b3 .int [.int (-1), .int (-1), .int 2]) := by
  refine oMet.intro (plainFor_of_name pn_944982) (fun m => ef_21 m b1 (2 : Int32)) ?_
  intro op oe os m obl omt ocd C
  refine oAloadN C d21_0 rfl rfl rfl ?_
  refine oGetF C (w93 hw) Via.refl p1 d21_1 rfl ?_
  refine oIstoreN C d21_4 (Ls' := #[.val (.ref b1), .val (.int 2), .val (.int 0), .unset, .unset]) rfl (q := 5) rfl ?_
  refine oIloadN C d21_5 rfl rfl ?_
  refine oIconst C d21_6 (z := (-1)) rfl rfl ?_
  refine oIcmp_ne C d21_7 (q := 11) (by decide) (by decide) (r := 10) rfl (fun hc7 => ?_) (fun hq => absurd hq ((by decide)))
  refine oAloadN C d21_11 rfl rfl rfl ?_
  refine oGetF C (w95 hw) Via.refl p2 d21_12 rfl ?_
  refine oIf_eq C d21_15 (q := 38) (by decide) (by decide) (r := 18) rfl (fun hq => absurd hq ((by decide))) (fun hc15 => ?_)
  refine oAloadN C d21_18 rfl rfl rfl ?_
  refine oAloadN C d21_19 rfl rfl rfl ?_
  refine oGetF C (w24 hw) Via.refl p3 d21_20 rfl ?_
  refine oIloadN C d21_23 rfl rfl ?_
  refine oIaload C p4 (by decide) (k := 0) rfl (v := .int 1) rfl d21_24 rfl ?_
  refine oPutF C (w12 hw) Via.refl p6 p5 (Or.inl (w13 hw)) (w4 hw) (ty := .int) (by decide) rfl rfl d21_25 rfl p7 fun h1 W1 => ?_
  have f1w := Fld.same W1 p6
  refine oAloadN C d21_28 rfl rfl rfl ?_
  have f2 := (Fld.other W1 p8 (Or.inr (oSn0 hw 9 0)))
  refine oGetF C (w34 hw) Via.refl f2 d21_29 rfl ?_
  refine oAloadN C d21_32 rfl rfl rfl ?_
  refine oGetF C (w12 hw) Via.refl f1w d21_33 rfl ?_
  refine oIconst C d21_36 (z := (-1)) rfl rfl ?_
  have f3 := (p9.other W1 p10)
  refine oIastore C f3 (by decide) (k := 1) rfl (v := .int 1) rfl (v' := .int (-1)) rfl d21_37 rfl p11 fun h4 W4 A4 => ?_
  have A4l : oAr Z h4 b3 .int [.int (-1), .int (-1), .int (-1)] := A4
  refine oAloadN C d21_38 rfl rfl rfl ?_
  refine oIloadN C d21_39 rfl rfl ?_
  have f5 := (Fld.other W4 (Fld.other W1 p12 (Or.inr (oSn0 hw 19 0))) (Or.inl p14))
  have f6 := ((p13.other W1 p15).other W4 p16)
  have f8 := (Exa.wr W4 (Exa.wr W1 p5))
  have z9 := (Nat.le_trans (Nat.le_trans Z0 (Nat.le_of_eq W1.size.symm)) (Nat.le_of_eq W4.size.symm))
  refine oCallP C (w140 hw) (w142 hw) (w4 hw) (w141 hw) (w5 hw) (w143 hw) d21_40 f8 (by decide) pd_674841 rfl rfl (a := b1) (argsL := [.int 0]) (rest := []) rfl (W := 0) rfl (q := 43) rfl (by decide) (by decide) (by decide) (by decide) (ac20_30 l Z a0 hw _ n0 z9 b1 b4 f5 f6) (oVQ ?_)
  rintro h7 K7
  refine oAloadN C d21_43 rfl rfl rfl ?_
  have f10 := (K7.fld (Fld.other W4 (Fld.other W1 p17 (Or.inr (oSn0 hw 13 0))) (Or.inl p14)) nin0 oN0)
  refine oGetF C (w42 hw) Via.refl f10 d21_44 rfl ?_
  refine oIloadN C d21_47 rfl rfl ?_
  have f11 := (K7.arr ((p18.other W1 p19).other W4 p20) nin0 oA0)
  refine oIaload C f11 (by decide) (k := 0) rfl (v := .int (-1)) rfl d21_48 rfl ?_
  refine oIstoreN C d21_49 (Ls' := #[.val (.ref b1), .val (.int 2), .val (.int 0), .val (.int (-1)), .unset]) rfl (q := 50) rfl ?_
  refine oIloadN C d21_50 rfl rfl ?_
  refine oIconst C d21_51 (z := (-1)) rfl rfl ?_
  refine oIcmp_ne C d21_52 (q := 59) (by decide) (by decide) (r := 55) rfl (fun hq => absurd hq ((by decide))) (fun hc52 => ?_)
  refine oIloadN C d21_55 rfl rfl ?_
  refine oGoto C d21_56 (q := 65) (by decide) (by decide) ?_
  refine oIstore C d21_65 (Ls' := #[.val (.ref b1), .val (.int 2), .val (.int 0), .val (.int (-1)), .val (.int 2)]) rfl (q := 67) rfl ?_
  refine oAloadN C d21_67 rfl rfl rfl ?_
  have f12 := (K7.fld (Fld.other W4 (Fld.other W1 p3 (Or.inr (oSn0 hw 6 0))) (Or.inl p14)) nin0 oN0)
  refine oGetF C (w24 hw) Via.refl f12 d21_68 rfl ?_
  refine oIloadN C d21_71 rfl rfl ?_
  refine oIload C d21_72 rfl rfl ?_
  have f13 := (K7.arr ((p4.other W1 p21).other W4 p22) nin0 oA0)
  refine oIastore C f13 (by decide) (k := 0) rfl (v := .int 1) rfl (v' := .int 2) rfl d21_74 rfl p23 fun h14 W14 A14 => ?_
  have A14l : oAr Z h14 b2 .int [.int 2, .int (-1)] := A14
  refine oAloadN C d21_75 rfl rfl rfl ?_
  have f15 := (Fld.other W14 (K7.fld (Fld.other W4 f2 (Or.inl p14)) nin0 oN0) (Or.inl p24))
  refine oGetF C (w34 hw) Via.refl f15 d21_76 rfl ?_
  refine oIload C d21_79 rfl rfl ?_
  refine oAloadN C d21_81 rfl rfl rfl ?_
  have f16 := (Fld.other W14 (K7.fld (Fld.other W4 (Fld.other W1 p25 (Or.inr (oSn0 hw 14 0))) (Or.inl p14)) nin0 oN0) (Or.inl p24))
  refine oGetF C (w44 hw) Via.refl f16 d21_82 rfl ?_
  refine oIloadN C d21_85 rfl rfl ?_
  have f17 := ((K7.arr ((p26.other W1 p27).other W4 p28) nin0 oA0).other W14 p29)
  refine oIaload C f17 (by decide) (k := 0) rfl (v := .int 2) rfl d21_86 rfl ?_
  have f18 := ((K7.arr A4l nin0 oA0).other W14 p30)
  refine oIastore C f18 (by decide) (k := 2) rfl (v := .int (-1)) rfl (v' := .int 2) rfl d21_87 rfl p11 fun h19 W19 A19 => ?_
  have A19l : oAr Z h19 b3 .int [.int (-1), .int (-1), .int 2] := A19
  refine oIloadN C d21_88 rfl rfl ?_
  refine oIconst C d21_89 (z := (-1)) rfl rfl ?_
  refine oIcmp_ne C d21_90 (q := 94) (by decide) (by decide) (r := 93) rfl (fun hq => absurd hq ((by decide))) (fun hc90 => ?_)
  refine oRetV C d21_93 (by decide) (by decide) ?_
  have f20 := (A14l.other W19 p22)
  have f21 := (Fld.other W19 (Fld.other W14 (K7.fld (Fld.other W4 f1w (Or.inl p14)) nin0 oN0) (Or.inl p24)) (Or.inl p14))
  exact ⟨rfl, ((((((oKe.refl h0 [b3, b2] [(b1, Jvm.RoadKit.slotOf Z cU "displaced" "I")]).wrF W1 (Or.inl (List.mem_of_getElem? (i := 0) rfl))).wrA W4 (Or.inl (List.mem_of_getElem? (i := 0) rfl))).trans K7 all0 oA0).wrA W14 (Or.inl (List.mem_of_getElem? (i := 1) rfl))).wrA W19 (Or.inl (List.mem_of_getElem? (i := 0) rfl))), f20, f21, A19l⟩
set_option maxRecDepth 65536 in
set_option maxHeartbeats 40000000 in
theorem ac8_42 (l : Launch) (Z : State) (a0 : Array Value) (hw : oHw a0 Z) (h0 : Heap) (n0 : Nat) (Z0 : n0 ≤ h0.size) (b1 : Addr) (b2 : Addr) (b3 : Addr) (y4 : Int64) (y5 : Int64) (y6 : Int64) (b7 : Addr) (b8 : Addr) (b9 : Addr) (b10 : Addr) (b11 : Addr) (b12 : Addr) (b13 : Addr) (b14 : Addr) (b15 : Addr) (b16 : Addr) (b17 : Addr) (b18 : Addr) (b19 : Addr) (b20 : Addr) (y21 : Int64) (b22 : Addr) (b23 : Addr) (b24 : Addr) (p1 : Exa Z h0 b1 cU) (p2 : Fld Z h0 b1 cU "displaced" "I" (.int 0)) (p3 : n0 ≤ b1) (p4 : Fld Z h0 b1 cU "offerStart" "[I" (.ref b2)) (p5 : oAr Z h0 b2 .int [.int 0, .int 1, .int 2, .int 3]) (p6 : b2 ≠ b1) (p7 : Fld Z h0 b1 cU "offerWeight" "[J" (.ref b3)) (p8 : oAr Z h0 b3 .long [.long y4, .long y5, .long y6]) (p9 : b3 ≠ b1) (p10 : ¬ y6 < (0 : Int64)) (p11 : Fld Z h0 b1 cU "offerItem" "[I" (.ref b7)) (p12 : oAr Z h0 b7 .int [.int 0, .int 0, .int 0]) (p13 : b7 ≠ b1) (p14 : Fld Z h0 b1 cU "priceMoney" "[J" (.ref b8)) (p15 : oAr Z h0 b8 .long [.long 0, .long 0]) (p16 : b8 ≠ b1) (p17 : ¬ ((y6 ^^^ (0 : Int64)) &&& (y6 ^^^ (y6 - (0 : Int64)))) < (0 : Int64)) (p18 : Fld Z h0 b1 cU "priceSales" "[J" (.ref b9)) (p19 : oAr Z h0 b9 .long [.long 0, .long 0]) (p20 : b9 ≠ b1) (p21 : ¬ y6 = (0 : Int64)) (p22 : Fld Z h0 b1 cU "searches" "I" (.int 1)) (p23 : Fld Z h0 b1 cU "sinkMoney" "J" (.long y4)) (p24 : Fld Z h0 b1 cU "sinkSales" "J" (.long 1)) (p25 : Fld Z h0 b1 cU "sinkMoves" "I" (.int 1)) (p26 : Fld Z h0 b1 cU "sinkEnd" "I" (.int 0)) (p27 : Fld Z h0 b1 cU "sinkGoesWithout" "Z" (.int 1)) (p28 : Fld Z h0 b1 cU "mark" "[B" (.ref b10)) (p29 : oAr Z h0 b10 .byte [.int 0, .int 0]) (p30 : Fld Z h0 b1 cU "touched" "[I" (.ref b11)) (p31 : Fld Z h0 b1 cU "touchedCount" "I" (.int 0)) (p32 : oAr Z h0 b11 .int [.int 0, .int 0]) (p33 : Fld Z h0 b1 cU "distMoney" "[J" (.ref b12)) (p34 : oAr Z h0 b12 .long [.long 0, .long 0]) (p35 : Fld Z h0 b1 cU "distSales" "[J" (.ref b13)) (p36 : oAr Z h0 b13 .long [.long 0, .long 0]) (p37 : Fld Z h0 b1 cU "hops" "[I" (.ref b14)) (p38 : oAr Z h0 b14 .int [.int 1, .int 0]) (p39 : Fld Z h0 b1 cU "pred" "[I" (.ref b15)) (p40 : oAr Z h0 b15 .int [.int (-1), .int 0]) (p41 : Fld Z h0 b1 cU "predOffer" "[I" (.ref b16)) (p42 : oAr Z h0 b16 .int [.int 1, .int 0]) (p43 : Fld Z h0 b1 cU "heapSize" "I" (.int 0)) (p44 : Fld Z h0 b1 cU "heap" "[I" (.ref b17)) (p45 : oAr Z h0 b17 .int [.int 0, .int 0]) (p46 : Fld Z h0 b1 cU "heapIndex" "[I" (.ref b18)) (p47 : oAr Z h0 b18 .int [.int 0, .int 0]) (p48 : Fld Z h0 b1 cU "holder" "[I" (.ref b19)) (p49 : oAr Z h0 b19 .int [.int 1, .int (-1)]) (p50 : Fld Z h0 b1 cU "utilityMoney" "[J" (.ref b20)) (p51 : oAr Z h0 b20 .long [.long 0, .long y21, .long 0]) (p52 : Fld Z h0 b1 cU "utilitySales" "[J" (.ref b22)) (p53 : oAr Z h0 b22 .long [.long 0, .long 1, .long 0]) (p54 : ¬ ((y6 ^^^ (y6 + (0 : Int64))) &&& ((0 : Int64) ^^^ (y6 + (0 : Int64)))) < (0 : Int64)) (p55 : ¬ ((y6 ^^^ y6) &&& (y6 ^^^ (y6 - y6))) < (0 : Int64)) (p56 : b10 ≠ b1) (p57 : b11 ≠ b1) (p58 : b12 ≠ b1) (p59 : b13 ≠ b1) (p60 : b14 ≠ b1) (p61 : b15 ≠ b1) (p62 : b16 ≠ b1) (p63 : b17 ≠ b1) (p64 : b18 ≠ b1) (p65 : (0 : Int64) < y6) (p66 : n0 ≤ b10) (p67 : b1 ≠ b10) (p68 : b11 ≠ b10) (p69 : n0 ≤ b11) (p70 : b1 ≠ b11) (p71 : b12 ≠ b10) (p72 : b12 ≠ b11) (p73 : n0 ≤ b12) (p74 : b1 ≠ b12) (p75 : b13 ≠ b10) (p76 : b13 ≠ b11) (p77 : b13 ≠ b12) (p78 : n0 ≤ b13) (p79 : b1 ≠ b13) (p80 : b14 ≠ b10) (p81 : b14 ≠ b11) (p82 : b14 ≠ b12) (p83 : b14 ≠ b13) (p84 : n0 ≤ b14) (p85 : b1 ≠ b14) (p86 : b15 ≠ b10) (p87 : b15 ≠ b11) (p88 : b15 ≠ b12) (p89 : b15 ≠ b13) (p90 : b15 ≠ b14) (p91 : n0 ≤ b15) (p92 : b1 ≠ b15) (p93 : b16 ≠ b10) (p94 : b16 ≠ b11) (p95 : b16 ≠ b12) (p96 : b16 ≠ b13) (p97 : b16 ≠ b14) (p98 : b16 ≠ b15) (p99 : n0 ≤ b16) (p100 : b12 ≠ b13) (p101 : b12 ≠ b14) (p102 : b12 ≠ b15) (p103 : b12 ≠ b16) (p104 : b13 ≠ b14) (p105 : b13 ≠ b15) (p106 : b13 ≠ b16) (p107 : b14 ≠ b15) (p108 : b14 ≠ b16) (p109 : b15 ≠ b16) (p110 : b1 ≠ b16) (p111 : b17 ≠ b10) (p112 : b17 ≠ b11) (p113 : b17 ≠ b16) (p114 : b17 ≠ b15) (p115 : b17 ≠ b14) (p116 : b17 ≠ b13) (p117 : b17 ≠ b12) (p118 : b18 ≠ b10) (p119 : b18 ≠ b11) (p120 : b18 ≠ b16) (p121 : b18 ≠ b15) (p122 : b18 ≠ b14) (p123 : b18 ≠ b13) (p124 : b18 ≠ b12) (p125 : n0 ≤ b17) (p126 : b1 ≠ b17) (p127 : b18 ≠ b17) (p128 : n0 ≤ b18) (p129 : b17 ≠ b18) (p130 : b10 ≠ b11) (p131 : b10 ≠ b16) (p132 : b10 ≠ b15) (p133 : b10 ≠ b14) (p134 : b10 ≠ b13) (p135 : b10 ≠ b12) (p136 : b10 ≠ b18) (p137 : b10 ≠ b17) (p138 : b1 ≠ b18) (p139 : b11 ≠ b16) (p140 : b11 ≠ b15) (p141 : b11 ≠ b14) (p142 : b11 ≠ b13) (p143 : b11 ≠ b12) (p144 : b11 ≠ b18) (p145 : b11 ≠ b17) (p146 : b12 ≠ b18) (p147 : b12 ≠ b17) (p148 : b13 ≠ b18) (p149 : b13 ≠ b17) (p150 : b14 ≠ b18) (p151 : b14 ≠ b17) (p152 : b15 ≠ b18) (p153 : b15 ≠ b17) (p154 : b16 ≠ b18) (p155 : b16 ≠ b17) (p156 : b2 ≠ b18) (p157 : b2 ≠ b17) (p158 : b2 ≠ b16) (p159 : b2 ≠ b15) (p160 : b2 ≠ b14) (p161 : b2 ≠ b13) (p162 : b2 ≠ b12) (p163 : b2 ≠ b11) (p164 : b2 ≠ b10) (p165 : b19 ≠ b1) (p166 : b19 ≠ b18) (p167 : b19 ≠ b17) (p168 : b19 ≠ b16) (p169 : b19 ≠ b15) (p170 : b19 ≠ b14) (p171 : b19 ≠ b13) (p172 : b19 ≠ b12) (p173 : b19 ≠ b11) (p174 : b19 ≠ b10) (p175 : b20 ≠ b1) (p176 : b20 ≠ b18) (p177 : b20 ≠ b17) (p178 : b20 ≠ b16) (p179 : b20 ≠ b15) (p180 : b20 ≠ b14) (p181 : b20 ≠ b13) (p182 : b20 ≠ b12) (p183 : b20 ≠ b11) (p184 : b20 ≠ b10) (p185 : ¬ (((0 : Int64) ^^^ ((0 : Int64) + y21)) &&& (y21 ^^^ ((0 : Int64) + y21))) < (0 : Int64)) (p186 : b22 ≠ b1) (p187 : b22 ≠ b18) (p188 : b22 ≠ b17) (p189 : b22 ≠ b16) (p190 : b22 ≠ b15) (p191 : b22 ≠ b14) (p192 : b22 ≠ b13) (p193 : b22 ≠ b12) (p194 : b22 ≠ b11) (p195 : b22 ≠ b10) (p196 : y21 < y6) (p197 : b7 ≠ b18) (p198 : b7 ≠ b17) (p199 : b7 ≠ b16) (p200 : b7 ≠ b15) (p201 : b7 ≠ b14) (p202 : b7 ≠ b13) (p203 : b7 ≠ b12) (p204 : b7 ≠ b11) (p205 : b7 ≠ b10) (p206 : Fld Z h0 b1 cU "changed" "[Z" (.ref b23)) (p207 : oAr Z h0 b23 .boolean [.int 1, .int 0]) (p208 : ¬ ((y21 ^^^ (0 : Int64)) &&& (y21 ^^^ (y21 - (0 : Int64)))) < (0 : Int64)) (p209 : b23 ≠ b1) (p210 : b23 ≠ b18) (p211 : b23 ≠ b17) (p212 : b23 ≠ b16) (p213 : b23 ≠ b15) (p214 : b23 ≠ b14) (p215 : b23 ≠ b13) (p216 : b23 ≠ b12) (p217 : b23 ≠ b11) (p218 : b23 ≠ b10) (p219 : b8 ≠ b18) (p220 : b8 ≠ b17) (p221 : b8 ≠ b16) (p222 : b8 ≠ b15) (p223 : b8 ≠ b14) (p224 : b8 ≠ b13) (p225 : b8 ≠ b12) (p226 : b8 ≠ b11) (p227 : b8 ≠ b10) (p228 : n0 ≤ b8) (p229 : b1 ≠ b8) (p230 : b9 ≠ b18) (p231 : b9 ≠ b17) (p232 : b9 ≠ b16) (p233 : b9 ≠ b15) (p234 : b9 ≠ b14) (p235 : b9 ≠ b13) (p236 : b9 ≠ b12) (p237 : b9 ≠ b11) (p238 : b9 ≠ b10) (p239 : b9 ≠ b8) (p240 : n0 ≤ b9) (p241 : b1 ≠ b9) (p242 : b19 ≠ b8) (p243 : b19 ≠ b9) (p244 : b20 ≠ b8) (p245 : b20 ≠ b9) (p246 : n0 ≤ b20) (p247 : b1 ≠ b20) (p248 : b22 ≠ b8) (p249 : b22 ≠ b9) (p250 : b22 ≠ b20) (p251 : n0 ≤ b22) (p252 : b1 ≠ b22) (p253 : b20 ≠ b22) (p254 : b8 ≠ b9) (p255 : b8 ≠ b20) (p256 : b8 ≠ b22) (p257 : b9 ≠ b20) (p258 : b9 ≠ b22) (p259 : ¬ y21 = (0 : Int64)) (p260 : Fld Z h0 b1 cU "held" "[I" (.ref b24)) (p261 : oAr Z h0 b24 .int [.int (-1), .int 1, .int (-1)]) (p262 : b19 ≠ b22) (p263 : b19 ≠ b20) (p264 : b24 ≠ b1) (p265 : b24 ≠ b18) (p266 : b24 ≠ b17) (p267 : b24 ≠ b16) (p268 : b24 ≠ b15) (p269 : b24 ≠ b14) (p270 : b24 ≠ b13) (p271 : b24 ≠ b12) (p272 : b24 ≠ b11) (p273 : b24 ≠ b10) (p274 : b24 ≠ b22) (p275 : b24 ≠ b20) (p276 : b24 ≠ b9) (p277 : b24 ≠ b8) (p278 : n0 ≤ b24) (p279 : b23 ≠ b22) (p280 : b23 ≠ b20) (p281 : b23 ≠ b9) (p282 : b23 ≠ b8) (p283 : b1 ≠ b24) (p284 : b23 ≠ b24) (p285 : b15 ≠ b22) (p286 : b15 ≠ b20) (p287 : b15 ≠ b9) (p288 : b15 ≠ b8) (p289 : b15 ≠ b24) (p290 : b19 ≠ b24) (p291 : n0 ≤ b19) (p292 : b1 ≠ b19) (p293 : b16 ≠ b22) (p294 : b16 ≠ b20) (p295 : b16 ≠ b9) (p296 : b16 ≠ b8) (p297 : b16 ≠ b24) (p298 : b16 ≠ b19) (p299 : b24 ≠ b19) (p300 : b11 ≠ b22) (p301 : b11 ≠ b20) (p302 : b11 ≠ b9) (p303 : b11 ≠ b8) (p304 : b11 ≠ b19) (p305 : b11 ≠ b24) (p306 : b10 ≠ b22) (p307 : b10 ≠ b20) (p308 : b10 ≠ b9) (p309 : b10 ≠ b8) (p310 : b10 ≠ b19) (p311 : b10 ≠ b24) (p312 : b8 ≠ b19) (p313 : b8 ≠ b24) (p314 : b9 ≠ b19) (p315 : b9 ≠ b24) (p316 : b12 ≠ b22) (p317 : b12 ≠ b20) (p318 : b12 ≠ b9) (p319 : b12 ≠ b8) (p320 : b12 ≠ b19) (p321 : b12 ≠ b24) (p322 : b13 ≠ b22) (p323 : b13 ≠ b20) (p324 : b13 ≠ b9) (p325 : b13 ≠ b8) (p326 : b13 ≠ b19) (p327 : b13 ≠ b24) (p328 : b14 ≠ b22) (p329 : b14 ≠ b20) (p330 : b14 ≠ b9) (p331 : b14 ≠ b8) (p332 : b14 ≠ b19) (p333 : b14 ≠ b24) (p334 : b15 ≠ b19) (p335 : b17 ≠ b22) (p336 : b17 ≠ b20) (p337 : b17 ≠ b9) (p338 : b17 ≠ b8) (p339 : b17 ≠ b19) (p340 : b17 ≠ b24) (p341 : b18 ≠ b22) (p342 : b18 ≠ b20) (p343 : b18 ≠ b9) (p344 : b18 ≠ b8) (p345 : b18 ≠ b19) (p346 : b18 ≠ b24) (p347 : b20 ≠ b19) (p348 : b20 ≠ b24) (p349 : b22 ≠ b19) (p350 : b22 ≠ b24) :
    oMet l Z (⟨cU, "join", "(I)V"⟩ : MethodName) prog_54_method_14_code 12 none [] ({ frames := 5, cells := 0, slots := 0, locals := 103 } : Room) 0 0 n0 #[.ref b1, .int 2] h0 (fun v h => v = none ∧ oKe h0 h [b10, b11, b12, b13, b14, b15, b16, b17, b18, b8, b9, b20, b22, b24, b19] [(b1, Jvm.RoadKit.slotOf Z cU "displaced" "I"), (b1, Jvm.RoadKit.slotOf Z cU "searches" "I"), (b1, Jvm.RoadKit.slotOf Z cU "sinkMoney" "J"), (b1, Jvm.RoadKit.slotOf Z cU "sinkSales" "J"), (b1, Jvm.RoadKit.slotOf Z cU "sinkMoves" "I"), (b1, Jvm.RoadKit.slotOf Z cU "sinkEnd" "I"), (b1, Jvm.RoadKit.slotOf Z cU "sinkGoesWithout" "Z"), (b1, Jvm.RoadKit.slotOf Z cU "touchedCount" "I"), (b1, Jvm.RoadKit.slotOf Z cU "heapSize" "I")] ∧ Fld Z h b1 cU "displaced" "I" (.int 1) ∧ oAr Z h b8 .long [.long y21, .long 0] ∧ oAr Z h b9 .long [.long 1, .long 0] ∧ Fld Z h b1 cU "searches" "I" (.int 2) ∧ Fld Z h b1 cU "sinkMoney" "J" (.long y21) ∧ Fld Z h b1 cU "sinkSales" "J" (.long 1) ∧ Fld Z h b1 cU "sinkMoves" "I" (.int 1) ∧ Fld Z h b1 cU "sinkEnd" "I" (.int 0) ∧ Fld Z h b1 cU "sinkGoesWithout" "Z" (.int 1) ∧ oAr Z h b10 .byte [.int 0, .int 0] ∧ Fld Z h b1 cU "touchedCount" "I" (.int 0) ∧ oAr Z h b11 .int [.int 0, .int 0] ∧ oAr Z h b12 .long [.long 0, .long 0] ∧ oAr Z h b13 .long [.long 0, .long 0] ∧ oAr Z h b14 .int [.int 1, .int 0] ∧ oAr Z h b15 .int [.int (-1), .int 0] ∧ oAr Z h b16 .int [.int 2, .int 0] ∧ Fld Z h b1 cU "heapSize" "I" (.int 0) ∧ oAr Z h b17 .int [.int 0, .int 0] ∧ oAr Z h b18 .int [.int 0, .int 0] ∧ oAr Z h b19 .int [.int 2, .int (-1)] ∧ oAr Z h b20 .long [.long 0, .long 0, .long (y6 - y21)] ∧ oAr Z h b22 .long [.long 0, .long 0, .long 0] ∧ oAr Z h b24 .int [.int (-1), .int (-1), .int 2]) := by
  refine oMet.intro (plainFor_of_name pn_944982) (fun m => ef_8 m b1 (2 : Int32)) ?_
  intro op oe os m obl omt ocd C
  refine oAloadN C d8_0 rfl rfl rfl ?_
  refine oIconst C d8_1 (z := (-1)) rfl rfl ?_
  refine oPutF C (w12 hw) Via.refl p2 p1 (Or.inl (w13 hw)) (w4 hw) (ty := .int) (by decide) rfl rfl d8_2 rfl p3 fun h1 W1 => ?_
  have f1w := Fld.same W1 p2
  refine oLconst C d8_5 (z := 0) rfl rfl ?_
  refine oLstoreN C d8_6 (Ls' := #[.val (.ref b1), .val (.int 2), .val (.long 0), .second, .unset, .unset, .unset, .unset, .unset, .unset, .unset, .unset]) rfl (q := 7) rfl ?_
  refine oLconst C d8_7 (z := 0) rfl rfl ?_
  refine oLstore C d8_8 (Ls' := #[.val (.ref b1), .val (.int 2), .val (.long 0), .second, .val (.long 0), .second, .unset, .unset, .unset, .unset, .unset, .unset]) rfl (q := 10) rfl ?_
  refine oAloadN C d8_10 rfl rfl rfl ?_
  have f2 := (Fld.other W1 p4 (Or.inr (oSn0 hw 1 0)))
  refine oGetF C (w14 hw) Via.refl f2 d8_11 rfl ?_
  refine oIloadN C d8_14 rfl rfl ?_
  have f3 := (p5.other W1 p6)
  refine oIaload C f3 (by decide) (k := 2) rfl (v := .int 2) rfl d8_15 rfl ?_
  refine oIstore C d8_16 (Ls' := #[.val (.ref b1), .val (.int 2), .val (.long 0), .second, .val (.long 0), .second, .val (.int 2), .unset, .unset, .unset, .unset, .unset]) rfl (q := 18) rfl ?_
  refine oIload C d8_18 rfl rfl ?_
  refine oAloadN C d8_20 rfl rfl rfl ?_
  refine oGetF C (w14 hw) Via.refl f2 d8_21 rfl ?_
  refine oIloadN C d8_24 rfl rfl ?_
  refine oIconst C d8_25 (z := 1) rfl rfl ?_
  refine oIadd C d8_26 rfl ?_
  refine oCastI (z' := (3 : Int32)) (by decide) ?_
  refine oIaload C f3 (by decide) (k := 3) rfl (v := .int 3) rfl d8_27 rfl ?_
  refine oIcmp_ge C d8_28 (q := 111) (by decide) (by decide) (r := 31) rfl (fun hq => absurd hq ((by decide))) (fun hc28 => ?_)
  refine oAloadN C d8_31 rfl rfl rfl ?_
  have f4 := (Fld.other W1 p7 (Or.inr (oSn0 hw 3 0)))
  refine oGetF C (w18 hw) Via.refl f4 d8_32 rfl ?_
  refine oIload C d8_35 rfl rfl ?_
  have f5 := (p8.other W1 p9)
  refine oLaload C f5 (by decide) (k := 2) rfl (v := .long y6) rfl d8_37 rfl ?_
  refine oLconst C d8_38 (z := 0) rfl rfl ?_
  refine oLcmp_ge C d8_39 rfl d8_40 (q := 46) (by decide) (by decide) (r := 43) rfl (fun hc39 => ?_) (fun hq => absurd hq (p10))
  refine oAloadN C d8_46 rfl rfl rfl ?_
  have f6 := (Fld.other W1 p11 (Or.inr (oSn0 hw 2 0)))
  refine oGetF C (w16 hw) Via.refl f6 d8_47 rfl ?_
  refine oIload C d8_50 rfl rfl ?_
  have f7 := (p12.other W1 p13)
  refine oIaload C f7 (by decide) (k := 2) rfl (v := .int 0) rfl d8_52 rfl ?_
  refine oIstore C d8_53 (Ls' := #[.val (.ref b1), .val (.int 2), .val (.long 0), .second, .val (.long 0), .second, .val (.int 2), .val (.int 0), .unset, .unset, .unset, .unset]) rfl (q := 55) rfl ?_
  refine oAloadN C d8_55 rfl rfl rfl ?_
  refine oGetF C (w18 hw) Via.refl f4 d8_56 rfl ?_
  refine oIload C d8_59 rfl rfl ?_
  refine oLaload C f5 (by decide) (k := 2) rfl (v := .long y6) rfl d8_61 rfl ?_
  refine oAloadN C d8_62 rfl rfl rfl ?_
  have f8 := (Fld.other W1 p14 (Or.inr (oSn0 hw 4 0)))
  refine oGetF C (w20 hw) Via.refl f8 d8_63 rfl ?_
  refine oIload C d8_66 rfl rfl ?_
  have f9 := (p15.other W1 p16)
  refine oLaload C f9 (by decide) (k := 0) rfl (v := .long 0) rfl d8_68 rfl ?_
  have z11 := (Nat.le_trans Z0 (Nat.le_of_eq W1.size.symm))
  refine oCallS C (w65 hw) (w66 hw) (w67 hw) (w68 hw) d8_69 (by decide) pd_212481 rfl rfl (argsL := [.long y6, .long 0]) (rest := []) rfl (W := 0) rfl (q := 72) rfl (by decide) (by decide) (by decide) (by decide) (ac5_3 l Z a0 hw _ n0 z11 y6 p17) (oRQ ?_)
  rintro h10 K10
  refine oCastL (z' := y6) (own_sub0 _) ?_
  refine oLstore C d8_72 (Ls' := #[.val (.ref b1), .val (.int 2), .val (.long 0), .second, .val (.long 0), .second, .val (.int 2), .val (.int 0), .val (.long y6), .second, .unset, .unset]) rfl (q := 74) rfl ?_
  refine oLconst C d8_74 (z := 1) rfl rfl ?_
  refine oAloadN C d8_75 rfl rfl rfl ?_
  have f12 := (K10.fld (Fld.other W1 p18 (Or.inr (oSn0 hw 5 0))) nin0 oN0)
  refine oGetF C (w22 hw) Via.refl f12 d8_76 rfl ?_
  refine oIload C d8_79 rfl rfl ?_
  have f13 := (K10.arr (p19.other W1 p20) nin0 oA0)
  refine oLaload C f13 (by decide) (k := 0) rfl (v := .long 0) rfl d8_81 rfl ?_
  refine oLsub C d8_82 rfl ?_
  refine oCastL (z' := (1 : Int64)) (by decide) ?_
  refine oLstore C d8_83 (Ls' := #[.val (.ref b1), .val (.int 2), .val (.long 0), .second, .val (.long 0), .second, .val (.int 2), .val (.int 0), .val (.long y6), .second, .val (.long 1), .second]) rfl (q := 85) rfl ?_
  refine oLload C d8_85 rfl rfl ?_
  refine oLload C d8_87 rfl rfl ?_
  refine oLloadN C d8_89 rfl rfl ?_
  refine oLload C d8_90 rfl rfl ?_
  have z15 := (Nat.le_trans z11 K10.1)
  refine oCallS C (w69 hw) (w70 hw) (w5 hw) (w71 hw) d8_92 (by decide) pd_567728 rfl rfl (argsL := [.long y6, .long 1, .long 0, .long 0]) (rest := []) rfl (W := 0) rfl (q := 95) rfl (by decide) (by decide) (by decide) (by decide) (ac6_9 l Z a0 hw _ n0 z15 y6 hc39 p21) (oRQ ?_)
  rintro h14 K14
  refine oIf_le C d8_95 (q := 105) (by decide) (by decide) (r := 98) rfl (fun hq => absurd hq ((by decide))) (fun hc95 => ?_)
  refine oLload C d8_98 rfl rfl ?_
  refine oLstoreN C d8_100 (Ls' := #[.val (.ref b1), .val (.int 2), .val (.long y6), .second, .val (.long 0), .second, .val (.int 2), .val (.int 0), .val (.long y6), .second, .val (.long 1), .second]) rfl (q := 101) rfl ?_
  refine oLload C d8_101 rfl rfl ?_
  refine oLstore C d8_103 (Ls' := #[.val (.ref b1), .val (.int 2), .val (.long y6), .second, .val (.long 1), .second, .val (.int 2), .val (.int 0), .val (.long y6), .second, .val (.long 1), .second]) rfl (q := 105) rfl ?_
  refine oIinc C d8_105 rfl (z := 1) rfl (w := (3 : Int32)) (by decide) (Ls' := #[.val (.ref b1), .val (.int 2), .val (.long y6), .second, .val (.long 1), .second, .val (.int 3), .val (.int 0), .val (.long y6), .second, .val (.long 1), .second]) rfl rfl ?_
  refine oGoto C d8_108 (q := 18) (by decide) (by decide) ?_
  refine oIload C d8_18 rfl rfl ?_
  refine oAloadN C d8_20 rfl rfl rfl ?_
  have f16 := (K14.fld (K10.fld f2 nin0 oN0) nin0 oN0)
  refine oGetF C (w14 hw) Via.refl f16 d8_21 rfl ?_
  refine oIloadN C d8_24 rfl rfl ?_
  refine oIconst C d8_25 (z := 1) rfl rfl ?_
  refine oIadd C d8_26 rfl ?_
  refine oCastI (z' := (3 : Int32)) (by decide) ?_
  have f17 := (K14.arr (K10.arr f3 nin0 oA0) nin0 oA0)
  refine oIaload C f17 (by decide) (k := 3) rfl (v := .int 3) rfl d8_27 rfl ?_
  refine oIcmp_ge C d8_28 (q := 111) (by decide) (by decide) (r := 31) rfl (fun hc28_1 => ?_) (fun hq => absurd hq ((by decide)))
  refine oJoin (α := Unit) (fun _ => True) (fun _ => h14) (fun _ => (mkF m 125 #[.val (.ref b1), .val (.int 2), .val (.long y6), .second, .val (.long 1), .second, .val (.int 3), .val (.int 0), .val (.long y6), .second, .val (.long 1), .second] [])) (k := 0) (n := 0) (fun _ _ => ?_) (fun J125 => ?_)
  ·
   show oW _ _ _ _ _ _ _ _ _ _ _ _ _ _ _ (mkF m 125 #[.val (.ref b1), .val (.int 2), .val (.long y6), .second, .val (.long 1), .second, .val (.int 3), .val (.int 0), .val (.long y6), .second, .val (.long 1), .second] [])
   refine oAloadN C d8_125 rfl rfl rfl ?_
   refine oDup C d8_126 rfl rfl ?_
   have f18 := (K14.fld (K10.fld (Fld.other W1 p22 (Or.inr (oSn0 hw 21 0))) nin0 oN0) nin0 oN0)
   refine oGetF C (w81 hw) Via.refl f18 d8_127 rfl ?_
   refine oIconst C d8_130 (z := 1) rfl rfl ?_
   refine oIadd C d8_131 rfl ?_
   refine oCastI (z' := (2 : Int32)) (by decide) ?_
   have f19 := (K14.exa (K10.exa (Exa.wr W1 p1)))
   refine oPutF C (w81 hw) Via.refl f18 f19 (Or.inl (w82 hw)) (w4 hw) (ty := .int) (by decide) rfl rfl d8_132 rfl p3 fun h20 W20 => ?_
   have f20w := Fld.same W20 f18
   refine oAloadN C d8_135 rfl rfl rfl ?_
   refine oIloadN C d8_136 rfl rfl ?_
   refine oLloadN C d8_137 rfl rfl ?_
   refine oLload C d8_138 rfl rfl ?_
   have f21 := (Exa.wr W20 f19)
   have f22 := (Fld.other W20 (K14.fld (K10.fld (Fld.other W1 p23 (Or.inr (oSn0 hw 22 0))) nin0 oN0) nin0 oN0) (Or.inr (oSn0 hw 22 21)))
   have f23 := (Fld.other W20 (K14.fld (K10.fld (Fld.other W1 p24 (Or.inr (oSn0 hw 23 0))) nin0 oN0) nin0 oN0) (Or.inr (oSn0 hw 23 21)))
   have f24 := (Fld.other W20 (K14.fld (K10.fld (Fld.other W1 p25 (Or.inr (oSn0 hw 24 0))) nin0 oN0) nin0 oN0) (Or.inr (oSn0 hw 24 21)))
   have f25 := (Fld.other W20 (K14.fld (K10.fld (Fld.other W1 p26 (Or.inr (oSn0 hw 25 0))) nin0 oN0) nin0 oN0) (Or.inr (oSn0 hw 25 21)))
   have f26 := (Fld.other W20 (K14.fld (K10.fld (Fld.other W1 p27 (Or.inr (oSn0 hw 26 0))) nin0 oN0) nin0 oN0) (Or.inr (oSn0 hw 26 21)))
   have f27 := (Fld.other W20 f16 (Or.inr (oSn0 hw 1 21)))
   have f28 := (f17.other W20 p6)
   have f29 := (Fld.other W20 (K14.fld (K10.fld f4 nin0 oN0) nin0 oN0) (Or.inr (oSn0 hw 3 21)))
   have f30 := ((K14.arr (K10.arr f5 nin0 oA0) nin0 oA0).other W20 p9)
   have f31 := (Fld.other W20 (K14.fld (K10.fld f6 nin0 oN0) nin0 oN0) (Or.inr (oSn0 hw 2 21)))
   have f32 := ((K14.arr (K10.arr f7 nin0 oA0) nin0 oA0).other W20 p13)
   have f33 := (Fld.other W20 (K14.fld (K10.fld f8 nin0 oN0) nin0 oN0) (Or.inr (oSn0 hw 4 21)))
   have f34 := ((K14.arr (K10.arr f9 nin0 oA0) nin0 oA0).other W20 p16)
   have f35 := (Fld.other W20 (K14.fld f12 nin0 oN0) (Or.inr (oSn0 hw 5 21)))
   have f36 := ((K14.arr f13 nin0 oA0).other W20 p20)
   have f37 := (Fld.other W20 (K14.fld (K10.fld (Fld.other W1 p28 (Or.inr (oSn0 hw 15 0))) nin0 oN0) nin0 oN0) (Or.inr (oSn0 hw 15 21)))
   have f38 := ((K14.arr (K10.arr (p29.other W1 p56) nin0 oA0) nin0 oA0).other W20 p56)
   have f39 := (Fld.other W20 (K14.fld (K10.fld (Fld.other W1 p30 (Or.inr (oSn0 hw 18 0))) nin0 oN0) nin0 oN0) (Or.inr (oSn0 hw 18 21)))
   have f40 := (Fld.other W20 (K14.fld (K10.fld (Fld.other W1 p31 (Or.inr (oSn0 hw 27 0))) nin0 oN0) nin0 oN0) (Or.inr (oSn0 hw 27 21)))
   have f41 := ((K14.arr (K10.arr (p32.other W1 p57) nin0 oA0) nin0 oA0).other W20 p57)
   have f42 := (Fld.other W20 (K14.fld (K10.fld (Fld.other W1 p33 (Or.inr (oSn0 hw 10 0))) nin0 oN0) nin0 oN0) (Or.inr (oSn0 hw 10 21)))
   have f43 := ((K14.arr (K10.arr (p34.other W1 p58) nin0 oA0) nin0 oA0).other W20 p58)
   have f44 := (Fld.other W20 (K14.fld (K10.fld (Fld.other W1 p35 (Or.inr (oSn0 hw 11 0))) nin0 oN0) nin0 oN0) (Or.inr (oSn0 hw 11 21)))
   have f45 := ((K14.arr (K10.arr (p36.other W1 p59) nin0 oA0) nin0 oA0).other W20 p59)
   have f46 := (Fld.other W20 (K14.fld (K10.fld (Fld.other W1 p37 (Or.inr (oSn0 hw 12 0))) nin0 oN0) nin0 oN0) (Or.inr (oSn0 hw 12 21)))
   have f47 := ((K14.arr (K10.arr (p38.other W1 p60) nin0 oA0) nin0 oA0).other W20 p60)
   have f48 := (Fld.other W20 (K14.fld (K10.fld (Fld.other W1 p39 (Or.inr (oSn0 hw 13 0))) nin0 oN0) nin0 oN0) (Or.inr (oSn0 hw 13 21)))
   have f49 := ((K14.arr (K10.arr (p40.other W1 p61) nin0 oA0) nin0 oA0).other W20 p61)
   have f50 := (Fld.other W20 (K14.fld (K10.fld (Fld.other W1 p41 (Or.inr (oSn0 hw 14 0))) nin0 oN0) nin0 oN0) (Or.inr (oSn0 hw 14 21)))
   have f51 := ((K14.arr (K10.arr (p42.other W1 p62) nin0 oA0) nin0 oA0).other W20 p62)
   have f52 := (Fld.other W20 (K14.fld (K10.fld (Fld.other W1 p43 (Or.inr (oSn0 hw 28 0))) nin0 oN0) nin0 oN0) (Or.inr (oSn0 hw 28 21)))
   have f53 := (Fld.other W20 (K14.fld (K10.fld (Fld.other W1 p44 (Or.inr (oSn0 hw 16 0))) nin0 oN0) nin0 oN0) (Or.inr (oSn0 hw 16 21)))
   have f54 := ((K14.arr (K10.arr (p45.other W1 p63) nin0 oA0) nin0 oA0).other W20 p63)
   have f55 := (Fld.other W20 (K14.fld (K10.fld (Fld.other W1 p46 (Or.inr (oSn0 hw 17 0))) nin0 oN0) nin0 oN0) (Or.inr (oSn0 hw 17 21)))
   have f56 := ((K14.arr (K10.arr (p47.other W1 p64) nin0 oA0) nin0 oA0).other W20 p64)
   have f57 := (Fld.other W20 (K14.fld (K10.fld (Fld.other W1 p48 (Or.inr (oSn0 hw 6 0))) nin0 oN0) nin0 oN0) (Or.inr (oSn0 hw 6 21)))
   have f58 := ((K14.arr (K10.arr (p49.other W1 p165) nin0 oA0) nin0 oA0).other W20 p165)
   have f59 := (Fld.other W20 (K14.fld (K10.fld (Fld.other W1 p50 (Or.inr (oSn0 hw 7 0))) nin0 oN0) nin0 oN0) (Or.inr (oSn0 hw 7 21)))
   have f60 := ((K14.arr (K10.arr (p51.other W1 p175) nin0 oA0) nin0 oA0).other W20 p175)
   have f61 := (Fld.other W20 (K14.fld (K10.fld (Fld.other W1 p52 (Or.inr (oSn0 hw 8 0))) nin0 oN0) nin0 oN0) (Or.inr (oSn0 hw 8 21)))
   have f62 := ((K14.arr (K10.arr (p53.other W1 p186) nin0 oA0) nin0 oA0).other W20 p186)
   have z64 := (Nat.le_trans (Nat.le_trans z15 K14.1) (Nat.le_of_eq W20.size.symm))
   refine oCallP C (w83 hw) (w85 hw) (w4 hw) (w84 hw) (w5 hw) (w86 hw) d8_140 f21 (by decide) pd_897967 rfl rfl (a := b1) (argsL := [.int 2, .long y6, .long 1]) (rest := []) rfl (W := 0) rfl (q := 143) rfl (by decide) (by decide) (by decide) (by decide) (ac9_39 l Z a0 hw _ n0 z64 b1 y6 y4 b2 b3 y5 b7 b8 b9 b10 b11 b12 b13 b14 b15 b16 b17 b18 b19 b20 y21 b22 f21 f22 p3 f23 f24 f25 f26 f27 f28 p6 f29 f30 p9 hc39 f31 f32 p13 f33 f34 p16 p54 p55 f35 f36 p20 f37 f38 f39 f40 f41 f42 f43 f44 f45 f46 f47 f48 f49 f50 f51 f52 f53 f54 f55 f56 p65 p56 p66 p67 p57 p68 p69 p58 p59 p60 p61 p62 p70 p71 p72 p73 p74 p75 p76 p77 p78 p79 p80 p81 p82 p83 p84 p85 p86 p87 p88 p89 p90 p91 p92 p93 p94 p95 p96 p97 p98 p99 p100 p101 p102 p103 p104 p105 p106 p107 p108 p109 p110 p63 p64 p111 p112 p113 p114 p115 p116 p117 p118 p119 p120 p121 p122 p123 p124 p125 p126 p127 p128 p129 p130 p131 p132 p133 p134 p135 p136 p137 p138 p139 p140 p141 p142 p143 p144 p145 p146 p147 p148 p149 p150 p151 p152 p153 p154 p155 p156 p157 p158 p159 p160 p161 p162 p163 p164 f57 f58 p165 p166 p167 p168 p169 p170 p171 p172 p173 p174 f59 f60 p175 p176 p177 p178 p179 p180 p181 p182 p183 p184 p185 f61 f62 p186 p187 p188 p189 p190 p191 p192 p193 p194 p195 p196 p197 p198 p199 p200 p201 p202 p203 p204 p205) (oVQ ?_)
   rintro h63 ⟨K63, f63_0, f63_1, f63_2, f63_3, f63_4, f63_5, f63_6, f63_7, f63_8, f63_9, f63_10, f63_11, f63_12, f63_13, f63_14, f63_15⟩
   refine oAloadN C d8_143 rfl rfl rfl ?_
   refine oIloadN C d8_144 rfl rfl ?_
   refine oLloadN C d8_145 rfl rfl ?_
   refine oLload C d8_146 rfl rfl ?_
   have f65 := (K63.fld f39 (ninS p67 (ninS p70 (ninS p74 (ninS p79 (ninS p85 (ninS p92 (ninS p110 (ninS p126 (ninS p138 nin0))))))))) (oNF (Or.inr (oSn0 hw 18 22)) (oNF (Or.inr (oSn0 hw 18 23)) (oNF (Or.inr (oSn0 hw 18 24)) (oNF (Or.inr (oSn0 hw 18 25)) (oNF (Or.inr (oSn0 hw 18 26)) (oNF (Or.inr (oSn0 hw 18 27)) (oNF (Or.inr (oSn0 hw 18 28)) oN0))))))))
   have f66 := (K63.fld f37 (ninS p67 (ninS p70 (ninS p74 (ninS p79 (ninS p85 (ninS p92 (ninS p110 (ninS p126 (ninS p138 nin0))))))))) (oNF (Or.inr (oSn0 hw 15 22)) (oNF (Or.inr (oSn0 hw 15 23)) (oNF (Or.inr (oSn0 hw 15 24)) (oNF (Or.inr (oSn0 hw 15 25)) (oNF (Or.inr (oSn0 hw 15 26)) (oNF (Or.inr (oSn0 hw 15 27)) (oNF (Or.inr (oSn0 hw 15 28)) oN0))))))))
   have f67 := (K63.fld f42 (ninS p67 (ninS p70 (ninS p74 (ninS p79 (ninS p85 (ninS p92 (ninS p110 (ninS p126 (ninS p138 nin0))))))))) (oNF (Or.inr (oSn0 hw 10 22)) (oNF (Or.inr (oSn0 hw 10 23)) (oNF (Or.inr (oSn0 hw 10 24)) (oNF (Or.inr (oSn0 hw 10 25)) (oNF (Or.inr (oSn0 hw 10 26)) (oNF (Or.inr (oSn0 hw 10 27)) (oNF (Or.inr (oSn0 hw 10 28)) oN0))))))))
   have f68 := (K63.fld f44 (ninS p67 (ninS p70 (ninS p74 (ninS p79 (ninS p85 (ninS p92 (ninS p110 (ninS p126 (ninS p138 nin0))))))))) (oNF (Or.inr (oSn0 hw 11 22)) (oNF (Or.inr (oSn0 hw 11 23)) (oNF (Or.inr (oSn0 hw 11 24)) (oNF (Or.inr (oSn0 hw 11 25)) (oNF (Or.inr (oSn0 hw 11 26)) (oNF (Or.inr (oSn0 hw 11 27)) (oNF (Or.inr (oSn0 hw 11 28)) oN0))))))))
   have f69 := (K63.fld (Fld.other W20 (K14.fld (K10.fld (Fld.other W1 p206 (Or.inr (oSn0 hw 19 0))) nin0 oN0) nin0 oN0) (Or.inr (oSn0 hw 19 21))) (ninS p67 (ninS p70 (ninS p74 (ninS p79 (ninS p85 (ninS p92 (ninS p110 (ninS p126 (ninS p138 nin0))))))))) (oNF (Or.inr (oSn0 hw 19 22)) (oNF (Or.inr (oSn0 hw 19 23)) (oNF (Or.inr (oSn0 hw 19 24)) (oNF (Or.inr (oSn0 hw 19 25)) (oNF (Or.inr (oSn0 hw 19 26)) (oNF (Or.inr (oSn0 hw 19 27)) (oNF (Or.inr (oSn0 hw 19 28)) oN0))))))))
   have f70 := (K63.arr ((K14.arr (K10.arr (p207.other W1 p209) nin0 oA0) nin0 oA0).other W20 p209) (ninS p218 (ninS p217 (ninS p216 (ninS p215 (ninS p214 (ninS p213 (ninS p212 (ninS p211 (ninS p210 nin0))))))))) (oAS p209 (oAS p209 (oAS p209 (oAS p209 (oAS p209 (oAS p209 (oAS p209 oA0))))))))
   have f71 := (K63.exa f21)
   have f72 := (K63.fld f33 (ninS p67 (ninS p70 (ninS p74 (ninS p79 (ninS p85 (ninS p92 (ninS p110 (ninS p126 (ninS p138 nin0))))))))) (oNF (Or.inr (oSn0 hw 4 22)) (oNF (Or.inr (oSn0 hw 4 23)) (oNF (Or.inr (oSn0 hw 4 24)) (oNF (Or.inr (oSn0 hw 4 25)) (oNF (Or.inr (oSn0 hw 4 26)) (oNF (Or.inr (oSn0 hw 4 27)) (oNF (Or.inr (oSn0 hw 4 28)) oN0))))))))
   have f73 := (K63.arr f34 (ninS p227 (ninS p226 (ninS p225 (ninS p224 (ninS p223 (ninS p222 (ninS p221 (ninS p220 (ninS p219 nin0))))))))) (oAS p16 (oAS p16 (oAS p16 (oAS p16 (oAS p16 (oAS p16 (oAS p16 oA0))))))))
   have f74 := (K63.fld f35 (ninS p67 (ninS p70 (ninS p74 (ninS p79 (ninS p85 (ninS p92 (ninS p110 (ninS p126 (ninS p138 nin0))))))))) (oNF (Or.inr (oSn0 hw 5 22)) (oNF (Or.inr (oSn0 hw 5 23)) (oNF (Or.inr (oSn0 hw 5 24)) (oNF (Or.inr (oSn0 hw 5 25)) (oNF (Or.inr (oSn0 hw 5 26)) (oNF (Or.inr (oSn0 hw 5 27)) (oNF (Or.inr (oSn0 hw 5 28)) oN0))))))))
   have f75 := (K63.arr f36 (ninS p238 (ninS p237 (ninS p236 (ninS p235 (ninS p234 (ninS p233 (ninS p232 (ninS p231 (ninS p230 nin0))))))))) (oAS p20 (oAS p20 (oAS p20 (oAS p20 (oAS p20 (oAS p20 (oAS p20 oA0))))))))
   have f76 := (K63.fld f57 (ninS p67 (ninS p70 (ninS p74 (ninS p79 (ninS p85 (ninS p92 (ninS p110 (ninS p126 (ninS p138 nin0))))))))) (oNF (Or.inr (oSn0 hw 6 22)) (oNF (Or.inr (oSn0 hw 6 23)) (oNF (Or.inr (oSn0 hw 6 24)) (oNF (Or.inr (oSn0 hw 6 25)) (oNF (Or.inr (oSn0 hw 6 26)) (oNF (Or.inr (oSn0 hw 6 27)) (oNF (Or.inr (oSn0 hw 6 28)) oN0))))))))
   have f77 := (K63.arr f58 (ninS p174 (ninS p173 (ninS p172 (ninS p171 (ninS p170 (ninS p169 (ninS p168 (ninS p167 (ninS p166 nin0))))))))) (oAS p165 (oAS p165 (oAS p165 (oAS p165 (oAS p165 (oAS p165 (oAS p165 oA0))))))))
   have f78 := (K63.fld f59 (ninS p67 (ninS p70 (ninS p74 (ninS p79 (ninS p85 (ninS p92 (ninS p110 (ninS p126 (ninS p138 nin0))))))))) (oNF (Or.inr (oSn0 hw 7 22)) (oNF (Or.inr (oSn0 hw 7 23)) (oNF (Or.inr (oSn0 hw 7 24)) (oNF (Or.inr (oSn0 hw 7 25)) (oNF (Or.inr (oSn0 hw 7 26)) (oNF (Or.inr (oSn0 hw 7 27)) (oNF (Or.inr (oSn0 hw 7 28)) oN0))))))))
   have f79 := (K63.arr f60 (ninS p184 (ninS p183 (ninS p182 (ninS p181 (ninS p180 (ninS p179 (ninS p178 (ninS p177 (ninS p176 nin0))))))))) (oAS p175 (oAS p175 (oAS p175 (oAS p175 (oAS p175 (oAS p175 (oAS p175 oA0))))))))
   have f80 := (K63.fld f61 (ninS p67 (ninS p70 (ninS p74 (ninS p79 (ninS p85 (ninS p92 (ninS p110 (ninS p126 (ninS p138 nin0))))))))) (oNF (Or.inr (oSn0 hw 8 22)) (oNF (Or.inr (oSn0 hw 8 23)) (oNF (Or.inr (oSn0 hw 8 24)) (oNF (Or.inr (oSn0 hw 8 25)) (oNF (Or.inr (oSn0 hw 8 26)) (oNF (Or.inr (oSn0 hw 8 27)) (oNF (Or.inr (oSn0 hw 8 28)) oN0))))))))
   have f81 := (K63.arr f62 (ninS p195 (ninS p194 (ninS p193 (ninS p192 (ninS p191 (ninS p190 (ninS p189 (ninS p188 (ninS p187 nin0))))))))) (oAS p186 (oAS p186 (oAS p186 (oAS p186 (oAS p186 (oAS p186 (oAS p186 oA0))))))))
   have z83 := (Nat.le_trans z64 K63.1)
   refine oCallP C (w136 hw) (w138 hw) (w4 hw) (w137 hw) (w5 hw) (w139 hw) d8_148 f71 (by decide) pd_897967 rfl rfl (a := b1) (argsL := [.int 2, .long y6, .long 1]) (rest := []) rfl (W := 0) rfl (q := 151) rfl (by decide) (by decide) (by decide) (by decide) (ac19_40 l Z a0 hw _ n0 z83 b1 y6 b11 b10 y21 b12 b13 b23 b8 b9 b19 b20 b22 f63_6 f65 f63_7 f66 f63_5 f63_0 f67 f63_8 p208 f63_1 f68 f63_9 f69 f70 f71 f72 f73 p185 p228 f74 p229 f75 p239 p240 f76 p241 f77 p242 p243 f78 f79 p244 p245 p246 f80 p247 f81 p248 p249 p250 p251 p252 p253 p254 p255 p256 p257 p258 p259) (oVQ ?_)
   rintro h82 ⟨K82, f82_0, f82_1, f82_2, f82_3⟩
   refine oAloadN C d8_151 rfl rfl rfl ?_
   refine oIloadN C d8_152 rfl rfl ?_
   have f84 := (K82.fld f63_3 (ninS p229 (ninS p241 (ninS p247 (ninS p252 nin0)))) oN0)
   have f85 := (K82.fld f63_4 (ninS p229 (ninS p241 (ninS p247 (ninS p252 nin0)))) oN0)
   have f86 := (K82.fld f76 (ninS p229 (ninS p241 (ninS p247 (ninS p252 nin0)))) oN0)
   have f87 := (K82.arr f77 (ninS p242 (ninS p243 (ninS p263 (ninS p262 nin0)))) oA0)
   have f88 := (K82.exa f71)
   have f89 := (K82.fld (K63.fld (Fld.other W20 (K14.fld (K10.fld f1w nin0 oN0) nin0 oN0) (Or.inr (oSn0 hw 0 21))) (ninS p67 (ninS p70 (ninS p74 (ninS p79 (ninS p85 (ninS p92 (ninS p110 (ninS p126 (ninS p138 nin0))))))))) (oNF (Or.inr (oSn0 hw 0 22)) (oNF (Or.inr (oSn0 hw 0 23)) (oNF (Or.inr (oSn0 hw 0 24)) (oNF (Or.inr (oSn0 hw 0 25)) (oNF (Or.inr (oSn0 hw 0 26)) (oNF (Or.inr (oSn0 hw 0 27)) (oNF (Or.inr (oSn0 hw 0 28)) oN0)))))))) (ninS p229 (ninS p241 (ninS p247 (ninS p252 nin0)))) oN0)
   have f90 := (K82.fld (K63.fld (Fld.other W20 (K14.fld (K10.fld (Fld.other W1 p260 (Or.inr (oSn0 hw 9 0))) nin0 oN0) nin0 oN0) (Or.inr (oSn0 hw 9 21))) (ninS p67 (ninS p70 (ninS p74 (ninS p79 (ninS p85 (ninS p92 (ninS p110 (ninS p126 (ninS p138 nin0))))))))) (oNF (Or.inr (oSn0 hw 9 22)) (oNF (Or.inr (oSn0 hw 9 23)) (oNF (Or.inr (oSn0 hw 9 24)) (oNF (Or.inr (oSn0 hw 9 25)) (oNF (Or.inr (oSn0 hw 9 26)) (oNF (Or.inr (oSn0 hw 9 27)) (oNF (Or.inr (oSn0 hw 9 28)) oN0)))))))) (ninS p229 (ninS p241 (ninS p247 (ninS p252 nin0)))) oN0)
   have f91 := (K82.arr (K63.arr ((K14.arr (K10.arr (p261.other W1 p264) nin0 oA0) nin0 oA0).other W20 p264) (ninS p273 (ninS p272 (ninS p271 (ninS p270 (ninS p269 (ninS p268 (ninS p267 (ninS p266 (ninS p265 nin0))))))))) (oAS p264 (oAS p264 (oAS p264 (oAS p264 (oAS p264 (oAS p264 (oAS p264 oA0)))))))) (ninS p277 (ninS p276 (ninS p275 (ninS p274 nin0)))) oA0)
   have f92 := (K82.fld f69 (ninS p229 (ninS p241 (ninS p247 (ninS p252 nin0)))) oN0)
   have f93 := (K82.arr f70 (ninS p282 (ninS p281 (ninS p280 (ninS p279 nin0)))) oA0)
   have f94 := (K82.fld (K63.fld f48 (ninS p67 (ninS p70 (ninS p74 (ninS p79 (ninS p85 (ninS p92 (ninS p110 (ninS p126 (ninS p138 nin0))))))))) (oNF (Or.inr (oSn0 hw 13 22)) (oNF (Or.inr (oSn0 hw 13 23)) (oNF (Or.inr (oSn0 hw 13 24)) (oNF (Or.inr (oSn0 hw 13 25)) (oNF (Or.inr (oSn0 hw 13 26)) (oNF (Or.inr (oSn0 hw 13 27)) (oNF (Or.inr (oSn0 hw 13 28)) oN0)))))))) (ninS p229 (ninS p241 (ninS p247 (ninS p252 nin0)))) oN0)
   have f95 := (K82.arr f63_11 (ninS p288 (ninS p287 (ninS p286 (ninS p285 nin0)))) oA0)
   have f96 := (K82.fld (K63.fld f50 (ninS p67 (ninS p70 (ninS p74 (ninS p79 (ninS p85 (ninS p92 (ninS p110 (ninS p126 (ninS p138 nin0))))))))) (oNF (Or.inr (oSn0 hw 14 22)) (oNF (Or.inr (oSn0 hw 14 23)) (oNF (Or.inr (oSn0 hw 14 24)) (oNF (Or.inr (oSn0 hw 14 25)) (oNF (Or.inr (oSn0 hw 14 26)) (oNF (Or.inr (oSn0 hw 14 27)) (oNF (Or.inr (oSn0 hw 14 28)) oN0)))))))) (ninS p229 (ninS p241 (ninS p247 (ninS p252 nin0)))) oN0)
   have f97 := (K82.arr f63_12 (ninS p296 (ninS p295 (ninS p294 (ninS p293 nin0)))) oA0)
   have z99 := (Nat.le_trans z83 K82.1)
   refine oCallP C (w147 hw) (w149 hw) (w4 hw) (w148 hw) (w5 hw) (w150 hw) d8_153 f88 (by decide) pd_674841 rfl rfl (a := b1) (argsL := [.int 2]) (rest := []) rfl (W := 0) rfl (q := 156) rfl (by decide) (by decide) (by decide) (by decide) (ac21_41 l Z a0 hw _ n0 z99 b1 b19 b24 b23 b15 b16 f84 f85 f86 f87 f88 f89 p3 f90 f91 p264 p278 f92 f93 p283 p209 p284 f94 f95 p61 p289 p165 p290 p291 p292 f96 f97 p62 p297 p298 p299) (oVQ ?_)
   rintro h98 ⟨K98, f98_0, f98_1, f98_2⟩
   refine oIconst C d8_156 (z := 0) rfl rfl ?_
   refine oIstore C d8_157 (Ls' := #[.val (.ref b1), .val (.int 2), .val (.long y6), .second, .val (.long 1), .second, .val (.int 0), .val (.int 0), .val (.long y6), .second, .val (.long 1), .second]) rfl (q := 159) rfl ?_
   refine oIload C d8_159 rfl rfl ?_
   refine oAloadN C d8_161 rfl rfl rfl ?_
   have f100 := (K98.fld (K82.fld f63_6 (ninS p229 (ninS p241 (ninS p247 (ninS p252 nin0)))) oN0) (ninS p283 (ninS p292 nin0)) (oNF (Or.inr (oSn0 hw 27 0)) oN0))
   refine oGetF C (w112 hw) Via.refl f100 d8_162 rfl ?_
   refine oIcmp_ge C d8_165 (q := 187) (by decide) (by decide) (r := 168) rfl (fun hq => absurd hq ((by decide))) (fun hc165 => ?_)
   refine oAloadN C d8_168 rfl rfl rfl ?_
   have f101 := (K98.fld (K82.fld f66 (ninS p229 (ninS p241 (ninS p247 (ninS p252 nin0)))) oN0) (ninS p283 (ninS p292 nin0)) (oNF (Or.inr (oSn0 hw 15 0)) oN0))
   refine oGetF C (w47 hw) Via.refl f101 d8_169 rfl ?_
   refine oAloadN C d8_172 rfl rfl rfl ?_
   have f102 := (K98.fld (K82.fld f65 (ninS p229 (ninS p241 (ninS p247 (ninS p252 nin0)))) oN0) (ninS p283 (ninS p292 nin0)) (oNF (Or.inr (oSn0 hw 18 0)) oN0))
   refine oGetF C (w53 hw) Via.refl f102 d8_173 rfl ?_
   refine oIload C d8_176 rfl rfl ?_
   have f103 := (K98.arr (K82.arr f63_7 (ninS p303 (ninS p302 (ninS p301 (ninS p300 nin0)))) oA0) (ninS p305 (ninS p304 nin0)) (oAS p57 oA0))
   refine oIaload C f103 (by decide) (k := 0) rfl (v := .int 0) rfl d8_178 rfl ?_
   refine oIconst C d8_179 (z := 0) rfl rfl ?_
   have f104 := (K98.arr (K82.arr f63_5 (ninS p309 (ninS p308 (ninS p307 (ninS p306 nin0)))) oA0) (ninS p311 (ninS p310 nin0)) (oAS p56 oA0))
   refine oBastore C f104 (by decide) (k := 0) rfl (v := .int 2) rfl (v' := .int 0) rfl d8_180 rfl p66 fun h105 W105 A105 => ?_
   have A105l : oAr Z h105 b10 .byte [.int 0, .int 0] := A105
   refine oIinc C d8_181 rfl (z := 1) rfl (w := (1 : Int32)) (by decide) (Ls' := #[.val (.ref b1), .val (.int 2), .val (.long y6), .second, .val (.long 1), .second, .val (.int 1), .val (.int 0), .val (.long y6), .second, .val (.long 1), .second]) rfl rfl ?_
   refine oGoto C d8_184 (q := 159) (by decide) (by decide) ?_
   refine oIload C d8_159 rfl rfl ?_
   refine oAloadN C d8_161 rfl rfl rfl ?_
   have f106 := (Fld.other W105 f100 (Or.inl p67))
   refine oGetF C (w112 hw) Via.refl f106 d8_162 rfl ?_
   refine oIcmp_ge C d8_165 (q := 187) (by decide) (by decide) (r := 168) rfl (fun hc165_1 => ?_) (fun hq => absurd hq ((by decide)))
   refine oAloadN C d8_187 rfl rfl rfl ?_
   refine oIconst C d8_188 (z := 0) rfl rfl ?_
   have f107 := (Exa.wr W105 (K98.exa f88))
   refine oPutF C (w112 hw) Via.refl f106 f107 (Or.inl (w113 hw)) (w4 hw) (ty := .int) (by decide) rfl rfl d8_189 rfl p3 fun h108 W108 => ?_
   have f108w := Fld.same W108 f106
   refine oAloadN C d8_192 rfl rfl rfl ?_
   refine oIconst C d8_193 (z := 0) rfl rfl ?_
   have f109 := (Exa.wr W108 f107)
   have f110 := (Fld.other W108 (Fld.other W105 (K98.fld (K82.fld f63_13 (ninS p229 (ninS p241 (ninS p247 (ninS p252 nin0)))) oN0) (ninS p283 (ninS p292 nin0)) (oNF (Or.inr (oSn0 hw 28 0)) oN0)) (Or.inl p67)) (Or.inr (oSn0 hw 28 27)))
   refine oPutF C (w118 hw) Via.refl f110 f109 (Or.inl (w119 hw)) (w4 hw) (ty := .int) (by decide) rfl rfl d8_194 rfl p3 fun h111 W111 => ?_
   have f111w := Fld.same W111 f110
   refine oRetV C d8_197 (by decide) (by decide) ?_
   have f112 := (Fld.other W111 (Fld.other W108 (Fld.other W105 f98_1 (Or.inl p67)) (Or.inr (oSn0 hw 0 27))) (Or.inr (oSn0 hw 0 28)))
   have f113 := ((((K98.arr f82_0 (ninS p313 (ninS p312 nin0)) (oAS p16 oA0)).other W105 p227).other W108 p16).other W111 p16)
   have f114 := ((((K98.arr f82_1 (ninS p315 (ninS p314 nin0)) (oAS p20 oA0)).other W105 p238).other W108 p20).other W111 p20)
   have f115 := (Fld.other W111 (Fld.other W108 (Fld.other W105 (K98.fld (K82.fld (K63.fld f20w (ninS p67 (ninS p70 (ninS p74 (ninS p79 (ninS p85 (ninS p92 (ninS p110 (ninS p126 (ninS p138 nin0))))))))) (oNF (Or.inr (oSn0 hw 21 22)) (oNF (Or.inr (oSn0 hw 21 23)) (oNF (Or.inr (oSn0 hw 21 24)) (oNF (Or.inr (oSn0 hw 21 25)) (oNF (Or.inr (oSn0 hw 21 26)) (oNF (Or.inr (oSn0 hw 21 27)) (oNF (Or.inr (oSn0 hw 21 28)) oN0)))))))) (ninS p229 (ninS p241 (ninS p247 (ninS p252 nin0)))) oN0) (ninS p283 (ninS p292 nin0)) (oNF (Or.inr (oSn0 hw 21 0)) oN0)) (Or.inl p67)) (Or.inr (oSn0 hw 21 27))) (Or.inr (oSn0 hw 21 28)))
   have f116 := (Fld.other W111 (Fld.other W108 (Fld.other W105 (K98.fld (K82.fld f63_0 (ninS p229 (ninS p241 (ninS p247 (ninS p252 nin0)))) oN0) (ninS p283 (ninS p292 nin0)) (oNF (Or.inr (oSn0 hw 22 0)) oN0)) (Or.inl p67)) (Or.inr (oSn0 hw 22 27))) (Or.inr (oSn0 hw 22 28)))
   have f117 := (Fld.other W111 (Fld.other W108 (Fld.other W105 (K98.fld (K82.fld f63_1 (ninS p229 (ninS p241 (ninS p247 (ninS p252 nin0)))) oN0) (ninS p283 (ninS p292 nin0)) (oNF (Or.inr (oSn0 hw 23 0)) oN0)) (Or.inl p67)) (Or.inr (oSn0 hw 23 27))) (Or.inr (oSn0 hw 23 28)))
   have f118 := (Fld.other W111 (Fld.other W108 (Fld.other W105 (K98.fld (K82.fld f63_2 (ninS p229 (ninS p241 (ninS p247 (ninS p252 nin0)))) oN0) (ninS p283 (ninS p292 nin0)) (oNF (Or.inr (oSn0 hw 24 0)) oN0)) (Or.inl p67)) (Or.inr (oSn0 hw 24 27))) (Or.inr (oSn0 hw 24 28)))
   have f119 := (Fld.other W111 (Fld.other W108 (Fld.other W105 (K98.fld f84 (ninS p283 (ninS p292 nin0)) (oNF (Or.inr (oSn0 hw 25 0)) oN0)) (Or.inl p67)) (Or.inr (oSn0 hw 25 27))) (Or.inr (oSn0 hw 25 28)))
   have f120 := (Fld.other W111 (Fld.other W108 (Fld.other W105 (K98.fld f85 (ninS p283 (ninS p292 nin0)) (oNF (Or.inr (oSn0 hw 26 0)) oN0)) (Or.inl p67)) (Or.inr (oSn0 hw 26 27))) (Or.inr (oSn0 hw 26 28)))
   have f121 := ((A105l.other W108 p56).other W111 p56)
   have f122 := (Fld.other W111 f108w (Or.inr (oSn0 hw 27 28)))
   have f123 := (((f103.other W105 p68).other W108 p57).other W111 p57)
   have f124 := ((((K98.arr (K82.arr f63_8 (ninS p319 (ninS p318 (ninS p317 (ninS p316 nin0)))) oA0) (ninS p321 (ninS p320 nin0)) (oAS p58 oA0)).other W105 p71).other W108 p58).other W111 p58)
   have f125 := ((((K98.arr (K82.arr f63_9 (ninS p325 (ninS p324 (ninS p323 (ninS p322 nin0)))) oA0) (ninS p327 (ninS p326 nin0)) (oAS p59 oA0)).other W105 p75).other W108 p59).other W111 p59)
   have f126 := ((((K98.arr (K82.arr f63_10 (ninS p331 (ninS p330 (ninS p329 (ninS p328 nin0)))) oA0) (ninS p333 (ninS p332 nin0)) (oAS p60 oA0)).other W105 p80).other W108 p60).other W111 p60)
   have f127 := ((((K98.arr f95 (ninS p289 (ninS p334 nin0)) (oAS p61 oA0)).other W105 p86).other W108 p61).other W111 p61)
   have f128 := ((((K98.arr f97 (ninS p297 (ninS p298 nin0)) (oAS p62 oA0)).other W105 p93).other W108 p62).other W111 p62)
   have f129 := ((((K98.arr (K82.arr f63_14 (ninS p338 (ninS p337 (ninS p336 (ninS p335 nin0)))) oA0) (ninS p340 (ninS p339 nin0)) (oAS p63 oA0)).other W105 p111).other W108 p63).other W111 p63)
   have f130 := ((((K98.arr (K82.arr f63_15 (ninS p344 (ninS p343 (ninS p342 (ninS p341 nin0)))) oA0) (ninS p346 (ninS p345 nin0)) (oAS p64 oA0)).other W105 p118).other W108 p64).other W111 p64)
   have f131 := (((f98_0.other W105 p174).other W108 p165).other W111 p165)
   have f132 := ((((K98.arr f82_2 (ninS p348 (ninS p347 nin0)) (oAS p175 oA0)).other W105 p184).other W108 p175).other W111 p175)
   have f133 := ((((K98.arr f82_3 (ninS p350 (ninS p349 nin0)) (oAS p186 oA0)).other W105 p195).other W108 p186).other W111 p186)
   have f134 := (((f98_2.other W105 p273).other W108 p264).other W111 p264)
   exact ⟨rfl, (((((((((((oKe.refl h0 [b10, b11, b12, b13, b14, b15, b16, b17, b18, b8, b9, b20, b22, b24, b19] [(b1, Jvm.RoadKit.slotOf Z cU "displaced" "I"), (b1, Jvm.RoadKit.slotOf Z cU "searches" "I"), (b1, Jvm.RoadKit.slotOf Z cU "sinkMoney" "J"), (b1, Jvm.RoadKit.slotOf Z cU "sinkSales" "J"), (b1, Jvm.RoadKit.slotOf Z cU "sinkMoves" "I"), (b1, Jvm.RoadKit.slotOf Z cU "sinkEnd" "I"), (b1, Jvm.RoadKit.slotOf Z cU "sinkGoesWithout" "Z"), (b1, Jvm.RoadKit.slotOf Z cU "touchedCount" "I"), (b1, Jvm.RoadKit.slotOf Z cU "heapSize" "I")]).wrF W1 (Or.inl (List.mem_of_getElem? (i := 0) rfl))).trans K10 all0 oA0).trans K14 all0 oA0).wrF W20 (Or.inl (List.mem_of_getElem? (i := 1) rfl))).trans K63 (allS (Or.inl (List.mem_of_getElem? (i := 0) rfl)) (allS (Or.inl (List.mem_of_getElem? (i := 1) rfl)) (allS (Or.inl (List.mem_of_getElem? (i := 2) rfl)) (allS (Or.inl (List.mem_of_getElem? (i := 3) rfl)) (allS (Or.inl (List.mem_of_getElem? (i := 4) rfl)) (allS (Or.inl (List.mem_of_getElem? (i := 5) rfl)) (allS (Or.inl (List.mem_of_getElem? (i := 6) rfl)) (allS (Or.inl (List.mem_of_getElem? (i := 7) rfl)) (allS (Or.inl (List.mem_of_getElem? (i := 8) rfl)) all0))))))))) (oAS (Or.inl (List.mem_of_getElem? (i := 2) rfl)) (oAS (Or.inl (List.mem_of_getElem? (i := 3) rfl)) (oAS (Or.inl (List.mem_of_getElem? (i := 4) rfl)) (oAS (Or.inl (List.mem_of_getElem? (i := 5) rfl)) (oAS (Or.inl (List.mem_of_getElem? (i := 6) rfl)) (oAS (Or.inl (List.mem_of_getElem? (i := 7) rfl)) (oAS (Or.inl (List.mem_of_getElem? (i := 8) rfl)) oA0)))))))).trans K82 (allS (Or.inl (List.mem_of_getElem? (i := 9) rfl)) (allS (Or.inl (List.mem_of_getElem? (i := 10) rfl)) (allS (Or.inl (List.mem_of_getElem? (i := 11) rfl)) (allS (Or.inl (List.mem_of_getElem? (i := 12) rfl)) all0)))) oA0).trans K98 (allS (Or.inl (List.mem_of_getElem? (i := 13) rfl)) (allS (Or.inl (List.mem_of_getElem? (i := 14) rfl)) all0)) (oAS (Or.inl (List.mem_of_getElem? (i := 0) rfl)) oA0)).wrA W105 (Or.inl (List.mem_of_getElem? (i := 0) rfl))).wrF W108 (Or.inl (List.mem_of_getElem? (i := 7) rfl))).wrF W111 (Or.inl (List.mem_of_getElem? (i := 8) rfl))), f112, f113, f114, f115, f116, f117, f118, f119, f120, f121, f122, f123, f124, f125, f126, f127, f128, f111w, f129, f130, f131, f132, f133, f134⟩
  ·
   refine oLloadN C d8_111 rfl rfl ?_
   refine oLconst C d8_112 (z := 0) rfl rfl ?_
   refine oLcmp_ne C d8_113 rfl d8_114 (q := 125) (by decide) (by decide) (r := 117) rfl (fun hc113 => ?_) (fun hq => absurd hq (p21))
   exact J125 () trivial
theorem or10 (v0 dd v1 v2 : Int64) (r_v0 : 0 ≤ v0.toInt ∧ v0.toInt < 1152921504606846976) (r_dd : 1 ≤ dd.toInt ∧ dd.toInt ≤ 1152921504606846976) (r_v1 : v1.toInt = v0.toInt + dd.toInt) (r_v2 : 0 ≤ v2.toInt ∧ v2.toInt ≤ 1152921504606846976) (rA : dd.toInt < v2.toInt) : ¬ v2 < (0 : Int64) := by (try simp only [Int64.lt_iff_toInt_lt, ← Int64.toInt_inj, Int64.reduceToInt] at *) <;> omega
theorem or11 (v0 dd v1 v2 : Int64) (r_v0 : 0 ≤ v0.toInt ∧ v0.toInt < 1152921504606846976) (r_dd : 1 ≤ dd.toInt ∧ dd.toInt ≤ 1152921504606846976) (r_v1 : v1.toInt = v0.toInt + dd.toInt) (r_v2 : 0 ≤ v2.toInt ∧ v2.toInt ≤ 1152921504606846976) (rA : dd.toInt < v2.toInt) : ¬ ((v2 ^^^ (0 : Int64)) &&& (v2 ^^^ (v2 - (0 : Int64)))) < (0 : Int64) := own_subx v2 (0 : Int64) (by have q0 := c_lsub v2 (0 : Int64); have q1 := rng64 (v2 - (0 : Int64)); (try simp only [Int64.lt_iff_toInt_lt, ← Int64.toInt_inj, Int64.reduceToInt] at *) <;> omega) (by have q0 := c_lsub v2 (0 : Int64); have q1 := rng64 (v2 - (0 : Int64)); (try simp only [Int64.lt_iff_toInt_lt, ← Int64.toInt_inj, Int64.reduceToInt] at *) <;> omega)
theorem or12 (v0 dd v1 v2 : Int64) (r_v0 : 0 ≤ v0.toInt ∧ v0.toInt < 1152921504606846976) (r_dd : 1 ≤ dd.toInt ∧ dd.toInt ≤ 1152921504606846976) (r_v1 : v1.toInt = v0.toInt + dd.toInt) (r_v2 : 0 ≤ v2.toInt ∧ v2.toInt ≤ 1152921504606846976) (rA : dd.toInt < v2.toInt) : ¬ v2 = (0 : Int64) := by (try simp only [Int64.lt_iff_toInt_lt, ← Int64.toInt_inj, Int64.reduceToInt] at *) <;> omega
theorem or13 (v0 dd v1 v2 : Int64) (r_v0 : 0 ≤ v0.toInt ∧ v0.toInt < 1152921504606846976) (r_dd : 1 ≤ dd.toInt ∧ dd.toInt ≤ 1152921504606846976) (r_v1 : v1.toInt = v0.toInt + dd.toInt) (r_v2 : 0 ≤ v2.toInt ∧ v2.toInt ≤ 1152921504606846976) (rA : dd.toInt < v2.toInt) : ¬ ((v2 ^^^ (v2 + (0 : Int64))) &&& ((0 : Int64) ^^^ (v2 + (0 : Int64)))) < (0 : Int64) := own_addx v2 (0 : Int64) (by have q0 := c_ladd v2 (0 : Int64); have q1 := rng64 (v2 + (0 : Int64)); (try simp only [Int64.lt_iff_toInt_lt, ← Int64.toInt_inj, Int64.reduceToInt] at *) <;> omega) (by have q0 := c_ladd v2 (0 : Int64); have q1 := rng64 (v2 + (0 : Int64)); (try simp only [Int64.lt_iff_toInt_lt, ← Int64.toInt_inj, Int64.reduceToInt] at *) <;> omega)
theorem or14 (v0 dd v1 v2 : Int64) (r_v0 : 0 ≤ v0.toInt ∧ v0.toInt < 1152921504606846976) (r_dd : 1 ≤ dd.toInt ∧ dd.toInt ≤ 1152921504606846976) (r_v1 : v1.toInt = v0.toInt + dd.toInt) (r_v2 : 0 ≤ v2.toInt ∧ v2.toInt ≤ 1152921504606846976) (rA : dd.toInt < v2.toInt) : ¬ ((v2 ^^^ v2) &&& (v2 ^^^ (v2 - v2))) < (0 : Int64) := own_subx v2 v2 (by have q0 := c_lsub v2 v2; have q1 := rng64 (v2 - v2); (try simp only [Int64.lt_iff_toInt_lt, ← Int64.toInt_inj, Int64.reduceToInt] at *) <;> omega) (by have q0 := c_lsub v2 v2; have q1 := rng64 (v2 - v2); (try simp only [Int64.lt_iff_toInt_lt, ← Int64.toInt_inj, Int64.reduceToInt] at *) <;> omega)
theorem or15 (v0 dd v1 v2 : Int64) (r_v0 : 0 ≤ v0.toInt ∧ v0.toInt < 1152921504606846976) (r_dd : 1 ≤ dd.toInt ∧ dd.toInt ≤ 1152921504606846976) (r_v1 : v1.toInt = v0.toInt + dd.toInt) (r_v2 : 0 ≤ v2.toInt ∧ v2.toInt ≤ 1152921504606846976) (rA : dd.toInt < v2.toInt) : (0 : Int64) < v2 := by (try simp only [Int64.lt_iff_toInt_lt, ← Int64.toInt_inj, Int64.reduceToInt] at *) <;> omega
theorem or16 (v0 dd v1 v2 : Int64) (r_v0 : 0 ≤ v0.toInt ∧ v0.toInt < 1152921504606846976) (r_dd : 1 ≤ dd.toInt ∧ dd.toInt ≤ 1152921504606846976) (r_v1 : v1.toInt = v0.toInt + dd.toInt) (r_v2 : 0 ≤ v2.toInt ∧ v2.toInt ≤ 1152921504606846976) (rA : dd.toInt < v2.toInt) : ¬ (((0 : Int64) ^^^ ((0 : Int64) + (v1 - v0))) &&& ((v1 - v0) ^^^ ((0 : Int64) + (v1 - v0)))) < (0 : Int64) := own_addx (0 : Int64) (v1 - v0) (by have q0 := c_ladd (0 : Int64) (v1 - v0); have q1 := rng64 ((0 : Int64) + (v1 - v0)); have q2 := c_lsub v1 v0; have q3 := rng64 (v1 - v0); (try simp only [Int64.lt_iff_toInt_lt, ← Int64.toInt_inj, Int64.reduceToInt] at *) <;> omega) (by have q0 := c_ladd (0 : Int64) (v1 - v0); have q1 := rng64 ((0 : Int64) + (v1 - v0)); have q2 := c_lsub v1 v0; have q3 := rng64 (v1 - v0); (try simp only [Int64.lt_iff_toInt_lt, ← Int64.toInt_inj, Int64.reduceToInt] at *) <;> omega)
theorem or17 (v0 dd v1 v2 : Int64) (r_v0 : 0 ≤ v0.toInt ∧ v0.toInt < 1152921504606846976) (r_dd : 1 ≤ dd.toInt ∧ dd.toInt ≤ 1152921504606846976) (r_v1 : v1.toInt = v0.toInt + dd.toInt) (r_v2 : 0 ≤ v2.toInt ∧ v2.toInt ≤ 1152921504606846976) (rA : dd.toInt < v2.toInt) : (v1 - v0) < v2 := by have q0 := c_lsub v1 v0; have q1 := rng64 (v1 - v0); (try simp only [Int64.lt_iff_toInt_lt, ← Int64.toInt_inj, Int64.reduceToInt] at *) <;> omega
theorem or18 (v0 dd v1 v2 : Int64) (r_v0 : 0 ≤ v0.toInt ∧ v0.toInt < 1152921504606846976) (r_dd : 1 ≤ dd.toInt ∧ dd.toInt ≤ 1152921504606846976) (r_v1 : v1.toInt = v0.toInt + dd.toInt) (r_v2 : 0 ≤ v2.toInt ∧ v2.toInt ≤ 1152921504606846976) (rA : dd.toInt < v2.toInt) : ¬ (((v1 - v0) ^^^ (0 : Int64)) &&& ((v1 - v0) ^^^ ((v1 - v0) - (0 : Int64)))) < (0 : Int64) := own_subx (v1 - v0) (0 : Int64) (by have q0 := c_lsub (v1 - v0) (0 : Int64); have q1 := rng64 ((v1 - v0) - (0 : Int64)); have q2 := c_lsub v1 v0; have q3 := rng64 (v1 - v0); (try simp only [Int64.lt_iff_toInt_lt, ← Int64.toInt_inj, Int64.reduceToInt] at *) <;> omega) (by have q0 := c_lsub (v1 - v0) (0 : Int64); have q1 := rng64 ((v1 - v0) - (0 : Int64)); have q2 := c_lsub v1 v0; have q3 := rng64 (v1 - v0); (try simp only [Int64.lt_iff_toInt_lt, ← Int64.toInt_inj, Int64.reduceToInt] at *) <;> omega)
theorem or19 (v0 dd v1 v2 : Int64) (r_v0 : 0 ≤ v0.toInt ∧ v0.toInt < 1152921504606846976) (r_dd : 1 ≤ dd.toInt ∧ dd.toInt ≤ 1152921504606846976) (r_v1 : v1.toInt = v0.toInt + dd.toInt) (r_v2 : 0 ≤ v2.toInt ∧ v2.toInt ≤ 1152921504606846976) (rA : dd.toInt < v2.toInt) : ¬ (v1 - v0) = (0 : Int64) := by have q0 := c_lsub v1 v0; have q1 := rng64 (v1 - v0); (try simp only [Int64.lt_iff_toInt_lt, ← Int64.toInt_inj, Int64.reduceToInt] at *) <;> omega
theorem or20 (v0 dd v1 v2 : Int64) (r_v0 : 0 ≤ v0.toInt ∧ v0.toInt < 1152921504606846976) (r_dd : 1 ≤ dd.toInt ∧ dd.toInt ≤ 1152921504606846976) (r_v1 : v1.toInt = v0.toInt + dd.toInt) (r_v2 : 0 ≤ v2.toInt ∧ v2.toInt ≤ 1152921504606846976) (rA : dd.toInt < v2.toInt) : dd < v2 := by (try simp only [Int64.lt_iff_toInt_lt, ← Int64.toInt_inj, Int64.reduceToInt] at *) <;> omega
set_option maxRecDepth 65536 in
set_option maxHeartbeats 40000000 in
theorem ac25_43 (l : Launch) (Z : State) (a0 : Array Value) (hw : oHw a0 Z) (h0 : Heap) (n0 : Nat) (Z0 : n0 ≤ h0.size) (b1 : Addr) (b2 : Addr) (p1 : Fld Z h0 b1 cU "holder" "[I" (.ref b2)) (p2 : oAr Z h0 b2 .int [.int 2, .int (-1)]) :
    oMet l Z (⟨cU, "holder", "(I)I"⟩ : MethodName) prog_54_method_2_code 2 (some .int) [] ({ frames := 0, cells := 0, slots := 0, locals := 0 } : Room) 0 0 n0 #[.ref b1, .int 0] h0 (fun v h => v = some (.int 2) ∧ oKe h0 h [] []) := by
  refine oMet.intro (plainFor_of_name pn_944982) (fun m => ef_25 m b1 (0 : Int32)) ?_
  intro op oe os m obl omt ocd C
  refine oAloadN C d25_0 rfl rfl rfl ?_
  refine oGetF C (w24 hw) Via.refl p1 d25_1 rfl ?_
  refine oIloadN C d25_4 rfl rfl ?_
  refine oIaload C p2 (by decide) (k := 0) rfl (v := .int 2) rfl d25_5 rfl ?_
  refine oRetI C d25_6 (by decide) (by decide) ?_
  exact ⟨rfl, (oKe.refl h0 [] [])⟩
set_option maxRecDepth 65536 in
set_option maxHeartbeats 40000000 in
theorem ac24_44 (l : Launch) (Z : State) (a0 : Array Value) (hw : oHw a0 Z) (h0 : Heap) (n0 : Nat) (Z0 : n0 ≤ h0.size) (b1 : Addr) (b2 : Addr) (y3 : Int64) (p1 : Fld Z h0 b1 cU "priceMoney" "[J" (.ref b2)) (p2 : oAr Z h0 b2 .long [.long y3, .long 0]) :
    oMet l Z (⟨cU, "price", "(I)J"⟩ : MethodName) prog_54_method_3_code 2 (some .long) [] ({ frames := 0, cells := 0, slots := 0, locals := 0 } : Room) 0 0 n0 #[.ref b1, .int 0] h0 (fun v h => v = some (.long y3) ∧ oKe h0 h [] []) := by
  refine oMet.intro (plainFor_of_name pn_944982) (fun m => ef_24 m b1 (0 : Int32)) ?_
  intro op oe os m obl omt ocd C
  refine oAloadN C d24_0 rfl rfl rfl ?_
  refine oGetF C (w20 hw) Via.refl p1 d24_1 rfl ?_
  refine oIloadN C d24_4 rfl rfl ?_
  refine oLaload C p2 (by decide) (k := 0) rfl (v := .long y3) rfl d24_5 rfl ?_
  refine oRetL C d24_6 (by decide) (by decide) ?_
  exact ⟨rfl, (oKe.refl h0 [] [])⟩
theorem or21 (v0 dd v1 v2 : Int64) (r_v0 : 0 ≤ v0.toInt ∧ v0.toInt < 1152921504606846976) (r_dd : 1 ≤ dd.toInt ∧ dd.toInt ≤ 1152921504606846976) (r_v1 : v1.toInt = v0.toInt + dd.toInt) (r_v2 : 0 ≤ v2.toInt ∧ v2.toInt ≤ 1152921504606846976) (rA : dd.toInt < v2.toInt) : (v1 - v0) = (fMin v2 dd) := by rw [fMin_def]; simp only [Int64.lt_iff_toInt_lt]; split <;> (have q0 := c_lsub v1 v0; have q1 := rng64 (v1 - v0); (try simp only [Int64.lt_iff_toInt_lt, ← Int64.toInt_inj, Int64.reduceToInt] at *) <;> omega)
set_option maxRecDepth 65536 in
set_option maxHeartbeats 40000000 in
theorem ac7_45 (l : Launch) (Z : State) (a0 : Array Value) (hw : oHw a0 Z) (h0 : Heap) (n0 : Nat) (Z0 : n0 ≤ h0.size) (y1 : Int64) (p1 : ¬ y1 < (0 : Int64)) (p2 : y1 = (0 : Int64)) :
    oMet l Z (⟨"java/lang/Long", "compare", "(JJ)I"⟩ : MethodName) jdk_35_method_42_code 4 (some .int) [] ({ frames := 0, cells := 0, slots := 0, locals := 0 } : Room) 0 0 n0 #[.long y1, .long 0] h0 (fun v h => v = some (.int 0) ∧ oKe h0 h [] []) := by
  refine oMet.intro (plainFor_of_name pn_77341) (fun m => ef_7 m y1 (0 : Int64)) ?_
  intro op oe os m obl omt ocd C
  refine oLloadN C d7_0 rfl rfl ?_
  refine oLloadN C d7_1 rfl rfl ?_
  refine oLcmp_ge C d7_2 rfl d7_3 (q := 10) (by decide) (by decide) (r := 6) rfl (fun hc2 => ?_) (fun hq => absurd hq (p1))
  refine oLloadN C d7_10 rfl rfl ?_
  refine oLloadN C d7_11 rfl rfl ?_
  refine oLcmp_ne C d7_12 rfl d7_13 (q := 20) (by decide) (by decide) (r := 16) rfl (fun hq => absurd hq (not_not_intro p2)) (fun hc12 => ?_)
  refine oIconst C d7_16 (z := 0) rfl rfl ?_
  refine oGoto C d7_17 (q := 21) (by decide) (by decide) ?_
  refine oRetI C d7_21 (by decide) (by decide) ?_
  exact ⟨rfl, (oKe.refl h0 [] [])⟩
set_option maxRecDepth 65536 in
set_option maxHeartbeats 40000000 in
theorem ac7_46 (l : Launch) (Z : State) (a0 : Array Value) (hw : oHw a0 Z) (h0 : Heap) (n0 : Nat) (Z0 : n0 ≤ h0.size)   :
    oMet l Z (⟨"java/lang/Long", "compare", "(JJ)I"⟩ : MethodName) jdk_35_method_42_code 4 (some .int) [] ({ frames := 0, cells := 0, slots := 0, locals := 0 } : Room) 0 0 n0 #[.long 1, .long 0] h0 (fun v h => v = some (.int 1) ∧ oKe h0 h [] []) := by
  refine oMet.intro (plainFor_of_name pn_77341) (fun m => ef_7 m (1 : Int64) (0 : Int64)) ?_
  intro op oe os m obl omt ocd C
  refine oLloadN C d7_0 rfl rfl ?_
  refine oLloadN C d7_1 rfl rfl ?_
  refine oLcmp_ge C d7_2 rfl d7_3 (q := 10) (by decide) (by decide) (r := 6) rfl (fun hc2 => ?_) (fun hq => absurd hq ((by decide)))
  refine oLloadN C d7_10 rfl rfl ?_
  refine oLloadN C d7_11 rfl rfl ?_
  refine oLcmp_ne C d7_12 rfl d7_13 (q := 20) (by decide) (by decide) (r := 16) rfl (fun hc12 => ?_) (fun hq => absurd hq ((by decide)))
  refine oIconst C d7_20 (z := 1) rfl rfl ?_
  refine oRetI C d7_21 (by decide) (by decide) ?_
  exact ⟨rfl, (oKe.refl h0 [] [])⟩
set_option maxRecDepth 65536 in
set_option maxHeartbeats 40000000 in
theorem ac6_47 (l : Launch) (Z : State) (a0 : Array Value) (hw : oHw a0 Z) (h0 : Heap) (n0 : Nat) (Z0 : n0 ≤ h0.size) (y1 : Int64) (p1 : ¬ y1 < (0 : Int64)) :
    oMet l Z (⟨cU, "compare", "(JJJJ)I"⟩ : MethodName) prog_54_method_28_code 9 (some .int) [] ({ frames := 1, cells := 0, slots := 0, locals := 15 } : Room) 0 0 n0 #[.long y1, .long 1, .long 0, .long 0] h0 (fun v h => v = some (.int 1) ∧ oKe h0 h [] []) := by
  refine oMet.intro (plainFor_of_name pn_944982) (fun m => ef_6 m y1 (1 : Int64) (0 : Int64) (0 : Int64)) ?_
  intro op oe os m obl omt ocd C
  by_cases hsp : y1 = (0 : Int64)
  ·
   refine oLloadN C d6_0 rfl rfl ?_
   refine oLload C d6_1 rfl rfl ?_
   refine oCallS C (w72 hw) (w73 hw) (w74 hw) (w75 hw) d6_3 (by decide) pd_212480 rfl rfl (argsL := [.long y1, .long 0]) (rest := []) rfl (W := 0) rfl (q := 6) rfl (by decide) (by decide) (by decide) (by decide) (ac7_45 l Z a0 hw _ n0 Z0 y1 p1 hsp) (oRQ ?_)
   rintro h1 K1
   refine oIstore C d6_6 (Ls' := #[.val (.long y1), .second, .val (.long 1), .second, .val (.long 0), .second, .val (.long 0), .second, .val (.int 0)]) rfl (q := 8) rfl ?_
   refine oIload C d6_8 rfl rfl ?_
   refine oIf_eq C d6_10 (q := 18) (by decide) (by decide) (r := 13) rfl (fun hc10 => ?_) (fun hq => absurd hq ((by decide)))
   refine oLloadN C d6_18 rfl rfl ?_
   refine oLload C d6_19 rfl rfl ?_
   have z3 := (Nat.le_trans Z0 K1.1)
   refine oCallS C (w72 hw) (w73 hw) (w74 hw) (w75 hw) d6_21 (by decide) pd_212480 rfl rfl (argsL := [.long 1, .long 0]) (rest := []) rfl (W := 0) rfl (q := 24) rfl (by decide) (by decide) (by decide) (by decide) (ac7_46 l Z a0 hw _ n0 z3  ) (oRQ ?_)
   rintro h2 K2
   refine oRetI C d6_24 (by decide) (by decide) ?_
   exact ⟨rfl, (((oKe.refl h0 [] []).trans K1 all0 oA0).trans K2 all0 oA0)⟩
  ·
   refine oLloadN C d6_0 rfl rfl ?_
   refine oLload C d6_1 rfl rfl ?_
   refine oCallS C (w72 hw) (w73 hw) (w74 hw) (w75 hw) d6_3 (by decide) pd_212480 rfl rfl (argsL := [.long y1, .long 0]) (rest := []) rfl (W := 0) rfl (q := 6) rfl (by decide) (by decide) (by decide) (by decide) (ac7_8 l Z a0 hw _ n0 Z0 y1 p1 hsp) (oRQ ?_)
   rintro h4 K4
   refine oIstore C d6_6 (Ls' := #[.val (.long y1), .second, .val (.long 1), .second, .val (.long 0), .second, .val (.long 0), .second, .val (.int 1)]) rfl (q := 8) rfl ?_
   refine oIload C d6_8 rfl rfl ?_
   refine oIf_eq C d6_10 (q := 18) (by decide) (by decide) (r := 13) rfl (fun hq => absurd hq ((by decide))) (fun hc10 => ?_)
   refine oIload C d6_13 rfl rfl ?_
   refine oGoto C d6_15 (q := 24) (by decide) (by decide) ?_
   refine oRetI C d6_24 (by decide) (by decide) ?_
   exact ⟨rfl, ((oKe.refl h0 [] []).trans K4 all0 oA0)⟩
set_option maxRecDepth 65536 in
set_option maxHeartbeats 40000000 in
theorem ac7_48 (l : Launch) (Z : State) (a0 : Array Value) (hw : oHw a0 Z) (h0 : Heap) (n0 : Nat) (Z0 : n0 ≤ h0.size) (y1 : Int64) (p1 : ¬ (0 : Int64) < y1) (p2 : (0 : Int64) = y1) :
    oMet l Z (⟨"java/lang/Long", "compare", "(JJ)I"⟩ : MethodName) jdk_35_method_42_code 4 (some .int) [] ({ frames := 0, cells := 0, slots := 0, locals := 0 } : Room) 0 0 n0 #[.long 0, .long y1] h0 (fun v h => v = some (.int 0) ∧ oKe h0 h [] []) := by
  refine oMet.intro (plainFor_of_name pn_77341) (fun m => ef_7 m (0 : Int64) y1) ?_
  intro op oe os m obl omt ocd C
  refine oLloadN C d7_0 rfl rfl ?_
  refine oLloadN C d7_1 rfl rfl ?_
  refine oLcmp_ge C d7_2 rfl d7_3 (q := 10) (by decide) (by decide) (r := 6) rfl (fun hc2 => ?_) (fun hq => absurd hq (p1))
  refine oLloadN C d7_10 rfl rfl ?_
  refine oLloadN C d7_11 rfl rfl ?_
  refine oLcmp_ne C d7_12 rfl d7_13 (q := 20) (by decide) (by decide) (r := 16) rfl (fun hq => absurd hq (not_not_intro p2)) (fun hc12 => ?_)
  refine oIconst C d7_16 (z := 0) rfl rfl ?_
  refine oGoto C d7_17 (q := 21) (by decide) (by decide) ?_
  refine oRetI C d7_21 (by decide) (by decide) ?_
  exact ⟨rfl, (oKe.refl h0 [] [])⟩
set_option maxRecDepth 65536 in
set_option maxHeartbeats 40000000 in
theorem ac7_49 (l : Launch) (Z : State) (a0 : Array Value) (hw : oHw a0 Z) (h0 : Heap) (n0 : Nat) (Z0 : n0 ≤ h0.size)   :
    oMet l Z (⟨"java/lang/Long", "compare", "(JJ)I"⟩ : MethodName) jdk_35_method_42_code 4 (some .int) [] ({ frames := 0, cells := 0, slots := 0, locals := 0 } : Room) 0 0 n0 #[.long 0, .long 1] h0 (fun v h => v = some (.int (-1)) ∧ oKe h0 h [] []) := by
  refine oMet.intro (plainFor_of_name pn_77341) (fun m => ef_7 m (0 : Int64) (1 : Int64)) ?_
  intro op oe os m obl omt ocd C
  refine oLloadN C d7_0 rfl rfl ?_
  refine oLloadN C d7_1 rfl rfl ?_
  refine oLcmp_ge C d7_2 rfl d7_3 (q := 10) (by decide) (by decide) (r := 6) rfl (fun hq => absurd hq ((by decide))) (fun hc2 => ?_)
  refine oIconst C d7_6 (z := (-1)) rfl rfl ?_
  refine oGoto C d7_7 (q := 21) (by decide) (by decide) ?_
  refine oRetI C d7_21 (by decide) (by decide) ?_
  exact ⟨rfl, (oKe.refl h0 [] [])⟩
set_option maxRecDepth 65536 in
set_option maxHeartbeats 40000000 in
theorem ac6_50 (l : Launch) (Z : State) (a0 : Array Value) (hw : oHw a0 Z) (h0 : Heap) (n0 : Nat) (Z0 : n0 ≤ h0.size) (y1 : Int64) (p1 : ¬ y1 < (0 : Int64)) :
    oMet l Z (⟨cU, "compare", "(JJJJ)I"⟩ : MethodName) prog_54_method_28_code 9 (some .int) [] ({ frames := 1, cells := 0, slots := 0, locals := 15 } : Room) 0 0 n0 #[.long 0, .long 0, .long y1, .long 1] h0 (fun v h => v = some (.int (-1)) ∧ oKe h0 h [] []) := by
  refine oMet.intro (plainFor_of_name pn_944982) (fun m => ef_6 m (0 : Int64) (0 : Int64) y1 (1 : Int64)) ?_
  intro op oe os m obl omt ocd C
  by_cases hsp : (0 : Int64) = y1
  ·
   refine oLloadN C d6_0 rfl rfl ?_
   refine oLload C d6_1 rfl rfl ?_
   refine oCallS C (w72 hw) (w73 hw) (w74 hw) (w75 hw) d6_3 (by decide) pd_212480 rfl rfl (argsL := [.long 0, .long y1]) (rest := []) rfl (W := 0) rfl (q := 6) rfl (by decide) (by decide) (by decide) (by decide) (ac7_48 l Z a0 hw _ n0 Z0 y1 (oNltOf hsp) hsp) (oRQ ?_)
   rintro h1 K1
   refine oIstore C d6_6 (Ls' := #[.val (.long 0), .second, .val (.long 0), .second, .val (.long y1), .second, .val (.long 1), .second, .val (.int 0)]) rfl (q := 8) rfl ?_
   refine oIload C d6_8 rfl rfl ?_
   refine oIf_eq C d6_10 (q := 18) (by decide) (by decide) (r := 13) rfl (fun hc10 => ?_) (fun hq => absurd hq ((by decide)))
   refine oLloadN C d6_18 rfl rfl ?_
   refine oLload C d6_19 rfl rfl ?_
   have z3 := (Nat.le_trans Z0 K1.1)
   refine oCallS C (w72 hw) (w73 hw) (w74 hw) (w75 hw) d6_21 (by decide) pd_212480 rfl rfl (argsL := [.long 0, .long 1]) (rest := []) rfl (W := 0) rfl (q := 24) rfl (by decide) (by decide) (by decide) (by decide) (ac7_49 l Z a0 hw _ n0 z3  ) (oRQ ?_)
   rintro h2 K2
   refine oRetI C d6_24 (by decide) (by decide) ?_
   exact ⟨rfl, (((oKe.refl h0 [] []).trans K1 all0 oA0).trans K2 all0 oA0)⟩
  ·
   refine oLloadN C d6_0 rfl rfl ?_
   refine oLload C d6_1 rfl rfl ?_
   refine oCallS C (w72 hw) (w73 hw) (w74 hw) (w75 hw) d6_3 (by decide) pd_212480 rfl rfl (argsL := [.long 0, .long y1]) (rest := []) rfl (W := 0) rfl (q := 6) rfl (by decide) (by decide) (by decide) (by decide) (ac7_13 l Z a0 hw _ n0 Z0 y1 (oLtOf p1 hsp)) (oRQ ?_)
   rintro h4 K4
   refine oIstore C d6_6 (Ls' := #[.val (.long 0), .second, .val (.long 0), .second, .val (.long y1), .second, .val (.long 1), .second, .val (.int (-1))]) rfl (q := 8) rfl ?_
   refine oIload C d6_8 rfl rfl ?_
   refine oIf_eq C d6_10 (q := 18) (by decide) (by decide) (r := 13) rfl (fun hq => absurd hq ((by decide))) (fun hc10 => ?_)
   refine oIload C d6_13 rfl rfl ?_
   refine oGoto C d6_15 (q := 24) (by decide) (by decide) ?_
   refine oRetI C d6_24 (by decide) (by decide) ?_
   exact ⟨rfl, ((oKe.refl h0 [] []).trans K4 all0 oA0)⟩
set_option maxRecDepth 65536 in
set_option maxHeartbeats 40000000 in
theorem ac13_51 (l : Launch) (Z : State) (a0 : Array Value) (hw : oHw a0 Z) (h0 : Heap) (n0 : Nat) (Z0 : n0 ≤ h0.size) (b1 : Addr) (y2 : Int64) (p1 : Fld Z h0 b1 cU "sinkMoney" "J" (.long y2)) (p2 : Fld Z h0 b1 cU "sinkSales" "J" (.long 1)) (p3 : ¬ y2 < (0 : Int64)) :
    oMet l Z (⟨cU, "compareSink", "(JJI)I"⟩ : MethodName) prog_54_method_18_code 7 (some .int) [] ({ frames := 2, cells := 0, slots := 0, locals := 35 } : Room) 0 0 n0 #[.ref b1, .long 0, .long 0, .int 0] h0 (fun v h => v = some (.int (-1)) ∧ oKe h0 h [] []) := by
  refine oMet.intro (plainFor_of_name pn_944982) (fun m => ef_13 m b1 (0 : Int64) (0 : Int64) (0 : Int32)) ?_
  intro op oe os m obl omt ocd C
  refine oLloadN C d13_0 rfl rfl ?_
  refine oLloadN C d13_1 rfl rfl ?_
  refine oAloadN C d13_2 rfl rfl rfl ?_
  refine oGetF C (w87 hw) Via.refl p1 d13_3 rfl ?_
  refine oAloadN C d13_6 rfl rfl rfl ?_
  refine oGetF C (w89 hw) Via.refl p2 d13_7 rfl ?_
  refine oCallS C (w69 hw) (w70 hw) (w5 hw) (w71 hw) d13_10 (by decide) pd_567728 rfl rfl (argsL := [.long 0, .long 0, .long y2, .long 1]) (rest := []) rfl (W := 0) rfl (q := 13) rfl (by decide) (by decide) (by decide) (by decide) (ac6_50 l Z a0 hw _ n0 Z0 y2 p3) (oRQ ?_)
  rintro h1 K1
  refine oIstore C d13_13 (Ls' := #[.val (.ref b1), .val (.long 0), .second, .val (.long 0), .second, .val (.int 0), .val (.int (-1))]) rfl (q := 15) rfl ?_
  refine oIload C d13_15 rfl rfl ?_
  refine oIf_eq C d13_17 (q := 25) (by decide) (by decide) (r := 20) rfl (fun hq => absurd hq ((by decide))) (fun hc17 => ?_)
  refine oIload C d13_20 rfl rfl ?_
  refine oGoto C d13_22 (q := 34) (by decide) (by decide) ?_
  refine oRetI C d13_34 (by decide) (by decide) ?_
  exact ⟨rfl, ((oKe.refl h0 [] []).trans K1 all0 oA0)⟩
set_option maxRecDepth 65536 in
set_option maxHeartbeats 40000000 in
theorem ac12_52 (l : Launch) (Z : State) (a0 : Array Value) (hw : oHw a0 Z) (h0 : Heap) (n0 : Nat) (Z0 : n0 ≤ h0.size) (b1 : Addr) (y2 : Int64) (b3 : Addr) (b4 : Addr) (b5 : Addr) (b6 : Addr) (b7 : Addr) (b8 : Addr) (b9 : Addr) (b10 : Addr) (b11 : Addr) (p1 : Fld Z h0 b1 cU "sinkMoney" "J" (.long y2)) (p2 : Fld Z h0 b1 cU "sinkSales" "J" (.long 1)) (p3 : ¬ y2 < (0 : Int64)) (p4 : Exa Z h0 b1 cU) (p5 : Fld Z h0 b1 cU "mark" "[B" (.ref b3)) (p6 : oAr Z h0 b3 .byte [.int 0, .int 0]) (p7 : n0 ≤ b3) (p8 : Fld Z h0 b1 cU "touched" "[I" (.ref b4)) (p9 : b1 ≠ b3) (p10 : Fld Z h0 b1 cU "touchedCount" "I" (.int 0)) (p11 : n0 ≤ b1) (p12 : oAr Z h0 b4 .int [.int 0, .int 0]) (p13 : b4 ≠ b3) (p14 : b4 ≠ b1) (p15 : n0 ≤ b4) (p16 : Fld Z h0 b1 cU "distMoney" "[J" (.ref b5)) (p17 : oAr Z h0 b5 .long [.long 0, .long 0]) (p18 : Fld Z h0 b1 cU "distSales" "[J" (.ref b6)) (p19 : oAr Z h0 b6 .long [.long 0, .long 0]) (p20 : Fld Z h0 b1 cU "hops" "[I" (.ref b7)) (p21 : oAr Z h0 b7 .int [.int 1, .int 0]) (p22 : Fld Z h0 b1 cU "pred" "[I" (.ref b8)) (p23 : oAr Z h0 b8 .int [.int (-1), .int 0]) (p24 : Fld Z h0 b1 cU "predOffer" "[I" (.ref b9)) (p25 : oAr Z h0 b9 .int [.int 1, .int 0]) (p26 : b1 ≠ b4) (p27 : b5 ≠ b3) (p28 : b5 ≠ b1) (p29 : b5 ≠ b4) (p30 : n0 ≤ b5) (p31 : b1 ≠ b5) (p32 : b6 ≠ b3) (p33 : b6 ≠ b1) (p34 : b6 ≠ b4) (p35 : b6 ≠ b5) (p36 : n0 ≤ b6) (p37 : b1 ≠ b6) (p38 : b7 ≠ b3) (p39 : b7 ≠ b1) (p40 : b7 ≠ b4) (p41 : b7 ≠ b5) (p42 : b7 ≠ b6) (p43 : n0 ≤ b7) (p44 : b1 ≠ b7) (p45 : b8 ≠ b3) (p46 : b8 ≠ b1) (p47 : b8 ≠ b4) (p48 : b8 ≠ b5) (p49 : b8 ≠ b6) (p50 : b8 ≠ b7) (p51 : n0 ≤ b8) (p52 : b1 ≠ b8) (p53 : b9 ≠ b3) (p54 : b9 ≠ b1) (p55 : b9 ≠ b4) (p56 : b9 ≠ b5) (p57 : b9 ≠ b6) (p58 : b9 ≠ b7) (p59 : b9 ≠ b8) (p60 : n0 ≤ b9) (p61 : b5 ≠ b6) (p62 : b5 ≠ b7) (p63 : b5 ≠ b8) (p64 : b5 ≠ b9) (p65 : b6 ≠ b7) (p66 : b6 ≠ b8) (p67 : b6 ≠ b9) (p68 : b7 ≠ b8) (p69 : b7 ≠ b9) (p70 : b8 ≠ b9) (p71 : Fld Z h0 b1 cU "heapSize" "I" (.int 0)) (p72 : b1 ≠ b9) (p73 : Fld Z h0 b1 cU "heap" "[I" (.ref b10)) (p74 : oAr Z h0 b10 .int [.int 0, .int 0]) (p75 : Fld Z h0 b1 cU "heapIndex" "[I" (.ref b11)) (p76 : oAr Z h0 b11 .int [.int 0, .int 0]) (p77 : b10 ≠ b3) (p78 : b10 ≠ b1) (p79 : b10 ≠ b4) (p80 : b10 ≠ b9) (p81 : b10 ≠ b8) (p82 : b10 ≠ b7) (p83 : b10 ≠ b6) (p84 : b10 ≠ b5) (p85 : b11 ≠ b3) (p86 : b11 ≠ b1) (p87 : b11 ≠ b4) (p88 : b11 ≠ b9) (p89 : b11 ≠ b8) (p90 : b11 ≠ b7) (p91 : b11 ≠ b6) (p92 : b11 ≠ b5) (p93 : n0 ≤ b10) (p94 : b1 ≠ b10) (p95 : b11 ≠ b10) (p96 : n0 ≤ b11) (p97 : b10 ≠ b11) (p98 : b3 ≠ b1) (p99 : b3 ≠ b4) (p100 : b3 ≠ b9) (p101 : b3 ≠ b8) (p102 : b3 ≠ b7) (p103 : b3 ≠ b6) (p104 : b3 ≠ b5) (p105 : b3 ≠ b11) (p106 : b3 ≠ b10) (p107 : b1 ≠ b11) (p108 : b4 ≠ b9) (p109 : b4 ≠ b8) (p110 : b4 ≠ b7) (p111 : b4 ≠ b6) (p112 : b4 ≠ b5) (p113 : b4 ≠ b11) (p114 : b4 ≠ b10) (p115 : b5 ≠ b11) (p116 : b5 ≠ b10) (p117 : b6 ≠ b11) (p118 : b6 ≠ b10) (p119 : b7 ≠ b11) (p120 : b7 ≠ b10) (p121 : b8 ≠ b11) (p122 : b8 ≠ b10) (p123 : b9 ≠ b11) (p124 : b9 ≠ b10) :
    oMet l Z (⟨cU, "label", "(IJJIII)V"⟩ : MethodName) prog_54_method_16_code 10 none [] ({ frames := 3, cells := 0, slots := 0, locals := 53 } : Room) 0 0 n0 #[.ref b1, .int 0, .long 0, .long 0, .int 1, .int (-1), .int 2] h0 (fun v h => v = none ∧ oKe h0 h [b3, b4, b5, b6, b7, b8, b9, b10, b11] [(b1, Jvm.RoadKit.slotOf Z cU "touchedCount" "I"), (b1, Jvm.RoadKit.slotOf Z cU "heapSize" "I")] ∧ oAr Z h b3 .byte [.int 1, .int 0] ∧ Fld Z h b1 cU "touchedCount" "I" (.int 1) ∧ oAr Z h b4 .int [.int 0, .int 0] ∧ oAr Z h b5 .long [.long 0, .long 0] ∧ oAr Z h b6 .long [.long 0, .long 0] ∧ oAr Z h b7 .int [.int 1, .int 0] ∧ oAr Z h b8 .int [.int (-1), .int 0] ∧ oAr Z h b9 .int [.int 2, .int 0] ∧ Fld Z h b1 cU "heapSize" "I" (.int 1) ∧ oAr Z h b10 .int [.int 0, .int 0] ∧ oAr Z h b11 .int [.int 0, .int 0]) := by
  refine oMet.intro (plainFor_of_name pn_944982) (fun m => ef_12 m b1 (0 : Int32) (0 : Int64) (0 : Int64) (1 : Int32) (-1 : Int32) (2 : Int32)) ?_
  intro op oe os m obl omt ocd C
  refine oAloadN C d12_0 rfl rfl rfl ?_
  refine oLloadN C d12_1 rfl rfl ?_
  refine oLload C d12_2 rfl rfl ?_
  refine oIload C d12_4 rfl rfl ?_
  refine oIconst C d12_6 (z := 1) rfl rfl ?_
  refine oIsub C d12_7 rfl ?_
  refine oCastI (z' := (0 : Int32)) (by decide) ?_
  refine oCallP C (w108 hw) (w110 hw) (w4 hw) (w109 hw) (w5 hw) (w111 hw) d12_8 p4 (by decide) pd_379829 rfl rfl (a := b1) (argsL := [.long 0, .long 0, .int 0]) (rest := []) rfl (W := 0) rfl (q := 11) rfl (by decide) (by decide) (by decide) (by decide) (ac13_51 l Z a0 hw _ n0 Z0 b1 y2 p1 p2 p3) (oRQ ?_)
  rintro h1 K1
  refine oIf_le C d12_11 (q := 15) (by decide) (by decide) (r := 14) rfl (fun hc11 => ?_) (fun hq => absurd hq ((by decide)))
  refine oAloadN C d12_15 rfl rfl rfl ?_
  have f2 := (K1.fld p5 nin0 oN0)
  refine oGetF C (w47 hw) Via.refl f2 d12_16 rfl ?_
  refine oIloadN C d12_19 rfl rfl ?_
  have f3 := (K1.arr p6 nin0 oA0)
  refine oBaload C f3 (by decide) (k := 0) rfl (v := .int 0) rfl d12_20 rfl ?_
  refine oIf_ne C d12_21 (q := 79) (by decide) (by decide) (r := 24) rfl (fun hq => absurd hq ((by decide))) (fun hc21 => ?_)
  refine oAloadN C d12_24 rfl rfl rfl ?_
  refine oGetF C (w47 hw) Via.refl f2 d12_25 rfl ?_
  refine oIloadN C d12_28 rfl rfl ?_
  refine oIconst C d12_29 (z := 1) rfl rfl ?_
  refine oBastore C f3 (by decide) (k := 0) rfl (v := .int 0) rfl (v' := .int 1) rfl d12_30 rfl p7 fun h4 W4 A4 => ?_
  have A4l : oAr Z h4 b3 .byte [.int 1, .int 0] := A4
  refine oAloadN C d12_31 rfl rfl rfl ?_
  have f5 := (Fld.other W4 (K1.fld p8 nin0 oN0) (Or.inl p9))
  refine oGetF C (w53 hw) Via.refl f5 d12_32 rfl ?_
  refine oAloadN C d12_35 rfl rfl rfl ?_
  refine oDup C d12_36 rfl rfl ?_
  have f6 := (Fld.other W4 (K1.fld p10 nin0 oN0) (Or.inl p9))
  refine oGetF C (w112 hw) Via.refl f6 d12_37 rfl ?_
  refine oDupX1 C d12_40 rfl rfl rfl ?_
  refine oIconst C d12_41 (z := 1) rfl rfl ?_
  refine oIadd C d12_42 rfl ?_
  refine oCastI (z' := (1 : Int32)) (by decide) ?_
  have f7 := (Exa.wr W4 (K1.exa p4))
  refine oPutF C (w112 hw) Via.refl f6 f7 (Or.inl (w113 hw)) (w4 hw) (ty := .int) (by decide) rfl rfl d12_43 rfl p11 fun h8 W8 => ?_
  have f8w := Fld.same W8 f6
  refine oIloadN C d12_46 rfl rfl ?_
  have f9 := (((K1.arr p12 nin0 oA0).other W4 p13).other W8 p14)
  refine oIastore C f9 (by decide) (k := 0) rfl (v := .int 0) rfl (v' := .int 0) rfl d12_47 rfl p15 fun h10 W10 A10 => ?_
  have A10l : oAr Z h10 b4 .int [.int 0, .int 0] := A10
  refine oAloadN C d12_48 rfl rfl rfl ?_
  refine oIloadN C d12_49 rfl rfl ?_
  refine oLloadN C d12_50 rfl rfl ?_
  refine oLload C d12_51 rfl rfl ?_
  refine oIload C d12_53 rfl rfl ?_
  refine oIload C d12_55 rfl rfl ?_
  refine oIload C d12_57 rfl rfl ?_
  have f11 := (Fld.other W10 (Fld.other W8 (Fld.other W4 (K1.fld p16 nin0 oN0) (Or.inl p9)) (Or.inr (oSn0 hw 10 27))) (Or.inl p26))
  have f12 := ((((K1.arr p17 nin0 oA0).other W4 p27).other W8 p28).other W10 p29)
  have f13 := (Fld.other W10 (Fld.other W8 (Fld.other W4 (K1.fld p18 nin0 oN0) (Or.inl p9)) (Or.inr (oSn0 hw 11 27))) (Or.inl p26))
  have f14 := ((((K1.arr p19 nin0 oA0).other W4 p32).other W8 p33).other W10 p34)
  have f15 := (Fld.other W10 (Fld.other W8 (Fld.other W4 (K1.fld p20 nin0 oN0) (Or.inl p9)) (Or.inr (oSn0 hw 12 27))) (Or.inl p26))
  have f16 := ((((K1.arr p21 nin0 oA0).other W4 p38).other W8 p39).other W10 p40)
  have f17 := (Fld.other W10 (Fld.other W8 (Fld.other W4 (K1.fld p22 nin0 oN0) (Or.inl p9)) (Or.inr (oSn0 hw 13 27))) (Or.inl p26))
  have f18 := ((((K1.arr p23 nin0 oA0).other W4 p45).other W8 p46).other W10 p47)
  have f19 := (Fld.other W10 (Fld.other W8 (Fld.other W4 (K1.fld p24 nin0 oN0) (Or.inl p9)) (Or.inr (oSn0 hw 14 27))) (Or.inl p26))
  have f20 := ((((K1.arr p25 nin0 oA0).other W4 p53).other W8 p54).other W10 p55)
  have f22 := (Exa.wr W10 (Exa.wr W8 f7))
  have z23 := (Nat.le_trans (Nat.le_trans (Nat.le_trans (Nat.le_trans Z0 K1.1) (Nat.le_of_eq W4.size.symm)) (Nat.le_of_eq W8.size.symm)) (Nat.le_of_eq W10.size.symm))
  refine oCallP C (w114 hw) (w116 hw) (w4 hw) (w115 hw) (w5 hw) (w117 hw) d12_59 f22 (by decide) pd_477193 rfl rfl (a := b1) (argsL := [.int 0, .long 0, .long 0, .int 1, .int (-1), .int 2]) (rest := []) rfl (W := 0) rfl (q := 62) rfl (by decide) (by decide) (by decide) (by decide) (ac14_37 l Z a0 hw _ n0 z23 b1 b5 b6 b7 b8 b9 f11 f12 p30 f13 p31 f14 p35 p36 f15 p37 f16 p41 p42 p43 f17 p44 f18 p48 p49 p50 p51 f19 p52 f20 p56 p57 p58 p59 p60 p61 p62 p63 p64 p65 p66 p67 p68 p69 p70) (oVQ ?_)
  rintro h21 ⟨K21, f21_0, f21_1, f21_2, f21_3, f21_4⟩
  refine oAloadN C d12_62 rfl rfl rfl ?_
  refine oIloadN C d12_63 rfl rfl ?_
  refine oAloadN C d12_64 rfl rfl rfl ?_
  refine oDup C d12_65 rfl rfl ?_
  have f24 := (K21.fld (Fld.other W10 (Fld.other W8 (Fld.other W4 (K1.fld p71 nin0 oN0) (Or.inl p9)) (Or.inr (oSn0 hw 28 27))) (Or.inl p26)) (ninS p31 (ninS p37 (ninS p44 (ninS p52 (ninS p72 nin0))))) oN0)
  refine oGetF C (w118 hw) Via.refl f24 d12_66 rfl ?_
  refine oDupX1 C d12_69 rfl rfl rfl ?_
  refine oIconst C d12_70 (z := 1) rfl rfl ?_
  refine oIadd C d12_71 rfl ?_
  refine oCastI (z' := (1 : Int32)) (by decide) ?_
  have f25 := (K21.exa f22)
  refine oPutF C (w118 hw) Via.refl f24 f25 (Or.inl (w119 hw)) (w4 hw) (ty := .int) (by decide) rfl rfl d12_72 rfl p11 fun h26 W26 => ?_
  have f26w := Fld.same W26 f24
  have f27 := (Fld.other W26 (K21.fld (Fld.other W10 (Fld.other W8 (Fld.other W4 (K1.fld p73 nin0 oN0) (Or.inl p9)) (Or.inr (oSn0 hw 16 27))) (Or.inl p26)) (ninS p31 (ninS p37 (ninS p44 (ninS p52 (ninS p72 nin0))))) oN0) (Or.inr (oSn0 hw 16 28)))
  have f28 := ((K21.arr ((((K1.arr p74 nin0 oA0).other W4 p77).other W8 p78).other W10 p79) (ninS p84 (ninS p83 (ninS p82 (ninS p81 (ninS p80 nin0))))) oA0).other W26 p78)
  have f29 := (Fld.other W26 (K21.fld (Fld.other W10 (Fld.other W8 (Fld.other W4 (K1.fld p75 nin0 oN0) (Or.inl p9)) (Or.inr (oSn0 hw 17 27))) (Or.inl p26)) (ninS p31 (ninS p37 (ninS p44 (ninS p52 (ninS p72 nin0))))) oN0) (Or.inr (oSn0 hw 17 28)))
  have f30 := ((K21.arr ((((K1.arr p76 nin0 oA0).other W4 p85).other W8 p86).other W10 p87) (ninS p92 (ninS p91 (ninS p90 (ninS p89 (ninS p88 nin0))))) oA0).other W26 p86)
  have f31 := (Exa.wr W26 f25)
  have z33 := (Nat.le_trans (Nat.le_trans z23 K21.1) (Nat.le_of_eq W26.size.symm))
  refine oCallP C (w120 hw) (w122 hw) (w4 hw) (w121 hw) (w5 hw) (w123 hw) d12_75 f31 (by decide) pd_947250 rfl rfl (a := b1) (argsL := [.int 0, .int 0]) (rest := []) rfl (W := 0) rfl (q := 78) rfl (by decide) (by decide) (by decide) (by decide) (ac15_18 l Z a0 hw _ n0 z33 b1 b10 b11 f27 f28 f29 f30 p93 p94 p95 p96 p97 f31) (oVQ ?_)
  rintro h32 ⟨K32, f32_0, f32_1⟩
  refine oRetV C d12_78 (by decide) (by decide) ?_
  have f34 := (K32.arr ((K21.arr ((A4l.other W8 p98).other W10 p99) (ninS p104 (ninS p103 (ninS p102 (ninS p101 (ninS p100 nin0))))) oA0).other W26 p98) (ninS p106 (ninS p105 nin0)) oA0)
  have f35 := (K32.fld (Fld.other W26 (K21.fld (Fld.other W10 f8w (Or.inl p26)) (ninS p31 (ninS p37 (ninS p44 (ninS p52 (ninS p72 nin0))))) oN0) (Or.inr (oSn0 hw 27 28))) (ninS p94 (ninS p107 nin0)) oN0)
  have f36 := (K32.arr ((K21.arr A10l (ninS p112 (ninS p111 (ninS p110 (ninS p109 (ninS p108 nin0))))) oA0).other W26 p14) (ninS p114 (ninS p113 nin0)) oA0)
  have f37 := (K32.arr (f21_0.other W26 p28) (ninS p116 (ninS p115 nin0)) oA0)
  have f38 := (K32.arr (f21_1.other W26 p33) (ninS p118 (ninS p117 nin0)) oA0)
  have f39 := (K32.arr (f21_2.other W26 p39) (ninS p120 (ninS p119 nin0)) oA0)
  have f40 := (K32.arr (f21_3.other W26 p46) (ninS p122 (ninS p121 nin0)) oA0)
  have f41 := (K32.arr (f21_4.other W26 p54) (ninS p124 (ninS p123 nin0)) oA0)
  have f42 := (K32.fld f26w (ninS p94 (ninS p107 nin0)) oN0)
  exact ⟨rfl, ((((((((oKe.refl h0 [b3, b4, b5, b6, b7, b8, b9, b10, b11] [(b1, Jvm.RoadKit.slotOf Z cU "touchedCount" "I"), (b1, Jvm.RoadKit.slotOf Z cU "heapSize" "I")]).trans K1 all0 oA0).wrA W4 (Or.inl (List.mem_of_getElem? (i := 0) rfl))).wrF W8 (Or.inl (List.mem_of_getElem? (i := 0) rfl))).wrA W10 (Or.inl (List.mem_of_getElem? (i := 1) rfl))).trans K21 (allS (Or.inl (List.mem_of_getElem? (i := 2) rfl)) (allS (Or.inl (List.mem_of_getElem? (i := 3) rfl)) (allS (Or.inl (List.mem_of_getElem? (i := 4) rfl)) (allS (Or.inl (List.mem_of_getElem? (i := 5) rfl)) (allS (Or.inl (List.mem_of_getElem? (i := 6) rfl)) all0))))) oA0).wrF W26 (Or.inl (List.mem_of_getElem? (i := 1) rfl))).trans K32 (allS (Or.inl (List.mem_of_getElem? (i := 7) rfl)) (allS (Or.inl (List.mem_of_getElem? (i := 8) rfl)) all0)) oA0), f34, f35, f36, f37, f38, f39, f40, f41, f42, f32_0, f32_1⟩
set_option maxRecDepth 65536 in
set_option maxHeartbeats 40000000 in
theorem ac7_53 (l : Launch) (Z : State) (a0 : Array Value) (hw : oHw a0 Z) (h0 : Heap) (n0 : Nat) (Z0 : n0 ≤ h0.size) (y1 : Int64) (y2 : Int64) (p1 : ¬ y1 < y2) (p2 : y1 = y2) :
    oMet l Z (⟨"java/lang/Long", "compare", "(JJ)I"⟩ : MethodName) jdk_35_method_42_code 4 (some .int) [] ({ frames := 0, cells := 0, slots := 0, locals := 0 } : Room) 0 0 n0 #[.long y1, .long y2] h0 (fun v h => v = some (.int 0) ∧ oKe h0 h [] []) := by
  refine oMet.intro (plainFor_of_name pn_77341) (fun m => ef_7 m y1 y2) ?_
  intro op oe os m obl omt ocd C
  refine oLloadN C d7_0 rfl rfl ?_
  refine oLloadN C d7_1 rfl rfl ?_
  refine oLcmp_ge C d7_2 rfl d7_3 (q := 10) (by decide) (by decide) (r := 6) rfl (fun hc2 => ?_) (fun hq => absurd hq (p1))
  refine oLloadN C d7_10 rfl rfl ?_
  refine oLloadN C d7_11 rfl rfl ?_
  refine oLcmp_ne C d7_12 rfl d7_13 (q := 20) (by decide) (by decide) (r := 16) rfl (fun hq => absurd hq (not_not_intro p2)) (fun hc12 => ?_)
  refine oIconst C d7_16 (z := 0) rfl rfl ?_
  refine oGoto C d7_17 (q := 21) (by decide) (by decide) ?_
  refine oRetI C d7_21 (by decide) (by decide) ?_
  exact ⟨rfl, (oKe.refl h0 [] [])⟩
set_option maxRecDepth 65536 in
set_option maxHeartbeats 40000000 in
theorem ac6_54 (l : Launch) (Z : State) (a0 : Array Value) (hw : oHw a0 Z) (h0 : Heap) (n0 : Nat) (Z0 : n0 ≤ h0.size) (y1 : Int64) (y2 : Int64) (p1 : ¬ y1 < y2) (p2 : y1 = y2) :
    oMet l Z (⟨cU, "compare", "(JJJJ)I"⟩ : MethodName) prog_54_method_28_code 9 (some .int) [] ({ frames := 1, cells := 0, slots := 0, locals := 15 } : Room) 0 0 n0 #[.long y1, .long 1, .long y2, .long 1] h0 (fun v h => v = some (.int 0) ∧ oKe h0 h [] []) := by
  refine oMet.intro (plainFor_of_name pn_944982) (fun m => ef_6 m y1 (1 : Int64) y2 (1 : Int64)) ?_
  intro op oe os m obl omt ocd C
  refine oLloadN C d6_0 rfl rfl ?_
  refine oLload C d6_1 rfl rfl ?_
  refine oCallS C (w72 hw) (w73 hw) (w74 hw) (w75 hw) d6_3 (by decide) pd_212480 rfl rfl (argsL := [.long y1, .long y2]) (rest := []) rfl (W := 0) rfl (q := 6) rfl (by decide) (by decide) (by decide) (by decide) (ac7_53 l Z a0 hw _ n0 Z0 y1 y2 p1 p2) (oRQ ?_)
  rintro h1 K1
  refine oIstore C d6_6 (Ls' := #[.val (.long y1), .second, .val (.long 1), .second, .val (.long y2), .second, .val (.long 1), .second, .val (.int 0)]) rfl (q := 8) rfl ?_
  refine oIload C d6_8 rfl rfl ?_
  refine oIf_eq C d6_10 (q := 18) (by decide) (by decide) (r := 13) rfl (fun hc10 => ?_) (fun hq => absurd hq ((by decide)))
  refine oLloadN C d6_18 rfl rfl ?_
  refine oLload C d6_19 rfl rfl ?_
  have z3 := (Nat.le_trans Z0 K1.1)
  refine oCallS C (w72 hw) (w73 hw) (w74 hw) (w75 hw) d6_21 (by decide) pd_212480 rfl rfl (argsL := [.long 1, .long 1]) (rest := []) rfl (W := 0) rfl (q := 24) rfl (by decide) (by decide) (by decide) (by decide) (ac7_5 l Z a0 hw _ n0 z3  ) (oRQ ?_)
  rintro h2 K2
  refine oRetI C d6_24 (by decide) (by decide) ?_
  exact ⟨rfl, (((oKe.refl h0 [] []).trans K1 all0 oA0).trans K2 all0 oA0)⟩
theorem ef_27 (m : MethodId) (x0 : Int32) (x1 : Int32) : entryFrame m #[.int x0, .int x1] 2 = mkF m 0 #[.val (.int x0), .val (.int x1)] [] := by first | (simp [entryFrame, mkF, argsToLocals, Value.category]; done) | rfl
theorem pn_41729 : plainName "java/lang/Integer" = true := by first | (simp [plainName, overriddenIn]; done) | decide +kernel
theorem d27_0 : decode jdk_33_method_40_code 0 = .ok (.iload_n 0, 1) := by decide +kernel
theorem d27_1 : decode jdk_33_method_40_code 1 = .ok (.iload_n 1, 1) := by decide +kernel
theorem d27_2 : decode jdk_33_method_40_code 2 = .ok (.if_icmp .ge 7, 3) := by decide +kernel
theorem d27_9 : decode jdk_33_method_40_code 9 = .ok (.iload_n 0, 1) := by decide +kernel
theorem d27_10 : decode jdk_33_method_40_code 10 = .ok (.iload_n 1, 1) := by decide +kernel
theorem d27_11 : decode jdk_33_method_40_code 11 = .ok (.if_icmp .ne 7, 3) := by decide +kernel
theorem d27_18 : decode jdk_33_method_40_code 18 = .ok (.iconst 1, 1) := by decide +kernel
theorem d27_19 : decode jdk_33_method_40_code 19 = .ok (.ireturn, 1) := by decide +kernel
set_option maxRecDepth 65536 in
set_option maxHeartbeats 40000000 in
theorem ac27_55 (l : Launch) (Z : State) (a0 : Array Value) (hw : oHw a0 Z) (h0 : Heap) (n0 : Nat) (Z0 : n0 ≤ h0.size)   :
    oMet l Z (⟨"java/lang/Integer", "compare", "(II)I"⟩ : MethodName) jdk_33_method_40_code 2 (some .int) [] ({ frames := 0, cells := 0, slots := 0, locals := 0 } : Room) 0 0 n0 #[.int 1, .int 0] h0 (fun v h => v = some (.int 1) ∧ oKe h0 h [] []) := by
  refine oMet.intro (plainFor_of_name pn_41729) (fun m => ef_27 m (1 : Int32) (0 : Int32)) ?_
  intro op oe os m obl omt ocd C
  refine oIloadN C d27_0 rfl rfl ?_
  refine oIloadN C d27_1 rfl rfl ?_
  refine oIcmp_ge C d27_2 (q := 9) (by decide) (by decide) (r := 5) rfl (fun hc2 => ?_) (fun hq => absurd hq ((by decide)))
  refine oIloadN C d27_9 rfl rfl ?_
  refine oIloadN C d27_10 rfl rfl ?_
  refine oIcmp_ne C d27_11 (q := 18) (by decide) (by decide) (r := 14) rfl (fun hc11 => ?_) (fun hq => absurd hq ((by decide)))
  refine oIconst C d27_18 (z := 1) rfl rfl ?_
  refine oRetI C d27_19 (by decide) (by decide) ?_
  exact ⟨rfl, (oKe.refl h0 [] [])⟩
theorem pd_947237 : parseMethodDescriptor "(II)I" = some ⟨[.int, .int], some .int⟩ := by decide +kernel
theorem d13_25 : decode prog_54_method_18_code 25 = .ok (.iload 5, 2) := by decide +kernel
theorem d13_27 : decode prog_54_method_18_code 27 = .ok (.aload_n 0, 1) := by decide +kernel
theorem d13_28 : decode prog_54_method_18_code 28 = .ok (.getfield 149, 3) := by decide +kernel
theorem d13_31 : decode prog_54_method_18_code 31 = .ok (.invokestatic 181, 3) := by decide +kernel
set_option maxRecDepth 65536 in
set_option maxHeartbeats 40000000 in
theorem ac13_56 (l : Launch) (Z : State) (a0 : Array Value) (hw : oHw a0 Z) (h0 : Heap) (n0 : Nat) (Z0 : n0 ≤ h0.size) (b1 : Addr) (y2 : Int64) (y3 : Int64) (p1 : Fld Z h0 b1 cU "sinkMoney" "J" (.long y3)) (p2 : Fld Z h0 b1 cU "sinkSales" "J" (.long 1)) (p3 : ¬ y2 < y3) (p4 : y2 = y3) (p5 : Fld Z h0 b1 cU "sinkMoves" "I" (.int 0)) :
    oMet l Z (⟨cU, "compareSink", "(JJI)I"⟩ : MethodName) prog_54_method_18_code 7 (some .int) [] ({ frames := 2, cells := 0, slots := 0, locals := 35 } : Room) 0 0 n0 #[.ref b1, .long y2, .long 1, .int 1] h0 (fun v h => v = some (.int 1) ∧ oKe h0 h [] []) := by
  refine oMet.intro (plainFor_of_name pn_944982) (fun m => ef_13 m b1 y2 (1 : Int64) (1 : Int32)) ?_
  intro op oe os m obl omt ocd C
  refine oLloadN C d13_0 rfl rfl ?_
  refine oLloadN C d13_1 rfl rfl ?_
  refine oAloadN C d13_2 rfl rfl rfl ?_
  refine oGetF C (w87 hw) Via.refl p1 d13_3 rfl ?_
  refine oAloadN C d13_6 rfl rfl rfl ?_
  refine oGetF C (w89 hw) Via.refl p2 d13_7 rfl ?_
  refine oCallS C (w69 hw) (w70 hw) (w5 hw) (w71 hw) d13_10 (by decide) pd_567728 rfl rfl (argsL := [.long y2, .long 1, .long y3, .long 1]) (rest := []) rfl (W := 0) rfl (q := 13) rfl (by decide) (by decide) (by decide) (by decide) (ac6_54 l Z a0 hw _ n0 Z0 y2 y3 p3 p4) (oRQ ?_)
  rintro h1 K1
  refine oIstore C d13_13 (Ls' := #[.val (.ref b1), .val (.long y2), .second, .val (.long 1), .second, .val (.int 1), .val (.int 0)]) rfl (q := 15) rfl ?_
  refine oIload C d13_15 rfl rfl ?_
  refine oIf_eq C d13_17 (q := 25) (by decide) (by decide) (r := 20) rfl (fun hc17 => ?_) (fun hq => absurd hq ((by decide)))
  refine oIload C d13_25 rfl rfl ?_
  refine oAloadN C d13_27 rfl rfl rfl ?_
  have f2 := (K1.fld p5 nin0 oN0)
  refine oGetF C (w91 hw) Via.refl f2 d13_28 rfl ?_
  have z4 := (Nat.le_trans Z0 K1.1)
  refine oCallS C (w174 hw) (w175 hw) (w176 hw) (w177 hw) d13_31 (by decide) pd_947237 rfl rfl (argsL := [.int 1, .int 0]) (rest := []) rfl (W := 0) rfl (q := 34) rfl (by decide) (by decide) (by decide) (by decide) (ac27_55 l Z a0 hw _ n0 z4  ) (oRQ ?_)
  rintro h3 K3
  refine oRetI C d13_34 (by decide) (by decide) ?_
  exact ⟨rfl, (((oKe.refl h0 [] []).trans K1 all0 oA0).trans K3 all0 oA0)⟩
set_option maxRecDepth 65536 in
set_option maxHeartbeats 40000000 in
theorem ac7_57 (l : Launch) (Z : State) (a0 : Array Value) (hw : oHw a0 Z) (h0 : Heap) (n0 : Nat) (Z0 : n0 ≤ h0.size) (y1 : Int64) (y2 : Int64) (p1 : ¬ y1 < y2) (p2 : ¬ y1 = y2) :
    oMet l Z (⟨"java/lang/Long", "compare", "(JJ)I"⟩ : MethodName) jdk_35_method_42_code 4 (some .int) [] ({ frames := 0, cells := 0, slots := 0, locals := 0 } : Room) 0 0 n0 #[.long y1, .long y2] h0 (fun v h => v = some (.int 1) ∧ oKe h0 h [] []) := by
  refine oMet.intro (plainFor_of_name pn_77341) (fun m => ef_7 m y1 y2) ?_
  intro op oe os m obl omt ocd C
  refine oLloadN C d7_0 rfl rfl ?_
  refine oLloadN C d7_1 rfl rfl ?_
  refine oLcmp_ge C d7_2 rfl d7_3 (q := 10) (by decide) (by decide) (r := 6) rfl (fun hc2 => ?_) (fun hq => absurd hq (p1))
  refine oLloadN C d7_10 rfl rfl ?_
  refine oLloadN C d7_11 rfl rfl ?_
  refine oLcmp_ne C d7_12 rfl d7_13 (q := 20) (by decide) (by decide) (r := 16) rfl (fun hc12 => ?_) (fun hq => absurd hq (p2))
  refine oIconst C d7_20 (z := 1) rfl rfl ?_
  refine oRetI C d7_21 (by decide) (by decide) ?_
  exact ⟨rfl, (oKe.refl h0 [] [])⟩
set_option maxRecDepth 65536 in
set_option maxHeartbeats 40000000 in
theorem ac6_58 (l : Launch) (Z : State) (a0 : Array Value) (hw : oHw a0 Z) (h0 : Heap) (n0 : Nat) (Z0 : n0 ≤ h0.size) (y1 : Int64) (y2 : Int64) (p1 : ¬ y1 < y2) (p2 : ¬ y1 = y2) :
    oMet l Z (⟨cU, "compare", "(JJJJ)I"⟩ : MethodName) prog_54_method_28_code 9 (some .int) [] ({ frames := 1, cells := 0, slots := 0, locals := 15 } : Room) 0 0 n0 #[.long y1, .long 1, .long y2, .long 1] h0 (fun v h => v = some (.int 1) ∧ oKe h0 h [] []) := by
  refine oMet.intro (plainFor_of_name pn_944982) (fun m => ef_6 m y1 (1 : Int64) y2 (1 : Int64)) ?_
  intro op oe os m obl omt ocd C
  refine oLloadN C d6_0 rfl rfl ?_
  refine oLload C d6_1 rfl rfl ?_
  refine oCallS C (w72 hw) (w73 hw) (w74 hw) (w75 hw) d6_3 (by decide) pd_212480 rfl rfl (argsL := [.long y1, .long y2]) (rest := []) rfl (W := 0) rfl (q := 6) rfl (by decide) (by decide) (by decide) (by decide) (ac7_57 l Z a0 hw _ n0 Z0 y1 y2 p1 p2) (oRQ ?_)
  rintro h1 K1
  refine oIstore C d6_6 (Ls' := #[.val (.long y1), .second, .val (.long 1), .second, .val (.long y2), .second, .val (.long 1), .second, .val (.int 1)]) rfl (q := 8) rfl ?_
  refine oIload C d6_8 rfl rfl ?_
  refine oIf_eq C d6_10 (q := 18) (by decide) (by decide) (r := 13) rfl (fun hq => absurd hq ((by decide))) (fun hc10 => ?_)
  refine oIload C d6_13 rfl rfl ?_
  refine oGoto C d6_15 (q := 24) (by decide) (by decide) ?_
  refine oRetI C d6_24 (by decide) (by decide) ?_
  exact ⟨rfl, ((oKe.refl h0 [] []).trans K1 all0 oA0)⟩
set_option maxRecDepth 65536 in
set_option maxHeartbeats 40000000 in
theorem ac13_59 (l : Launch) (Z : State) (a0 : Array Value) (hw : oHw a0 Z) (h0 : Heap) (n0 : Nat) (Z0 : n0 ≤ h0.size) (b1 : Addr) (y2 : Int64) (y3 : Int64) (p1 : Fld Z h0 b1 cU "sinkMoney" "J" (.long y3)) (p2 : Fld Z h0 b1 cU "sinkSales" "J" (.long 1)) (p3 : ¬ y2 < y3) (p4 : ¬ y2 = y3) :
    oMet l Z (⟨cU, "compareSink", "(JJI)I"⟩ : MethodName) prog_54_method_18_code 7 (some .int) [] ({ frames := 2, cells := 0, slots := 0, locals := 35 } : Room) 0 0 n0 #[.ref b1, .long y2, .long 1, .int 1] h0 (fun v h => v = some (.int 1) ∧ oKe h0 h [] []) := by
  refine oMet.intro (plainFor_of_name pn_944982) (fun m => ef_13 m b1 y2 (1 : Int64) (1 : Int32)) ?_
  intro op oe os m obl omt ocd C
  refine oLloadN C d13_0 rfl rfl ?_
  refine oLloadN C d13_1 rfl rfl ?_
  refine oAloadN C d13_2 rfl rfl rfl ?_
  refine oGetF C (w87 hw) Via.refl p1 d13_3 rfl ?_
  refine oAloadN C d13_6 rfl rfl rfl ?_
  refine oGetF C (w89 hw) Via.refl p2 d13_7 rfl ?_
  refine oCallS C (w69 hw) (w70 hw) (w5 hw) (w71 hw) d13_10 (by decide) pd_567728 rfl rfl (argsL := [.long y2, .long 1, .long y3, .long 1]) (rest := []) rfl (W := 0) rfl (q := 13) rfl (by decide) (by decide) (by decide) (by decide) (ac6_58 l Z a0 hw _ n0 Z0 y2 y3 p3 p4) (oRQ ?_)
  rintro h1 K1
  refine oIstore C d13_13 (Ls' := #[.val (.ref b1), .val (.long y2), .second, .val (.long 1), .second, .val (.int 1), .val (.int 1)]) rfl (q := 15) rfl ?_
  refine oIload C d13_15 rfl rfl ?_
  refine oIf_eq C d13_17 (q := 25) (by decide) (by decide) (r := 20) rfl (fun hq => absurd hq ((by decide))) (fun hc17 => ?_)
  refine oIload C d13_20 rfl rfl ?_
  refine oGoto C d13_22 (q := 34) (by decide) (by decide) ?_
  refine oRetI C d13_34 (by decide) (by decide) ?_
  exact ⟨rfl, ((oKe.refl h0 [] []).trans K1 all0 oA0)⟩
theorem d18_15 : decode prog_54_method_19_code 15 = .ok (.iload 8, 2) := by decide +kernel
theorem d18_17 : decode prog_54_method_19_code 17 = .ok (.ifCond .ne 44, 3) := by decide +kernel
set_option maxRecDepth 65536 in
set_option maxHeartbeats 40000000 in
theorem ac18_60 (l : Launch) (Z : State) (a0 : Array Value) (hw : oHw a0 Z) (h0 : Heap) (n0 : Nat) (Z0 : n0 ≤ h0.size) (b1 : Addr) (y2 : Int64) (y3 : Int64) (p1 : Fld Z h0 b1 cU "sinkMoney" "J" (.long y3)) (p2 : Fld Z h0 b1 cU "sinkSales" "J" (.long 1)) (p3 : Fld Z h0 b1 cU "sinkMoves" "I" (.int 0)) (p4 : ¬ y2 < y3) (p5 : Exa Z h0 b1 cU) (p6 : Fld Z h0 b1 cU "sinkSales" "J" (.long 1)) (p7 : Exa Z h0 b1 cU) :
    oMet l Z (⟨cU, "considerSink", "(JJIIZ)V"⟩ : MethodName) prog_54_method_19_code 9 none [] ({ frames := 3, cells := 0, slots := 0, locals := 53 } : Room) 0 0 n0 #[.ref b1, .long y2, .long 1, .int 1, .int 0, .int 1] h0 (fun v h => v = none ∧ oKe h0 h [] []) := by
  refine oMet.intro (plainFor_of_name pn_944982) (fun m => ef_18 m b1 y2 (1 : Int64) (1 : Int32) (0 : Int32) (1 : Int32)) ?_
  intro op oe os m obl omt ocd C
  by_cases hsp : y2 = y3
  ·
   refine oAloadN C d18_0 rfl rfl rfl ?_
   refine oLloadN C d18_1 rfl rfl ?_
   refine oLloadN C d18_2 rfl rfl ?_
   refine oIload C d18_3 rfl rfl ?_
   refine oCallP C (w108 hw) (w110 hw) (w4 hw) (w109 hw) (w5 hw) (w111 hw) d18_5 p5 (by decide) pd_379829 rfl rfl (a := b1) (argsL := [.long y2, .long 1, .int 1]) (rest := []) rfl (W := 0) rfl (q := 8) rfl (by decide) (by decide) (by decide) (by decide) (ac13_56 l Z a0 hw _ n0 Z0 b1 y2 y3 p1 p2 p4 hsp p3) (oRQ ?_)
   rintro h1 K1
   refine oIstore C d18_8 (Ls' := #[.val (.ref b1), .val (.long y2), .second, .val (.long 1), .second, .val (.int 1), .val (.int 0), .val (.int 1), .val (.int 1)]) rfl (q := 10) rfl ?_
   refine oIload C d18_10 rfl rfl ?_
   refine oIf_lt C d18_12 (q := 33) (by decide) (by decide) (r := 15) rfl (fun hq => absurd hq ((by decide))) (fun hc12 => ?_)
   refine oIload C d18_15 rfl rfl ?_
   refine oIf_ne C d18_17 (q := 61) (by decide) (by decide) (r := 20) rfl (fun hc17 => ?_) (fun hq => absurd hq ((by decide)))
   refine oRetV C d18_61 (by decide) (by decide) ?_
   exact ⟨rfl, ((oKe.refl h0 [] []).trans K1 all0 oA0)⟩
  ·
   refine oAloadN C d18_0 rfl rfl rfl ?_
   refine oLloadN C d18_1 rfl rfl ?_
   refine oLloadN C d18_2 rfl rfl ?_
   refine oIload C d18_3 rfl rfl ?_
   refine oCallP C (w108 hw) (w110 hw) (w4 hw) (w109 hw) (w5 hw) (w111 hw) d18_5 p7 (by decide) pd_379829 rfl rfl (a := b1) (argsL := [.long y2, .long 1, .int 1]) (rest := []) rfl (W := 0) rfl (q := 8) rfl (by decide) (by decide) (by decide) (by decide) (ac13_59 l Z a0 hw _ n0 Z0 b1 y2 y3 p1 p6 p4 hsp) (oRQ ?_)
   rintro h2 K2
   refine oIstore C d18_8 (Ls' := #[.val (.ref b1), .val (.long y2), .second, .val (.long 1), .second, .val (.int 1), .val (.int 0), .val (.int 1), .val (.int 1)]) rfl (q := 10) rfl ?_
   refine oIload C d18_10 rfl rfl ?_
   refine oIf_lt C d18_12 (q := 33) (by decide) (by decide) (r := 15) rfl (fun hq => absurd hq ((by decide))) (fun hc12 => ?_)
   refine oIload C d18_15 rfl rfl ?_
   refine oIf_ne C d18_17 (q := 61) (by decide) (by decide) (r := 20) rfl (fun hc17 => ?_) (fun hq => absurd hq ((by decide)))
   refine oRetV C d18_61 (by decide) (by decide) ?_
   exact ⟨rfl, ((oKe.refl h0 [] []).trans K2 all0 oA0)⟩
set_option maxRecDepth 65536 in
set_option maxHeartbeats 40000000 in
theorem ac9_61 (l : Launch) (Z : State) (a0 : Array Value) (hw : oHw a0 Z) (h0 : Heap) (n0 : Nat) (Z0 : n0 ≤ h0.size) (b1 : Addr) (y2 : Int64) (y3 : Int64) (b4 : Addr) (b5 : Addr) (y6 : Int64) (b7 : Addr) (b8 : Addr) (b9 : Addr) (b10 : Addr) (b11 : Addr) (b12 : Addr) (b13 : Addr) (b14 : Addr) (b15 : Addr) (b16 : Addr) (b17 : Addr) (b18 : Addr) (b19 : Addr) (b20 : Addr) (y21 : Int64) (b22 : Addr) (p1 : Exa Z h0 b1 cU) (p2 : Fld Z h0 b1 cU "sinkMoney" "J" (.long y3)) (p3 : n0 ≤ b1) (p4 : Fld Z h0 b1 cU "sinkSales" "J" (.long 1)) (p5 : Fld Z h0 b1 cU "sinkMoves" "I" (.int 1)) (p6 : Fld Z h0 b1 cU "sinkEnd" "I" (.int 0)) (p7 : Fld Z h0 b1 cU "sinkGoesWithout" "Z" (.int 1)) (p8 : Fld Z h0 b1 cU "offerStart" "[I" (.ref b4)) (p9 : oAr Z h0 b4 .int [.int 0, .int 1, .int 2, .int 3]) (p10 : b4 ≠ b1) (p11 : Fld Z h0 b1 cU "offerWeight" "[J" (.ref b5)) (p12 : oAr Z h0 b5 .long [.long y3, .long y6, .long y2]) (p13 : b5 ≠ b1) (p14 : ¬ y2 < (0 : Int64)) (p15 : Fld Z h0 b1 cU "offerItem" "[I" (.ref b7)) (p16 : oAr Z h0 b7 .int [.int 0, .int 0, .int 0]) (p17 : b7 ≠ b1) (p18 : Fld Z h0 b1 cU "priceMoney" "[J" (.ref b8)) (p19 : oAr Z h0 b8 .long [.long 0, .long 0]) (p20 : b8 ≠ b1) (p21 : ¬ ((y2 ^^^ (y2 + (0 : Int64))) &&& ((0 : Int64) ^^^ (y2 + (0 : Int64)))) < (0 : Int64)) (p22 : ¬ ((y2 ^^^ y2) &&& (y2 ^^^ (y2 - y2))) < (0 : Int64)) (p23 : Fld Z h0 b1 cU "priceSales" "[J" (.ref b9)) (p24 : oAr Z h0 b9 .long [.long 0, .long 0]) (p25 : b9 ≠ b1) (p26 : Fld Z h0 b1 cU "mark" "[B" (.ref b10)) (p27 : oAr Z h0 b10 .byte [.int 0, .int 0]) (p28 : Fld Z h0 b1 cU "touched" "[I" (.ref b11)) (p29 : Fld Z h0 b1 cU "touchedCount" "I" (.int 0)) (p30 : oAr Z h0 b11 .int [.int 0, .int 0]) (p31 : Fld Z h0 b1 cU "distMoney" "[J" (.ref b12)) (p32 : oAr Z h0 b12 .long [.long 0, .long 0]) (p33 : Fld Z h0 b1 cU "distSales" "[J" (.ref b13)) (p34 : oAr Z h0 b13 .long [.long 0, .long 0]) (p35 : Fld Z h0 b1 cU "hops" "[I" (.ref b14)) (p36 : oAr Z h0 b14 .int [.int 1, .int 0]) (p37 : Fld Z h0 b1 cU "pred" "[I" (.ref b15)) (p38 : oAr Z h0 b15 .int [.int (-1), .int 0]) (p39 : Fld Z h0 b1 cU "predOffer" "[I" (.ref b16)) (p40 : oAr Z h0 b16 .int [.int 1, .int 0]) (p41 : Fld Z h0 b1 cU "heapSize" "I" (.int 0)) (p42 : Fld Z h0 b1 cU "heap" "[I" (.ref b17)) (p43 : oAr Z h0 b17 .int [.int 0, .int 0]) (p44 : Fld Z h0 b1 cU "heapIndex" "[I" (.ref b18)) (p45 : oAr Z h0 b18 .int [.int 0, .int 0]) (p46 : b10 ≠ b1) (p47 : n0 ≤ b10) (p48 : b1 ≠ b10) (p49 : b11 ≠ b1) (p50 : b11 ≠ b10) (p51 : n0 ≤ b11) (p52 : b12 ≠ b1) (p53 : b13 ≠ b1) (p54 : b14 ≠ b1) (p55 : b15 ≠ b1) (p56 : b16 ≠ b1) (p57 : b1 ≠ b11) (p58 : b12 ≠ b10) (p59 : b12 ≠ b11) (p60 : n0 ≤ b12) (p61 : b1 ≠ b12) (p62 : b13 ≠ b10) (p63 : b13 ≠ b11) (p64 : b13 ≠ b12) (p65 : n0 ≤ b13) (p66 : b1 ≠ b13) (p67 : b14 ≠ b10) (p68 : b14 ≠ b11) (p69 : b14 ≠ b12) (p70 : b14 ≠ b13) (p71 : n0 ≤ b14) (p72 : b1 ≠ b14) (p73 : b15 ≠ b10) (p74 : b15 ≠ b11) (p75 : b15 ≠ b12) (p76 : b15 ≠ b13) (p77 : b15 ≠ b14) (p78 : n0 ≤ b15) (p79 : b1 ≠ b15) (p80 : b16 ≠ b10) (p81 : b16 ≠ b11) (p82 : b16 ≠ b12) (p83 : b16 ≠ b13) (p84 : b16 ≠ b14) (p85 : b16 ≠ b15) (p86 : n0 ≤ b16) (p87 : b12 ≠ b13) (p88 : b12 ≠ b14) (p89 : b12 ≠ b15) (p90 : b12 ≠ b16) (p91 : b13 ≠ b14) (p92 : b13 ≠ b15) (p93 : b13 ≠ b16) (p94 : b14 ≠ b15) (p95 : b14 ≠ b16) (p96 : b15 ≠ b16) (p97 : b1 ≠ b16) (p98 : b17 ≠ b1) (p99 : b18 ≠ b1) (p100 : b17 ≠ b10) (p101 : b17 ≠ b11) (p102 : b17 ≠ b16) (p103 : b17 ≠ b15) (p104 : b17 ≠ b14) (p105 : b17 ≠ b13) (p106 : b17 ≠ b12) (p107 : b18 ≠ b10) (p108 : b18 ≠ b11) (p109 : b18 ≠ b16) (p110 : b18 ≠ b15) (p111 : b18 ≠ b14) (p112 : b18 ≠ b13) (p113 : b18 ≠ b12) (p114 : n0 ≤ b17) (p115 : b1 ≠ b17) (p116 : b18 ≠ b17) (p117 : n0 ≤ b18) (p118 : b17 ≠ b18) (p119 : b10 ≠ b11) (p120 : b10 ≠ b16) (p121 : b10 ≠ b15) (p122 : b10 ≠ b14) (p123 : b10 ≠ b13) (p124 : b10 ≠ b12) (p125 : b10 ≠ b18) (p126 : b10 ≠ b17) (p127 : b1 ≠ b18) (p128 : b11 ≠ b16) (p129 : b11 ≠ b15) (p130 : b11 ≠ b14) (p131 : b11 ≠ b13) (p132 : b11 ≠ b12) (p133 : b11 ≠ b18) (p134 : b11 ≠ b17) (p135 : b12 ≠ b18) (p136 : b12 ≠ b17) (p137 : b13 ≠ b18) (p138 : b13 ≠ b17) (p139 : b14 ≠ b18) (p140 : b14 ≠ b17) (p141 : b15 ≠ b18) (p142 : b15 ≠ b17) (p143 : b16 ≠ b18) (p144 : b16 ≠ b17) (p145 : b4 ≠ b18) (p146 : b4 ≠ b17) (p147 : b4 ≠ b16) (p148 : b4 ≠ b15) (p149 : b4 ≠ b14) (p150 : b4 ≠ b13) (p151 : b4 ≠ b12) (p152 : b4 ≠ b11) (p153 : b4 ≠ b10) (p154 : Fld Z h0 b1 cU "holder" "[I" (.ref b19)) (p155 : oAr Z h0 b19 .int [.int 1, .int (-1)]) (p156 : b19 ≠ b1) (p157 : b19 ≠ b18) (p158 : b19 ≠ b17) (p159 : b19 ≠ b16) (p160 : b19 ≠ b15) (p161 : b19 ≠ b14) (p162 : b19 ≠ b13) (p163 : b19 ≠ b12) (p164 : b19 ≠ b11) (p165 : b19 ≠ b10) (p166 : Fld Z h0 b1 cU "utilityMoney" "[J" (.ref b20)) (p167 : oAr Z h0 b20 .long [.long 0, .long y21, .long 0]) (p168 : b20 ≠ b1) (p169 : b20 ≠ b18) (p170 : b20 ≠ b17) (p171 : b20 ≠ b16) (p172 : b20 ≠ b15) (p173 : b20 ≠ b14) (p174 : b20 ≠ b13) (p175 : b20 ≠ b12) (p176 : b20 ≠ b11) (p177 : b20 ≠ b10) (p178 : ¬ (((0 : Int64) ^^^ ((0 : Int64) + y21)) &&& (y21 ^^^ ((0 : Int64) + y21))) < (0 : Int64)) (p179 : Fld Z h0 b1 cU "utilitySales" "[J" (.ref b22)) (p180 : oAr Z h0 b22 .long [.long 0, .long 1, .long 0]) (p181 : b22 ≠ b1) (p182 : b22 ≠ b18) (p183 : b22 ≠ b17) (p184 : b22 ≠ b16) (p185 : b22 ≠ b15) (p186 : b22 ≠ b14) (p187 : b22 ≠ b13) (p188 : b22 ≠ b12) (p189 : b22 ≠ b11) (p190 : b22 ≠ b10) (p191 : ¬ y21 < y2) (p192 : b7 ≠ b18) (p193 : b7 ≠ b17) (p194 : b7 ≠ b16) (p195 : b7 ≠ b15) (p196 : b7 ≠ b14) (p197 : b7 ≠ b13) (p198 : b7 ≠ b12) (p199 : b7 ≠ b11) (p200 : b7 ≠ b10) :
    oMet l Z (⟨cU, "search", "(IJJ)V"⟩ : MethodName) prog_54_method_15_code 18 none [] ({ frames := 4, cells := 0, slots := 0, locals := 74 } : Room) 0 0 n0 #[.ref b1, .int 2, .long y2, .long 1] h0 (fun v h => v = none ∧ oKe h0 h [b10, b11, b12, b13, b14, b15, b16, b17, b18] [(b1, Jvm.RoadKit.slotOf Z cU "sinkMoney" "J"), (b1, Jvm.RoadKit.slotOf Z cU "sinkSales" "J"), (b1, Jvm.RoadKit.slotOf Z cU "sinkMoves" "I"), (b1, Jvm.RoadKit.slotOf Z cU "sinkEnd" "I"), (b1, Jvm.RoadKit.slotOf Z cU "sinkGoesWithout" "Z"), (b1, Jvm.RoadKit.slotOf Z cU "touchedCount" "I"), (b1, Jvm.RoadKit.slotOf Z cU "heapSize" "I")] ∧ Fld Z h b1 cU "sinkMoney" "J" (.long y2) ∧ Fld Z h b1 cU "sinkSales" "J" (.long 1) ∧ Fld Z h b1 cU "sinkMoves" "I" (.int 0) ∧ Fld Z h b1 cU "sinkEnd" "I" (.int (-1)) ∧ Fld Z h b1 cU "sinkGoesWithout" "Z" (.int 1) ∧ oAr Z h b10 .byte [.int 2, .int 0] ∧ Fld Z h b1 cU "touchedCount" "I" (.int 1) ∧ oAr Z h b11 .int [.int 0, .int 0] ∧ oAr Z h b12 .long [.long 0, .long 0] ∧ oAr Z h b13 .long [.long 0, .long 0] ∧ oAr Z h b14 .int [.int 1, .int 0] ∧ oAr Z h b15 .int [.int (-1), .int 0] ∧ oAr Z h b16 .int [.int 2, .int 0] ∧ Fld Z h b1 cU "heapSize" "I" (.int 0) ∧ oAr Z h b17 .int [.int 0, .int 0] ∧ oAr Z h b18 .int [.int 0, .int 0]) := by
  refine oMet.intro (plainFor_of_name pn_944982) (fun m => ef_9 m b1 (2 : Int32) y2 (1 : Int64)) ?_
  intro op oe os m obl omt ocd C
  refine oAloadN C d9_0 rfl rfl rfl ?_
  refine oLloadN C d9_1 rfl rfl ?_
  refine oPutF C (w87 hw) Via.refl p2 p1 (Or.inl (w88 hw)) (w4 hw) (ty := .long) (by decide) rfl rfl d9_2 rfl p3 fun h1 W1 => ?_
  have f1w := Fld.same W1 p2
  refine oAloadN C d9_5 rfl rfl rfl ?_
  refine oLload C d9_6 rfl rfl ?_
  have f2 := (Exa.wr W1 p1)
  have f3 := (Fld.other W1 p4 (Or.inr (oSn0 hw 23 22)))
  refine oPutF C (w89 hw) Via.refl f3 f2 (Or.inl (w90 hw)) (w4 hw) (ty := .long) (by decide) rfl rfl d9_8 rfl p3 fun h4 W4 => ?_
  have f4w := Fld.same W4 f3
  refine oAloadN C d9_11 rfl rfl rfl ?_
  refine oIconst C d9_12 (z := 0) rfl rfl ?_
  have f5 := (Exa.wr W4 f2)
  have f6 := (Fld.other W4 (Fld.other W1 p5 (Or.inr (oSn0 hw 24 22))) (Or.inr (oSn0 hw 24 23)))
  refine oPutF C (w91 hw) Via.refl f6 f5 (Or.inl (w92 hw)) (w4 hw) (ty := .int) (by decide) rfl rfl d9_13 rfl p3 fun h7 W7 => ?_
  have f7w := Fld.same W7 f6
  refine oAloadN C d9_16 rfl rfl rfl ?_
  refine oIconst C d9_17 (z := (-1)) rfl rfl ?_
  have f8 := (Exa.wr W7 f5)
  have f9 := (Fld.other W7 (Fld.other W4 (Fld.other W1 p6 (Or.inr (oSn0 hw 25 22))) (Or.inr (oSn0 hw 25 23))) (Or.inr (oSn0 hw 25 24)))
  refine oPutF C (w93 hw) Via.refl f9 f8 (Or.inl (w94 hw)) (w4 hw) (ty := .int) (by decide) rfl rfl d9_18 rfl p3 fun h10 W10 => ?_
  have f10w := Fld.same W10 f9
  refine oAloadN C d9_21 rfl rfl rfl ?_
  refine oIconst C d9_22 (z := 1) rfl rfl ?_
  have f11 := (Exa.wr W10 f8)
  have f12 := (Fld.other W10 (Fld.other W7 (Fld.other W4 (Fld.other W1 p7 (Or.inr (oSn0 hw 26 22))) (Or.inr (oSn0 hw 26 23))) (Or.inr (oSn0 hw 26 24))) (Or.inr (oSn0 hw 26 25)))
  refine oPutFN C (w95 hw) Via.refl f12 f11 (Or.inl (w96 hw)) (w4 hw) (ty := .boolean) (v' := .int 1) (by decide) rfl rfl d9_23 rfl p3 fun h13 W13 => ?_
  have f13w := Fld.same W13 f12
  refine oAloadN C d9_26 rfl rfl rfl ?_
  have f14 := (Fld.other W13 (Fld.other W10 (Fld.other W7 (Fld.other W4 (Fld.other W1 p8 (Or.inr (oSn0 hw 1 22))) (Or.inr (oSn0 hw 1 23))) (Or.inr (oSn0 hw 1 24))) (Or.inr (oSn0 hw 1 25))) (Or.inr (oSn0 hw 1 26)))
  refine oGetF C (w14 hw) Via.refl f14 d9_27 rfl ?_
  refine oIloadN C d9_30 rfl rfl ?_
  have f15 := (((((p9.other W1 p10).other W4 p10).other W7 p10).other W10 p10).other W13 p10)
  refine oIaload C f15 (by decide) (k := 2) rfl (v := .int 2) rfl d9_31 rfl ?_
  refine oIstore C d9_32 (Ls' := #[.val (.ref b1), .val (.int 2), .val (.long y2), .second, .val (.long 1), .second, .val (.int 2), .unset, .unset, .unset, .unset, .unset, .unset, .unset, .unset, .unset, .unset, .unset]) rfl (q := 34) rfl ?_
  refine oIload C d9_34 rfl rfl ?_
  refine oAloadN C d9_36 rfl rfl rfl ?_
  refine oGetF C (w14 hw) Via.refl f14 d9_37 rfl ?_
  refine oIloadN C d9_40 rfl rfl ?_
  refine oIconst C d9_41 (z := 1) rfl rfl ?_
  refine oIadd C d9_42 rfl ?_
  refine oCastI (z' := (3 : Int32)) (by decide) ?_
  refine oIaload C f15 (by decide) (k := 3) rfl (v := .int 3) rfl d9_43 rfl ?_
  refine oIcmp_ge C d9_44 (q := 128) (by decide) (by decide) (r := 47) rfl (fun hq => absurd hq ((by decide))) (fun hc44 => ?_)
  refine oAloadN C d9_47 rfl rfl rfl ?_
  have f16 := (Fld.other W13 (Fld.other W10 (Fld.other W7 (Fld.other W4 (Fld.other W1 p11 (Or.inr (oSn0 hw 3 22))) (Or.inr (oSn0 hw 3 23))) (Or.inr (oSn0 hw 3 24))) (Or.inr (oSn0 hw 3 25))) (Or.inr (oSn0 hw 3 26)))
  refine oGetF C (w18 hw) Via.refl f16 d9_48 rfl ?_
  refine oIload C d9_51 rfl rfl ?_
  have f17 := (((((p12.other W1 p13).other W4 p13).other W7 p13).other W10 p13).other W13 p13)
  refine oLaload C f17 (by decide) (k := 2) rfl (v := .long y2) rfl d9_53 rfl ?_
  refine oLconst C d9_54 (z := 0) rfl rfl ?_
  refine oLcmp_ge C d9_55 rfl d9_56 (q := 62) (by decide) (by decide) (r := 59) rfl (fun hc55 => ?_) (fun hq => absurd hq (p14))
  refine oAloadN C d9_62 rfl rfl rfl ?_
  have f18 := (Fld.other W13 (Fld.other W10 (Fld.other W7 (Fld.other W4 (Fld.other W1 p15 (Or.inr (oSn0 hw 2 22))) (Or.inr (oSn0 hw 2 23))) (Or.inr (oSn0 hw 2 24))) (Or.inr (oSn0 hw 2 25))) (Or.inr (oSn0 hw 2 26)))
  refine oGetF C (w16 hw) Via.refl f18 d9_63 rfl ?_
  refine oIload C d9_66 rfl rfl ?_
  have f19 := (((((p16.other W1 p17).other W4 p17).other W7 p17).other W10 p17).other W13 p17)
  refine oIaload C f19 (by decide) (k := 2) rfl (v := .int 0) rfl d9_68 rfl ?_
  refine oIstore C d9_69 (Ls' := #[.val (.ref b1), .val (.int 2), .val (.long y2), .second, .val (.long 1), .second, .val (.int 2), .val (.int 0), .unset, .unset, .unset, .unset, .unset, .unset, .unset, .unset, .unset, .unset]) rfl (q := 71) rfl ?_
  refine oLloadN C d9_71 rfl rfl ?_
  refine oAloadN C d9_72 rfl rfl rfl ?_
  have f20 := (Fld.other W13 (Fld.other W10 (Fld.other W7 (Fld.other W4 (Fld.other W1 p18 (Or.inr (oSn0 hw 4 22))) (Or.inr (oSn0 hw 4 23))) (Or.inr (oSn0 hw 4 24))) (Or.inr (oSn0 hw 4 25))) (Or.inr (oSn0 hw 4 26)))
  refine oGetF C (w20 hw) Via.refl f20 d9_73 rfl ?_
  refine oIload C d9_76 rfl rfl ?_
  have f21 := (((((p19.other W1 p20).other W4 p20).other W7 p20).other W10 p20).other W13 p20)
  refine oLaload C f21 (by decide) (k := 0) rfl (v := .long 0) rfl d9_78 rfl ?_
  have z23 := (Nat.le_trans (Nat.le_trans (Nat.le_trans (Nat.le_trans (Nat.le_trans Z0 (Nat.le_of_eq W1.size.symm)) (Nat.le_of_eq W4.size.symm)) (Nat.le_of_eq W7.size.symm)) (Nat.le_of_eq W10.size.symm)) (Nat.le_of_eq W13.size.symm))
  refine oCallSH C (w97 hw) (w98 hw) (w99 hw) (w100 hw) d9_79 (by decide) pd_212481 rfl rfl (argsL := [.long y2, .long 0]) (rest := []) rfl (W := 0) rfl (q := 82) rfl (by decide) (by decide) (by decide) (by decide) (ac10_11 l Z a0 hw _ n0 z23 y2 p21) (oRQ ?_)
  rintro h22 K22
  refine oAloadN C d9_82 rfl rfl rfl ?_
  have f24 := (K22.fld f16 nin0 oN0)
  refine oGetF C (w18 hw) Via.refl f24 d9_83 rfl ?_
  refine oIload C d9_86 rfl rfl ?_
  have f25 := (K22.arr f17 nin0 oA0)
  refine oLaload C f25 (by decide) (k := 2) rfl (v := .long y2) rfl d9_88 rfl ?_
  have z27 := (Nat.le_trans z23 K22.1)
  refine oCallS C (w65 hw) (w66 hw) (w67 hw) (w68 hw) d9_89 (by decide) pd_212481 rfl rfl (argsL := [.long y2, .long y2]) (rest := []) rfl (W := 0) rfl (q := 92) rfl (by decide) (by decide) (by decide) (by decide) (ac5_12 l Z a0 hw _ n0 z27 y2 p22) (oRQ ?_)
  rintro h26 K26
  refine oCastL (z' := (0 : Int64)) (own_subs _) ?_
  refine oLstore C d9_92 (Ls' := #[.val (.ref b1), .val (.int 2), .val (.long y2), .second, .val (.long 1), .second, .val (.int 2), .val (.int 0), .val (.long 0), .second, .unset, .unset, .unset, .unset, .unset, .unset, .unset, .unset]) rfl (q := 94) rfl ?_
  refine oLload C d9_94 rfl rfl ?_
  refine oAloadN C d9_96 rfl rfl rfl ?_
  have f28 := (K26.fld (K22.fld (Fld.other W13 (Fld.other W10 (Fld.other W7 (Fld.other W4 (Fld.other W1 p23 (Or.inr (oSn0 hw 5 22))) (Or.inr (oSn0 hw 5 23))) (Or.inr (oSn0 hw 5 24))) (Or.inr (oSn0 hw 5 25))) (Or.inr (oSn0 hw 5 26))) nin0 oN0) nin0 oN0)
  refine oGetF C (w22 hw) Via.refl f28 d9_97 rfl ?_
  refine oIload C d9_100 rfl rfl ?_
  have f29 := (K26.arr (K22.arr (((((p24.other W1 p25).other W4 p25).other W7 p25).other W10 p25).other W13 p25) nin0 oA0) nin0 oA0)
  refine oLaload C f29 (by decide) (k := 0) rfl (v := .long 0) rfl d9_102 rfl ?_
  refine oLadd C d9_103 rfl ?_
  refine oCastL (z' := (1 : Int64)) (by decide) ?_
  refine oLconst C d9_104 (z := 1) rfl rfl ?_
  refine oLsub C d9_105 rfl ?_
  refine oCastL (z' := (0 : Int64)) (by decide) ?_
  refine oLstore C d9_106 (Ls' := #[.val (.ref b1), .val (.int 2), .val (.long y2), .second, .val (.long 1), .second, .val (.int 2), .val (.int 0), .val (.long 0), .second, .val (.long 0), .second, .unset, .unset, .unset, .unset, .unset, .unset]) rfl (q := 108) rfl ?_
  refine oAloadN C d9_108 rfl rfl rfl ?_
  refine oIload C d9_109 rfl rfl ?_
  refine oLload C d9_111 rfl rfl ?_
  refine oLload C d9_113 rfl rfl ?_
  refine oIconst C d9_115 (z := 1) rfl rfl ?_
  refine oIconst C d9_116 (z := (-1)) rfl rfl ?_
  refine oIload C d9_117 rfl rfl ?_
  have f30 := (K26.fld (K22.fld (Fld.other W13 (Fld.other W10 (Fld.other W7 (Fld.other W4 f1w (Or.inr (oSn0 hw 22 23))) (Or.inr (oSn0 hw 22 24))) (Or.inr (oSn0 hw 22 25))) (Or.inr (oSn0 hw 22 26))) nin0 oN0) nin0 oN0)
  have f31 := (K26.fld (K22.fld (Fld.other W13 (Fld.other W10 (Fld.other W7 f4w (Or.inr (oSn0 hw 23 24))) (Or.inr (oSn0 hw 23 25))) (Or.inr (oSn0 hw 23 26))) nin0 oN0) nin0 oN0)
  have f32 := (K26.exa (K22.exa (Exa.wr W13 f11)))
  have f33 := (K26.fld (K22.fld (Fld.other W13 (Fld.other W10 (Fld.other W7 (Fld.other W4 (Fld.other W1 p26 (Or.inr (oSn0 hw 15 22))) (Or.inr (oSn0 hw 15 23))) (Or.inr (oSn0 hw 15 24))) (Or.inr (oSn0 hw 15 25))) (Or.inr (oSn0 hw 15 26))) nin0 oN0) nin0 oN0)
  have f34 := (K26.arr (K22.arr (((((p27.other W1 p46).other W4 p46).other W7 p46).other W10 p46).other W13 p46) nin0 oA0) nin0 oA0)
  have f35 := (K26.fld (K22.fld (Fld.other W13 (Fld.other W10 (Fld.other W7 (Fld.other W4 (Fld.other W1 p28 (Or.inr (oSn0 hw 18 22))) (Or.inr (oSn0 hw 18 23))) (Or.inr (oSn0 hw 18 24))) (Or.inr (oSn0 hw 18 25))) (Or.inr (oSn0 hw 18 26))) nin0 oN0) nin0 oN0)
  have f36 := (K26.fld (K22.fld (Fld.other W13 (Fld.other W10 (Fld.other W7 (Fld.other W4 (Fld.other W1 p29 (Or.inr (oSn0 hw 27 22))) (Or.inr (oSn0 hw 27 23))) (Or.inr (oSn0 hw 27 24))) (Or.inr (oSn0 hw 27 25))) (Or.inr (oSn0 hw 27 26))) nin0 oN0) nin0 oN0)
  have f37 := (K26.arr (K22.arr (((((p30.other W1 p49).other W4 p49).other W7 p49).other W10 p49).other W13 p49) nin0 oA0) nin0 oA0)
  have f38 := (K26.fld (K22.fld (Fld.other W13 (Fld.other W10 (Fld.other W7 (Fld.other W4 (Fld.other W1 p31 (Or.inr (oSn0 hw 10 22))) (Or.inr (oSn0 hw 10 23))) (Or.inr (oSn0 hw 10 24))) (Or.inr (oSn0 hw 10 25))) (Or.inr (oSn0 hw 10 26))) nin0 oN0) nin0 oN0)
  have f39 := (K26.arr (K22.arr (((((p32.other W1 p52).other W4 p52).other W7 p52).other W10 p52).other W13 p52) nin0 oA0) nin0 oA0)
  have f40 := (K26.fld (K22.fld (Fld.other W13 (Fld.other W10 (Fld.other W7 (Fld.other W4 (Fld.other W1 p33 (Or.inr (oSn0 hw 11 22))) (Or.inr (oSn0 hw 11 23))) (Or.inr (oSn0 hw 11 24))) (Or.inr (oSn0 hw 11 25))) (Or.inr (oSn0 hw 11 26))) nin0 oN0) nin0 oN0)
  have f41 := (K26.arr (K22.arr (((((p34.other W1 p53).other W4 p53).other W7 p53).other W10 p53).other W13 p53) nin0 oA0) nin0 oA0)
  have f42 := (K26.fld (K22.fld (Fld.other W13 (Fld.other W10 (Fld.other W7 (Fld.other W4 (Fld.other W1 p35 (Or.inr (oSn0 hw 12 22))) (Or.inr (oSn0 hw 12 23))) (Or.inr (oSn0 hw 12 24))) (Or.inr (oSn0 hw 12 25))) (Or.inr (oSn0 hw 12 26))) nin0 oN0) nin0 oN0)
  have f43 := (K26.arr (K22.arr (((((p36.other W1 p54).other W4 p54).other W7 p54).other W10 p54).other W13 p54) nin0 oA0) nin0 oA0)
  have f44 := (K26.fld (K22.fld (Fld.other W13 (Fld.other W10 (Fld.other W7 (Fld.other W4 (Fld.other W1 p37 (Or.inr (oSn0 hw 13 22))) (Or.inr (oSn0 hw 13 23))) (Or.inr (oSn0 hw 13 24))) (Or.inr (oSn0 hw 13 25))) (Or.inr (oSn0 hw 13 26))) nin0 oN0) nin0 oN0)
  have f45 := (K26.arr (K22.arr (((((p38.other W1 p55).other W4 p55).other W7 p55).other W10 p55).other W13 p55) nin0 oA0) nin0 oA0)
  have f46 := (K26.fld (K22.fld (Fld.other W13 (Fld.other W10 (Fld.other W7 (Fld.other W4 (Fld.other W1 p39 (Or.inr (oSn0 hw 14 22))) (Or.inr (oSn0 hw 14 23))) (Or.inr (oSn0 hw 14 24))) (Or.inr (oSn0 hw 14 25))) (Or.inr (oSn0 hw 14 26))) nin0 oN0) nin0 oN0)
  have f47 := (K26.arr (K22.arr (((((p40.other W1 p56).other W4 p56).other W7 p56).other W10 p56).other W13 p56) nin0 oA0) nin0 oA0)
  have f48 := (K26.fld (K22.fld (Fld.other W13 (Fld.other W10 (Fld.other W7 (Fld.other W4 (Fld.other W1 p41 (Or.inr (oSn0 hw 28 22))) (Or.inr (oSn0 hw 28 23))) (Or.inr (oSn0 hw 28 24))) (Or.inr (oSn0 hw 28 25))) (Or.inr (oSn0 hw 28 26))) nin0 oN0) nin0 oN0)
  have f49 := (K26.fld (K22.fld (Fld.other W13 (Fld.other W10 (Fld.other W7 (Fld.other W4 (Fld.other W1 p42 (Or.inr (oSn0 hw 16 22))) (Or.inr (oSn0 hw 16 23))) (Or.inr (oSn0 hw 16 24))) (Or.inr (oSn0 hw 16 25))) (Or.inr (oSn0 hw 16 26))) nin0 oN0) nin0 oN0)
  have f50 := (K26.arr (K22.arr (((((p43.other W1 p98).other W4 p98).other W7 p98).other W10 p98).other W13 p98) nin0 oA0) nin0 oA0)
  have f51 := (K26.fld (K22.fld (Fld.other W13 (Fld.other W10 (Fld.other W7 (Fld.other W4 (Fld.other W1 p44 (Or.inr (oSn0 hw 17 22))) (Or.inr (oSn0 hw 17 23))) (Or.inr (oSn0 hw 17 24))) (Or.inr (oSn0 hw 17 25))) (Or.inr (oSn0 hw 17 26))) nin0 oN0) nin0 oN0)
  have f52 := (K26.arr (K22.arr (((((p45.other W1 p99).other W4 p99).other W7 p99).other W10 p99).other W13 p99) nin0 oA0) nin0 oA0)
  have z54 := (Nat.le_trans z27 K26.1)
  refine oCallP C (w104 hw) (w106 hw) (w4 hw) (w105 hw) (w5 hw) (w107 hw) d9_119 f32 (by decide) pd_477193 rfl rfl (a := b1) (argsL := [.int 0, .long 0, .long 0, .int 1, .int (-1), .int 2]) (rest := []) rfl (W := 0) rfl (q := 122) rfl (by decide) (by decide) (by decide) (by decide) (ac12_52 l Z a0 hw _ n0 z54 b1 y2 b10 b11 b12 b13 b14 b15 b16 b17 b18 f30 f31 hc55 f32 f33 f34 p47 f35 p48 f36 p3 f37 p50 p49 p51 f38 f39 f40 f41 f42 f43 f44 f45 f46 f47 p57 p58 p52 p59 p60 p61 p62 p53 p63 p64 p65 p66 p67 p54 p68 p69 p70 p71 p72 p73 p55 p74 p75 p76 p77 p78 p79 p80 p56 p81 p82 p83 p84 p85 p86 p87 p88 p89 p90 p91 p92 p93 p94 p95 p96 f48 p97 f49 f50 f51 f52 p100 p98 p101 p102 p103 p104 p105 p106 p107 p99 p108 p109 p110 p111 p112 p113 p114 p115 p116 p117 p118 p46 p119 p120 p121 p122 p123 p124 p125 p126 p127 p128 p129 p130 p131 p132 p133 p134 p135 p136 p137 p138 p139 p140 p141 p142 p143 p144) (oVQ ?_)
  rintro h53 ⟨K53, f53_0, f53_1, f53_2, f53_3, f53_4, f53_5, f53_6, f53_7, f53_8, f53_9, f53_10⟩
  refine oIinc C d9_122 rfl (z := 1) rfl (w := (3 : Int32)) (by decide) (Ls' := #[.val (.ref b1), .val (.int 2), .val (.long y2), .second, .val (.long 1), .second, .val (.int 3), .val (.int 0), .val (.long 0), .second, .val (.long 0), .second, .unset, .unset, .unset, .unset, .unset, .unset]) rfl rfl ?_
  refine oGoto C d9_125 (q := 34) (by decide) (by decide) ?_
  refine oIload C d9_34 rfl rfl ?_
  refine oAloadN C d9_36 rfl rfl rfl ?_
  have f55 := (K53.fld (K26.fld (K22.fld f14 nin0 oN0) nin0 oN0) (ninS p48 (ninS p57 (ninS p61 (ninS p66 (ninS p72 (ninS p79 (ninS p97 (ninS p115 (ninS p127 nin0))))))))) (oNF (Or.inr (oSn0 hw 1 27)) (oNF (Or.inr (oSn0 hw 1 28)) oN0)))
  refine oGetF C (w14 hw) Via.refl f55 d9_37 rfl ?_
  refine oIloadN C d9_40 rfl rfl ?_
  refine oIconst C d9_41 (z := 1) rfl rfl ?_
  refine oIadd C d9_42 rfl ?_
  refine oCastI (z' := (3 : Int32)) (by decide) ?_
  have f56 := (K53.arr (K26.arr (K22.arr f15 nin0 oA0) nin0 oA0) (ninS p153 (ninS p152 (ninS p151 (ninS p150 (ninS p149 (ninS p148 (ninS p147 (ninS p146 (ninS p145 nin0))))))))) (oAS p10 (oAS p10 oA0)))
  refine oIaload C f56 (by decide) (k := 3) rfl (v := .int 3) rfl d9_43 rfl ?_
  refine oIcmp_ge C d9_44 (q := 128) (by decide) (by decide) (r := 47) rfl (fun hc44_1 => ?_) (fun hq => absurd hq ((by decide)))
  refine oAloadN C d9_128 rfl rfl rfl ?_
  refine oGetF C (w118 hw) Via.refl f53_8 d9_129 rfl ?_
  refine oIf_le C d9_132 (q := 416) (by decide) (by decide) (r := 135) rfl (fun hq => absurd hq ((by decide))) (fun hc132 => ?_)
  refine oAloadN C d9_135 rfl rfl rfl ?_
  have f57 := (K53.fld f49 (ninS p48 (ninS p57 (ninS p61 (ninS p66 (ninS p72 (ninS p79 (ninS p97 (ninS p115 (ninS p127 nin0))))))))) (oNF (Or.inr (oSn0 hw 16 27)) (oNF (Or.inr (oSn0 hw 16 28)) oN0)))
  refine oGetF C (w49 hw) Via.refl f57 d9_136 rfl ?_
  refine oIconst C d9_139 (z := 0) rfl rfl ?_
  refine oIaload C f53_9 (by decide) (k := 0) rfl (v := .int 0) rfl d9_140 rfl ?_
  refine oIstore C d9_141 (Ls' := #[.val (.ref b1), .val (.int 2), .val (.long y2), .second, .val (.long 1), .second, .val (.int 0), .val (.int 0), .val (.long 0), .second, .val (.long 0), .second, .unset, .unset, .unset, .unset, .unset, .unset]) rfl (q := 143) rfl ?_
  refine oAloadN C d9_143 rfl rfl rfl ?_
  refine oAloadN C d9_144 rfl rfl rfl ?_
  have f58 := (K53.fld f38 (ninS p48 (ninS p57 (ninS p61 (ninS p66 (ninS p72 (ninS p79 (ninS p97 (ninS p115 (ninS p127 nin0))))))))) (oNF (Or.inr (oSn0 hw 10 27)) (oNF (Or.inr (oSn0 hw 10 28)) oN0)))
  refine oGetF C (w36 hw) Via.refl f58 d9_145 rfl ?_
  refine oIload C d9_148 rfl rfl ?_
  refine oLaload C f53_3 (by decide) (k := 0) rfl (v := .long 0) rfl d9_150 rfl ?_
  refine oAloadN C d9_151 rfl rfl rfl ?_
  have f59 := (K53.fld f40 (ninS p48 (ninS p57 (ninS p61 (ninS p66 (ninS p72 (ninS p79 (ninS p97 (ninS p115 (ninS p127 nin0))))))))) (oNF (Or.inr (oSn0 hw 11 27)) (oNF (Or.inr (oSn0 hw 11 28)) oN0)))
  refine oGetF C (w38 hw) Via.refl f59 d9_152 rfl ?_
  refine oIload C d9_155 rfl rfl ?_
  refine oLaload C f53_4 (by decide) (k := 0) rfl (v := .long 0) rfl d9_157 rfl ?_
  refine oAloadN C d9_158 rfl rfl rfl ?_
  have f60 := (K53.fld f42 (ninS p48 (ninS p57 (ninS p61 (ninS p66 (ninS p72 (ninS p79 (ninS p97 (ninS p115 (ninS p127 nin0))))))))) (oNF (Or.inr (oSn0 hw 12 27)) (oNF (Or.inr (oSn0 hw 12 28)) oN0)))
  refine oGetF C (w40 hw) Via.refl f60 d9_159 rfl ?_
  refine oIload C d9_162 rfl rfl ?_
  refine oIaload C f53_5 (by decide) (k := 0) rfl (v := .int 1) rfl d9_164 rfl ?_
  refine oIconst C d9_165 (z := 1) rfl rfl ?_
  refine oIsub C d9_166 rfl ?_
  refine oCastI (z' := (0 : Int32)) (by decide) ?_
  have f61 := (K53.fld f30 (ninS p48 (ninS p57 (ninS p61 (ninS p66 (ninS p72 (ninS p79 (ninS p97 (ninS p115 (ninS p127 nin0))))))))) (oNF (Or.inr (oSn0 hw 22 27)) (oNF (Or.inr (oSn0 hw 22 28)) oN0)))
  have f62 := (K53.fld f31 (ninS p48 (ninS p57 (ninS p61 (ninS p66 (ninS p72 (ninS p79 (ninS p97 (ninS p115 (ninS p127 nin0))))))))) (oNF (Or.inr (oSn0 hw 23 27)) (oNF (Or.inr (oSn0 hw 23 28)) oN0)))
  have f64 := (K53.exa f32)
  have z65 := (Nat.le_trans z54 K53.1)
  refine oCallP C (w108 hw) (w110 hw) (w4 hw) (w109 hw) (w5 hw) (w111 hw) d9_167 f64 (by decide) pd_379829 rfl rfl (a := b1) (argsL := [.long 0, .long 0, .int 0]) (rest := []) rfl (W := 0) rfl (q := 170) rfl (by decide) (by decide) (by decide) (by decide) (ac13_51 l Z a0 hw _ n0 z65 b1 y2 f61 f62 hc55) (oRQ ?_)
  rintro h63 K63
  refine oIf_le C d9_170 (q := 174) (by decide) (by decide) (r := 173) rfl (fun hc170 => ?_) (fun hq => absurd hq ((by decide)))
  refine oAloadN C d9_174 rfl rfl rfl ?_
  have f66 := (K63.fld f53_8 nin0 oN0)
  have f67 := (K63.exa f64)
  have z69 := (Nat.le_trans z65 K63.1)
  refine oCallP C (w128 hw) (w130 hw) (w4 hw) (w129 hw) (w5 hw) (w131 hw) d9_175 f67 (by decide) pd_428486 rfl rfl (a := b1) (argsL := []) (rest := []) rfl (W := 0) rfl (q := 178) rfl (by decide) (by decide) (by decide) (by decide) (ac17_20 l Z a0 hw _ n0 z69 b1 f66 f67 p3) (oVQ ?_)
  rintro h68 ⟨K68, f68_0⟩
  refine oAloadN C d9_178 rfl rfl rfl ?_
  have f70 := (K68.fld (K63.fld (K53.fld f33 (ninS p48 (ninS p57 (ninS p61 (ninS p66 (ninS p72 (ninS p79 (ninS p97 (ninS p115 (ninS p127 nin0))))))))) (oNF (Or.inr (oSn0 hw 15 27)) (oNF (Or.inr (oSn0 hw 15 28)) oN0))) nin0 oN0) nin0 (oNF (Or.inr (oSn0 hw 15 28)) oN0))
  refine oGetF C (w47 hw) Via.refl f70 d9_179 rfl ?_
  refine oIload C d9_182 rfl rfl ?_
  refine oIconst C d9_184 (z := 2) rfl rfl ?_
  have f71 := (K68.arr (K63.arr f53_0 nin0 oA0) nin0 (oAS p46 oA0))
  refine oBastore C f71 (by decide) (k := 0) rfl (v := .int 1) rfl (v' := .int 2) rfl d9_185 rfl p47 fun h72 W72 A72 => ?_
  have A72l : oAr Z h72 b10 .byte [.int 2, .int 0] := A72
  refine oAloadN C d9_186 rfl rfl rfl ?_
  have f73 := (Fld.other W72 (K68.fld (K63.fld (K53.fld (K26.fld (K22.fld (Fld.other W13 (Fld.other W10 (Fld.other W7 (Fld.other W4 (Fld.other W1 p154 (Or.inr (oSn0 hw 6 22))) (Or.inr (oSn0 hw 6 23))) (Or.inr (oSn0 hw 6 24))) (Or.inr (oSn0 hw 6 25))) (Or.inr (oSn0 hw 6 26))) nin0 oN0) nin0 oN0) (ninS p48 (ninS p57 (ninS p61 (ninS p66 (ninS p72 (ninS p79 (ninS p97 (ninS p115 (ninS p127 nin0))))))))) (oNF (Or.inr (oSn0 hw 6 27)) (oNF (Or.inr (oSn0 hw 6 28)) oN0))) nin0 oN0) nin0 (oNF (Or.inr (oSn0 hw 6 28)) oN0)) (Or.inl p48))
  refine oGetF C (w24 hw) Via.refl f73 d9_187 rfl ?_
  refine oIload C d9_190 rfl rfl ?_
  have f74 := ((K68.arr (K63.arr (K53.arr (K26.arr (K22.arr (((((p155.other W1 p156).other W4 p156).other W7 p156).other W10 p156).other W13 p156) nin0 oA0) nin0 oA0) (ninS p165 (ninS p164 (ninS p163 (ninS p162 (ninS p161 (ninS p160 (ninS p159 (ninS p158 (ninS p157 nin0))))))))) (oAS p156 (oAS p156 oA0))) nin0 oA0) nin0 (oAS p156 oA0)).other W72 p165)
  refine oIaload C f74 (by decide) (k := 0) rfl (v := .int 1) rfl d9_192 rfl ?_
  refine oIstore C d9_193 (Ls' := #[.val (.ref b1), .val (.int 2), .val (.long y2), .second, .val (.long 1), .second, .val (.int 0), .val (.int 1), .val (.long 0), .second, .val (.long 0), .second, .unset, .unset, .unset, .unset, .unset, .unset]) rfl (q := 195) rfl ?_
  refine oIload C d9_195 rfl rfl ?_
  refine oIconst C d9_197 (z := (-1)) rfl rfl ?_
  refine oIcmp_ne C d9_198 (q := 234) (by decide) (by decide) (r := 201) rfl (fun hc198 => ?_) (fun hq => absurd hq ((by decide)))
  refine oAloadN C d9_234 rfl rfl rfl ?_
  have f75 := (Fld.other W72 (K68.fld (K63.fld f58 nin0 oN0) nin0 (oNF (Or.inr (oSn0 hw 10 28)) oN0)) (Or.inl p48))
  refine oGetF C (w36 hw) Via.refl f75 d9_235 rfl ?_
  refine oIload C d9_238 rfl rfl ?_
  have f76 := ((K68.arr (K63.arr f53_3 nin0 oA0) nin0 (oAS p52 oA0)).other W72 p58)
  refine oLaload C f76 (by decide) (k := 0) rfl (v := .long 0) rfl d9_240 rfl ?_
  refine oAloadN C d9_241 rfl rfl rfl ?_
  have f77 := (Fld.other W72 (K68.fld (K63.fld (K53.fld (K26.fld (K22.fld (Fld.other W13 (Fld.other W10 (Fld.other W7 (Fld.other W4 (Fld.other W1 p166 (Or.inr (oSn0 hw 7 22))) (Or.inr (oSn0 hw 7 23))) (Or.inr (oSn0 hw 7 24))) (Or.inr (oSn0 hw 7 25))) (Or.inr (oSn0 hw 7 26))) nin0 oN0) nin0 oN0) (ninS p48 (ninS p57 (ninS p61 (ninS p66 (ninS p72 (ninS p79 (ninS p97 (ninS p115 (ninS p127 nin0))))))))) (oNF (Or.inr (oSn0 hw 7 27)) (oNF (Or.inr (oSn0 hw 7 28)) oN0))) nin0 oN0) nin0 (oNF (Or.inr (oSn0 hw 7 28)) oN0)) (Or.inl p48))
  refine oGetF C (w30 hw) Via.refl f77 d9_242 rfl ?_
  refine oIload C d9_245 rfl rfl ?_
  have f78 := ((K68.arr (K63.arr (K53.arr (K26.arr (K22.arr (((((p167.other W1 p168).other W4 p168).other W7 p168).other W10 p168).other W13 p168) nin0 oA0) nin0 oA0) (ninS p177 (ninS p176 (ninS p175 (ninS p174 (ninS p173 (ninS p172 (ninS p171 (ninS p170 (ninS p169 nin0))))))))) (oAS p168 (oAS p168 oA0))) nin0 oA0) nin0 (oAS p168 oA0)).other W72 p177)
  refine oLaload C f78 (by decide) (k := 1) rfl (v := .long y21) rfl d9_247 rfl ?_
  have z80 := (Nat.le_trans (Nat.le_trans z69 K68.1) (Nat.le_of_eq W72.size.symm))
  refine oCallSH C (w97 hw) (w98 hw) (w99 hw) (w100 hw) d9_248 (by decide) pd_212481 rfl rfl (argsL := [.long 0, .long y21]) (rest := []) rfl (W := 0) rfl (q := 251) rfl (by decide) (by decide) (by decide) (by decide) (ac10_22 l Z a0 hw _ n0 z80 y21 p178) (oRQ ?_)
  rintro h79 K79
  refine oLstore C d9_251 (Ls' := #[.val (.ref b1), .val (.int 2), .val (.long y2), .second, .val (.long 1), .second, .val (.int 0), .val (.int 1), .val (.long y21), .second, .val (.long 0), .second, .unset, .unset, .unset, .unset, .unset, .unset]) rfl (q := 253) rfl ?_
  refine oAloadN C d9_253 rfl rfl rfl ?_
  have f81 := (K79.fld (Fld.other W72 (K68.fld (K63.fld f59 nin0 oN0) nin0 (oNF (Or.inr (oSn0 hw 11 28)) oN0)) (Or.inl p48)) nin0 oN0)
  refine oGetF C (w38 hw) Via.refl f81 d9_254 rfl ?_
  refine oIload C d9_257 rfl rfl ?_
  have f82 := (K79.arr ((K68.arr (K63.arr f53_4 nin0 oA0) nin0 (oAS p53 oA0)).other W72 p62) nin0 oA0)
  refine oLaload C f82 (by decide) (k := 0) rfl (v := .long 0) rfl d9_259 rfl ?_
  refine oAloadN C d9_260 rfl rfl rfl ?_
  have f83 := (K79.fld (Fld.other W72 (K68.fld (K63.fld (K53.fld (K26.fld (K22.fld (Fld.other W13 (Fld.other W10 (Fld.other W7 (Fld.other W4 (Fld.other W1 p179 (Or.inr (oSn0 hw 8 22))) (Or.inr (oSn0 hw 8 23))) (Or.inr (oSn0 hw 8 24))) (Or.inr (oSn0 hw 8 25))) (Or.inr (oSn0 hw 8 26))) nin0 oN0) nin0 oN0) (ninS p48 (ninS p57 (ninS p61 (ninS p66 (ninS p72 (ninS p79 (ninS p97 (ninS p115 (ninS p127 nin0))))))))) (oNF (Or.inr (oSn0 hw 8 27)) (oNF (Or.inr (oSn0 hw 8 28)) oN0))) nin0 oN0) nin0 (oNF (Or.inr (oSn0 hw 8 28)) oN0)) (Or.inl p48)) nin0 oN0)
  refine oGetF C (w32 hw) Via.refl f83 d9_261 rfl ?_
  refine oIload C d9_264 rfl rfl ?_
  have f84 := (K79.arr ((K68.arr (K63.arr (K53.arr (K26.arr (K22.arr (((((p180.other W1 p181).other W4 p181).other W7 p181).other W10 p181).other W13 p181) nin0 oA0) nin0 oA0) (ninS p190 (ninS p189 (ninS p188 (ninS p187 (ninS p186 (ninS p185 (ninS p184 (ninS p183 (ninS p182 nin0))))))))) (oAS p181 (oAS p181 oA0))) nin0 oA0) nin0 (oAS p181 oA0)).other W72 p190) nin0 oA0)
  refine oLaload C f84 (by decide) (k := 1) rfl (v := .long 1) rfl d9_266 rfl ?_
  refine oLadd C d9_267 rfl ?_
  refine oCastL (z' := (1 : Int64)) (by decide) ?_
  refine oLstore C d9_268 (Ls' := #[.val (.ref b1), .val (.int 2), .val (.long y2), .second, .val (.long 1), .second, .val (.int 0), .val (.int 1), .val (.long y21), .second, .val (.long 1), .second, .unset, .unset, .unset, .unset, .unset, .unset]) rfl (q := 270) rfl ?_
  refine oAloadN C d9_270 rfl rfl rfl ?_
  refine oLload C d9_271 rfl rfl ?_
  refine oLload C d9_273 rfl rfl ?_
  refine oAloadN C d9_275 rfl rfl rfl ?_
  have f85 := (K79.fld (Fld.other W72 (K68.fld (K63.fld f60 nin0 oN0) nin0 (oNF (Or.inr (oSn0 hw 12 28)) oN0)) (Or.inl p48)) nin0 oN0)
  refine oGetF C (w40 hw) Via.refl f85 d9_276 rfl ?_
  refine oIload C d9_279 rfl rfl ?_
  have f86 := (K79.arr ((K68.arr (K63.arr f53_5 nin0 oA0) nin0 (oAS p54 oA0)).other W72 p67) nin0 oA0)
  refine oIaload C f86 (by decide) (k := 0) rfl (v := .int 1) rfl d9_281 rfl ?_
  refine oIload C d9_282 rfl rfl ?_
  refine oIconst C d9_284 (z := 1) rfl rfl ?_
  have f87 := (K79.fld (Fld.other W72 (K68.fld (K63.fld f61 nin0 oN0) nin0 (oNF (Or.inr (oSn0 hw 22 28)) oN0)) (Or.inl p48)) nin0 oN0)
  have f88 := (K79.fld (Fld.other W72 (K68.fld (K63.fld f62 nin0 oN0) nin0 (oNF (Or.inr (oSn0 hw 23 28)) oN0)) (Or.inl p48)) nin0 oN0)
  have f89 := (K79.fld (Fld.other W72 (K68.fld (K63.fld (K53.fld (K26.fld (K22.fld (Fld.other W13 (Fld.other W10 f7w (Or.inr (oSn0 hw 24 25))) (Or.inr (oSn0 hw 24 26))) nin0 oN0) nin0 oN0) (ninS p48 (ninS p57 (ninS p61 (ninS p66 (ninS p72 (ninS p79 (ninS p97 (ninS p115 (ninS p127 nin0))))))))) (oNF (Or.inr (oSn0 hw 24 27)) (oNF (Or.inr (oSn0 hw 24 28)) oN0))) nin0 oN0) nin0 (oNF (Or.inr (oSn0 hw 24 28)) oN0)) (Or.inl p48)) nin0 oN0)
  have f90 := (K79.exa (Exa.wr W72 (K68.exa f67)))
  have z92 := (Nat.le_trans z80 K79.1)
  refine oCallP C (w132 hw) (w134 hw) (w4 hw) (w133 hw) (w5 hw) (w135 hw) d9_285 f90 (by decide) pd_461805 rfl rfl (a := b1) (argsL := [.long y21, .long 1, .int 1, .int 0, .int 1]) (rest := []) rfl (W := 0) rfl (q := 288) rfl (by decide) (by decide) (by decide) (by decide) (ac18_60 l Z a0 hw _ n0 z92 b1 y21 y2 f87 f88 f89 p191 f90 f88 f90) (oVQ ?_)
  rintro h91 K91
  refine oAloadN C d9_288 rfl rfl rfl ?_
  have f93 := (K91.fld (K79.fld (Fld.other W72 (K68.fld (K63.fld f55 nin0 oN0) nin0 (oNF (Or.inr (oSn0 hw 1 28)) oN0)) (Or.inl p48)) nin0 oN0) nin0 oN0)
  refine oGetF C (w14 hw) Via.refl f93 d9_289 rfl ?_
  refine oIload C d9_292 rfl rfl ?_
  have f94 := (K91.arr (K79.arr ((K68.arr (K63.arr f56 nin0 oA0) nin0 (oAS p10 oA0)).other W72 p153) nin0 oA0) nin0 oA0)
  refine oIaload C f94 (by decide) (k := 1) rfl (v := .int 1) rfl d9_294 rfl ?_
  refine oIstore C d9_295 (Ls' := #[.val (.ref b1), .val (.int 2), .val (.long y2), .second, .val (.long 1), .second, .val (.int 0), .val (.int 1), .val (.long y21), .second, .val (.long 1), .second, .val (.int 1), .unset, .unset, .unset, .unset, .unset]) rfl (q := 297) rfl ?_
  refine oIload C d9_297 rfl rfl ?_
  refine oAloadN C d9_299 rfl rfl rfl ?_
  refine oGetF C (w14 hw) Via.refl f93 d9_300 rfl ?_
  refine oIload C d9_303 rfl rfl ?_
  refine oIconst C d9_305 (z := 1) rfl rfl ?_
  refine oIadd C d9_306 rfl ?_
  refine oCastI (z' := (2 : Int32)) (by decide) ?_
  refine oIaload C f94 (by decide) (k := 2) rfl (v := .int 2) rfl d9_307 rfl ?_
  refine oIcmp_ge C d9_308 (q := 413) (by decide) (by decide) (r := 311) rfl (fun hq => absurd hq ((by decide))) (fun hc308 => ?_)
  refine oAloadN C d9_311 rfl rfl rfl ?_
  have f95 := (K91.fld (K79.fld (Fld.other W72 (K68.fld (K63.fld (K53.fld (K26.fld (K22.fld f18 nin0 oN0) nin0 oN0) (ninS p48 (ninS p57 (ninS p61 (ninS p66 (ninS p72 (ninS p79 (ninS p97 (ninS p115 (ninS p127 nin0))))))))) (oNF (Or.inr (oSn0 hw 2 27)) (oNF (Or.inr (oSn0 hw 2 28)) oN0))) nin0 oN0) nin0 (oNF (Or.inr (oSn0 hw 2 28)) oN0)) (Or.inl p48)) nin0 oN0) nin0 oN0)
  refine oGetF C (w16 hw) Via.refl f95 d9_312 rfl ?_
  refine oIload C d9_315 rfl rfl ?_
  have f96 := (K91.arr (K79.arr ((K68.arr (K63.arr (K53.arr (K26.arr (K22.arr f19 nin0 oA0) nin0 oA0) (ninS p200 (ninS p199 (ninS p198 (ninS p197 (ninS p196 (ninS p195 (ninS p194 (ninS p193 (ninS p192 nin0))))))))) (oAS p17 (oAS p17 oA0))) nin0 oA0) nin0 (oAS p17 oA0)).other W72 p200) nin0 oA0) nin0 oA0)
  refine oIaload C f96 (by decide) (k := 1) rfl (v := .int 0) rfl d9_317 rfl ?_
  refine oIstore C d9_318 (Ls' := #[.val (.ref b1), .val (.int 2), .val (.long y2), .second, .val (.long 1), .second, .val (.int 0), .val (.int 1), .val (.long y21), .second, .val (.long 1), .second, .val (.int 1), .val (.int 0), .unset, .unset, .unset, .unset]) rfl (q := 320) rfl ?_
  refine oAloadN C d9_320 rfl rfl rfl ?_
  have f97 := (K91.fld (K79.fld (Fld.other W72 f70 (Or.inl p48)) nin0 oN0) nin0 oN0)
  refine oGetF C (w47 hw) Via.refl f97 d9_321 rfl ?_
  refine oIload C d9_324 rfl rfl ?_
  have f98 := (K91.arr (K79.arr A72l nin0 oA0) nin0 oA0)
  refine oBaload C f98 (by decide) (k := 0) rfl (v := .int 2) rfl d9_326 rfl ?_
  refine oIconst C d9_327 (z := 2) rfl rfl ?_
  refine oIcmp_eq C d9_328 (q := 407) (by decide) (by decide) (r := 331) rfl (fun hc328 => ?_) (fun hq => absurd hq ((by decide)))
  refine oIinc C d9_407 rfl (z := 1) rfl (w := (2 : Int32)) (by decide) (Ls' := #[.val (.ref b1), .val (.int 2), .val (.long y2), .second, .val (.long 1), .second, .val (.int 0), .val (.int 1), .val (.long y21), .second, .val (.long 1), .second, .val (.int 2), .val (.int 0), .unset, .unset, .unset, .unset]) rfl rfl ?_
  refine oGoto C d9_410 (q := 297) (by decide) (by decide) ?_
  refine oIload C d9_297 rfl rfl ?_
  refine oAloadN C d9_299 rfl rfl rfl ?_
  refine oGetF C (w14 hw) Via.refl f93 d9_300 rfl ?_
  refine oIload C d9_303 rfl rfl ?_
  refine oIconst C d9_305 (z := 1) rfl rfl ?_
  refine oIadd C d9_306 rfl ?_
  refine oCastI (z' := (2 : Int32)) (by decide) ?_
  refine oIaload C f94 (by decide) (k := 2) rfl (v := .int 2) rfl d9_307 rfl ?_
  refine oIcmp_ge C d9_308 (q := 413) (by decide) (by decide) (r := 311) rfl (fun hc308_1 => ?_) (fun hq => absurd hq ((by decide)))
  refine oGoto C d9_413 (q := 128) (by decide) (by decide) ?_
  refine oAloadN C d9_128 rfl rfl rfl ?_
  have f99 := (K91.fld (K79.fld (Fld.other W72 f68_0 (Or.inl p48)) nin0 oN0) nin0 oN0)
  refine oGetF C (w118 hw) Via.refl f99 d9_129 rfl ?_
  refine oIf_le C d9_132 (q := 416) (by decide) (by decide) (r := 135) rfl (fun hc132_1 => ?_) (fun hq => absurd hq ((by decide)))
  refine oRetV C d9_416 (by decide) (by decide) ?_
  have f100 := (K91.fld f87 nin0 oN0)
  have f101 := (K91.fld f88 nin0 oN0)
  have f102 := (K91.fld f89 nin0 oN0)
  have f103 := (K91.fld (K79.fld (Fld.other W72 (K68.fld (K63.fld (K53.fld (K26.fld (K22.fld (Fld.other W13 f10w (Or.inr (oSn0 hw 25 26))) nin0 oN0) nin0 oN0) (ninS p48 (ninS p57 (ninS p61 (ninS p66 (ninS p72 (ninS p79 (ninS p97 (ninS p115 (ninS p127 nin0))))))))) (oNF (Or.inr (oSn0 hw 25 27)) (oNF (Or.inr (oSn0 hw 25 28)) oN0))) nin0 oN0) nin0 (oNF (Or.inr (oSn0 hw 25 28)) oN0)) (Or.inl p48)) nin0 oN0) nin0 oN0)
  have f104 := (K91.fld (K79.fld (Fld.other W72 (K68.fld (K63.fld (K53.fld (K26.fld (K22.fld f13w nin0 oN0) nin0 oN0) (ninS p48 (ninS p57 (ninS p61 (ninS p66 (ninS p72 (ninS p79 (ninS p97 (ninS p115 (ninS p127 nin0))))))))) (oNF (Or.inr (oSn0 hw 26 27)) (oNF (Or.inr (oSn0 hw 26 28)) oN0))) nin0 oN0) nin0 (oNF (Or.inr (oSn0 hw 26 28)) oN0)) (Or.inl p48)) nin0 oN0) nin0 oN0)
  have f105 := (K91.fld (K79.fld (Fld.other W72 (K68.fld (K63.fld f53_1 nin0 oN0) nin0 (oNF (Or.inr (oSn0 hw 27 28)) oN0)) (Or.inl p48)) nin0 oN0) nin0 oN0)
  have f106 := (K91.arr (K79.arr ((K68.arr (K63.arr f53_2 nin0 oA0) nin0 (oAS p49 oA0)).other W72 p50) nin0 oA0) nin0 oA0)
  have f107 := (K91.arr (K79.arr f76 nin0 oA0) nin0 oA0)
  have f108 := (K91.arr f82 nin0 oA0)
  have f109 := (K91.arr f86 nin0 oA0)
  have f110 := (K91.arr (K79.arr ((K68.arr (K63.arr f53_6 nin0 oA0) nin0 (oAS p55 oA0)).other W72 p73) nin0 oA0) nin0 oA0)
  have f111 := (K91.arr (K79.arr ((K68.arr (K63.arr f53_7 nin0 oA0) nin0 (oAS p56 oA0)).other W72 p80) nin0 oA0) nin0 oA0)
  have f112 := (K91.arr (K79.arr ((K68.arr (K63.arr f53_9 nin0 oA0) nin0 (oAS p98 oA0)).other W72 p100) nin0 oA0) nin0 oA0)
  have f113 := (K91.arr (K79.arr ((K68.arr (K63.arr f53_10 nin0 oA0) nin0 (oAS p99 oA0)).other W72 p107) nin0 oA0) nin0 oA0)
  exact ⟨rfl, ((((((((((((((oKe.refl h0 [b10, b11, b12, b13, b14, b15, b16, b17, b18] [(b1, Jvm.RoadKit.slotOf Z cU "sinkMoney" "J"), (b1, Jvm.RoadKit.slotOf Z cU "sinkSales" "J"), (b1, Jvm.RoadKit.slotOf Z cU "sinkMoves" "I"), (b1, Jvm.RoadKit.slotOf Z cU "sinkEnd" "I"), (b1, Jvm.RoadKit.slotOf Z cU "sinkGoesWithout" "Z"), (b1, Jvm.RoadKit.slotOf Z cU "touchedCount" "I"), (b1, Jvm.RoadKit.slotOf Z cU "heapSize" "I")]).wrF W1 (Or.inl (List.mem_of_getElem? (i := 0) rfl))).wrF W4 (Or.inl (List.mem_of_getElem? (i := 1) rfl))).wrF W7 (Or.inl (List.mem_of_getElem? (i := 2) rfl))).wrF W10 (Or.inl (List.mem_of_getElem? (i := 3) rfl))).wrF W13 (Or.inl (List.mem_of_getElem? (i := 4) rfl))).trans K22 all0 oA0).trans K26 all0 oA0).trans K53 (allS (Or.inl (List.mem_of_getElem? (i := 0) rfl)) (allS (Or.inl (List.mem_of_getElem? (i := 1) rfl)) (allS (Or.inl (List.mem_of_getElem? (i := 2) rfl)) (allS (Or.inl (List.mem_of_getElem? (i := 3) rfl)) (allS (Or.inl (List.mem_of_getElem? (i := 4) rfl)) (allS (Or.inl (List.mem_of_getElem? (i := 5) rfl)) (allS (Or.inl (List.mem_of_getElem? (i := 6) rfl)) (allS (Or.inl (List.mem_of_getElem? (i := 7) rfl)) (allS (Or.inl (List.mem_of_getElem? (i := 8) rfl)) all0))))))))) (oAS (Or.inl (List.mem_of_getElem? (i := 5) rfl)) (oAS (Or.inl (List.mem_of_getElem? (i := 6) rfl)) oA0))).trans K63 all0 oA0).trans K68 all0 (oAS (Or.inl (List.mem_of_getElem? (i := 6) rfl)) oA0)).wrA W72 (Or.inl (List.mem_of_getElem? (i := 0) rfl))).trans K79 all0 oA0).trans K91 all0 oA0), f100, f101, f102, f103, f104, f98, f105, f106, f107, f108, f109, f110, f111, f99, f112, f113⟩
set_option maxRecDepth 65536 in
set_option maxHeartbeats 40000000 in
theorem ac19_62 (l : Launch) (Z : State) (a0 : Array Value) (hw : oHw a0 Z) (h0 : Heap) (n0 : Nat) (Z0 : n0 ≤ h0.size) (b1 : Addr) (y2 : Int64) (b3 : Addr) (b4 : Addr) (b5 : Addr) (b6 : Addr) (b7 : Addr) (b8 : Addr) (b9 : Addr) (b10 : Addr) (b11 : Addr) (y12 : Int64) (b13 : Addr) (p1 : Fld Z h0 b1 cU "touchedCount" "I" (.int 1)) (p2 : Fld Z h0 b1 cU "touched" "[I" (.ref b3)) (p3 : oAr Z h0 b3 .int [.int 0, .int 0]) (p4 : Fld Z h0 b1 cU "mark" "[B" (.ref b4)) (p5 : oAr Z h0 b4 .byte [.int 2, .int 0]) (p6 : Fld Z h0 b1 cU "sinkMoney" "J" (.long y2)) (p7 : Fld Z h0 b1 cU "distMoney" "[J" (.ref b5)) (p8 : oAr Z h0 b5 .long [.long 0, .long 0]) (p9 : ¬ ((y2 ^^^ (0 : Int64)) &&& (y2 ^^^ (y2 - (0 : Int64)))) < (0 : Int64)) (p10 : Fld Z h0 b1 cU "sinkSales" "J" (.long 1)) (p11 : Fld Z h0 b1 cU "distSales" "[J" (.ref b6)) (p12 : oAr Z h0 b6 .long [.long 0, .long 0]) (p13 : Fld Z h0 b1 cU "changed" "[Z" (.ref b7)) (p14 : oAr Z h0 b7 .boolean [.int 1, .int 0]) (p15 : Exa Z h0 b1 cU) (p16 : Fld Z h0 b1 cU "priceMoney" "[J" (.ref b8)) (p17 : oAr Z h0 b8 .long [.long 0, .long 0]) (p18 : ¬ (((0 : Int64) ^^^ ((0 : Int64) + y2)) &&& (y2 ^^^ ((0 : Int64) + y2))) < (0 : Int64)) (p19 : n0 ≤ b8) (p20 : Fld Z h0 b1 cU "priceSales" "[J" (.ref b9)) (p21 : b1 ≠ b8) (p22 : oAr Z h0 b9 .long [.long 0, .long 0]) (p23 : b9 ≠ b8) (p24 : n0 ≤ b9) (p25 : Fld Z h0 b1 cU "holder" "[I" (.ref b10)) (p26 : b1 ≠ b9) (p27 : oAr Z h0 b10 .int [.int 1, .int (-1)]) (p28 : b10 ≠ b8) (p29 : b10 ≠ b9) (p30 : Fld Z h0 b1 cU "utilityMoney" "[J" (.ref b11)) (p31 : oAr Z h0 b11 .long [.long 0, .long y12, .long 0]) (p32 : b11 ≠ b8) (p33 : b11 ≠ b9) (p34 : n0 ≤ b11) (p35 : Fld Z h0 b1 cU "utilitySales" "[J" (.ref b13)) (p36 : b1 ≠ b11) (p37 : oAr Z h0 b13 .long [.long 0, .long 1, .long 0]) (p38 : b13 ≠ b8) (p39 : b13 ≠ b9) (p40 : b13 ≠ b11) (p41 : n0 ≤ b13) (p42 : b1 ≠ b13) (p43 : b11 ≠ b13) (p44 : b8 ≠ b9) (p45 : b8 ≠ b11) (p46 : b8 ≠ b13) (p47 : b9 ≠ b11) (p48 : b9 ≠ b13) :
    oMet l Z (⟨cU, "raisePrices", "(IJJ)V"⟩ : MethodName) prog_54_method_21_code 13 none [] ({ frames := 1, cells := 0, slots := 0, locals := 19 } : Room) 0 0 n0 #[.ref b1, .int 2, .long y2, .long 1] h0 (fun v h => v = none ∧ oKe h0 h [b8, b9, b11, b13] [] ∧ oAr Z h b8 .long [.long y2, .long 0] ∧ oAr Z h b9 .long [.long 1, .long 0] ∧ oAr Z h b11 .long [.long 0, .long (y12 - y2), .long 0] ∧ oAr Z h b13 .long [.long 0, .long 0, .long 0]) := by
  refine oMet.intro (plainFor_of_name pn_944982) (fun m => ef_19 m b1 (2 : Int32) y2 (1 : Int64)) ?_
  intro op oe os m obl omt ocd C
  refine oIconst C d19_0 (z := 0) rfl rfl ?_
  refine oIstore C d19_1 (Ls' := #[.val (.ref b1), .val (.int 2), .val (.long y2), .second, .val (.long 1), .second, .val (.int 0), .unset, .unset, .unset, .unset, .unset, .unset]) rfl (q := 3) rfl ?_
  refine oIload C d19_3 rfl rfl ?_
  refine oAloadN C d19_5 rfl rfl rfl ?_
  refine oGetF C (w112 hw) Via.refl p1 d19_6 rfl ?_
  refine oIcmp_ge C d19_9 (q := 164) (by decide) (by decide) (r := 12) rfl (fun hq => absurd hq ((by decide))) (fun hc9 => ?_)
  refine oAloadN C d19_12 rfl rfl rfl ?_
  refine oGetF C (w53 hw) Via.refl p2 d19_13 rfl ?_
  refine oIload C d19_16 rfl rfl ?_
  refine oIaload C p3 (by decide) (k := 0) rfl (v := .int 0) rfl d19_18 rfl ?_
  refine oIstore C d19_19 (Ls' := #[.val (.ref b1), .val (.int 2), .val (.long y2), .second, .val (.long 1), .second, .val (.int 0), .val (.int 0), .unset, .unset, .unset, .unset, .unset]) rfl (q := 21) rfl ?_
  refine oAloadN C d19_21 rfl rfl rfl ?_
  refine oGetF C (w47 hw) Via.refl p4 d19_22 rfl ?_
  refine oIload C d19_25 rfl rfl ?_
  refine oBaload C p5 (by decide) (k := 0) rfl (v := .int 2) rfl d19_27 rfl ?_
  refine oIconst C d19_28 (z := 2) rfl rfl ?_
  refine oIcmp_eq C d19_29 (q := 35) (by decide) (by decide) (r := 32) rfl (fun hc29 => ?_) (fun hq => absurd hq ((by decide)))
  refine oAloadN C d19_35 rfl rfl rfl ?_
  refine oGetF C (w87 hw) Via.refl p6 d19_36 rfl ?_
  refine oAloadN C d19_39 rfl rfl rfl ?_
  refine oGetF C (w36 hw) Via.refl p7 d19_40 rfl ?_
  refine oIload C d19_43 rfl rfl ?_
  refine oLaload C p8 (by decide) (k := 0) rfl (v := .long 0) rfl d19_45 rfl ?_
  refine oCallS C (w65 hw) (w66 hw) (w67 hw) (w68 hw) d19_46 (by decide) pd_212481 rfl rfl (argsL := [.long y2, .long 0]) (rest := []) rfl (W := 0) rfl (q := 49) rfl (by decide) (by decide) (by decide) (by decide) (ac5_3 l Z a0 hw _ n0 Z0 y2 p9) (oRQ ?_)
  rintro h1 K1
  refine oCastL (z' := y2) (own_sub0 _) ?_
  refine oLstore C d19_49 (Ls' := #[.val (.ref b1), .val (.int 2), .val (.long y2), .second, .val (.long 1), .second, .val (.int 0), .val (.int 0), .val (.long y2), .second, .unset, .unset, .unset]) rfl (q := 51) rfl ?_
  refine oAloadN C d19_51 rfl rfl rfl ?_
  have f2 := (K1.fld p10 nin0 oN0)
  refine oGetF C (w89 hw) Via.refl f2 d19_52 rfl ?_
  refine oAloadN C d19_55 rfl rfl rfl ?_
  have f3 := (K1.fld p11 nin0 oN0)
  refine oGetF C (w38 hw) Via.refl f3 d19_56 rfl ?_
  refine oIload C d19_59 rfl rfl ?_
  have f4 := (K1.arr p12 nin0 oA0)
  refine oLaload C f4 (by decide) (k := 0) rfl (v := .long 0) rfl d19_61 rfl ?_
  refine oLsub C d19_62 rfl ?_
  refine oCastL (z' := (1 : Int64)) (by decide) ?_
  refine oLstore C d19_63 (Ls' := #[.val (.ref b1), .val (.int 2), .val (.long y2), .second, .val (.long 1), .second, .val (.int 0), .val (.int 0), .val (.long y2), .second, .val (.long 1), .second, .unset]) rfl (q := 65) rfl ?_
  refine oJoin (α := Unit) (fun _ => True) (fun _ => h1) (fun _ => (mkF m 82 #[.val (.ref b1), .val (.int 2), .val (.long y2), .second, .val (.long 1), .second, .val (.int 0), .val (.int 0), .val (.long y2), .second, .val (.long 1), .second, .unset] [])) (k := 0) (n := 0) (fun _ _ => ?_) (fun J82 => ?_)
  ·
   show oW _ _ _ _ _ _ _ _ _ _ _ _ _ _ _ (mkF m 82 #[.val (.ref b1), .val (.int 2), .val (.long y2), .second, .val (.long 1), .second, .val (.int 0), .val (.int 0), .val (.long y2), .second, .val (.long 1), .second, .unset] [])
   refine oAloadN C d19_82 rfl rfl rfl ?_
   refine oIload C d19_83 rfl rfl ?_
   have f5 := (K1.fld p13 nin0 oN0)
   have f6 := (K1.arr p14 nin0 oA0)
   have f8 := (K1.exa p15)
   have z9 := (Nat.le_trans Z0 K1.1)
   refine oCallP C (w140 hw) (w142 hw) (w4 hw) (w141 hw) (w5 hw) (w143 hw) d19_85 f8 (by decide) pd_674841 rfl rfl (a := b1) (argsL := [.int 0]) (rest := []) rfl (W := 0) rfl (q := 88) rfl (by decide) (by decide) (by decide) (by decide) (ac20_30 l Z a0 hw _ n0 z9 b1 b7 f5 f6) (oVQ ?_)
   rintro h7 K7
   refine oAloadN C d19_88 rfl rfl rfl ?_
   have f10 := (K7.fld (K1.fld p16 nin0 oN0) nin0 oN0)
   refine oGetF C (w20 hw) Via.refl f10 d19_89 rfl ?_
   refine oIload C d19_92 rfl rfl ?_
   refine oAloadN C d19_94 rfl rfl rfl ?_
   refine oGetF C (w20 hw) Via.refl f10 d19_95 rfl ?_
   refine oIload C d19_98 rfl rfl ?_
   have f11 := (K7.arr (K1.arr p17 nin0 oA0) nin0 oA0)
   refine oLaload C f11 (by decide) (k := 0) rfl (v := .long 0) rfl d19_100 rfl ?_
   refine oLload C d19_101 rfl rfl ?_
   have z13 := (Nat.le_trans z9 K7.1)
   refine oCallS C (w146 hw) (w102 hw) (w67 hw) (w103 hw) d19_103 (by decide) pd_212481 rfl rfl (argsL := [.long 0, .long y2]) (rest := [.int 0, .ref b8]) rfl (W := 2) rfl (q := 106) rfl (by decide) (by decide) (by decide) (by decide) (ac11_21 l Z a0 hw _ n0 z13 y2 p18) (oRQ ?_)
   rintro h12 K12
   refine oCastL (z' := y2) (own_0add _) ?_
   have f14 := (K12.arr f11 nin0 oA0)
   refine oLastore C f14 (by decide) (k := 0) rfl (v := .long 0) rfl (v' := .long y2) rfl d19_106 rfl p19 fun h15 W15 A15 => ?_
   have A15l : oAr Z h15 b8 .long [.long y2, .long 0] := A15
   refine oAloadN C d19_107 rfl rfl rfl ?_
   have f16 := (Fld.other W15 (K12.fld (K7.fld (K1.fld p20 nin0 oN0) nin0 oN0) nin0 oN0) (Or.inl p21))
   refine oGetF C (w22 hw) Via.refl f16 d19_108 rfl ?_
   refine oIload C d19_111 rfl rfl ?_
   refine oDup2 C d19_113 rfl rfl rfl ?_
   have f17 := ((K12.arr (K7.arr (K1.arr p22 nin0 oA0) nin0 oA0) nin0 oA0).other W15 p23)
   refine oLaload C f17 (by decide) (k := 0) rfl (v := .long 0) rfl d19_114 rfl ?_
   refine oLload C d19_115 rfl rfl ?_
   refine oLadd C d19_117 rfl ?_
   refine oCastL (z' := (1 : Int64)) (by decide) ?_
   refine oLastore C f17 (by decide) (k := 0) rfl (v := .long 0) rfl (v' := .long 1) rfl d19_118 rfl p24 fun h18 W18 A18 => ?_
   have A18l : oAr Z h18 b9 .long [.long 1, .long 0] := A18
   refine oAloadN C d19_119 rfl rfl rfl ?_
   have f19 := (Fld.other W18 (Fld.other W15 (K12.fld (K7.fld (K1.fld p25 nin0 oN0) nin0 oN0) nin0 oN0) (Or.inl p21)) (Or.inl p26))
   refine oGetF C (w24 hw) Via.refl f19 d19_120 rfl ?_
   refine oIload C d19_123 rfl rfl ?_
   have f20 := (((K12.arr (K7.arr (K1.arr p27 nin0 oA0) nin0 oA0) nin0 oA0).other W15 p28).other W18 p29)
   refine oIaload C f20 (by decide) (k := 0) rfl (v := .int 1) rfl d19_125 rfl ?_
   refine oIstore C d19_126 (Ls' := #[.val (.ref b1), .val (.int 2), .val (.long y2), .second, .val (.long 1), .second, .val (.int 0), .val (.int 0), .val (.long y2), .second, .val (.long 1), .second, .val (.int 1)]) rfl (q := 128) rfl ?_
   refine oIload C d19_128 rfl rfl ?_
   refine oIconst C d19_130 (z := (-1)) rfl rfl ?_
   refine oIcmp_eq C d19_131 (q := 158) (by decide) (by decide) (r := 134) rfl (fun hq => absurd hq ((by decide))) (fun hc131 => ?_)
   refine oAloadN C d19_134 rfl rfl rfl ?_
   have f21 := (Fld.other W18 (Fld.other W15 (K12.fld (K7.fld (K1.fld p30 nin0 oN0) nin0 oN0) nin0 oN0) (Or.inl p21)) (Or.inl p26))
   refine oGetF C (w30 hw) Via.refl f21 d19_135 rfl ?_
   refine oIload C d19_138 rfl rfl ?_
   refine oDup2 C d19_140 rfl rfl rfl ?_
   have f22 := (((K12.arr (K7.arr (K1.arr p31 nin0 oA0) nin0 oA0) nin0 oA0).other W15 p32).other W18 p33)
   refine oLaload C f22 (by decide) (k := 1) rfl (v := .long y12) rfl d19_141 rfl ?_
   refine oLload C d19_142 rfl rfl ?_
   refine oLsub C d19_144 rfl ?_
   refine oLastore C f22 (by decide) (k := 1) rfl (v := .long y12) rfl (v' := .long (y12 - y2)) rfl d19_145 rfl p34 fun h23 W23 A23 => ?_
   have A23l : oAr Z h23 b11 .long [.long 0, .long (y12 - y2), .long 0] := A23
   refine oAloadN C d19_146 rfl rfl rfl ?_
   have f24 := (Fld.other W23 (Fld.other W18 (Fld.other W15 (K12.fld (K7.fld (K1.fld p35 nin0 oN0) nin0 oN0) nin0 oN0) (Or.inl p21)) (Or.inl p26)) (Or.inl p36))
   refine oGetF C (w32 hw) Via.refl f24 d19_147 rfl ?_
   refine oIload C d19_150 rfl rfl ?_
   refine oDup2 C d19_152 rfl rfl rfl ?_
   have f25 := ((((K12.arr (K7.arr (K1.arr p37 nin0 oA0) nin0 oA0) nin0 oA0).other W15 p38).other W18 p39).other W23 p40)
   refine oLaload C f25 (by decide) (k := 1) rfl (v := .long 1) rfl d19_153 rfl ?_
   refine oLload C d19_154 rfl rfl ?_
   refine oLsub C d19_156 rfl ?_
   refine oCastL (z' := (0 : Int64)) (by decide) ?_
   refine oLastore C f25 (by decide) (k := 1) rfl (v := .long 1) rfl (v' := .long 0) rfl d19_157 rfl p41 fun h26 W26 A26 => ?_
   have A26l : oAr Z h26 b13 .long [.long 0, .long 0, .long 0] := A26
   refine oIinc C d19_158 rfl (z := 1) rfl (w := (1 : Int32)) (by decide) (Ls' := #[.val (.ref b1), .val (.int 2), .val (.long y2), .second, .val (.long 1), .second, .val (.int 1), .val (.int 0), .val (.long y2), .second, .val (.long 1), .second, .val (.int 1)]) rfl rfl ?_
   refine oGoto C d19_161 (q := 3) (by decide) (by decide) ?_
   refine oIload C d19_3 rfl rfl ?_
   refine oAloadN C d19_5 rfl rfl rfl ?_
   have f27 := (Fld.other W26 (Fld.other W23 (Fld.other W18 (Fld.other W15 (K12.fld (K7.fld (K1.fld p1 nin0 oN0) nin0 oN0) nin0 oN0) (Or.inl p21)) (Or.inl p26)) (Or.inl p36)) (Or.inl p42))
   refine oGetF C (w112 hw) Via.refl f27 d19_6 rfl ?_
   refine oIcmp_ge C d19_9 (q := 164) (by decide) (by decide) (r := 12) rfl (fun hc9_1 => ?_) (fun hq => absurd hq ((by decide)))
   refine oAloadN C d19_164 rfl rfl rfl ?_
   have f28 := (Fld.other W26 (Fld.other W23 f21 (Or.inl p36)) (Or.inl p42))
   refine oGetF C (w30 hw) Via.refl f28 d19_165 rfl ?_
   refine oIloadN C d19_168 rfl rfl ?_
   refine oLloadN C d19_169 rfl rfl ?_
   refine oAloadN C d19_170 rfl rfl rfl ?_
   have f29 := (Fld.other W26 (Fld.other W23 (Fld.other W18 (Fld.other W15 (K12.fld (K7.fld (K1.fld p6 nin0 oN0) nin0 oN0) nin0 oN0) (Or.inl p21)) (Or.inl p26)) (Or.inl p36)) (Or.inl p42))
   refine oGetF C (w87 hw) Via.refl f29 d19_171 rfl ?_
   refine oLsub C d19_174 rfl ?_
   refine oCastL (z' := (0 : Int64)) (own_subs _) ?_
   have f30 := (A23l.other W26 p43)
   refine oLastore C f30 (by decide) (k := 2) rfl (v := .long 0) rfl (v' := .long 0) rfl d19_175 rfl p34 fun h31 W31 A31 => ?_
   have A31l : oAr Z h31 b11 .long [.long 0, .long (y12 - y2), .long 0] := A31
   refine oAloadN C d19_176 rfl rfl rfl ?_
   have f32 := (Fld.other W31 (Fld.other W26 f24 (Or.inl p42)) (Or.inl p36))
   refine oGetF C (w32 hw) Via.refl f32 d19_177 rfl ?_
   refine oIloadN C d19_180 rfl rfl ?_
   refine oLload C d19_181 rfl rfl ?_
   refine oAloadN C d19_183 rfl rfl rfl ?_
   have f33 := (Fld.other W31 (Fld.other W26 (Fld.other W23 (Fld.other W18 (Fld.other W15 (K12.fld (K7.fld f2 nin0 oN0) nin0 oN0) (Or.inl p21)) (Or.inl p26)) (Or.inl p36)) (Or.inl p42)) (Or.inl p36))
   refine oGetF C (w89 hw) Via.refl f33 d19_184 rfl ?_
   refine oLsub C d19_187 rfl ?_
   refine oCastL (z' := (0 : Int64)) (by decide) ?_
   have f34 := (A26l.other W31 p40)
   refine oLastore C f34 (by decide) (k := 2) rfl (v := .long 0) rfl (v' := .long 0) rfl d19_188 rfl p41 fun h35 W35 A35 => ?_
   have A35l : oAr Z h35 b13 .long [.long 0, .long 0, .long 0] := A35
   refine oRetV C d19_189 (by decide) (by decide) ?_
   have f36 := (((((A15l.other W18 p44).other W23 p45).other W26 p46).other W31 p45).other W35 p46)
   have f37 := ((((A18l.other W23 p47).other W26 p48).other W31 p47).other W35 p48)
   have f38 := (A31l.other W35 p43)
   exact ⟨rfl, ((((((((((oKe.refl h0 [b8, b9, b11, b13] []).trans K1 all0 oA0).trans K7 all0 oA0).trans K12 all0 oA0).wrA W15 (Or.inl (List.mem_of_getElem? (i := 0) rfl))).wrA W18 (Or.inl (List.mem_of_getElem? (i := 1) rfl))).wrA W23 (Or.inl (List.mem_of_getElem? (i := 2) rfl))).wrA W26 (Or.inl (List.mem_of_getElem? (i := 3) rfl))).wrA W31 (Or.inl (List.mem_of_getElem? (i := 2) rfl))).wrA W35 (Or.inl (List.mem_of_getElem? (i := 3) rfl))), f36, f37, f38, A35l⟩
  ·
   refine oLload C d19_65 rfl rfl ?_
   refine oLconst C d19_67 (z := 0) rfl rfl ?_
   refine oLcmp_ne C d19_68 rfl d19_69 (q := 82) (by decide) (by decide) (r := 72) rfl (fun hc68 => ?_) (fun hc68 => ?_)
   ·
    exact J82 () trivial
   ·
    refine oLload C d19_72 rfl rfl ?_
    refine oLconst C d19_74 (z := 0) rfl rfl ?_
    refine oLcmp_ne C d19_75 rfl d19_76 (q := 82) (by decide) (by decide) (r := 79) rfl (fun hc75 => ?_) (fun hq => absurd hq ((by decide)))
    exact J82 () trivial
theorem d21_10 : decode prog_54_method_22_code 10 = .ok (.return_, 1) := by decide +kernel
set_option maxRecDepth 65536 in
set_option maxHeartbeats 40000000 in
theorem ac21_63 (l : Launch) (Z : State) (a0 : Array Value) (hw : oHw a0 Z) (h0 : Heap) (n0 : Nat) (Z0 : n0 ≤ h0.size) (b1 : Addr) (p1 : Fld Z h0 b1 cU "sinkEnd" "I" (.int (-1))) :
    oMet l Z (⟨cU, "handOver", "(I)V"⟩ : MethodName) prog_54_method_22_code 5 none [] ({ frames := 0, cells := 0, slots := 0, locals := 0 } : Room) 0 0 n0 #[.ref b1, .int 2] h0 (fun v h => v = none ∧ oKe h0 h [] []) := by
  refine oMet.intro (plainFor_of_name pn_944982) (fun m => ef_21 m b1 (2 : Int32)) ?_
  intro op oe os m obl omt ocd C
  refine oAloadN C d21_0 rfl rfl rfl ?_
  refine oGetF C (w93 hw) Via.refl p1 d21_1 rfl ?_
  refine oIstoreN C d21_4 (Ls' := #[.val (.ref b1), .val (.int 2), .val (.int (-1)), .unset, .unset]) rfl (q := 5) rfl ?_
  refine oIloadN C d21_5 rfl rfl ?_
  refine oIconst C d21_6 (z := (-1)) rfl rfl ?_
  refine oIcmp_ne C d21_7 (q := 11) (by decide) (by decide) (r := 10) rfl (fun hq => absurd hq ((by decide))) (fun hc7 => ?_)
  refine oRetV C d21_10 (by decide) (by decide) ?_
  exact ⟨rfl, (oKe.refl h0 [] [])⟩
theorem d8_117 : decode prog_54_method_14_code 117 = .ok (.lload 4, 2) := by decide +kernel
theorem d8_119 : decode prog_54_method_14_code 119 = .ok (.lconst 0, 1) := by decide +kernel
theorem d8_120 : decode prog_54_method_14_code 120 = .ok (.lcmp, 1) := by decide +kernel
theorem d8_121 : decode prog_54_method_14_code 121 = .ok (.ifCond .ne 4, 3) := by decide +kernel
set_option maxRecDepth 65536 in
set_option maxHeartbeats 40000000 in
theorem ac8_64 (l : Launch) (Z : State) (a0 : Array Value) (hw : oHw a0 Z) (h0 : Heap) (n0 : Nat) (Z0 : n0 ≤ h0.size) (b1 : Addr) (b2 : Addr) (b3 : Addr) (y4 : Int64) (y5 : Int64) (y6 : Int64) (b7 : Addr) (b8 : Addr) (b9 : Addr) (b10 : Addr) (b11 : Addr) (b12 : Addr) (b13 : Addr) (b14 : Addr) (b15 : Addr) (b16 : Addr) (b17 : Addr) (b18 : Addr) (b19 : Addr) (b20 : Addr) (y21 : Int64) (b22 : Addr) (b23 : Addr) (p1 : Exa Z h0 b1 cU) (p2 : Fld Z h0 b1 cU "displaced" "I" (.int 0)) (p3 : n0 ≤ b1) (p4 : Fld Z h0 b1 cU "offerStart" "[I" (.ref b2)) (p5 : oAr Z h0 b2 .int [.int 0, .int 1, .int 2, .int 3]) (p6 : b2 ≠ b1) (p7 : Fld Z h0 b1 cU "offerWeight" "[J" (.ref b3)) (p8 : oAr Z h0 b3 .long [.long y4, .long y5, .long y6]) (p9 : b3 ≠ b1) (p10 : ¬ y6 < (0 : Int64)) (p11 : Fld Z h0 b1 cU "offerItem" "[I" (.ref b7)) (p12 : oAr Z h0 b7 .int [.int 0, .int 0, .int 0]) (p13 : b7 ≠ b1) (p14 : Fld Z h0 b1 cU "priceMoney" "[J" (.ref b8)) (p15 : oAr Z h0 b8 .long [.long 0, .long 0]) (p16 : b8 ≠ b1) (p17 : ¬ ((y6 ^^^ (0 : Int64)) &&& (y6 ^^^ (y6 - (0 : Int64)))) < (0 : Int64)) (p18 : Fld Z h0 b1 cU "priceSales" "[J" (.ref b9)) (p19 : oAr Z h0 b9 .long [.long 0, .long 0]) (p20 : b9 ≠ b1) (p21 : Fld Z h0 b1 cU "searches" "I" (.int 1)) (p22 : Fld Z h0 b1 cU "sinkMoney" "J" (.long y4)) (p23 : Fld Z h0 b1 cU "sinkSales" "J" (.long 1)) (p24 : Fld Z h0 b1 cU "sinkMoves" "I" (.int 1)) (p25 : Fld Z h0 b1 cU "sinkEnd" "I" (.int 0)) (p26 : Fld Z h0 b1 cU "sinkGoesWithout" "Z" (.int 1)) (p27 : Fld Z h0 b1 cU "mark" "[B" (.ref b10)) (p28 : oAr Z h0 b10 .byte [.int 0, .int 0]) (p29 : Fld Z h0 b1 cU "touched" "[I" (.ref b11)) (p30 : Fld Z h0 b1 cU "touchedCount" "I" (.int 0)) (p31 : oAr Z h0 b11 .int [.int 0, .int 0]) (p32 : Fld Z h0 b1 cU "distMoney" "[J" (.ref b12)) (p33 : oAr Z h0 b12 .long [.long 0, .long 0]) (p34 : Fld Z h0 b1 cU "distSales" "[J" (.ref b13)) (p35 : oAr Z h0 b13 .long [.long 0, .long 0]) (p36 : Fld Z h0 b1 cU "hops" "[I" (.ref b14)) (p37 : oAr Z h0 b14 .int [.int 1, .int 0]) (p38 : Fld Z h0 b1 cU "pred" "[I" (.ref b15)) (p39 : oAr Z h0 b15 .int [.int (-1), .int 0]) (p40 : Fld Z h0 b1 cU "predOffer" "[I" (.ref b16)) (p41 : oAr Z h0 b16 .int [.int 1, .int 0]) (p42 : Fld Z h0 b1 cU "heapSize" "I" (.int 0)) (p43 : Fld Z h0 b1 cU "heap" "[I" (.ref b17)) (p44 : oAr Z h0 b17 .int [.int 0, .int 0]) (p45 : Fld Z h0 b1 cU "heapIndex" "[I" (.ref b18)) (p46 : oAr Z h0 b18 .int [.int 0, .int 0]) (p47 : Fld Z h0 b1 cU "holder" "[I" (.ref b19)) (p48 : oAr Z h0 b19 .int [.int 1, .int (-1)]) (p49 : Fld Z h0 b1 cU "utilityMoney" "[J" (.ref b20)) (p50 : oAr Z h0 b20 .long [.long 0, .long y21, .long 0]) (p51 : Fld Z h0 b1 cU "utilitySales" "[J" (.ref b22)) (p52 : oAr Z h0 b22 .long [.long 0, .long 1, .long 0]) (p53 : ¬ ((y6 ^^^ (y6 + (0 : Int64))) &&& ((0 : Int64) ^^^ (y6 + (0 : Int64)))) < (0 : Int64)) (p54 : ¬ ((y6 ^^^ y6) &&& (y6 ^^^ (y6 - y6))) < (0 : Int64)) (p55 : b10 ≠ b1) (p56 : b11 ≠ b1) (p57 : b12 ≠ b1) (p58 : b13 ≠ b1) (p59 : b14 ≠ b1) (p60 : b15 ≠ b1) (p61 : b16 ≠ b1) (p62 : b17 ≠ b1) (p63 : b18 ≠ b1) (p64 : n0 ≤ b10) (p65 : b1 ≠ b10) (p66 : b11 ≠ b10) (p67 : n0 ≤ b11) (p68 : b1 ≠ b11) (p69 : b12 ≠ b10) (p70 : b12 ≠ b11) (p71 : n0 ≤ b12) (p72 : b1 ≠ b12) (p73 : b13 ≠ b10) (p74 : b13 ≠ b11) (p75 : b13 ≠ b12) (p76 : n0 ≤ b13) (p77 : b1 ≠ b13) (p78 : b14 ≠ b10) (p79 : b14 ≠ b11) (p80 : b14 ≠ b12) (p81 : b14 ≠ b13) (p82 : n0 ≤ b14) (p83 : b1 ≠ b14) (p84 : b15 ≠ b10) (p85 : b15 ≠ b11) (p86 : b15 ≠ b12) (p87 : b15 ≠ b13) (p88 : b15 ≠ b14) (p89 : n0 ≤ b15) (p90 : b1 ≠ b15) (p91 : b16 ≠ b10) (p92 : b16 ≠ b11) (p93 : b16 ≠ b12) (p94 : b16 ≠ b13) (p95 : b16 ≠ b14) (p96 : b16 ≠ b15) (p97 : n0 ≤ b16) (p98 : b12 ≠ b13) (p99 : b12 ≠ b14) (p100 : b12 ≠ b15) (p101 : b12 ≠ b16) (p102 : b13 ≠ b14) (p103 : b13 ≠ b15) (p104 : b13 ≠ b16) (p105 : b14 ≠ b15) (p106 : b14 ≠ b16) (p107 : b15 ≠ b16) (p108 : b1 ≠ b16) (p109 : b17 ≠ b10) (p110 : b17 ≠ b11) (p111 : b17 ≠ b16) (p112 : b17 ≠ b15) (p113 : b17 ≠ b14) (p114 : b17 ≠ b13) (p115 : b17 ≠ b12) (p116 : b18 ≠ b10) (p117 : b18 ≠ b11) (p118 : b18 ≠ b16) (p119 : b18 ≠ b15) (p120 : b18 ≠ b14) (p121 : b18 ≠ b13) (p122 : b18 ≠ b12) (p123 : n0 ≤ b17) (p124 : b1 ≠ b17) (p125 : b18 ≠ b17) (p126 : n0 ≤ b18) (p127 : b17 ≠ b18) (p128 : b10 ≠ b11) (p129 : b10 ≠ b16) (p130 : b10 ≠ b15) (p131 : b10 ≠ b14) (p132 : b10 ≠ b13) (p133 : b10 ≠ b12) (p134 : b10 ≠ b18) (p135 : b10 ≠ b17) (p136 : b1 ≠ b18) (p137 : b11 ≠ b16) (p138 : b11 ≠ b15) (p139 : b11 ≠ b14) (p140 : b11 ≠ b13) (p141 : b11 ≠ b12) (p142 : b11 ≠ b18) (p143 : b11 ≠ b17) (p144 : b12 ≠ b18) (p145 : b12 ≠ b17) (p146 : b13 ≠ b18) (p147 : b13 ≠ b17) (p148 : b14 ≠ b18) (p149 : b14 ≠ b17) (p150 : b15 ≠ b18) (p151 : b15 ≠ b17) (p152 : b16 ≠ b18) (p153 : b16 ≠ b17) (p154 : b2 ≠ b18) (p155 : b2 ≠ b17) (p156 : b2 ≠ b16) (p157 : b2 ≠ b15) (p158 : b2 ≠ b14) (p159 : b2 ≠ b13) (p160 : b2 ≠ b12) (p161 : b2 ≠ b11) (p162 : b2 ≠ b10) (p163 : b19 ≠ b1) (p164 : b19 ≠ b18) (p165 : b19 ≠ b17) (p166 : b19 ≠ b16) (p167 : b19 ≠ b15) (p168 : b19 ≠ b14) (p169 : b19 ≠ b13) (p170 : b19 ≠ b12) (p171 : b19 ≠ b11) (p172 : b19 ≠ b10) (p173 : b20 ≠ b1) (p174 : b20 ≠ b18) (p175 : b20 ≠ b17) (p176 : b20 ≠ b16) (p177 : b20 ≠ b15) (p178 : b20 ≠ b14) (p179 : b20 ≠ b13) (p180 : b20 ≠ b12) (p181 : b20 ≠ b11) (p182 : b20 ≠ b10) (p183 : ¬ (((0 : Int64) ^^^ ((0 : Int64) + y21)) &&& (y21 ^^^ ((0 : Int64) + y21))) < (0 : Int64)) (p184 : b22 ≠ b1) (p185 : b22 ≠ b18) (p186 : b22 ≠ b17) (p187 : b22 ≠ b16) (p188 : b22 ≠ b15) (p189 : b22 ≠ b14) (p190 : b22 ≠ b13) (p191 : b22 ≠ b12) (p192 : b22 ≠ b11) (p193 : b22 ≠ b10) (p194 : ¬ y21 < y6) (p195 : b7 ≠ b18) (p196 : b7 ≠ b17) (p197 : b7 ≠ b16) (p198 : b7 ≠ b15) (p199 : b7 ≠ b14) (p200 : b7 ≠ b13) (p201 : b7 ≠ b12) (p202 : b7 ≠ b11) (p203 : b7 ≠ b10) (p204 : Fld Z h0 b1 cU "changed" "[Z" (.ref b23)) (p205 : oAr Z h0 b23 .boolean [.int 1, .int 0]) (p206 : b23 ≠ b1) (p207 : b23 ≠ b18) (p208 : b23 ≠ b17) (p209 : b23 ≠ b16) (p210 : b23 ≠ b15) (p211 : b23 ≠ b14) (p212 : b23 ≠ b13) (p213 : b23 ≠ b12) (p214 : b23 ≠ b11) (p215 : b23 ≠ b10) (p216 : b8 ≠ b18) (p217 : b8 ≠ b17) (p218 : b8 ≠ b16) (p219 : b8 ≠ b15) (p220 : b8 ≠ b14) (p221 : b8 ≠ b13) (p222 : b8 ≠ b12) (p223 : b8 ≠ b11) (p224 : b8 ≠ b10) (p225 : ¬ (((0 : Int64) ^^^ ((0 : Int64) + y6)) &&& (y6 ^^^ ((0 : Int64) + y6))) < (0 : Int64)) (p226 : n0 ≤ b8) (p227 : b1 ≠ b8) (p228 : b9 ≠ b18) (p229 : b9 ≠ b17) (p230 : b9 ≠ b16) (p231 : b9 ≠ b15) (p232 : b9 ≠ b14) (p233 : b9 ≠ b13) (p234 : b9 ≠ b12) (p235 : b9 ≠ b11) (p236 : b9 ≠ b10) (p237 : b9 ≠ b8) (p238 : n0 ≤ b9) (p239 : b1 ≠ b9) (p240 : b19 ≠ b8) (p241 : b19 ≠ b9) (p242 : b20 ≠ b8) (p243 : b20 ≠ b9) (p244 : n0 ≤ b20) (p245 : b1 ≠ b20) (p246 : b22 ≠ b8) (p247 : b22 ≠ b9) (p248 : b22 ≠ b20) (p249 : n0 ≤ b22) (p250 : b1 ≠ b22) (p251 : b20 ≠ b22) (p252 : b8 ≠ b9) (p253 : b8 ≠ b20) (p254 : b8 ≠ b22) (p255 : b9 ≠ b20) (p256 : b9 ≠ b22) (p257 : b11 ≠ b22) (p258 : b11 ≠ b20) (p259 : b11 ≠ b9) (p260 : b11 ≠ b8) (p261 : b10 ≠ b22) (p262 : b10 ≠ b20) (p263 : b10 ≠ b9) (p264 : b10 ≠ b8) (p265 : b12 ≠ b22) (p266 : b12 ≠ b20) (p267 : b12 ≠ b9) (p268 : b12 ≠ b8) (p269 : b13 ≠ b22) (p270 : b13 ≠ b20) (p271 : b13 ≠ b9) (p272 : b13 ≠ b8) (p273 : b14 ≠ b22) (p274 : b14 ≠ b20) (p275 : b14 ≠ b9) (p276 : b14 ≠ b8) (p277 : b15 ≠ b22) (p278 : b15 ≠ b20) (p279 : b15 ≠ b9) (p280 : b15 ≠ b8) (p281 : b16 ≠ b22) (p282 : b16 ≠ b20) (p283 : b16 ≠ b9) (p284 : b16 ≠ b8) (p285 : b17 ≠ b22) (p286 : b17 ≠ b20) (p287 : b17 ≠ b9) (p288 : b17 ≠ b8) (p289 : b18 ≠ b22) (p290 : b18 ≠ b20) (p291 : b18 ≠ b9) (p292 : b18 ≠ b8) :
    oMet l Z (⟨cU, "join", "(I)V"⟩ : MethodName) prog_54_method_14_code 12 none [] ({ frames := 5, cells := 0, slots := 0, locals := 103 } : Room) 0 0 n0 #[.ref b1, .int 2] h0 (fun v h => v = none ∧ oKe h0 h [b10, b11, b12, b13, b14, b15, b16, b17, b18, b8, b9, b20, b22] [(b1, Jvm.RoadKit.slotOf Z cU "displaced" "I"), (b1, Jvm.RoadKit.slotOf Z cU "searches" "I"), (b1, Jvm.RoadKit.slotOf Z cU "sinkMoney" "J"), (b1, Jvm.RoadKit.slotOf Z cU "sinkSales" "J"), (b1, Jvm.RoadKit.slotOf Z cU "sinkMoves" "I"), (b1, Jvm.RoadKit.slotOf Z cU "sinkEnd" "I"), (b1, Jvm.RoadKit.slotOf Z cU "sinkGoesWithout" "Z"), (b1, Jvm.RoadKit.slotOf Z cU "touchedCount" "I"), (b1, Jvm.RoadKit.slotOf Z cU "heapSize" "I")] ∧ Fld Z h b1 cU "displaced" "I" (.int (-1)) ∧ oAr Z h b8 .long [.long y6, .long 0] ∧ oAr Z h b9 .long [.long 1, .long 0] ∧ Fld Z h b1 cU "searches" "I" (.int 2) ∧ Fld Z h b1 cU "sinkMoney" "J" (.long y6) ∧ Fld Z h b1 cU "sinkSales" "J" (.long 1) ∧ Fld Z h b1 cU "sinkMoves" "I" (.int 0) ∧ Fld Z h b1 cU "sinkEnd" "I" (.int (-1)) ∧ Fld Z h b1 cU "sinkGoesWithout" "Z" (.int 1) ∧ oAr Z h b10 .byte [.int 0, .int 0] ∧ Fld Z h b1 cU "touchedCount" "I" (.int 0) ∧ oAr Z h b11 .int [.int 0, .int 0] ∧ oAr Z h b12 .long [.long 0, .long 0] ∧ oAr Z h b13 .long [.long 0, .long 0] ∧ oAr Z h b14 .int [.int 1, .int 0] ∧ oAr Z h b15 .int [.int (-1), .int 0] ∧ oAr Z h b16 .int [.int 2, .int 0] ∧ Fld Z h b1 cU "heapSize" "I" (.int 0) ∧ oAr Z h b17 .int [.int 0, .int 0] ∧ oAr Z h b18 .int [.int 0, .int 0] ∧ oAr Z h b20 .long [.long 0, .long (y21 - y6), .long 0] ∧ oAr Z h b22 .long [.long 0, .long 0, .long 0]) := by
  refine oMet.intro (plainFor_of_name pn_944982) (fun m => ef_8 m b1 (2 : Int32)) ?_
  intro op oe os m obl omt ocd C
  refine oAloadN C d8_0 rfl rfl rfl ?_
  refine oIconst C d8_1 (z := (-1)) rfl rfl ?_
  refine oPutF C (w12 hw) Via.refl p2 p1 (Or.inl (w13 hw)) (w4 hw) (ty := .int) (by decide) rfl rfl d8_2 rfl p3 fun h1 W1 => ?_
  have f1w := Fld.same W1 p2
  refine oLconst C d8_5 (z := 0) rfl rfl ?_
  refine oLstoreN C d8_6 (Ls' := #[.val (.ref b1), .val (.int 2), .val (.long 0), .second, .unset, .unset, .unset, .unset, .unset, .unset, .unset, .unset]) rfl (q := 7) rfl ?_
  refine oLconst C d8_7 (z := 0) rfl rfl ?_
  refine oLstore C d8_8 (Ls' := #[.val (.ref b1), .val (.int 2), .val (.long 0), .second, .val (.long 0), .second, .unset, .unset, .unset, .unset, .unset, .unset]) rfl (q := 10) rfl ?_
  refine oAloadN C d8_10 rfl rfl rfl ?_
  have f2 := (Fld.other W1 p4 (Or.inr (oSn0 hw 1 0)))
  refine oGetF C (w14 hw) Via.refl f2 d8_11 rfl ?_
  refine oIloadN C d8_14 rfl rfl ?_
  have f3 := (p5.other W1 p6)
  refine oIaload C f3 (by decide) (k := 2) rfl (v := .int 2) rfl d8_15 rfl ?_
  refine oIstore C d8_16 (Ls' := #[.val (.ref b1), .val (.int 2), .val (.long 0), .second, .val (.long 0), .second, .val (.int 2), .unset, .unset, .unset, .unset, .unset]) rfl (q := 18) rfl ?_
  refine oIload C d8_18 rfl rfl ?_
  refine oAloadN C d8_20 rfl rfl rfl ?_
  refine oGetF C (w14 hw) Via.refl f2 d8_21 rfl ?_
  refine oIloadN C d8_24 rfl rfl ?_
  refine oIconst C d8_25 (z := 1) rfl rfl ?_
  refine oIadd C d8_26 rfl ?_
  refine oCastI (z' := (3 : Int32)) (by decide) ?_
  refine oIaload C f3 (by decide) (k := 3) rfl (v := .int 3) rfl d8_27 rfl ?_
  refine oIcmp_ge C d8_28 (q := 111) (by decide) (by decide) (r := 31) rfl (fun hq => absurd hq ((by decide))) (fun hc28 => ?_)
  refine oAloadN C d8_31 rfl rfl rfl ?_
  have f4 := (Fld.other W1 p7 (Or.inr (oSn0 hw 3 0)))
  refine oGetF C (w18 hw) Via.refl f4 d8_32 rfl ?_
  refine oIload C d8_35 rfl rfl ?_
  have f5 := (p8.other W1 p9)
  refine oLaload C f5 (by decide) (k := 2) rfl (v := .long y6) rfl d8_37 rfl ?_
  refine oLconst C d8_38 (z := 0) rfl rfl ?_
  refine oLcmp_ge C d8_39 rfl d8_40 (q := 46) (by decide) (by decide) (r := 43) rfl (fun hc39 => ?_) (fun hq => absurd hq (p10))
  refine oAloadN C d8_46 rfl rfl rfl ?_
  have f6 := (Fld.other W1 p11 (Or.inr (oSn0 hw 2 0)))
  refine oGetF C (w16 hw) Via.refl f6 d8_47 rfl ?_
  refine oIload C d8_50 rfl rfl ?_
  have f7 := (p12.other W1 p13)
  refine oIaload C f7 (by decide) (k := 2) rfl (v := .int 0) rfl d8_52 rfl ?_
  refine oIstore C d8_53 (Ls' := #[.val (.ref b1), .val (.int 2), .val (.long 0), .second, .val (.long 0), .second, .val (.int 2), .val (.int 0), .unset, .unset, .unset, .unset]) rfl (q := 55) rfl ?_
  refine oAloadN C d8_55 rfl rfl rfl ?_
  refine oGetF C (w18 hw) Via.refl f4 d8_56 rfl ?_
  refine oIload C d8_59 rfl rfl ?_
  refine oLaload C f5 (by decide) (k := 2) rfl (v := .long y6) rfl d8_61 rfl ?_
  refine oAloadN C d8_62 rfl rfl rfl ?_
  have f8 := (Fld.other W1 p14 (Or.inr (oSn0 hw 4 0)))
  refine oGetF C (w20 hw) Via.refl f8 d8_63 rfl ?_
  refine oIload C d8_66 rfl rfl ?_
  have f9 := (p15.other W1 p16)
  refine oLaload C f9 (by decide) (k := 0) rfl (v := .long 0) rfl d8_68 rfl ?_
  have z11 := (Nat.le_trans Z0 (Nat.le_of_eq W1.size.symm))
  refine oCallS C (w65 hw) (w66 hw) (w67 hw) (w68 hw) d8_69 (by decide) pd_212481 rfl rfl (argsL := [.long y6, .long 0]) (rest := []) rfl (W := 0) rfl (q := 72) rfl (by decide) (by decide) (by decide) (by decide) (ac5_3 l Z a0 hw _ n0 z11 y6 p17) (oRQ ?_)
  rintro h10 K10
  refine oCastL (z' := y6) (own_sub0 _) ?_
  refine oLstore C d8_72 (Ls' := #[.val (.ref b1), .val (.int 2), .val (.long 0), .second, .val (.long 0), .second, .val (.int 2), .val (.int 0), .val (.long y6), .second, .unset, .unset]) rfl (q := 74) rfl ?_
  refine oLconst C d8_74 (z := 1) rfl rfl ?_
  refine oAloadN C d8_75 rfl rfl rfl ?_
  have f12 := (K10.fld (Fld.other W1 p18 (Or.inr (oSn0 hw 5 0))) nin0 oN0)
  refine oGetF C (w22 hw) Via.refl f12 d8_76 rfl ?_
  refine oIload C d8_79 rfl rfl ?_
  have f13 := (K10.arr (p19.other W1 p20) nin0 oA0)
  refine oLaload C f13 (by decide) (k := 0) rfl (v := .long 0) rfl d8_81 rfl ?_
  refine oLsub C d8_82 rfl ?_
  refine oCastL (z' := (1 : Int64)) (by decide) ?_
  refine oLstore C d8_83 (Ls' := #[.val (.ref b1), .val (.int 2), .val (.long 0), .second, .val (.long 0), .second, .val (.int 2), .val (.int 0), .val (.long y6), .second, .val (.long 1), .second]) rfl (q := 85) rfl ?_
  refine oLload C d8_85 rfl rfl ?_
  refine oLload C d8_87 rfl rfl ?_
  refine oLloadN C d8_89 rfl rfl ?_
  refine oLload C d8_90 rfl rfl ?_
  have z15 := (Nat.le_trans z11 K10.1)
  refine oCallS C (w69 hw) (w70 hw) (w5 hw) (w71 hw) d8_92 (by decide) pd_567728 rfl rfl (argsL := [.long y6, .long 1, .long 0, .long 0]) (rest := []) rfl (W := 0) rfl (q := 95) rfl (by decide) (by decide) (by decide) (by decide) (ac6_47 l Z a0 hw _ n0 z15 y6 hc39) (oRQ ?_)
  rintro h14 K14
  refine oIf_le C d8_95 (q := 105) (by decide) (by decide) (r := 98) rfl (fun hq => absurd hq ((by decide))) (fun hc95 => ?_)
  refine oLload C d8_98 rfl rfl ?_
  refine oLstoreN C d8_100 (Ls' := #[.val (.ref b1), .val (.int 2), .val (.long y6), .second, .val (.long 0), .second, .val (.int 2), .val (.int 0), .val (.long y6), .second, .val (.long 1), .second]) rfl (q := 101) rfl ?_
  refine oLload C d8_101 rfl rfl ?_
  refine oLstore C d8_103 (Ls' := #[.val (.ref b1), .val (.int 2), .val (.long y6), .second, .val (.long 1), .second, .val (.int 2), .val (.int 0), .val (.long y6), .second, .val (.long 1), .second]) rfl (q := 105) rfl ?_
  refine oIinc C d8_105 rfl (z := 1) rfl (w := (3 : Int32)) (by decide) (Ls' := #[.val (.ref b1), .val (.int 2), .val (.long y6), .second, .val (.long 1), .second, .val (.int 3), .val (.int 0), .val (.long y6), .second, .val (.long 1), .second]) rfl rfl ?_
  refine oGoto C d8_108 (q := 18) (by decide) (by decide) ?_
  refine oIload C d8_18 rfl rfl ?_
  refine oAloadN C d8_20 rfl rfl rfl ?_
  have f16 := (K14.fld (K10.fld f2 nin0 oN0) nin0 oN0)
  refine oGetF C (w14 hw) Via.refl f16 d8_21 rfl ?_
  refine oIloadN C d8_24 rfl rfl ?_
  refine oIconst C d8_25 (z := 1) rfl rfl ?_
  refine oIadd C d8_26 rfl ?_
  refine oCastI (z' := (3 : Int32)) (by decide) ?_
  have f17 := (K14.arr (K10.arr f3 nin0 oA0) nin0 oA0)
  refine oIaload C f17 (by decide) (k := 3) rfl (v := .int 3) rfl d8_27 rfl ?_
  refine oIcmp_ge C d8_28 (q := 111) (by decide) (by decide) (r := 31) rfl (fun hc28_1 => ?_) (fun hq => absurd hq ((by decide)))
  refine oJoin (α := Unit) (fun _ => True) (fun _ => h14) (fun _ => (mkF m 125 #[.val (.ref b1), .val (.int 2), .val (.long y6), .second, .val (.long 1), .second, .val (.int 3), .val (.int 0), .val (.long y6), .second, .val (.long 1), .second] [])) (k := 0) (n := 0) (fun _ _ => ?_) (fun J125 => ?_)
  ·
   show oW _ _ _ _ _ _ _ _ _ _ _ _ _ _ _ (mkF m 125 #[.val (.ref b1), .val (.int 2), .val (.long y6), .second, .val (.long 1), .second, .val (.int 3), .val (.int 0), .val (.long y6), .second, .val (.long 1), .second] [])
   refine oAloadN C d8_125 rfl rfl rfl ?_
   refine oDup C d8_126 rfl rfl ?_
   have f18 := (K14.fld (K10.fld (Fld.other W1 p21 (Or.inr (oSn0 hw 21 0))) nin0 oN0) nin0 oN0)
   refine oGetF C (w81 hw) Via.refl f18 d8_127 rfl ?_
   refine oIconst C d8_130 (z := 1) rfl rfl ?_
   refine oIadd C d8_131 rfl ?_
   refine oCastI (z' := (2 : Int32)) (by decide) ?_
   have f19 := (K14.exa (K10.exa (Exa.wr W1 p1)))
   refine oPutF C (w81 hw) Via.refl f18 f19 (Or.inl (w82 hw)) (w4 hw) (ty := .int) (by decide) rfl rfl d8_132 rfl p3 fun h20 W20 => ?_
   have f20w := Fld.same W20 f18
   refine oAloadN C d8_135 rfl rfl rfl ?_
   refine oIloadN C d8_136 rfl rfl ?_
   refine oLloadN C d8_137 rfl rfl ?_
   refine oLload C d8_138 rfl rfl ?_
   have f21 := (Exa.wr W20 f19)
   have f22 := (Fld.other W20 (K14.fld (K10.fld (Fld.other W1 p22 (Or.inr (oSn0 hw 22 0))) nin0 oN0) nin0 oN0) (Or.inr (oSn0 hw 22 21)))
   have f23 := (Fld.other W20 (K14.fld (K10.fld (Fld.other W1 p23 (Or.inr (oSn0 hw 23 0))) nin0 oN0) nin0 oN0) (Or.inr (oSn0 hw 23 21)))
   have f24 := (Fld.other W20 (K14.fld (K10.fld (Fld.other W1 p24 (Or.inr (oSn0 hw 24 0))) nin0 oN0) nin0 oN0) (Or.inr (oSn0 hw 24 21)))
   have f25 := (Fld.other W20 (K14.fld (K10.fld (Fld.other W1 p25 (Or.inr (oSn0 hw 25 0))) nin0 oN0) nin0 oN0) (Or.inr (oSn0 hw 25 21)))
   have f26 := (Fld.other W20 (K14.fld (K10.fld (Fld.other W1 p26 (Or.inr (oSn0 hw 26 0))) nin0 oN0) nin0 oN0) (Or.inr (oSn0 hw 26 21)))
   have f27 := (Fld.other W20 f16 (Or.inr (oSn0 hw 1 21)))
   have f28 := (f17.other W20 p6)
   have f29 := (Fld.other W20 (K14.fld (K10.fld f4 nin0 oN0) nin0 oN0) (Or.inr (oSn0 hw 3 21)))
   have f30 := ((K14.arr (K10.arr f5 nin0 oA0) nin0 oA0).other W20 p9)
   have f31 := (Fld.other W20 (K14.fld (K10.fld f6 nin0 oN0) nin0 oN0) (Or.inr (oSn0 hw 2 21)))
   have f32 := ((K14.arr (K10.arr f7 nin0 oA0) nin0 oA0).other W20 p13)
   have f33 := (Fld.other W20 (K14.fld (K10.fld f8 nin0 oN0) nin0 oN0) (Or.inr (oSn0 hw 4 21)))
   have f34 := ((K14.arr (K10.arr f9 nin0 oA0) nin0 oA0).other W20 p16)
   have f35 := (Fld.other W20 (K14.fld f12 nin0 oN0) (Or.inr (oSn0 hw 5 21)))
   have f36 := ((K14.arr f13 nin0 oA0).other W20 p20)
   have f37 := (Fld.other W20 (K14.fld (K10.fld (Fld.other W1 p27 (Or.inr (oSn0 hw 15 0))) nin0 oN0) nin0 oN0) (Or.inr (oSn0 hw 15 21)))
   have f38 := ((K14.arr (K10.arr (p28.other W1 p55) nin0 oA0) nin0 oA0).other W20 p55)
   have f39 := (Fld.other W20 (K14.fld (K10.fld (Fld.other W1 p29 (Or.inr (oSn0 hw 18 0))) nin0 oN0) nin0 oN0) (Or.inr (oSn0 hw 18 21)))
   have f40 := (Fld.other W20 (K14.fld (K10.fld (Fld.other W1 p30 (Or.inr (oSn0 hw 27 0))) nin0 oN0) nin0 oN0) (Or.inr (oSn0 hw 27 21)))
   have f41 := ((K14.arr (K10.arr (p31.other W1 p56) nin0 oA0) nin0 oA0).other W20 p56)
   have f42 := (Fld.other W20 (K14.fld (K10.fld (Fld.other W1 p32 (Or.inr (oSn0 hw 10 0))) nin0 oN0) nin0 oN0) (Or.inr (oSn0 hw 10 21)))
   have f43 := ((K14.arr (K10.arr (p33.other W1 p57) nin0 oA0) nin0 oA0).other W20 p57)
   have f44 := (Fld.other W20 (K14.fld (K10.fld (Fld.other W1 p34 (Or.inr (oSn0 hw 11 0))) nin0 oN0) nin0 oN0) (Or.inr (oSn0 hw 11 21)))
   have f45 := ((K14.arr (K10.arr (p35.other W1 p58) nin0 oA0) nin0 oA0).other W20 p58)
   have f46 := (Fld.other W20 (K14.fld (K10.fld (Fld.other W1 p36 (Or.inr (oSn0 hw 12 0))) nin0 oN0) nin0 oN0) (Or.inr (oSn0 hw 12 21)))
   have f47 := ((K14.arr (K10.arr (p37.other W1 p59) nin0 oA0) nin0 oA0).other W20 p59)
   have f48 := (Fld.other W20 (K14.fld (K10.fld (Fld.other W1 p38 (Or.inr (oSn0 hw 13 0))) nin0 oN0) nin0 oN0) (Or.inr (oSn0 hw 13 21)))
   have f49 := ((K14.arr (K10.arr (p39.other W1 p60) nin0 oA0) nin0 oA0).other W20 p60)
   have f50 := (Fld.other W20 (K14.fld (K10.fld (Fld.other W1 p40 (Or.inr (oSn0 hw 14 0))) nin0 oN0) nin0 oN0) (Or.inr (oSn0 hw 14 21)))
   have f51 := ((K14.arr (K10.arr (p41.other W1 p61) nin0 oA0) nin0 oA0).other W20 p61)
   have f52 := (Fld.other W20 (K14.fld (K10.fld (Fld.other W1 p42 (Or.inr (oSn0 hw 28 0))) nin0 oN0) nin0 oN0) (Or.inr (oSn0 hw 28 21)))
   have f53 := (Fld.other W20 (K14.fld (K10.fld (Fld.other W1 p43 (Or.inr (oSn0 hw 16 0))) nin0 oN0) nin0 oN0) (Or.inr (oSn0 hw 16 21)))
   have f54 := ((K14.arr (K10.arr (p44.other W1 p62) nin0 oA0) nin0 oA0).other W20 p62)
   have f55 := (Fld.other W20 (K14.fld (K10.fld (Fld.other W1 p45 (Or.inr (oSn0 hw 17 0))) nin0 oN0) nin0 oN0) (Or.inr (oSn0 hw 17 21)))
   have f56 := ((K14.arr (K10.arr (p46.other W1 p63) nin0 oA0) nin0 oA0).other W20 p63)
   have f57 := (Fld.other W20 (K14.fld (K10.fld (Fld.other W1 p47 (Or.inr (oSn0 hw 6 0))) nin0 oN0) nin0 oN0) (Or.inr (oSn0 hw 6 21)))
   have f58 := ((K14.arr (K10.arr (p48.other W1 p163) nin0 oA0) nin0 oA0).other W20 p163)
   have f59 := (Fld.other W20 (K14.fld (K10.fld (Fld.other W1 p49 (Or.inr (oSn0 hw 7 0))) nin0 oN0) nin0 oN0) (Or.inr (oSn0 hw 7 21)))
   have f60 := ((K14.arr (K10.arr (p50.other W1 p173) nin0 oA0) nin0 oA0).other W20 p173)
   have f61 := (Fld.other W20 (K14.fld (K10.fld (Fld.other W1 p51 (Or.inr (oSn0 hw 8 0))) nin0 oN0) nin0 oN0) (Or.inr (oSn0 hw 8 21)))
   have f62 := ((K14.arr (K10.arr (p52.other W1 p184) nin0 oA0) nin0 oA0).other W20 p184)
   have z64 := (Nat.le_trans (Nat.le_trans z15 K14.1) (Nat.le_of_eq W20.size.symm))
   refine oCallP C (w83 hw) (w85 hw) (w4 hw) (w84 hw) (w5 hw) (w86 hw) d8_140 f21 (by decide) pd_897967 rfl rfl (a := b1) (argsL := [.int 2, .long y6, .long 1]) (rest := []) rfl (W := 0) rfl (q := 143) rfl (by decide) (by decide) (by decide) (by decide) (ac9_61 l Z a0 hw _ n0 z64 b1 y6 y4 b2 b3 y5 b7 b8 b9 b10 b11 b12 b13 b14 b15 b16 b17 b18 b19 b20 y21 b22 f21 f22 p3 f23 f24 f25 f26 f27 f28 p6 f29 f30 p9 hc39 f31 f32 p13 f33 f34 p16 p53 p54 f35 f36 p20 f37 f38 f39 f40 f41 f42 f43 f44 f45 f46 f47 f48 f49 f50 f51 f52 f53 f54 f55 f56 p55 p64 p65 p56 p66 p67 p57 p58 p59 p60 p61 p68 p69 p70 p71 p72 p73 p74 p75 p76 p77 p78 p79 p80 p81 p82 p83 p84 p85 p86 p87 p88 p89 p90 p91 p92 p93 p94 p95 p96 p97 p98 p99 p100 p101 p102 p103 p104 p105 p106 p107 p108 p62 p63 p109 p110 p111 p112 p113 p114 p115 p116 p117 p118 p119 p120 p121 p122 p123 p124 p125 p126 p127 p128 p129 p130 p131 p132 p133 p134 p135 p136 p137 p138 p139 p140 p141 p142 p143 p144 p145 p146 p147 p148 p149 p150 p151 p152 p153 p154 p155 p156 p157 p158 p159 p160 p161 p162 f57 f58 p163 p164 p165 p166 p167 p168 p169 p170 p171 p172 f59 f60 p173 p174 p175 p176 p177 p178 p179 p180 p181 p182 p183 f61 f62 p184 p185 p186 p187 p188 p189 p190 p191 p192 p193 p194 p195 p196 p197 p198 p199 p200 p201 p202 p203) (oVQ ?_)
   rintro h63 ⟨K63, f63_0, f63_1, f63_2, f63_3, f63_4, f63_5, f63_6, f63_7, f63_8, f63_9, f63_10, f63_11, f63_12, f63_13, f63_14, f63_15⟩
   refine oAloadN C d8_143 rfl rfl rfl ?_
   refine oIloadN C d8_144 rfl rfl ?_
   refine oLloadN C d8_145 rfl rfl ?_
   refine oLload C d8_146 rfl rfl ?_
   have f65 := (K63.fld f39 (ninS p65 (ninS p68 (ninS p72 (ninS p77 (ninS p83 (ninS p90 (ninS p108 (ninS p124 (ninS p136 nin0))))))))) (oNF (Or.inr (oSn0 hw 18 22)) (oNF (Or.inr (oSn0 hw 18 23)) (oNF (Or.inr (oSn0 hw 18 24)) (oNF (Or.inr (oSn0 hw 18 25)) (oNF (Or.inr (oSn0 hw 18 26)) (oNF (Or.inr (oSn0 hw 18 27)) (oNF (Or.inr (oSn0 hw 18 28)) oN0))))))))
   have f66 := (K63.fld f37 (ninS p65 (ninS p68 (ninS p72 (ninS p77 (ninS p83 (ninS p90 (ninS p108 (ninS p124 (ninS p136 nin0))))))))) (oNF (Or.inr (oSn0 hw 15 22)) (oNF (Or.inr (oSn0 hw 15 23)) (oNF (Or.inr (oSn0 hw 15 24)) (oNF (Or.inr (oSn0 hw 15 25)) (oNF (Or.inr (oSn0 hw 15 26)) (oNF (Or.inr (oSn0 hw 15 27)) (oNF (Or.inr (oSn0 hw 15 28)) oN0))))))))
   have f67 := (K63.fld f42 (ninS p65 (ninS p68 (ninS p72 (ninS p77 (ninS p83 (ninS p90 (ninS p108 (ninS p124 (ninS p136 nin0))))))))) (oNF (Or.inr (oSn0 hw 10 22)) (oNF (Or.inr (oSn0 hw 10 23)) (oNF (Or.inr (oSn0 hw 10 24)) (oNF (Or.inr (oSn0 hw 10 25)) (oNF (Or.inr (oSn0 hw 10 26)) (oNF (Or.inr (oSn0 hw 10 27)) (oNF (Or.inr (oSn0 hw 10 28)) oN0))))))))
   have f68 := (K63.fld f44 (ninS p65 (ninS p68 (ninS p72 (ninS p77 (ninS p83 (ninS p90 (ninS p108 (ninS p124 (ninS p136 nin0))))))))) (oNF (Or.inr (oSn0 hw 11 22)) (oNF (Or.inr (oSn0 hw 11 23)) (oNF (Or.inr (oSn0 hw 11 24)) (oNF (Or.inr (oSn0 hw 11 25)) (oNF (Or.inr (oSn0 hw 11 26)) (oNF (Or.inr (oSn0 hw 11 27)) (oNF (Or.inr (oSn0 hw 11 28)) oN0))))))))
   have f69 := (K63.fld (Fld.other W20 (K14.fld (K10.fld (Fld.other W1 p204 (Or.inr (oSn0 hw 19 0))) nin0 oN0) nin0 oN0) (Or.inr (oSn0 hw 19 21))) (ninS p65 (ninS p68 (ninS p72 (ninS p77 (ninS p83 (ninS p90 (ninS p108 (ninS p124 (ninS p136 nin0))))))))) (oNF (Or.inr (oSn0 hw 19 22)) (oNF (Or.inr (oSn0 hw 19 23)) (oNF (Or.inr (oSn0 hw 19 24)) (oNF (Or.inr (oSn0 hw 19 25)) (oNF (Or.inr (oSn0 hw 19 26)) (oNF (Or.inr (oSn0 hw 19 27)) (oNF (Or.inr (oSn0 hw 19 28)) oN0))))))))
   have f70 := (K63.arr ((K14.arr (K10.arr (p205.other W1 p206) nin0 oA0) nin0 oA0).other W20 p206) (ninS p215 (ninS p214 (ninS p213 (ninS p212 (ninS p211 (ninS p210 (ninS p209 (ninS p208 (ninS p207 nin0))))))))) (oAS p206 (oAS p206 (oAS p206 (oAS p206 (oAS p206 (oAS p206 (oAS p206 oA0))))))))
   have f71 := (K63.exa f21)
   have f72 := (K63.fld f33 (ninS p65 (ninS p68 (ninS p72 (ninS p77 (ninS p83 (ninS p90 (ninS p108 (ninS p124 (ninS p136 nin0))))))))) (oNF (Or.inr (oSn0 hw 4 22)) (oNF (Or.inr (oSn0 hw 4 23)) (oNF (Or.inr (oSn0 hw 4 24)) (oNF (Or.inr (oSn0 hw 4 25)) (oNF (Or.inr (oSn0 hw 4 26)) (oNF (Or.inr (oSn0 hw 4 27)) (oNF (Or.inr (oSn0 hw 4 28)) oN0))))))))
   have f73 := (K63.arr f34 (ninS p224 (ninS p223 (ninS p222 (ninS p221 (ninS p220 (ninS p219 (ninS p218 (ninS p217 (ninS p216 nin0))))))))) (oAS p16 (oAS p16 (oAS p16 (oAS p16 (oAS p16 (oAS p16 (oAS p16 oA0))))))))
   have f74 := (K63.fld f35 (ninS p65 (ninS p68 (ninS p72 (ninS p77 (ninS p83 (ninS p90 (ninS p108 (ninS p124 (ninS p136 nin0))))))))) (oNF (Or.inr (oSn0 hw 5 22)) (oNF (Or.inr (oSn0 hw 5 23)) (oNF (Or.inr (oSn0 hw 5 24)) (oNF (Or.inr (oSn0 hw 5 25)) (oNF (Or.inr (oSn0 hw 5 26)) (oNF (Or.inr (oSn0 hw 5 27)) (oNF (Or.inr (oSn0 hw 5 28)) oN0))))))))
   have f75 := (K63.arr f36 (ninS p236 (ninS p235 (ninS p234 (ninS p233 (ninS p232 (ninS p231 (ninS p230 (ninS p229 (ninS p228 nin0))))))))) (oAS p20 (oAS p20 (oAS p20 (oAS p20 (oAS p20 (oAS p20 (oAS p20 oA0))))))))
   have f76 := (K63.fld f57 (ninS p65 (ninS p68 (ninS p72 (ninS p77 (ninS p83 (ninS p90 (ninS p108 (ninS p124 (ninS p136 nin0))))))))) (oNF (Or.inr (oSn0 hw 6 22)) (oNF (Or.inr (oSn0 hw 6 23)) (oNF (Or.inr (oSn0 hw 6 24)) (oNF (Or.inr (oSn0 hw 6 25)) (oNF (Or.inr (oSn0 hw 6 26)) (oNF (Or.inr (oSn0 hw 6 27)) (oNF (Or.inr (oSn0 hw 6 28)) oN0))))))))
   have f77 := (K63.arr f58 (ninS p172 (ninS p171 (ninS p170 (ninS p169 (ninS p168 (ninS p167 (ninS p166 (ninS p165 (ninS p164 nin0))))))))) (oAS p163 (oAS p163 (oAS p163 (oAS p163 (oAS p163 (oAS p163 (oAS p163 oA0))))))))
   have f78 := (K63.fld f59 (ninS p65 (ninS p68 (ninS p72 (ninS p77 (ninS p83 (ninS p90 (ninS p108 (ninS p124 (ninS p136 nin0))))))))) (oNF (Or.inr (oSn0 hw 7 22)) (oNF (Or.inr (oSn0 hw 7 23)) (oNF (Or.inr (oSn0 hw 7 24)) (oNF (Or.inr (oSn0 hw 7 25)) (oNF (Or.inr (oSn0 hw 7 26)) (oNF (Or.inr (oSn0 hw 7 27)) (oNF (Or.inr (oSn0 hw 7 28)) oN0))))))))
   have f79 := (K63.arr f60 (ninS p182 (ninS p181 (ninS p180 (ninS p179 (ninS p178 (ninS p177 (ninS p176 (ninS p175 (ninS p174 nin0))))))))) (oAS p173 (oAS p173 (oAS p173 (oAS p173 (oAS p173 (oAS p173 (oAS p173 oA0))))))))
   have f80 := (K63.fld f61 (ninS p65 (ninS p68 (ninS p72 (ninS p77 (ninS p83 (ninS p90 (ninS p108 (ninS p124 (ninS p136 nin0))))))))) (oNF (Or.inr (oSn0 hw 8 22)) (oNF (Or.inr (oSn0 hw 8 23)) (oNF (Or.inr (oSn0 hw 8 24)) (oNF (Or.inr (oSn0 hw 8 25)) (oNF (Or.inr (oSn0 hw 8 26)) (oNF (Or.inr (oSn0 hw 8 27)) (oNF (Or.inr (oSn0 hw 8 28)) oN0))))))))
   have f81 := (K63.arr f62 (ninS p193 (ninS p192 (ninS p191 (ninS p190 (ninS p189 (ninS p188 (ninS p187 (ninS p186 (ninS p185 nin0))))))))) (oAS p184 (oAS p184 (oAS p184 (oAS p184 (oAS p184 (oAS p184 (oAS p184 oA0))))))))
   have z83 := (Nat.le_trans z64 K63.1)
   refine oCallP C (w136 hw) (w138 hw) (w4 hw) (w137 hw) (w5 hw) (w139 hw) d8_148 f71 (by decide) pd_897967 rfl rfl (a := b1) (argsL := [.int 2, .long y6, .long 1]) (rest := []) rfl (W := 0) rfl (q := 151) rfl (by decide) (by decide) (by decide) (by decide) (ac19_62 l Z a0 hw _ n0 z83 b1 y6 b11 b10 b12 b13 b23 b8 b9 b19 b20 y21 b22 f63_6 f65 f63_7 f66 f63_5 f63_0 f67 f63_8 p17 f63_1 f68 f63_9 f69 f70 f71 f72 f73 p225 p226 f74 p227 f75 p237 p238 f76 p239 f77 p240 p241 f78 f79 p242 p243 p244 f80 p245 f81 p246 p247 p248 p249 p250 p251 p252 p253 p254 p255 p256) (oVQ ?_)
   rintro h82 ⟨K82, f82_0, f82_1, f82_2, f82_3⟩
   refine oAloadN C d8_151 rfl rfl rfl ?_
   refine oIloadN C d8_152 rfl rfl ?_
   have f84 := (K82.fld f63_3 (ninS p227 (ninS p239 (ninS p245 (ninS p250 nin0)))) oN0)
   have f86 := (K82.exa f71)
   have z87 := (Nat.le_trans z83 K82.1)
   refine oCallP C (w147 hw) (w149 hw) (w4 hw) (w148 hw) (w5 hw) (w150 hw) d8_153 f86 (by decide) pd_674841 rfl rfl (a := b1) (argsL := [.int 2]) (rest := []) rfl (W := 0) rfl (q := 156) rfl (by decide) (by decide) (by decide) (by decide) (ac21_63 l Z a0 hw _ n0 z87 b1 f84) (oVQ ?_)
   rintro h85 K85
   refine oIconst C d8_156 (z := 0) rfl rfl ?_
   refine oIstore C d8_157 (Ls' := #[.val (.ref b1), .val (.int 2), .val (.long y6), .second, .val (.long 1), .second, .val (.int 0), .val (.int 0), .val (.long y6), .second, .val (.long 1), .second]) rfl (q := 159) rfl ?_
   refine oIload C d8_159 rfl rfl ?_
   refine oAloadN C d8_161 rfl rfl rfl ?_
   have f88 := (K85.fld (K82.fld f63_6 (ninS p227 (ninS p239 (ninS p245 (ninS p250 nin0)))) oN0) nin0 oN0)
   refine oGetF C (w112 hw) Via.refl f88 d8_162 rfl ?_
   refine oIcmp_ge C d8_165 (q := 187) (by decide) (by decide) (r := 168) rfl (fun hq => absurd hq ((by decide))) (fun hc165 => ?_)
   refine oAloadN C d8_168 rfl rfl rfl ?_
   have f89 := (K85.fld (K82.fld f66 (ninS p227 (ninS p239 (ninS p245 (ninS p250 nin0)))) oN0) nin0 oN0)
   refine oGetF C (w47 hw) Via.refl f89 d8_169 rfl ?_
   refine oAloadN C d8_172 rfl rfl rfl ?_
   have f90 := (K85.fld (K82.fld f65 (ninS p227 (ninS p239 (ninS p245 (ninS p250 nin0)))) oN0) nin0 oN0)
   refine oGetF C (w53 hw) Via.refl f90 d8_173 rfl ?_
   refine oIload C d8_176 rfl rfl ?_
   have f91 := (K85.arr (K82.arr f63_7 (ninS p260 (ninS p259 (ninS p258 (ninS p257 nin0)))) oA0) nin0 oA0)
   refine oIaload C f91 (by decide) (k := 0) rfl (v := .int 0) rfl d8_178 rfl ?_
   refine oIconst C d8_179 (z := 0) rfl rfl ?_
   have f92 := (K85.arr (K82.arr f63_5 (ninS p264 (ninS p263 (ninS p262 (ninS p261 nin0)))) oA0) nin0 oA0)
   refine oBastore C f92 (by decide) (k := 0) rfl (v := .int 2) rfl (v' := .int 0) rfl d8_180 rfl p64 fun h93 W93 A93 => ?_
   have A93l : oAr Z h93 b10 .byte [.int 0, .int 0] := A93
   refine oIinc C d8_181 rfl (z := 1) rfl (w := (1 : Int32)) (by decide) (Ls' := #[.val (.ref b1), .val (.int 2), .val (.long y6), .second, .val (.long 1), .second, .val (.int 1), .val (.int 0), .val (.long y6), .second, .val (.long 1), .second]) rfl rfl ?_
   refine oGoto C d8_184 (q := 159) (by decide) (by decide) ?_
   refine oIload C d8_159 rfl rfl ?_
   refine oAloadN C d8_161 rfl rfl rfl ?_
   have f94 := (Fld.other W93 f88 (Or.inl p65))
   refine oGetF C (w112 hw) Via.refl f94 d8_162 rfl ?_
   refine oIcmp_ge C d8_165 (q := 187) (by decide) (by decide) (r := 168) rfl (fun hc165_1 => ?_) (fun hq => absurd hq ((by decide)))
   refine oAloadN C d8_187 rfl rfl rfl ?_
   refine oIconst C d8_188 (z := 0) rfl rfl ?_
   have f95 := (Exa.wr W93 (K85.exa f86))
   refine oPutF C (w112 hw) Via.refl f94 f95 (Or.inl (w113 hw)) (w4 hw) (ty := .int) (by decide) rfl rfl d8_189 rfl p3 fun h96 W96 => ?_
   have f96w := Fld.same W96 f94
   refine oAloadN C d8_192 rfl rfl rfl ?_
   refine oIconst C d8_193 (z := 0) rfl rfl ?_
   have f97 := (Exa.wr W96 f95)
   have f98 := (Fld.other W96 (Fld.other W93 (K85.fld (K82.fld f63_13 (ninS p227 (ninS p239 (ninS p245 (ninS p250 nin0)))) oN0) nin0 oN0) (Or.inl p65)) (Or.inr (oSn0 hw 28 27)))
   refine oPutF C (w118 hw) Via.refl f98 f97 (Or.inl (w119 hw)) (w4 hw) (ty := .int) (by decide) rfl rfl d8_194 rfl p3 fun h99 W99 => ?_
   have f99w := Fld.same W99 f98
   refine oRetV C d8_197 (by decide) (by decide) ?_
   have f100 := (Fld.other W99 (Fld.other W96 (Fld.other W93 (K85.fld (K82.fld (K63.fld (Fld.other W20 (K14.fld (K10.fld f1w nin0 oN0) nin0 oN0) (Or.inr (oSn0 hw 0 21))) (ninS p65 (ninS p68 (ninS p72 (ninS p77 (ninS p83 (ninS p90 (ninS p108 (ninS p124 (ninS p136 nin0))))))))) (oNF (Or.inr (oSn0 hw 0 22)) (oNF (Or.inr (oSn0 hw 0 23)) (oNF (Or.inr (oSn0 hw 0 24)) (oNF (Or.inr (oSn0 hw 0 25)) (oNF (Or.inr (oSn0 hw 0 26)) (oNF (Or.inr (oSn0 hw 0 27)) (oNF (Or.inr (oSn0 hw 0 28)) oN0)))))))) (ninS p227 (ninS p239 (ninS p245 (ninS p250 nin0)))) oN0) nin0 oN0) (Or.inl p65)) (Or.inr (oSn0 hw 0 27))) (Or.inr (oSn0 hw 0 28)))
   have f101 := ((((K85.arr f82_0 nin0 oA0).other W93 p224).other W96 p16).other W99 p16)
   have f102 := ((((K85.arr f82_1 nin0 oA0).other W93 p236).other W96 p20).other W99 p20)
   have f103 := (Fld.other W99 (Fld.other W96 (Fld.other W93 (K85.fld (K82.fld (K63.fld f20w (ninS p65 (ninS p68 (ninS p72 (ninS p77 (ninS p83 (ninS p90 (ninS p108 (ninS p124 (ninS p136 nin0))))))))) (oNF (Or.inr (oSn0 hw 21 22)) (oNF (Or.inr (oSn0 hw 21 23)) (oNF (Or.inr (oSn0 hw 21 24)) (oNF (Or.inr (oSn0 hw 21 25)) (oNF (Or.inr (oSn0 hw 21 26)) (oNF (Or.inr (oSn0 hw 21 27)) (oNF (Or.inr (oSn0 hw 21 28)) oN0)))))))) (ninS p227 (ninS p239 (ninS p245 (ninS p250 nin0)))) oN0) nin0 oN0) (Or.inl p65)) (Or.inr (oSn0 hw 21 27))) (Or.inr (oSn0 hw 21 28)))
   have f104 := (Fld.other W99 (Fld.other W96 (Fld.other W93 (K85.fld (K82.fld f63_0 (ninS p227 (ninS p239 (ninS p245 (ninS p250 nin0)))) oN0) nin0 oN0) (Or.inl p65)) (Or.inr (oSn0 hw 22 27))) (Or.inr (oSn0 hw 22 28)))
   have f105 := (Fld.other W99 (Fld.other W96 (Fld.other W93 (K85.fld (K82.fld f63_1 (ninS p227 (ninS p239 (ninS p245 (ninS p250 nin0)))) oN0) nin0 oN0) (Or.inl p65)) (Or.inr (oSn0 hw 23 27))) (Or.inr (oSn0 hw 23 28)))
   have f106 := (Fld.other W99 (Fld.other W96 (Fld.other W93 (K85.fld (K82.fld f63_2 (ninS p227 (ninS p239 (ninS p245 (ninS p250 nin0)))) oN0) nin0 oN0) (Or.inl p65)) (Or.inr (oSn0 hw 24 27))) (Or.inr (oSn0 hw 24 28)))
   have f107 := (Fld.other W99 (Fld.other W96 (Fld.other W93 (K85.fld f84 nin0 oN0) (Or.inl p65)) (Or.inr (oSn0 hw 25 27))) (Or.inr (oSn0 hw 25 28)))
   have f108 := (Fld.other W99 (Fld.other W96 (Fld.other W93 (K85.fld (K82.fld f63_4 (ninS p227 (ninS p239 (ninS p245 (ninS p250 nin0)))) oN0) nin0 oN0) (Or.inl p65)) (Or.inr (oSn0 hw 26 27))) (Or.inr (oSn0 hw 26 28)))
   have f109 := ((A93l.other W96 p55).other W99 p55)
   have f110 := (Fld.other W99 f96w (Or.inr (oSn0 hw 27 28)))
   have f111 := (((f91.other W93 p66).other W96 p56).other W99 p56)
   have f112 := ((((K85.arr (K82.arr f63_8 (ninS p268 (ninS p267 (ninS p266 (ninS p265 nin0)))) oA0) nin0 oA0).other W93 p69).other W96 p57).other W99 p57)
   have f113 := ((((K85.arr (K82.arr f63_9 (ninS p272 (ninS p271 (ninS p270 (ninS p269 nin0)))) oA0) nin0 oA0).other W93 p73).other W96 p58).other W99 p58)
   have f114 := ((((K85.arr (K82.arr f63_10 (ninS p276 (ninS p275 (ninS p274 (ninS p273 nin0)))) oA0) nin0 oA0).other W93 p78).other W96 p59).other W99 p59)
   have f115 := ((((K85.arr (K82.arr f63_11 (ninS p280 (ninS p279 (ninS p278 (ninS p277 nin0)))) oA0) nin0 oA0).other W93 p84).other W96 p60).other W99 p60)
   have f116 := ((((K85.arr (K82.arr f63_12 (ninS p284 (ninS p283 (ninS p282 (ninS p281 nin0)))) oA0) nin0 oA0).other W93 p91).other W96 p61).other W99 p61)
   have f117 := ((((K85.arr (K82.arr f63_14 (ninS p288 (ninS p287 (ninS p286 (ninS p285 nin0)))) oA0) nin0 oA0).other W93 p109).other W96 p62).other W99 p62)
   have f118 := ((((K85.arr (K82.arr f63_15 (ninS p292 (ninS p291 (ninS p290 (ninS p289 nin0)))) oA0) nin0 oA0).other W93 p116).other W96 p63).other W99 p63)
   have f119 := ((((K85.arr f82_2 nin0 oA0).other W93 p182).other W96 p173).other W99 p173)
   have f120 := ((((K85.arr f82_3 nin0 oA0).other W93 p193).other W96 p184).other W99 p184)
   exact ⟨rfl, (((((((((((oKe.refl h0 [b10, b11, b12, b13, b14, b15, b16, b17, b18, b8, b9, b20, b22] [(b1, Jvm.RoadKit.slotOf Z cU "displaced" "I"), (b1, Jvm.RoadKit.slotOf Z cU "searches" "I"), (b1, Jvm.RoadKit.slotOf Z cU "sinkMoney" "J"), (b1, Jvm.RoadKit.slotOf Z cU "sinkSales" "J"), (b1, Jvm.RoadKit.slotOf Z cU "sinkMoves" "I"), (b1, Jvm.RoadKit.slotOf Z cU "sinkEnd" "I"), (b1, Jvm.RoadKit.slotOf Z cU "sinkGoesWithout" "Z"), (b1, Jvm.RoadKit.slotOf Z cU "touchedCount" "I"), (b1, Jvm.RoadKit.slotOf Z cU "heapSize" "I")]).wrF W1 (Or.inl (List.mem_of_getElem? (i := 0) rfl))).trans K10 all0 oA0).trans K14 all0 oA0).wrF W20 (Or.inl (List.mem_of_getElem? (i := 1) rfl))).trans K63 (allS (Or.inl (List.mem_of_getElem? (i := 0) rfl)) (allS (Or.inl (List.mem_of_getElem? (i := 1) rfl)) (allS (Or.inl (List.mem_of_getElem? (i := 2) rfl)) (allS (Or.inl (List.mem_of_getElem? (i := 3) rfl)) (allS (Or.inl (List.mem_of_getElem? (i := 4) rfl)) (allS (Or.inl (List.mem_of_getElem? (i := 5) rfl)) (allS (Or.inl (List.mem_of_getElem? (i := 6) rfl)) (allS (Or.inl (List.mem_of_getElem? (i := 7) rfl)) (allS (Or.inl (List.mem_of_getElem? (i := 8) rfl)) all0))))))))) (oAS (Or.inl (List.mem_of_getElem? (i := 2) rfl)) (oAS (Or.inl (List.mem_of_getElem? (i := 3) rfl)) (oAS (Or.inl (List.mem_of_getElem? (i := 4) rfl)) (oAS (Or.inl (List.mem_of_getElem? (i := 5) rfl)) (oAS (Or.inl (List.mem_of_getElem? (i := 6) rfl)) (oAS (Or.inl (List.mem_of_getElem? (i := 7) rfl)) (oAS (Or.inl (List.mem_of_getElem? (i := 8) rfl)) oA0)))))))).trans K82 (allS (Or.inl (List.mem_of_getElem? (i := 9) rfl)) (allS (Or.inl (List.mem_of_getElem? (i := 10) rfl)) (allS (Or.inl (List.mem_of_getElem? (i := 11) rfl)) (allS (Or.inl (List.mem_of_getElem? (i := 12) rfl)) all0)))) oA0).trans K85 all0 oA0).wrA W93 (Or.inl (List.mem_of_getElem? (i := 0) rfl))).wrF W96 (Or.inl (List.mem_of_getElem? (i := 7) rfl))).wrF W99 (Or.inl (List.mem_of_getElem? (i := 8) rfl))), f100, f101, f102, f103, f104, f105, f106, f107, f108, f109, f110, f111, f112, f113, f114, f115, f116, f99w, f117, f118, f119, f120⟩
  ·
   refine oLloadN C d8_111 rfl rfl ?_
   refine oLconst C d8_112 (z := 0) rfl rfl ?_
   refine oLcmp_ne C d8_113 rfl d8_114 (q := 125) (by decide) (by decide) (r := 117) rfl (fun hc113 => ?_) (fun hc113 => ?_)
   ·
    exact J125 () trivial
   ·
    refine oLload C d8_117 rfl rfl ?_
    refine oLconst C d8_119 (z := 0) rfl rfl ?_
    refine oLcmp_ne C d8_120 rfl d8_121 (q := 125) (by decide) (by decide) (r := 124) rfl (fun hc120 => ?_) (fun hq => absurd hq ((by decide)))
    exact J125 () trivial
theorem or22 (v0 dd v1 v2 : Int64) (r_v0 : 0 ≤ v0.toInt ∧ v0.toInt < 1152921504606846976) (r_dd : 1 ≤ dd.toInt ∧ dd.toInt ≤ 1152921504606846976) (r_v1 : v1.toInt = v0.toInt + dd.toInt) (r_v2 : 0 ≤ v2.toInt ∧ v2.toInt ≤ 1152921504606846976) (rN : ¬ dd.toInt < v2.toInt) : ¬ v2 < (0 : Int64) := by (try simp only [Int64.lt_iff_toInt_lt, ← Int64.toInt_inj, Int64.reduceToInt] at *) <;> omega
theorem or23 (v0 dd v1 v2 : Int64) (r_v0 : 0 ≤ v0.toInt ∧ v0.toInt < 1152921504606846976) (r_dd : 1 ≤ dd.toInt ∧ dd.toInt ≤ 1152921504606846976) (r_v1 : v1.toInt = v0.toInt + dd.toInt) (r_v2 : 0 ≤ v2.toInt ∧ v2.toInt ≤ 1152921504606846976) (rN : ¬ dd.toInt < v2.toInt) : ¬ ((v2 ^^^ (0 : Int64)) &&& (v2 ^^^ (v2 - (0 : Int64)))) < (0 : Int64) := own_subx v2 (0 : Int64) (by have q0 := c_lsub v2 (0 : Int64); have q1 := rng64 (v2 - (0 : Int64)); (try simp only [Int64.lt_iff_toInt_lt, ← Int64.toInt_inj, Int64.reduceToInt] at *) <;> omega) (by have q0 := c_lsub v2 (0 : Int64); have q1 := rng64 (v2 - (0 : Int64)); (try simp only [Int64.lt_iff_toInt_lt, ← Int64.toInt_inj, Int64.reduceToInt] at *) <;> omega)
theorem or24 (v0 dd v1 v2 : Int64) (r_v0 : 0 ≤ v0.toInt ∧ v0.toInt < 1152921504606846976) (r_dd : 1 ≤ dd.toInt ∧ dd.toInt ≤ 1152921504606846976) (r_v1 : v1.toInt = v0.toInt + dd.toInt) (r_v2 : 0 ≤ v2.toInt ∧ v2.toInt ≤ 1152921504606846976) (rN : ¬ dd.toInt < v2.toInt) : ¬ ((v2 ^^^ (v2 + (0 : Int64))) &&& ((0 : Int64) ^^^ (v2 + (0 : Int64)))) < (0 : Int64) := own_addx v2 (0 : Int64) (by have q0 := c_ladd v2 (0 : Int64); have q1 := rng64 (v2 + (0 : Int64)); (try simp only [Int64.lt_iff_toInt_lt, ← Int64.toInt_inj, Int64.reduceToInt] at *) <;> omega) (by have q0 := c_ladd v2 (0 : Int64); have q1 := rng64 (v2 + (0 : Int64)); (try simp only [Int64.lt_iff_toInt_lt, ← Int64.toInt_inj, Int64.reduceToInt] at *) <;> omega)
theorem or25 (v0 dd v1 v2 : Int64) (r_v0 : 0 ≤ v0.toInt ∧ v0.toInt < 1152921504606846976) (r_dd : 1 ≤ dd.toInt ∧ dd.toInt ≤ 1152921504606846976) (r_v1 : v1.toInt = v0.toInt + dd.toInt) (r_v2 : 0 ≤ v2.toInt ∧ v2.toInt ≤ 1152921504606846976) (rN : ¬ dd.toInt < v2.toInt) : ¬ ((v2 ^^^ v2) &&& (v2 ^^^ (v2 - v2))) < (0 : Int64) := own_subx v2 v2 (by have q0 := c_lsub v2 v2; have q1 := rng64 (v2 - v2); (try simp only [Int64.lt_iff_toInt_lt, ← Int64.toInt_inj, Int64.reduceToInt] at *) <;> omega) (by have q0 := c_lsub v2 v2; have q1 := rng64 (v2 - v2); (try simp only [Int64.lt_iff_toInt_lt, ← Int64.toInt_inj, Int64.reduceToInt] at *) <;> omega)
theorem or26 (v0 dd v1 v2 : Int64) (r_v0 : 0 ≤ v0.toInt ∧ v0.toInt < 1152921504606846976) (r_dd : 1 ≤ dd.toInt ∧ dd.toInt ≤ 1152921504606846976) (r_v1 : v1.toInt = v0.toInt + dd.toInt) (r_v2 : 0 ≤ v2.toInt ∧ v2.toInt ≤ 1152921504606846976) (rN : ¬ dd.toInt < v2.toInt) : ¬ (((0 : Int64) ^^^ ((0 : Int64) + (v1 - v0))) &&& ((v1 - v0) ^^^ ((0 : Int64) + (v1 - v0)))) < (0 : Int64) := own_addx (0 : Int64) (v1 - v0) (by have q0 := c_ladd (0 : Int64) (v1 - v0); have q1 := rng64 ((0 : Int64) + (v1 - v0)); have q2 := c_lsub v1 v0; have q3 := rng64 (v1 - v0); (try simp only [Int64.lt_iff_toInt_lt, ← Int64.toInt_inj, Int64.reduceToInt] at *) <;> omega) (by have q0 := c_ladd (0 : Int64) (v1 - v0); have q1 := rng64 ((0 : Int64) + (v1 - v0)); have q2 := c_lsub v1 v0; have q3 := rng64 (v1 - v0); (try simp only [Int64.lt_iff_toInt_lt, ← Int64.toInt_inj, Int64.reduceToInt] at *) <;> omega)
theorem or27 (v0 dd v1 v2 : Int64) (r_v0 : 0 ≤ v0.toInt ∧ v0.toInt < 1152921504606846976) (r_dd : 1 ≤ dd.toInt ∧ dd.toInt ≤ 1152921504606846976) (r_v1 : v1.toInt = v0.toInt + dd.toInt) (r_v2 : 0 ≤ v2.toInt ∧ v2.toInt ≤ 1152921504606846976) (rN : ¬ dd.toInt < v2.toInt) : ¬ (v1 - v0) < v2 := by have q0 := c_lsub v1 v0; have q1 := rng64 (v1 - v0); (try simp only [Int64.lt_iff_toInt_lt, ← Int64.toInt_inj, Int64.reduceToInt] at *) <;> omega
theorem or28 (v0 dd v1 v2 : Int64) (r_v0 : 0 ≤ v0.toInt ∧ v0.toInt < 1152921504606846976) (r_dd : 1 ≤ dd.toInt ∧ dd.toInt ≤ 1152921504606846976) (r_v1 : v1.toInt = v0.toInt + dd.toInt) (r_v2 : 0 ≤ v2.toInt ∧ v2.toInt ≤ 1152921504606846976) (rN : ¬ dd.toInt < v2.toInt) : ¬ (((0 : Int64) ^^^ ((0 : Int64) + v2)) &&& (v2 ^^^ ((0 : Int64) + v2))) < (0 : Int64) := own_addx (0 : Int64) v2 (by have q0 := c_ladd (0 : Int64) v2; have q1 := rng64 ((0 : Int64) + v2); (try simp only [Int64.lt_iff_toInt_lt, ← Int64.toInt_inj, Int64.reduceToInt] at *) <;> omega) (by have q0 := c_ladd (0 : Int64) v2; have q1 := rng64 ((0 : Int64) + v2); (try simp only [Int64.lt_iff_toInt_lt, ← Int64.toInt_inj, Int64.reduceToInt] at *) <;> omega)
theorem or29 (v0 dd v1 v2 : Int64) (r_v0 : 0 ≤ v0.toInt ∧ v0.toInt < 1152921504606846976) (r_dd : 1 ≤ dd.toInt ∧ dd.toInt ≤ 1152921504606846976) (r_v1 : v1.toInt = v0.toInt + dd.toInt) (r_v2 : 0 ≤ v2.toInt ∧ v2.toInt ≤ 1152921504606846976) (rN : ¬ dd.toInt < v2.toInt) : ¬ dd < v2 := by (try simp only [Int64.lt_iff_toInt_lt, ← Int64.toInt_inj, Int64.reduceToInt] at *) <;> omega
theorem or30 (v0 dd v1 v2 : Int64) (r_v0 : 0 ≤ v0.toInt ∧ v0.toInt < 1152921504606846976) (r_dd : 1 ≤ dd.toInt ∧ dd.toInt ≤ 1152921504606846976) (r_v1 : v1.toInt = v0.toInt + dd.toInt) (r_v2 : 0 ≤ v2.toInt ∧ v2.toInt ≤ 1152921504606846976) (rN : ¬ dd.toInt < v2.toInt) : v2 = (fMin v2 dd) := by rw [fMin_def]; simp only [Int64.lt_iff_toInt_lt]; split <;> ((try simp only [Int64.lt_iff_toInt_lt, ← Int64.toInt_inj, Int64.reduceToInt] at *) <;> omega)
set_option maxRecDepth 65536 in
set_option maxHeartbeats 40000000 in
theorem ac22_65 (l : Launch) (Z : State) (a0 : Array Value) (hw : oHw a0 Z) (h0 : Heap) (n0 : Nat) (Z0 : n0 ≤ h0.size) (b1 : Addr) (b2 : Addr) (b3 : Addr) (b4 : Addr) (p1 : Fld Z h0 b1 cU "holder" "[I" (.ref b2)) (p2 : oAr Z h0 b2 .int [.int 1, .int (-1)]) (p3 : Fld Z h0 b1 cU "priceMoney" "[J" (.ref b3)) (p4 : oAr Z h0 b3 .long [.long 0, .long 0]) (p5 : n0 ≤ b3) (p6 : Fld Z h0 b1 cU "priceSales" "[J" (.ref b4)) (p7 : b1 ≠ b3) (p8 : oAr Z h0 b4 .long [.long 0, .long 0]) (p9 : b4 ≠ b3) (p10 : n0 ≤ b4) (p11 : b3 ≠ b4) :
    oMet l Z (⟨cU, "resetPrice", "(I)V"⟩ : MethodName) prog_54_method_11_code 3 none [] ({ frames := 0, cells := 0, slots := 0, locals := 0 } : Room) 0 0 n0 #[.ref b1, .int 1] h0 (fun v h => v = none ∧ oKe h0 h [b3, b4] [] ∧ oAr Z h b3 .long [.long 0, .long 0] ∧ oAr Z h b4 .long [.long 0, .long 0]) := by
  refine oMet.intro (plainFor_of_name pn_944982) (fun m => ef_22 m b1 (1 : Int32)) ?_
  intro op oe os m obl omt ocd C
  refine oAloadN C d22_0 rfl rfl rfl ?_
  refine oGetF C (w24 hw) Via.refl p1 d22_1 rfl ?_
  refine oIloadN C d22_4 rfl rfl ?_
  refine oIaload C p2 (by decide) (k := 1) rfl (v := .int (-1)) rfl d22_5 rfl ?_
  refine oIstoreN C d22_6 (Ls' := #[.val (.ref b1), .val (.int 1), .val (.int (-1))]) rfl (q := 7) rfl ?_
  refine oIloadN C d22_7 rfl rfl ?_
  refine oIconst C d22_8 (z := (-1)) rfl rfl ?_
  refine oIcmp_eq C d22_9 (q := 27) (by decide) (by decide) (r := 12) rfl (fun hc9 => ?_) (fun hq => absurd hq ((by decide)))
  refine oAloadN C d22_27 rfl rfl rfl ?_
  refine oGetF C (w20 hw) Via.refl p3 d22_28 rfl ?_
  refine oIloadN C d22_31 rfl rfl ?_
  refine oLconst C d22_32 (z := 0) rfl rfl ?_
  refine oLastore C p4 (by decide) (k := 1) rfl (v := .long 0) rfl (v' := .long 0) rfl d22_33 rfl p5 fun h1 W1 A1 => ?_
  have A1l : oAr Z h1 b3 .long [.long 0, .long 0] := A1
  refine oAloadN C d22_34 rfl rfl rfl ?_
  have f2 := (Fld.other W1 p6 (Or.inl p7))
  refine oGetF C (w22 hw) Via.refl f2 d22_35 rfl ?_
  refine oIloadN C d22_38 rfl rfl ?_
  refine oLconst C d22_39 (z := 0) rfl rfl ?_
  have f3 := (p8.other W1 p9)
  refine oLastore C f3 (by decide) (k := 1) rfl (v := .long 0) rfl (v' := .long 0) rfl d22_40 rfl p10 fun h4 W4 A4 => ?_
  have A4l : oAr Z h4 b4 .long [.long 0, .long 0] := A4
  refine oRetV C d22_41 (by decide) (by decide) ?_
  have f5 := (A1l.other W4 p11)
  exact ⟨rfl, (((oKe.refl h0 [b3, b4] []).wrA W1 (Or.inl (List.mem_of_getElem? (i := 0) rfl))).wrA W4 (Or.inl (List.mem_of_getElem? (i := 1) rfl))), f5, A4l⟩
set_option maxRecDepth 65536 in
set_option maxHeartbeats 40000000 in
theorem mt_law (l : Launch) (Z : State) (a0 : Array Value) (hw : oHw a0 Z) (h0 : Heap) (n0 : Nat) (Z0 : n0 ≤ h0.size) (x0 : Int64) (x1 : Int64) (x2 : Int64) (fl : Int32)  :
    oMet l Z x code maxLocals ret tables_1 room_1 56 256 n0 #[.long x0, .long x1, .long x2, .int fl] h0 (fun v h => v = some (.int 1)) := by
  refine oMet.intro (plainFor_of_name pn_307969) (fun m => ef_0 m x0 x1 x2 fl) ?_
  intro op oe os m obl omt ocd C
  refine oLloadN C at_0 rfl rfl ?_
  refine oLdc2 C (w0 hw) at_1 rfl ?_
  refine oLand C at_4 rfl ?_
  obtain ⟨v0, e_v0⟩ : ∃ z, z = (x0 &&& (1152921504606846975 : Int64)) := ⟨_, rfl⟩
  refine oCastL e_v0.symm ?_
  have r_v0 := own_w0 x0
  rw [← e_v0] at r_v0
  refine oLstore C at_5 (Ls' := #[.val (.long x0), .second, .val (.long x1), .second, .val (.long x2), .second, .val (.int fl), .val (.long v0), .second, .unset, .unset, .unset, .unset, .unset, .unset, .unset, .unset, .unset, .unset, .unset, .unset, .unset, .unset]) rfl (q := 7) rfl ?_
  refine oLconst C at_7 (z := 1) rfl rfl ?_
  refine oLloadN C at_8 rfl rfl ?_
  refine oLdc2 C (w0 hw) at_9 rfl ?_
  refine oLand C at_12 rfl ?_
  refine oLadd C at_13 rfl ?_
  obtain ⟨dd, e_dd⟩ : ∃ z, z = ((1 : Int64) + (x1 &&& (1152921504606846975 : Int64))) := ⟨_, rfl⟩
  refine oCastL e_dd.symm ?_
  have r_dd := own_dd x1
  rw [← e_dd] at r_dd
  refine oLstore C at_14 (Ls' := #[.val (.long x0), .second, .val (.long x1), .second, .val (.long x2), .second, .val (.int fl), .val (.long v0), .second, .val (.long dd), .second, .unset, .unset, .unset, .unset, .unset, .unset, .unset, .unset, .unset, .unset, .unset, .unset]) rfl (q := 16) rfl ?_
  refine oLload C at_16 rfl rfl ?_
  refine oLload C at_18 rfl rfl ?_
  refine oLadd C at_20 rfl ?_
  obtain ⟨v1, e_v1⟩ : ∃ z, z = (v0 + dd) := ⟨_, rfl⟩
  refine oCastL e_v1.symm ?_
  have r_v1 := own_w1 r_v0 r_dd
  rw [← e_v1] at r_v1
  refine oLstore C at_21 (Ls' := #[.val (.long x0), .second, .val (.long x1), .second, .val (.long x2), .second, .val (.int fl), .val (.long v0), .second, .val (.long dd), .second, .val (.long v1), .second, .unset, .unset, .unset, .unset, .unset, .unset, .unset, .unset, .unset, .unset]) rfl (q := 23) rfl ?_
  refine oJoin (α := Unit) (fun _ => True) (fun _ => h0) (fun _ => (mkF m 41 #[.val (.long x0), .second, .val (.long x1), .second, .val (.long x2), .second, .val (.int fl), .val (.long v0), .second, .val (.long dd), .second, .val (.long v1), .second, .unset, .unset, .unset, .unset, .unset, .unset, .unset, .unset, .unset, .unset] [.long (fW2 x2 fl dd)])) (k := 0) (n := 0) (fun _ _ => ?_) (fun J41 => ?_)
  ·
   show oW _ _ _ _ _ _ _ _ _ _ _ _ _ _ _ (mkF m 41 #[.val (.long x0), .second, .val (.long x1), .second, .val (.long x2), .second, .val (.int fl), .val (.long v0), .second, .val (.long dd), .second, .val (.long v1), .second, .unset, .unset, .unset, .unset, .unset, .unset, .unset, .unset, .unset, .unset] [.long (fW2 x2 fl dd)])
   have r_v2 : 0 ≤ ((fW2 x2 fl dd)).toInt ∧ ((fW2 x2 fl dd)).toInt ≤ 1152921504606846976 := by
      rw [fW2_def]; have z := own_w0 x2; split <;> omega
   obtain ⟨v2, e_v2⟩ : ∃ z, z = (fW2 x2 fl dd) := ⟨_, rfl⟩
   refine oCastL e_v2.symm ?_
   rw [← e_v2] at r_v2
   clear e_v2
   refine oLstore C at_41 (Ls' := #[.val (.long x0), .second, .val (.long x1), .second, .val (.long x2), .second, .val (.int fl), .val (.long v0), .second, .val (.long dd), .second, .val (.long v1), .second, .val (.long v2), .second, .unset, .unset, .unset, .unset, .unset, .unset, .unset, .unset]) rfl (q := 43) rfl ?_
   refine oIconst C at_43 (z := 4) rfl rfl ?_
   refine oNewA C (w1 hw) rfl at_44 rfl (by decide) (k := 4) rfl (by decide) (by decide) (cap := 4) (Nat.le_refl _) (by decide) (by decide) fun a1 h1 g_a1 E1 A1 => ?_
   have ge_a1 : n0 ≤ a1 := g_a1 ▸ Z0
   have A1l : oAr Z h1 a1 .int [.int 0, .int 0, .int 0, .int 0] := A1
   refine oDup C at_46 rfl rfl ?_
   refine oIconst C at_47 (z := 0) rfl rfl ?_
   refine oIconst C at_48 (z := 0) rfl rfl ?_
   refine oIastore C A1l (by decide) (k := 0) rfl (v := .int 0) rfl (v' := .int 0) rfl at_49 rfl ge_a1 fun h2 W2 A2 => ?_
   have A2l : oAr Z h2 a1 .int [.int 0, .int 0, .int 0, .int 0] := A2
   refine oDup C at_50 rfl rfl ?_
   refine oIconst C at_51 (z := 1) rfl rfl ?_
   refine oIconst C at_52 (z := 1) rfl rfl ?_
   refine oIastore C A2l (by decide) (k := 1) rfl (v := .int 0) rfl (v' := .int 1) rfl at_53 rfl ge_a1 fun h3 W3 A3 => ?_
   have A3l : oAr Z h3 a1 .int [.int 0, .int 1, .int 0, .int 0] := A3
   refine oDup C at_54 rfl rfl ?_
   refine oIconst C at_55 (z := 2) rfl rfl ?_
   refine oIconst C at_56 (z := 2) rfl rfl ?_
   refine oIastore C A3l (by decide) (k := 2) rfl (v := .int 0) rfl (v' := .int 2) rfl at_57 rfl ge_a1 fun h4 W4 A4 => ?_
   have A4l : oAr Z h4 a1 .int [.int 0, .int 1, .int 2, .int 0] := A4
   refine oDup C at_58 rfl rfl ?_
   refine oIconst C at_59 (z := 3) rfl rfl ?_
   refine oIconst C at_60 (z := 3) rfl rfl ?_
   refine oIastore C A4l (by decide) (k := 3) rfl (v := .int 0) rfl (v' := .int 3) rfl at_61 rfl ge_a1 fun h5 W5 A5 => ?_
   have A5l : oAr Z h5 a1 .int [.int 0, .int 1, .int 2, .int 3] := A5
   refine oAstore C at_62 rfl (Ls' := #[.val (.long x0), .second, .val (.long x1), .second, .val (.long x2), .second, .val (.int fl), .val (.long v0), .second, .val (.long dd), .second, .val (.long v1), .second, .val (.long v2), .second, .val (.ref a1), .unset, .unset, .unset, .unset, .unset, .unset, .unset]) rfl (q := 64) rfl ?_
   refine oIconst C at_64 (z := 3) rfl rfl ?_
   refine oNewA C (w1 hw) rfl at_65 rfl (by decide) (k := 3) rfl (by decide) (by decide) (cap := 3) (Nat.le_refl _) (by decide) (by decide) fun a6 h6 g_a6 E6 A6 => ?_
   have z7 := (Nat.le_trans (Nat.le_trans (Nat.le_trans (Nat.le_trans (Nat.le_trans Z0 E1.1) (Nat.le_of_eq W2.size.symm)) (Nat.le_of_eq W3.size.symm)) (Nat.le_of_eq W4.size.symm)) (Nat.le_of_eq W5.size.symm))
   have ge_a6 : n0 ≤ a6 := g_a6 ▸ z7
   have A6l : oAr Z h6 a6 .int [.int 0, .int 0, .int 0] := A6
   refine oDup C at_67 rfl rfl ?_
   refine oIconst C at_68 (z := 0) rfl rfl ?_
   refine oIconst C at_69 (z := 0) rfl rfl ?_
   refine oIastore C A6l (by decide) (k := 0) rfl (v := .int 0) rfl (v' := .int 0) rfl at_70 rfl ge_a6 fun h8 W8 A8 => ?_
   have A8l : oAr Z h8 a6 .int [.int 0, .int 0, .int 0] := A8
   refine oDup C at_71 rfl rfl ?_
   refine oIconst C at_72 (z := 1) rfl rfl ?_
   refine oIconst C at_73 (z := 0) rfl rfl ?_
   refine oIastore C A8l (by decide) (k := 1) rfl (v := .int 0) rfl (v' := .int 0) rfl at_74 rfl ge_a6 fun h9 W9 A9 => ?_
   have A9l : oAr Z h9 a6 .int [.int 0, .int 0, .int 0] := A9
   refine oDup C at_75 rfl rfl ?_
   refine oIconst C at_76 (z := 2) rfl rfl ?_
   refine oIconst C at_77 (z := 0) rfl rfl ?_
   refine oIastore C A9l (by decide) (k := 2) rfl (v := .int 0) rfl (v' := .int 0) rfl at_78 rfl ge_a6 fun h10 W10 A10 => ?_
   have A10l : oAr Z h10 a6 .int [.int 0, .int 0, .int 0] := A10
   refine oAstore C at_79 rfl (Ls' := #[.val (.long x0), .second, .val (.long x1), .second, .val (.long x2), .second, .val (.int fl), .val (.long v0), .second, .val (.long dd), .second, .val (.long v1), .second, .val (.long v2), .second, .val (.ref a1), .val (.ref a6), .unset, .unset, .unset, .unset, .unset, .unset]) rfl (q := 81) rfl ?_
   refine oIconst C at_81 (z := 3) rfl rfl ?_
   refine oNewA C (w2 hw) rfl at_82 rfl (by decide) (k := 3) rfl (by decide) (by decide) (cap := 3) (Nat.le_refl _) (by decide) (by decide) fun a11 h11 g_a11 E11 A11 => ?_
   have z12 := (Nat.le_trans (Nat.le_trans (Nat.le_trans (Nat.le_trans z7 E6.1) (Nat.le_of_eq W8.size.symm)) (Nat.le_of_eq W9.size.symm)) (Nat.le_of_eq W10.size.symm))
   have ge_a11 : n0 ≤ a11 := g_a11 ▸ z12
   have A11l : oAr Z h11 a11 .long [.long 0, .long 0, .long 0] := A11
   refine oDup C at_84 rfl rfl ?_
   refine oIconst C at_85 (z := 0) rfl rfl ?_
   refine oLload C at_86 rfl rfl ?_
   refine oLastore C A11l (by decide) (k := 0) rfl (v := .long 0) rfl (v' := .long v0) rfl at_88 rfl ge_a11 fun h13 W13 A13 => ?_
   have A13l : oAr Z h13 a11 .long [.long v0, .long 0, .long 0] := A13
   refine oDup C at_89 rfl rfl ?_
   refine oIconst C at_90 (z := 1) rfl rfl ?_
   refine oLload C at_91 rfl rfl ?_
   refine oLastore C A13l (by decide) (k := 1) rfl (v := .long 0) rfl (v' := .long v1) rfl at_93 rfl ge_a11 fun h14 W14 A14 => ?_
   have A14l : oAr Z h14 a11 .long [.long v0, .long v1, .long 0] := A14
   refine oDup C at_94 rfl rfl ?_
   refine oIconst C at_95 (z := 2) rfl rfl ?_
   refine oLload C at_96 rfl rfl ?_
   refine oLastore C A14l (by decide) (k := 2) rfl (v := .long 0) rfl (v' := .long v2) rfl at_98 rfl ge_a11 fun h15 W15 A15 => ?_
   have A15l : oAr Z h15 a11 .long [.long v0, .long v1, .long v2] := A15
   refine oAstore C at_99 rfl (Ls' := #[.val (.long x0), .second, .val (.long x1), .second, .val (.long x2), .second, .val (.int fl), .val (.long v0), .second, .val (.long dd), .second, .val (.long v1), .second, .val (.long v2), .second, .val (.ref a1), .val (.ref a6), .val (.ref a11), .unset, .unset, .unset, .unset, .unset]) rfl (q := 101) rfl ?_
   refine oNew C (w3 hw) (w4 hw) (w5 hw) at_101 rfl (by decide) (by decide) fun a16 h16 g_a16 E16 X16 D16 => ?_
   have z17 := (Nat.le_trans (Nat.le_trans (Nat.le_trans (Nat.le_trans z12 E11.1) (Nat.le_of_eq W13.size.symm)) (Nat.le_of_eq W14.size.symm)) (Nat.le_of_eq W15.size.symm))
   have ge_a16 : n0 ≤ a16 := g_a16 ▸ z17
   have f16_displaced : Fld Z h16 a16 cU "displaced" "I" (.int 0) := D16 (Or.inl (w13 hw)) (ty := .int) (by decide)
   have f16_offerStart : Fld Z h16 a16 cU "offerStart" "[I" (.null) := D16 (Or.inr (w15 hw)) (ty := (.array .int)) (by decide)
   have f16_offerItem : Fld Z h16 a16 cU "offerItem" "[I" (.null) := D16 (Or.inr (w17 hw)) (ty := (.array .int)) (by decide)
   have f16_offerWeight : Fld Z h16 a16 cU "offerWeight" "[J" (.null) := D16 (Or.inr (w19 hw)) (ty := (.array .long)) (by decide)
   have f16_priceMoney : Fld Z h16 a16 cU "priceMoney" "[J" (.null) := D16 (Or.inr (w21 hw)) (ty := (.array .long)) (by decide)
   have f16_priceSales : Fld Z h16 a16 cU "priceSales" "[J" (.null) := D16 (Or.inr (w23 hw)) (ty := (.array .long)) (by decide)
   have f16_holder : Fld Z h16 a16 cU "holder" "[I" (.null) := D16 (Or.inr (w25 hw)) (ty := (.array .int)) (by decide)
   have f16_utilityMoney : Fld Z h16 a16 cU "utilityMoney" "[J" (.null) := D16 (Or.inr (w31 hw)) (ty := (.array .long)) (by decide)
   have f16_utilitySales : Fld Z h16 a16 cU "utilitySales" "[J" (.null) := D16 (Or.inr (w33 hw)) (ty := (.array .long)) (by decide)
   have f16_held : Fld Z h16 a16 cU "held" "[I" (.null) := D16 (Or.inr (w35 hw)) (ty := (.array .int)) (by decide)
   have f16_distMoney : Fld Z h16 a16 cU "distMoney" "[J" (.null) := D16 (Or.inr (w37 hw)) (ty := (.array .long)) (by decide)
   have f16_distSales : Fld Z h16 a16 cU "distSales" "[J" (.null) := D16 (Or.inr (w39 hw)) (ty := (.array .long)) (by decide)
   have f16_hops : Fld Z h16 a16 cU "hops" "[I" (.null) := D16 (Or.inr (w41 hw)) (ty := (.array .int)) (by decide)
   have f16_pred : Fld Z h16 a16 cU "pred" "[I" (.null) := D16 (Or.inr (w43 hw)) (ty := (.array .int)) (by decide)
   have f16_predOffer : Fld Z h16 a16 cU "predOffer" "[I" (.null) := D16 (Or.inr (w45 hw)) (ty := (.array .int)) (by decide)
   have f16_mark : Fld Z h16 a16 cU "mark" "[B" (.null) := D16 (Or.inr (w48 hw)) (ty := (.array .byte)) (by decide)
   have f16_heap : Fld Z h16 a16 cU "heap" "[I" (.null) := D16 (Or.inr (w50 hw)) (ty := (.array .int)) (by decide)
   have f16_heapIndex : Fld Z h16 a16 cU "heapIndex" "[I" (.null) := D16 (Or.inr (w52 hw)) (ty := (.array .int)) (by decide)
   have f16_touched : Fld Z h16 a16 cU "touched" "[I" (.null) := D16 (Or.inr (w54 hw)) (ty := (.array .int)) (by decide)
   have f16_changed : Fld Z h16 a16 cU "changed" "[Z" (.null) := D16 (Or.inr (w57 hw)) (ty := (.array .boolean)) (by decide)
   have f16_changedItems : Fld Z h16 a16 cU "changedItems" "[I" (.null) := D16 (Or.inr (w59 hw)) (ty := (.array .int)) (by decide)
   have f16_searches : Fld Z h16 a16 cU "searches" "I" (.int 0) := D16 (Or.inl (w82 hw)) (ty := .int) (by decide)
   have f16_sinkMoney : Fld Z h16 a16 cU "sinkMoney" "J" (.long 0) := D16 (Or.inl (w88 hw)) (ty := .long) (by decide)
   have f16_sinkSales : Fld Z h16 a16 cU "sinkSales" "J" (.long 0) := D16 (Or.inl (w90 hw)) (ty := .long) (by decide)
   have f16_sinkMoves : Fld Z h16 a16 cU "sinkMoves" "I" (.int 0) := D16 (Or.inl (w92 hw)) (ty := .int) (by decide)
   have f16_sinkEnd : Fld Z h16 a16 cU "sinkEnd" "I" (.int 0) := D16 (Or.inl (w94 hw)) (ty := .int) (by decide)
   have f16_sinkGoesWithout : Fld Z h16 a16 cU "sinkGoesWithout" "Z" (.int 0) := D16 (Or.inl (w96 hw)) (ty := .boolean) (by decide)
   have f16_touchedCount : Fld Z h16 a16 cU "touchedCount" "I" (.int 0) := D16 (Or.inl (w113 hw)) (ty := .int) (by decide)
   have f16_heapSize : Fld Z h16 a16 cU "heapSize" "I" (.int 0) := D16 (Or.inl (w119 hw)) (ty := .int) (by decide)
   have f16_changedCount : Fld Z h16 a16 cU "changedCount" "I" (.int 0) := D16 (Or.inl (w145 hw)) (ty := .int) (by decide)
   refine oDup C at_104 rfl rfl ?_
   refine oIconst C at_105 (z := 2) rfl rfl ?_
   refine oAload C at_106 rfl rfl rfl ?_
   refine oAload C at_108 rfl rfl rfl ?_
   refine oAload C at_110 rfl rfl rfl ?_
   have ne18 : a1 ≠ a6 := oNe' A5l.lt (Nat.le_of_eq g_a6.symm)
   have ne19 : a1 ≠ a11 := oNe' (Nat.lt_of_lt_of_le A5l.lt (Nat.le_trans (Nat.le_trans (Nat.le_trans E6.1 (Nat.le_of_eq W8.size.symm)) (Nat.le_of_eq W9.size.symm)) (Nat.le_of_eq W10.size.symm))) (Nat.le_of_eq g_a11.symm)
   have f20 := (((((((((A5l.ext E6).other W8 ne18).other W9 ne18).other W10 ne18).ext E11).other W13 ne19).other W14 ne19).other W15 ne19).ext E16)
   have ne21 : a1 ≠ a16 := oNe' (Nat.lt_of_lt_of_le A1.lt (Nat.le_trans (Nat.le_trans (Nat.le_trans (Nat.le_trans (Nat.le_trans (Nat.le_trans (Nat.le_trans (Nat.le_trans (Nat.le_trans (Nat.le_trans (Nat.le_trans (Nat.le_of_eq W2.size.symm) (Nat.le_of_eq W3.size.symm)) (Nat.le_of_eq W4.size.symm)) (Nat.le_of_eq W5.size.symm)) E6.1) (Nat.le_of_eq W8.size.symm)) (Nat.le_of_eq W9.size.symm)) (Nat.le_of_eq W10.size.symm)) E11.1) (Nat.le_of_eq W13.size.symm)) (Nat.le_of_eq W14.size.symm)) (Nat.le_of_eq W15.size.symm))) (Nat.le_of_eq g_a16.symm)
   have z23 := (Nat.le_trans z17 E16.1)
   refine oCallC C (w6 hw) (w7 hw) (w5 hw) (w8 hw) at_112 rfl (by decide) pd_507326 rfl rfl (a := a16) (argsL := [.int 2, .ref a1, .ref a6, .ref a11]) (rest := [.ref a16]) rfl (W := 1) rfl (q := 115) rfl (by decide) (by decide) (by decide) (by decide) (ac1_2 l Z a0 hw _ n0 z23 a16 a1 a6 a11 X16 f16_displaced ge_a16 f16_offerStart f16_offerItem f16_offerWeight f20 ne21 f16_priceMoney f16_priceSales f16_holder f16_utilityMoney f16_utilitySales f16_held f16_distMoney f16_distSales f16_hops f16_pred f16_predOffer f16_mark f16_heap f16_heapIndex f16_touched f16_changed f16_changedItems) ?_
   rintro _ h22 ⟨a22_0, a22_1, a22_2, a22_3, a22_4, a22_5, a22_6, a22_7, a22_8, a22_9, a22_10, a22_11, a22_12, a22_13, a22_14, a22_15, a22_16, rfl, K22, s22, l22_1, l22_2, l22_3, l22_4, l22_5, l22_6, l22_7, l22_8, l22_9, l22_10, l22_11, l22_12, l22_13, l22_14, l22_15, l22_16, f22_0, f22_1, f22_2, f22_3, f22_4, f22_5, f22_6, f22_7, f22_8, f22_9, f22_10, f22_11, f22_12, f22_13, f22_14, f22_15, f22_16, f22_17, f22_18, f22_19, f22_20, f22_21, f22_22, f22_23, f22_24, f22_25, f22_26, f22_27, f22_28, f22_29, f22_30, f22_31, f22_32, f22_33, f22_34, f22_35, f22_36, f22_37⟩
   show oW _ _ _ _ _ _ _ _ _ _ _ _ _ _ _ (mkF m 115 #[.val (.long x0), .second, .val (.long x1), .second, .val (.long x2), .second, .val (.int fl), .val (.long v0), .second, .val (.long dd), .second, .val (.long v1), .second, .val (.long v2), .second, .val (.ref a1), .val (.ref a6), .val (.ref a11), .unset, .unset, .unset, .unset, .unset] [.ref a16])
   refine oAstore C at_115 rfl (Ls' := #[.val (.long x0), .second, .val (.long x1), .second, .val (.long x2), .second, .val (.int fl), .val (.long v0), .second, .val (.long dd), .second, .val (.long v1), .second, .val (.long v2), .second, .val (.ref a1), .val (.ref a6), .val (.ref a11), .val (.ref a16), .unset, .unset, .unset, .unset]) rfl (q := 117) rfl ?_
   refine oAload C at_117 rfl rfl rfl ?_
   refine oIconst C at_119 (z := 0) rfl rfl ?_
   refine oIconst C at_120 (z := 0) rfl rfl ?_
   have f24 := (K22.arr f20 nin0 (oAS ne21 (oAS ne21 (oAS ne21 (oAS ne21 (oAS ne21 (oAS ne21 (oAS ne21 (oAS ne21 (oAS ne21 (oAS ne21 (oAS ne21 (oAS ne21 (oAS ne21 (oAS ne21 (oAS ne21 (oAS ne21 (oAS ne21 (oAS ne21 (oAS ne21 (oAS ne21 (oAS ne21 oA0))))))))))))))))))))))
   have ne25 : a11 ≠ a16 := oNe' A15l.lt (Nat.le_of_eq g_a16.symm)
   have f26 := (K22.arr (A15l.ext E16) nin0 (oAS ne25 (oAS ne25 (oAS ne25 (oAS ne25 (oAS ne25 (oAS ne25 (oAS ne25 (oAS ne25 (oAS ne25 (oAS ne25 (oAS ne25 (oAS ne25 (oAS ne25 (oAS ne25 (oAS ne25 (oAS ne25 (oAS ne25 (oAS ne25 (oAS ne25 (oAS ne25 (oAS ne25 oA0))))))))))))))))))))))
   have ne27 : a6 ≠ a11 := oNe' A10l.lt (Nat.le_of_eq g_a11.symm)
   have ne28 : a6 ≠ a16 := oNe' (Nat.lt_of_lt_of_le A10l.lt (Nat.le_trans (Nat.le_trans (Nat.le_trans E11.1 (Nat.le_of_eq W13.size.symm)) (Nat.le_of_eq W14.size.symm)) (Nat.le_of_eq W15.size.symm))) (Nat.le_of_eq g_a16.symm)
   have f29 := (K22.arr (((((A10l.ext E11).other W13 ne27).other W14 ne27).other W15 ne27).ext E16) nin0 (oAS ne28 (oAS ne28 (oAS ne28 (oAS ne28 (oAS ne28 (oAS ne28 (oAS ne28 (oAS ne28 (oAS ne28 (oAS ne28 (oAS ne28 (oAS ne28 (oAS ne28 (oAS ne28 (oAS ne28 (oAS ne28 (oAS ne28 (oAS ne28 (oAS ne28 (oAS ne28 (oAS ne28 oA0))))))))))))))))))))))
   have s31 := Nat.le_trans s22 (Nat.le_of_lt l22_1)
   have s32 := Nat.le_trans s31 (Nat.le_of_lt l22_2)
   have ge30 := Nat.le_trans z23 s32
   have ne33 : a16 ≠ a22_2 := oNe' X16.lt s32
   have ne34 : a22_2 ≠ a22_5 := Nat.ne_of_lt (Nat.lt_trans (Nat.lt_trans l22_3 l22_4) l22_5)
   have s36 := Nat.le_trans s32 (Nat.le_of_lt l22_3)
   have s37 := Nat.le_trans s36 (Nat.le_of_lt l22_4)
   have s38 := Nat.le_trans s37 (Nat.le_of_lt l22_5)
   have ge35 := Nat.le_trans z23 s38
   have ne39 : a16 ≠ a22_5 := oNe' X16.lt s38
   have ne40 : a22_2 ≠ a22_3 := Nat.ne_of_lt l22_3
   have ne41 : a22_3 ≠ a22_5 := Nat.ne_of_lt (Nat.lt_trans l22_4 l22_5)
   have ge42 := Nat.le_trans z23 s36
   have ne43 : a16 ≠ a22_3 := oNe' X16.lt s36
   have ne44 : a22_2 ≠ a22_4 := Nat.ne_of_lt (Nat.lt_trans l22_3 l22_4)
   have ne45 : a22_4 ≠ a22_5 := Nat.ne_of_lt l22_5
   have ne46 : a22_3 ≠ a22_4 := Nat.ne_of_lt l22_4
   have ge47 := Nat.le_trans z23 s37
   have f49 := (K22.exa X16)
   have z50 := (Nat.le_trans z23 K22.1)
   refine oCallV C (w60 hw) (w61 hw) (w63 hw) (w62 hw) (w5 hw) (w64 hw) at_121 f49 (by decide) pd_947250 rfl rfl (a := a16) (argsL := [.int 0, .int 0]) (rest := []) rfl (W := 0) rfl (q := 124) rfl (by decide) (by decide) (by decide) (by decide) (ac4_7 l Z a0 hw _ n0 z50 a16 a1 a11 v0 v1 v2 a6 a22_5 a22_2 a22_0 a22_1 a22_3 a22_4 f22_1 f24 f22_3 f26 (or0 v0 dd v1 v2 r_v0 r_dd r_v1 r_v2 ) f22_2 f29 f22_15 f22_14 f22_9 f22_8 f22_5 f22_4 (or1 v0 dd v1 v2 r_v0 r_dd r_v1 r_v2 ) f22_7 f22_6 ge30 ne33 (Ne.symm ne34) ge35 f22_11 ne39 f22_10 (Ne.symm ne40) ne41 ge42 f22_13 ne43 f22_12 (Ne.symm ne44) ne45 (Ne.symm ne46) ge47 (Ne.symm ne41) (Ne.symm ne45) ne34 ne40 ne44 ne46) (oVQ ?_)
   rintro h48 ⟨K48, f48_0, f48_1, f48_2, f48_3⟩
   refine oAload C at_124 rfl rfl rfl ?_
   refine oIconst C at_126 (z := 1) rfl rfl ?_
   have f51 := (K48.exa f49)
   have ne52 : a16 ≠ a22_4 := oNe' f16_searches.lt s37
   have f53 := (K48.fld f22_0 (ninS ne33 (ninS ne39 (ninS ne43 (ninS ne52 nin0)))) oN0)
   have f54 := (K48.fld f22_1 (ninS ne33 (ninS ne39 (ninS ne43 (ninS ne52 nin0)))) oN0)
   have ne55 : a1 ≠ a22_4 := oNe' (Nat.lt_of_lt_of_le A1.lt (Nat.le_trans (Nat.le_trans (Nat.le_trans (Nat.le_trans (Nat.le_trans (Nat.le_trans (Nat.le_trans (Nat.le_trans (Nat.le_trans (Nat.le_trans (Nat.le_trans (Nat.le_trans (Nat.le_of_eq W2.size.symm) (Nat.le_of_eq W3.size.symm)) (Nat.le_of_eq W4.size.symm)) (Nat.le_of_eq W5.size.symm)) E6.1) (Nat.le_of_eq W8.size.symm)) (Nat.le_of_eq W9.size.symm)) (Nat.le_of_eq W10.size.symm)) E11.1) (Nat.le_of_eq W13.size.symm)) (Nat.le_of_eq W14.size.symm)) (Nat.le_of_eq W15.size.symm)) E16.1)) s37
   have ne56 : a1 ≠ a22_3 := oNe' (Nat.lt_of_lt_of_le A1.lt (Nat.le_trans (Nat.le_trans (Nat.le_trans (Nat.le_trans (Nat.le_trans (Nat.le_trans (Nat.le_trans (Nat.le_trans (Nat.le_trans (Nat.le_trans (Nat.le_trans (Nat.le_trans (Nat.le_of_eq W2.size.symm) (Nat.le_of_eq W3.size.symm)) (Nat.le_of_eq W4.size.symm)) (Nat.le_of_eq W5.size.symm)) E6.1) (Nat.le_of_eq W8.size.symm)) (Nat.le_of_eq W9.size.symm)) (Nat.le_of_eq W10.size.symm)) E11.1) (Nat.le_of_eq W13.size.symm)) (Nat.le_of_eq W14.size.symm)) (Nat.le_of_eq W15.size.symm)) E16.1)) s36
   have ne57 : a1 ≠ a22_5 := oNe' (Nat.lt_of_lt_of_le A1.lt (Nat.le_trans (Nat.le_trans (Nat.le_trans (Nat.le_trans (Nat.le_trans (Nat.le_trans (Nat.le_trans (Nat.le_trans (Nat.le_trans (Nat.le_trans (Nat.le_trans (Nat.le_trans (Nat.le_of_eq W2.size.symm) (Nat.le_of_eq W3.size.symm)) (Nat.le_of_eq W4.size.symm)) (Nat.le_of_eq W5.size.symm)) E6.1) (Nat.le_of_eq W8.size.symm)) (Nat.le_of_eq W9.size.symm)) (Nat.le_of_eq W10.size.symm)) E11.1) (Nat.le_of_eq W13.size.symm)) (Nat.le_of_eq W14.size.symm)) (Nat.le_of_eq W15.size.symm)) E16.1)) s38
   have ne58 : a1 ≠ a22_2 := oNe' (Nat.lt_of_lt_of_le A1.lt (Nat.le_trans (Nat.le_trans (Nat.le_trans (Nat.le_trans (Nat.le_trans (Nat.le_trans (Nat.le_trans (Nat.le_trans (Nat.le_trans (Nat.le_trans (Nat.le_trans (Nat.le_trans (Nat.le_of_eq W2.size.symm) (Nat.le_of_eq W3.size.symm)) (Nat.le_of_eq W4.size.symm)) (Nat.le_of_eq W5.size.symm)) E6.1) (Nat.le_of_eq W8.size.symm)) (Nat.le_of_eq W9.size.symm)) (Nat.le_of_eq W10.size.symm)) E11.1) (Nat.le_of_eq W13.size.symm)) (Nat.le_of_eq W14.size.symm)) (Nat.le_of_eq W15.size.symm)) E16.1)) s32
   have f59 := (K48.arr f24 (ninS ne58 (ninS ne57 (ninS ne56 (ninS ne55 nin0)))) oA0)
   have f60 := (K48.fld f22_3 (ninS ne33 (ninS ne39 (ninS ne43 (ninS ne52 nin0)))) oN0)
   have ne61 : a11 ≠ a22_4 := oNe' (Nat.lt_of_lt_of_le A11.lt (Nat.le_trans (Nat.le_trans (Nat.le_trans (Nat.le_of_eq W13.size.symm) (Nat.le_of_eq W14.size.symm)) (Nat.le_of_eq W15.size.symm)) E16.1)) s37
   have ne62 : a11 ≠ a22_3 := oNe' (Nat.lt_of_lt_of_le A11.lt (Nat.le_trans (Nat.le_trans (Nat.le_trans (Nat.le_of_eq W13.size.symm) (Nat.le_of_eq W14.size.symm)) (Nat.le_of_eq W15.size.symm)) E16.1)) s36
   have ne63 : a11 ≠ a22_5 := oNe' (Nat.lt_of_lt_of_le A11.lt (Nat.le_trans (Nat.le_trans (Nat.le_trans (Nat.le_of_eq W13.size.symm) (Nat.le_of_eq W14.size.symm)) (Nat.le_of_eq W15.size.symm)) E16.1)) s38
   have ne64 : a11 ≠ a22_2 := oNe' (Nat.lt_of_lt_of_le A11.lt (Nat.le_trans (Nat.le_trans (Nat.le_trans (Nat.le_of_eq W13.size.symm) (Nat.le_of_eq W14.size.symm)) (Nat.le_of_eq W15.size.symm)) E16.1)) s32
   have f65 := (K48.arr f26 (ninS ne64 (ninS ne63 (ninS ne62 (ninS ne61 nin0)))) oA0)
   have f66 := (K48.fld f22_2 (ninS ne33 (ninS ne39 (ninS ne43 (ninS ne52 nin0)))) oN0)
   have ne67 : a6 ≠ a22_4 := oNe' (Nat.lt_of_lt_of_le A6.lt (Nat.le_trans (Nat.le_trans (Nat.le_trans (Nat.le_trans (Nat.le_trans (Nat.le_trans (Nat.le_trans (Nat.le_of_eq W8.size.symm) (Nat.le_of_eq W9.size.symm)) (Nat.le_of_eq W10.size.symm)) E11.1) (Nat.le_of_eq W13.size.symm)) (Nat.le_of_eq W14.size.symm)) (Nat.le_of_eq W15.size.symm)) E16.1)) s37
   have ne68 : a6 ≠ a22_3 := oNe' (Nat.lt_of_lt_of_le A6.lt (Nat.le_trans (Nat.le_trans (Nat.le_trans (Nat.le_trans (Nat.le_trans (Nat.le_trans (Nat.le_trans (Nat.le_of_eq W8.size.symm) (Nat.le_of_eq W9.size.symm)) (Nat.le_of_eq W10.size.symm)) E11.1) (Nat.le_of_eq W13.size.symm)) (Nat.le_of_eq W14.size.symm)) (Nat.le_of_eq W15.size.symm)) E16.1)) s36
   have ne69 : a6 ≠ a22_5 := oNe' (Nat.lt_of_lt_of_le A6.lt (Nat.le_trans (Nat.le_trans (Nat.le_trans (Nat.le_trans (Nat.le_trans (Nat.le_trans (Nat.le_trans (Nat.le_of_eq W8.size.symm) (Nat.le_of_eq W9.size.symm)) (Nat.le_of_eq W10.size.symm)) E11.1) (Nat.le_of_eq W13.size.symm)) (Nat.le_of_eq W14.size.symm)) (Nat.le_of_eq W15.size.symm)) E16.1)) s38
   have ne70 : a6 ≠ a22_2 := oNe' (Nat.lt_of_lt_of_le A6.lt (Nat.le_trans (Nat.le_trans (Nat.le_trans (Nat.le_trans (Nat.le_trans (Nat.le_trans (Nat.le_trans (Nat.le_of_eq W8.size.symm) (Nat.le_of_eq W9.size.symm)) (Nat.le_of_eq W10.size.symm)) E11.1) (Nat.le_of_eq W13.size.symm)) (Nat.le_of_eq W14.size.symm)) (Nat.le_of_eq W15.size.symm)) E16.1)) s32
   have f71 := (K48.arr f29 (ninS ne70 (ninS ne69 (ninS ne68 (ninS ne67 nin0)))) oA0)
   have f72 := (K48.fld f22_5 (ninS ne33 (ninS ne39 (ninS ne43 (ninS ne52 nin0)))) oN0)
   have ne73 : a22_0 ≠ a22_4 := Nat.ne_of_lt (Nat.lt_trans (Nat.lt_trans (Nat.lt_trans l22_1 l22_2) l22_3) l22_4)
   have ne74 : a22_0 ≠ a22_3 := Nat.ne_of_lt (Nat.lt_trans (Nat.lt_trans l22_1 l22_2) l22_3)
   have ne75 : a22_0 ≠ a22_5 := Nat.ne_of_lt (Nat.lt_trans (Nat.lt_trans (Nat.lt_trans (Nat.lt_trans l22_1 l22_2) l22_3) l22_4) l22_5)
   have ne76 : a22_0 ≠ a22_2 := Nat.ne_of_lt (Nat.lt_trans l22_1 l22_2)
   have f77 := (K48.arr f22_4 (ninS ne76 (ninS ne75 (ninS ne74 (ninS ne73 nin0)))) oA0)
   have ne78 : a16 ≠ a22_0 := oNe' f16_searches.lt s22
   have f79 := (K48.fld f22_7 (ninS ne33 (ninS ne39 (ninS ne43 (ninS ne52 nin0)))) oN0)
   have ne80 : a22_1 ≠ a22_4 := Nat.ne_of_lt (Nat.lt_trans (Nat.lt_trans l22_2 l22_3) l22_4)
   have ne81 : a22_1 ≠ a22_3 := Nat.ne_of_lt (Nat.lt_trans l22_2 l22_3)
   have ne82 : a22_1 ≠ a22_5 := Nat.ne_of_lt (Nat.lt_trans (Nat.lt_trans (Nat.lt_trans l22_2 l22_3) l22_4) l22_5)
   have ne83 : a22_1 ≠ a22_2 := Nat.ne_of_lt l22_2
   have f84 := (K48.arr f22_6 (ninS ne83 (ninS ne82 (ninS ne81 (ninS ne80 nin0)))) oA0)
   have ne85 : a16 ≠ a22_1 := oNe' f16_searches.lt s31
   have f86 := (K48.fld (K22.fld f16_searches nin0 (oNF (Or.inr (oSn0 hw 21 0)) (oNF (Or.inr (oSn0 hw 21 1)) (oNF (Or.inr (oSn0 hw 21 2)) (oNF (Or.inr (oSn0 hw 21 3)) (oNF (Or.inr (oSn0 hw 21 4)) (oNF (Or.inr (oSn0 hw 21 5)) (oNF (Or.inr (oSn0 hw 21 6)) (oNF (Or.inr (oSn0 hw 21 7)) (oNF (Or.inr (oSn0 hw 21 8)) (oNF (Or.inr (oSn0 hw 21 9)) (oNF (Or.inr (oSn0 hw 21 10)) (oNF (Or.inr (oSn0 hw 21 11)) (oNF (Or.inr (oSn0 hw 21 12)) (oNF (Or.inr (oSn0 hw 21 13)) (oNF (Or.inr (oSn0 hw 21 14)) (oNF (Or.inr (oSn0 hw 21 15)) (oNF (Or.inr (oSn0 hw 21 16)) (oNF (Or.inr (oSn0 hw 21 17)) (oNF (Or.inr (oSn0 hw 21 18)) (oNF (Or.inr (oSn0 hw 21 19)) (oNF (Or.inr (oSn0 hw 21 20)) oN0)))))))))))))))))))))) (ninS ne33 (ninS ne39 (ninS ne43 (ninS ne52 nin0)))) oN0)
   have f87 := (K48.fld (K22.fld f16_sinkMoney nin0 (oNF (Or.inr (oSn0 hw 22 0)) (oNF (Or.inr (oSn0 hw 22 1)) (oNF (Or.inr (oSn0 hw 22 2)) (oNF (Or.inr (oSn0 hw 22 3)) (oNF (Or.inr (oSn0 hw 22 4)) (oNF (Or.inr (oSn0 hw 22 5)) (oNF (Or.inr (oSn0 hw 22 6)) (oNF (Or.inr (oSn0 hw 22 7)) (oNF (Or.inr (oSn0 hw 22 8)) (oNF (Or.inr (oSn0 hw 22 9)) (oNF (Or.inr (oSn0 hw 22 10)) (oNF (Or.inr (oSn0 hw 22 11)) (oNF (Or.inr (oSn0 hw 22 12)) (oNF (Or.inr (oSn0 hw 22 13)) (oNF (Or.inr (oSn0 hw 22 14)) (oNF (Or.inr (oSn0 hw 22 15)) (oNF (Or.inr (oSn0 hw 22 16)) (oNF (Or.inr (oSn0 hw 22 17)) (oNF (Or.inr (oSn0 hw 22 18)) (oNF (Or.inr (oSn0 hw 22 19)) (oNF (Or.inr (oSn0 hw 22 20)) oN0)))))))))))))))))))))) (ninS ne33 (ninS ne39 (ninS ne43 (ninS ne52 nin0)))) oN0)
   have f88 := (K48.fld (K22.fld f16_sinkSales nin0 (oNF (Or.inr (oSn0 hw 23 0)) (oNF (Or.inr (oSn0 hw 23 1)) (oNF (Or.inr (oSn0 hw 23 2)) (oNF (Or.inr (oSn0 hw 23 3)) (oNF (Or.inr (oSn0 hw 23 4)) (oNF (Or.inr (oSn0 hw 23 5)) (oNF (Or.inr (oSn0 hw 23 6)) (oNF (Or.inr (oSn0 hw 23 7)) (oNF (Or.inr (oSn0 hw 23 8)) (oNF (Or.inr (oSn0 hw 23 9)) (oNF (Or.inr (oSn0 hw 23 10)) (oNF (Or.inr (oSn0 hw 23 11)) (oNF (Or.inr (oSn0 hw 23 12)) (oNF (Or.inr (oSn0 hw 23 13)) (oNF (Or.inr (oSn0 hw 23 14)) (oNF (Or.inr (oSn0 hw 23 15)) (oNF (Or.inr (oSn0 hw 23 16)) (oNF (Or.inr (oSn0 hw 23 17)) (oNF (Or.inr (oSn0 hw 23 18)) (oNF (Or.inr (oSn0 hw 23 19)) (oNF (Or.inr (oSn0 hw 23 20)) oN0)))))))))))))))))))))) (ninS ne33 (ninS ne39 (ninS ne43 (ninS ne52 nin0)))) oN0)
   have f89 := (K48.fld (K22.fld f16_sinkMoves nin0 (oNF (Or.inr (oSn0 hw 24 0)) (oNF (Or.inr (oSn0 hw 24 1)) (oNF (Or.inr (oSn0 hw 24 2)) (oNF (Or.inr (oSn0 hw 24 3)) (oNF (Or.inr (oSn0 hw 24 4)) (oNF (Or.inr (oSn0 hw 24 5)) (oNF (Or.inr (oSn0 hw 24 6)) (oNF (Or.inr (oSn0 hw 24 7)) (oNF (Or.inr (oSn0 hw 24 8)) (oNF (Or.inr (oSn0 hw 24 9)) (oNF (Or.inr (oSn0 hw 24 10)) (oNF (Or.inr (oSn0 hw 24 11)) (oNF (Or.inr (oSn0 hw 24 12)) (oNF (Or.inr (oSn0 hw 24 13)) (oNF (Or.inr (oSn0 hw 24 14)) (oNF (Or.inr (oSn0 hw 24 15)) (oNF (Or.inr (oSn0 hw 24 16)) (oNF (Or.inr (oSn0 hw 24 17)) (oNF (Or.inr (oSn0 hw 24 18)) (oNF (Or.inr (oSn0 hw 24 19)) (oNF (Or.inr (oSn0 hw 24 20)) oN0)))))))))))))))))))))) (ninS ne33 (ninS ne39 (ninS ne43 (ninS ne52 nin0)))) oN0)
   have f90 := (K48.fld (K22.fld f16_sinkEnd nin0 (oNF (Or.inr (oSn0 hw 25 0)) (oNF (Or.inr (oSn0 hw 25 1)) (oNF (Or.inr (oSn0 hw 25 2)) (oNF (Or.inr (oSn0 hw 25 3)) (oNF (Or.inr (oSn0 hw 25 4)) (oNF (Or.inr (oSn0 hw 25 5)) (oNF (Or.inr (oSn0 hw 25 6)) (oNF (Or.inr (oSn0 hw 25 7)) (oNF (Or.inr (oSn0 hw 25 8)) (oNF (Or.inr (oSn0 hw 25 9)) (oNF (Or.inr (oSn0 hw 25 10)) (oNF (Or.inr (oSn0 hw 25 11)) (oNF (Or.inr (oSn0 hw 25 12)) (oNF (Or.inr (oSn0 hw 25 13)) (oNF (Or.inr (oSn0 hw 25 14)) (oNF (Or.inr (oSn0 hw 25 15)) (oNF (Or.inr (oSn0 hw 25 16)) (oNF (Or.inr (oSn0 hw 25 17)) (oNF (Or.inr (oSn0 hw 25 18)) (oNF (Or.inr (oSn0 hw 25 19)) (oNF (Or.inr (oSn0 hw 25 20)) oN0)))))))))))))))))))))) (ninS ne33 (ninS ne39 (ninS ne43 (ninS ne52 nin0)))) oN0)
   have f91 := (K48.fld (K22.fld f16_sinkGoesWithout nin0 (oNF (Or.inr (oSn0 hw 26 0)) (oNF (Or.inr (oSn0 hw 26 1)) (oNF (Or.inr (oSn0 hw 26 2)) (oNF (Or.inr (oSn0 hw 26 3)) (oNF (Or.inr (oSn0 hw 26 4)) (oNF (Or.inr (oSn0 hw 26 5)) (oNF (Or.inr (oSn0 hw 26 6)) (oNF (Or.inr (oSn0 hw 26 7)) (oNF (Or.inr (oSn0 hw 26 8)) (oNF (Or.inr (oSn0 hw 26 9)) (oNF (Or.inr (oSn0 hw 26 10)) (oNF (Or.inr (oSn0 hw 26 11)) (oNF (Or.inr (oSn0 hw 26 12)) (oNF (Or.inr (oSn0 hw 26 13)) (oNF (Or.inr (oSn0 hw 26 14)) (oNF (Or.inr (oSn0 hw 26 15)) (oNF (Or.inr (oSn0 hw 26 16)) (oNF (Or.inr (oSn0 hw 26 17)) (oNF (Or.inr (oSn0 hw 26 18)) (oNF (Or.inr (oSn0 hw 26 19)) (oNF (Or.inr (oSn0 hw 26 20)) oN0)))))))))))))))))))))) (ninS ne33 (ninS ne39 (ninS ne43 (ninS ne52 nin0)))) oN0)
   have f92 := (K48.fld f22_27 (ninS ne33 (ninS ne39 (ninS ne43 (ninS ne52 nin0)))) oN0)
   have ne93 : a22_4 ≠ a22_11 := Nat.ne_of_lt (Nat.lt_trans (Nat.lt_trans (Nat.lt_trans (Nat.lt_trans (Nat.lt_trans (Nat.lt_trans l22_5 l22_6) l22_7) l22_8) l22_9) l22_10) l22_11)
   have ne94 : a22_3 ≠ a22_11 := Nat.ne_of_lt (Nat.lt_trans (Nat.lt_trans (Nat.lt_trans (Nat.lt_trans (Nat.lt_trans (Nat.lt_trans (Nat.lt_trans l22_4 l22_5) l22_6) l22_7) l22_8) l22_9) l22_10) l22_11)
   have ne95 : a22_5 ≠ a22_11 := Nat.ne_of_lt (Nat.lt_trans (Nat.lt_trans (Nat.lt_trans (Nat.lt_trans (Nat.lt_trans l22_6 l22_7) l22_8) l22_9) l22_10) l22_11)
   have ne96 : a22_2 ≠ a22_11 := Nat.ne_of_lt (Nat.lt_trans (Nat.lt_trans (Nat.lt_trans (Nat.lt_trans (Nat.lt_trans (Nat.lt_trans (Nat.lt_trans (Nat.lt_trans l22_3 l22_4) l22_5) l22_6) l22_7) l22_8) l22_9) l22_10) l22_11)
   have f97 := (K48.arr f22_26 (ninS (Ne.symm ne96) (ninS (Ne.symm ne95) (ninS (Ne.symm ne94) (ninS (Ne.symm ne93) nin0)))) oA0)
   have f98 := (K48.fld f22_33 (ninS ne33 (ninS ne39 (ninS ne43 (ninS ne52 nin0)))) oN0)
   have f99 := (K48.fld (K22.fld f16_touchedCount nin0 (oNF (Or.inr (oSn0 hw 27 0)) (oNF (Or.inr (oSn0 hw 27 1)) (oNF (Or.inr (oSn0 hw 27 2)) (oNF (Or.inr (oSn0 hw 27 3)) (oNF (Or.inr (oSn0 hw 27 4)) (oNF (Or.inr (oSn0 hw 27 5)) (oNF (Or.inr (oSn0 hw 27 6)) (oNF (Or.inr (oSn0 hw 27 7)) (oNF (Or.inr (oSn0 hw 27 8)) (oNF (Or.inr (oSn0 hw 27 9)) (oNF (Or.inr (oSn0 hw 27 10)) (oNF (Or.inr (oSn0 hw 27 11)) (oNF (Or.inr (oSn0 hw 27 12)) (oNF (Or.inr (oSn0 hw 27 13)) (oNF (Or.inr (oSn0 hw 27 14)) (oNF (Or.inr (oSn0 hw 27 15)) (oNF (Or.inr (oSn0 hw 27 16)) (oNF (Or.inr (oSn0 hw 27 17)) (oNF (Or.inr (oSn0 hw 27 18)) (oNF (Or.inr (oSn0 hw 27 19)) (oNF (Or.inr (oSn0 hw 27 20)) oN0)))))))))))))))))))))) (ninS ne33 (ninS ne39 (ninS ne43 (ninS ne52 nin0)))) oN0)
   have ne100 : a22_4 ≠ a22_14 := Nat.ne_of_lt (Nat.lt_trans (Nat.lt_trans (Nat.lt_trans (Nat.lt_trans (Nat.lt_trans (Nat.lt_trans (Nat.lt_trans (Nat.lt_trans (Nat.lt_trans l22_5 l22_6) l22_7) l22_8) l22_9) l22_10) l22_11) l22_12) l22_13) l22_14)
   have ne101 : a22_3 ≠ a22_14 := Nat.ne_of_lt (Nat.lt_trans (Nat.lt_trans (Nat.lt_trans (Nat.lt_trans (Nat.lt_trans (Nat.lt_trans (Nat.lt_trans (Nat.lt_trans (Nat.lt_trans (Nat.lt_trans l22_4 l22_5) l22_6) l22_7) l22_8) l22_9) l22_10) l22_11) l22_12) l22_13) l22_14)
   have ne102 : a22_5 ≠ a22_14 := Nat.ne_of_lt (Nat.lt_trans (Nat.lt_trans (Nat.lt_trans (Nat.lt_trans (Nat.lt_trans (Nat.lt_trans (Nat.lt_trans (Nat.lt_trans l22_6 l22_7) l22_8) l22_9) l22_10) l22_11) l22_12) l22_13) l22_14)
   have ne103 : a22_2 ≠ a22_14 := Nat.ne_of_lt (Nat.lt_trans (Nat.lt_trans (Nat.lt_trans (Nat.lt_trans (Nat.lt_trans (Nat.lt_trans (Nat.lt_trans (Nat.lt_trans (Nat.lt_trans (Nat.lt_trans (Nat.lt_trans l22_3 l22_4) l22_5) l22_6) l22_7) l22_8) l22_9) l22_10) l22_11) l22_12) l22_13) l22_14)
   have f104 := (K48.arr f22_32 (ninS (Ne.symm ne103) (ninS (Ne.symm ne102) (ninS (Ne.symm ne101) (ninS (Ne.symm ne100) nin0)))) oA0)
   have f105 := (K48.fld f22_17 (ninS ne33 (ninS ne39 (ninS ne43 (ninS ne52 nin0)))) oN0)
   have ne106 : a22_4 ≠ a22_6 := Nat.ne_of_lt (Nat.lt_trans l22_5 l22_6)
   have ne107 : a22_3 ≠ a22_6 := Nat.ne_of_lt (Nat.lt_trans (Nat.lt_trans l22_4 l22_5) l22_6)
   have ne108 : a22_5 ≠ a22_6 := Nat.ne_of_lt l22_6
   have ne109 : a22_2 ≠ a22_6 := Nat.ne_of_lt (Nat.lt_trans (Nat.lt_trans (Nat.lt_trans l22_3 l22_4) l22_5) l22_6)
   have f110 := (K48.arr f22_16 (ninS (Ne.symm ne109) (ninS (Ne.symm ne108) (ninS (Ne.symm ne107) (ninS (Ne.symm ne106) nin0)))) oA0)
   have f111 := (K48.fld f22_19 (ninS ne33 (ninS ne39 (ninS ne43 (ninS ne52 nin0)))) oN0)
   have ne112 : a22_4 ≠ a22_7 := Nat.ne_of_lt (Nat.lt_trans (Nat.lt_trans l22_5 l22_6) l22_7)
   have ne113 : a22_3 ≠ a22_7 := Nat.ne_of_lt (Nat.lt_trans (Nat.lt_trans (Nat.lt_trans l22_4 l22_5) l22_6) l22_7)
   have ne114 : a22_5 ≠ a22_7 := Nat.ne_of_lt (Nat.lt_trans l22_6 l22_7)
   have ne115 : a22_2 ≠ a22_7 := Nat.ne_of_lt (Nat.lt_trans (Nat.lt_trans (Nat.lt_trans (Nat.lt_trans l22_3 l22_4) l22_5) l22_6) l22_7)
   have f116 := (K48.arr f22_18 (ninS (Ne.symm ne115) (ninS (Ne.symm ne114) (ninS (Ne.symm ne113) (ninS (Ne.symm ne112) nin0)))) oA0)
   have f117 := (K48.fld f22_21 (ninS ne33 (ninS ne39 (ninS ne43 (ninS ne52 nin0)))) oN0)
   have ne118 : a22_4 ≠ a22_8 := Nat.ne_of_lt (Nat.lt_trans (Nat.lt_trans (Nat.lt_trans l22_5 l22_6) l22_7) l22_8)
   have ne119 : a22_3 ≠ a22_8 := Nat.ne_of_lt (Nat.lt_trans (Nat.lt_trans (Nat.lt_trans (Nat.lt_trans l22_4 l22_5) l22_6) l22_7) l22_8)
   have ne120 : a22_5 ≠ a22_8 := Nat.ne_of_lt (Nat.lt_trans (Nat.lt_trans l22_6 l22_7) l22_8)
   have ne121 : a22_2 ≠ a22_8 := Nat.ne_of_lt (Nat.lt_trans (Nat.lt_trans (Nat.lt_trans (Nat.lt_trans (Nat.lt_trans l22_3 l22_4) l22_5) l22_6) l22_7) l22_8)
   have f122 := (K48.arr f22_20 (ninS (Ne.symm ne121) (ninS (Ne.symm ne120) (ninS (Ne.symm ne119) (ninS (Ne.symm ne118) nin0)))) oA0)
   have f123 := (K48.fld f22_23 (ninS ne33 (ninS ne39 (ninS ne43 (ninS ne52 nin0)))) oN0)
   have ne124 : a22_4 ≠ a22_9 := Nat.ne_of_lt (Nat.lt_trans (Nat.lt_trans (Nat.lt_trans (Nat.lt_trans l22_5 l22_6) l22_7) l22_8) l22_9)
   have ne125 : a22_3 ≠ a22_9 := Nat.ne_of_lt (Nat.lt_trans (Nat.lt_trans (Nat.lt_trans (Nat.lt_trans (Nat.lt_trans l22_4 l22_5) l22_6) l22_7) l22_8) l22_9)
   have ne126 : a22_5 ≠ a22_9 := Nat.ne_of_lt (Nat.lt_trans (Nat.lt_trans (Nat.lt_trans l22_6 l22_7) l22_8) l22_9)
   have ne127 : a22_2 ≠ a22_9 := Nat.ne_of_lt (Nat.lt_trans (Nat.lt_trans (Nat.lt_trans (Nat.lt_trans (Nat.lt_trans (Nat.lt_trans l22_3 l22_4) l22_5) l22_6) l22_7) l22_8) l22_9)
   have f128 := (K48.arr f22_22 (ninS (Ne.symm ne127) (ninS (Ne.symm ne126) (ninS (Ne.symm ne125) (ninS (Ne.symm ne124) nin0)))) oA0)
   have f129 := (K48.fld f22_25 (ninS ne33 (ninS ne39 (ninS ne43 (ninS ne52 nin0)))) oN0)
   have ne130 : a22_4 ≠ a22_10 := Nat.ne_of_lt (Nat.lt_trans (Nat.lt_trans (Nat.lt_trans (Nat.lt_trans (Nat.lt_trans l22_5 l22_6) l22_7) l22_8) l22_9) l22_10)
   have ne131 : a22_3 ≠ a22_10 := Nat.ne_of_lt (Nat.lt_trans (Nat.lt_trans (Nat.lt_trans (Nat.lt_trans (Nat.lt_trans (Nat.lt_trans l22_4 l22_5) l22_6) l22_7) l22_8) l22_9) l22_10)
   have ne132 : a22_5 ≠ a22_10 := Nat.ne_of_lt (Nat.lt_trans (Nat.lt_trans (Nat.lt_trans (Nat.lt_trans l22_6 l22_7) l22_8) l22_9) l22_10)
   have ne133 : a22_2 ≠ a22_10 := Nat.ne_of_lt (Nat.lt_trans (Nat.lt_trans (Nat.lt_trans (Nat.lt_trans (Nat.lt_trans (Nat.lt_trans (Nat.lt_trans l22_3 l22_4) l22_5) l22_6) l22_7) l22_8) l22_9) l22_10)
   have f134 := (K48.arr f22_24 (ninS (Ne.symm ne133) (ninS (Ne.symm ne132) (ninS (Ne.symm ne131) (ninS (Ne.symm ne130) nin0)))) oA0)
   have f135 := (K48.fld (K22.fld f16_heapSize nin0 (oNF (Or.inr (oSn0 hw 28 0)) (oNF (Or.inr (oSn0 hw 28 1)) (oNF (Or.inr (oSn0 hw 28 2)) (oNF (Or.inr (oSn0 hw 28 3)) (oNF (Or.inr (oSn0 hw 28 4)) (oNF (Or.inr (oSn0 hw 28 5)) (oNF (Or.inr (oSn0 hw 28 6)) (oNF (Or.inr (oSn0 hw 28 7)) (oNF (Or.inr (oSn0 hw 28 8)) (oNF (Or.inr (oSn0 hw 28 9)) (oNF (Or.inr (oSn0 hw 28 10)) (oNF (Or.inr (oSn0 hw 28 11)) (oNF (Or.inr (oSn0 hw 28 12)) (oNF (Or.inr (oSn0 hw 28 13)) (oNF (Or.inr (oSn0 hw 28 14)) (oNF (Or.inr (oSn0 hw 28 15)) (oNF (Or.inr (oSn0 hw 28 16)) (oNF (Or.inr (oSn0 hw 28 17)) (oNF (Or.inr (oSn0 hw 28 18)) (oNF (Or.inr (oSn0 hw 28 19)) (oNF (Or.inr (oSn0 hw 28 20)) oN0)))))))))))))))))))))) (ninS ne33 (ninS ne39 (ninS ne43 (ninS ne52 nin0)))) oN0)
   have f136 := (K48.fld f22_29 (ninS ne33 (ninS ne39 (ninS ne43 (ninS ne52 nin0)))) oN0)
   have ne137 : a22_4 ≠ a22_12 := Nat.ne_of_lt (Nat.lt_trans (Nat.lt_trans (Nat.lt_trans (Nat.lt_trans (Nat.lt_trans (Nat.lt_trans (Nat.lt_trans l22_5 l22_6) l22_7) l22_8) l22_9) l22_10) l22_11) l22_12)
   have ne138 : a22_3 ≠ a22_12 := Nat.ne_of_lt (Nat.lt_trans (Nat.lt_trans (Nat.lt_trans (Nat.lt_trans (Nat.lt_trans (Nat.lt_trans (Nat.lt_trans (Nat.lt_trans l22_4 l22_5) l22_6) l22_7) l22_8) l22_9) l22_10) l22_11) l22_12)
   have ne139 : a22_5 ≠ a22_12 := Nat.ne_of_lt (Nat.lt_trans (Nat.lt_trans (Nat.lt_trans (Nat.lt_trans (Nat.lt_trans (Nat.lt_trans l22_6 l22_7) l22_8) l22_9) l22_10) l22_11) l22_12)
   have ne140 : a22_2 ≠ a22_12 := Nat.ne_of_lt (Nat.lt_trans (Nat.lt_trans (Nat.lt_trans (Nat.lt_trans (Nat.lt_trans (Nat.lt_trans (Nat.lt_trans (Nat.lt_trans (Nat.lt_trans l22_3 l22_4) l22_5) l22_6) l22_7) l22_8) l22_9) l22_10) l22_11) l22_12)
   have f141 := (K48.arr f22_28 (ninS (Ne.symm ne140) (ninS (Ne.symm ne139) (ninS (Ne.symm ne138) (ninS (Ne.symm ne137) nin0)))) oA0)
   have f142 := (K48.fld f22_31 (ninS ne33 (ninS ne39 (ninS ne43 (ninS ne52 nin0)))) oN0)
   have ne143 : a22_4 ≠ a22_13 := Nat.ne_of_lt (Nat.lt_trans (Nat.lt_trans (Nat.lt_trans (Nat.lt_trans (Nat.lt_trans (Nat.lt_trans (Nat.lt_trans (Nat.lt_trans l22_5 l22_6) l22_7) l22_8) l22_9) l22_10) l22_11) l22_12) l22_13)
   have ne144 : a22_3 ≠ a22_13 := Nat.ne_of_lt (Nat.lt_trans (Nat.lt_trans (Nat.lt_trans (Nat.lt_trans (Nat.lt_trans (Nat.lt_trans (Nat.lt_trans (Nat.lt_trans (Nat.lt_trans l22_4 l22_5) l22_6) l22_7) l22_8) l22_9) l22_10) l22_11) l22_12) l22_13)
   have ne145 : a22_5 ≠ a22_13 := Nat.ne_of_lt (Nat.lt_trans (Nat.lt_trans (Nat.lt_trans (Nat.lt_trans (Nat.lt_trans (Nat.lt_trans (Nat.lt_trans l22_6 l22_7) l22_8) l22_9) l22_10) l22_11) l22_12) l22_13)
   have ne146 : a22_2 ≠ a22_13 := Nat.ne_of_lt (Nat.lt_trans (Nat.lt_trans (Nat.lt_trans (Nat.lt_trans (Nat.lt_trans (Nat.lt_trans (Nat.lt_trans (Nat.lt_trans (Nat.lt_trans (Nat.lt_trans l22_3 l22_4) l22_5) l22_6) l22_7) l22_8) l22_9) l22_10) l22_11) l22_12) l22_13)
   have f147 := (K48.arr f22_30 (ninS (Ne.symm ne146) (ninS (Ne.symm ne145) (ninS (Ne.symm ne144) (ninS (Ne.symm ne143) nin0)))) oA0)
   have f148 := (K48.fld f22_9 (ninS ne33 (ninS ne39 (ninS ne43 (ninS ne52 nin0)))) oN0)
   have f149 := (K48.fld f22_11 (ninS ne33 (ninS ne39 (ninS ne43 (ninS ne52 nin0)))) oN0)
   have f150 := (K48.fld f22_13 (ninS ne33 (ninS ne39 (ninS ne43 (ninS ne52 nin0)))) oN0)
   have s152 := Nat.le_trans s38 (Nat.le_of_lt l22_6)
   have s153 := Nat.le_trans s152 (Nat.le_of_lt l22_7)
   have s154 := Nat.le_trans s153 (Nat.le_of_lt l22_8)
   have s155 := Nat.le_trans s154 (Nat.le_of_lt l22_9)
   have s156 := Nat.le_trans s155 (Nat.le_of_lt l22_10)
   have s157 := Nat.le_trans s156 (Nat.le_of_lt l22_11)
   have ne151 : a16 ≠ a22_11 := oNe' f16_changedCount.lt s157
   have s159 := Nat.le_trans s157 (Nat.le_of_lt l22_12)
   have s160 := Nat.le_trans s159 (Nat.le_of_lt l22_13)
   have s161 := Nat.le_trans s160 (Nat.le_of_lt l22_14)
   have ne158 : a16 ≠ a22_14 := oNe' f16_changedCount.lt s161
   have ne162 : a16 ≠ a22_6 := oNe' f16_changedCount.lt s152
   have ne163 : a16 ≠ a22_7 := oNe' f16_changedCount.lt s153
   have ne164 : a16 ≠ a22_8 := oNe' f16_changedCount.lt s154
   have ne165 : a16 ≠ a22_9 := oNe' f16_changedCount.lt s155
   have ne166 : a16 ≠ a22_10 := oNe' f16_changedCount.lt s156
   have ne167 : a16 ≠ a22_12 := oNe' f16_changedCount.lt s159
   have ne168 : a16 ≠ a22_13 := oNe' f16_changedCount.lt s160
   have ge169 := Nat.le_trans z23 s157
   have ne170 : a22_11 ≠ a22_14 := Nat.ne_of_lt (Nat.lt_trans (Nat.lt_trans l22_12 l22_13) l22_14)
   have ge171 := Nat.le_trans z23 s161
   have ne172 : a22_6 ≠ a22_11 := Nat.ne_of_lt (Nat.lt_trans (Nat.lt_trans (Nat.lt_trans (Nat.lt_trans l22_7 l22_8) l22_9) l22_10) l22_11)
   have ne173 : a22_6 ≠ a22_14 := Nat.ne_of_lt (Nat.lt_trans (Nat.lt_trans (Nat.lt_trans (Nat.lt_trans (Nat.lt_trans (Nat.lt_trans (Nat.lt_trans l22_7 l22_8) l22_9) l22_10) l22_11) l22_12) l22_13) l22_14)
   have ge174 := Nat.le_trans z23 s152
   have ne175 : a22_7 ≠ a22_11 := Nat.ne_of_lt (Nat.lt_trans (Nat.lt_trans (Nat.lt_trans l22_8 l22_9) l22_10) l22_11)
   have ne176 : a22_7 ≠ a22_14 := Nat.ne_of_lt (Nat.lt_trans (Nat.lt_trans (Nat.lt_trans (Nat.lt_trans (Nat.lt_trans (Nat.lt_trans l22_8 l22_9) l22_10) l22_11) l22_12) l22_13) l22_14)
   have ne177 : a22_6 ≠ a22_7 := Nat.ne_of_lt l22_7
   have ge178 := Nat.le_trans z23 s153
   have ne179 : a22_8 ≠ a22_11 := Nat.ne_of_lt (Nat.lt_trans (Nat.lt_trans l22_9 l22_10) l22_11)
   have ne180 : a22_8 ≠ a22_14 := Nat.ne_of_lt (Nat.lt_trans (Nat.lt_trans (Nat.lt_trans (Nat.lt_trans (Nat.lt_trans l22_9 l22_10) l22_11) l22_12) l22_13) l22_14)
   have ne181 : a22_6 ≠ a22_8 := Nat.ne_of_lt (Nat.lt_trans l22_7 l22_8)
   have ne182 : a22_7 ≠ a22_8 := Nat.ne_of_lt l22_8
   have ge183 := Nat.le_trans z23 s154
   have ne184 : a22_9 ≠ a22_11 := Nat.ne_of_lt (Nat.lt_trans l22_10 l22_11)
   have ne185 : a22_9 ≠ a22_14 := Nat.ne_of_lt (Nat.lt_trans (Nat.lt_trans (Nat.lt_trans (Nat.lt_trans l22_10 l22_11) l22_12) l22_13) l22_14)
   have ne186 : a22_6 ≠ a22_9 := Nat.ne_of_lt (Nat.lt_trans (Nat.lt_trans l22_7 l22_8) l22_9)
   have ne187 : a22_7 ≠ a22_9 := Nat.ne_of_lt (Nat.lt_trans l22_8 l22_9)
   have ne188 : a22_8 ≠ a22_9 := Nat.ne_of_lt l22_9
   have ge189 := Nat.le_trans z23 s155
   have ne190 : a22_10 ≠ a22_11 := Nat.ne_of_lt l22_11
   have ne191 : a22_10 ≠ a22_14 := Nat.ne_of_lt (Nat.lt_trans (Nat.lt_trans (Nat.lt_trans l22_11 l22_12) l22_13) l22_14)
   have ne192 : a22_6 ≠ a22_10 := Nat.ne_of_lt (Nat.lt_trans (Nat.lt_trans (Nat.lt_trans l22_7 l22_8) l22_9) l22_10)
   have ne193 : a22_7 ≠ a22_10 := Nat.ne_of_lt (Nat.lt_trans (Nat.lt_trans l22_8 l22_9) l22_10)
   have ne194 : a22_8 ≠ a22_10 := Nat.ne_of_lt (Nat.lt_trans l22_9 l22_10)
   have ne195 : a22_9 ≠ a22_10 := Nat.ne_of_lt l22_10
   have ge196 := Nat.le_trans z23 s156
   have ne197 : a22_11 ≠ a22_12 := Nat.ne_of_lt l22_12
   have ne198 : a22_12 ≠ a22_14 := Nat.ne_of_lt (Nat.lt_trans l22_13 l22_14)
   have ne199 : a22_10 ≠ a22_12 := Nat.ne_of_lt (Nat.lt_trans l22_11 l22_12)
   have ne200 : a22_9 ≠ a22_12 := Nat.ne_of_lt (Nat.lt_trans (Nat.lt_trans l22_10 l22_11) l22_12)
   have ne201 : a22_8 ≠ a22_12 := Nat.ne_of_lt (Nat.lt_trans (Nat.lt_trans (Nat.lt_trans l22_9 l22_10) l22_11) l22_12)
   have ne202 : a22_7 ≠ a22_12 := Nat.ne_of_lt (Nat.lt_trans (Nat.lt_trans (Nat.lt_trans (Nat.lt_trans l22_8 l22_9) l22_10) l22_11) l22_12)
   have ne203 : a22_6 ≠ a22_12 := Nat.ne_of_lt (Nat.lt_trans (Nat.lt_trans (Nat.lt_trans (Nat.lt_trans (Nat.lt_trans l22_7 l22_8) l22_9) l22_10) l22_11) l22_12)
   have ne204 : a22_11 ≠ a22_13 := Nat.ne_of_lt (Nat.lt_trans l22_12 l22_13)
   have ne205 : a22_13 ≠ a22_14 := Nat.ne_of_lt l22_14
   have ne206 : a22_10 ≠ a22_13 := Nat.ne_of_lt (Nat.lt_trans (Nat.lt_trans l22_11 l22_12) l22_13)
   have ne207 : a22_9 ≠ a22_13 := Nat.ne_of_lt (Nat.lt_trans (Nat.lt_trans (Nat.lt_trans l22_10 l22_11) l22_12) l22_13)
   have ne208 : a22_8 ≠ a22_13 := Nat.ne_of_lt (Nat.lt_trans (Nat.lt_trans (Nat.lt_trans (Nat.lt_trans l22_9 l22_10) l22_11) l22_12) l22_13)
   have ne209 : a22_7 ≠ a22_13 := Nat.ne_of_lt (Nat.lt_trans (Nat.lt_trans (Nat.lt_trans (Nat.lt_trans (Nat.lt_trans l22_8 l22_9) l22_10) l22_11) l22_12) l22_13)
   have ne210 : a22_6 ≠ a22_13 := Nat.ne_of_lt (Nat.lt_trans (Nat.lt_trans (Nat.lt_trans (Nat.lt_trans (Nat.lt_trans (Nat.lt_trans l22_7 l22_8) l22_9) l22_10) l22_11) l22_12) l22_13)
   have ge211 := Nat.le_trans z23 s159
   have ne212 : a22_12 ≠ a22_13 := Nat.ne_of_lt l22_13
   have ge213 := Nat.le_trans z23 s160
   have ne214 : a1 ≠ a22_13 := oNe' (Nat.lt_of_lt_of_le A1.lt (Nat.le_trans (Nat.le_trans (Nat.le_trans (Nat.le_trans (Nat.le_trans (Nat.le_trans (Nat.le_trans (Nat.le_trans (Nat.le_trans (Nat.le_trans (Nat.le_trans (Nat.le_trans (Nat.le_of_eq W2.size.symm) (Nat.le_of_eq W3.size.symm)) (Nat.le_of_eq W4.size.symm)) (Nat.le_of_eq W5.size.symm)) E6.1) (Nat.le_of_eq W8.size.symm)) (Nat.le_of_eq W9.size.symm)) (Nat.le_of_eq W10.size.symm)) E11.1) (Nat.le_of_eq W13.size.symm)) (Nat.le_of_eq W14.size.symm)) (Nat.le_of_eq W15.size.symm)) E16.1)) s160
   have ne215 : a1 ≠ a22_12 := oNe' (Nat.lt_of_lt_of_le A1.lt (Nat.le_trans (Nat.le_trans (Nat.le_trans (Nat.le_trans (Nat.le_trans (Nat.le_trans (Nat.le_trans (Nat.le_trans (Nat.le_trans (Nat.le_trans (Nat.le_trans (Nat.le_trans (Nat.le_of_eq W2.size.symm) (Nat.le_of_eq W3.size.symm)) (Nat.le_of_eq W4.size.symm)) (Nat.le_of_eq W5.size.symm)) E6.1) (Nat.le_of_eq W8.size.symm)) (Nat.le_of_eq W9.size.symm)) (Nat.le_of_eq W10.size.symm)) E11.1) (Nat.le_of_eq W13.size.symm)) (Nat.le_of_eq W14.size.symm)) (Nat.le_of_eq W15.size.symm)) E16.1)) s159
   have ne216 : a1 ≠ a22_10 := oNe' (Nat.lt_of_lt_of_le A1.lt (Nat.le_trans (Nat.le_trans (Nat.le_trans (Nat.le_trans (Nat.le_trans (Nat.le_trans (Nat.le_trans (Nat.le_trans (Nat.le_trans (Nat.le_trans (Nat.le_trans (Nat.le_trans (Nat.le_of_eq W2.size.symm) (Nat.le_of_eq W3.size.symm)) (Nat.le_of_eq W4.size.symm)) (Nat.le_of_eq W5.size.symm)) E6.1) (Nat.le_of_eq W8.size.symm)) (Nat.le_of_eq W9.size.symm)) (Nat.le_of_eq W10.size.symm)) E11.1) (Nat.le_of_eq W13.size.symm)) (Nat.le_of_eq W14.size.symm)) (Nat.le_of_eq W15.size.symm)) E16.1)) s156
   have ne217 : a1 ≠ a22_9 := oNe' (Nat.lt_of_lt_of_le A1.lt (Nat.le_trans (Nat.le_trans (Nat.le_trans (Nat.le_trans (Nat.le_trans (Nat.le_trans (Nat.le_trans (Nat.le_trans (Nat.le_trans (Nat.le_trans (Nat.le_trans (Nat.le_trans (Nat.le_of_eq W2.size.symm) (Nat.le_of_eq W3.size.symm)) (Nat.le_of_eq W4.size.symm)) (Nat.le_of_eq W5.size.symm)) E6.1) (Nat.le_of_eq W8.size.symm)) (Nat.le_of_eq W9.size.symm)) (Nat.le_of_eq W10.size.symm)) E11.1) (Nat.le_of_eq W13.size.symm)) (Nat.le_of_eq W14.size.symm)) (Nat.le_of_eq W15.size.symm)) E16.1)) s155
   have ne218 : a1 ≠ a22_8 := oNe' (Nat.lt_of_lt_of_le A1.lt (Nat.le_trans (Nat.le_trans (Nat.le_trans (Nat.le_trans (Nat.le_trans (Nat.le_trans (Nat.le_trans (Nat.le_trans (Nat.le_trans (Nat.le_trans (Nat.le_trans (Nat.le_trans (Nat.le_of_eq W2.size.symm) (Nat.le_of_eq W3.size.symm)) (Nat.le_of_eq W4.size.symm)) (Nat.le_of_eq W5.size.symm)) E6.1) (Nat.le_of_eq W8.size.symm)) (Nat.le_of_eq W9.size.symm)) (Nat.le_of_eq W10.size.symm)) E11.1) (Nat.le_of_eq W13.size.symm)) (Nat.le_of_eq W14.size.symm)) (Nat.le_of_eq W15.size.symm)) E16.1)) s154
   have ne219 : a1 ≠ a22_7 := oNe' (Nat.lt_of_lt_of_le A1.lt (Nat.le_trans (Nat.le_trans (Nat.le_trans (Nat.le_trans (Nat.le_trans (Nat.le_trans (Nat.le_trans (Nat.le_trans (Nat.le_trans (Nat.le_trans (Nat.le_trans (Nat.le_trans (Nat.le_of_eq W2.size.symm) (Nat.le_of_eq W3.size.symm)) (Nat.le_of_eq W4.size.symm)) (Nat.le_of_eq W5.size.symm)) E6.1) (Nat.le_of_eq W8.size.symm)) (Nat.le_of_eq W9.size.symm)) (Nat.le_of_eq W10.size.symm)) E11.1) (Nat.le_of_eq W13.size.symm)) (Nat.le_of_eq W14.size.symm)) (Nat.le_of_eq W15.size.symm)) E16.1)) s153
   have ne220 : a1 ≠ a22_6 := oNe' (Nat.lt_of_lt_of_le A1.lt (Nat.le_trans (Nat.le_trans (Nat.le_trans (Nat.le_trans (Nat.le_trans (Nat.le_trans (Nat.le_trans (Nat.le_trans (Nat.le_trans (Nat.le_trans (Nat.le_trans (Nat.le_trans (Nat.le_of_eq W2.size.symm) (Nat.le_of_eq W3.size.symm)) (Nat.le_of_eq W4.size.symm)) (Nat.le_of_eq W5.size.symm)) E6.1) (Nat.le_of_eq W8.size.symm)) (Nat.le_of_eq W9.size.symm)) (Nat.le_of_eq W10.size.symm)) E11.1) (Nat.le_of_eq W13.size.symm)) (Nat.le_of_eq W14.size.symm)) (Nat.le_of_eq W15.size.symm)) E16.1)) s152
   have ne221 : a1 ≠ a22_14 := oNe' (Nat.lt_of_lt_of_le A1.lt (Nat.le_trans (Nat.le_trans (Nat.le_trans (Nat.le_trans (Nat.le_trans (Nat.le_trans (Nat.le_trans (Nat.le_trans (Nat.le_trans (Nat.le_trans (Nat.le_trans (Nat.le_trans (Nat.le_of_eq W2.size.symm) (Nat.le_of_eq W3.size.symm)) (Nat.le_of_eq W4.size.symm)) (Nat.le_of_eq W5.size.symm)) E6.1) (Nat.le_of_eq W8.size.symm)) (Nat.le_of_eq W9.size.symm)) (Nat.le_of_eq W10.size.symm)) E11.1) (Nat.le_of_eq W13.size.symm)) (Nat.le_of_eq W14.size.symm)) (Nat.le_of_eq W15.size.symm)) E16.1)) s161
   have ne222 : a1 ≠ a22_11 := oNe' (Nat.lt_of_lt_of_le A1.lt (Nat.le_trans (Nat.le_trans (Nat.le_trans (Nat.le_trans (Nat.le_trans (Nat.le_trans (Nat.le_trans (Nat.le_trans (Nat.le_trans (Nat.le_trans (Nat.le_trans (Nat.le_trans (Nat.le_of_eq W2.size.symm) (Nat.le_of_eq W3.size.symm)) (Nat.le_of_eq W4.size.symm)) (Nat.le_of_eq W5.size.symm)) E6.1) (Nat.le_of_eq W8.size.symm)) (Nat.le_of_eq W9.size.symm)) (Nat.le_of_eq W10.size.symm)) E11.1) (Nat.le_of_eq W13.size.symm)) (Nat.le_of_eq W14.size.symm)) (Nat.le_of_eq W15.size.symm)) E16.1)) s157
   have ne223 : a6 ≠ a22_13 := oNe' (Nat.lt_of_lt_of_le A6.lt (Nat.le_trans (Nat.le_trans (Nat.le_trans (Nat.le_trans (Nat.le_trans (Nat.le_trans (Nat.le_trans (Nat.le_of_eq W8.size.symm) (Nat.le_of_eq W9.size.symm)) (Nat.le_of_eq W10.size.symm)) E11.1) (Nat.le_of_eq W13.size.symm)) (Nat.le_of_eq W14.size.symm)) (Nat.le_of_eq W15.size.symm)) E16.1)) s160
   have ne224 : a6 ≠ a22_12 := oNe' (Nat.lt_of_lt_of_le A6.lt (Nat.le_trans (Nat.le_trans (Nat.le_trans (Nat.le_trans (Nat.le_trans (Nat.le_trans (Nat.le_trans (Nat.le_of_eq W8.size.symm) (Nat.le_of_eq W9.size.symm)) (Nat.le_of_eq W10.size.symm)) E11.1) (Nat.le_of_eq W13.size.symm)) (Nat.le_of_eq W14.size.symm)) (Nat.le_of_eq W15.size.symm)) E16.1)) s159
   have ne225 : a6 ≠ a22_10 := oNe' (Nat.lt_of_lt_of_le A6.lt (Nat.le_trans (Nat.le_trans (Nat.le_trans (Nat.le_trans (Nat.le_trans (Nat.le_trans (Nat.le_trans (Nat.le_of_eq W8.size.symm) (Nat.le_of_eq W9.size.symm)) (Nat.le_of_eq W10.size.symm)) E11.1) (Nat.le_of_eq W13.size.symm)) (Nat.le_of_eq W14.size.symm)) (Nat.le_of_eq W15.size.symm)) E16.1)) s156
   have ne226 : a6 ≠ a22_9 := oNe' (Nat.lt_of_lt_of_le A6.lt (Nat.le_trans (Nat.le_trans (Nat.le_trans (Nat.le_trans (Nat.le_trans (Nat.le_trans (Nat.le_trans (Nat.le_of_eq W8.size.symm) (Nat.le_of_eq W9.size.symm)) (Nat.le_of_eq W10.size.symm)) E11.1) (Nat.le_of_eq W13.size.symm)) (Nat.le_of_eq W14.size.symm)) (Nat.le_of_eq W15.size.symm)) E16.1)) s155
   have ne227 : a6 ≠ a22_8 := oNe' (Nat.lt_of_lt_of_le A6.lt (Nat.le_trans (Nat.le_trans (Nat.le_trans (Nat.le_trans (Nat.le_trans (Nat.le_trans (Nat.le_trans (Nat.le_of_eq W8.size.symm) (Nat.le_of_eq W9.size.symm)) (Nat.le_of_eq W10.size.symm)) E11.1) (Nat.le_of_eq W13.size.symm)) (Nat.le_of_eq W14.size.symm)) (Nat.le_of_eq W15.size.symm)) E16.1)) s154
   have ne228 : a6 ≠ a22_7 := oNe' (Nat.lt_of_lt_of_le A6.lt (Nat.le_trans (Nat.le_trans (Nat.le_trans (Nat.le_trans (Nat.le_trans (Nat.le_trans (Nat.le_trans (Nat.le_of_eq W8.size.symm) (Nat.le_of_eq W9.size.symm)) (Nat.le_of_eq W10.size.symm)) E11.1) (Nat.le_of_eq W13.size.symm)) (Nat.le_of_eq W14.size.symm)) (Nat.le_of_eq W15.size.symm)) E16.1)) s153
   have ne229 : a6 ≠ a22_6 := oNe' (Nat.lt_of_lt_of_le A6.lt (Nat.le_trans (Nat.le_trans (Nat.le_trans (Nat.le_trans (Nat.le_trans (Nat.le_trans (Nat.le_trans (Nat.le_of_eq W8.size.symm) (Nat.le_of_eq W9.size.symm)) (Nat.le_of_eq W10.size.symm)) E11.1) (Nat.le_of_eq W13.size.symm)) (Nat.le_of_eq W14.size.symm)) (Nat.le_of_eq W15.size.symm)) E16.1)) s152
   have ne230 : a6 ≠ a22_14 := oNe' (Nat.lt_of_lt_of_le A6.lt (Nat.le_trans (Nat.le_trans (Nat.le_trans (Nat.le_trans (Nat.le_trans (Nat.le_trans (Nat.le_trans (Nat.le_of_eq W8.size.symm) (Nat.le_of_eq W9.size.symm)) (Nat.le_of_eq W10.size.symm)) E11.1) (Nat.le_of_eq W13.size.symm)) (Nat.le_of_eq W14.size.symm)) (Nat.le_of_eq W15.size.symm)) E16.1)) s161
   have ne231 : a6 ≠ a22_11 := oNe' (Nat.lt_of_lt_of_le A6.lt (Nat.le_trans (Nat.le_trans (Nat.le_trans (Nat.le_trans (Nat.le_trans (Nat.le_trans (Nat.le_trans (Nat.le_of_eq W8.size.symm) (Nat.le_of_eq W9.size.symm)) (Nat.le_of_eq W10.size.symm)) E11.1) (Nat.le_of_eq W13.size.symm)) (Nat.le_of_eq W14.size.symm)) (Nat.le_of_eq W15.size.symm)) E16.1)) s157
   have f232 := (K48.fld f22_35 (ninS ne33 (ninS ne39 (ninS ne43 (ninS ne52 nin0)))) oN0)
   have ne233 : a22_4 ≠ a22_15 := Nat.ne_of_lt (Nat.lt_trans (Nat.lt_trans (Nat.lt_trans (Nat.lt_trans (Nat.lt_trans (Nat.lt_trans (Nat.lt_trans (Nat.lt_trans (Nat.lt_trans (Nat.lt_trans l22_5 l22_6) l22_7) l22_8) l22_9) l22_10) l22_11) l22_12) l22_13) l22_14) l22_15)
   have ne234 : a22_3 ≠ a22_15 := Nat.ne_of_lt (Nat.lt_trans (Nat.lt_trans (Nat.lt_trans (Nat.lt_trans (Nat.lt_trans (Nat.lt_trans (Nat.lt_trans (Nat.lt_trans (Nat.lt_trans (Nat.lt_trans (Nat.lt_trans l22_4 l22_5) l22_6) l22_7) l22_8) l22_9) l22_10) l22_11) l22_12) l22_13) l22_14) l22_15)
   have ne235 : a22_5 ≠ a22_15 := Nat.ne_of_lt (Nat.lt_trans (Nat.lt_trans (Nat.lt_trans (Nat.lt_trans (Nat.lt_trans (Nat.lt_trans (Nat.lt_trans (Nat.lt_trans (Nat.lt_trans l22_6 l22_7) l22_8) l22_9) l22_10) l22_11) l22_12) l22_13) l22_14) l22_15)
   have ne236 : a22_2 ≠ a22_15 := Nat.ne_of_lt (Nat.lt_trans (Nat.lt_trans (Nat.lt_trans (Nat.lt_trans (Nat.lt_trans (Nat.lt_trans (Nat.lt_trans (Nat.lt_trans (Nat.lt_trans (Nat.lt_trans (Nat.lt_trans (Nat.lt_trans l22_3 l22_4) l22_5) l22_6) l22_7) l22_8) l22_9) l22_10) l22_11) l22_12) l22_13) l22_14) l22_15)
   have f237 := (K48.arr f22_34 (ninS (Ne.symm ne236) (ninS (Ne.symm ne235) (ninS (Ne.symm ne234) (ninS (Ne.symm ne233) nin0)))) oA0)
   have f238 := (K48.fld f22_37 (ninS ne33 (ninS ne39 (ninS ne43 (ninS ne52 nin0)))) oN0)
   have f239 := (K48.fld (K22.fld f16_changedCount nin0 (oNF (Or.inr (oSn0 hw 29 0)) (oNF (Or.inr (oSn0 hw 29 1)) (oNF (Or.inr (oSn0 hw 29 2)) (oNF (Or.inr (oSn0 hw 29 3)) (oNF (Or.inr (oSn0 hw 29 4)) (oNF (Or.inr (oSn0 hw 29 5)) (oNF (Or.inr (oSn0 hw 29 6)) (oNF (Or.inr (oSn0 hw 29 7)) (oNF (Or.inr (oSn0 hw 29 8)) (oNF (Or.inr (oSn0 hw 29 9)) (oNF (Or.inr (oSn0 hw 29 10)) (oNF (Or.inr (oSn0 hw 29 11)) (oNF (Or.inr (oSn0 hw 29 12)) (oNF (Or.inr (oSn0 hw 29 13)) (oNF (Or.inr (oSn0 hw 29 14)) (oNF (Or.inr (oSn0 hw 29 15)) (oNF (Or.inr (oSn0 hw 29 16)) (oNF (Or.inr (oSn0 hw 29 17)) (oNF (Or.inr (oSn0 hw 29 18)) (oNF (Or.inr (oSn0 hw 29 19)) (oNF (Or.inr (oSn0 hw 29 20)) oN0)))))))))))))))))))))) (ninS ne33 (ninS ne39 (ninS ne43 (ninS ne52 nin0)))) oN0)
   have ne240 : a22_4 ≠ a22_16 := Nat.ne_of_lt (Nat.lt_trans (Nat.lt_trans (Nat.lt_trans (Nat.lt_trans (Nat.lt_trans (Nat.lt_trans (Nat.lt_trans (Nat.lt_trans (Nat.lt_trans (Nat.lt_trans (Nat.lt_trans l22_5 l22_6) l22_7) l22_8) l22_9) l22_10) l22_11) l22_12) l22_13) l22_14) l22_15) l22_16)
   have ne241 : a22_3 ≠ a22_16 := Nat.ne_of_lt (Nat.lt_trans (Nat.lt_trans (Nat.lt_trans (Nat.lt_trans (Nat.lt_trans (Nat.lt_trans (Nat.lt_trans (Nat.lt_trans (Nat.lt_trans (Nat.lt_trans (Nat.lt_trans (Nat.lt_trans l22_4 l22_5) l22_6) l22_7) l22_8) l22_9) l22_10) l22_11) l22_12) l22_13) l22_14) l22_15) l22_16)
   have ne242 : a22_5 ≠ a22_16 := Nat.ne_of_lt (Nat.lt_trans (Nat.lt_trans (Nat.lt_trans (Nat.lt_trans (Nat.lt_trans (Nat.lt_trans (Nat.lt_trans (Nat.lt_trans (Nat.lt_trans (Nat.lt_trans l22_6 l22_7) l22_8) l22_9) l22_10) l22_11) l22_12) l22_13) l22_14) l22_15) l22_16)
   have ne243 : a22_2 ≠ a22_16 := Nat.ne_of_lt (Nat.lt_trans (Nat.lt_trans (Nat.lt_trans (Nat.lt_trans (Nat.lt_trans (Nat.lt_trans (Nat.lt_trans (Nat.lt_trans (Nat.lt_trans (Nat.lt_trans (Nat.lt_trans (Nat.lt_trans (Nat.lt_trans l22_3 l22_4) l22_5) l22_6) l22_7) l22_8) l22_9) l22_10) l22_11) l22_12) l22_13) l22_14) l22_15) l22_16)
   have f244 := (K48.arr f22_36 (ninS (Ne.symm ne243) (ninS (Ne.symm ne242) (ninS (Ne.symm ne241) (ninS (Ne.symm ne240) nin0)))) oA0)
   have s246 := Nat.le_trans s161 (Nat.le_of_lt l22_15)
   have ne245 : a16 ≠ a22_15 := oNe' X16.lt s246
   have ne247 : a22_13 ≠ a22_15 := Nat.ne_of_lt (Nat.lt_trans l22_14 l22_15)
   have ne248 : a22_12 ≠ a22_15 := Nat.ne_of_lt (Nat.lt_trans (Nat.lt_trans l22_13 l22_14) l22_15)
   have ne249 : a22_10 ≠ a22_15 := Nat.ne_of_lt (Nat.lt_trans (Nat.lt_trans (Nat.lt_trans (Nat.lt_trans l22_11 l22_12) l22_13) l22_14) l22_15)
   have ne250 : a22_9 ≠ a22_15 := Nat.ne_of_lt (Nat.lt_trans (Nat.lt_trans (Nat.lt_trans (Nat.lt_trans (Nat.lt_trans l22_10 l22_11) l22_12) l22_13) l22_14) l22_15)
   have ne251 : a22_8 ≠ a22_15 := Nat.ne_of_lt (Nat.lt_trans (Nat.lt_trans (Nat.lt_trans (Nat.lt_trans (Nat.lt_trans (Nat.lt_trans l22_9 l22_10) l22_11) l22_12) l22_13) l22_14) l22_15)
   have ne252 : a22_7 ≠ a22_15 := Nat.ne_of_lt (Nat.lt_trans (Nat.lt_trans (Nat.lt_trans (Nat.lt_trans (Nat.lt_trans (Nat.lt_trans (Nat.lt_trans l22_8 l22_9) l22_10) l22_11) l22_12) l22_13) l22_14) l22_15)
   have ne253 : a22_6 ≠ a22_15 := Nat.ne_of_lt (Nat.lt_trans (Nat.lt_trans (Nat.lt_trans (Nat.lt_trans (Nat.lt_trans (Nat.lt_trans (Nat.lt_trans (Nat.lt_trans l22_7 l22_8) l22_9) l22_10) l22_11) l22_12) l22_13) l22_14) l22_15)
   have ne254 : a22_14 ≠ a22_15 := Nat.ne_of_lt l22_15
   have ne255 : a22_11 ≠ a22_15 := Nat.ne_of_lt (Nat.lt_trans (Nat.lt_trans (Nat.lt_trans l22_12 l22_13) l22_14) l22_15)
   have s257 := Nat.le_trans s246 (Nat.le_of_lt l22_16)
   have ne256 : a16 ≠ a22_16 := oNe' X16.lt s257
   have ne258 : a22_13 ≠ a22_16 := Nat.ne_of_lt (Nat.lt_trans (Nat.lt_trans l22_14 l22_15) l22_16)
   have ne259 : a22_12 ≠ a22_16 := Nat.ne_of_lt (Nat.lt_trans (Nat.lt_trans (Nat.lt_trans l22_13 l22_14) l22_15) l22_16)
   have ne260 : a22_10 ≠ a22_16 := Nat.ne_of_lt (Nat.lt_trans (Nat.lt_trans (Nat.lt_trans (Nat.lt_trans (Nat.lt_trans l22_11 l22_12) l22_13) l22_14) l22_15) l22_16)
   have ne261 : a22_9 ≠ a22_16 := Nat.ne_of_lt (Nat.lt_trans (Nat.lt_trans (Nat.lt_trans (Nat.lt_trans (Nat.lt_trans (Nat.lt_trans l22_10 l22_11) l22_12) l22_13) l22_14) l22_15) l22_16)
   have ne262 : a22_8 ≠ a22_16 := Nat.ne_of_lt (Nat.lt_trans (Nat.lt_trans (Nat.lt_trans (Nat.lt_trans (Nat.lt_trans (Nat.lt_trans (Nat.lt_trans l22_9 l22_10) l22_11) l22_12) l22_13) l22_14) l22_15) l22_16)
   have ne263 : a22_7 ≠ a22_16 := Nat.ne_of_lt (Nat.lt_trans (Nat.lt_trans (Nat.lt_trans (Nat.lt_trans (Nat.lt_trans (Nat.lt_trans (Nat.lt_trans (Nat.lt_trans l22_8 l22_9) l22_10) l22_11) l22_12) l22_13) l22_14) l22_15) l22_16)
   have ne264 : a22_6 ≠ a22_16 := Nat.ne_of_lt (Nat.lt_trans (Nat.lt_trans (Nat.lt_trans (Nat.lt_trans (Nat.lt_trans (Nat.lt_trans (Nat.lt_trans (Nat.lt_trans (Nat.lt_trans l22_7 l22_8) l22_9) l22_10) l22_11) l22_12) l22_13) l22_14) l22_15) l22_16)
   have ne265 : a22_14 ≠ a22_16 := Nat.ne_of_lt (Nat.lt_trans l22_15 l22_16)
   have ne266 : a22_11 ≠ a22_16 := Nat.ne_of_lt (Nat.lt_trans (Nat.lt_trans (Nat.lt_trans (Nat.lt_trans l22_12 l22_13) l22_14) l22_15) l22_16)
   have ge267 := Nat.le_trans z23 s246
   have ne268 : a22_15 ≠ a22_16 := Nat.ne_of_lt l22_16
   have ge269 := Nat.le_trans z23 s257
   have ne270 : a22_0 ≠ a22_13 := Nat.ne_of_lt (Nat.lt_trans (Nat.lt_trans (Nat.lt_trans (Nat.lt_trans (Nat.lt_trans (Nat.lt_trans (Nat.lt_trans (Nat.lt_trans (Nat.lt_trans (Nat.lt_trans (Nat.lt_trans (Nat.lt_trans l22_1 l22_2) l22_3) l22_4) l22_5) l22_6) l22_7) l22_8) l22_9) l22_10) l22_11) l22_12) l22_13)
   have ne271 : a22_0 ≠ a22_12 := Nat.ne_of_lt (Nat.lt_trans (Nat.lt_trans (Nat.lt_trans (Nat.lt_trans (Nat.lt_trans (Nat.lt_trans (Nat.lt_trans (Nat.lt_trans (Nat.lt_trans (Nat.lt_trans (Nat.lt_trans l22_1 l22_2) l22_3) l22_4) l22_5) l22_6) l22_7) l22_8) l22_9) l22_10) l22_11) l22_12)
   have ne272 : a22_0 ≠ a22_10 := Nat.ne_of_lt (Nat.lt_trans (Nat.lt_trans (Nat.lt_trans (Nat.lt_trans (Nat.lt_trans (Nat.lt_trans (Nat.lt_trans (Nat.lt_trans (Nat.lt_trans l22_1 l22_2) l22_3) l22_4) l22_5) l22_6) l22_7) l22_8) l22_9) l22_10)
   have ne273 : a22_0 ≠ a22_9 := Nat.ne_of_lt (Nat.lt_trans (Nat.lt_trans (Nat.lt_trans (Nat.lt_trans (Nat.lt_trans (Nat.lt_trans (Nat.lt_trans (Nat.lt_trans l22_1 l22_2) l22_3) l22_4) l22_5) l22_6) l22_7) l22_8) l22_9)
   have ne274 : a22_0 ≠ a22_8 := Nat.ne_of_lt (Nat.lt_trans (Nat.lt_trans (Nat.lt_trans (Nat.lt_trans (Nat.lt_trans (Nat.lt_trans (Nat.lt_trans l22_1 l22_2) l22_3) l22_4) l22_5) l22_6) l22_7) l22_8)
   have ne275 : a22_0 ≠ a22_7 := Nat.ne_of_lt (Nat.lt_trans (Nat.lt_trans (Nat.lt_trans (Nat.lt_trans (Nat.lt_trans (Nat.lt_trans l22_1 l22_2) l22_3) l22_4) l22_5) l22_6) l22_7)
   have ne276 : a22_0 ≠ a22_6 := Nat.ne_of_lt (Nat.lt_trans (Nat.lt_trans (Nat.lt_trans (Nat.lt_trans (Nat.lt_trans l22_1 l22_2) l22_3) l22_4) l22_5) l22_6)
   have ne277 : a22_0 ≠ a22_14 := Nat.ne_of_lt (Nat.lt_trans (Nat.lt_trans (Nat.lt_trans (Nat.lt_trans (Nat.lt_trans (Nat.lt_trans (Nat.lt_trans (Nat.lt_trans (Nat.lt_trans (Nat.lt_trans (Nat.lt_trans (Nat.lt_trans (Nat.lt_trans l22_1 l22_2) l22_3) l22_4) l22_5) l22_6) l22_7) l22_8) l22_9) l22_10) l22_11) l22_12) l22_13) l22_14)
   have ne278 : a22_0 ≠ a22_11 := Nat.ne_of_lt (Nat.lt_trans (Nat.lt_trans (Nat.lt_trans (Nat.lt_trans (Nat.lt_trans (Nat.lt_trans (Nat.lt_trans (Nat.lt_trans (Nat.lt_trans (Nat.lt_trans l22_1 l22_2) l22_3) l22_4) l22_5) l22_6) l22_7) l22_8) l22_9) l22_10) l22_11)
   have ne279 : a22_0 ≠ a22_16 := Nat.ne_of_lt (Nat.lt_trans (Nat.lt_trans (Nat.lt_trans (Nat.lt_trans (Nat.lt_trans (Nat.lt_trans (Nat.lt_trans (Nat.lt_trans (Nat.lt_trans (Nat.lt_trans (Nat.lt_trans (Nat.lt_trans (Nat.lt_trans (Nat.lt_trans (Nat.lt_trans l22_1 l22_2) l22_3) l22_4) l22_5) l22_6) l22_7) l22_8) l22_9) l22_10) l22_11) l22_12) l22_13) l22_14) l22_15) l22_16)
   have ne280 : a22_0 ≠ a22_15 := Nat.ne_of_lt (Nat.lt_trans (Nat.lt_trans (Nat.lt_trans (Nat.lt_trans (Nat.lt_trans (Nat.lt_trans (Nat.lt_trans (Nat.lt_trans (Nat.lt_trans (Nat.lt_trans (Nat.lt_trans (Nat.lt_trans (Nat.lt_trans (Nat.lt_trans l22_1 l22_2) l22_3) l22_4) l22_5) l22_6) l22_7) l22_8) l22_9) l22_10) l22_11) l22_12) l22_13) l22_14) l22_15)
   have ge281 := Nat.le_trans z23 s22
   have ne282 : a22_1 ≠ a22_13 := Nat.ne_of_lt (Nat.lt_trans (Nat.lt_trans (Nat.lt_trans (Nat.lt_trans (Nat.lt_trans (Nat.lt_trans (Nat.lt_trans (Nat.lt_trans (Nat.lt_trans (Nat.lt_trans (Nat.lt_trans l22_2 l22_3) l22_4) l22_5) l22_6) l22_7) l22_8) l22_9) l22_10) l22_11) l22_12) l22_13)
   have ne283 : a22_1 ≠ a22_12 := Nat.ne_of_lt (Nat.lt_trans (Nat.lt_trans (Nat.lt_trans (Nat.lt_trans (Nat.lt_trans (Nat.lt_trans (Nat.lt_trans (Nat.lt_trans (Nat.lt_trans (Nat.lt_trans l22_2 l22_3) l22_4) l22_5) l22_6) l22_7) l22_8) l22_9) l22_10) l22_11) l22_12)
   have ne284 : a22_1 ≠ a22_10 := Nat.ne_of_lt (Nat.lt_trans (Nat.lt_trans (Nat.lt_trans (Nat.lt_trans (Nat.lt_trans (Nat.lt_trans (Nat.lt_trans (Nat.lt_trans l22_2 l22_3) l22_4) l22_5) l22_6) l22_7) l22_8) l22_9) l22_10)
   have ne285 : a22_1 ≠ a22_9 := Nat.ne_of_lt (Nat.lt_trans (Nat.lt_trans (Nat.lt_trans (Nat.lt_trans (Nat.lt_trans (Nat.lt_trans (Nat.lt_trans l22_2 l22_3) l22_4) l22_5) l22_6) l22_7) l22_8) l22_9)
   have ne286 : a22_1 ≠ a22_8 := Nat.ne_of_lt (Nat.lt_trans (Nat.lt_trans (Nat.lt_trans (Nat.lt_trans (Nat.lt_trans (Nat.lt_trans l22_2 l22_3) l22_4) l22_5) l22_6) l22_7) l22_8)
   have ne287 : a22_1 ≠ a22_7 := Nat.ne_of_lt (Nat.lt_trans (Nat.lt_trans (Nat.lt_trans (Nat.lt_trans (Nat.lt_trans l22_2 l22_3) l22_4) l22_5) l22_6) l22_7)
   have ne288 : a22_1 ≠ a22_6 := Nat.ne_of_lt (Nat.lt_trans (Nat.lt_trans (Nat.lt_trans (Nat.lt_trans l22_2 l22_3) l22_4) l22_5) l22_6)
   have ne289 : a22_1 ≠ a22_14 := Nat.ne_of_lt (Nat.lt_trans (Nat.lt_trans (Nat.lt_trans (Nat.lt_trans (Nat.lt_trans (Nat.lt_trans (Nat.lt_trans (Nat.lt_trans (Nat.lt_trans (Nat.lt_trans (Nat.lt_trans (Nat.lt_trans l22_2 l22_3) l22_4) l22_5) l22_6) l22_7) l22_8) l22_9) l22_10) l22_11) l22_12) l22_13) l22_14)
   have ne290 : a22_1 ≠ a22_11 := Nat.ne_of_lt (Nat.lt_trans (Nat.lt_trans (Nat.lt_trans (Nat.lt_trans (Nat.lt_trans (Nat.lt_trans (Nat.lt_trans (Nat.lt_trans (Nat.lt_trans l22_2 l22_3) l22_4) l22_5) l22_6) l22_7) l22_8) l22_9) l22_10) l22_11)
   have ne291 : a22_1 ≠ a22_16 := Nat.ne_of_lt (Nat.lt_trans (Nat.lt_trans (Nat.lt_trans (Nat.lt_trans (Nat.lt_trans (Nat.lt_trans (Nat.lt_trans (Nat.lt_trans (Nat.lt_trans (Nat.lt_trans (Nat.lt_trans (Nat.lt_trans (Nat.lt_trans (Nat.lt_trans l22_2 l22_3) l22_4) l22_5) l22_6) l22_7) l22_8) l22_9) l22_10) l22_11) l22_12) l22_13) l22_14) l22_15) l22_16)
   have ne292 : a22_1 ≠ a22_15 := Nat.ne_of_lt (Nat.lt_trans (Nat.lt_trans (Nat.lt_trans (Nat.lt_trans (Nat.lt_trans (Nat.lt_trans (Nat.lt_trans (Nat.lt_trans (Nat.lt_trans (Nat.lt_trans (Nat.lt_trans (Nat.lt_trans (Nat.lt_trans l22_2 l22_3) l22_4) l22_5) l22_6) l22_7) l22_8) l22_9) l22_10) l22_11) l22_12) l22_13) l22_14) l22_15)
   have ne293 : a22_0 ≠ a22_1 := Nat.ne_of_lt l22_1
   have ge294 := Nat.le_trans z23 s31
   have f295 := (K48.fld f22_15 (ninS ne33 (ninS ne39 (ninS ne43 (ninS ne52 nin0)))) oN0)
   have z297 := (Nat.le_trans z50 K48.1)
   refine oCallV C (w76 hw) (w77 hw) (w79 hw) (w78 hw) (w5 hw) (w80 hw) at_127 f51 (by decide) pd_674841 rfl rfl (a := a16) (argsL := [.int 1]) (rest := []) rfl (W := 0) rfl (q := 130) rfl (by decide) (by decide) (by decide) (by decide) (ac8_32 l Z a0 hw _ n0 z297 a16 a1 a11 v0 v1 v2 a6 a22_0 a22_1 a22_11 a22_14 a22_6 a22_7 a22_8 a22_9 a22_10 a22_12 a22_13 a22_2 a22_3 a22_4 a22_15 a22_16 a22_5 f51 f53 ge_a16 f54 f59 ne21 f60 f65 ne25 (or2 v0 dd v1 v2 r_v0 r_dd r_v1 r_v2 ) f66 f71 ne28 f72 f77 (Ne.symm ne78) (or3 v0 dd v1 v2 r_v0 r_dd r_v1 r_v2 ) f79 f84 (Ne.symm ne85) (or4 v0 dd v1 v2 r_v0 r_dd r_v1 r_v2 ) f86 f87 f88 f89 f90 f91 f92 f97 f98 f99 f104 f105 f110 f111 f116 f117 f122 f123 f128 f129 f134 f135 f136 f141 f142 f147 f148 f48_1 f149 f48_2 f150 f48_3 (or5 v0 dd v1 v2 r_v0 r_dd r_v1 r_v2 ) (or6 v0 dd v1 v2 r_v0 r_dd r_v1 r_v2 ) (Ne.symm ne151) (Ne.symm ne158) (Ne.symm ne162) (Ne.symm ne163) (Ne.symm ne164) (Ne.symm ne165) (Ne.symm ne166) (Ne.symm ne167) (Ne.symm ne168) (or7 v0 dd v1 v2 r_v0 r_dd r_v1 r_v2 ) ge169 ne151 (Ne.symm ne170) ge171 ne158 ne172 ne173 ge174 ne162 ne175 ne176 (Ne.symm ne177) ge178 ne163 ne179 ne180 (Ne.symm ne181) (Ne.symm ne182) ge183 ne164 ne184 ne185 (Ne.symm ne186) (Ne.symm ne187) (Ne.symm ne188) ge189 ne165 ne190 ne191 (Ne.symm ne192) (Ne.symm ne193) (Ne.symm ne194) (Ne.symm ne195) ge196 ne177 ne181 ne186 ne192 ne182 ne187 ne193 ne188 ne194 ne195 ne166 (Ne.symm ne197) ne198 (Ne.symm ne199) (Ne.symm ne200) (Ne.symm ne201) (Ne.symm ne202) (Ne.symm ne203) (Ne.symm ne204) ne205 (Ne.symm ne206) (Ne.symm ne207) (Ne.symm ne208) (Ne.symm ne209) (Ne.symm ne210) ge211 ne167 (Ne.symm ne212) ge213 ne212 ne170 (Ne.symm ne190) (Ne.symm ne184) (Ne.symm ne179) (Ne.symm ne175) (Ne.symm ne172) ne204 ne197 ne168 (Ne.symm ne191) (Ne.symm ne185) (Ne.symm ne180) (Ne.symm ne176) (Ne.symm ne173) (Ne.symm ne205) (Ne.symm ne198) ne210 ne203 ne209 ne202 ne208 ne201 ne207 ne200 ne206 ne199 ne214 ne215 ne216 ne217 ne218 ne219 ne220 ne221 ne222 (Ne.symm ne33) ne146 ne140 ne133 ne127 ne121 ne115 ne109 ne103 ne96 (Ne.symm ne43) ne144 ne138 ne131 ne125 ne119 ne113 ne107 ne101 ne94 (or8 v0 dd v1 v2 r_v0 r_dd r_v1 r_v2 ) (Ne.symm ne52) ne143 ne137 ne130 ne124 ne118 ne112 ne106 ne100 ne93 (or9 v0 dd v1 v2 r_v0 r_dd r_v1 r_v2 ) ne223 ne224 ne225 ne226 ne227 ne228 ne229 ne230 ne231 f232 f237 f238 f239 f244 (or1 v0 dd v1 v2 r_v0 r_dd r_v1 r_v2 ) (Ne.symm ne245) (Ne.symm ne247) (Ne.symm ne248) (Ne.symm ne249) (Ne.symm ne250) (Ne.symm ne251) (Ne.symm ne252) (Ne.symm ne253) (Ne.symm ne254) (Ne.symm ne255) (Ne.symm ne256) (Ne.symm ne258) (Ne.symm ne259) (Ne.symm ne260) (Ne.symm ne261) (Ne.symm ne262) (Ne.symm ne263) (Ne.symm ne264) (Ne.symm ne265) (Ne.symm ne266) ge267 ne245 (Ne.symm ne268) ge269 ne268 ne256 ne270 ne271 ne272 ne273 ne274 ne275 ne276 ne277 ne278 ne279 ne280 ge281 ne78 ne282 ne283 ne284 ne285 ne286 ne287 ne288 ne289 ne290 ne291 ne292 (Ne.symm ne293) ge294 ne85 ne243 ne236 (Ne.symm ne76) (Ne.symm ne83) ne241 ne234 (Ne.symm ne74) (Ne.symm ne81) ge42 ne43 ne240 ne233 (Ne.symm ne73) (Ne.symm ne80) (Ne.symm ne46) ge47 ne52 ne46 (Ne.symm ne280) (Ne.symm ne292) (Ne.symm ne234) (Ne.symm ne233) (Ne.symm ne279) (Ne.symm ne291) (Ne.symm ne241) (Ne.symm ne240) ne293 ne74 ne73 ne81 ne80 f295 f48_0 ne44 ne40 (Ne.symm ne39) ne145 ne139 ne132 ne126 ne120 ne114 ne108 ne102 ne95 (Ne.symm ne45) (Ne.symm ne41) (Ne.symm ne82) (Ne.symm ne75) ne242 ne235 ge35 ne39 (Ne.symm ne235) (Ne.symm ne124) (Ne.symm ne125) (Ne.symm ne285) (Ne.symm ne273) ne261 ne250 (Ne.symm ne126) ne34 ge30 ne33 (Ne.symm ne130) (Ne.symm ne131) (Ne.symm ne284) (Ne.symm ne272) ne260 ne249 (Ne.symm ne132) (Ne.symm ne133) (Ne.symm ne34) (Ne.symm ne100) (Ne.symm ne101) (Ne.symm ne289) (Ne.symm ne277) ne265 ne254 (Ne.symm ne103) (Ne.symm ne102) (Ne.symm ne93) (Ne.symm ne94) (Ne.symm ne290) (Ne.symm ne278) ne266 ne255 (Ne.symm ne96) (Ne.symm ne95) ne76 ne75 ne83 ne82 (Ne.symm ne106) (Ne.symm ne107) (Ne.symm ne288) (Ne.symm ne276) ne264 ne253 (Ne.symm ne109) (Ne.symm ne108) (Ne.symm ne112) (Ne.symm ne113) (Ne.symm ne287) (Ne.symm ne275) ne263 ne252 (Ne.symm ne115) (Ne.symm ne114) (Ne.symm ne118) (Ne.symm ne119) (Ne.symm ne286) (Ne.symm ne274) ne262 ne251 (Ne.symm ne121) (Ne.symm ne120) (Ne.symm ne127) (Ne.symm ne137) (Ne.symm ne138) (Ne.symm ne283) (Ne.symm ne271) ne259 ne248 (Ne.symm ne140) (Ne.symm ne139) (Ne.symm ne143) (Ne.symm ne144) (Ne.symm ne282) (Ne.symm ne270) ne258 ne247 (Ne.symm ne146) (Ne.symm ne145) (Ne.symm ne40) ne41 (Ne.symm ne44) ne45 (Ne.symm ne236) (Ne.symm ne243) (Ne.symm ne242)) (oVQ ?_)
   rintro h296 ⟨K296, f296_0, f296_1, f296_2, f296_3, f296_4, f296_5, f296_6, f296_7, f296_8, f296_9, f296_10, f296_11, f296_12, f296_13, f296_14, f296_15, f296_16, f296_17, f296_18, f296_19, f296_20, f296_21, f296_22, f296_23, f296_24, f296_25, f296_26⟩
   refine oAload C at_130 rfl rfl rfl ?_
   refine oIconst C at_132 (z := 0) rfl rfl ?_
   have f298 := (K296.fld f148 (ninS ne151 (ninS ne158 (ninS ne162 (ninS ne163 (ninS ne164 (ninS ne165 (ninS ne166 (ninS ne167 (ninS ne168 (ninS ne245 (ninS ne256 (ninS ne78 (ninS ne85 (ninS ne43 (ninS ne52 (ninS ne39 (ninS ne33 nin0))))))))))))))))) (oNF (Or.inr (oSn0 hw 6 0)) (oNF (Or.inr (oSn0 hw 6 21)) (oNF (Or.inr (oSn0 hw 6 22)) (oNF (Or.inr (oSn0 hw 6 23)) (oNF (Or.inr (oSn0 hw 6 24)) (oNF (Or.inr (oSn0 hw 6 25)) (oNF (Or.inr (oSn0 hw 6 26)) (oNF (Or.inr (oSn0 hw 6 27)) (oNF (Or.inr (oSn0 hw 6 28)) (oNF (Or.inr (oSn0 hw 6 29)) oN0)))))))))))
   have f299 := (K296.fld f150 (ninS ne151 (ninS ne158 (ninS ne162 (ninS ne163 (ninS ne164 (ninS ne165 (ninS ne166 (ninS ne167 (ninS ne168 (ninS ne245 (ninS ne256 (ninS ne78 (ninS ne85 (ninS ne43 (ninS ne52 (ninS ne39 (ninS ne33 nin0))))))))))))))))) (oNF (Or.inr (oSn0 hw 8 0)) (oNF (Or.inr (oSn0 hw 8 21)) (oNF (Or.inr (oSn0 hw 8 22)) (oNF (Or.inr (oSn0 hw 8 23)) (oNF (Or.inr (oSn0 hw 8 24)) (oNF (Or.inr (oSn0 hw 8 25)) (oNF (Or.inr (oSn0 hw 8 26)) (oNF (Or.inr (oSn0 hw 8 27)) (oNF (Or.inr (oSn0 hw 8 28)) (oNF (Or.inr (oSn0 hw 8 29)) oN0)))))))))))
   have f300 := (K296.fld f79 (ninS ne151 (ninS ne158 (ninS ne162 (ninS ne163 (ninS ne164 (ninS ne165 (ninS ne166 (ninS ne167 (ninS ne168 (ninS ne245 (ninS ne256 (ninS ne78 (ninS ne85 (ninS ne43 (ninS ne52 (ninS ne39 (ninS ne33 nin0))))))))))))))))) (oNF (Or.inr (oSn0 hw 5 0)) (oNF (Or.inr (oSn0 hw 5 21)) (oNF (Or.inr (oSn0 hw 5 22)) (oNF (Or.inr (oSn0 hw 5 23)) (oNF (Or.inr (oSn0 hw 5 24)) (oNF (Or.inr (oSn0 hw 5 25)) (oNF (Or.inr (oSn0 hw 5 26)) (oNF (Or.inr (oSn0 hw 5 27)) (oNF (Or.inr (oSn0 hw 5 28)) (oNF (Or.inr (oSn0 hw 5 29)) oN0)))))))))))
   have f301 := (K296.fld f72 (ninS ne151 (ninS ne158 (ninS ne162 (ninS ne163 (ninS ne164 (ninS ne165 (ninS ne166 (ninS ne167 (ninS ne168 (ninS ne245 (ninS ne256 (ninS ne78 (ninS ne85 (ninS ne43 (ninS ne52 (ninS ne39 (ninS ne33 nin0))))))))))))))))) (oNF (Or.inr (oSn0 hw 4 0)) (oNF (Or.inr (oSn0 hw 4 21)) (oNF (Or.inr (oSn0 hw 4 22)) (oNF (Or.inr (oSn0 hw 4 23)) (oNF (Or.inr (oSn0 hw 4 24)) (oNF (Or.inr (oSn0 hw 4 25)) (oNF (Or.inr (oSn0 hw 4 26)) (oNF (Or.inr (oSn0 hw 4 27)) (oNF (Or.inr (oSn0 hw 4 28)) (oNF (Or.inr (oSn0 hw 4 29)) oN0)))))))))))
   have f303 := (K296.exa f51)
   have z304 := (Nat.le_trans z297 K296.1)
   refine oCallV C (w151 hw) (w152 hw) (w154 hw) (w153 hw) (w5 hw) (w155 hw) at_133 f303 (by decide) pd_674841 rfl rfl (a := a16) (argsL := [.int 0]) (rest := []) rfl (W := 0) rfl (q := 136) rfl (by decide) (by decide) (by decide) (by decide) (ac22_33 l Z a0 hw _ n0 z304 a16 a22_2 a22_4 a22_1 a22_0 v0 f298 f296_20 f299 f296_22 f300 f296_2 ge47 f301 ne52 f296_1 ne73 ge281 ne78 ne80 (Ne.symm ne293) ge294 (Ne.symm ne73) (Ne.symm ne80) ne293) (oVQ ?_)
   rintro h302 ⟨K302, f302_0, f302_1, f302_2⟩
   refine oIload C at_136 rfl rfl ?_
   refine oIconst C at_138 (z := 2) rfl rfl ?_
   refine oIand C at_139 rfl ?_
   refine oJoin (α := Heap) (fun w => h302.size ≤ w.size ∧ oAr Z w a1 .int [.int 0, .int 1, .int 2, .int 3] ∧ oAr Z w a6 .int [.int 0, .int 0, .int 0] ∧ oAr Z w a11 .long [.long v0, .long v1, .long v2] ∧ Exa Z w a16 cU ∧ Fld Z w a16 cU "displaced" "I" (.int 0) ∧ Fld Z w a16 cU "offerStart" "[I" (.ref a1) ∧ Fld Z w a16 cU "offerItem" "[I" (.ref a6) ∧ Fld Z w a16 cU "offerWeight" "[J" (.ref a11) ∧ Fld Z w a16 cU "priceMoney" "[J" (.ref a22_0) ∧ Fld Z w a16 cU "priceSales" "[J" (.ref a22_1) ∧ Fld Z w a16 cU "holder" "[I" (.ref a22_2) ∧ Fld Z w a16 cU "utilityMoney" "[J" (.ref a22_3) ∧ Fld Z w a16 cU "utilitySales" "[J" (.ref a22_4) ∧ Fld Z w a16 cU "held" "[I" (.ref a22_5) ∧ Fld Z w a16 cU "distMoney" "[J" (.ref a22_6) ∧ Fld Z w a16 cU "distSales" "[J" (.ref a22_7) ∧ Fld Z w a16 cU "hops" "[I" (.ref a22_8) ∧ Fld Z w a16 cU "pred" "[I" (.ref a22_9) ∧ Fld Z w a16 cU "predOffer" "[I" (.ref a22_10) ∧ Fld Z w a16 cU "mark" "[B" (.ref a22_11) ∧ Fld Z w a16 cU "heap" "[I" (.ref a22_12) ∧ Fld Z w a16 cU "heapIndex" "[I" (.ref a22_13) ∧ Fld Z w a16 cU "touched" "[I" (.ref a22_14) ∧ Fld Z w a16 cU "changed" "[Z" (.ref a22_15) ∧ Fld Z w a16 cU "changedItems" "[I" (.ref a22_16) ∧ Fld Z w a16 cU "searches" "I" (.int 1) ∧ Fld Z w a16 cU "sinkMoney" "J" (.long v0) ∧ Fld Z w a16 cU "sinkSales" "J" (.long 1) ∧ Fld Z w a16 cU "sinkMoves" "I" (.int 1) ∧ Fld Z w a16 cU "sinkEnd" "I" (.int 0) ∧ Fld Z w a16 cU "sinkGoesWithout" "Z" (.int 1) ∧ Fld Z w a16 cU "touchedCount" "I" (.int 0) ∧ Fld Z w a16 cU "heapSize" "I" (.int 0) ∧ Fld Z w a16 cU "changedCount" "I" (.int 1) ∧ oAr Z w a22_0 .long [.long 0, .long 0] ∧ oAr Z w a22_1 .long [.long 0, .long 0] ∧ oAr Z w a22_2 .int [.int 1, .int (-1)] ∧ oAr Z w a22_3 .long [.long 0, .long (v1 - v0), .long 0] ∧ oAr Z w a22_4 .long [.long 0, .long 1, .long 0] ∧ oAr Z w a22_5 .int [.int (-1), .int 1, .int (-1)] ∧ oAr Z w a22_6 .long [.long 0, .long 0] ∧ oAr Z w a22_7 .long [.long 0, .long 0] ∧ oAr Z w a22_8 .int [.int 1, .int 0] ∧ oAr Z w a22_9 .int [.int (-1), .int 0] ∧ oAr Z w a22_10 .int [.int 1, .int 0] ∧ oAr Z w a22_11 .byte [.int 0, .int 0] ∧ oAr Z w a22_12 .int [.int 0, .int 0] ∧ oAr Z w a22_13 .int [.int 0, .int 0] ∧ oAr Z w a22_14 .int [.int 0, .int 0] ∧ oAr Z w a22_15 .boolean [.int 1, .int 0] ∧ oAr Z w a22_16 .int [.int 0, .int 0]) (fun w => w) (fun _ => (mkF m 149 #[.val (.long x0), .second, .val (.long x1), .second, .val (.long x2), .second, .val (.int fl), .val (.long v0), .second, .val (.long dd), .second, .val (.long v1), .second, .val (.long v2), .second, .val (.ref a1), .val (.ref a6), .val (.ref a11), .val (.ref a16), .unset, .unset, .unset, .unset] [])) (k := 21) (n := 77) (fun hj149 hjp => ?_) (fun J149 => ?_)
   ·
    obtain ⟨jz149, j149_0, j149_1, j149_2, j149_3, j149_4, j149_5, j149_6, j149_7, j149_8, j149_9, j149_10, j149_11, j149_12, j149_13, j149_14, j149_15, j149_16, j149_17, j149_18, j149_19, j149_20, j149_21, j149_22, j149_23, j149_24, j149_25, j149_26, j149_27, j149_28, j149_29, j149_30, j149_31, j149_32, j149_33, j149_34, j149_35, j149_36, j149_37, j149_38, j149_39, j149_40, j149_41, j149_42, j149_43, j149_44, j149_45, j149_46, j149_47, j149_48, j149_49, j149_50⟩ := hjp
    show oW _ _ _ _ _ _ _ _ _ _ _ _ _ _ _ (mkF m 149 #[.val (.long x0), .second, .val (.long x1), .second, .val (.long x2), .second, .val (.int fl), .val (.long v0), .second, .val (.long dd), .second, .val (.long v1), .second, .val (.long v2), .second, .val (.ref a1), .val (.ref a6), .val (.ref a11), .val (.ref a16), .unset, .unset, .unset, .unset] [])
    refine oAload C at_149 rfl rfl rfl ?_
    refine oIconst C at_151 (z := 1) rfl rfl ?_
    refine oLload C at_152 rfl rfl ?_
    have z306 := (Nat.le_trans (Nat.le_trans z304 K302.1) jz149)
    refine oCallV C (w156 hw) (w157 hw) (w159 hw) (w158 hw) (w5 hw) (w160 hw) at_154 j149_3 (by decide) pd_964411 rfl rfl (a := a16) (argsL := [.int 1, .long dd]) (rest := []) rfl (W := 0) rfl (q := 157) rfl (by decide) (by decide) (by decide) (by decide) (ac23_34 l Z a0 hw _ n0 z306 a16 dd a11 v0 v1 v2 j149_7 j149_2 ge_a11) (oVQ ?_)
    rintro h305 ⟨K305, f305_0⟩
    refine oAload C at_157 rfl rfl rfl ?_
    refine oIconst C at_159 (z := 0) rfl rfl ?_
    have f307 := (K305.fld j149_8 (ninS (Ne.symm ne25) nin0) oN0)
    have ne308 : a11 ≠ a22_0 := oNe' (Nat.lt_of_lt_of_le A11.lt (Nat.le_trans (Nat.le_trans (Nat.le_trans (Nat.le_of_eq W13.size.symm) (Nat.le_of_eq W14.size.symm)) (Nat.le_of_eq W15.size.symm)) E16.1)) s22
    have f309 := (K305.arr j149_34 (ninS (Ne.symm ne308) nin0) oA0)
    have f311 := (K305.exa j149_3)
    have z312 := (Nat.le_trans z306 K305.1)
    refine oCallV C (w161 hw) (w162 hw) (w164 hw) (w163 hw) (w5 hw) (w165 hw) at_160 f311 (by decide) pd_674829 rfl rfl (a := a16) (argsL := [.int 0]) (rest := []) rfl (W := 0) rfl (q := 163) rfl (by decide) (by decide) (by decide) (by decide) (ac24_35 l Z a0 hw _ n0 z312 a16 a22_0 f307 f309) (oRQ ?_)
    rintro h310 K310
    refine oLconst C at_163 (z := 0) rfl rfl ?_
    refine oLcmp_ne C at_164 rfl at_165 (q := 182) (by decide) (by decide) (r := 168) rfl (fun hq => absurd hq ((by decide))) (fun hc164 => ?_)
    refine oAload C at_168 rfl rfl rfl ?_
    refine oIconst C at_170 (z := 0) rfl rfl ?_
    have f313 := (K310.fld (K305.fld j149_10 (ninS (Ne.symm ne25) nin0) oN0) nin0 oN0)
    have f314 := (K310.arr (K305.arr j149_36 (ninS (Ne.symm ne64) nin0) oA0) nin0 oA0)
    have f316 := (K310.exa f311)
    have z317 := (Nat.le_trans z312 K310.1)
    refine oCallV C (w166 hw) (w167 hw) (w169 hw) (w168 hw) (w5 hw) (w170 hw) at_171 f316 (by decide) pd_674828 rfl rfl (a := a16) (argsL := [.int 0]) (rest := []) rfl (W := 0) rfl (q := 174) rfl (by decide) (by decide) (by decide) (by decide) (ac25_36 l Z a0 hw _ n0 z317 a16 a22_2 f313 f314) (oRQ ?_)
    rintro h315 K315
    refine oIconst C at_174 (z := 1) rfl rfl ?_
    refine oIcmp_ne C at_175 (q := 182) (by decide) (by decide) (r := 178) rfl (fun hq => absurd hq ((by decide))) (fun hc175 => ?_)
    refine oIconst C at_178 (z := 1) rfl rfl ?_
    refine oGoto C at_179 (q := 183) (by decide) (by decide) ?_
    refine oIstore C at_183 (Ls' := #[.val (.long x0), .second, .val (.long x1), .second, .val (.long x2), .second, .val (.int fl), .val (.long v0), .second, .val (.long dd), .second, .val (.long v1), .second, .val (.long v2), .second, .val (.ref a1), .val (.ref a6), .val (.ref a11), .val (.ref a16), .val (.int 1), .unset, .unset, .unset]) rfl (q := 185) rfl ?_
    by_cases hA : dd < v2
    ·
     have rA : dd.toInt < v2.toInt := by rw [← Int64.lt_iff_toInt_lt]; exact hA
     refine oAload C at_185 rfl rfl rfl ?_
     refine oIconst C at_187 (z := 2) rfl rfl ?_
     have f318 := (K315.exa f316)
     have f319 := (K315.fld (K310.fld (K305.fld j149_4 (ninS (Ne.symm ne25) nin0) oN0) nin0 oN0) nin0 oN0)
     have f320 := (K315.fld (K310.fld (K305.fld j149_5 (ninS (Ne.symm ne25) nin0) oN0) nin0 oN0) nin0 oN0)
     have f321 := (K315.arr (K310.arr (K305.arr j149_0 (ninS ne19 nin0) oA0) nin0 oA0) nin0 oA0)
     have f322 := (K315.fld (K310.fld (K305.fld j149_7 (ninS (Ne.symm ne25) nin0) oN0) nin0 oN0) nin0 oN0)
     have f323 := (K315.arr (K310.arr f305_0 nin0 oA0) nin0 oA0)
     have f324 := (K315.fld (K310.fld (K305.fld j149_6 (ninS (Ne.symm ne25) nin0) oN0) nin0 oN0) nin0 oN0)
     have f325 := (K315.arr (K310.arr (K305.arr j149_1 (ninS ne27 nin0) oA0) nin0 oA0) nin0 oA0)
     have f326 := (K315.fld (K310.fld f307 nin0 oN0) nin0 oN0)
     have f327 := (K315.arr (K310.arr f309 nin0 oA0) nin0 oA0)
     have f328 := (K315.fld (K310.fld (K305.fld j149_9 (ninS (Ne.symm ne25) nin0) oN0) nin0 oN0) nin0 oN0)
     have ne329 : a11 ≠ a22_1 := oNe' (Nat.lt_of_lt_of_le A11.lt (Nat.le_trans (Nat.le_trans (Nat.le_trans (Nat.le_of_eq W13.size.symm) (Nat.le_of_eq W14.size.symm)) (Nat.le_of_eq W15.size.symm)) E16.1)) s31
     have f330 := (K315.arr (K310.arr (K305.arr j149_35 (ninS (Ne.symm ne329) nin0) oA0) nin0 oA0) nin0 oA0)
     have f331 := (K315.fld (K310.fld (K305.fld j149_25 (ninS (Ne.symm ne25) nin0) oN0) nin0 oN0) nin0 oN0)
     have f332 := (K315.fld (K310.fld (K305.fld j149_26 (ninS (Ne.symm ne25) nin0) oN0) nin0 oN0) nin0 oN0)
     have f333 := (K315.fld (K310.fld (K305.fld j149_27 (ninS (Ne.symm ne25) nin0) oN0) nin0 oN0) nin0 oN0)
     have f334 := (K315.fld (K310.fld (K305.fld j149_28 (ninS (Ne.symm ne25) nin0) oN0) nin0 oN0) nin0 oN0)
     have f335 := (K315.fld (K310.fld (K305.fld j149_29 (ninS (Ne.symm ne25) nin0) oN0) nin0 oN0) nin0 oN0)
     have f336 := (K315.fld (K310.fld (K305.fld j149_30 (ninS (Ne.symm ne25) nin0) oN0) nin0 oN0) nin0 oN0)
     have f337 := (K315.fld (K310.fld (K305.fld j149_19 (ninS (Ne.symm ne25) nin0) oN0) nin0 oN0) nin0 oN0)
     have ne338 : a11 ≠ a22_11 := oNe' (Nat.lt_of_lt_of_le A11.lt (Nat.le_trans (Nat.le_trans (Nat.le_trans (Nat.le_of_eq W13.size.symm) (Nat.le_of_eq W14.size.symm)) (Nat.le_of_eq W15.size.symm)) E16.1)) s157
     have f339 := (K315.arr (K310.arr (K305.arr j149_45 (ninS (Ne.symm ne338) nin0) oA0) nin0 oA0) nin0 oA0)
     have f340 := (K315.fld (K310.fld (K305.fld j149_22 (ninS (Ne.symm ne25) nin0) oN0) nin0 oN0) nin0 oN0)
     have f341 := (K315.fld (K310.fld (K305.fld j149_31 (ninS (Ne.symm ne25) nin0) oN0) nin0 oN0) nin0 oN0)
     have ne342 : a11 ≠ a22_14 := oNe' (Nat.lt_of_lt_of_le A11.lt (Nat.le_trans (Nat.le_trans (Nat.le_trans (Nat.le_of_eq W13.size.symm) (Nat.le_of_eq W14.size.symm)) (Nat.le_of_eq W15.size.symm)) E16.1)) s161
     have f343 := (K315.arr (K310.arr (K305.arr j149_48 (ninS (Ne.symm ne342) nin0) oA0) nin0 oA0) nin0 oA0)
     have f344 := (K315.fld (K310.fld (K305.fld j149_14 (ninS (Ne.symm ne25) nin0) oN0) nin0 oN0) nin0 oN0)
     have ne345 : a11 ≠ a22_6 := oNe' (Nat.lt_of_lt_of_le A11.lt (Nat.le_trans (Nat.le_trans (Nat.le_trans (Nat.le_of_eq W13.size.symm) (Nat.le_of_eq W14.size.symm)) (Nat.le_of_eq W15.size.symm)) E16.1)) s152
     have f346 := (K315.arr (K310.arr (K305.arr j149_40 (ninS (Ne.symm ne345) nin0) oA0) nin0 oA0) nin0 oA0)
     have f347 := (K315.fld (K310.fld (K305.fld j149_15 (ninS (Ne.symm ne25) nin0) oN0) nin0 oN0) nin0 oN0)
     have ne348 : a11 ≠ a22_7 := oNe' (Nat.lt_of_lt_of_le A11.lt (Nat.le_trans (Nat.le_trans (Nat.le_trans (Nat.le_of_eq W13.size.symm) (Nat.le_of_eq W14.size.symm)) (Nat.le_of_eq W15.size.symm)) E16.1)) s153
     have f349 := (K315.arr (K310.arr (K305.arr j149_41 (ninS (Ne.symm ne348) nin0) oA0) nin0 oA0) nin0 oA0)
     have f350 := (K315.fld (K310.fld (K305.fld j149_16 (ninS (Ne.symm ne25) nin0) oN0) nin0 oN0) nin0 oN0)
     have ne351 : a11 ≠ a22_8 := oNe' (Nat.lt_of_lt_of_le A11.lt (Nat.le_trans (Nat.le_trans (Nat.le_trans (Nat.le_of_eq W13.size.symm) (Nat.le_of_eq W14.size.symm)) (Nat.le_of_eq W15.size.symm)) E16.1)) s154
     have f352 := (K315.arr (K310.arr (K305.arr j149_42 (ninS (Ne.symm ne351) nin0) oA0) nin0 oA0) nin0 oA0)
     have f353 := (K315.fld (K310.fld (K305.fld j149_17 (ninS (Ne.symm ne25) nin0) oN0) nin0 oN0) nin0 oN0)
     have ne354 : a11 ≠ a22_9 := oNe' (Nat.lt_of_lt_of_le A11.lt (Nat.le_trans (Nat.le_trans (Nat.le_trans (Nat.le_of_eq W13.size.symm) (Nat.le_of_eq W14.size.symm)) (Nat.le_of_eq W15.size.symm)) E16.1)) s155
     have f355 := (K315.arr (K310.arr (K305.arr j149_43 (ninS (Ne.symm ne354) nin0) oA0) nin0 oA0) nin0 oA0)
     have f356 := (K315.fld (K310.fld (K305.fld j149_18 (ninS (Ne.symm ne25) nin0) oN0) nin0 oN0) nin0 oN0)
     have ne357 : a11 ≠ a22_10 := oNe' (Nat.lt_of_lt_of_le A11.lt (Nat.le_trans (Nat.le_trans (Nat.le_trans (Nat.le_of_eq W13.size.symm) (Nat.le_of_eq W14.size.symm)) (Nat.le_of_eq W15.size.symm)) E16.1)) s156
     have f358 := (K315.arr (K310.arr (K305.arr j149_44 (ninS (Ne.symm ne357) nin0) oA0) nin0 oA0) nin0 oA0)
     have f359 := (K315.fld (K310.fld (K305.fld j149_32 (ninS (Ne.symm ne25) nin0) oN0) nin0 oN0) nin0 oN0)
     have f360 := (K315.fld (K310.fld (K305.fld j149_20 (ninS (Ne.symm ne25) nin0) oN0) nin0 oN0) nin0 oN0)
     have ne361 : a11 ≠ a22_12 := oNe' (Nat.lt_of_lt_of_le A11.lt (Nat.le_trans (Nat.le_trans (Nat.le_trans (Nat.le_of_eq W13.size.symm) (Nat.le_of_eq W14.size.symm)) (Nat.le_of_eq W15.size.symm)) E16.1)) s159
     have f362 := (K315.arr (K310.arr (K305.arr j149_46 (ninS (Ne.symm ne361) nin0) oA0) nin0 oA0) nin0 oA0)
     have f363 := (K315.fld (K310.fld (K305.fld j149_21 (ninS (Ne.symm ne25) nin0) oN0) nin0 oN0) nin0 oN0)
     have ne364 : a11 ≠ a22_13 := oNe' (Nat.lt_of_lt_of_le A11.lt (Nat.le_trans (Nat.le_trans (Nat.le_trans (Nat.le_of_eq W13.size.symm) (Nat.le_of_eq W14.size.symm)) (Nat.le_of_eq W15.size.symm)) E16.1)) s160
     have f365 := (K315.arr (K310.arr (K305.arr j149_47 (ninS (Ne.symm ne364) nin0) oA0) nin0 oA0) nin0 oA0)
     have f366 := (K315.fld f313 nin0 oN0)
     have f367 := (K315.arr f314 nin0 oA0)
     have f368 := (K315.fld (K310.fld (K305.fld j149_11 (ninS (Ne.symm ne25) nin0) oN0) nin0 oN0) nin0 oN0)
     have f369 := (K315.arr (K310.arr (K305.arr j149_37 (ninS (Ne.symm ne62) nin0) oA0) nin0 oA0) nin0 oA0)
     have f370 := (K315.fld (K310.fld (K305.fld j149_12 (ninS (Ne.symm ne25) nin0) oN0) nin0 oN0) nin0 oN0)
     have f371 := (K315.arr (K310.arr (K305.arr j149_38 (ninS (Ne.symm ne61) nin0) oA0) nin0 oA0) nin0 oA0)
     have f372 := (K315.fld (K310.fld (K305.fld j149_23 (ninS (Ne.symm ne25) nin0) oN0) nin0 oN0) nin0 oN0)
     have ne373 : a11 ≠ a22_15 := oNe' (Nat.lt_of_lt_of_le A11.lt (Nat.le_trans (Nat.le_trans (Nat.le_trans (Nat.le_of_eq W13.size.symm) (Nat.le_of_eq W14.size.symm)) (Nat.le_of_eq W15.size.symm)) E16.1)) s246
     have f374 := (K315.arr (K310.arr (K305.arr j149_49 (ninS (Ne.symm ne373) nin0) oA0) nin0 oA0) nin0 oA0)
     have f375 := (K315.fld (K310.fld (K305.fld j149_13 (ninS (Ne.symm ne25) nin0) oN0) nin0 oN0) nin0 oN0)
     have f376 := (K315.arr (K310.arr (K305.arr j149_39 (ninS (Ne.symm ne63) nin0) oA0) nin0 oA0) nin0 oA0)
     have z378 := (Nat.le_trans z317 K315.1)
     refine oCallV C (w76 hw) (w77 hw) (w79 hw) (w78 hw) (w5 hw) (w80 hw) at_188 f318 (by decide) pd_674841 rfl rfl (a := a16) (argsL := [.int 2]) (rest := []) rfl (W := 0) rfl (q := 191) rfl (by decide) (by decide) (by decide) (by decide) (ac8_42 l Z a0 hw _ n0 z378 a16 a1 a11 v0 dd v2 a6 a22_0 a22_1 a22_11 a22_14 a22_6 a22_7 a22_8 a22_9 a22_10 a22_12 a22_13 a22_2 a22_3 (v1 - v0) a22_4 a22_15 a22_5 f318 f319 ge_a16 f320 f321 ne21 f322 f323 ne25 (or10 v0 dd v1 v2 r_v0 r_dd r_v1 r_v2 rA) f324 f325 ne28 f326 f327 (Ne.symm ne78) (or11 v0 dd v1 v2 r_v0 r_dd r_v1 r_v2 rA) f328 f330 (Ne.symm ne85) (or12 v0 dd v1 v2 r_v0 r_dd r_v1 r_v2 rA) f331 f332 f333 f334 f335 f336 f337 f339 f340 f341 f343 f344 f346 f347 f349 f350 f352 f353 f355 f356 f358 f359 f360 f362 f363 f365 f366 f367 f368 f369 f370 f371 (or13 v0 dd v1 v2 r_v0 r_dd r_v1 r_v2 rA) (or14 v0 dd v1 v2 r_v0 r_dd r_v1 r_v2 rA) (Ne.symm ne151) (Ne.symm ne158) (Ne.symm ne162) (Ne.symm ne163) (Ne.symm ne164) (Ne.symm ne165) (Ne.symm ne166) (Ne.symm ne167) (Ne.symm ne168) (or15 v0 dd v1 v2 r_v0 r_dd r_v1 r_v2 rA) ge169 ne151 (Ne.symm ne170) ge171 ne158 ne172 ne173 ge174 ne162 ne175 ne176 (Ne.symm ne177) ge178 ne163 ne179 ne180 (Ne.symm ne181) (Ne.symm ne182) ge183 ne164 ne184 ne185 (Ne.symm ne186) (Ne.symm ne187) (Ne.symm ne188) ge189 ne165 ne190 ne191 (Ne.symm ne192) (Ne.symm ne193) (Ne.symm ne194) (Ne.symm ne195) ge196 ne177 ne181 ne186 ne192 ne182 ne187 ne193 ne188 ne194 ne195 ne166 (Ne.symm ne197) ne198 (Ne.symm ne199) (Ne.symm ne200) (Ne.symm ne201) (Ne.symm ne202) (Ne.symm ne203) (Ne.symm ne204) ne205 (Ne.symm ne206) (Ne.symm ne207) (Ne.symm ne208) (Ne.symm ne209) (Ne.symm ne210) ge211 ne167 (Ne.symm ne212) ge213 ne212 ne170 (Ne.symm ne190) (Ne.symm ne184) (Ne.symm ne179) (Ne.symm ne175) (Ne.symm ne172) ne204 ne197 ne168 (Ne.symm ne191) (Ne.symm ne185) (Ne.symm ne180) (Ne.symm ne176) (Ne.symm ne173) (Ne.symm ne205) (Ne.symm ne198) ne210 ne203 ne209 ne202 ne208 ne201 ne207 ne200 ne206 ne199 ne214 ne215 ne216 ne217 ne218 ne219 ne220 ne221 ne222 (Ne.symm ne33) ne146 ne140 ne133 ne127 ne121 ne115 ne109 ne103 ne96 (Ne.symm ne43) ne144 ne138 ne131 ne125 ne119 ne113 ne107 ne101 ne94 (or16 v0 dd v1 v2 r_v0 r_dd r_v1 r_v2 rA) (Ne.symm ne52) ne143 ne137 ne130 ne124 ne118 ne112 ne106 ne100 ne93 (or17 v0 dd v1 v2 r_v0 r_dd r_v1 r_v2 rA) ne223 ne224 ne225 ne226 ne227 ne228 ne229 ne230 ne231 f372 f374 (or18 v0 dd v1 v2 r_v0 r_dd r_v1 r_v2 rA) (Ne.symm ne245) (Ne.symm ne247) (Ne.symm ne248) (Ne.symm ne249) (Ne.symm ne250) (Ne.symm ne251) (Ne.symm ne252) (Ne.symm ne253) (Ne.symm ne254) (Ne.symm ne255) ne270 ne271 ne272 ne273 ne274 ne275 ne276 ne277 ne278 ge281 ne78 ne282 ne283 ne284 ne285 ne286 ne287 ne288 ne289 ne290 (Ne.symm ne293) ge294 ne85 (Ne.symm ne76) (Ne.symm ne83) (Ne.symm ne74) (Ne.symm ne81) ge42 ne43 (Ne.symm ne73) (Ne.symm ne80) (Ne.symm ne46) ge47 ne52 ne46 ne293 ne74 ne73 ne81 ne80 (or19 v0 dd v1 v2 r_v0 r_dd r_v1 r_v2 rA) f375 f376 ne44 ne40 (Ne.symm ne39) ne145 ne139 ne132 ne126 ne120 ne114 ne108 ne102 ne95 (Ne.symm ne45) (Ne.symm ne41) (Ne.symm ne82) (Ne.symm ne75) ge35 (Ne.symm ne233) (Ne.symm ne234) (Ne.symm ne292) (Ne.symm ne280) ne39 (Ne.symm ne235) (Ne.symm ne124) (Ne.symm ne125) (Ne.symm ne285) (Ne.symm ne273) (Ne.symm ne126) ne34 ge30 ne33 (Ne.symm ne130) (Ne.symm ne131) (Ne.symm ne284) (Ne.symm ne272) (Ne.symm ne132) (Ne.symm ne133) (Ne.symm ne34) (Ne.symm ne100) (Ne.symm ne101) (Ne.symm ne289) (Ne.symm ne277) (Ne.symm ne103) (Ne.symm ne102) (Ne.symm ne93) (Ne.symm ne94) (Ne.symm ne290) (Ne.symm ne278) (Ne.symm ne96) (Ne.symm ne95) ne76 ne75 ne83 ne82 (Ne.symm ne106) (Ne.symm ne107) (Ne.symm ne288) (Ne.symm ne276) (Ne.symm ne109) (Ne.symm ne108) (Ne.symm ne112) (Ne.symm ne113) (Ne.symm ne287) (Ne.symm ne275) (Ne.symm ne115) (Ne.symm ne114) (Ne.symm ne118) (Ne.symm ne119) (Ne.symm ne286) (Ne.symm ne274) (Ne.symm ne121) (Ne.symm ne120) (Ne.symm ne127) (Ne.symm ne137) (Ne.symm ne138) (Ne.symm ne283) (Ne.symm ne271) (Ne.symm ne140) (Ne.symm ne139) (Ne.symm ne143) (Ne.symm ne144) (Ne.symm ne282) (Ne.symm ne270) (Ne.symm ne146) (Ne.symm ne145) (Ne.symm ne40) ne41 (Ne.symm ne44) ne45) (oVQ ?_)
     rintro h377 ⟨K377, f377_0, f377_1, f377_2, f377_3, f377_4, f377_5, f377_6, f377_7, f377_8, f377_9, f377_10, f377_11, f377_12, f377_13, f377_14, f377_15, f377_16, f377_17, f377_18, f377_19, f377_20, f377_21, f377_22, f377_23⟩
     refine oLload C at_191 rfl rfl ?_
     refine oLload C at_193 rfl rfl ?_
     refine oLcmp_le C at_195 rfl at_196 (q := 203) (by decide) (by decide) (r := 199) rfl (fun hq => absurd hq (not_not_intro (or20 v0 dd v1 v2 r_v0 r_dd r_v1 r_v2 rA))) (fun hc195 => ?_)
     refine oIconst C at_199 (z := 2) rfl rfl ?_
     refine oGoto C at_200 (q := 204) (by decide) (by decide) ?_
     refine oIstore C at_204 (Ls' := #[.val (.long x0), .second, .val (.long x1), .second, .val (.long x2), .second, .val (.int fl), .val (.long v0), .second, .val (.long dd), .second, .val (.long v1), .second, .val (.long v2), .second, .val (.ref a1), .val (.ref a6), .val (.ref a11), .val (.ref a16), .val (.int 1), .val (.int 2), .unset, .unset]) rfl (q := 206) rfl ?_
     refine oLload C at_206 rfl rfl ?_
     refine oLload C at_208 rfl rfl ?_
     have z379 := (Nat.le_trans z378 K377.1)
     refine oCallS C (w171 hw) (w172 hw) (w67 hw) (w173 hw) at_210 (by decide) pd_212481 rfl rfl (argsL := [.long v2, .long dd]) (rest := []) rfl (W := 0) rfl (q := 213) rfl (by decide) (by decide) (by decide) (by decide) (mt_fMin l Z a0 hw _ n0 z379 v2 dd ) (oPureK ?_)
     refine oLstore C at_213 (Ls' := #[.val (.long x0), .second, .val (.long x1), .second, .val (.long x2), .second, .val (.int fl), .val (.long v0), .second, .val (.long dd), .second, .val (.long v1), .second, .val (.long v2), .second, .val (.ref a1), .val (.ref a6), .val (.ref a11), .val (.ref a16), .val (.int 1), .val (.int 2), .val (.long (fMin v2 dd)), .second]) rfl (q := 215) rfl ?_
     refine oIload C at_215 rfl rfl ?_
     refine oIf_eq C at_217 (q := 247) (by decide) (by decide) (r := 220) rfl (fun hq => absurd hq ((by decide))) (fun hc217 => ?_)
     refine oAload C at_220 rfl rfl rfl ?_
     refine oIconst C at_222 (z := 0) rfl rfl ?_
     have f381 := (K377.fld f366 (ninS ne151 (ninS ne158 (ninS ne162 (ninS ne163 (ninS ne164 (ninS ne165 (ninS ne166 (ninS ne167 (ninS ne168 (ninS ne78 (ninS ne85 (ninS ne43 (ninS ne52 (ninS ne39 (ninS ne33 nin0))))))))))))))) (oNF (Or.inr (oSn0 hw 6 0)) (oNF (Or.inr (oSn0 hw 6 21)) (oNF (Or.inr (oSn0 hw 6 22)) (oNF (Or.inr (oSn0 hw 6 23)) (oNF (Or.inr (oSn0 hw 6 24)) (oNF (Or.inr (oSn0 hw 6 25)) (oNF (Or.inr (oSn0 hw 6 26)) (oNF (Or.inr (oSn0 hw 6 27)) (oNF (Or.inr (oSn0 hw 6 28)) oN0))))))))))
     have f383 := (K377.exa f318)
     refine oCallV C (w166 hw) (w167 hw) (w169 hw) (w168 hw) (w5 hw) (w170 hw) at_223 f383 (by decide) pd_674828 rfl rfl (a := a16) (argsL := [.int 0]) (rest := []) rfl (W := 0) rfl (q := 226) rfl (by decide) (by decide) (by decide) (by decide) (ac25_43 l Z a0 hw _ n0 z379 a16 a22_2 f381 f377_20) (oRQ ?_)
     rintro h382 K382
     refine oIload C at_226 rfl rfl ?_
     refine oIcmp_ne C at_228 (q := 247) (by decide) (by decide) (r := 231) rfl (fun hq => absurd hq ((by decide))) (fun hc228 => ?_)
     refine oAload C at_231 rfl rfl rfl ?_
     refine oIconst C at_233 (z := 0) rfl rfl ?_
     have f384 := (K382.fld (K377.fld f326 (ninS ne151 (ninS ne158 (ninS ne162 (ninS ne163 (ninS ne164 (ninS ne165 (ninS ne166 (ninS ne167 (ninS ne168 (ninS ne78 (ninS ne85 (ninS ne43 (ninS ne52 (ninS ne39 (ninS ne33 nin0))))))))))))))) (oNF (Or.inr (oSn0 hw 4 0)) (oNF (Or.inr (oSn0 hw 4 21)) (oNF (Or.inr (oSn0 hw 4 22)) (oNF (Or.inr (oSn0 hw 4 23)) (oNF (Or.inr (oSn0 hw 4 24)) (oNF (Or.inr (oSn0 hw 4 25)) (oNF (Or.inr (oSn0 hw 4 26)) (oNF (Or.inr (oSn0 hw 4 27)) (oNF (Or.inr (oSn0 hw 4 28)) oN0)))))))))) nin0 oN0)
     have f385 := (K382.arr f377_1 nin0 oA0)
     have f387 := (K382.exa f383)
     have z388 := (Nat.le_trans z379 K382.1)
     refine oCallV C (w161 hw) (w162 hw) (w164 hw) (w163 hw) (w5 hw) (w165 hw) at_234 f387 (by decide) pd_674829 rfl rfl (a := a16) (argsL := [.int 0]) (rest := []) rfl (W := 0) rfl (q := 237) rfl (by decide) (by decide) (by decide) (by decide) (ac24_44 l Z a0 hw _ n0 z388 a16 a22_0 (v1 - v0) f384 f385) (oRQ ?_)
     rintro h386 K386
     refine oLload C at_237 rfl rfl ?_
     refine oLcmp_ne C at_239 rfl at_240 (q := 247) (by decide) (by decide) (r := 243) rfl (fun hq => absurd hq (not_not_intro (or21 v0 dd v1 v2 r_v0 r_dd r_v1 r_v2 rA))) (fun hc239 => ?_)
     refine oIconst C at_243 (z := 1) rfl rfl ?_
     refine oGoto C at_244 (q := 248) (by decide) (by decide) ?_
     refine oRetZ C at_248 (z' := (1 : Int32)) rfl (by decide) (by decide) ?_
     exact rfl
    ·
     have rN : ¬ dd.toInt < v2.toInt := by rw [← Int64.lt_iff_toInt_lt]; exact hA
     refine oAload C at_185 rfl rfl rfl ?_
     refine oIconst C at_187 (z := 2) rfl rfl ?_
     have f389 := (K315.exa f316)
     have f390 := (K315.fld (K310.fld (K305.fld j149_4 (ninS (Ne.symm ne25) nin0) oN0) nin0 oN0) nin0 oN0)
     have f391 := (K315.fld (K310.fld (K305.fld j149_5 (ninS (Ne.symm ne25) nin0) oN0) nin0 oN0) nin0 oN0)
     have f392 := (K315.arr (K310.arr (K305.arr j149_0 (ninS ne19 nin0) oA0) nin0 oA0) nin0 oA0)
     have f393 := (K315.fld (K310.fld (K305.fld j149_7 (ninS (Ne.symm ne25) nin0) oN0) nin0 oN0) nin0 oN0)
     have f394 := (K315.arr (K310.arr f305_0 nin0 oA0) nin0 oA0)
     have f395 := (K315.fld (K310.fld (K305.fld j149_6 (ninS (Ne.symm ne25) nin0) oN0) nin0 oN0) nin0 oN0)
     have f396 := (K315.arr (K310.arr (K305.arr j149_1 (ninS ne27 nin0) oA0) nin0 oA0) nin0 oA0)
     have f397 := (K315.fld (K310.fld f307 nin0 oN0) nin0 oN0)
     have f398 := (K315.arr (K310.arr f309 nin0 oA0) nin0 oA0)
     have f399 := (K315.fld (K310.fld (K305.fld j149_9 (ninS (Ne.symm ne25) nin0) oN0) nin0 oN0) nin0 oN0)
     have ne400 : a11 ≠ a22_1 := oNe' (Nat.lt_of_lt_of_le A11.lt (Nat.le_trans (Nat.le_trans (Nat.le_trans (Nat.le_of_eq W13.size.symm) (Nat.le_of_eq W14.size.symm)) (Nat.le_of_eq W15.size.symm)) E16.1)) s31
     have f401 := (K315.arr (K310.arr (K305.arr j149_35 (ninS (Ne.symm ne400) nin0) oA0) nin0 oA0) nin0 oA0)
     have f402 := (K315.fld (K310.fld (K305.fld j149_25 (ninS (Ne.symm ne25) nin0) oN0) nin0 oN0) nin0 oN0)
     have f403 := (K315.fld (K310.fld (K305.fld j149_26 (ninS (Ne.symm ne25) nin0) oN0) nin0 oN0) nin0 oN0)
     have f404 := (K315.fld (K310.fld (K305.fld j149_27 (ninS (Ne.symm ne25) nin0) oN0) nin0 oN0) nin0 oN0)
     have f405 := (K315.fld (K310.fld (K305.fld j149_28 (ninS (Ne.symm ne25) nin0) oN0) nin0 oN0) nin0 oN0)
     have f406 := (K315.fld (K310.fld (K305.fld j149_29 (ninS (Ne.symm ne25) nin0) oN0) nin0 oN0) nin0 oN0)
     have f407 := (K315.fld (K310.fld (K305.fld j149_30 (ninS (Ne.symm ne25) nin0) oN0) nin0 oN0) nin0 oN0)
     have f408 := (K315.fld (K310.fld (K305.fld j149_19 (ninS (Ne.symm ne25) nin0) oN0) nin0 oN0) nin0 oN0)
     have ne409 : a11 ≠ a22_11 := oNe' (Nat.lt_of_lt_of_le A11.lt (Nat.le_trans (Nat.le_trans (Nat.le_trans (Nat.le_of_eq W13.size.symm) (Nat.le_of_eq W14.size.symm)) (Nat.le_of_eq W15.size.symm)) E16.1)) s157
     have f410 := (K315.arr (K310.arr (K305.arr j149_45 (ninS (Ne.symm ne409) nin0) oA0) nin0 oA0) nin0 oA0)
     have f411 := (K315.fld (K310.fld (K305.fld j149_22 (ninS (Ne.symm ne25) nin0) oN0) nin0 oN0) nin0 oN0)
     have f412 := (K315.fld (K310.fld (K305.fld j149_31 (ninS (Ne.symm ne25) nin0) oN0) nin0 oN0) nin0 oN0)
     have ne413 : a11 ≠ a22_14 := oNe' (Nat.lt_of_lt_of_le A11.lt (Nat.le_trans (Nat.le_trans (Nat.le_trans (Nat.le_of_eq W13.size.symm) (Nat.le_of_eq W14.size.symm)) (Nat.le_of_eq W15.size.symm)) E16.1)) s161
     have f414 := (K315.arr (K310.arr (K305.arr j149_48 (ninS (Ne.symm ne413) nin0) oA0) nin0 oA0) nin0 oA0)
     have f415 := (K315.fld (K310.fld (K305.fld j149_14 (ninS (Ne.symm ne25) nin0) oN0) nin0 oN0) nin0 oN0)
     have ne416 : a11 ≠ a22_6 := oNe' (Nat.lt_of_lt_of_le A11.lt (Nat.le_trans (Nat.le_trans (Nat.le_trans (Nat.le_of_eq W13.size.symm) (Nat.le_of_eq W14.size.symm)) (Nat.le_of_eq W15.size.symm)) E16.1)) s152
     have f417 := (K315.arr (K310.arr (K305.arr j149_40 (ninS (Ne.symm ne416) nin0) oA0) nin0 oA0) nin0 oA0)
     have f418 := (K315.fld (K310.fld (K305.fld j149_15 (ninS (Ne.symm ne25) nin0) oN0) nin0 oN0) nin0 oN0)
     have ne419 : a11 ≠ a22_7 := oNe' (Nat.lt_of_lt_of_le A11.lt (Nat.le_trans (Nat.le_trans (Nat.le_trans (Nat.le_of_eq W13.size.symm) (Nat.le_of_eq W14.size.symm)) (Nat.le_of_eq W15.size.symm)) E16.1)) s153
     have f420 := (K315.arr (K310.arr (K305.arr j149_41 (ninS (Ne.symm ne419) nin0) oA0) nin0 oA0) nin0 oA0)
     have f421 := (K315.fld (K310.fld (K305.fld j149_16 (ninS (Ne.symm ne25) nin0) oN0) nin0 oN0) nin0 oN0)
     have ne422 : a11 ≠ a22_8 := oNe' (Nat.lt_of_lt_of_le A11.lt (Nat.le_trans (Nat.le_trans (Nat.le_trans (Nat.le_of_eq W13.size.symm) (Nat.le_of_eq W14.size.symm)) (Nat.le_of_eq W15.size.symm)) E16.1)) s154
     have f423 := (K315.arr (K310.arr (K305.arr j149_42 (ninS (Ne.symm ne422) nin0) oA0) nin0 oA0) nin0 oA0)
     have f424 := (K315.fld (K310.fld (K305.fld j149_17 (ninS (Ne.symm ne25) nin0) oN0) nin0 oN0) nin0 oN0)
     have ne425 : a11 ≠ a22_9 := oNe' (Nat.lt_of_lt_of_le A11.lt (Nat.le_trans (Nat.le_trans (Nat.le_trans (Nat.le_of_eq W13.size.symm) (Nat.le_of_eq W14.size.symm)) (Nat.le_of_eq W15.size.symm)) E16.1)) s155
     have f426 := (K315.arr (K310.arr (K305.arr j149_43 (ninS (Ne.symm ne425) nin0) oA0) nin0 oA0) nin0 oA0)
     have f427 := (K315.fld (K310.fld (K305.fld j149_18 (ninS (Ne.symm ne25) nin0) oN0) nin0 oN0) nin0 oN0)
     have ne428 : a11 ≠ a22_10 := oNe' (Nat.lt_of_lt_of_le A11.lt (Nat.le_trans (Nat.le_trans (Nat.le_trans (Nat.le_of_eq W13.size.symm) (Nat.le_of_eq W14.size.symm)) (Nat.le_of_eq W15.size.symm)) E16.1)) s156
     have f429 := (K315.arr (K310.arr (K305.arr j149_44 (ninS (Ne.symm ne428) nin0) oA0) nin0 oA0) nin0 oA0)
     have f430 := (K315.fld (K310.fld (K305.fld j149_32 (ninS (Ne.symm ne25) nin0) oN0) nin0 oN0) nin0 oN0)
     have f431 := (K315.fld (K310.fld (K305.fld j149_20 (ninS (Ne.symm ne25) nin0) oN0) nin0 oN0) nin0 oN0)
     have ne432 : a11 ≠ a22_12 := oNe' (Nat.lt_of_lt_of_le A11.lt (Nat.le_trans (Nat.le_trans (Nat.le_trans (Nat.le_of_eq W13.size.symm) (Nat.le_of_eq W14.size.symm)) (Nat.le_of_eq W15.size.symm)) E16.1)) s159
     have f433 := (K315.arr (K310.arr (K305.arr j149_46 (ninS (Ne.symm ne432) nin0) oA0) nin0 oA0) nin0 oA0)
     have f434 := (K315.fld (K310.fld (K305.fld j149_21 (ninS (Ne.symm ne25) nin0) oN0) nin0 oN0) nin0 oN0)
     have ne435 : a11 ≠ a22_13 := oNe' (Nat.lt_of_lt_of_le A11.lt (Nat.le_trans (Nat.le_trans (Nat.le_trans (Nat.le_of_eq W13.size.symm) (Nat.le_of_eq W14.size.symm)) (Nat.le_of_eq W15.size.symm)) E16.1)) s160
     have f436 := (K315.arr (K310.arr (K305.arr j149_47 (ninS (Ne.symm ne435) nin0) oA0) nin0 oA0) nin0 oA0)
     have f437 := (K315.fld f313 nin0 oN0)
     have f438 := (K315.arr f314 nin0 oA0)
     have f439 := (K315.fld (K310.fld (K305.fld j149_11 (ninS (Ne.symm ne25) nin0) oN0) nin0 oN0) nin0 oN0)
     have f440 := (K315.arr (K310.arr (K305.arr j149_37 (ninS (Ne.symm ne62) nin0) oA0) nin0 oA0) nin0 oA0)
     have f441 := (K315.fld (K310.fld (K305.fld j149_12 (ninS (Ne.symm ne25) nin0) oN0) nin0 oN0) nin0 oN0)
     have f442 := (K315.arr (K310.arr (K305.arr j149_38 (ninS (Ne.symm ne61) nin0) oA0) nin0 oA0) nin0 oA0)
     have f443 := (K315.fld (K310.fld (K305.fld j149_23 (ninS (Ne.symm ne25) nin0) oN0) nin0 oN0) nin0 oN0)
     have ne444 : a11 ≠ a22_15 := oNe' (Nat.lt_of_lt_of_le A11.lt (Nat.le_trans (Nat.le_trans (Nat.le_trans (Nat.le_of_eq W13.size.symm) (Nat.le_of_eq W14.size.symm)) (Nat.le_of_eq W15.size.symm)) E16.1)) s246
     have f445 := (K315.arr (K310.arr (K305.arr j149_49 (ninS (Ne.symm ne444) nin0) oA0) nin0 oA0) nin0 oA0)
     have z447 := (Nat.le_trans z317 K315.1)
     refine oCallV C (w76 hw) (w77 hw) (w79 hw) (w78 hw) (w5 hw) (w80 hw) at_188 f389 (by decide) pd_674841 rfl rfl (a := a16) (argsL := [.int 2]) (rest := []) rfl (W := 0) rfl (q := 191) rfl (by decide) (by decide) (by decide) (by decide) (ac8_64 l Z a0 hw _ n0 z447 a16 a1 a11 v0 dd v2 a6 a22_0 a22_1 a22_11 a22_14 a22_6 a22_7 a22_8 a22_9 a22_10 a22_12 a22_13 a22_2 a22_3 (v1 - v0) a22_4 a22_15 f389 f390 ge_a16 f391 f392 ne21 f393 f394 ne25 (or22 v0 dd v1 v2 r_v0 r_dd r_v1 r_v2 rN) f395 f396 ne28 f397 f398 (Ne.symm ne78) (or23 v0 dd v1 v2 r_v0 r_dd r_v1 r_v2 rN) f399 f401 (Ne.symm ne85) f402 f403 f404 f405 f406 f407 f408 f410 f411 f412 f414 f415 f417 f418 f420 f421 f423 f424 f426 f427 f429 f430 f431 f433 f434 f436 f437 f438 f439 f440 f441 f442 (or24 v0 dd v1 v2 r_v0 r_dd r_v1 r_v2 rN) (or25 v0 dd v1 v2 r_v0 r_dd r_v1 r_v2 rN) (Ne.symm ne151) (Ne.symm ne158) (Ne.symm ne162) (Ne.symm ne163) (Ne.symm ne164) (Ne.symm ne165) (Ne.symm ne166) (Ne.symm ne167) (Ne.symm ne168) ge169 ne151 (Ne.symm ne170) ge171 ne158 ne172 ne173 ge174 ne162 ne175 ne176 (Ne.symm ne177) ge178 ne163 ne179 ne180 (Ne.symm ne181) (Ne.symm ne182) ge183 ne164 ne184 ne185 (Ne.symm ne186) (Ne.symm ne187) (Ne.symm ne188) ge189 ne165 ne190 ne191 (Ne.symm ne192) (Ne.symm ne193) (Ne.symm ne194) (Ne.symm ne195) ge196 ne177 ne181 ne186 ne192 ne182 ne187 ne193 ne188 ne194 ne195 ne166 (Ne.symm ne197) ne198 (Ne.symm ne199) (Ne.symm ne200) (Ne.symm ne201) (Ne.symm ne202) (Ne.symm ne203) (Ne.symm ne204) ne205 (Ne.symm ne206) (Ne.symm ne207) (Ne.symm ne208) (Ne.symm ne209) (Ne.symm ne210) ge211 ne167 (Ne.symm ne212) ge213 ne212 ne170 (Ne.symm ne190) (Ne.symm ne184) (Ne.symm ne179) (Ne.symm ne175) (Ne.symm ne172) ne204 ne197 ne168 (Ne.symm ne191) (Ne.symm ne185) (Ne.symm ne180) (Ne.symm ne176) (Ne.symm ne173) (Ne.symm ne205) (Ne.symm ne198) ne210 ne203 ne209 ne202 ne208 ne201 ne207 ne200 ne206 ne199 ne214 ne215 ne216 ne217 ne218 ne219 ne220 ne221 ne222 (Ne.symm ne33) ne146 ne140 ne133 ne127 ne121 ne115 ne109 ne103 ne96 (Ne.symm ne43) ne144 ne138 ne131 ne125 ne119 ne113 ne107 ne101 ne94 (or26 v0 dd v1 v2 r_v0 r_dd r_v1 r_v2 rN) (Ne.symm ne52) ne143 ne137 ne130 ne124 ne118 ne112 ne106 ne100 ne93 (or27 v0 dd v1 v2 r_v0 r_dd r_v1 r_v2 rN) ne223 ne224 ne225 ne226 ne227 ne228 ne229 ne230 ne231 f443 f445 (Ne.symm ne245) (Ne.symm ne247) (Ne.symm ne248) (Ne.symm ne249) (Ne.symm ne250) (Ne.symm ne251) (Ne.symm ne252) (Ne.symm ne253) (Ne.symm ne254) (Ne.symm ne255) ne270 ne271 ne272 ne273 ne274 ne275 ne276 ne277 ne278 (or28 v0 dd v1 v2 r_v0 r_dd r_v1 r_v2 rN) ge281 ne78 ne282 ne283 ne284 ne285 ne286 ne287 ne288 ne289 ne290 (Ne.symm ne293) ge294 ne85 (Ne.symm ne76) (Ne.symm ne83) (Ne.symm ne74) (Ne.symm ne81) ge42 ne43 (Ne.symm ne73) (Ne.symm ne80) (Ne.symm ne46) ge47 ne52 ne46 ne293 ne74 ne73 ne81 ne80 (Ne.symm ne100) (Ne.symm ne101) (Ne.symm ne289) (Ne.symm ne277) (Ne.symm ne93) (Ne.symm ne94) (Ne.symm ne290) (Ne.symm ne278) (Ne.symm ne106) (Ne.symm ne107) (Ne.symm ne288) (Ne.symm ne276) (Ne.symm ne112) (Ne.symm ne113) (Ne.symm ne287) (Ne.symm ne275) (Ne.symm ne118) (Ne.symm ne119) (Ne.symm ne286) (Ne.symm ne274) (Ne.symm ne124) (Ne.symm ne125) (Ne.symm ne285) (Ne.symm ne273) (Ne.symm ne130) (Ne.symm ne131) (Ne.symm ne284) (Ne.symm ne272) (Ne.symm ne137) (Ne.symm ne138) (Ne.symm ne283) (Ne.symm ne271) (Ne.symm ne143) (Ne.symm ne144) (Ne.symm ne282) (Ne.symm ne270)) (oVQ ?_)
     rintro h446 ⟨K446, f446_0, f446_1, f446_2, f446_3, f446_4, f446_5, f446_6, f446_7, f446_8, f446_9, f446_10, f446_11, f446_12, f446_13, f446_14, f446_15, f446_16, f446_17, f446_18, f446_19, f446_20, f446_21⟩
     refine oLload C at_191 rfl rfl ?_
     refine oLload C at_193 rfl rfl ?_
     refine oLcmp_le C at_195 rfl at_196 (q := 203) (by decide) (by decide) (r := 199) rfl (fun hc195 => ?_) (fun hq => absurd hq ((or29 v0 dd v1 v2 r_v0 r_dd r_v1 r_v2 rN)))
     refine oIconst C at_203 (z := 1) rfl rfl ?_
     refine oIstore C at_204 (Ls' := #[.val (.long x0), .second, .val (.long x1), .second, .val (.long x2), .second, .val (.int fl), .val (.long v0), .second, .val (.long dd), .second, .val (.long v1), .second, .val (.long v2), .second, .val (.ref a1), .val (.ref a6), .val (.ref a11), .val (.ref a16), .val (.int 1), .val (.int 1), .unset, .unset]) rfl (q := 206) rfl ?_
     refine oLload C at_206 rfl rfl ?_
     refine oLload C at_208 rfl rfl ?_
     have z448 := (Nat.le_trans z447 K446.1)
     refine oCallS C (w171 hw) (w172 hw) (w67 hw) (w173 hw) at_210 (by decide) pd_212481 rfl rfl (argsL := [.long v2, .long dd]) (rest := []) rfl (W := 0) rfl (q := 213) rfl (by decide) (by decide) (by decide) (by decide) (mt_fMin l Z a0 hw _ n0 z448 v2 dd ) (oPureK ?_)
     refine oLstore C at_213 (Ls' := #[.val (.long x0), .second, .val (.long x1), .second, .val (.long x2), .second, .val (.int fl), .val (.long v0), .second, .val (.long dd), .second, .val (.long v1), .second, .val (.long v2), .second, .val (.ref a1), .val (.ref a6), .val (.ref a11), .val (.ref a16), .val (.int 1), .val (.int 1), .val (.long (fMin v2 dd)), .second]) rfl (q := 215) rfl ?_
     refine oIload C at_215 rfl rfl ?_
     refine oIf_eq C at_217 (q := 247) (by decide) (by decide) (r := 220) rfl (fun hq => absurd hq ((by decide))) (fun hc217 => ?_)
     refine oAload C at_220 rfl rfl rfl ?_
     refine oIconst C at_222 (z := 0) rfl rfl ?_
     have f450 := (K446.fld f437 (ninS ne151 (ninS ne158 (ninS ne162 (ninS ne163 (ninS ne164 (ninS ne165 (ninS ne166 (ninS ne167 (ninS ne168 (ninS ne78 (ninS ne85 (ninS ne43 (ninS ne52 nin0))))))))))))) (oNF (Or.inr (oSn0 hw 6 0)) (oNF (Or.inr (oSn0 hw 6 21)) (oNF (Or.inr (oSn0 hw 6 22)) (oNF (Or.inr (oSn0 hw 6 23)) (oNF (Or.inr (oSn0 hw 6 24)) (oNF (Or.inr (oSn0 hw 6 25)) (oNF (Or.inr (oSn0 hw 6 26)) (oNF (Or.inr (oSn0 hw 6 27)) (oNF (Or.inr (oSn0 hw 6 28)) oN0))))))))))
     have f451 := (K446.arr f438 (ninS ne96 (ninS ne103 (ninS ne109 (ninS ne115 (ninS ne121 (ninS ne127 (ninS ne133 (ninS ne140 (ninS ne146 (ninS (Ne.symm ne76) (ninS (Ne.symm ne83) (ninS ne40 (ninS ne44 nin0))))))))))))) (oAS (Ne.symm ne33) (oAS (Ne.symm ne33) (oAS (Ne.symm ne33) (oAS (Ne.symm ne33) (oAS (Ne.symm ne33) (oAS (Ne.symm ne33) (oAS (Ne.symm ne33) (oAS (Ne.symm ne33) (oAS (Ne.symm ne33) oA0))))))))))
     have f453 := (K446.exa f389)
     refine oCallV C (w166 hw) (w167 hw) (w169 hw) (w168 hw) (w5 hw) (w170 hw) at_223 f453 (by decide) pd_674828 rfl rfl (a := a16) (argsL := [.int 0]) (rest := []) rfl (W := 0) rfl (q := 226) rfl (by decide) (by decide) (by decide) (by decide) (ac25_36 l Z a0 hw _ n0 z448 a16 a22_2 f450 f451) (oRQ ?_)
     rintro h452 K452
     refine oIload C at_226 rfl rfl ?_
     refine oIcmp_ne C at_228 (q := 247) (by decide) (by decide) (r := 231) rfl (fun hq => absurd hq ((by decide))) (fun hc228 => ?_)
     refine oAload C at_231 rfl rfl rfl ?_
     refine oIconst C at_233 (z := 0) rfl rfl ?_
     have f454 := (K452.fld (K446.fld f397 (ninS ne151 (ninS ne158 (ninS ne162 (ninS ne163 (ninS ne164 (ninS ne165 (ninS ne166 (ninS ne167 (ninS ne168 (ninS ne78 (ninS ne85 (ninS ne43 (ninS ne52 nin0))))))))))))) (oNF (Or.inr (oSn0 hw 4 0)) (oNF (Or.inr (oSn0 hw 4 21)) (oNF (Or.inr (oSn0 hw 4 22)) (oNF (Or.inr (oSn0 hw 4 23)) (oNF (Or.inr (oSn0 hw 4 24)) (oNF (Or.inr (oSn0 hw 4 25)) (oNF (Or.inr (oSn0 hw 4 26)) (oNF (Or.inr (oSn0 hw 4 27)) (oNF (Or.inr (oSn0 hw 4 28)) oN0)))))))))) nin0 oN0)
     have f455 := (K452.arr f446_1 nin0 oA0)
     have f457 := (K452.exa f453)
     have z458 := (Nat.le_trans z448 K452.1)
     refine oCallV C (w161 hw) (w162 hw) (w164 hw) (w163 hw) (w5 hw) (w165 hw) at_234 f457 (by decide) pd_674829 rfl rfl (a := a16) (argsL := [.int 0]) (rest := []) rfl (W := 0) rfl (q := 237) rfl (by decide) (by decide) (by decide) (by decide) (ac24_44 l Z a0 hw _ n0 z458 a16 a22_0 v2 f454 f455) (oRQ ?_)
     rintro h456 K456
     refine oLload C at_237 rfl rfl ?_
     refine oLcmp_ne C at_239 rfl at_240 (q := 247) (by decide) (by decide) (r := 243) rfl (fun hq => absurd hq (not_not_intro (or30 v0 dd v1 v2 r_v0 r_dd r_v1 r_v2 rN))) (fun hc239 => ?_)
     refine oIconst C at_243 (z := 1) rfl rfl ?_
     refine oGoto C at_244 (q := 248) (by decide) (by decide) ?_
     refine oRetZ C at_248 (z' := (1 : Int32)) rfl (by decide) (by decide) ?_
     exact rfl
   ·
    refine oIf_eq C at_140 (q := 149) (by decide) (by decide) (r := 143) rfl (fun hc140 => ?_) (fun hc140 => ?_)
    ·
     have ne459 : a1 ≠ a22_1 := oNe' (Nat.lt_of_lt_of_le A1.lt (Nat.le_trans (Nat.le_trans (Nat.le_trans (Nat.le_trans (Nat.le_trans (Nat.le_trans (Nat.le_trans (Nat.le_trans (Nat.le_trans (Nat.le_trans (Nat.le_trans (Nat.le_trans (Nat.le_of_eq W2.size.symm) (Nat.le_of_eq W3.size.symm)) (Nat.le_of_eq W4.size.symm)) (Nat.le_of_eq W5.size.symm)) E6.1) (Nat.le_of_eq W8.size.symm)) (Nat.le_of_eq W9.size.symm)) (Nat.le_of_eq W10.size.symm)) E11.1) (Nat.le_of_eq W13.size.symm)) (Nat.le_of_eq W14.size.symm)) (Nat.le_of_eq W15.size.symm)) E16.1)) s31
     have ne460 : a1 ≠ a22_0 := oNe' (Nat.lt_of_lt_of_le A1.lt (Nat.le_trans (Nat.le_trans (Nat.le_trans (Nat.le_trans (Nat.le_trans (Nat.le_trans (Nat.le_trans (Nat.le_trans (Nat.le_trans (Nat.le_trans (Nat.le_trans (Nat.le_trans (Nat.le_of_eq W2.size.symm) (Nat.le_of_eq W3.size.symm)) (Nat.le_of_eq W4.size.symm)) (Nat.le_of_eq W5.size.symm)) E6.1) (Nat.le_of_eq W8.size.symm)) (Nat.le_of_eq W9.size.symm)) (Nat.le_of_eq W10.size.symm)) E11.1) (Nat.le_of_eq W13.size.symm)) (Nat.le_of_eq W14.size.symm)) (Nat.le_of_eq W15.size.symm)) E16.1)) s22
     have ne461 : a1 ≠ a22_16 := oNe' (Nat.lt_of_lt_of_le A1.lt (Nat.le_trans (Nat.le_trans (Nat.le_trans (Nat.le_trans (Nat.le_trans (Nat.le_trans (Nat.le_trans (Nat.le_trans (Nat.le_trans (Nat.le_trans (Nat.le_trans (Nat.le_trans (Nat.le_of_eq W2.size.symm) (Nat.le_of_eq W3.size.symm)) (Nat.le_of_eq W4.size.symm)) (Nat.le_of_eq W5.size.symm)) E6.1) (Nat.le_of_eq W8.size.symm)) (Nat.le_of_eq W9.size.symm)) (Nat.le_of_eq W10.size.symm)) E11.1) (Nat.le_of_eq W13.size.symm)) (Nat.le_of_eq W14.size.symm)) (Nat.le_of_eq W15.size.symm)) E16.1)) s257
     have ne462 : a1 ≠ a22_15 := oNe' (Nat.lt_of_lt_of_le A1.lt (Nat.le_trans (Nat.le_trans (Nat.le_trans (Nat.le_trans (Nat.le_trans (Nat.le_trans (Nat.le_trans (Nat.le_trans (Nat.le_trans (Nat.le_trans (Nat.le_trans (Nat.le_trans (Nat.le_of_eq W2.size.symm) (Nat.le_of_eq W3.size.symm)) (Nat.le_of_eq W4.size.symm)) (Nat.le_of_eq W5.size.symm)) E6.1) (Nat.le_of_eq W8.size.symm)) (Nat.le_of_eq W9.size.symm)) (Nat.le_of_eq W10.size.symm)) E11.1) (Nat.le_of_eq W13.size.symm)) (Nat.le_of_eq W14.size.symm)) (Nat.le_of_eq W15.size.symm)) E16.1)) s246
     have f463 := (K302.arr (K296.arr f59 (ninS ne222 (ninS ne221 (ninS ne220 (ninS ne219 (ninS ne218 (ninS ne217 (ninS ne216 (ninS ne215 (ninS ne214 (ninS ne462 (ninS ne461 (ninS ne460 (ninS ne459 (ninS ne56 (ninS ne55 (ninS ne57 (ninS ne58 nin0))))))))))))))))) (oAS ne21 (oAS ne21 (oAS ne21 (oAS ne21 (oAS ne21 (oAS ne21 (oAS ne21 (oAS ne21 (oAS ne21 (oAS ne21 oA0))))))))))) (ninS ne55 (ninS ne460 (ninS ne459 nin0))) oA0)
     have ne464 : a6 ≠ a22_1 := oNe' (Nat.lt_of_lt_of_le A6.lt (Nat.le_trans (Nat.le_trans (Nat.le_trans (Nat.le_trans (Nat.le_trans (Nat.le_trans (Nat.le_trans (Nat.le_of_eq W8.size.symm) (Nat.le_of_eq W9.size.symm)) (Nat.le_of_eq W10.size.symm)) E11.1) (Nat.le_of_eq W13.size.symm)) (Nat.le_of_eq W14.size.symm)) (Nat.le_of_eq W15.size.symm)) E16.1)) s31
     have ne465 : a6 ≠ a22_0 := oNe' (Nat.lt_of_lt_of_le A6.lt (Nat.le_trans (Nat.le_trans (Nat.le_trans (Nat.le_trans (Nat.le_trans (Nat.le_trans (Nat.le_trans (Nat.le_of_eq W8.size.symm) (Nat.le_of_eq W9.size.symm)) (Nat.le_of_eq W10.size.symm)) E11.1) (Nat.le_of_eq W13.size.symm)) (Nat.le_of_eq W14.size.symm)) (Nat.le_of_eq W15.size.symm)) E16.1)) s22
     have ne466 : a6 ≠ a22_16 := oNe' (Nat.lt_of_lt_of_le A6.lt (Nat.le_trans (Nat.le_trans (Nat.le_trans (Nat.le_trans (Nat.le_trans (Nat.le_trans (Nat.le_trans (Nat.le_of_eq W8.size.symm) (Nat.le_of_eq W9.size.symm)) (Nat.le_of_eq W10.size.symm)) E11.1) (Nat.le_of_eq W13.size.symm)) (Nat.le_of_eq W14.size.symm)) (Nat.le_of_eq W15.size.symm)) E16.1)) s257
     have ne467 : a6 ≠ a22_15 := oNe' (Nat.lt_of_lt_of_le A6.lt (Nat.le_trans (Nat.le_trans (Nat.le_trans (Nat.le_trans (Nat.le_trans (Nat.le_trans (Nat.le_trans (Nat.le_of_eq W8.size.symm) (Nat.le_of_eq W9.size.symm)) (Nat.le_of_eq W10.size.symm)) E11.1) (Nat.le_of_eq W13.size.symm)) (Nat.le_of_eq W14.size.symm)) (Nat.le_of_eq W15.size.symm)) E16.1)) s246
     have f468 := (K302.arr (K296.arr f71 (ninS ne231 (ninS ne230 (ninS ne229 (ninS ne228 (ninS ne227 (ninS ne226 (ninS ne225 (ninS ne224 (ninS ne223 (ninS ne467 (ninS ne466 (ninS ne465 (ninS ne464 (ninS ne68 (ninS ne67 (ninS ne69 (ninS ne70 nin0))))))))))))))))) (oAS ne28 (oAS ne28 (oAS ne28 (oAS ne28 (oAS ne28 (oAS ne28 (oAS ne28 (oAS ne28 (oAS ne28 (oAS ne28 oA0))))))))))) (ninS ne67 (ninS ne465 (ninS ne464 nin0))) oA0)
     have ne469 : a11 ≠ a22_1 := oNe' (Nat.lt_of_lt_of_le A11.lt (Nat.le_trans (Nat.le_trans (Nat.le_trans (Nat.le_of_eq W13.size.symm) (Nat.le_of_eq W14.size.symm)) (Nat.le_of_eq W15.size.symm)) E16.1)) s31
     have ne470 : a11 ≠ a22_0 := oNe' (Nat.lt_of_lt_of_le A11.lt (Nat.le_trans (Nat.le_trans (Nat.le_trans (Nat.le_of_eq W13.size.symm) (Nat.le_of_eq W14.size.symm)) (Nat.le_of_eq W15.size.symm)) E16.1)) s22
     have ne471 : a11 ≠ a22_16 := oNe' (Nat.lt_of_lt_of_le A11.lt (Nat.le_trans (Nat.le_trans (Nat.le_trans (Nat.le_of_eq W13.size.symm) (Nat.le_of_eq W14.size.symm)) (Nat.le_of_eq W15.size.symm)) E16.1)) s257
     have ne472 : a11 ≠ a22_15 := oNe' (Nat.lt_of_lt_of_le A11.lt (Nat.le_trans (Nat.le_trans (Nat.le_trans (Nat.le_of_eq W13.size.symm) (Nat.le_of_eq W14.size.symm)) (Nat.le_of_eq W15.size.symm)) E16.1)) s246
     have ne473 : a11 ≠ a22_13 := oNe' (Nat.lt_of_lt_of_le A11.lt (Nat.le_trans (Nat.le_trans (Nat.le_trans (Nat.le_of_eq W13.size.symm) (Nat.le_of_eq W14.size.symm)) (Nat.le_of_eq W15.size.symm)) E16.1)) s160
     have ne474 : a11 ≠ a22_12 := oNe' (Nat.lt_of_lt_of_le A11.lt (Nat.le_trans (Nat.le_trans (Nat.le_trans (Nat.le_of_eq W13.size.symm) (Nat.le_of_eq W14.size.symm)) (Nat.le_of_eq W15.size.symm)) E16.1)) s159
     have ne475 : a11 ≠ a22_10 := oNe' (Nat.lt_of_lt_of_le A11.lt (Nat.le_trans (Nat.le_trans (Nat.le_trans (Nat.le_of_eq W13.size.symm) (Nat.le_of_eq W14.size.symm)) (Nat.le_of_eq W15.size.symm)) E16.1)) s156
     have ne476 : a11 ≠ a22_9 := oNe' (Nat.lt_of_lt_of_le A11.lt (Nat.le_trans (Nat.le_trans (Nat.le_trans (Nat.le_of_eq W13.size.symm) (Nat.le_of_eq W14.size.symm)) (Nat.le_of_eq W15.size.symm)) E16.1)) s155
     have ne477 : a11 ≠ a22_8 := oNe' (Nat.lt_of_lt_of_le A11.lt (Nat.le_trans (Nat.le_trans (Nat.le_trans (Nat.le_of_eq W13.size.symm) (Nat.le_of_eq W14.size.symm)) (Nat.le_of_eq W15.size.symm)) E16.1)) s154
     have ne478 : a11 ≠ a22_7 := oNe' (Nat.lt_of_lt_of_le A11.lt (Nat.le_trans (Nat.le_trans (Nat.le_trans (Nat.le_of_eq W13.size.symm) (Nat.le_of_eq W14.size.symm)) (Nat.le_of_eq W15.size.symm)) E16.1)) s153
     have ne479 : a11 ≠ a22_6 := oNe' (Nat.lt_of_lt_of_le A11.lt (Nat.le_trans (Nat.le_trans (Nat.le_trans (Nat.le_of_eq W13.size.symm) (Nat.le_of_eq W14.size.symm)) (Nat.le_of_eq W15.size.symm)) E16.1)) s152
     have ne480 : a11 ≠ a22_14 := oNe' (Nat.lt_of_lt_of_le A11.lt (Nat.le_trans (Nat.le_trans (Nat.le_trans (Nat.le_of_eq W13.size.symm) (Nat.le_of_eq W14.size.symm)) (Nat.le_of_eq W15.size.symm)) E16.1)) s161
     have ne481 : a11 ≠ a22_11 := oNe' (Nat.lt_of_lt_of_le A11.lt (Nat.le_trans (Nat.le_trans (Nat.le_trans (Nat.le_of_eq W13.size.symm) (Nat.le_of_eq W14.size.symm)) (Nat.le_of_eq W15.size.symm)) E16.1)) s157
     have f482 := (K302.arr (K296.arr f65 (ninS ne481 (ninS ne480 (ninS ne479 (ninS ne478 (ninS ne477 (ninS ne476 (ninS ne475 (ninS ne474 (ninS ne473 (ninS ne472 (ninS ne471 (ninS ne470 (ninS ne469 (ninS ne62 (ninS ne61 (ninS ne63 (ninS ne64 nin0))))))))))))))))) (oAS ne25 (oAS ne25 (oAS ne25 (oAS ne25 (oAS ne25 (oAS ne25 (oAS ne25 (oAS ne25 (oAS ne25 (oAS ne25 oA0))))))))))) (ninS ne61 (ninS ne470 (ninS ne469 nin0))) oA0)
     have f483 := (K302.exa f303)
     have f484 := (K302.fld f296_0 (ninS ne52 (ninS ne78 (ninS ne85 nin0))) oN0)
     have f485 := (K302.fld (K296.fld f54 (ninS ne151 (ninS ne158 (ninS ne162 (ninS ne163 (ninS ne164 (ninS ne165 (ninS ne166 (ninS ne167 (ninS ne168 (ninS ne245 (ninS ne256 (ninS ne78 (ninS ne85 (ninS ne43 (ninS ne52 (ninS ne39 (ninS ne33 nin0))))))))))))))))) (oNF (Or.inr (oSn0 hw 1 0)) (oNF (Or.inr (oSn0 hw 1 21)) (oNF (Or.inr (oSn0 hw 1 22)) (oNF (Or.inr (oSn0 hw 1 23)) (oNF (Or.inr (oSn0 hw 1 24)) (oNF (Or.inr (oSn0 hw 1 25)) (oNF (Or.inr (oSn0 hw 1 26)) (oNF (Or.inr (oSn0 hw 1 27)) (oNF (Or.inr (oSn0 hw 1 28)) (oNF (Or.inr (oSn0 hw 1 29)) oN0))))))))))) (ninS ne52 (ninS ne78 (ninS ne85 nin0))) oN0)
     have f486 := (K302.fld (K296.fld f66 (ninS ne151 (ninS ne158 (ninS ne162 (ninS ne163 (ninS ne164 (ninS ne165 (ninS ne166 (ninS ne167 (ninS ne168 (ninS ne245 (ninS ne256 (ninS ne78 (ninS ne85 (ninS ne43 (ninS ne52 (ninS ne39 (ninS ne33 nin0))))))))))))))))) (oNF (Or.inr (oSn0 hw 2 0)) (oNF (Or.inr (oSn0 hw 2 21)) (oNF (Or.inr (oSn0 hw 2 22)) (oNF (Or.inr (oSn0 hw 2 23)) (oNF (Or.inr (oSn0 hw 2 24)) (oNF (Or.inr (oSn0 hw 2 25)) (oNF (Or.inr (oSn0 hw 2 26)) (oNF (Or.inr (oSn0 hw 2 27)) (oNF (Or.inr (oSn0 hw 2 28)) (oNF (Or.inr (oSn0 hw 2 29)) oN0))))))))))) (ninS ne52 (ninS ne78 (ninS ne85 nin0))) oN0)
     have f487 := (K302.fld (K296.fld f60 (ninS ne151 (ninS ne158 (ninS ne162 (ninS ne163 (ninS ne164 (ninS ne165 (ninS ne166 (ninS ne167 (ninS ne168 (ninS ne245 (ninS ne256 (ninS ne78 (ninS ne85 (ninS ne43 (ninS ne52 (ninS ne39 (ninS ne33 nin0))))))))))))))))) (oNF (Or.inr (oSn0 hw 3 0)) (oNF (Or.inr (oSn0 hw 3 21)) (oNF (Or.inr (oSn0 hw 3 22)) (oNF (Or.inr (oSn0 hw 3 23)) (oNF (Or.inr (oSn0 hw 3 24)) (oNF (Or.inr (oSn0 hw 3 25)) (oNF (Or.inr (oSn0 hw 3 26)) (oNF (Or.inr (oSn0 hw 3 27)) (oNF (Or.inr (oSn0 hw 3 28)) (oNF (Or.inr (oSn0 hw 3 29)) oN0))))))))))) (ninS ne52 (ninS ne78 (ninS ne85 nin0))) oN0)
     have f488 := (K302.fld f301 (ninS ne52 (ninS ne78 (ninS ne85 nin0))) oN0)
     have f489 := (K302.fld f300 (ninS ne52 (ninS ne78 (ninS ne85 nin0))) oN0)
     have f490 := (K302.fld f298 (ninS ne52 (ninS ne78 (ninS ne85 nin0))) oN0)
     have f491 := (K302.fld (K296.fld f149 (ninS ne151 (ninS ne158 (ninS ne162 (ninS ne163 (ninS ne164 (ninS ne165 (ninS ne166 (ninS ne167 (ninS ne168 (ninS ne245 (ninS ne256 (ninS ne78 (ninS ne85 (ninS ne43 (ninS ne52 (ninS ne39 (ninS ne33 nin0))))))))))))))))) (oNF (Or.inr (oSn0 hw 7 0)) (oNF (Or.inr (oSn0 hw 7 21)) (oNF (Or.inr (oSn0 hw 7 22)) (oNF (Or.inr (oSn0 hw 7 23)) (oNF (Or.inr (oSn0 hw 7 24)) (oNF (Or.inr (oSn0 hw 7 25)) (oNF (Or.inr (oSn0 hw 7 26)) (oNF (Or.inr (oSn0 hw 7 27)) (oNF (Or.inr (oSn0 hw 7 28)) (oNF (Or.inr (oSn0 hw 7 29)) oN0))))))))))) (ninS ne52 (ninS ne78 (ninS ne85 nin0))) oN0)
     have f492 := (K302.fld f299 (ninS ne52 (ninS ne78 (ninS ne85 nin0))) oN0)
     have f493 := (K302.fld (K296.fld f295 (ninS ne151 (ninS ne158 (ninS ne162 (ninS ne163 (ninS ne164 (ninS ne165 (ninS ne166 (ninS ne167 (ninS ne168 (ninS ne245 (ninS ne256 (ninS ne78 (ninS ne85 (ninS ne43 (ninS ne52 (ninS ne39 (ninS ne33 nin0))))))))))))))))) (oNF (Or.inr (oSn0 hw 9 0)) (oNF (Or.inr (oSn0 hw 9 21)) (oNF (Or.inr (oSn0 hw 9 22)) (oNF (Or.inr (oSn0 hw 9 23)) (oNF (Or.inr (oSn0 hw 9 24)) (oNF (Or.inr (oSn0 hw 9 25)) (oNF (Or.inr (oSn0 hw 9 26)) (oNF (Or.inr (oSn0 hw 9 27)) (oNF (Or.inr (oSn0 hw 9 28)) (oNF (Or.inr (oSn0 hw 9 29)) oN0))))))))))) (ninS ne52 (ninS ne78 (ninS ne85 nin0))) oN0)
     have f494 := (K302.fld (K296.fld f105 (ninS ne151 (ninS ne158 (ninS ne162 (ninS ne163 (ninS ne164 (ninS ne165 (ninS ne166 (ninS ne167 (ninS ne168 (ninS ne245 (ninS ne256 (ninS ne78 (ninS ne85 (ninS ne43 (ninS ne52 (ninS ne39 (ninS ne33 nin0))))))))))))))))) (oNF (Or.inr (oSn0 hw 10 0)) (oNF (Or.inr (oSn0 hw 10 21)) (oNF (Or.inr (oSn0 hw 10 22)) (oNF (Or.inr (oSn0 hw 10 23)) (oNF (Or.inr (oSn0 hw 10 24)) (oNF (Or.inr (oSn0 hw 10 25)) (oNF (Or.inr (oSn0 hw 10 26)) (oNF (Or.inr (oSn0 hw 10 27)) (oNF (Or.inr (oSn0 hw 10 28)) (oNF (Or.inr (oSn0 hw 10 29)) oN0))))))))))) (ninS ne52 (ninS ne78 (ninS ne85 nin0))) oN0)
     have f495 := (K302.fld (K296.fld f111 (ninS ne151 (ninS ne158 (ninS ne162 (ninS ne163 (ninS ne164 (ninS ne165 (ninS ne166 (ninS ne167 (ninS ne168 (ninS ne245 (ninS ne256 (ninS ne78 (ninS ne85 (ninS ne43 (ninS ne52 (ninS ne39 (ninS ne33 nin0))))))))))))))))) (oNF (Or.inr (oSn0 hw 11 0)) (oNF (Or.inr (oSn0 hw 11 21)) (oNF (Or.inr (oSn0 hw 11 22)) (oNF (Or.inr (oSn0 hw 11 23)) (oNF (Or.inr (oSn0 hw 11 24)) (oNF (Or.inr (oSn0 hw 11 25)) (oNF (Or.inr (oSn0 hw 11 26)) (oNF (Or.inr (oSn0 hw 11 27)) (oNF (Or.inr (oSn0 hw 11 28)) (oNF (Or.inr (oSn0 hw 11 29)) oN0))))))))))) (ninS ne52 (ninS ne78 (ninS ne85 nin0))) oN0)
     have f496 := (K302.fld (K296.fld f117 (ninS ne151 (ninS ne158 (ninS ne162 (ninS ne163 (ninS ne164 (ninS ne165 (ninS ne166 (ninS ne167 (ninS ne168 (ninS ne245 (ninS ne256 (ninS ne78 (ninS ne85 (ninS ne43 (ninS ne52 (ninS ne39 (ninS ne33 nin0))))))))))))))))) (oNF (Or.inr (oSn0 hw 12 0)) (oNF (Or.inr (oSn0 hw 12 21)) (oNF (Or.inr (oSn0 hw 12 22)) (oNF (Or.inr (oSn0 hw 12 23)) (oNF (Or.inr (oSn0 hw 12 24)) (oNF (Or.inr (oSn0 hw 12 25)) (oNF (Or.inr (oSn0 hw 12 26)) (oNF (Or.inr (oSn0 hw 12 27)) (oNF (Or.inr (oSn0 hw 12 28)) (oNF (Or.inr (oSn0 hw 12 29)) oN0))))))))))) (ninS ne52 (ninS ne78 (ninS ne85 nin0))) oN0)
     have f497 := (K302.fld (K296.fld f123 (ninS ne151 (ninS ne158 (ninS ne162 (ninS ne163 (ninS ne164 (ninS ne165 (ninS ne166 (ninS ne167 (ninS ne168 (ninS ne245 (ninS ne256 (ninS ne78 (ninS ne85 (ninS ne43 (ninS ne52 (ninS ne39 (ninS ne33 nin0))))))))))))))))) (oNF (Or.inr (oSn0 hw 13 0)) (oNF (Or.inr (oSn0 hw 13 21)) (oNF (Or.inr (oSn0 hw 13 22)) (oNF (Or.inr (oSn0 hw 13 23)) (oNF (Or.inr (oSn0 hw 13 24)) (oNF (Or.inr (oSn0 hw 13 25)) (oNF (Or.inr (oSn0 hw 13 26)) (oNF (Or.inr (oSn0 hw 13 27)) (oNF (Or.inr (oSn0 hw 13 28)) (oNF (Or.inr (oSn0 hw 13 29)) oN0))))))))))) (ninS ne52 (ninS ne78 (ninS ne85 nin0))) oN0)
     have f498 := (K302.fld (K296.fld f129 (ninS ne151 (ninS ne158 (ninS ne162 (ninS ne163 (ninS ne164 (ninS ne165 (ninS ne166 (ninS ne167 (ninS ne168 (ninS ne245 (ninS ne256 (ninS ne78 (ninS ne85 (ninS ne43 (ninS ne52 (ninS ne39 (ninS ne33 nin0))))))))))))))))) (oNF (Or.inr (oSn0 hw 14 0)) (oNF (Or.inr (oSn0 hw 14 21)) (oNF (Or.inr (oSn0 hw 14 22)) (oNF (Or.inr (oSn0 hw 14 23)) (oNF (Or.inr (oSn0 hw 14 24)) (oNF (Or.inr (oSn0 hw 14 25)) (oNF (Or.inr (oSn0 hw 14 26)) (oNF (Or.inr (oSn0 hw 14 27)) (oNF (Or.inr (oSn0 hw 14 28)) (oNF (Or.inr (oSn0 hw 14 29)) oN0))))))))))) (ninS ne52 (ninS ne78 (ninS ne85 nin0))) oN0)
     have f499 := (K302.fld (K296.fld f92 (ninS ne151 (ninS ne158 (ninS ne162 (ninS ne163 (ninS ne164 (ninS ne165 (ninS ne166 (ninS ne167 (ninS ne168 (ninS ne245 (ninS ne256 (ninS ne78 (ninS ne85 (ninS ne43 (ninS ne52 (ninS ne39 (ninS ne33 nin0))))))))))))))))) (oNF (Or.inr (oSn0 hw 15 0)) (oNF (Or.inr (oSn0 hw 15 21)) (oNF (Or.inr (oSn0 hw 15 22)) (oNF (Or.inr (oSn0 hw 15 23)) (oNF (Or.inr (oSn0 hw 15 24)) (oNF (Or.inr (oSn0 hw 15 25)) (oNF (Or.inr (oSn0 hw 15 26)) (oNF (Or.inr (oSn0 hw 15 27)) (oNF (Or.inr (oSn0 hw 15 28)) (oNF (Or.inr (oSn0 hw 15 29)) oN0))))))))))) (ninS ne52 (ninS ne78 (ninS ne85 nin0))) oN0)
     have f500 := (K302.fld (K296.fld f136 (ninS ne151 (ninS ne158 (ninS ne162 (ninS ne163 (ninS ne164 (ninS ne165 (ninS ne166 (ninS ne167 (ninS ne168 (ninS ne245 (ninS ne256 (ninS ne78 (ninS ne85 (ninS ne43 (ninS ne52 (ninS ne39 (ninS ne33 nin0))))))))))))))))) (oNF (Or.inr (oSn0 hw 16 0)) (oNF (Or.inr (oSn0 hw 16 21)) (oNF (Or.inr (oSn0 hw 16 22)) (oNF (Or.inr (oSn0 hw 16 23)) (oNF (Or.inr (oSn0 hw 16 24)) (oNF (Or.inr (oSn0 hw 16 25)) (oNF (Or.inr (oSn0 hw 16 26)) (oNF (Or.inr (oSn0 hw 16 27)) (oNF (Or.inr (oSn0 hw 16 28)) (oNF (Or.inr (oSn0 hw 16 29)) oN0))))))))))) (ninS ne52 (ninS ne78 (ninS ne85 nin0))) oN0)
     have f501 := (K302.fld (K296.fld f142 (ninS ne151 (ninS ne158 (ninS ne162 (ninS ne163 (ninS ne164 (ninS ne165 (ninS ne166 (ninS ne167 (ninS ne168 (ninS ne245 (ninS ne256 (ninS ne78 (ninS ne85 (ninS ne43 (ninS ne52 (ninS ne39 (ninS ne33 nin0))))))))))))))))) (oNF (Or.inr (oSn0 hw 17 0)) (oNF (Or.inr (oSn0 hw 17 21)) (oNF (Or.inr (oSn0 hw 17 22)) (oNF (Or.inr (oSn0 hw 17 23)) (oNF (Or.inr (oSn0 hw 17 24)) (oNF (Or.inr (oSn0 hw 17 25)) (oNF (Or.inr (oSn0 hw 17 26)) (oNF (Or.inr (oSn0 hw 17 27)) (oNF (Or.inr (oSn0 hw 17 28)) (oNF (Or.inr (oSn0 hw 17 29)) oN0))))))))))) (ninS ne52 (ninS ne78 (ninS ne85 nin0))) oN0)
     have f502 := (K302.fld (K296.fld f98 (ninS ne151 (ninS ne158 (ninS ne162 (ninS ne163 (ninS ne164 (ninS ne165 (ninS ne166 (ninS ne167 (ninS ne168 (ninS ne245 (ninS ne256 (ninS ne78 (ninS ne85 (ninS ne43 (ninS ne52 (ninS ne39 (ninS ne33 nin0))))))))))))))))) (oNF (Or.inr (oSn0 hw 18 0)) (oNF (Or.inr (oSn0 hw 18 21)) (oNF (Or.inr (oSn0 hw 18 22)) (oNF (Or.inr (oSn0 hw 18 23)) (oNF (Or.inr (oSn0 hw 18 24)) (oNF (Or.inr (oSn0 hw 18 25)) (oNF (Or.inr (oSn0 hw 18 26)) (oNF (Or.inr (oSn0 hw 18 27)) (oNF (Or.inr (oSn0 hw 18 28)) (oNF (Or.inr (oSn0 hw 18 29)) oN0))))))))))) (ninS ne52 (ninS ne78 (ninS ne85 nin0))) oN0)
     have f503 := (K302.fld (K296.fld f232 (ninS ne151 (ninS ne158 (ninS ne162 (ninS ne163 (ninS ne164 (ninS ne165 (ninS ne166 (ninS ne167 (ninS ne168 (ninS ne245 (ninS ne256 (ninS ne78 (ninS ne85 (ninS ne43 (ninS ne52 (ninS ne39 (ninS ne33 nin0))))))))))))))))) (oNF (Or.inr (oSn0 hw 19 0)) (oNF (Or.inr (oSn0 hw 19 21)) (oNF (Or.inr (oSn0 hw 19 22)) (oNF (Or.inr (oSn0 hw 19 23)) (oNF (Or.inr (oSn0 hw 19 24)) (oNF (Or.inr (oSn0 hw 19 25)) (oNF (Or.inr (oSn0 hw 19 26)) (oNF (Or.inr (oSn0 hw 19 27)) (oNF (Or.inr (oSn0 hw 19 28)) (oNF (Or.inr (oSn0 hw 19 29)) oN0))))))))))) (ninS ne52 (ninS ne78 (ninS ne85 nin0))) oN0)
     have f504 := (K302.fld (K296.fld f238 (ninS ne151 (ninS ne158 (ninS ne162 (ninS ne163 (ninS ne164 (ninS ne165 (ninS ne166 (ninS ne167 (ninS ne168 (ninS ne245 (ninS ne256 (ninS ne78 (ninS ne85 (ninS ne43 (ninS ne52 (ninS ne39 (ninS ne33 nin0))))))))))))))))) (oNF (Or.inr (oSn0 hw 20 0)) (oNF (Or.inr (oSn0 hw 20 21)) (oNF (Or.inr (oSn0 hw 20 22)) (oNF (Or.inr (oSn0 hw 20 23)) (oNF (Or.inr (oSn0 hw 20 24)) (oNF (Or.inr (oSn0 hw 20 25)) (oNF (Or.inr (oSn0 hw 20 26)) (oNF (Or.inr (oSn0 hw 20 27)) (oNF (Or.inr (oSn0 hw 20 28)) (oNF (Or.inr (oSn0 hw 20 29)) oN0))))))))))) (ninS ne52 (ninS ne78 (ninS ne85 nin0))) oN0)
     have f505 := (K302.fld f296_3 (ninS ne52 (ninS ne78 (ninS ne85 nin0))) oN0)
     have f506 := (K302.fld f296_4 (ninS ne52 (ninS ne78 (ninS ne85 nin0))) oN0)
     have f507 := (K302.fld f296_5 (ninS ne52 (ninS ne78 (ninS ne85 nin0))) oN0)
     have f508 := (K302.fld f296_6 (ninS ne52 (ninS ne78 (ninS ne85 nin0))) oN0)
     have f509 := (K302.fld f296_7 (ninS ne52 (ninS ne78 (ninS ne85 nin0))) oN0)
     have f510 := (K302.fld f296_8 (ninS ne52 (ninS ne78 (ninS ne85 nin0))) oN0)
     have f511 := (K302.fld f296_10 (ninS ne52 (ninS ne78 (ninS ne85 nin0))) oN0)
     have f512 := (K302.fld f296_17 (ninS ne52 (ninS ne78 (ninS ne85 nin0))) oN0)
     have f513 := (K302.fld f296_24 (ninS ne52 (ninS ne78 (ninS ne85 nin0))) oN0)
     have f514 := (K302.arr f296_20 (ninS ne44 (ninS (Ne.symm ne76) (ninS (Ne.symm ne83) nin0))) oA0)
     have f515 := (K302.arr f296_21 (ninS ne46 (ninS (Ne.symm ne74) (ninS (Ne.symm ne81) nin0))) oA0)
     have f516 := (K302.arr f296_26 (ninS (Ne.symm ne45) (ninS (Ne.symm ne75) (ninS (Ne.symm ne82) nin0))) oA0)
     have f517 := (K302.arr f296_12 (ninS (Ne.symm ne106) (ninS (Ne.symm ne276) (ninS (Ne.symm ne288) nin0))) oA0)
     have f518 := (K302.arr f296_13 (ninS (Ne.symm ne112) (ninS (Ne.symm ne275) (ninS (Ne.symm ne287) nin0))) oA0)
     have f519 := (K302.arr f296_14 (ninS (Ne.symm ne118) (ninS (Ne.symm ne274) (ninS (Ne.symm ne286) nin0))) oA0)
     have f520 := (K302.arr f296_15 (ninS (Ne.symm ne124) (ninS (Ne.symm ne273) (ninS (Ne.symm ne285) nin0))) oA0)
     have f521 := (K302.arr f296_16 (ninS (Ne.symm ne130) (ninS (Ne.symm ne272) (ninS (Ne.symm ne284) nin0))) oA0)
     have f522 := (K302.arr f296_9 (ninS (Ne.symm ne93) (ninS (Ne.symm ne278) (ninS (Ne.symm ne290) nin0))) oA0)
     have f523 := (K302.arr f296_18 (ninS (Ne.symm ne137) (ninS (Ne.symm ne271) (ninS (Ne.symm ne283) nin0))) oA0)
     have f524 := (K302.arr f296_19 (ninS (Ne.symm ne143) (ninS (Ne.symm ne270) (ninS (Ne.symm ne282) nin0))) oA0)
     have f525 := (K302.arr f296_11 (ninS (Ne.symm ne100) (ninS (Ne.symm ne277) (ninS (Ne.symm ne289) nin0))) oA0)
     have f526 := (K302.arr f296_23 (ninS (Ne.symm ne233) (ninS (Ne.symm ne280) (ninS (Ne.symm ne292) nin0))) oA0)
     have f527 := (K302.arr f296_25 (ninS (Ne.symm ne240) (ninS (Ne.symm ne279) (ninS (Ne.symm ne291) nin0))) oA0)
     exact J149 _ ⟨Nat.le_refl _, f463, f468, f482, f483, f484, f485, f486, f487, f488, f489, f490, f491, f492, f493, f494, f495, f496, f497, f498, f499, f500, f501, f502, f503, f504, f505, f506, f507, f508, f509, f510, f511, f512, f513, f302_2, f302_1, f514, f515, f302_0, f516, f517, f518, f519, f520, f521, f522, f523, f524, f525, f526, f527⟩
    ·
     refine oAload C at_143 rfl rfl rfl ?_
     refine oIconst C at_145 (z := 1) rfl rfl ?_
     have f528 := (K302.fld f298 (ninS ne52 (ninS ne78 (ninS ne85 nin0))) oN0)
     have f529 := (K302.arr f296_20 (ninS ne44 (ninS (Ne.symm ne76) (ninS (Ne.symm ne83) nin0))) oA0)
     have f530 := (K302.fld f301 (ninS ne52 (ninS ne78 (ninS ne85 nin0))) oN0)
     have f531 := (K302.fld f300 (ninS ne52 (ninS ne78 (ninS ne85 nin0))) oN0)
     have f533 := (K302.exa f303)
     have z534 := (Nat.le_trans z304 K302.1)
     refine oCallV C (w151 hw) (w152 hw) (w154 hw) (w153 hw) (w5 hw) (w155 hw) at_146 f533 (by decide) pd_674841 rfl rfl (a := a16) (argsL := [.int 1]) (rest := []) rfl (W := 0) rfl (q := 149) rfl (by decide) (by decide) (by decide) (by decide) (ac22_65 l Z a0 hw _ n0 z534 a16 a22_2 a22_0 a22_1 f528 f529 f530 f302_2 ge281 f531 ne78 f302_1 (Ne.symm ne293) ge294 ne293) (oVQ ?_)
     rintro h532 ⟨K532, f532_0, f532_1⟩
     have ne535 : a1 ≠ a22_1 := oNe' (Nat.lt_of_lt_of_le A1.lt (Nat.le_trans (Nat.le_trans (Nat.le_trans (Nat.le_trans (Nat.le_trans (Nat.le_trans (Nat.le_trans (Nat.le_trans (Nat.le_trans (Nat.le_trans (Nat.le_trans (Nat.le_trans (Nat.le_of_eq W2.size.symm) (Nat.le_of_eq W3.size.symm)) (Nat.le_of_eq W4.size.symm)) (Nat.le_of_eq W5.size.symm)) E6.1) (Nat.le_of_eq W8.size.symm)) (Nat.le_of_eq W9.size.symm)) (Nat.le_of_eq W10.size.symm)) E11.1) (Nat.le_of_eq W13.size.symm)) (Nat.le_of_eq W14.size.symm)) (Nat.le_of_eq W15.size.symm)) E16.1)) s31
     have ne536 : a1 ≠ a22_0 := oNe' (Nat.lt_of_lt_of_le A1.lt (Nat.le_trans (Nat.le_trans (Nat.le_trans (Nat.le_trans (Nat.le_trans (Nat.le_trans (Nat.le_trans (Nat.le_trans (Nat.le_trans (Nat.le_trans (Nat.le_trans (Nat.le_trans (Nat.le_of_eq W2.size.symm) (Nat.le_of_eq W3.size.symm)) (Nat.le_of_eq W4.size.symm)) (Nat.le_of_eq W5.size.symm)) E6.1) (Nat.le_of_eq W8.size.symm)) (Nat.le_of_eq W9.size.symm)) (Nat.le_of_eq W10.size.symm)) E11.1) (Nat.le_of_eq W13.size.symm)) (Nat.le_of_eq W14.size.symm)) (Nat.le_of_eq W15.size.symm)) E16.1)) s22
     have ne537 : a1 ≠ a22_16 := oNe' (Nat.lt_of_lt_of_le A1.lt (Nat.le_trans (Nat.le_trans (Nat.le_trans (Nat.le_trans (Nat.le_trans (Nat.le_trans (Nat.le_trans (Nat.le_trans (Nat.le_trans (Nat.le_trans (Nat.le_trans (Nat.le_trans (Nat.le_of_eq W2.size.symm) (Nat.le_of_eq W3.size.symm)) (Nat.le_of_eq W4.size.symm)) (Nat.le_of_eq W5.size.symm)) E6.1) (Nat.le_of_eq W8.size.symm)) (Nat.le_of_eq W9.size.symm)) (Nat.le_of_eq W10.size.symm)) E11.1) (Nat.le_of_eq W13.size.symm)) (Nat.le_of_eq W14.size.symm)) (Nat.le_of_eq W15.size.symm)) E16.1)) s257
     have ne538 : a1 ≠ a22_15 := oNe' (Nat.lt_of_lt_of_le A1.lt (Nat.le_trans (Nat.le_trans (Nat.le_trans (Nat.le_trans (Nat.le_trans (Nat.le_trans (Nat.le_trans (Nat.le_trans (Nat.le_trans (Nat.le_trans (Nat.le_trans (Nat.le_trans (Nat.le_of_eq W2.size.symm) (Nat.le_of_eq W3.size.symm)) (Nat.le_of_eq W4.size.symm)) (Nat.le_of_eq W5.size.symm)) E6.1) (Nat.le_of_eq W8.size.symm)) (Nat.le_of_eq W9.size.symm)) (Nat.le_of_eq W10.size.symm)) E11.1) (Nat.le_of_eq W13.size.symm)) (Nat.le_of_eq W14.size.symm)) (Nat.le_of_eq W15.size.symm)) E16.1)) s246
     have f539 := (K532.arr (K302.arr (K296.arr f59 (ninS ne222 (ninS ne221 (ninS ne220 (ninS ne219 (ninS ne218 (ninS ne217 (ninS ne216 (ninS ne215 (ninS ne214 (ninS ne538 (ninS ne537 (ninS ne536 (ninS ne535 (ninS ne56 (ninS ne55 (ninS ne57 (ninS ne58 nin0))))))))))))))))) (oAS ne21 (oAS ne21 (oAS ne21 (oAS ne21 (oAS ne21 (oAS ne21 (oAS ne21 (oAS ne21 (oAS ne21 (oAS ne21 oA0))))))))))) (ninS ne55 (ninS ne536 (ninS ne535 nin0))) oA0) (ninS ne536 (ninS ne535 nin0)) oA0)
     have ne540 : a6 ≠ a22_1 := oNe' (Nat.lt_of_lt_of_le A6.lt (Nat.le_trans (Nat.le_trans (Nat.le_trans (Nat.le_trans (Nat.le_trans (Nat.le_trans (Nat.le_trans (Nat.le_of_eq W8.size.symm) (Nat.le_of_eq W9.size.symm)) (Nat.le_of_eq W10.size.symm)) E11.1) (Nat.le_of_eq W13.size.symm)) (Nat.le_of_eq W14.size.symm)) (Nat.le_of_eq W15.size.symm)) E16.1)) s31
     have ne541 : a6 ≠ a22_0 := oNe' (Nat.lt_of_lt_of_le A6.lt (Nat.le_trans (Nat.le_trans (Nat.le_trans (Nat.le_trans (Nat.le_trans (Nat.le_trans (Nat.le_trans (Nat.le_of_eq W8.size.symm) (Nat.le_of_eq W9.size.symm)) (Nat.le_of_eq W10.size.symm)) E11.1) (Nat.le_of_eq W13.size.symm)) (Nat.le_of_eq W14.size.symm)) (Nat.le_of_eq W15.size.symm)) E16.1)) s22
     have ne542 : a6 ≠ a22_16 := oNe' (Nat.lt_of_lt_of_le A6.lt (Nat.le_trans (Nat.le_trans (Nat.le_trans (Nat.le_trans (Nat.le_trans (Nat.le_trans (Nat.le_trans (Nat.le_of_eq W8.size.symm) (Nat.le_of_eq W9.size.symm)) (Nat.le_of_eq W10.size.symm)) E11.1) (Nat.le_of_eq W13.size.symm)) (Nat.le_of_eq W14.size.symm)) (Nat.le_of_eq W15.size.symm)) E16.1)) s257
     have ne543 : a6 ≠ a22_15 := oNe' (Nat.lt_of_lt_of_le A6.lt (Nat.le_trans (Nat.le_trans (Nat.le_trans (Nat.le_trans (Nat.le_trans (Nat.le_trans (Nat.le_trans (Nat.le_of_eq W8.size.symm) (Nat.le_of_eq W9.size.symm)) (Nat.le_of_eq W10.size.symm)) E11.1) (Nat.le_of_eq W13.size.symm)) (Nat.le_of_eq W14.size.symm)) (Nat.le_of_eq W15.size.symm)) E16.1)) s246
     have f544 := (K532.arr (K302.arr (K296.arr f71 (ninS ne231 (ninS ne230 (ninS ne229 (ninS ne228 (ninS ne227 (ninS ne226 (ninS ne225 (ninS ne224 (ninS ne223 (ninS ne543 (ninS ne542 (ninS ne541 (ninS ne540 (ninS ne68 (ninS ne67 (ninS ne69 (ninS ne70 nin0))))))))))))))))) (oAS ne28 (oAS ne28 (oAS ne28 (oAS ne28 (oAS ne28 (oAS ne28 (oAS ne28 (oAS ne28 (oAS ne28 (oAS ne28 oA0))))))))))) (ninS ne67 (ninS ne541 (ninS ne540 nin0))) oA0) (ninS ne541 (ninS ne540 nin0)) oA0)
     have ne545 : a11 ≠ a22_1 := oNe' (Nat.lt_of_lt_of_le A11.lt (Nat.le_trans (Nat.le_trans (Nat.le_trans (Nat.le_of_eq W13.size.symm) (Nat.le_of_eq W14.size.symm)) (Nat.le_of_eq W15.size.symm)) E16.1)) s31
     have ne546 : a11 ≠ a22_0 := oNe' (Nat.lt_of_lt_of_le A11.lt (Nat.le_trans (Nat.le_trans (Nat.le_trans (Nat.le_of_eq W13.size.symm) (Nat.le_of_eq W14.size.symm)) (Nat.le_of_eq W15.size.symm)) E16.1)) s22
     have ne547 : a11 ≠ a22_16 := oNe' (Nat.lt_of_lt_of_le A11.lt (Nat.le_trans (Nat.le_trans (Nat.le_trans (Nat.le_of_eq W13.size.symm) (Nat.le_of_eq W14.size.symm)) (Nat.le_of_eq W15.size.symm)) E16.1)) s257
     have ne548 : a11 ≠ a22_15 := oNe' (Nat.lt_of_lt_of_le A11.lt (Nat.le_trans (Nat.le_trans (Nat.le_trans (Nat.le_of_eq W13.size.symm) (Nat.le_of_eq W14.size.symm)) (Nat.le_of_eq W15.size.symm)) E16.1)) s246
     have ne549 : a11 ≠ a22_13 := oNe' (Nat.lt_of_lt_of_le A11.lt (Nat.le_trans (Nat.le_trans (Nat.le_trans (Nat.le_of_eq W13.size.symm) (Nat.le_of_eq W14.size.symm)) (Nat.le_of_eq W15.size.symm)) E16.1)) s160
     have ne550 : a11 ≠ a22_12 := oNe' (Nat.lt_of_lt_of_le A11.lt (Nat.le_trans (Nat.le_trans (Nat.le_trans (Nat.le_of_eq W13.size.symm) (Nat.le_of_eq W14.size.symm)) (Nat.le_of_eq W15.size.symm)) E16.1)) s159
     have ne551 : a11 ≠ a22_10 := oNe' (Nat.lt_of_lt_of_le A11.lt (Nat.le_trans (Nat.le_trans (Nat.le_trans (Nat.le_of_eq W13.size.symm) (Nat.le_of_eq W14.size.symm)) (Nat.le_of_eq W15.size.symm)) E16.1)) s156
     have ne552 : a11 ≠ a22_9 := oNe' (Nat.lt_of_lt_of_le A11.lt (Nat.le_trans (Nat.le_trans (Nat.le_trans (Nat.le_of_eq W13.size.symm) (Nat.le_of_eq W14.size.symm)) (Nat.le_of_eq W15.size.symm)) E16.1)) s155
     have ne553 : a11 ≠ a22_8 := oNe' (Nat.lt_of_lt_of_le A11.lt (Nat.le_trans (Nat.le_trans (Nat.le_trans (Nat.le_of_eq W13.size.symm) (Nat.le_of_eq W14.size.symm)) (Nat.le_of_eq W15.size.symm)) E16.1)) s154
     have ne554 : a11 ≠ a22_7 := oNe' (Nat.lt_of_lt_of_le A11.lt (Nat.le_trans (Nat.le_trans (Nat.le_trans (Nat.le_of_eq W13.size.symm) (Nat.le_of_eq W14.size.symm)) (Nat.le_of_eq W15.size.symm)) E16.1)) s153
     have ne555 : a11 ≠ a22_6 := oNe' (Nat.lt_of_lt_of_le A11.lt (Nat.le_trans (Nat.le_trans (Nat.le_trans (Nat.le_of_eq W13.size.symm) (Nat.le_of_eq W14.size.symm)) (Nat.le_of_eq W15.size.symm)) E16.1)) s152
     have ne556 : a11 ≠ a22_14 := oNe' (Nat.lt_of_lt_of_le A11.lt (Nat.le_trans (Nat.le_trans (Nat.le_trans (Nat.le_of_eq W13.size.symm) (Nat.le_of_eq W14.size.symm)) (Nat.le_of_eq W15.size.symm)) E16.1)) s161
     have ne557 : a11 ≠ a22_11 := oNe' (Nat.lt_of_lt_of_le A11.lt (Nat.le_trans (Nat.le_trans (Nat.le_trans (Nat.le_of_eq W13.size.symm) (Nat.le_of_eq W14.size.symm)) (Nat.le_of_eq W15.size.symm)) E16.1)) s157
     have f558 := (K532.arr (K302.arr (K296.arr f65 (ninS ne557 (ninS ne556 (ninS ne555 (ninS ne554 (ninS ne553 (ninS ne552 (ninS ne551 (ninS ne550 (ninS ne549 (ninS ne548 (ninS ne547 (ninS ne546 (ninS ne545 (ninS ne62 (ninS ne61 (ninS ne63 (ninS ne64 nin0))))))))))))))))) (oAS ne25 (oAS ne25 (oAS ne25 (oAS ne25 (oAS ne25 (oAS ne25 (oAS ne25 (oAS ne25 (oAS ne25 (oAS ne25 oA0))))))))))) (ninS ne61 (ninS ne546 (ninS ne545 nin0))) oA0) (ninS ne546 (ninS ne545 nin0)) oA0)
     have f559 := (K532.exa f533)
     have f560 := (K532.fld (K302.fld f296_0 (ninS ne52 (ninS ne78 (ninS ne85 nin0))) oN0) (ninS ne78 (ninS ne85 nin0)) oN0)
     have f561 := (K532.fld (K302.fld (K296.fld f54 (ninS ne151 (ninS ne158 (ninS ne162 (ninS ne163 (ninS ne164 (ninS ne165 (ninS ne166 (ninS ne167 (ninS ne168 (ninS ne245 (ninS ne256 (ninS ne78 (ninS ne85 (ninS ne43 (ninS ne52 (ninS ne39 (ninS ne33 nin0))))))))))))))))) (oNF (Or.inr (oSn0 hw 1 0)) (oNF (Or.inr (oSn0 hw 1 21)) (oNF (Or.inr (oSn0 hw 1 22)) (oNF (Or.inr (oSn0 hw 1 23)) (oNF (Or.inr (oSn0 hw 1 24)) (oNF (Or.inr (oSn0 hw 1 25)) (oNF (Or.inr (oSn0 hw 1 26)) (oNF (Or.inr (oSn0 hw 1 27)) (oNF (Or.inr (oSn0 hw 1 28)) (oNF (Or.inr (oSn0 hw 1 29)) oN0))))))))))) (ninS ne52 (ninS ne78 (ninS ne85 nin0))) oN0) (ninS ne78 (ninS ne85 nin0)) oN0)
     have f562 := (K532.fld (K302.fld (K296.fld f66 (ninS ne151 (ninS ne158 (ninS ne162 (ninS ne163 (ninS ne164 (ninS ne165 (ninS ne166 (ninS ne167 (ninS ne168 (ninS ne245 (ninS ne256 (ninS ne78 (ninS ne85 (ninS ne43 (ninS ne52 (ninS ne39 (ninS ne33 nin0))))))))))))))))) (oNF (Or.inr (oSn0 hw 2 0)) (oNF (Or.inr (oSn0 hw 2 21)) (oNF (Or.inr (oSn0 hw 2 22)) (oNF (Or.inr (oSn0 hw 2 23)) (oNF (Or.inr (oSn0 hw 2 24)) (oNF (Or.inr (oSn0 hw 2 25)) (oNF (Or.inr (oSn0 hw 2 26)) (oNF (Or.inr (oSn0 hw 2 27)) (oNF (Or.inr (oSn0 hw 2 28)) (oNF (Or.inr (oSn0 hw 2 29)) oN0))))))))))) (ninS ne52 (ninS ne78 (ninS ne85 nin0))) oN0) (ninS ne78 (ninS ne85 nin0)) oN0)
     have f563 := (K532.fld (K302.fld (K296.fld f60 (ninS ne151 (ninS ne158 (ninS ne162 (ninS ne163 (ninS ne164 (ninS ne165 (ninS ne166 (ninS ne167 (ninS ne168 (ninS ne245 (ninS ne256 (ninS ne78 (ninS ne85 (ninS ne43 (ninS ne52 (ninS ne39 (ninS ne33 nin0))))))))))))))))) (oNF (Or.inr (oSn0 hw 3 0)) (oNF (Or.inr (oSn0 hw 3 21)) (oNF (Or.inr (oSn0 hw 3 22)) (oNF (Or.inr (oSn0 hw 3 23)) (oNF (Or.inr (oSn0 hw 3 24)) (oNF (Or.inr (oSn0 hw 3 25)) (oNF (Or.inr (oSn0 hw 3 26)) (oNF (Or.inr (oSn0 hw 3 27)) (oNF (Or.inr (oSn0 hw 3 28)) (oNF (Or.inr (oSn0 hw 3 29)) oN0))))))))))) (ninS ne52 (ninS ne78 (ninS ne85 nin0))) oN0) (ninS ne78 (ninS ne85 nin0)) oN0)
     have f564 := (K532.fld f530 (ninS ne78 (ninS ne85 nin0)) oN0)
     have f565 := (K532.fld f531 (ninS ne78 (ninS ne85 nin0)) oN0)
     have f566 := (K532.fld f528 (ninS ne78 (ninS ne85 nin0)) oN0)
     have f567 := (K532.fld (K302.fld (K296.fld f149 (ninS ne151 (ninS ne158 (ninS ne162 (ninS ne163 (ninS ne164 (ninS ne165 (ninS ne166 (ninS ne167 (ninS ne168 (ninS ne245 (ninS ne256 (ninS ne78 (ninS ne85 (ninS ne43 (ninS ne52 (ninS ne39 (ninS ne33 nin0))))))))))))))))) (oNF (Or.inr (oSn0 hw 7 0)) (oNF (Or.inr (oSn0 hw 7 21)) (oNF (Or.inr (oSn0 hw 7 22)) (oNF (Or.inr (oSn0 hw 7 23)) (oNF (Or.inr (oSn0 hw 7 24)) (oNF (Or.inr (oSn0 hw 7 25)) (oNF (Or.inr (oSn0 hw 7 26)) (oNF (Or.inr (oSn0 hw 7 27)) (oNF (Or.inr (oSn0 hw 7 28)) (oNF (Or.inr (oSn0 hw 7 29)) oN0))))))))))) (ninS ne52 (ninS ne78 (ninS ne85 nin0))) oN0) (ninS ne78 (ninS ne85 nin0)) oN0)
     have f568 := (K532.fld (K302.fld f299 (ninS ne52 (ninS ne78 (ninS ne85 nin0))) oN0) (ninS ne78 (ninS ne85 nin0)) oN0)
     have f569 := (K532.fld (K302.fld (K296.fld f295 (ninS ne151 (ninS ne158 (ninS ne162 (ninS ne163 (ninS ne164 (ninS ne165 (ninS ne166 (ninS ne167 (ninS ne168 (ninS ne245 (ninS ne256 (ninS ne78 (ninS ne85 (ninS ne43 (ninS ne52 (ninS ne39 (ninS ne33 nin0))))))))))))))))) (oNF (Or.inr (oSn0 hw 9 0)) (oNF (Or.inr (oSn0 hw 9 21)) (oNF (Or.inr (oSn0 hw 9 22)) (oNF (Or.inr (oSn0 hw 9 23)) (oNF (Or.inr (oSn0 hw 9 24)) (oNF (Or.inr (oSn0 hw 9 25)) (oNF (Or.inr (oSn0 hw 9 26)) (oNF (Or.inr (oSn0 hw 9 27)) (oNF (Or.inr (oSn0 hw 9 28)) (oNF (Or.inr (oSn0 hw 9 29)) oN0))))))))))) (ninS ne52 (ninS ne78 (ninS ne85 nin0))) oN0) (ninS ne78 (ninS ne85 nin0)) oN0)
     have f570 := (K532.fld (K302.fld (K296.fld f105 (ninS ne151 (ninS ne158 (ninS ne162 (ninS ne163 (ninS ne164 (ninS ne165 (ninS ne166 (ninS ne167 (ninS ne168 (ninS ne245 (ninS ne256 (ninS ne78 (ninS ne85 (ninS ne43 (ninS ne52 (ninS ne39 (ninS ne33 nin0))))))))))))))))) (oNF (Or.inr (oSn0 hw 10 0)) (oNF (Or.inr (oSn0 hw 10 21)) (oNF (Or.inr (oSn0 hw 10 22)) (oNF (Or.inr (oSn0 hw 10 23)) (oNF (Or.inr (oSn0 hw 10 24)) (oNF (Or.inr (oSn0 hw 10 25)) (oNF (Or.inr (oSn0 hw 10 26)) (oNF (Or.inr (oSn0 hw 10 27)) (oNF (Or.inr (oSn0 hw 10 28)) (oNF (Or.inr (oSn0 hw 10 29)) oN0))))))))))) (ninS ne52 (ninS ne78 (ninS ne85 nin0))) oN0) (ninS ne78 (ninS ne85 nin0)) oN0)
     have f571 := (K532.fld (K302.fld (K296.fld f111 (ninS ne151 (ninS ne158 (ninS ne162 (ninS ne163 (ninS ne164 (ninS ne165 (ninS ne166 (ninS ne167 (ninS ne168 (ninS ne245 (ninS ne256 (ninS ne78 (ninS ne85 (ninS ne43 (ninS ne52 (ninS ne39 (ninS ne33 nin0))))))))))))))))) (oNF (Or.inr (oSn0 hw 11 0)) (oNF (Or.inr (oSn0 hw 11 21)) (oNF (Or.inr (oSn0 hw 11 22)) (oNF (Or.inr (oSn0 hw 11 23)) (oNF (Or.inr (oSn0 hw 11 24)) (oNF (Or.inr (oSn0 hw 11 25)) (oNF (Or.inr (oSn0 hw 11 26)) (oNF (Or.inr (oSn0 hw 11 27)) (oNF (Or.inr (oSn0 hw 11 28)) (oNF (Or.inr (oSn0 hw 11 29)) oN0))))))))))) (ninS ne52 (ninS ne78 (ninS ne85 nin0))) oN0) (ninS ne78 (ninS ne85 nin0)) oN0)
     have f572 := (K532.fld (K302.fld (K296.fld f117 (ninS ne151 (ninS ne158 (ninS ne162 (ninS ne163 (ninS ne164 (ninS ne165 (ninS ne166 (ninS ne167 (ninS ne168 (ninS ne245 (ninS ne256 (ninS ne78 (ninS ne85 (ninS ne43 (ninS ne52 (ninS ne39 (ninS ne33 nin0))))))))))))))))) (oNF (Or.inr (oSn0 hw 12 0)) (oNF (Or.inr (oSn0 hw 12 21)) (oNF (Or.inr (oSn0 hw 12 22)) (oNF (Or.inr (oSn0 hw 12 23)) (oNF (Or.inr (oSn0 hw 12 24)) (oNF (Or.inr (oSn0 hw 12 25)) (oNF (Or.inr (oSn0 hw 12 26)) (oNF (Or.inr (oSn0 hw 12 27)) (oNF (Or.inr (oSn0 hw 12 28)) (oNF (Or.inr (oSn0 hw 12 29)) oN0))))))))))) (ninS ne52 (ninS ne78 (ninS ne85 nin0))) oN0) (ninS ne78 (ninS ne85 nin0)) oN0)
     have f573 := (K532.fld (K302.fld (K296.fld f123 (ninS ne151 (ninS ne158 (ninS ne162 (ninS ne163 (ninS ne164 (ninS ne165 (ninS ne166 (ninS ne167 (ninS ne168 (ninS ne245 (ninS ne256 (ninS ne78 (ninS ne85 (ninS ne43 (ninS ne52 (ninS ne39 (ninS ne33 nin0))))))))))))))))) (oNF (Or.inr (oSn0 hw 13 0)) (oNF (Or.inr (oSn0 hw 13 21)) (oNF (Or.inr (oSn0 hw 13 22)) (oNF (Or.inr (oSn0 hw 13 23)) (oNF (Or.inr (oSn0 hw 13 24)) (oNF (Or.inr (oSn0 hw 13 25)) (oNF (Or.inr (oSn0 hw 13 26)) (oNF (Or.inr (oSn0 hw 13 27)) (oNF (Or.inr (oSn0 hw 13 28)) (oNF (Or.inr (oSn0 hw 13 29)) oN0))))))))))) (ninS ne52 (ninS ne78 (ninS ne85 nin0))) oN0) (ninS ne78 (ninS ne85 nin0)) oN0)
     have f574 := (K532.fld (K302.fld (K296.fld f129 (ninS ne151 (ninS ne158 (ninS ne162 (ninS ne163 (ninS ne164 (ninS ne165 (ninS ne166 (ninS ne167 (ninS ne168 (ninS ne245 (ninS ne256 (ninS ne78 (ninS ne85 (ninS ne43 (ninS ne52 (ninS ne39 (ninS ne33 nin0))))))))))))))))) (oNF (Or.inr (oSn0 hw 14 0)) (oNF (Or.inr (oSn0 hw 14 21)) (oNF (Or.inr (oSn0 hw 14 22)) (oNF (Or.inr (oSn0 hw 14 23)) (oNF (Or.inr (oSn0 hw 14 24)) (oNF (Or.inr (oSn0 hw 14 25)) (oNF (Or.inr (oSn0 hw 14 26)) (oNF (Or.inr (oSn0 hw 14 27)) (oNF (Or.inr (oSn0 hw 14 28)) (oNF (Or.inr (oSn0 hw 14 29)) oN0))))))))))) (ninS ne52 (ninS ne78 (ninS ne85 nin0))) oN0) (ninS ne78 (ninS ne85 nin0)) oN0)
     have f575 := (K532.fld (K302.fld (K296.fld f92 (ninS ne151 (ninS ne158 (ninS ne162 (ninS ne163 (ninS ne164 (ninS ne165 (ninS ne166 (ninS ne167 (ninS ne168 (ninS ne245 (ninS ne256 (ninS ne78 (ninS ne85 (ninS ne43 (ninS ne52 (ninS ne39 (ninS ne33 nin0))))))))))))))))) (oNF (Or.inr (oSn0 hw 15 0)) (oNF (Or.inr (oSn0 hw 15 21)) (oNF (Or.inr (oSn0 hw 15 22)) (oNF (Or.inr (oSn0 hw 15 23)) (oNF (Or.inr (oSn0 hw 15 24)) (oNF (Or.inr (oSn0 hw 15 25)) (oNF (Or.inr (oSn0 hw 15 26)) (oNF (Or.inr (oSn0 hw 15 27)) (oNF (Or.inr (oSn0 hw 15 28)) (oNF (Or.inr (oSn0 hw 15 29)) oN0))))))))))) (ninS ne52 (ninS ne78 (ninS ne85 nin0))) oN0) (ninS ne78 (ninS ne85 nin0)) oN0)
     have f576 := (K532.fld (K302.fld (K296.fld f136 (ninS ne151 (ninS ne158 (ninS ne162 (ninS ne163 (ninS ne164 (ninS ne165 (ninS ne166 (ninS ne167 (ninS ne168 (ninS ne245 (ninS ne256 (ninS ne78 (ninS ne85 (ninS ne43 (ninS ne52 (ninS ne39 (ninS ne33 nin0))))))))))))))))) (oNF (Or.inr (oSn0 hw 16 0)) (oNF (Or.inr (oSn0 hw 16 21)) (oNF (Or.inr (oSn0 hw 16 22)) (oNF (Or.inr (oSn0 hw 16 23)) (oNF (Or.inr (oSn0 hw 16 24)) (oNF (Or.inr (oSn0 hw 16 25)) (oNF (Or.inr (oSn0 hw 16 26)) (oNF (Or.inr (oSn0 hw 16 27)) (oNF (Or.inr (oSn0 hw 16 28)) (oNF (Or.inr (oSn0 hw 16 29)) oN0))))))))))) (ninS ne52 (ninS ne78 (ninS ne85 nin0))) oN0) (ninS ne78 (ninS ne85 nin0)) oN0)
     have f577 := (K532.fld (K302.fld (K296.fld f142 (ninS ne151 (ninS ne158 (ninS ne162 (ninS ne163 (ninS ne164 (ninS ne165 (ninS ne166 (ninS ne167 (ninS ne168 (ninS ne245 (ninS ne256 (ninS ne78 (ninS ne85 (ninS ne43 (ninS ne52 (ninS ne39 (ninS ne33 nin0))))))))))))))))) (oNF (Or.inr (oSn0 hw 17 0)) (oNF (Or.inr (oSn0 hw 17 21)) (oNF (Or.inr (oSn0 hw 17 22)) (oNF (Or.inr (oSn0 hw 17 23)) (oNF (Or.inr (oSn0 hw 17 24)) (oNF (Or.inr (oSn0 hw 17 25)) (oNF (Or.inr (oSn0 hw 17 26)) (oNF (Or.inr (oSn0 hw 17 27)) (oNF (Or.inr (oSn0 hw 17 28)) (oNF (Or.inr (oSn0 hw 17 29)) oN0))))))))))) (ninS ne52 (ninS ne78 (ninS ne85 nin0))) oN0) (ninS ne78 (ninS ne85 nin0)) oN0)
     have f578 := (K532.fld (K302.fld (K296.fld f98 (ninS ne151 (ninS ne158 (ninS ne162 (ninS ne163 (ninS ne164 (ninS ne165 (ninS ne166 (ninS ne167 (ninS ne168 (ninS ne245 (ninS ne256 (ninS ne78 (ninS ne85 (ninS ne43 (ninS ne52 (ninS ne39 (ninS ne33 nin0))))))))))))))))) (oNF (Or.inr (oSn0 hw 18 0)) (oNF (Or.inr (oSn0 hw 18 21)) (oNF (Or.inr (oSn0 hw 18 22)) (oNF (Or.inr (oSn0 hw 18 23)) (oNF (Or.inr (oSn0 hw 18 24)) (oNF (Or.inr (oSn0 hw 18 25)) (oNF (Or.inr (oSn0 hw 18 26)) (oNF (Or.inr (oSn0 hw 18 27)) (oNF (Or.inr (oSn0 hw 18 28)) (oNF (Or.inr (oSn0 hw 18 29)) oN0))))))))))) (ninS ne52 (ninS ne78 (ninS ne85 nin0))) oN0) (ninS ne78 (ninS ne85 nin0)) oN0)
     have f579 := (K532.fld (K302.fld (K296.fld f232 (ninS ne151 (ninS ne158 (ninS ne162 (ninS ne163 (ninS ne164 (ninS ne165 (ninS ne166 (ninS ne167 (ninS ne168 (ninS ne245 (ninS ne256 (ninS ne78 (ninS ne85 (ninS ne43 (ninS ne52 (ninS ne39 (ninS ne33 nin0))))))))))))))))) (oNF (Or.inr (oSn0 hw 19 0)) (oNF (Or.inr (oSn0 hw 19 21)) (oNF (Or.inr (oSn0 hw 19 22)) (oNF (Or.inr (oSn0 hw 19 23)) (oNF (Or.inr (oSn0 hw 19 24)) (oNF (Or.inr (oSn0 hw 19 25)) (oNF (Or.inr (oSn0 hw 19 26)) (oNF (Or.inr (oSn0 hw 19 27)) (oNF (Or.inr (oSn0 hw 19 28)) (oNF (Or.inr (oSn0 hw 19 29)) oN0))))))))))) (ninS ne52 (ninS ne78 (ninS ne85 nin0))) oN0) (ninS ne78 (ninS ne85 nin0)) oN0)
     have f580 := (K532.fld (K302.fld (K296.fld f238 (ninS ne151 (ninS ne158 (ninS ne162 (ninS ne163 (ninS ne164 (ninS ne165 (ninS ne166 (ninS ne167 (ninS ne168 (ninS ne245 (ninS ne256 (ninS ne78 (ninS ne85 (ninS ne43 (ninS ne52 (ninS ne39 (ninS ne33 nin0))))))))))))))))) (oNF (Or.inr (oSn0 hw 20 0)) (oNF (Or.inr (oSn0 hw 20 21)) (oNF (Or.inr (oSn0 hw 20 22)) (oNF (Or.inr (oSn0 hw 20 23)) (oNF (Or.inr (oSn0 hw 20 24)) (oNF (Or.inr (oSn0 hw 20 25)) (oNF (Or.inr (oSn0 hw 20 26)) (oNF (Or.inr (oSn0 hw 20 27)) (oNF (Or.inr (oSn0 hw 20 28)) (oNF (Or.inr (oSn0 hw 20 29)) oN0))))))))))) (ninS ne52 (ninS ne78 (ninS ne85 nin0))) oN0) (ninS ne78 (ninS ne85 nin0)) oN0)
     have f581 := (K532.fld (K302.fld f296_3 (ninS ne52 (ninS ne78 (ninS ne85 nin0))) oN0) (ninS ne78 (ninS ne85 nin0)) oN0)
     have f582 := (K532.fld (K302.fld f296_4 (ninS ne52 (ninS ne78 (ninS ne85 nin0))) oN0) (ninS ne78 (ninS ne85 nin0)) oN0)
     have f583 := (K532.fld (K302.fld f296_5 (ninS ne52 (ninS ne78 (ninS ne85 nin0))) oN0) (ninS ne78 (ninS ne85 nin0)) oN0)
     have f584 := (K532.fld (K302.fld f296_6 (ninS ne52 (ninS ne78 (ninS ne85 nin0))) oN0) (ninS ne78 (ninS ne85 nin0)) oN0)
     have f585 := (K532.fld (K302.fld f296_7 (ninS ne52 (ninS ne78 (ninS ne85 nin0))) oN0) (ninS ne78 (ninS ne85 nin0)) oN0)
     have f586 := (K532.fld (K302.fld f296_8 (ninS ne52 (ninS ne78 (ninS ne85 nin0))) oN0) (ninS ne78 (ninS ne85 nin0)) oN0)
     have f587 := (K532.fld (K302.fld f296_10 (ninS ne52 (ninS ne78 (ninS ne85 nin0))) oN0) (ninS ne78 (ninS ne85 nin0)) oN0)
     have f588 := (K532.fld (K302.fld f296_17 (ninS ne52 (ninS ne78 (ninS ne85 nin0))) oN0) (ninS ne78 (ninS ne85 nin0)) oN0)
     have f589 := (K532.fld (K302.fld f296_24 (ninS ne52 (ninS ne78 (ninS ne85 nin0))) oN0) (ninS ne78 (ninS ne85 nin0)) oN0)
     have f590 := (K532.arr f529 (ninS (Ne.symm ne76) (ninS (Ne.symm ne83) nin0)) oA0)
     have f591 := (K532.arr (K302.arr f296_21 (ninS ne46 (ninS (Ne.symm ne74) (ninS (Ne.symm ne81) nin0))) oA0) (ninS (Ne.symm ne74) (ninS (Ne.symm ne81) nin0)) oA0)
     have f592 := (K532.arr f302_0 (ninS (Ne.symm ne73) (ninS (Ne.symm ne80) nin0)) oA0)
     have f593 := (K532.arr (K302.arr f296_26 (ninS (Ne.symm ne45) (ninS (Ne.symm ne75) (ninS (Ne.symm ne82) nin0))) oA0) (ninS (Ne.symm ne75) (ninS (Ne.symm ne82) nin0)) oA0)
     have f594 := (K532.arr (K302.arr f296_12 (ninS (Ne.symm ne106) (ninS (Ne.symm ne276) (ninS (Ne.symm ne288) nin0))) oA0) (ninS (Ne.symm ne276) (ninS (Ne.symm ne288) nin0)) oA0)
     have f595 := (K532.arr (K302.arr f296_13 (ninS (Ne.symm ne112) (ninS (Ne.symm ne275) (ninS (Ne.symm ne287) nin0))) oA0) (ninS (Ne.symm ne275) (ninS (Ne.symm ne287) nin0)) oA0)
     have f596 := (K532.arr (K302.arr f296_14 (ninS (Ne.symm ne118) (ninS (Ne.symm ne274) (ninS (Ne.symm ne286) nin0))) oA0) (ninS (Ne.symm ne274) (ninS (Ne.symm ne286) nin0)) oA0)
     have f597 := (K532.arr (K302.arr f296_15 (ninS (Ne.symm ne124) (ninS (Ne.symm ne273) (ninS (Ne.symm ne285) nin0))) oA0) (ninS (Ne.symm ne273) (ninS (Ne.symm ne285) nin0)) oA0)
     have f598 := (K532.arr (K302.arr f296_16 (ninS (Ne.symm ne130) (ninS (Ne.symm ne272) (ninS (Ne.symm ne284) nin0))) oA0) (ninS (Ne.symm ne272) (ninS (Ne.symm ne284) nin0)) oA0)
     have f599 := (K532.arr (K302.arr f296_9 (ninS (Ne.symm ne93) (ninS (Ne.symm ne278) (ninS (Ne.symm ne290) nin0))) oA0) (ninS (Ne.symm ne278) (ninS (Ne.symm ne290) nin0)) oA0)
     have f600 := (K532.arr (K302.arr f296_18 (ninS (Ne.symm ne137) (ninS (Ne.symm ne271) (ninS (Ne.symm ne283) nin0))) oA0) (ninS (Ne.symm ne271) (ninS (Ne.symm ne283) nin0)) oA0)
     have f601 := (K532.arr (K302.arr f296_19 (ninS (Ne.symm ne143) (ninS (Ne.symm ne270) (ninS (Ne.symm ne282) nin0))) oA0) (ninS (Ne.symm ne270) (ninS (Ne.symm ne282) nin0)) oA0)
     have f602 := (K532.arr (K302.arr f296_11 (ninS (Ne.symm ne100) (ninS (Ne.symm ne277) (ninS (Ne.symm ne289) nin0))) oA0) (ninS (Ne.symm ne277) (ninS (Ne.symm ne289) nin0)) oA0)
     have f603 := (K532.arr (K302.arr f296_23 (ninS (Ne.symm ne233) (ninS (Ne.symm ne280) (ninS (Ne.symm ne292) nin0))) oA0) (ninS (Ne.symm ne280) (ninS (Ne.symm ne292) nin0)) oA0)
     have f604 := (K532.arr (K302.arr f296_25 (ninS (Ne.symm ne240) (ninS (Ne.symm ne279) (ninS (Ne.symm ne291) nin0))) oA0) (ninS (Ne.symm ne279) (ninS (Ne.symm ne291) nin0)) oA0)
     exact J149 _ ⟨K532.1, f539, f544, f558, f559, f560, f561, f562, f563, f564, f565, f566, f567, f568, f569, f570, f571, f572, f573, f574, f575, f576, f577, f578, f579, f580, f581, f582, f583, f584, f585, f586, f587, f588, f589, f532_0, f532_1, f590, f591, f592, f593, f594, f595, f596, f597, f598, f599, f600, f601, f602, f603, f604⟩
  ·
   refine oIload C at_23 rfl rfl ?_
   refine oIconst C at_25 (z := 1) rfl rfl ?_
   refine oIand C at_26 rfl ?_
   refine oIf_eq C at_27 (q := 35) (by decide) (by decide) (r := 30) rfl (fun hc27 => ?_) (fun hc27 => ?_)
   ·
    refine oLload C at_35 rfl rfl ?_
    refine oLdc2 C (w0 hw) at_37 rfl ?_
    refine oLand C at_40 rfl ?_
    refine oCastL (z' := (fW2 x2 fl dd)) (by rw [fW2_def, if_pos hc27]) ?_
    exact J41 () trivial
   ·
    refine oLload C at_30 rfl rfl ?_
    refine oGoto C at_32 (q := 41) (by decide) (by decide) ?_
    refine oCastL (z' := (fW2 x2 fl dd)) (by rw [fW2_def, if_neg hc27]) ?_
    exact J41 () trivial
set_option maxRecDepth 65536 in
set_option maxHeartbeats 40000000 in
theorem comes_1 {Post : Tables → Env → Array Value → State → Outcome → State → Prop} (hpost : ∀ tb e args s v u, (limb_1_1.after args s (.returned v) u = true ∧ limb_1_2.after args s (.returned v) u = true ∧ True) → FrameEnd s (.returned v) u (Jvm.fieldLocs frame_1_writes args s ++ Jvm.arrayLocs frame_1_arrays args s ++ Jvm.staticLocs frame_1_statics s) 56 256 → Post tb e args s (.returned v) u) :
    ArmFor flags0 classFile x code maxLocals ret World_1 tables_1 room_1 Calls_1 rest_1 Pre_1 Post := by
  intro l hfl _ _ p e ha hc hk s m args below hf hA hF happ hP
  obtain ⟨hcalls, hrest, hpre⟩ := hP
  obtain ⟨-, -, -, hnamed, -, -, -, hat⟩ := (Spec.applies_iff hf).mp happ
  obtain ⟨hg, hn⟩ := and_e (Cond.before_iff.mp (show (Jvm.Cond.and given_1 narrow_1).before args s = true from hpre))
  obtain ⟨h1, k0⟩ := and_e hg
  obtain ⟨c0, k1⟩ := and_e k0
  obtain ⟨c1, k2⟩ := and_e k1
  obtain ⟨c2, k3⟩ := and_e k2
  obtain ⟨v0, v1, v2, v3, rfl⟩ : ∃ v0 v1 v2 v3 : Value, args = #[v0, v1, v2, v3] := by
    have hs : args.size = 4 := by simpa [Cond.value, given_1] using h1
    obtain ⟨L⟩ := args
    match L, hs with
    | [v0, v1, v2, v3], _ => exact ⟨v0, v1, v2, v3, rfl⟩
  have hw := fun d (hd : d ∈ tables_1) => atoms_spec (ws := Jvm.Cond.code x code maxLocals ret :: tables_1) hat d (List.mem_cons_of_mem _ hd)
  have hfit : Fit s := fun {y c} hc i hi => by
    obtain ⟨ha, rfl⟩ := Array.getElem?_eq_some_iff.mp hc
    have q := List.all_eq_true.mp ((Array.all_eq_true_iff_forall_mem.mp hF) _ (Array.getElem_mem ha)) i (List.mem_range.mpr hi)
    simpa [Array.getElem?_eq_getElem hi] using q
  obtain ⟨i0, e0⟩ := isL_v c0
  obtain rfl : v0 = (.long i0) := Option.some.inj e0
  obtain ⟨i1, e1⟩ := isL_v c1
  obtain rfl : v1 = (.long i1) := Option.some.inj e1
  obtain ⟨i2, e2⟩ := isL_v c2
  obtain rfl : v2 = (.long i2) := Option.some.inj e2
  obtain ⟨i3, e3⟩ := is_v k3
  obtain rfl : v3 = (.int i3) := Option.some.inj e3
  obtain ⟨n, o, h1, h2, h3, _, L, rfl, ⟨N, rfl⟩, hq⟩ := mt_law l s _ hw s.heap s.heap.size (Nat.le_refl _) i0 i1 i2 i3  p e ha hc hk s m _ below hf ((Spec.applies_iff_loose hf).mp happ).1 ⟨rfl, State.Warmed39.refl s, rfl⟩ trivial
  refine ⟨n, _, h1, h2, h3, hpost _ _ _ _ _ _ ⟨Cond.after_iff.mpr rfl, Cond.after_iff.mpr (eq_i res_at (Term.int_eval (1)) rfl), trivial⟩ ⟨hq.1, hq.2.1, (hq.2.2.sift fun y hy => Or.inr (N y hy)).mono (by decide) (by decide)⟩⟩
theorem main_1_1 : Claimed_1_1 := comes_1 fun _ _ _ _ _ _ h hF => ⟨h.1, hF⟩
theorem main_1_2 : Claimed_1_2 := comes_1 fun _ _ _ _ _ _ h hF => ⟨h.2.1, hF⟩
end Jvm.Pilot.@@N@@
namespace Jvm.Pilot.@@N@@
open Jvm Jvm.ClassFile Sem Op Lib Jvm.Free Jvm.Stand Jvm.Pilot.@@N@@.Jvm.D
/-! MADE BY PROGRAM (witnessworld.py) out of the Statement's table words and the real class files: 23 classes; the members and pool entries that the words name. The judged class is class 1, her method 1. -/
namespace start1
open Jvm.ClassFile
def u (s : String) : CpInfo := .utf8 (stringToUtf16 s)
/-- a pool by its gaps: so many unusable entries, then the entry; so many at the end -/
def gap : Nat → List CpInfo → List CpInfo
  | 0, r => r
  | n + 1, r => .unusable :: gap n r
def poolList (es : List (Nat × CpInfo)) (last : Nat) : List CpInfo := es.foldr (fun e r => gap e.1 (e.2 :: r)) (gap last [])
def pool (es : List (Nat × CpInfo)) (last : Nat) : Array CpInfo := ⟨poolList es last⟩
def fileOf (pool : Array CpInfo) (this : Nat) (attrs : Array Attribute := #[]) (ms : Array MethodInfo := #[]) (fl : Nat := 33) (sup : Nat := 0) (ifs : Array Nat := #[]) (fds : Array FieldInfo := #[]) : ClassFile where
  minorVersion := 0
  majorVersion := 65
  constantPool := pool
  accessFlags := fl
  thisClass := this
  superClass := sup
  interfaces := ifs
  fields := fds
  methods := ms
  attributes := attrs
def plain (name : String) (sup : Option ClassId) : Class where
  name := name
  kind := .ordinary
  loader := none
  accessFlags := 33
  super := sup
  interfaces := #[]
  cf := none
  fields := #[]
  methods := #[]
  instanceTypes := #[]
  staticTypes := #[]
  resolved := #[]
  callSites := []
  init := .initialized
  statics := none
  mirror := none

def pool0 : Array CpInfo := pool [(5, u "<init>"), (0, u "()V"), (1, .class_ 10), (1, u "java/lang/Object")] 113

def k0c0 : Code := { maxStack := 0, maxLocals := 1, code := object_method_1_code, exceptionTable := #[], attributes := #[] }
def k0m0 : Method := { name := "<init>", desc := "()V", sig := { parameters := [], returnType := none }, accessFlags := 1, code := some k0c0 }
/-- java/lang/Object -/
def k0 : Class := { plain "java/lang/Object" none with
  accessFlags := 33
  interfaces := #[]
  cf := some (fileOf pool0 8 #[] #[{ accessFlags := 1, nameIndex := 5, descriptorIndex := 6, attributes := #[] }] 33 0 #[] #[])
  fields := #[]
  methods := #[k0m0]
  instanceTypes := #[]
  staticTypes := #[]
  resolved := Array.replicate 124 none
  statics := none }

def pool1 : Array CpInfo := pool [(2, .class_ 4), (1, u "java/lang/Object"), (0, u "<init>"), (0, u "()V"), (0, .long 1152921504606846975), (1, .class_ 10), (0, u "com/example/gavel/gavel/UnitDemandMarket"), (0, .methodref 9 12), (0, .nameAndType 5 13), (0, u "(I[I[I[J)V"), (0, .methodref 9 15), (0, .nameAndType 16 17), (0, u "assign"), (0, u "(II)V"), (0, .methodref 9 19), (0, .nameAndType 20 21), (0, u "join"), (0, u "(I)V"), (0, .methodref 9 23), (0, .nameAndType 24 21), (0, u "resetPrice"), (0, .methodref 9 26), (0, .nameAndType 27 28), (0, u "setWeight"), (0, u "(IJ)V"), (0, .methodref 9 30), (0, .nameAndType 31 32), (0, u "price"), (0, u "(I)J"), (0, .methodref 9 34), (0, .nameAndType 35 36), (0, u "holder"), (0, u "(I)I"), (0, .methodref 38 39), (0, .class_ 40), (0, .nameAndType 41 42), (0, u "java/lang/Math"), (0, u "min"), (0, u "(JJ)J"), (0, .class_ 44), (0, u "com/example/gavel/gavel/UnitDemandMarketResetPricePinLaw"), (2, u "law"), (0, u "(JJJI)Z")] 7

def k1m0 : Method := { name := "<init>", desc := "()V", sig := { parameters := [], returnType := none }, accessFlags := 1, code := none }
def k1c1 : Code := { maxStack := 6, maxLocals := 23, code := code, exceptionTable := #[], attributes := #[] }
def k1m1 : Method := { name := "law", desc := "(JJJI)Z", sig := { parameters := [.long, .long, .long, .int], returnType := some .boolean }, accessFlags := 9, code := some k1c1 }
/-- com/example/gavel/gavel/UnitDemandMarketResetPricePinLaw -/
def k1 : Class := { plain "com/example/gavel/gavel/UnitDemandMarketResetPricePinLaw" (some 0) with
  accessFlags := 49
  interfaces := #[]
  cf := some (fileOf pool1 43 #[] #[{ accessFlags := 1, nameIndex := 5, descriptorIndex := 6, attributes := #[] }, { accessFlags := 9, nameIndex := 47, descriptorIndex := 48, attributes := #[] }] 49 2 #[] #[])
  fields := #[]
  methods := #[k1m0, k1m1]
  instanceTypes := #[]
  staticTypes := #[]
  resolved := Array.replicate 56 none
  statics := none }

def pool2 : Array CpInfo := pool [(1, .methodref 2 3), (0, .class_ 4), (0, .nameAndType 5 6), (0, u "java/lang/Object"), (0, u "<init>"), (0, u "()V"), (0, .class_ 8), (0, u "com/example/gavel/gavel/UnitDemandMarket"), (0, .fieldref 7 10), (0, .nameAndType 11 12), (0, u "displaced"), (0, u "I"), (0, .fieldref 7 14), (0, .nameAndType 15 16), (0, u "offerStart"), (0, u "[I"), (0, .fieldref 7 18), (0, .nameAndType 19 16), (0, u "offerItem"), (0, .fieldref 7 21), (0, .nameAndType 22 23), (0, u "offerWeight"), (0, u "[J"), (0, .fieldref 7 25), (0, .nameAndType 26 23), (0, u "priceMoney"), (0, .fieldref 7 28), (0, .nameAndType 29 23), (0, u "priceSales"), (0, .fieldref 7 31), (0, .nameAndType 32 16), (0, u "holder"), (0, .methodref 34 35), (0, .class_ 36), (0, .nameAndType 37 38), (0, u "java/util/Arrays"), (0, u "fill"), (0, u "([II)V"), (0, .fieldref 7 40), (0, .nameAndType 41 23), (0, u "utilityMoney"), (0, .fieldref 7 43), (0, .nameAndType 44 23), (0, u "utilitySales"), (0, .fieldref 7 46), (0, .nameAndType 47 16), (0, u "held"), (0, .fieldref 7 49), (0, .nameAndType 50 23), (0, u "distMoney"), (0, .fieldref 7 52), (0, .nameAndType 53 23), (0, u "distSales"), (0, .fieldref 7 55), (0, .nameAndType 56 16), (0, u "hops"), (0, .fieldref 7 58), (0, .nameAndType 59 16), (0, u "pred"), (0, .fieldref 7 61), (0, .nameAndType 62 16), (0, u "predOffer"), (0, .fieldref 7 64), (0, .nameAndType 65 66), (0, u "mark"), (0, u "[B"), (0, .fieldref 7 68), (0, .nameAndType 69 16), (0, u "heap"), (0, .fieldref 7 71), (0, .nameAndType 72 16), (0, u "heapIndex"), (0, .fieldref 7 74), (0, .nameAndType 75 16), (0, u "touched"), (0, .fieldref 7 77), (0, .nameAndType 78 79), (0, u "changed"), (0, u "[Z"), (0, .fieldref 7 81), (0, .nameAndType 82 16), (0, u "changedItems"), (0, .methodref 84 85), (0, .class_ 86), (0, .nameAndType 87 88), (0, u "com/example/gavel/gavel/Money"), (0, u "addCents"), (0, u "(JJ)J"), (0, .fieldref 7 90), (0, .nameAndType 91 12), (0, u "searches"), (10, .methodref 103 104), (0, .class_ 105), (0, .nameAndType 106 88), (0, u "java/lang/Math"), (0, u "subtractExact"), (0, .methodref 7 108), (0, .nameAndType 109 110), (0, u "compare"), (0, u "(JJJJ)I"), (7, .fieldref 7 119), (0, .nameAndType 120 12), (0, u "changedCount"), (4, .methodref 7 126), (0, .nameAndType 127 128), (0, u "search"), (0, u "(IJJ)V"), (0, .methodref 7 130), (0, .nameAndType 131 128), (0, u "raisePrices"), (0, .methodref 7 133), (0, .nameAndType 134 135), (0, u "handOver"), (0, u "(I)V"), (0, .fieldref 7 137), (0, .nameAndType 138 12), (0, u "touchedCount"), (0, .fieldref 7 140), (0, .nameAndType 141 12), (0, u "heapSize"), (0, .fieldref 7 143), (0, .nameAndType 144 145), (0, u "sinkMoney"), (0, u "J"), (0, .fieldref 7 147), (0, .nameAndType 148 145), (0, u "sinkSales"), (0, .fieldref 7 150), (0, .nameAndType 151 12), (0, u "sinkMoves"), (0, .fieldref 7 153), (0, .nameAndType 154 12), (0, u "sinkEnd"), (0, .fieldref 7 156), (0, .nameAndType 157 158), (0, u "sinkGoesWithout"), (0, u "Z"), (0, .methodref 7 160), (0, .nameAndType 161 162), (0, u "label"), (0, u "(IJJIII)V"), (0, .methodref 7 164), (0, .nameAndType 165 166), (0, u "compareSink"), (0, u "(JJI)I"), (0, .methodref 7 168), (0, .nameAndType 169 6), (0, u "pop"), (0, .methodref 7 171), (0, .nameAndType 172 173), (0, u "considerSink"), (0, u "(JJIIZ)V"), (0, .methodref 7 175), (0, .nameAndType 176 162), (0, u "setLabel"), (0, .methodref 7 178), (0, .nameAndType 179 180), (0, u "siftUp"), (0, u "(II)V"), (0, .methodref 182 183), (0, .class_ 184), (0, .nameAndType 109 185), (0, u "java/lang/Integer"), (0, u "(II)I"), (4, .methodref 7 191), (0, .nameAndType 192 135), (0, u "markChanged"), (0, .methodref 103 194), (0, .nameAndType 195 88), (0, u "addExact"), (6, .methodref 7 203), (0, .nameAndType 204 180), (0, u "place"), (0, .methodref 206 207), (0, .class_ 208), (0, .nameAndType 109 209), (0, u "java/lang/Long"), (0, u "(JJ)I"), (0, u "NONE"), (2, u "UNSEEN"), (0, u "B"), (1, u "QUEUED"), (1, u "SETTLED"), (1, u "(I[I[I[J)V"), (2, u "(I)I"), (0, u "price"), (0, u "(I)J"), (6, u "assign"), (1, u "setWeight"), (0, u "(IJ)V"), (0, u "resetPrice"), (2, u "join")] 23

def k2c0 : Code := { maxStack := 2, maxLocals := 6, code := prog_54_method_1_code, exceptionTable := #[], attributes := #[] }
def k2m0 : Method := { name := "<init>", desc := "(I[I[I[J)V", sig := { parameters := [.int, (.array .int), (.array .int), (.array .long)], returnType := none }, accessFlags := 0, code := some k2c0 }
def k2c1 : Code := { maxStack := 2, maxLocals := 2, code := prog_54_method_2_code, exceptionTable := #[], attributes := #[] }
def k2m1 : Method := { name := "holder", desc := "(I)I", sig := { parameters := [.int], returnType := some .int }, accessFlags := 0, code := some k2c1 }
def k2c2 : Code := { maxStack := 2, maxLocals := 2, code := prog_54_method_3_code, exceptionTable := #[], attributes := #[] }
def k2m2 : Method := { name := "price", desc := "(I)J", sig := { parameters := [.int], returnType := some .long }, accessFlags := 0, code := some k2c2 }
def k2c3 : Code := { maxStack := 8, maxLocals := 12, code := prog_54_method_8_code, exceptionTable := #[], attributes := #[] }
def k2m3 : Method := { name := "assign", desc := "(II)V", sig := { parameters := [.int, .int], returnType := none }, accessFlags := 0, code := some k2c3 }
def k2c4 : Code := { maxStack := 4, maxLocals := 4, code := prog_54_method_10_code, exceptionTable := #[], attributes := #[] }
def k2m4 : Method := { name := "setWeight", desc := "(IJ)V", sig := { parameters := [.int, .long], returnType := none }, accessFlags := 0, code := some k2c4 }
def k2c5 : Code := { maxStack := 6, maxLocals := 3, code := prog_54_method_11_code, exceptionTable := #[], attributes := #[] }
def k2m5 : Method := { name := "resetPrice", desc := "(I)V", sig := { parameters := [.int], returnType := none }, accessFlags := 0, code := some k2c5 }
def k2c6 : Code := { maxStack := 5, maxLocals := 2, code := prog_54_method_13_code, exceptionTable := #[], attributes := #[] }
def k2m6 : Method := { name := "markChanged", desc := "(I)V", sig := { parameters := [.int], returnType := none }, accessFlags := 2, code := some k2c6 }
def k2c7 : Code := { maxStack := 8, maxLocals := 12, code := prog_54_method_14_code, exceptionTable := #[], attributes := #[] }
def k2m7 : Method := { name := "join", desc := "(I)V", sig := { parameters := [.int], returnType := none }, accessFlags := 0, code := some k2c7 }
def k2c8 : Code := { maxStack := 9, maxLocals := 18, code := prog_54_method_15_code, exceptionTable := #[], attributes := #[] }
def k2m8 : Method := { name := "search", desc := "(IJJ)V", sig := { parameters := [.int, .long, .long], returnType := none }, accessFlags := 2, code := some k2c8 }
def k2c9 : Code := { maxStack := 9, maxLocals := 10, code := prog_54_method_16_code, exceptionTable := #[], attributes := #[] }
def k2m9 : Method := { name := "label", desc := "(IJJIII)V", sig := { parameters := [.int, .long, .long, .int, .int, .int], returnType := none }, accessFlags := 2, code := some k2c9 }
def k2c10 : Code := { maxStack := 4, maxLocals := 9, code := prog_54_method_17_code, exceptionTable := #[], attributes := #[] }
def k2m10 : Method := { name := "setLabel", desc := "(IJJIII)V", sig := { parameters := [.int, .long, .long, .int, .int, .int], returnType := none }, accessFlags := 2, code := some k2c10 }
def k2c11 : Code := { maxStack := 8, maxLocals := 7, code := prog_54_method_18_code, exceptionTable := #[], attributes := #[] }
def k2m11 : Method := { name := "compareSink", desc := "(JJI)I", sig := { parameters := [.long, .long, .int], returnType := some .int }, accessFlags := 2, code := some k2c11 }
def k2c12 : Code := { maxStack := 6, maxLocals := 9, code := prog_54_method_19_code, exceptionTable := #[], attributes := #[] }
def k2m12 : Method := { name := "considerSink", desc := "(JJIIZ)V", sig := { parameters := [.long, .long, .int, .int, .boolean], returnType := none }, accessFlags := 2, code := some k2c12 }
def k2c13 : Code := { maxStack := 6, maxLocals := 13, code := prog_54_method_21_code, exceptionTable := #[], attributes := #[] }
def k2m13 : Method := { name := "raisePrices", desc := "(IJJ)V", sig := { parameters := [.int, .long, .long], returnType := none }, accessFlags := 2, code := some k2c13 }
def k2c14 : Code := { maxStack := 4, maxLocals := 5, code := prog_54_method_22_code, exceptionTable := #[], attributes := #[] }
def k2m14 : Method := { name := "handOver", desc := "(I)V", sig := { parameters := [.int], returnType := none }, accessFlags := 2, code := some k2c14 }
def k2c15 : Code := { maxStack := 3, maxLocals := 1, code := prog_54_method_23_code, exceptionTable := #[], attributes := #[] }
def k2m15 : Method := { name := "pop", desc := "()V", sig := { parameters := [], returnType := none }, accessFlags := 2, code := some k2c15 }
def k2c16 : Code := { maxStack := 4, maxLocals := 4, code := prog_54_method_24_code, exceptionTable := #[], attributes := #[] }
def k2m16 : Method := { name := "siftUp", desc := "(II)V", sig := { parameters := [.int, .int], returnType := none }, accessFlags := 2, code := some k2c16 }
def k2c17 : Code := { maxStack := 3, maxLocals := 3, code := prog_54_method_26_code, exceptionTable := #[], attributes := #[] }
def k2m17 : Method := { name := "place", desc := "(II)V", sig := { parameters := [.int, .int], returnType := none }, accessFlags := 2, code := some k2c17 }
def k2c18 : Code := { maxStack := 4, maxLocals := 9, code := prog_54_method_28_code, exceptionTable := #[], attributes := #[] }
def k2m18 : Method := { name := "compare", desc := "(JJJJ)I", sig := { parameters := [.long, .long, .long, .long], returnType := some .int }, accessFlags := 10, code := some k2c18 }
/-- com/example/gavel/gavel/UnitDemandMarket -/
def k2 : Class := { plain "com/example/gavel/gavel/UnitDemandMarket" (some 0) with
  accessFlags := 48
  interfaces := #[]
  cf := some (fileOf pool2 7 #[] #[{ accessFlags := 0, nameIndex := 5, descriptorIndex := 220, attributes := #[] }, { accessFlags := 0, nameIndex := 32, descriptorIndex := 223, attributes := #[] }, { accessFlags := 0, nameIndex := 224, descriptorIndex := 225, attributes := #[] }, { accessFlags := 0, nameIndex := 232, descriptorIndex := 180, attributes := #[] }, { accessFlags := 0, nameIndex := 234, descriptorIndex := 235, attributes := #[] }, { accessFlags := 0, nameIndex := 236, descriptorIndex := 135, attributes := #[] }, { accessFlags := 2, nameIndex := 192, descriptorIndex := 135, attributes := #[] }, { accessFlags := 0, nameIndex := 239, descriptorIndex := 135, attributes := #[] }, { accessFlags := 2, nameIndex := 127, descriptorIndex := 128, attributes := #[] }, { accessFlags := 2, nameIndex := 161, descriptorIndex := 162, attributes := #[] }, { accessFlags := 2, nameIndex := 176, descriptorIndex := 162, attributes := #[] }, { accessFlags := 2, nameIndex := 165, descriptorIndex := 166, attributes := #[] }, { accessFlags := 2, nameIndex := 172, descriptorIndex := 173, attributes := #[] }, { accessFlags := 2, nameIndex := 131, descriptorIndex := 128, attributes := #[] }, { accessFlags := 2, nameIndex := 134, descriptorIndex := 135, attributes := #[] }, { accessFlags := 2, nameIndex := 169, descriptorIndex := 6, attributes := #[] }, { accessFlags := 2, nameIndex := 179, descriptorIndex := 180, attributes := #[] }, { accessFlags := 2, nameIndex := 204, descriptorIndex := 180, attributes := #[] }, { accessFlags := 10, nameIndex := 109, descriptorIndex := 110, attributes := #[] }] 48 2 #[] #[{ accessFlags := 26, nameIndex := 210, descriptorIndex := 12, attributes := #[] }, { accessFlags := 26, nameIndex := 213, descriptorIndex := 214, attributes := #[] }, { accessFlags := 26, nameIndex := 216, descriptorIndex := 214, attributes := #[] }, { accessFlags := 26, nameIndex := 218, descriptorIndex := 214, attributes := #[] }, { accessFlags := 18, nameIndex := 15, descriptorIndex := 16, attributes := #[] }, { accessFlags := 18, nameIndex := 19, descriptorIndex := 16, attributes := #[] }, { accessFlags := 18, nameIndex := 22, descriptorIndex := 23, attributes := #[] }, { accessFlags := 18, nameIndex := 26, descriptorIndex := 23, attributes := #[] }, { accessFlags := 18, nameIndex := 29, descriptorIndex := 23, attributes := #[] }, { accessFlags := 18, nameIndex := 32, descriptorIndex := 16, attributes := #[] }, { accessFlags := 18, nameIndex := 41, descriptorIndex := 23, attributes := #[] }, { accessFlags := 18, nameIndex := 44, descriptorIndex := 23, attributes := #[] }, { accessFlags := 18, nameIndex := 47, descriptorIndex := 16, attributes := #[] }, { accessFlags := 18, nameIndex := 50, descriptorIndex := 23, attributes := #[] }, { accessFlags := 18, nameIndex := 53, descriptorIndex := 23, attributes := #[] }, { accessFlags := 18, nameIndex := 56, descriptorIndex := 16, attributes := #[] }, { accessFlags := 18, nameIndex := 59, descriptorIndex := 16, attributes := #[] }, { accessFlags := 18, nameIndex := 62, descriptorIndex := 16, attributes := #[] }, { accessFlags := 18, nameIndex := 65, descriptorIndex := 66, attributes := #[] }, { accessFlags := 18, nameIndex := 69, descriptorIndex := 16, attributes := #[] }, { accessFlags := 18, nameIndex := 72, descriptorIndex := 16, attributes := #[] }, { accessFlags := 2, nameIndex := 141, descriptorIndex := 12, attributes := #[] }, { accessFlags := 18, nameIndex := 75, descriptorIndex := 16, attributes := #[] }, { accessFlags := 2, nameIndex := 138, descriptorIndex := 12, attributes := #[] }, { accessFlags := 2, nameIndex := 144, descriptorIndex := 145, attributes := #[] }, { accessFlags := 2, nameIndex := 148, descriptorIndex := 145, attributes := #[] }, { accessFlags := 2, nameIndex := 151, descriptorIndex := 12, attributes := #[] }, { accessFlags := 2, nameIndex := 154, descriptorIndex := 12, attributes := #[] }, { accessFlags := 2, nameIndex := 157, descriptorIndex := 158, attributes := #[] }, { accessFlags := 2, nameIndex := 91, descriptorIndex := 12, attributes := #[] }, { accessFlags := 2, nameIndex := 11, descriptorIndex := 12, attributes := #[] }, { accessFlags := 18, nameIndex := 78, descriptorIndex := 79, attributes := #[] }, { accessFlags := 18, nameIndex := 82, descriptorIndex := 16, attributes := #[] }, { accessFlags := 2, nameIndex := 120, descriptorIndex := 12, attributes := #[] }])
  fields := #[{ name := "NONE", type := .int, accessFlags := 26, slot := 0, constantValue := 0 }, { name := "UNSEEN", type := .byte, accessFlags := 26, slot := 1, constantValue := 0 }, { name := "QUEUED", type := .byte, accessFlags := 26, slot := 2, constantValue := 0 }, { name := "SETTLED", type := .byte, accessFlags := 26, slot := 3, constantValue := 0 }, { name := "offerStart", type := (.array .int), accessFlags := 18, slot := 0, constantValue := 0 }, { name := "offerItem", type := (.array .int), accessFlags := 18, slot := 1, constantValue := 0 }, { name := "offerWeight", type := (.array .long), accessFlags := 18, slot := 2, constantValue := 0 }, { name := "priceMoney", type := (.array .long), accessFlags := 18, slot := 3, constantValue := 0 }, { name := "priceSales", type := (.array .long), accessFlags := 18, slot := 4, constantValue := 0 }, { name := "holder", type := (.array .int), accessFlags := 18, slot := 5, constantValue := 0 }, { name := "utilityMoney", type := (.array .long), accessFlags := 18, slot := 6, constantValue := 0 }, { name := "utilitySales", type := (.array .long), accessFlags := 18, slot := 7, constantValue := 0 }, { name := "held", type := (.array .int), accessFlags := 18, slot := 8, constantValue := 0 }, { name := "distMoney", type := (.array .long), accessFlags := 18, slot := 9, constantValue := 0 }, { name := "distSales", type := (.array .long), accessFlags := 18, slot := 10, constantValue := 0 }, { name := "hops", type := (.array .int), accessFlags := 18, slot := 11, constantValue := 0 }, { name := "pred", type := (.array .int), accessFlags := 18, slot := 12, constantValue := 0 }, { name := "predOffer", type := (.array .int), accessFlags := 18, slot := 13, constantValue := 0 }, { name := "mark", type := (.array .byte), accessFlags := 18, slot := 14, constantValue := 0 }, { name := "heap", type := (.array .int), accessFlags := 18, slot := 15, constantValue := 0 }, { name := "heapIndex", type := (.array .int), accessFlags := 18, slot := 16, constantValue := 0 }, { name := "heapSize", type := .int, accessFlags := 2, slot := 17, constantValue := 0 }, { name := "touched", type := (.array .int), accessFlags := 18, slot := 18, constantValue := 0 }, { name := "touchedCount", type := .int, accessFlags := 2, slot := 19, constantValue := 0 }, { name := "sinkMoney", type := .long, accessFlags := 2, slot := 20, constantValue := 0 }, { name := "sinkSales", type := .long, accessFlags := 2, slot := 21, constantValue := 0 }, { name := "sinkMoves", type := .int, accessFlags := 2, slot := 22, constantValue := 0 }, { name := "sinkEnd", type := .int, accessFlags := 2, slot := 23, constantValue := 0 }, { name := "sinkGoesWithout", type := .boolean, accessFlags := 2, slot := 24, constantValue := 0 }, { name := "searches", type := .int, accessFlags := 2, slot := 25, constantValue := 0 }, { name := "displaced", type := .int, accessFlags := 2, slot := 26, constantValue := 0 }, { name := "changed", type := (.array .boolean), accessFlags := 18, slot := 27, constantValue := 0 }, { name := "changedItems", type := (.array .int), accessFlags := 18, slot := 28, constantValue := 0 }, { name := "changedCount", type := .int, accessFlags := 2, slot := 29, constantValue := 0 }]
  methods := #[k2m0, k2m1, k2m2, k2m3, k2m4, k2m5, k2m6, k2m7, k2m8, k2m9, k2m10, k2m11, k2m12, k2m13, k2m14, k2m15, k2m16, k2m17, k2m18]
  instanceTypes := #[(.array .int), (.array .int), (.array .long), (.array .long), (.array .long), (.array .int), (.array .long), (.array .long), (.array .int), (.array .long), (.array .long), (.array .int), (.array .int), (.array .int), (.array .byte), (.array .int), (.array .int), .int, (.array .int), .int, .long, .long, .int, .int, .boolean, .int, .int, (.array .boolean), (.array .int), .int]
  staticTypes := #[.int, .byte, .byte, .byte]
  resolved := Array.replicate 263 none
  statics := none }

def pool3 : Array CpInfo := pool [(2, .class_ 4), (1, u "java/lang/Object"), (0, u "<init>"), (0, u "()V"), (7, .class_ 16), (1, u "java/util/Arrays"), (57, .class_ 76), (1, u "java/util/Arrays$NaturalOrder"), (36, .class_ 115), (1, u "java/util/Arrays$LegacyMergeSort"), (1, u "Z"), (257, .class_ 376), (0, u "java/util/Arrays$ArrayList"), (68, u "$assertionsDisabled"), (269, u "MIN_ARRAY_SORT_GRAN"), (0, u "I"), (2, u "INSERTIONSORT_THRESHOLD"), (120, u "fill"), (4, u "([II)V"), (129, .class_ 976), (0, u "java/util/Arrays$ArrayItr")] 52

def k3m0 : Method := { name := "<init>", desc := "()V", sig := { parameters := [], returnType := none }, accessFlags := 2, code := none }
def k3c1 : Code := { maxStack := 3, maxLocals := 4, code := jdk_65_method_103_code, exceptionTable := #[], attributes := #[] }
def k3m1 : Method := { name := "fill", desc := "([II)V", sig := { parameters := [(.array .int), .int], returnType := none }, accessFlags := 9, code := some k3c1 }
/-- java/util/Arrays -/
def k3 : Class := { plain "java/util/Arrays" (some 0) with
  accessFlags := 49
  interfaces := #[]
  cf := some (fileOf pool3 14 #[.nestMembers #[975, 375, 113, 74]] #[{ accessFlags := 2, nameIndex := 5, descriptorIndex := 6, attributes := #[] }, { accessFlags := 9, nameIndex := 840, descriptorIndex := 845, attributes := #[] }] 49 2 #[] #[{ accessFlags := 26, nameIndex := 715, descriptorIndex := 716, attributes := #[] }, { accessFlags := 26, nameIndex := 719, descriptorIndex := 716, attributes := #[] }, { accessFlags := 4120, nameIndex := 445, descriptorIndex := 117, attributes := #[] }])
  fields := #[{ name := "MIN_ARRAY_SORT_GRAN", type := .int, accessFlags := 26, slot := 0, constantValue := 0 }, { name := "INSERTIONSORT_THRESHOLD", type := .int, accessFlags := 26, slot := 1, constantValue := 0 }, { name := "$assertionsDisabled", type := .boolean, accessFlags := 4120, slot := 2, constantValue := 0 }]
  methods := #[k3m0, k3m1]
  instanceTypes := #[]
  staticTypes := #[.int, .int, .boolean]
  resolved := Array.replicate 1029 none
  statics := none }

def pool4 : Array CpInfo := pool [(1, .class_ 2), (0, u "java/lang/Math"), (1, .class_ 6), (1, u "java/lang/Object"), (0, u "<init>"), (0, u "()V"), (89, .class_ 100), (1, u "java/lang/Math$RandomNumberGeneratorHolder"), (20, u "(JJ)J"), (50, u "negativeZeroFloatBits"), (0, u "J"), (2, u "negativeZeroDoubleBits"), (24, u "min"), (43, u "$assertionsDisabled"), (0, u "Z"), (91, u "twoToTheDoubleScaleDown"), (0, u "D"), (4, u "twoToTheDoubleScaleUp"), (9, u "E"), (3, u "PI"), (2, u "TAU"), (2, u "DEGREES_TO_RADIANS"), (0, u "RADIANS_TO_DEGREES"), (27, u "addExact"), (0, u "subtractExact")] 65

def k4m0 : Method := { name := "<init>", desc := "()V", sig := { parameters := [], returnType := none }, accessFlags := 2, code := none }
def k4c1 : Code := { maxStack := 6, maxLocals := 6, code := jdk_29_method_25_code, exceptionTable := #[], attributes := #[] }
def k4m1 : Method := { name := "addExact", desc := "(JJ)J", sig := { parameters := [.long, .long], returnType := some .long }, accessFlags := 9, code := some k4c1 }
def k4c2 : Code := { maxStack := 6, maxLocals := 6, code := jdk_29_method_27_code, exceptionTable := #[], attributes := #[] }
def k4m2 : Method := { name := "subtractExact", desc := "(JJ)J", sig := { parameters := [.long, .long], returnType := some .long }, accessFlags := 9, code := some k4c2 }
def k4c3 : Code := { maxStack := 4, maxLocals := 4, code := jdk_29_method_70_code, exceptionTable := #[], attributes := #[] }
def k4m3 : Method := { name := "min", desc := "(JJ)J", sig := { parameters := [.long, .long], returnType := some .long }, accessFlags := 9, code := some k4c3 }
/-- java/lang/Math -/
def k4 : Class := { plain "java/lang/Math" (some 0) with
  accessFlags := 49
  interfaces := #[]
  cf := some (fileOf pool4 1 #[.nestMembers #[98]] #[{ accessFlags := 2, nameIndex := 7, descriptorIndex := 8, attributes := #[] }, { accessFlags := 9, nameIndex := 393, descriptorIndex := 121, attributes := #[] }, { accessFlags := 9, nameIndex := 394, descriptorIndex := 121, attributes := #[] }, { accessFlags := 9, nameIndex := 201, descriptorIndex := 121, attributes := #[] }] 49 4 #[] #[{ accessFlags := 25, nameIndex := 354, descriptorIndex := 339, attributes := #[] }, { accessFlags := 25, nameIndex := 358, descriptorIndex := 339, attributes := #[] }, { accessFlags := 25, nameIndex := 361, descriptorIndex := 339, attributes := #[] }, { accessFlags := 26, nameIndex := 364, descriptorIndex := 339, attributes := #[] }, { accessFlags := 26, nameIndex := 365, descriptorIndex := 339, attributes := #[] }, { accessFlags := 26, nameIndex := 172, descriptorIndex := 173, attributes := #[] }, { accessFlags := 26, nameIndex := 176, descriptorIndex := 173, attributes := #[] }, { accessFlags := 8, nameIndex := 344, descriptorIndex := 339, attributes := #[] }, { accessFlags := 8, nameIndex := 338, descriptorIndex := 339, attributes := #[] }, { accessFlags := 4120, nameIndex := 245, descriptorIndex := 246, attributes := #[] }])
  fields := #[{ name := "E", type := .double, accessFlags := 25, slot := 0, constantValue := 0 }, { name := "PI", type := .double, accessFlags := 25, slot := 1, constantValue := 0 }, { name := "TAU", type := .double, accessFlags := 25, slot := 2, constantValue := 0 }, { name := "DEGREES_TO_RADIANS", type := .double, accessFlags := 26, slot := 3, constantValue := 0 }, { name := "RADIANS_TO_DEGREES", type := .double, accessFlags := 26, slot := 4, constantValue := 0 }, { name := "negativeZeroFloatBits", type := .long, accessFlags := 26, slot := 5, constantValue := 0 }, { name := "negativeZeroDoubleBits", type := .long, accessFlags := 26, slot := 6, constantValue := 0 }, { name := "twoToTheDoubleScaleUp", type := .double, accessFlags := 8, slot := 7, constantValue := 0 }, { name := "twoToTheDoubleScaleDown", type := .double, accessFlags := 8, slot := 8, constantValue := 0 }, { name := "$assertionsDisabled", type := .boolean, accessFlags := 4120, slot := 9, constantValue := 0 }]
  methods := #[k4m0, k4m1, k4m2, k4m3]
  instanceTypes := #[]
  staticTypes := #[.double, .double, .double, .double, .double, .long, .long, .double, .double, .boolean]
  resolved := Array.replicate 460 none
  statics := none }

def pool5 : Array CpInfo := pool [(1, .class_ 2), (0, u "java/io/Serializable"), (0, .class_ 4), (0, u "java/lang/Object")] 2

/-- java/io/Serializable -/
def k5 : Class := { plain "java/io/Serializable" (some 0) with
  accessFlags := 1537
  interfaces := #[]
  cf := some (fileOf pool5 1 #[] #[] 1537 3 #[] #[])
  fields := #[]
  methods := #[]
  instanceTypes := #[]
  staticTypes := #[]
  resolved := Array.replicate 7 none
  statics := none }

def pool6 : Array CpInfo := pool [(2, .class_ 4), (1, u "java/lang/Object"), (0, u "<init>"), (0, u "()V"), (1, .class_ 10), (1, u "java/lang/Number"), (2, .class_ 14), (0, u "java/io/Serializable"), (0, u "serialVersionUID"), (0, u "J")] 20

def k6m0 : Method := { name := "<init>", desc := "()V", sig := { parameters := [], returnType := none }, accessFlags := 1, code := none }
/-- java/lang/Number -/
def k6 : Class := { plain "java/lang/Number" (some 0) with
  accessFlags := 1057
  interfaces := #[5]
  cf := some (fileOf pool6 8 #[] #[{ accessFlags := 1, nameIndex := 5, descriptorIndex := 6, attributes := #[] }] 1057 2 #[13] #[{ accessFlags := 26, nameIndex := 15, descriptorIndex := 16, attributes := #[] }])
  fields := #[{ name := "serialVersionUID", type := .long, accessFlags := 26, slot := 0, constantValue := 0 }]
  methods := #[k6m0]
  instanceTypes := #[]
  staticTypes := #[.long]
  resolved := Array.replicate 37 none
  statics := none }

def pool7 : Array CpInfo := pool [(1, .class_ 2), (0, u "java/lang/Comparable"), (0, .class_ 4), (0, u "java/lang/Object")] 7

/-- java/lang/Comparable -/
def k7 : Class := { plain "java/lang/Comparable" (some 0) with
  accessFlags := 1537
  interfaces := #[]
  cf := some (fileOf pool7 1 #[] #[] 1537 3 #[] #[])
  fields := #[]
  methods := #[]
  instanceTypes := #[]
  staticTypes := #[]
  resolved := Array.replicate 12 none
  statics := none }

def pool8 : Array CpInfo := pool [(1, .class_ 2), (0, u "java/lang/constant/Constable"), (0, .class_ 4), (0, u "java/lang/Object")] 6

/-- java/lang/constant/Constable -/
def k8 : Class := { plain "java/lang/constant/Constable" (some 0) with
  accessFlags := 1537
  interfaces := #[]
  cf := some (fileOf pool8 1 #[] #[] 1537 3 #[] #[])
  fields := #[]
  methods := #[]
  instanceTypes := #[]
  staticTypes := #[]
  resolved := Array.replicate 11 none
  statics := none }

def pool9 : Array CpInfo := pool [(1, .class_ 2), (0, u "java/lang/constant/ConstantDesc"), (0, .class_ 4), (0, u "java/lang/Object")] 32

/-- java/lang/constant/ConstantDesc -/
def k9 : Class := { plain "java/lang/constant/ConstantDesc" (some 0) with
  accessFlags := 1537
  interfaces := #[]
  cf := some (fileOf pool9 1 #[] #[] 1537 3 #[] #[])
  fields := #[]
  methods := #[]
  instanceTypes := #[]
  staticTypes := #[]
  resolved := Array.replicate 37 none
  statics := none }

def pool10 : Array CpInfo := pool [(1, .class_ 2), (0, u "java/lang/Long"), (232, .class_ 237), (1, u "java/lang/Long$LongCache"), (33, .class_ 272), (0, u "java/lang/Number"), (2, u "value"), (0, u "J"), (27, u "compare"), (0, u "(JJ)I"), (55, u "TYPE"), (0, u "Ljava/lang/Class;"), (0, .class_ 364), (0, u "java/lang/Comparable"), (0, .class_ 366), (0, u "java/lang/constant/Constable"), (0, .class_ 368), (0, u "java/lang/constant/ConstantDesc"), (0, u "MIN_VALUE"), (1, u "MAX_VALUE"), (4, u "SIZE"), (0, u "I"), (1, u "BYTES"), (1, u "serialVersionUID")] 142

def k10c0 : Code := { maxStack := 4, maxLocals := 4, code := jdk_35_method_42_code, exceptionTable := #[], attributes := #[] }
def k10m0 : Method := { name := "compare", desc := "(JJ)I", sig := { parameters := [.long, .long], returnType := some .int }, accessFlags := 9, code := some k10c0 }
/-- java/lang/Long -/
def k10 : Class := { plain "java/lang/Long" (some 6) with
  accessFlags := 49
  interfaces := #[7, 8, 9]
  cf := some (fileOf pool10 1 #[.nestMembers #[235]] #[{ accessFlags := 9, nameIndex := 304, descriptorIndex := 305, attributes := #[] }] 49 271 #[363, 365, 367] #[{ accessFlags := 25, nameIndex := 369, descriptorIndex := 276, attributes := #[] }, { accessFlags := 25, nameIndex := 371, descriptorIndex := 276, attributes := #[] }, { accessFlags := 25, nameIndex := 361, descriptorIndex := 362, attributes := #[] }, { accessFlags := 18, nameIndex := 275, descriptorIndex := 276, attributes := #[] }, { accessFlags := 25, nameIndex := 376, descriptorIndex := 377, attributes := #[] }, { accessFlags := 25, nameIndex := 379, descriptorIndex := 377, attributes := #[] }, { accessFlags := 26, nameIndex := 381, descriptorIndex := 276, attributes := #[] }])
  fields := #[{ name := "MIN_VALUE", type := .long, accessFlags := 25, slot := 0, constantValue := 0 }, { name := "MAX_VALUE", type := .long, accessFlags := 25, slot := 1, constantValue := 0 }, { name := "TYPE", type := (.object "java/lang/Class"), accessFlags := 25, slot := 2, constantValue := 0 }, { name := "value", type := .long, accessFlags := 18, slot := 0, constantValue := 0 }, { name := "SIZE", type := .int, accessFlags := 25, slot := 3, constantValue := 0 }, { name := "BYTES", type := .int, accessFlags := 25, slot := 4, constantValue := 0 }, { name := "serialVersionUID", type := .long, accessFlags := 26, slot := 5, constantValue := 0 }]
  methods := #[k10m0]
  instanceTypes := #[.long]
  staticTypes := #[.long, .long, (.object "java/lang/Class"), .int, .int, .long]
  resolved := Array.replicate 524 none
  statics := none }

def pool11 : Array CpInfo := pool [(2, .class_ 4), (1, u "java/lang/Object"), (0, u "<init>"), (0, u "()V"), (0, .class_ 8), (0, u "java/lang/Record")] 13

def k11m0 : Method := { name := "<init>", desc := "()V", sig := { parameters := [], returnType := none }, accessFlags := 4, code := none }
/-- java/lang/Record -/
def k11 : Class := { plain "java/lang/Record" (some 0) with
  accessFlags := 1057
  interfaces := #[]
  cf := some (fileOf pool11 7 #[] #[{ accessFlags := 4, nameIndex := 5, descriptorIndex := 6, attributes := #[] }] 1057 2 #[] #[])
  fields := #[]
  methods := #[k11m0]
  instanceTypes := #[]
  staticTypes := #[]
  resolved := Array.replicate 22 none
  statics := none }

def pool12 : Array CpInfo := pool [(2, .class_ 4), (1, u "java/lang/Record"), (3, .class_ 10), (1, u "com/example/gavel/gavel/Money"), (0, u "cents"), (0, u "J"), (34, .class_ 49), (1, u "java/lang/Math"), (6, .methodref 47 57), (0, .nameAndType 58 59), (0, u "addExact"), (0, u "(JJ)J"), (11, u "addCents"), (45, u "ZERO"), (0, u "Lcom/example/gavel/gavel/Money;"), (0, .class_ 120), (0, u "java/lang/Comparable")] 54

def k12c0 : Code := { maxStack := 4, maxLocals := 5, code := prog_35_method_4_code, exceptionTable := #[{ startPc := 0, endPc := 5, handlerPc := 6, catchType := 60 }], attributes := #[] }
def k12m0 : Method := { name := "addCents", desc := "(JJ)J", sig := { parameters := [.long, .long], returnType := some .long }, accessFlags := 8, code := some k12c0 }
/-- com/example/gavel/gavel/Money -/
def k12 : Class := { plain "com/example/gavel/gavel/Money" (some 11) with
  accessFlags := 49
  interfaces := #[7]
  cf := some (fileOf pool12 8 #[] #[{ accessFlags := 8, nameIndex := 71, descriptorIndex := 59, attributes := #[] }] 49 2 #[119] #[{ accessFlags := 18, nameIndex := 11, descriptorIndex := 12, attributes := #[] }, { accessFlags := 25, nameIndex := 117, descriptorIndex := 118, attributes := #[] }])
  fields := #[{ name := "cents", type := .long, accessFlags := 18, slot := 0, constantValue := 0 }, { name := "ZERO", type := (.object "com/example/gavel/gavel/Money"), accessFlags := 25, slot := 0, constantValue := 0 }]
  methods := #[k12m0]
  instanceTypes := #[.long]
  staticTypes := #[(.object "com/example/gavel/gavel/Money")]
  resolved := Array.replicate 175 none
  statics := none }

def pool13 : Array CpInfo := pool [(1, .class_ 2), (0, u "java/lang/Integer"), (16, u "digits"), (0, u "[C"), (39, u "(II)I"), (24, u "DigitOnes"), (0, u "[B"), (2, u "DigitTens"), (99, .class_ 190), (0, u "java/lang/Integer$IntegerCache"), (3, u "I"), (8, .class_ 204), (0, u "java/lang/Number"), (2, u "value"), (53, u "compare"), (40, u "TYPE"), (0, u "Ljava/lang/Class;"), (0, .class_ 305), (0, u "java/lang/Comparable"), (0, .class_ 307), (0, u "java/lang/constant/Constable"), (0, .class_ 309), (0, u "java/lang/constant/ConstantDesc"), (0, u "MIN_VALUE"), (1, u "MAX_VALUE"), (3, u "SIZE"), (1, u "BYTES"), (1, u "serialVersionUID"), (0, u "J")] 131

def k13c0 : Code := { maxStack := 2, maxLocals := 2, code := jdk_33_method_40_code, exceptionTable := #[], attributes := #[] }
def k13m0 : Method := { name := "compare", desc := "(II)I", sig := { parameters := [.int, .int], returnType := some .int }, accessFlags := 9, code := some k13c0 }
/-- java/lang/Integer -/
def k13 : Class := { plain "java/lang/Integer" (some 6) with
  accessFlags := 49
  interfaces := #[7, 8, 9]
  cf := some (fileOf pool13 1 #[.nestMembers #[189]] #[{ accessFlags := 9, nameIndex := 261, descriptorIndex := 60, attributes := #[] }] 49 203 #[304, 306, 308] #[{ accessFlags := 25, nameIndex := 310, descriptorIndex := 194, attributes := #[] }, { accessFlags := 25, nameIndex := 312, descriptorIndex := 194, attributes := #[] }, { accessFlags := 25, nameIndex := 302, descriptorIndex := 303, attributes := #[] }, { accessFlags := 24, nameIndex := 19, descriptorIndex := 20, attributes := #[] }, { accessFlags := 24, nameIndex := 89, descriptorIndex := 86, attributes := #[] }, { accessFlags := 24, nameIndex := 85, descriptorIndex := 86, attributes := #[] }, { accessFlags := 18, nameIndex := 207, descriptorIndex := 194, attributes := #[] }, { accessFlags := 25, nameIndex := 316, descriptorIndex := 194, attributes := #[] }, { accessFlags := 25, nameIndex := 318, descriptorIndex := 194, attributes := #[] }, { accessFlags := 26, nameIndex := 320, descriptorIndex := 321, attributes := #[] }])
  fields := #[{ name := "MIN_VALUE", type := .int, accessFlags := 25, slot := 0, constantValue := 0 }, { name := "MAX_VALUE", type := .int, accessFlags := 25, slot := 1, constantValue := 0 }, { name := "TYPE", type := (.object "java/lang/Class"), accessFlags := 25, slot := 2, constantValue := 0 }, { name := "digits", type := (.array .char), accessFlags := 24, slot := 3, constantValue := 0 }, { name := "DigitTens", type := (.array .byte), accessFlags := 24, slot := 4, constantValue := 0 }, { name := "DigitOnes", type := (.array .byte), accessFlags := 24, slot := 5, constantValue := 0 }, { name := "value", type := .int, accessFlags := 18, slot := 0, constantValue := 0 }, { name := "SIZE", type := .int, accessFlags := 25, slot := 6, constantValue := 0 }, { name := "BYTES", type := .int, accessFlags := 25, slot := 7, constantValue := 0 }, { name := "serialVersionUID", type := .long, accessFlags := 26, slot := 8, constantValue := 0 }]
  methods := #[k13m0]
  instanceTypes := #[.int]
  staticTypes := #[.int, .int, (.object "java/lang/Class"), (.array .char), (.array .byte), (.array .byte), .int, .int, .long]
  resolved := Array.replicate 453 none
  statics := none }

def pool14 : Array CpInfo := pool [(1, u "java/lang/Cloneable"), (0, .class_ 1), (0, u "java/lang/Object"), (0, .class_ 3)] 3

/-- java/lang/Cloneable -/
def k14 : Class := { plain "java/lang/Cloneable" (some 0) with
  accessFlags := 1537
  interfaces := #[]
  cf := some (fileOf pool14 2 #[] #[] 1537 4 #[] #[])
  fields := #[]
  methods := #[]
  instanceTypes := #[]
  staticTypes := #[]
  resolved := Array.replicate 8 none
  statics := none }

/-- the primitive boolean -/
def k15 : Class := { plain "boolean" none with kind := .primitive 'Z', accessFlags := 0x411 }
/-- [Z -/
def k16 : Class := { plain "[Z" (some 0) with kind := .array 15 .boolean, interfaces := #[14, 5], accessFlags := 1041 }

/-- the primitive byte -/
def k17 : Class := { plain "byte" none with kind := .primitive 'B', accessFlags := 0x411 }
/-- [B -/
def k18 : Class := { plain "[B" (some 0) with kind := .array 17 .byte, interfaces := #[14, 5], accessFlags := 1041 }

/-- the primitive int -/
def k19 : Class := { plain "int" none with kind := .primitive 'I', accessFlags := 0x411 }
/-- [I -/
def k20 : Class := { plain "[I" (some 0) with kind := .array 19 .int, interfaces := #[14, 5], accessFlags := 1041 }

/-- the primitive long -/
def k21 : Class := { plain "long" none with kind := .primitive 'J', accessFlags := 0x411 }
/-- [J -/
def k22 : Class := { plain "[J" (some 0) with kind := .array 21 .long, interfaces := #[14, 5], accessFlags := 1041 }

def heap : Heap := #[]
def classes : Array Class := #[k0, k1, k2, k3, k4, k5, k6, k7, k8, k9, k10, k11, k12, k13, k14, k15, k16, k17, k18, k19, k20, k21, k22]
def interned : List (Array UInt16 × Addr) := []
def slotsUsed : Nat := 0
def theMethod : MethodId := ⟨1, 1⟩
def args0 : Array Value := #[.long 5, .long 5, .long 5, .int 7]
def aboutOver (below : List Frame) : State where
  vm := { classes := classes, interned := interned.toArray }
  heap := heap
  slotsUsed := slotsUsed
  threads := #[{ frames := .invoking theMethod args0 :: below }]
def below0 : List Frame := [.native { method := ⟨0, 0⟩, args := #[] }]
def about1 : State := aboutOver below0
def p0 : Program := .bare "" "" ""
def e0 : Env := launch0.env 0 0 0
theorem w_frames : about1.frames = Frame.invoking theMethod args0 :: below0 := rfl
set_option maxRecDepth 65536 in
theorem w_args : argsFit about1.vm theMethod args0 = true := by decide +kernel
set_option maxRecDepth 65536 in
theorem w_heap : heapFits about1 = true := by decide +kernel
set_option maxRecDepth 65536 in
theorem w_runnable : about1.curStatus? = some .runnable := by decide +kernel
set_option maxRecDepth 65536 in
theorem w_alone : about1.alone = true := by decide +kernel
set_option maxRecDepth 65536 in
theorem w_named : about1.methodNamed? x = some theMethod := by decide +kernel
set_option maxRecDepth 65536 in
theorem w_hears : about1.hears theMethod below0 = true := by decide +kernel
set_option maxRecDepth 65536 in
theorem w_ripe : about1.ripe theMethod args0 below0 = true := by decide +kernel
theorem w_running : about1.status = .running := rfl
set_option maxRecDepth 65536 in
theorem w_room : about1.hasRoom e0.platform room_1 = true :=
  launch0.hasRoom_least _ room_1 (by decide +kernel) (by decide +kernel) (by decide +kernel) (by decide +kernel) (by decide +kernel) (by decide +kernel)
theorem allAtoms_all (ts : List Jvm.Cond) (a : Array Jvm.Value) (st : Jvm.State) : (allAtoms ts).before a st = ts.all (fun c => c.before a st) := by
  induction ts with
  | nil => rfl
  | cons c t ih =>
    show (Jvm.Cond.and c (allAtoms t)).before a st = _
    rw [Jvm.Cond.before_and, ih, List.all_cons]
def words1 : List Jvm.Cond := Jvm.Cond.code x code maxLocals ret :: tables_1
/-- a 'code' word, met by the world's own term for the bytes: nothing is compared byte by byte -/
theorem code_word {y : MethodName} {bytes : ByteArray} {mx : Nat} {rt : Option FieldType} {a : Array Value} {s : State} {m : MethodId} {meth : Method} {c : Code} (h1 : s.methodNamed? y = some m) (h2 : s.vm.method? m = some meth) (h3 : meth.code = some c) (h4 : c.code = bytes)
    (h5 : (c.maxLocals == mx && c.exceptionTable.isEmpty && decide (c.maxStack ≤ mostOperands) && decide (meth.sig.returnType = rt) && !meth.locks && decide (parseMethodDescriptor y.desc = some meth.sig)) = true) : (Jvm.Cond.code y bytes mx rt).before a s = true := by
  simp only [Bool.and_eq_true, beq_iff_eq, Bool.not_eq_true', decide_eq_true_eq] at h5
  obtain ⟨⟨⟨⟨⟨g1, g2⟩, g3⟩, g4⟩, g5⟩, g6⟩ := h5
  simp [Cond.before, Cond.holds, Cond.value, h1, h2, h3, h4, g1, g2, g3, g4, g5, g6]
def isCode : Jvm.Cond → Bool
  | .code _ _ _ _ => true
  | _ => false
theorem all_split {L : List Jvm.Cond} {P : Jvm.Cond → Bool} (h1 : L.all (fun c => isCode c || P c) = true) (h2 : ∀ c ∈ L.filter isCode, P c = true) : L.all P = true := by
  refine List.all_eq_true.mpr fun c hc => ?_
  have h := List.all_eq_true.mp h1 c hc
  rcases Bool.eq_false_or_eq_true (isCode c) with hi | hi
  · exact h2 c (List.mem_filter.mpr ⟨hc, hi⟩)
  · simpa [hi] using h
set_option maxRecDepth 65536 in
theorem w_c0 : (Jvm.Cond.code x code maxLocals ret).before args0 about1 = true := code_word (m := ⟨1, 1⟩) (meth := k1m1) (c := k1c1) (by decide +kernel) rfl rfl rfl (by decide +kernel)
set_option maxRecDepth 65536 in
theorem w_c1 : (Jvm.Cond.code ({ cls := "com/example/gavel/gavel/UnitDemandMarket", name := "<init>", desc := "(I[I[I[J)V" } : Jvm.MethodName) prog_54_method_1_code (6 : Nat) (Option.none : Option Jvm.ClassFile.FieldType)).before args0 about1 = true := code_word (m := ⟨2, 0⟩) (meth := k2m0) (c := k2c0) (by decide +kernel) rfl rfl rfl (by decide +kernel)
set_option maxRecDepth 65536 in
theorem w_c2 : (Jvm.Cond.code ({ cls := "java/lang/Object", name := "<init>", desc := "()V" } : Jvm.MethodName) object_method_1_code (1 : Nat) (Option.none : Option Jvm.ClassFile.FieldType)).before args0 about1 = true := code_word (m := ⟨0, 0⟩) (meth := k0m0) (c := k0c0) (by decide +kernel) rfl rfl rfl (by decide +kernel)
set_option maxRecDepth 65536 in
theorem w_c3 : (Jvm.Cond.code ({ cls := "java/util/Arrays", name := "fill", desc := "([II)V" } : Jvm.MethodName) jdk_65_method_103_code (4 : Nat) (Option.none : Option Jvm.ClassFile.FieldType)).before args0 about1 = true := code_word (m := ⟨3, 1⟩) (meth := k3m1) (c := k3c1) (by decide +kernel) rfl rfl rfl (by decide +kernel)
set_option maxRecDepth 65536 in
theorem w_c4 : (Jvm.Cond.code ({ cls := "com/example/gavel/gavel/UnitDemandMarket", name := "assign", desc := "(II)V" } : Jvm.MethodName) prog_54_method_8_code (12 : Nat) (Option.none : Option Jvm.ClassFile.FieldType)).before args0 about1 = true := code_word (m := ⟨2, 3⟩) (meth := k2m3) (c := k2c3) (by decide +kernel) rfl rfl rfl (by decide +kernel)
set_option maxRecDepth 65536 in
theorem w_c5 : (Jvm.Cond.code ({ cls := "java/lang/Math", name := "subtractExact", desc := "(JJ)J" } : Jvm.MethodName) jdk_29_method_27_code (6 : Nat) (Option.some Jvm.ClassFile.FieldType.long)).before args0 about1 = true := code_word (m := ⟨4, 2⟩) (meth := k4m2) (c := k4c2) (by decide +kernel) rfl rfl rfl (by decide +kernel)
set_option maxRecDepth 65536 in
theorem w_c6 : (Jvm.Cond.code ({ cls := "com/example/gavel/gavel/UnitDemandMarket", name := "compare", desc := "(JJJJ)I" } : Jvm.MethodName) prog_54_method_28_code (9 : Nat) (Option.some Jvm.ClassFile.FieldType.int)).before args0 about1 = true := code_word (m := ⟨2, 18⟩) (meth := k2m18) (c := k2c18) (by decide +kernel) rfl rfl rfl (by decide +kernel)
set_option maxRecDepth 65536 in
theorem w_c7 : (Jvm.Cond.code ({ cls := "java/lang/Long", name := "compare", desc := "(JJ)I" } : Jvm.MethodName) jdk_35_method_42_code (4 : Nat) (Option.some Jvm.ClassFile.FieldType.int)).before args0 about1 = true := code_word (m := ⟨10, 0⟩) (meth := k10m0) (c := k10c0) (by decide +kernel) rfl rfl rfl (by decide +kernel)
set_option maxRecDepth 65536 in
theorem w_c8 : (Jvm.Cond.code ({ cls := "com/example/gavel/gavel/UnitDemandMarket", name := "join", desc := "(I)V" } : Jvm.MethodName) prog_54_method_14_code (12 : Nat) (Option.none : Option Jvm.ClassFile.FieldType)).before args0 about1 = true := code_word (m := ⟨2, 7⟩) (meth := k2m7) (c := k2c7) (by decide +kernel) rfl rfl rfl (by decide +kernel)
set_option maxRecDepth 65536 in
theorem w_c9 : (Jvm.Cond.code ({ cls := "com/example/gavel/gavel/UnitDemandMarket", name := "search", desc := "(IJJ)V" } : Jvm.MethodName) prog_54_method_15_code (18 : Nat) (Option.none : Option Jvm.ClassFile.FieldType)).before args0 about1 = true := code_word (m := ⟨2, 8⟩) (meth := k2m8) (c := k2c8) (by decide +kernel) rfl rfl rfl (by decide +kernel)
set_option maxRecDepth 65536 in
theorem w_c10 : (Jvm.Cond.code ({ cls := "java/lang/Math", name := "addExact", desc := "(JJ)J" } : Jvm.MethodName) jdk_29_method_25_code (6 : Nat) (Option.some Jvm.ClassFile.FieldType.long)).before args0 about1 = true := code_word (m := ⟨4, 1⟩) (meth := k4m1) (c := k4c1) (by decide +kernel) rfl rfl rfl (by decide +kernel)
set_option maxRecDepth 65536 in
theorem w_c11 : (Jvm.Cond.code ({ cls := "com/example/gavel/gavel/UnitDemandMarket", name := "label", desc := "(IJJIII)V" } : Jvm.MethodName) prog_54_method_16_code (10 : Nat) (Option.none : Option Jvm.ClassFile.FieldType)).before args0 about1 = true := code_word (m := ⟨2, 9⟩) (meth := k2m9) (c := k2c9) (by decide +kernel) rfl rfl rfl (by decide +kernel)
set_option maxRecDepth 65536 in
theorem w_c12 : (Jvm.Cond.code ({ cls := "com/example/gavel/gavel/UnitDemandMarket", name := "compareSink", desc := "(JJI)I" } : Jvm.MethodName) prog_54_method_18_code (7 : Nat) (Option.some Jvm.ClassFile.FieldType.int)).before args0 about1 = true := code_word (m := ⟨2, 11⟩) (meth := k2m11) (c := k2c11) (by decide +kernel) rfl rfl rfl (by decide +kernel)
set_option maxRecDepth 65536 in
theorem w_c13 : (Jvm.Cond.code ({ cls := "com/example/gavel/gavel/UnitDemandMarket", name := "setLabel", desc := "(IJJIII)V" } : Jvm.MethodName) prog_54_method_17_code (9 : Nat) (Option.none : Option Jvm.ClassFile.FieldType)).before args0 about1 = true := code_word (m := ⟨2, 10⟩) (meth := k2m10) (c := k2c10) (by decide +kernel) rfl rfl rfl (by decide +kernel)
set_option maxRecDepth 65536 in
theorem w_c14 : (Jvm.Cond.code ({ cls := "com/example/gavel/gavel/UnitDemandMarket", name := "siftUp", desc := "(II)V" } : Jvm.MethodName) prog_54_method_24_code (4 : Nat) (Option.none : Option Jvm.ClassFile.FieldType)).before args0 about1 = true := code_word (m := ⟨2, 16⟩) (meth := k2m16) (c := k2c16) (by decide +kernel) rfl rfl rfl (by decide +kernel)
set_option maxRecDepth 65536 in
theorem w_c15 : (Jvm.Cond.code ({ cls := "com/example/gavel/gavel/UnitDemandMarket", name := "place", desc := "(II)V" } : Jvm.MethodName) prog_54_method_26_code (3 : Nat) (Option.none : Option Jvm.ClassFile.FieldType)).before args0 about1 = true := code_word (m := ⟨2, 17⟩) (meth := k2m17) (c := k2c17) (by decide +kernel) rfl rfl rfl (by decide +kernel)
set_option maxRecDepth 65536 in
theorem w_c16 : (Jvm.Cond.code ({ cls := "com/example/gavel/gavel/UnitDemandMarket", name := "pop", desc := "()V" } : Jvm.MethodName) prog_54_method_23_code (1 : Nat) (Option.none : Option Jvm.ClassFile.FieldType)).before args0 about1 = true := code_word (m := ⟨2, 15⟩) (meth := k2m15) (c := k2c15) (by decide +kernel) rfl rfl rfl (by decide +kernel)
set_option maxRecDepth 65536 in
theorem w_c17 : (Jvm.Cond.code ({ cls := "com/example/gavel/gavel/UnitDemandMarket", name := "considerSink", desc := "(JJIIZ)V" } : Jvm.MethodName) prog_54_method_19_code (9 : Nat) (Option.none : Option Jvm.ClassFile.FieldType)).before args0 about1 = true := code_word (m := ⟨2, 12⟩) (meth := k2m12) (c := k2c12) (by decide +kernel) rfl rfl rfl (by decide +kernel)
set_option maxRecDepth 65536 in
theorem w_c18 : (Jvm.Cond.code ({ cls := "com/example/gavel/gavel/UnitDemandMarket", name := "raisePrices", desc := "(IJJ)V" } : Jvm.MethodName) prog_54_method_21_code (13 : Nat) (Option.none : Option Jvm.ClassFile.FieldType)).before args0 about1 = true := code_word (m := ⟨2, 13⟩) (meth := k2m13) (c := k2c13) (by decide +kernel) rfl rfl rfl (by decide +kernel)
set_option maxRecDepth 65536 in
theorem w_c19 : (Jvm.Cond.code ({ cls := "com/example/gavel/gavel/UnitDemandMarket", name := "markChanged", desc := "(I)V" } : Jvm.MethodName) prog_54_method_13_code (2 : Nat) (Option.none : Option Jvm.ClassFile.FieldType)).before args0 about1 = true := code_word (m := ⟨2, 6⟩) (meth := k2m6) (c := k2c6) (by decide +kernel) rfl rfl rfl (by decide +kernel)
set_option maxRecDepth 65536 in
theorem w_c20 : (Jvm.Cond.code ({ cls := "com/example/gavel/gavel/UnitDemandMarket", name := "handOver", desc := "(I)V" } : Jvm.MethodName) prog_54_method_22_code (5 : Nat) (Option.none : Option Jvm.ClassFile.FieldType)).before args0 about1 = true := code_word (m := ⟨2, 14⟩) (meth := k2m14) (c := k2c14) (by decide +kernel) rfl rfl rfl (by decide +kernel)
set_option maxRecDepth 65536 in
theorem w_c21 : (Jvm.Cond.code ({ cls := "com/example/gavel/gavel/UnitDemandMarket", name := "resetPrice", desc := "(I)V" } : Jvm.MethodName) prog_54_method_11_code (3 : Nat) (Option.none : Option Jvm.ClassFile.FieldType)).before args0 about1 = true := code_word (m := ⟨2, 5⟩) (meth := k2m5) (c := k2c5) (by decide +kernel) rfl rfl rfl (by decide +kernel)
set_option maxRecDepth 65536 in
theorem w_c22 : (Jvm.Cond.code ({ cls := "com/example/gavel/gavel/UnitDemandMarket", name := "setWeight", desc := "(IJ)V" } : Jvm.MethodName) prog_54_method_10_code (4 : Nat) (Option.none : Option Jvm.ClassFile.FieldType)).before args0 about1 = true := code_word (m := ⟨2, 4⟩) (meth := k2m4) (c := k2c4) (by decide +kernel) rfl rfl rfl (by decide +kernel)
set_option maxRecDepth 65536 in
theorem w_c23 : (Jvm.Cond.code ({ cls := "com/example/gavel/gavel/UnitDemandMarket", name := "price", desc := "(I)J" } : Jvm.MethodName) prog_54_method_3_code (2 : Nat) (Option.some Jvm.ClassFile.FieldType.long)).before args0 about1 = true := code_word (m := ⟨2, 2⟩) (meth := k2m2) (c := k2c2) (by decide +kernel) rfl rfl rfl (by decide +kernel)
set_option maxRecDepth 65536 in
theorem w_c24 : (Jvm.Cond.code ({ cls := "com/example/gavel/gavel/UnitDemandMarket", name := "holder", desc := "(I)I" } : Jvm.MethodName) prog_54_method_2_code (2 : Nat) (Option.some Jvm.ClassFile.FieldType.int)).before args0 about1 = true := code_word (m := ⟨2, 1⟩) (meth := k2m1) (c := k2c1) (by decide +kernel) rfl rfl rfl (by decide +kernel)
set_option maxRecDepth 65536 in
theorem w_c25 : (Jvm.Cond.code ({ cls := "java/lang/Math", name := "min", desc := "(JJ)J" } : Jvm.MethodName) jdk_29_method_70_code (4 : Nat) (Option.some Jvm.ClassFile.FieldType.long)).before args0 about1 = true := code_word (m := ⟨4, 3⟩) (meth := k4m3) (c := k4c3) (by decide +kernel) rfl rfl rfl (by decide +kernel)
set_option maxRecDepth 65536 in
theorem w_c26 : (Jvm.Cond.code ({ cls := "java/lang/Integer", name := "compare", desc := "(II)I" } : Jvm.MethodName) jdk_33_method_40_code (2 : Nat) (Option.some Jvm.ClassFile.FieldType.int)).before args0 about1 = true := code_word (m := ⟨13, 0⟩) (meth := k13m0) (c := k13c0) (by decide +kernel) rfl rfl rfl (by decide +kernel)
def codes1 : List Jvm.Cond := [Jvm.Cond.code x code maxLocals ret, Jvm.Cond.code ({ cls := "com/example/gavel/gavel/UnitDemandMarket", name := "<init>", desc := "(I[I[I[J)V" } : Jvm.MethodName) prog_54_method_1_code (6 : Nat) (Option.none : Option Jvm.ClassFile.FieldType), Jvm.Cond.code ({ cls := "java/lang/Object", name := "<init>", desc := "()V" } : Jvm.MethodName) object_method_1_code (1 : Nat) (Option.none : Option Jvm.ClassFile.FieldType), Jvm.Cond.code ({ cls := "java/util/Arrays", name := "fill", desc := "([II)V" } : Jvm.MethodName) jdk_65_method_103_code (4 : Nat) (Option.none : Option Jvm.ClassFile.FieldType), Jvm.Cond.code ({ cls := "com/example/gavel/gavel/UnitDemandMarket", name := "assign", desc := "(II)V" } : Jvm.MethodName) prog_54_method_8_code (12 : Nat) (Option.none : Option Jvm.ClassFile.FieldType), Jvm.Cond.code ({ cls := "java/lang/Math", name := "subtractExact", desc := "(JJ)J" } : Jvm.MethodName) jdk_29_method_27_code (6 : Nat) (Option.some Jvm.ClassFile.FieldType.long), Jvm.Cond.code ({ cls := "com/example/gavel/gavel/UnitDemandMarket", name := "compare", desc := "(JJJJ)I" } : Jvm.MethodName) prog_54_method_28_code (9 : Nat) (Option.some Jvm.ClassFile.FieldType.int), Jvm.Cond.code ({ cls := "java/lang/Long", name := "compare", desc := "(JJ)I" } : Jvm.MethodName) jdk_35_method_42_code (4 : Nat) (Option.some Jvm.ClassFile.FieldType.int), Jvm.Cond.code ({ cls := "com/example/gavel/gavel/UnitDemandMarket", name := "join", desc := "(I)V" } : Jvm.MethodName) prog_54_method_14_code (12 : Nat) (Option.none : Option Jvm.ClassFile.FieldType), Jvm.Cond.code ({ cls := "com/example/gavel/gavel/UnitDemandMarket", name := "search", desc := "(IJJ)V" } : Jvm.MethodName) prog_54_method_15_code (18 : Nat) (Option.none : Option Jvm.ClassFile.FieldType), Jvm.Cond.code ({ cls := "java/lang/Math", name := "addExact", desc := "(JJ)J" } : Jvm.MethodName) jdk_29_method_25_code (6 : Nat) (Option.some Jvm.ClassFile.FieldType.long), Jvm.Cond.code ({ cls := "com/example/gavel/gavel/UnitDemandMarket", name := "label", desc := "(IJJIII)V" } : Jvm.MethodName) prog_54_method_16_code (10 : Nat) (Option.none : Option Jvm.ClassFile.FieldType), Jvm.Cond.code ({ cls := "com/example/gavel/gavel/UnitDemandMarket", name := "compareSink", desc := "(JJI)I" } : Jvm.MethodName) prog_54_method_18_code (7 : Nat) (Option.some Jvm.ClassFile.FieldType.int), Jvm.Cond.code ({ cls := "com/example/gavel/gavel/UnitDemandMarket", name := "setLabel", desc := "(IJJIII)V" } : Jvm.MethodName) prog_54_method_17_code (9 : Nat) (Option.none : Option Jvm.ClassFile.FieldType), Jvm.Cond.code ({ cls := "com/example/gavel/gavel/UnitDemandMarket", name := "siftUp", desc := "(II)V" } : Jvm.MethodName) prog_54_method_24_code (4 : Nat) (Option.none : Option Jvm.ClassFile.FieldType), Jvm.Cond.code ({ cls := "com/example/gavel/gavel/UnitDemandMarket", name := "place", desc := "(II)V" } : Jvm.MethodName) prog_54_method_26_code (3 : Nat) (Option.none : Option Jvm.ClassFile.FieldType), Jvm.Cond.code ({ cls := "com/example/gavel/gavel/UnitDemandMarket", name := "pop", desc := "()V" } : Jvm.MethodName) prog_54_method_23_code (1 : Nat) (Option.none : Option Jvm.ClassFile.FieldType), Jvm.Cond.code ({ cls := "com/example/gavel/gavel/UnitDemandMarket", name := "considerSink", desc := "(JJIIZ)V" } : Jvm.MethodName) prog_54_method_19_code (9 : Nat) (Option.none : Option Jvm.ClassFile.FieldType), Jvm.Cond.code ({ cls := "com/example/gavel/gavel/UnitDemandMarket", name := "raisePrices", desc := "(IJJ)V" } : Jvm.MethodName) prog_54_method_21_code (13 : Nat) (Option.none : Option Jvm.ClassFile.FieldType), Jvm.Cond.code ({ cls := "com/example/gavel/gavel/UnitDemandMarket", name := "markChanged", desc := "(I)V" } : Jvm.MethodName) prog_54_method_13_code (2 : Nat) (Option.none : Option Jvm.ClassFile.FieldType), Jvm.Cond.code ({ cls := "com/example/gavel/gavel/UnitDemandMarket", name := "handOver", desc := "(I)V" } : Jvm.MethodName) prog_54_method_22_code (5 : Nat) (Option.none : Option Jvm.ClassFile.FieldType), Jvm.Cond.code ({ cls := "com/example/gavel/gavel/UnitDemandMarket", name := "resetPrice", desc := "(I)V" } : Jvm.MethodName) prog_54_method_11_code (3 : Nat) (Option.none : Option Jvm.ClassFile.FieldType), Jvm.Cond.code ({ cls := "com/example/gavel/gavel/UnitDemandMarket", name := "setWeight", desc := "(IJ)V" } : Jvm.MethodName) prog_54_method_10_code (4 : Nat) (Option.none : Option Jvm.ClassFile.FieldType), Jvm.Cond.code ({ cls := "com/example/gavel/gavel/UnitDemandMarket", name := "price", desc := "(I)J" } : Jvm.MethodName) prog_54_method_3_code (2 : Nat) (Option.some Jvm.ClassFile.FieldType.long), Jvm.Cond.code ({ cls := "com/example/gavel/gavel/UnitDemandMarket", name := "holder", desc := "(I)I" } : Jvm.MethodName) prog_54_method_2_code (2 : Nat) (Option.some Jvm.ClassFile.FieldType.int), Jvm.Cond.code ({ cls := "java/lang/Math", name := "min", desc := "(JJ)J" } : Jvm.MethodName) jdk_29_method_70_code (4 : Nat) (Option.some Jvm.ClassFile.FieldType.long), Jvm.Cond.code ({ cls := "java/lang/Integer", name := "compare", desc := "(II)I" } : Jvm.MethodName) jdk_33_method_40_code (2 : Nat) (Option.some Jvm.ClassFile.FieldType.int)]
set_option maxRecDepth 65536 in
theorem codes_eq : words1.filter isCode = codes1 := rfl
theorem w_codes : ∀ c ∈ words1.filter isCode, c.before args0 about1 = true := by
  rw [codes_eq]
  intro c hc
  simp only [codes1, List.mem_cons, List.not_mem_nil, or_false] at hc
  rcases hc with rfl | rfl | rfl | rfl | rfl | rfl | rfl | rfl | rfl | rfl | rfl | rfl | rfl | rfl | rfl | rfl | rfl | rfl | rfl | rfl | rfl | rfl | rfl | rfl | rfl | rfl | rfl
  · exact w_c0
  · exact w_c1
  · exact w_c2
  · exact w_c3
  · exact w_c4
  · exact w_c5
  · exact w_c6
  · exact w_c7
  · exact w_c8
  · exact w_c9
  · exact w_c10
  · exact w_c11
  · exact w_c12
  · exact w_c13
  · exact w_c14
  · exact w_c15
  · exact w_c16
  · exact w_c17
  · exact w_c18
  · exact w_c19
  · exact w_c20
  · exact w_c21
  · exact w_c22
  · exact w_c23
  · exact w_c24
  · exact w_c25
  · exact w_c26
set_option maxRecDepth 65536 in
theorem w_t1 : (words1.take 24).all (fun c => isCode c || c.before args0 about1) = true := by decide +kernel
set_option maxRecDepth 65536 in
theorem w_t2 : ((words1.drop 24).take 24).all (fun c => isCode c || c.before args0 about1) = true := by decide +kernel
set_option maxRecDepth 65536 in
theorem w_t3 : (((words1.drop 24).drop 24).take 24).all (fun c => isCode c || c.before args0 about1) = true := by decide +kernel
set_option maxRecDepth 65536 in
theorem w_t4 : ((((words1.drop 24).drop 24).drop 24).take 24).all (fun c => isCode c || c.before args0 about1) = true := by decide +kernel
set_option maxRecDepth 65536 in
theorem w_t5 : (((((words1.drop 24).drop 24).drop 24).drop 24).take 24).all (fun c => isCode c || c.before args0 about1) = true := by decide +kernel
set_option maxRecDepth 65536 in
theorem w_t6 : ((((((words1.drop 24).drop 24).drop 24).drop 24).drop 24).take 24).all (fun c => isCode c || c.before args0 about1) = true := by decide +kernel
set_option maxRecDepth 65536 in
theorem w_t7 : (((((((words1.drop 24).drop 24).drop 24).drop 24).drop 24).drop 24).take 24).all (fun c => isCode c || c.before args0 about1) = true := by decide +kernel
set_option maxRecDepth 65536 in
theorem w_t8 : (((((((words1.drop 24).drop 24).drop 24).drop 24).drop 24).drop 24).drop 24).all (fun c => isCode c || c.before args0 about1) = true := by decide +kernel
theorem w_tables : (allAtoms (Jvm.Cond.code x code maxLocals ret :: tables_1)).before args0 about1 = true := by
  rw [allAtoms_all]
  show words1.all (fun c => c.before args0 about1) = true
  refine all_split ?_ w_codes
  rw [← List.take_append_drop 24 words1, List.all_append, w_t1, ← List.take_append_drop 24 (words1.drop 24), List.all_append, w_t2, ← List.take_append_drop 24 ((words1.drop 24).drop 24), List.all_append, w_t3, ← List.take_append_drop 24 (((words1.drop 24).drop 24).drop 24), List.all_append, w_t4, ← List.take_append_drop 24 ((((words1.drop 24).drop 24).drop 24).drop 24), List.all_append, w_t5, ← List.take_append_drop 24 (((((words1.drop 24).drop 24).drop 24).drop 24).drop 24), List.all_append, w_t6, ← List.take_append_drop 24 ((((((words1.drop 24).drop 24).drop 24).drop 24).drop 24).drop 24), List.all_append, w_t7, w_t8]
  rfl
set_option maxRecDepth 65536 in
theorem w_case : (Jvm.Cond.and given_1 narrow_1).before args0 about1 = true := by decide +kernel
theorem w_applies : (headSpec (Jvm.Cond.code x code maxLocals ret :: tables_1) room_1).applies x e0.platform about1 = true :=
  (Spec.applies_iff w_frames).mpr ⟨w_running, w_runnable, w_alone, w_named, w_hears, w_ripe, w_room, w_tables⟩
theorem atStart : AtStart classFile x code maxLocals ret World_1 tables_1 room_1 Calls_1 rest_1 Pre_1 launch0 p0 e0 about1 theMethod args0 below0 :=
  ⟨lists_1, trivial, launch0.admits_env _ _ _, launch0.least_env, fairChoices_fair.cas, fairChoices_fair.clock, w_frames, w_args, w_heap, w_applies, trivial, trivial, w_case⟩
end start1
theorem witness_1 : WitnessClaimed_1 := ⟨start1.p0, start1.e0, start1.about1, start1.theMethod, start1.args0, start1.below0, start1.atStart⟩
end Jvm.Pilot.@@N@@
