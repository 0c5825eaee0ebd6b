import JvmDerived
import JvmDerived.Pilot.@@N@@Statement
import JvmDerived.Pilot.@@N@@Code
set_option linter.unusedVariables false
set_option linter.unusedSimpArgs false
namespace Jvm.RoadKit
open Sem ClassFile Op Lib Jvm.Stand Jvm.Free Jvm.LawKit
section New
variable {p : Program} {l : Launch} {e : Env} {R : Room} {s : State} {m : MethodId} {args : Array Value} {below : List Frame} {meth : Method} {c : Code} {T : State} {locs : List Loc} {cells slots : Nat}
theorem retI (X : Stand p l e R s m args below meth c T locs cells slots) (hx : p.tables.exec = Jvm.exec) {pc : Nat} {Ls : Array Slot} {z : Int32} {rest : List Value} (hret : meth.sig.returnType = some .int) (hd : decode c.code pc = .ok (.ireturn, 1)) {fs : List Frame}
    (hl : ∀ (f : JFrame) (acts : List Action), f.method = m → f.locked = none → f.entered = [] → (doReturn e (T.setTop f) acts (some (.int z))).1 = T.setFrames fs) : Steps p.tables e below (T.setTop (mkF m pc Ls (.int z :: rest))) (T.setFrames fs) := by
  have hm' : T.vm.method? m = some meth := X.method'
  have hn : narrow .int (.int z) = .int z := rfl
  show Steps p.tables e below (T.setTop { method := m, pc := pc, locals := Ls, stack := _ :: rest, locked := none }) _
  jvm_step X.here [X.here.top, hx, hd, hm', hret, hn]
  first | (intro acts; rw [hl _ acts rfl rfl rfl]) | rw [hl _ _ rfl rfl rfl]
  exact Steps.refl _
end New
end Jvm.RoadKit
namespace Jvm.Pilot.@@N@@
open Jvm Jvm.ClassFile Sem Op Lib Jvm.Free Jvm.Stand Jvm.LawKit Jvm.RoadKit Bundle Jvm.Pilot.@@N@@.Jvm.D
section Own
variable {p : Program} {l : Launch} {e : Env} {R : Room} {s : State} {m : MethodId} {args : Array Value} {below : List Frame} {meth : Method} {c : Code} {bs : ByteArray} {ml : Nat} {own nm : String} {rt : Option FieldType} {Z : State} {F : State → Outcome → Prop} {n0 : Nat} {h h' : Heap} {cells slots : Nat} {pc q : Nat} {Ls Ls' : Array Slot} {st : List Value} {a0 : Array Value}
def oCx (p : Program) (s : State) (m : MethodId) (meth : Method) (c : Code) (bs : ByteArray) (ml : Nat) (own nm : String) (rt : Option FieldType) (Z : State) : Prop :=
  p.tables.exec = Jvm.exec ∧ c.code = bs ∧ c.maxLocals = ml ∧ s.vm.findClass own = some m.cls ∧ Z.Warmed39 s.vm ∧ meth.name = nm ∧ meth.sig.returnType = rt ∧ meth.locks = false
def oW (p : Program) (l : Launch) (e : Env) (R : Room) (s : State) (m : MethodId) (args : Array Value) (below : List Frame) (meth : Method) (c : Code) (F : State → Outcome → Prop) (n0 : Nat) (h : Heap) (cells slots : Nat) (f : JFrame) : Prop :=
  ∀ (T : State) (locs : List Loc), Stand p l e R s m args below meth c T locs cells slots → T.heap = h → Fr n0 locs → ∃ s₂ o, Steps p.tables e below (T.setTop f) s₂ ∧ s₂.status = .running ∧ Ended s₂ below o ∧ F s₂ o
def oFin (s : State) (n0 k n : Nat) (Q : Option Value → Heap → Prop) (s₂ : State) (o : Outcome) : Prop := ∃ v L, o = .returned v ∧ (Fr n0 L ∧ Q v s₂.heap) ∧ FrameEnd s o s₂ L k n
def oMet (l : Launch) (Z : State) (y : MethodName) (bs : ByteArray) (ml : Nat) (rt : Option FieldType) (ws : List Jvm.Cond) (R : Room) (k n n0 : Nat) (as' : Array Value) (h0 : Heap) (Q : Option Value → Heap → Prop) : Prop :=
  MetFree l y (head1 (Jvm.Cond.code y bs ml rt :: ws) R) (fun a U => a = as' ∧ Z.Warmed39 U.vm ∧ U.heap = h0) (fun _ _ _ _ _ => True) (fun _ U o U' => ∃ v L, o = .returned v ∧ (Fr n0 L ∧ Q v U'.heap) ∧ FrameEnd U o U' L k n)
theorem oMet.intro {y : MethodName} {ws : List Jvm.Cond} {k n : Nat} {as' : Array Value} {h0 : Heap} {Q : Option Value → Heap → Prop} (pn : plainFor y = true) (ef : ∀ m, entryFrame m as' ml = mkF m 0 Ls [])
    (body : ∀ (p : Program) (e : Env) (s : State) (m : MethodId) (below : List Frame) (meth : Method) (c : Code), oCx p s m meth c bs ml y.cls y.name rt Z → oW p l e R s m as' below meth c (oFin s n0 k n Q) n0 h0 0 0 (mkF m 0 Ls [])) :
    oMet l Z y bs ml rt ws R k n n0 as' h0 Q := by
  refine MetFree.of_bodySF pn hisR ?_
  intro p e s m args below meth c s₁ Bd hml0 hP hK
  obtain ⟨rfl, hZ, hh⟩ := hP
  have e0 : s₁.heap = h0 := by rw [← hh, Bd.state]; rfl
  have C : oCx p s m meth c bs ml y.cls y.name rt Z := ⟨Bd.exec, Bd.bytes, hml0, findClass_of_methodNamed Bd.named, hZ, (name_of_methodNamed Bd.named Bd.method).1, Bd.returns, Bd.notSynchronized⟩
  obtain ⟨s₂, o, h1, h2, h3, h4⟩ := body p e s m below meth c C s₁ [] (Stand.of_body Bd) e0 (Fr.nil n0)
  exact ⟨s₂, o, castTop (ef m) h1, h2, h3, h4⟩
theorem oMet.mono {y : MethodName} {ws : List Jvm.Cond} {k n : Nat} {as' : Array Value} {h0 : Heap} {Q Q' : Option Value → Heap → Prop} (M : oMet l Z y bs ml rt ws R k n n0 as' h0 Q) (hq : ∀ v h, Q v h → Q' v h) : oMet l Z y bs ml rt ws R k n n0 as' h0 Q' := by
  intro p e ha hc hk s m args below hf happ hP hK
  obtain ⟨n', o, h1, h2, h3, v, L, h4, ⟨h5, h6⟩, h7⟩ := M p e ha hc hk s m args below hf happ hP hK
  exact ⟨n', o, h1, h2, h3, v, L, h4, ⟨h5, hq _ _ h6⟩, h7⟩
theorem oW.of {f f' : JFrame} (k : ∀ (T : State) (locs : List Loc), Stand p l e R s m args below meth c T locs cells slots → ∀ t, Steps p.tables e below (T.setTop f') t → Steps p.tables e below (T.setTop f) t)
    (g : oW p l e R s m args below meth c F n0 h cells slots f') : oW p l e R s m args below meth c F n0 h cells slots f := fun T locs X eT N => by
  obtain ⟨s₂, o, h1, h2⟩ := g T locs X eT N
  exact ⟨s₂, o, k T locs X _ h1, h2⟩
theorem oW.to {f f' : JFrame} (k : ∀ (T : State) (locs : List Loc), Stand p l e R s m args below meth c T locs cells slots → T.heap = h → ∃ T', Stand p l e R s m args below meth c T' locs cells slots ∧ T'.heap = h ∧ ∀ t, Steps p.tables e below (T'.setTop f') t → Steps p.tables e below (T.setTop f) t)
    (g : oW p l e R s m args below meth c F n0 h cells slots f') : oW p l e R s m args below meth c F n0 h cells slots f := fun T locs X eT N => by
  obtain ⟨T', X', eT', k'⟩ := k T locs X eT
  obtain ⟨s₂, o, h1, h2⟩ := g T' locs X' eT' N
  exact ⟨s₂, o, k' _ h1, h2⟩
theorem oIloadN (C : oCx p s m meth c bs ml own nm rt Z) {k : Fin 4} {v : Int32} (hd : decode bs pc = .ok (.iload_n k, 1)) (hl : Ls[k.val]? = some (.val (.int v))) (hq : pc + 1 = q) (g : oW p l e R s m args below meth c F n0 h cells slots (mkF m q Ls (.int v :: st))) : oW p l e R s m args below meth c F n0 h cells slots (mkF m pc Ls (st)) := by
  subst hq; exact oW.of (fun T locs X t k => XS.iloadN X.here C.1 rfl (hb C.2.1 hd) hl k) g
theorem oIload (C : oCx p s m meth c bs ml own nm rt Z) {k : Nat} {v : Int32} (hd : decode bs pc = .ok (.iload k, 2)) (hl : Ls[k]? = some (.val (.int v))) (hq : pc + 2 = q) (g : oW p l e R s m args below meth c F n0 h cells slots (mkF m q Ls (.int v :: st))) : oW p l e R s m args below meth c F n0 h cells slots (mkF m pc Ls (st)) := by
  subst hq; exact oW.of (fun T locs X t k => XS.iload X.here C.1 rfl (hb C.2.1 hd) hl k) g
theorem oLloadN (C : oCx p s m meth c bs ml own nm rt Z) {k : Fin 4} {v : Int64} (hd : decode bs pc = .ok (.lload_n k, 1)) (hl : Ls[k.val]? = some (.val (.long v))) (hq : pc + 1 = q) (g : oW p l e R s m args below meth c F n0 h cells slots (mkF m q Ls (.long v :: st))) : oW p l e R s m args below meth c F n0 h cells slots (mkF m pc Ls (st)) := by
  subst hq; exact oW.of (fun T locs X t k => XS.lloadN X.here C.1 rfl (hb C.2.1 hd) hl k) g
theorem oLload (C : oCx p s m meth c bs ml own nm rt Z) {k : Nat} {v : Int64} (hd : decode bs pc = .ok (.lload k, 2)) (hl : Ls[k]? = some (.val (.long v))) (hq : pc + 2 = q) (g : oW p l e R s m args below meth c F n0 h cells slots (mkF m q Ls (.long v :: st))) : oW p l e R s m args below meth c F n0 h cells slots (mkF m pc Ls (st)) := by
  subst hq; exact oW.of (fun T locs X t k => XS.lload X.here C.1 rfl (hb C.2.1 hd) hl k) g
theorem oAloadN (C : oCx p s m meth c bs ml own nm rt Z) {k : Fin 4} {v : Value} (hd : decode bs pc = .ok (.aload_n k, 1)) (hl : Ls[k.val]? = some (.val v)) (hv : v.isRef = true) (hq : pc + 1 = q) (g : oW p l e R s m args below meth c F n0 h cells slots (mkF m q Ls (v :: st))) : oW p l e R s m args below meth c F n0 h cells slots (mkF m pc Ls (st)) := by
  subst hq; exact oW.of (fun T locs X t k => XS.aloadN X.here C.1 rfl (hb C.2.1 hd) hl hv k) g
theorem oAload (C : oCx p s m meth c bs ml own nm rt Z) {k : Nat} {v : Value} (hd : decode bs pc = .ok (.aload k, 2)) (hl : Ls[k]? = some (.val v)) (hv : v.isRef = true) (hq : pc + 2 = q) (g : oW p l e R s m args below meth c F n0 h cells slots (mkF m q Ls (v :: st))) : oW p l e R s m args below meth c F n0 h cells slots (mkF m pc Ls (st)) := by
  subst hq; exact oW.of (fun T locs X t k => XS.aload X.here C.1 rfl (hb C.2.1 hd) hl hv k) g
theorem oIstore (C : oCx p s m meth c bs ml own nm rt Z) {k : Nat} {v : Int32} (hd : decode bs pc = .ok (.istore k, 2)) (hl : storeLocals Ls k (.int v) = some Ls') (hq : pc + 2 = q) (g : oW p l e R s m args below meth c F n0 h cells slots (mkF m q Ls' (st))) : oW p l e R s m args below meth c F n0 h cells slots (mkF m pc Ls (.int v :: st)) := by
  subst hq; exact oW.of (fun T locs X t k => XS.istore X.here C.1 rfl (hb C.2.1 hd) rfl hl k) g
theorem oLstore (C : oCx p s m meth c bs ml own nm rt Z) {k : Nat} {v : Int64} (hd : decode bs pc = .ok (.lstore k, 2)) (hl : storeLocals Ls k (.long v) = some Ls') (hq : pc + 2 = q) (g : oW p l e R s m args below meth c F n0 h cells slots (mkF m q Ls' (st))) : oW p l e R s m args below meth c F n0 h cells slots (mkF m pc Ls (.long v :: st)) := by
  subst hq; exact oW.of (fun T locs X t k => XS.lstore X.here C.1 rfl (hb C.2.1 hd) rfl hl k) g
theorem oAstore (C : oCx p s m meth c bs ml own nm rt Z) {k : Nat} {v : Value} (hd : decode bs pc = .ok (.astore k, 2)) (hv : v.isRef = true) (hl : storeLocals Ls k v = some Ls') (hq : pc + 2 = q) (g : oW p l e R s m args below meth c F n0 h cells slots (mkF m q Ls' (st))) : oW p l e R s m args below meth c F n0 h cells slots (mkF m pc Ls (v :: st)) := by
  subst hq; exact oW.of (fun T locs X t k => XS.astore X.here C.1 rfl (hb C.2.1 hd) rfl hv hl k) g
theorem oIconst (C : oCx p s m meth c bs ml own nm rt Z) {i : Int} {z : Int32} (hd : decode bs pc = .ok (.iconst i, 1)) (hz : Int32.ofInt i = z) (hq : pc + 1 = q) (g : oW p l e R s m args below meth c F n0 h cells slots (mkF m q Ls (.int z :: st))) : oW p l e R s m args below meth c F n0 h cells slots (mkF m pc Ls (st)) := by
  subst hq; exact oW.of (fun T locs X t k => XS.iconst X.here C.1 rfl (hb C.2.1 hd) (hz ▸ k)) g
theorem oBipush (C : oCx p s m meth c bs ml own nm rt Z) {i : Int} {z : Int32} (hd : decode bs pc = .ok (.bipush i, 2)) (hz : (Int8.ofInt i).toInt32 = z) (hq : pc + 2 = q) (g : oW p l e R s m args below meth c F n0 h cells slots (mkF m q Ls (.int z :: st))) : oW p l e R s m args below meth c F n0 h cells slots (mkF m pc Ls (st)) := by
  subst hq; exact oW.of (fun T locs X t k => XS.bipush X.here C.1 rfl (hb C.2.1 hd) (hz ▸ k)) g
theorem oLconst (C : oCx p s m meth c bs ml own nm rt Z) {i : Fin 2} {z : Int64} (hd : decode bs pc = .ok (.lconst i, 1)) (hz : Int64.ofNat i = z) (hq : pc + 1 = q) (g : oW p l e R s m args below meth c F n0 h cells slots (mkF m q Ls (.long z :: st))) : oW p l e R s m args below meth c F n0 h cells slots (mkF m pc Ls (st)) := by
  subst hq; exact oW.of (fun T locs X t k => XS.lconst X.here C.1 rfl (hb C.2.1 hd) (hz ▸ k)) g
theorem oIadd (C : oCx p s m meth c bs ml own nm rt Z) {x y : Int32} (hd : decode bs pc = .ok (.iadd, 1)) (hq : pc + 1 = q) (g : oW p l e R s m args below meth c F n0 h cells slots (mkF m q Ls (.int (x + y) :: st))) : oW p l e R s m args below meth c F n0 h cells slots (mkF m pc Ls (.int y :: .int x :: st)) := by
  subst hq; exact oW.of (fun T locs X t k => XS.iadd X.here C.1 rfl (hb C.2.1 hd) rfl k) g
theorem oLadd (C : oCx p s m meth c bs ml own nm rt Z) {x y : Int64} (hd : decode bs pc = .ok (.ladd, 1)) (hq : pc + 1 = q) (g : oW p l e R s m args below meth c F n0 h cells slots (mkF m q Ls (.long (x + y) :: st))) : oW p l e R s m args below meth c F n0 h cells slots (mkF m pc Ls (.long y :: .long x :: st)) := by
  subst hq; exact oW.of (fun T locs X t k => XS.ladd X.here C.1 rfl (hb C.2.1 hd) rfl k) g
theorem oIsub (C : oCx p s m meth c bs ml own nm rt Z) {x y : Int32} (hd : decode bs pc = .ok (.isub, 1)) (hq : pc + 1 = q) (g : oW p l e R s m args below meth c F n0 h cells slots (mkF m q Ls (.int (x - y) :: st))) : oW p l e R s m args below meth c F n0 h cells slots (mkF m pc Ls (.int y :: .int x :: st)) := by
  subst hq; exact oW.of (fun T locs X t k => XS.isub X.here C.1 rfl (hb C.2.1 hd) rfl k) g
theorem oLmul (C : oCx p s m meth c bs ml own nm rt Z) {x y : Int64} (hd : decode bs pc = .ok (.lmul, 1)) (hq : pc + 1 = q) (g : oW p l e R s m args below meth c F n0 h cells slots (mkF m q Ls (.long (x * y) :: st))) : oW p l e R s m args below meth c F n0 h cells slots (mkF m pc Ls (.long y :: .long x :: st)) := by
  subst hq; exact oW.of (fun T locs X t k => XS.lmul X.here C.1 rfl (hb C.2.1 hd) rfl k) g
theorem oIand (C : oCx p s m meth c bs ml own nm rt Z) {x y : Int32} (hd : decode bs pc = .ok (.iand, 1)) (hq : pc + 1 = q) (g : oW p l e R s m args below meth c F n0 h cells slots (mkF m q Ls (.int (x &&& y) :: st))) : oW p l e R s m args below meth c F n0 h cells slots (mkF m pc Ls (.int y :: .int x :: st)) := by
  subst hq; exact oW.of (fun T locs X t k => XS.iand X.here C.1 rfl (hb C.2.1 hd) rfl k) g
theorem oLand (C : oCx p s m meth c bs ml own nm rt Z) {x y : Int64} (hd : decode bs pc = .ok (.land, 1)) (hq : pc + 1 = q) (g : oW p l e R s m args below meth c F n0 h cells slots (mkF m q Ls (.long (x &&& y) :: st))) : oW p l e R s m args below meth c F n0 h cells slots (mkF m pc Ls (.long y :: .long x :: st)) := by
  subst hq; exact oW.of (fun T locs X t k => XS.land X.here C.1 rfl (hb C.2.1 hd) rfl k) g
theorem oIrem (C : oCx p s m meth c bs ml own nm rt Z) {x y : Int32} (hd : decode bs pc = .ok (.irem, 1)) (hy : y ≠ 0) (hq : pc + 1 = q) (g : oW p l e R s m args below meth c F n0 h cells slots (mkF m q Ls (.int (x % y) :: st))) : oW p l e R s m args below meth c F n0 h cells slots (mkF m pc Ls (.int y :: .int x :: st)) := by
  subst hq; exact oW.of (fun T locs X t k => iremM X C.1 rfl (hb C.2.1 hd) rfl hy k) g
theorem oLrem (C : oCx p s m meth c bs ml own nm rt Z) {x y : Int64} (hd : decode bs pc = .ok (.lrem, 1)) (hy : y ≠ 0) (hq : pc + 1 = q) (g : oW p l e R s m args below meth c F n0 h cells slots (mkF m q Ls (.long (x - (x / y) * y) :: st))) : oW p l e R s m args below meth c F n0 h cells slots (mkF m pc Ls (.long y :: .long x :: st)) := by
  subst hq; exact oW.of (fun T locs X t k => XS.lrem X.here C.1 rfl (hb C.2.1 hd) rfl hy k) g
theorem oI2L (C : oCx p s m meth c bs ml own nm rt Z) {x : Int32} (hd : decode bs pc = .ok (.i2l, 1)) (hq : pc + 1 = q) (g : oW p l e R s m args below meth c F n0 h cells slots (mkF m q Ls (.long (x.toInt64) :: st))) : oW p l e R s m args below meth c F n0 h cells slots (mkF m pc Ls (.int x :: st)) := by
  subst hq; exact oW.of (fun T locs X t k => XS.i2l X.here C.1 rfl (hb C.2.1 hd) rfl k) g
theorem oDup (C : oCx p s m meth c bs ml own nm rt Z) {x : Value} (hd : decode bs pc = .ok (.dup, 1)) (hc : x.category = 1) (hq : pc + 1 = q) (g : oW p l e R s m args below meth c F n0 h cells slots (mkF m q Ls (x :: x :: st))) : oW p l e R s m args below meth c F n0 h cells slots (mkF m pc Ls (x :: st)) := by
  subst hq; exact oW.of (fun T locs X t k => XS.dup X.here C.1 rfl (hb C.2.1 hd) rfl hc k) g
theorem oGoto (C : oCx p s m meth c bs ml own nm rt Z) {o : Int} (hd : decode bs pc = .ok (.goto o, 3)) (ho : 0 ≤ (pc : Int) + o) (hp : ((pc : Int) + o).toNat = q) (g : oW p l e R s m args below meth c F n0 h cells slots (mkF m q Ls (st))) : oW p l e R s m args below meth c F n0 h cells slots (mkF m pc Ls (st)) :=
  oW.of (fun T locs X t k => XS.goto X.here C.1 rfl (pc0 := pc) rfl (hb C.2.1 hd) ho hp k) g
theorem oIcmp_eq (C : oCx p s m meth c bs ml own nm rt Z) {x y : Int32} {o : Int} {r : Nat} (hd : decode bs pc = .ok (.if_icmp .eq o, 3)) (ho : 0 ≤ (pc : Int) + o) (hp : ((pc : Int) + o).toNat = q) (hr : pc + 3 = r) (gy : x = y → oW p l e R s m args below meth c F n0 h cells slots (mkF m q Ls (st))) (gn : ¬ x = y → oW p l e R s m args below meth c F n0 h cells slots (mkF m r Ls (st))) : oW p l e R s m args below meth c F n0 h cells slots (mkF m pc Ls (.int y :: .int x :: st)) := by
  subst hr
  by_cases hc : x = y
  · exact oW.of (fun T locs X t k => XS.icmpYes X.here C.1 rfl (pc0 := pc) rfl (hb C.2.1 hd) rfl (teq hc).1 ho hp k) (gy hc)
  · exact oW.of (fun T locs X t k => XS.icmpNo X.here C.1 rfl (hb C.2.1 hd) rfl (feq hc).1 k) (gn hc)
theorem oIf_eq (C : oCx p s m meth c bs ml own nm rt Z) {x : Int32} {o : Int} {r : Nat} (hd : decode bs pc = .ok (.ifCond .eq o, 3)) (ho : 0 ≤ (pc : Int) + o) (hp : ((pc : Int) + o).toNat = q) (hr : pc + 3 = r) (gy : x = 0 → oW p l e R s m args below meth c F n0 h cells slots (mkF m q Ls (st))) (gn : ¬ x = 0 → oW p l e R s m args below meth c F n0 h cells slots (mkF m r Ls (st))) : oW p l e R s m args below meth c F n0 h cells slots (mkF m pc Ls (.int x :: st)) := by
  subst hr
  by_cases hc : x = 0
  · exact oW.of (fun T locs X t k => XS.ifYes X.here C.1 rfl (pc0 := pc) rfl (hb C.2.1 hd) rfl ((if0 _ _).trans (teq hc).1) ho hp k) (gy hc)
  · exact oW.of (fun T locs X t k => XS.ifNo X.here C.1 rfl (hb C.2.1 hd) rfl ((if0 _ _).trans (feq hc).1) k) (gn hc)
theorem oIf_ne (C : oCx p s m meth c bs ml own nm rt Z) {x : Int32} {o : Int} {r : Nat} (hd : decode bs pc = .ok (.ifCond .ne o, 3)) (ho : 0 ≤ (pc : Int) + o) (hp : ((pc : Int) + o).toNat = q) (hr : pc + 3 = r) (gy : ¬ x = 0 → oW p l e R s m args below meth c F n0 h cells slots (mkF m q Ls (st))) (gn : x = 0 → oW p l e R s m args below meth c F n0 h cells slots (mkF m r Ls (st))) : oW p l e R s m args below meth c F n0 h cells slots (mkF m pc Ls (.int x :: st)) := by
  subst hr
  by_cases hc : x = 0
  · exact oW.of (fun T locs X t k => XS.ifNo X.here C.1 rfl (hb C.2.1 hd) rfl ((if0 _ _).trans (teq hc).2) k) (gn hc)
  · exact oW.of (fun T locs X t k => XS.ifYes X.here C.1 rfl (pc0 := pc) rfl (hb C.2.1 hd) rfl ((if0 _ _).trans (feq hc).2) ho hp k) (gy hc)
theorem oIcmp_lt (C : oCx p s m meth c bs ml own nm rt Z) {x y : Int32} {o : Int} {r : Nat} (hd : decode bs pc = .ok (.if_icmp .lt o, 3)) (ho : 0 ≤ (pc : Int) + o) (hp : ((pc : Int) + o).toNat = q) (hr : pc + 3 = r) (gy : x < y → oW p l e R s m args below meth c F n0 h cells slots (mkF m q Ls (st))) (gn : ¬ x < y → oW p l e R s m args below meth c F n0 h cells slots (mkF m r Ls (st))) : oW p l e R s m args below meth c F n0 h cells slots (mkF m pc Ls (.int y :: .int x :: st)) := by
  subst hr
  by_cases hc : x < y
  · exact oW.of (fun T locs X t k => XS.icmpYes X.here C.1 rfl (pc0 := pc) rfl (hb C.2.1 hd) rfl (tlt hc).1 ho hp k) (gy hc)
  · exact oW.of (fun T locs X t k => XS.icmpNo X.here C.1 rfl (hb C.2.1 hd) rfl (flt hc).1 k) (gn hc)
theorem oIf_lt (C : oCx p s m meth c bs ml own nm rt Z) {x : Int32} {o : Int} {r : Nat} (hd : decode bs pc = .ok (.ifCond .lt o, 3)) (ho : 0 ≤ (pc : Int) + o) (hp : ((pc : Int) + o).toNat = q) (hr : pc + 3 = r) (gy : x < 0 → oW p l e R s m args below meth c F n0 h cells slots (mkF m q Ls (st))) (gn : ¬ x < 0 → oW p l e R s m args below meth c F n0 h cells slots (mkF m r Ls (st))) : oW p l e R s m args below meth c F n0 h cells slots (mkF m pc Ls (.int x :: st)) := by
  subst hr
  by_cases hc : x < 0
  · exact oW.of (fun T locs X t k => XS.ifYes X.here C.1 rfl (pc0 := pc) rfl (hb C.2.1 hd) rfl ((if0 _ _).trans (tlt hc).1) ho hp k) (gy hc)
  · exact oW.of (fun T locs X t k => XS.ifNo X.here C.1 rfl (hb C.2.1 hd) rfl ((if0 _ _).trans (flt hc).1) k) (gn hc)
theorem oIcmp_ge (C : oCx p s m meth c bs ml own nm rt Z) {x y : Int32} {o : Int} {r : Nat} (hd : decode bs pc = .ok (.if_icmp .ge o, 3)) (ho : 0 ≤ (pc : Int) + o) (hp : ((pc : Int) + o).toNat = q) (hr : pc + 3 = r) (gy : ¬ x < y → oW p l e R s m args below meth c F n0 h cells slots (mkF m q Ls (st))) (gn : x < y → oW p l e R s m args below meth c F n0 h cells slots (mkF m r Ls (st))) : oW p l e R s m args below meth c F n0 h cells slots (mkF m pc Ls (.int y :: .int x :: st)) := by
  subst hr
  by_cases hc : x < y
  · exact oW.of (fun T locs X t k => XS.icmpNo X.here C.1 rfl (hb C.2.1 hd) rfl (tlt hc).2.1 k) (gn hc)
  · exact oW.of (fun T locs X t k => XS.icmpYes X.here C.1 rfl (pc0 := pc) rfl (hb C.2.1 hd) rfl (flt hc).2.1 ho hp k) (gy hc)
theorem oIcmp_gt (C : oCx p s m meth c bs ml own nm rt Z) {x y : Int32} {o : Int} {r : Nat} (hd : decode bs pc = .ok (.if_icmp .gt o, 3)) (ho : 0 ≤ (pc : Int) + o) (hp : ((pc : Int) + o).toNat = q) (hr : pc + 3 = r) (gy : y < x → oW p l e R s m args below meth c F n0 h cells slots (mkF m q Ls (st))) (gn : ¬ y < x → oW p l e R s m args below meth c F n0 h cells slots (mkF m r Ls (st))) : oW p l e R s m args below meth c F n0 h cells slots (mkF m pc Ls (.int y :: .int x :: st)) := by
  subst hr
  by_cases hc : y < x
  · exact oW.of (fun T locs X t k => XS.icmpYes X.here C.1 rfl (pc0 := pc) rfl (hb C.2.1 hd) rfl (tlt hc).2.2.1 ho hp k) (gy hc)
  · exact oW.of (fun T locs X t k => XS.icmpNo X.here C.1 rfl (hb C.2.1 hd) rfl (flt hc).2.2.1 k) (gn hc)
theorem oIf_gt (C : oCx p s m meth c bs ml own nm rt Z) {x : Int32} {o : Int} {r : Nat} (hd : decode bs pc = .ok (.ifCond .gt o, 3)) (ho : 0 ≤ (pc : Int) + o) (hp : ((pc : Int) + o).toNat = q) (hr : pc + 3 = r) (gy : 0 < x → oW p l e R s m args below meth c F n0 h cells slots (mkF m q Ls (st))) (gn : ¬ 0 < x → oW p l e R s m args below meth c F n0 h cells slots (mkF m r Ls (st))) : oW p l e R s m args below meth c F n0 h cells slots (mkF m pc Ls (.int x :: st)) := by
  subst hr
  by_cases hc : 0 < x
  · exact oW.of (fun T locs X t k => XS.ifYes X.here C.1 rfl (pc0 := pc) rfl (hb C.2.1 hd) rfl ((if0 _ _).trans (tlt hc).2.2.1) ho hp k) (gy hc)
  · exact oW.of (fun T locs X t k => XS.ifNo X.here C.1 rfl (hb C.2.1 hd) rfl ((if0 _ _).trans (flt hc).2.2.1) k) (gn hc)
theorem oLcmp_gt (C : oCx p s m meth c bs ml own nm rt Z) {x y : Int64} {o : Int} {pd r : Nat} (hd0 : decode bs pc = .ok (.lcmp, 1)) (hq0 : pc + 1 = pd) (hd : decode bs pd = .ok (.ifCond .gt o, 3)) (ho : 0 ≤ (pd : Int) + o) (hp : ((pd : Int) + o).toNat = q) (hr : pd + 3 = r) (gy : y < x → oW p l e R s m args below meth c F n0 h cells slots (mkF m q Ls (st))) (gn : ¬ y < x → oW p l e R s m args below meth c F n0 h cells slots (mkF m r Ls (st))) : oW p l e R s m args below meth c F n0 h cells slots (mkF m pc Ls (.long y :: .long x :: st)) := by
  subst hq0
  refine oW.of (fun T locs X t k => XS.lcmp X.here C.1 rfl (hb C.2.1 hd0) rfl k) ?_
  exact oIf_gt C hd ho hp hr (fun w => gy ((lw_gt x y).mp w)) (fun w => gn (fun u => w ((lw_gt x y).mpr u)))
theorem oIcmp_le (C : oCx p s m meth c bs ml own nm rt Z) {x y : Int32} {o : Int} {r : Nat} (hd : decode bs pc = .ok (.if_icmp .le o, 3)) (ho : 0 ≤ (pc : Int) + o) (hp : ((pc : Int) + o).toNat = q) (hr : pc + 3 = r) (gy : ¬ y < x → oW p l e R s m args below meth c F n0 h cells slots (mkF m q Ls (st))) (gn : y < x → oW p l e R s m args below meth c F n0 h cells slots (mkF m r Ls (st))) : oW p l e R s m args below meth c F n0 h cells slots (mkF m pc Ls (.int y :: .int x :: st)) := by
  subst hr
  by_cases hc : y < x
  · exact oW.of (fun T locs X t k => XS.icmpNo X.here C.1 rfl (hb C.2.1 hd) rfl (tlt hc).2.2.2 k) (gn hc)
  · exact oW.of (fun T locs X t k => XS.icmpYes X.here C.1 rfl (pc0 := pc) rfl (hb C.2.1 hd) rfl (flt hc).2.2.2 ho hp k) (gy hc)
theorem oLdc (C : oCx p s m meth c bs ml own nm rt Z) {i : Nat} {v : Int32} (w : (Jvm.Cond.constant own i v).before a0 Z = true) (hd : decode bs pc = .ok (.ldc i, 2)) (hq : pc + 2 = q) (g : oW p l e R s m args below meth c F n0 h cells slots (mkF m q Ls (.int v :: st))) : oW p l e R s m args below meth c F n0 h cells slots (mkF m pc Ls st) := by
  subst hq; exact oW.of (fun T locs X t k => X.ldcInt C.1 C.2.2.2.1 (mvT C.2.2.2.2.1 w) (g := mkF m pc Ls st) rfl (hb C.2.1 hd) t k) g
theorem oLdc2 (C : oCx p s m meth c bs ml own nm rt Z) {i : Nat} {v : Int64} (w : (Jvm.Cond.constantLong own i v).before a0 Z = true) (hd : decode bs pc = .ok (.ldc2_w i, 3)) (hq : pc + 3 = q) (g : oW p l e R s m args below meth c F n0 h cells slots (mkF m q Ls (.long v :: st))) : oW p l e R s m args below meth c F n0 h cells slots (mkF m pc Ls st) := by
  subst hq; exact oW.of (fun T locs X t k => X.ldc2Long C.1 C.2.2.2.1 (mvT C.2.2.2.2.1 w) (g := mkF m pc Ls st) rfl (hb C.2.1 hd) t k) g
section Rets
variable {k n : Nat} {Q : Option Value → Heap → Prop} {rt' : FieldType}
theorem oRetN (C : oCx p s m meth c bs ml own nm (some rt') Z) (ht : rt' = .boolean ∨ rt' = .byte ∨ rt' = .char ∨ rt' = .short) {z z' : Int32} (hd : decode bs pc = .ok (.ireturn, 1)) (hz : nar rt' z = z') (hk : cells ≤ k) (hn : slots ≤ n) (hQ : Q (some (.int z')) h) :
    oW p l e R s m args below meth c (oFin s n0 k n Q) n0 h cells slots (mkF m pc Ls (.int z :: st)) := fun T locs X eT N => by
  subst hz eT
  obtain ⟨fs, hr, hrun, hended, hW, hsame⟩ := X.leave (v := some (.int (nar rt' z))) (fun hh => by rw [C.2.2.2.2.2.2.1] at hh; cases hh) C.2.2.2.2.2.2.2
  exact ⟨_, _, retN X C.1 C.2.2.2.2.2.2.1 ht (hb C.2.1 hd) hr, hrun, hended, _, _, rfl, ⟨N, hQ⟩, ⟨_, rfl⟩, hW, hsame.mono hk hn⟩
theorem oRetZ (C : oCx p s m meth c bs ml own nm (some .boolean) Z) {z z' : Int32} (hd : decode bs pc = .ok (.ireturn, 1)) (hz : nar .boolean z = z') (hk : cells ≤ k) (hn : slots ≤ n) (hQ : Q (some (.int z')) h) :
    oW p l e R s m args below meth c (oFin s n0 k n Q) n0 h cells slots (mkF m pc Ls (.int z :: st)) := oRetN C (Or.inl rfl) hd hz hk hn hQ
theorem oRetI (C : oCx p s m meth c bs ml own nm (some .int) Z) {z : Int32} (hd : decode bs pc = .ok (.ireturn, 1)) (hk : cells ≤ k) (hn : slots ≤ n) (hQ : Q (some (.int z)) h) :
    oW p l e R s m args below meth c (oFin s n0 k n Q) n0 h cells slots (mkF m pc Ls (.int z :: st)) := fun T locs X eT N => by
  subst eT
  obtain ⟨fs, hr, hrun, hended, hW, hsame⟩ := X.leave (v := some (.int z)) (fun hh => by rw [C.2.2.2.2.2.2.1] at hh; cases hh) C.2.2.2.2.2.2.2
  exact ⟨_, _, retI X C.1 C.2.2.2.2.2.2.1 (hb C.2.1 hd) hr, hrun, hended, _, _, rfl, ⟨N, hQ⟩, ⟨_, rfl⟩, hW, hsame.mono hk hn⟩
theorem oRetV (C : oCx p s m meth c bs ml own nm none Z) (hd : decode bs pc = .ok (.return_, 1)) (hk : cells ≤ k) (hn : slots ≤ n) (hQ : Q none h) :
    oW p l e R s m args below meth c (oFin s n0 k n Q) n0 h cells slots (mkF m pc Ls []) := fun T locs X eT N => by
  subst eT
  obtain ⟨fs, hr, hrun, hended, hW, hsame⟩ := X.leave (v := none) (fun _ => rfl) C.2.2.2.2.2.2.2
  exact ⟨_, _, X.returnOut C.1 C.2.2.2.2.2.2.1 (hb C.2.1 hd) hr, hrun, hended, _, _, rfl, ⟨N, hQ⟩, ⟨_, rfl⟩, hW, hsame.mono hk hn⟩
end Rets
section Calls
variable {i : Nat} {y : MethodName} {bs' : ByteArray} {ml' : Nat} {rt' : Option FieldType} {R' : Room} {Q : Option Value → Heap → Prop} {argsL rest : List Value} {ps : List FieldType} {r' : Option FieldType} {W : Nat} {a : Addr}
theorem oCallS (C : oCx p s m meth c bs ml own nm rt Z) (w1 : (Jvm.Cond.methodLink own i y).before a0 Z = true) (w2 : (Jvm.Cond.static y).before a0 Z = true) (w3 : (Jvm.Cond.initialized y.cls).before a0 Z = true) (w4 : (Jvm.Cond.code y bs' ml' rt').before a0 Z = true) (hd : decode bs pc = .ok (.invokestatic i, 3))
    (hy : y.cls ≠ "java/lang/invoke/MethodHandle" ∧ y.cls ≠ "java/lang/invoke/VarHandle") (hpd : parseMethodDescriptor y.desc = some ⟨ps, r'⟩) (hlen : argsL.length = ps.length) (hsz : Ls.size = ml) (hst : argsL.reverse ++ rest = st) (hW : (rest.map fun v => v.category).sum = W) (hq : pc + 3 = q)
    (hf : R'.frames + 1 ≤ R.frames) (hl : W + (ml' + 11) + R'.locals ≤ R.locals) (hc : cells + R'.cells ≤ R.cells) (hs : slots + R'.slots ≤ R.slots)
    (M : oMet l Z y bs' ml' rt' [] R' R'.cells R'.slots n0 argsL.toArray h Q)
    (g : ∀ v h', Q v h' → oW p l e R s m args below meth c F n0 h' (cells + R'.cells) (slots + R'.slots) (mkF m q Ls (v.toList ++ rest))) :
    oW p l e R s m args below meth c F n0 h cells slots (mkF m pc Ls st) := fun T locs X eT N => by
  subst hq hst
  have hZ := C.2.2.2.2.1
  obtain ⟨v, _, ⟨T', L', k', n'⟩, -, X', ⟨Lc, ⟨hN, hQ⟩, l', y', z'⟩, st'⟩ := Jvm.LawKit.callS X C.1 (y := y) C.2.2.2.1 (mvT hZ w1) (mvT hZ w2) (mvT hZ w3) (mvT hZ w4) hy (backOf (W := W) (Q := fun v h L => Fr n0 L ∧ Q v h) M hZ w4 w3 hf hl) (g := mkF m pc Ls (argsL.reverse ++ rest)) rfl (hsz.trans C.2.2.1.symm) (argsL := argsL) (rest := rest) (lenOf hpd hlen) rfl (by show 2 * 0 + _ ≤ _; omega) (hb C.2.1 hd) (fun _ _ => ⟨rfl, eT, hc, hs⟩)
  dsimp only [Pt.U, Pt.locs, Pt.cells, Pt.slots] at X' l' y' z' st' hQ
  subst l' y' z'
  obtain ⟨s₂, o, h1, h2⟩ := g v T'.heap hQ T' _ X' rfl (Fr.app N hN)
  exact ⟨s₂, o, st' _ h1, h2⟩
theorem oCallC (C : oCx p s m meth c bs ml own nm rt Z) (w1 : (Jvm.Cond.methodLink own i y).before a0 Z = true) (w2 : (Jvm.Cond.instanceMethod y).before a0 Z = true) (w3 : (Jvm.Cond.initialized y.cls).before a0 Z = true) (w4 : (Jvm.Cond.code y bs' ml' none).before a0 Z = true) (hd : decode bs pc = .ok (.invokespecial i, 3))
    (hn : y.name = "<init>") (hy : y.cls ≠ "java/lang/invoke/MethodHandle" ∧ y.cls ≠ "java/lang/invoke/VarHandle") (hpd : parseMethodDescriptor y.desc = some ⟨ps, r'⟩) (hlen : argsL.length = ps.length) (hsz : Ls.size = ml) (hst : argsL.reverse ++ .ref a :: rest = st) (hW : (rest.map fun v => v.category).sum = W) (hq : pc + 3 = q)
    (hf : R'.frames + 1 ≤ R.frames) (hl : W + (ml' + 11) + R'.locals ≤ R.locals) (hc : cells + R'.cells ≤ R.cells) (hs : slots + R'.slots ≤ R.slots)
    (M : oMet l Z y bs' ml' none [] R' R'.cells R'.slots n0 (.ref a :: argsL).toArray h Q)
    (g : ∀ v h', Q v h' → oW p l e R s m args below meth c F n0 h' (cells + R'.cells) (slots + R'.slots) (mkF m q Ls (v.toList ++ rest))) :
    oW p l e R s m args below meth c F n0 h cells slots (mkF m pc Ls st) := fun T locs X eT N => by
  subst hq hst
  have hZ := C.2.2.2.2.1
  obtain ⟨v, _, ⟨T', L', k', n'⟩, -, X', ⟨Lc, ⟨hN, hQ⟩, l', y', z'⟩, st'⟩ := X.specialBack C.1 (y := y) hn C.2.2.2.1 (mvT hZ w1) (mvT hZ w2) (mvT hZ w4) hy (backOf (W := W) (Q := fun v h L => Fr n0 L ∧ Q v h) M hZ w4 w3 hf hl) (g := mkF m pc Ls (argsL.reverse ++ .ref a :: rest)) rfl (hsz.trans C.2.2.1.symm) (Steps.refl _) (a := a) (argsL := argsL) (rest := rest) (lenOf hpd hlen) rfl (by show 2 * 0 + _ ≤ _; omega) (hb C.2.1 hd) (fun _ _ => ⟨rfl, eT, hc, hs⟩)
  dsimp only [Pt.U, Pt.locs, Pt.cells, Pt.slots] at X' l' y' z' st' hQ
  subst l' y' z'
  obtain ⟨s₂, o, h1, h2⟩ := g v T'.heap hQ T' _ X' rfl (Fr.app N hN)
  exact ⟨s₂, o, st'.trans h1, h2⟩
theorem oCallV (C : oCx p s m meth c bs ml own nm rt Z) (w1 : (Jvm.Cond.methodLink own i y).before a0 Z = true) (w5 : (Jvm.Cond.declares y).before a0 Z = true) (w6 : (Jvm.Cond.selects y.cls y y).before a0 Z = true) (w2 : (Jvm.Cond.instanceMethod y).before a0 Z = true) (w3 : (Jvm.Cond.initialized y.cls).before a0 Z = true) (w4 : (Jvm.Cond.code y bs' ml' rt').before a0 Z = true) (hd : decode bs pc = .ok (.invokevirtual i, 3))
    (E : Exa Z h a y.cls) (hy : y.cls ≠ "java/lang/invoke/MethodHandle" ∧ y.cls ≠ "java/lang/invoke/VarHandle") (hpd : parseMethodDescriptor y.desc = some ⟨ps, r'⟩) (hlen : argsL.length = ps.length) (hsz : Ls.size = ml) (hst : argsL.reverse ++ .ref a :: rest = st) (hW : (rest.map fun v => v.category).sum = W) (hq : pc + 3 = q)
    (hf : R'.frames + 1 ≤ R.frames) (hl : W + (ml' + 11) + R'.locals ≤ R.locals) (hc : cells + R'.cells ≤ R.cells) (hs : slots + R'.slots ≤ R.slots)
    (M : oMet l Z y bs' ml' rt' [] R' R'.cells R'.slots n0 (.ref a :: argsL).toArray h Q)
    (g : ∀ v h', Q v h' → oW p l e R s m args below meth c F n0 h' (cells + R'.cells) (slots + R'.slots) (mkF m q Ls (v.toList ++ rest))) :
    oW p l e R s m args below meth c F n0 h cells slots (mkF m pc Ls st) := fun T locs X eT N => by
  subst hq hst
  have hZ := C.2.2.2.2.1
  obtain ⟨cq, kq, qa, qb, qc⟩ := isOf hZ eT E
  obtain ⟨v, _, ⟨T', L', k', n'⟩, -, X', ⟨Lc, ⟨hN, hQ⟩, l', y', z'⟩, st'⟩ := X.virtualBack C.1 (y := y) (z := y) C.2.2.2.1 (mvT hZ w1) (mvT hZ w5) (notFace_of_selects (args := #[]) (mvT hZ w6)) (mvT hZ w6) (mvT hZ w2) hy (backOf (W := W) (Q := fun v h L => Fr n0 L ∧ Q v h) M hZ w4 w3 hf hl) qa qc (g := mkF m pc Ls (argsL.reverse ++ .ref a :: rest)) rfl (hsz.trans C.2.2.1.symm) (Steps.refl _) (argsL := argsL) (rest := rest) (lenOf hpd hlen) rfl (by show 2 * 0 + _ ≤ _; omega) (hb C.2.1 hd) (fun _ _ => ⟨rfl, eT, hc, hs⟩)
  dsimp only [Pt.U, Pt.locs, Pt.cells, Pt.slots] at X' l' y' z' st' hQ
  subst l' y' z'
  obtain ⟨s₂, o, h1, h2⟩ := g v T'.heap hQ T' _ X' rfl (Fr.app N hN)
  exact ⟨s₂, o, st'.trans h1, h2⟩
def oMetH (l : Launch) (Z : State) (y : MethodName) (bs : ByteArray) (ml : Nat) (rt : Option FieldType) (tr : List (Nat × Nat × Nat × Nat)) (R : Room) (k n n0 : Nat) (as' : Array Value) (h0 : Heap) (Q : Option Value → Heap → Prop) : Prop :=
  MetFree l y (head1 [Jvm.Cond.codeWith y bs ml rt tr] R) (fun a U => a = as' ∧ Z.Warmed39 U.vm ∧ U.heap = h0) (fun _ _ _ _ _ => True) (fun _ U o U' => ∃ v L, o = .returned v ∧ (Fr n0 L ∧ Q v U'.heap) ∧ FrameEnd U o U' L k n)
theorem oMetH.intro {tr : List (Nat × Nat × Nat × Nat)} {k n : Nat} {as' : Array Value} {h0 : Heap} (pn : plainFor y = true) (ef : ∀ m, entryFrame m as' ml = mkF m 0 Ls [])
    (body : ∀ (p : Program) (e : Env) (s : State) (m : MethodId) (below : List Frame) (meth : Method) (c : Code), oCx p s m meth c bs ml y.cls y.name rt Z → oW p l e R s m as' below meth c (oFin s n0 k n Q) n0 h0 0 0 (mkF m 0 Ls [])) :
    oMetH l Z y bs ml rt tr R k n n0 as' h0 Q := by
  refine MetFree.of_bodySF pn hisWith ?_
  intro p e s m args below meth c s₁ Bd hml0 hP hK
  obtain ⟨rfl, hZ, hh⟩ := hP
  have e0 : s₁.heap = h0 := by rw [← hh, Bd.state]; rfl
  have C : oCx p s m meth c bs ml y.cls y.name rt Z := ⟨Bd.exec, Bd.bytes, hml0, findClass_of_methodNamed Bd.named, hZ, (name_of_methodNamed Bd.named Bd.method).1, Bd.returns, Bd.notSynchronized⟩
  obtain ⟨s₂, o, h1, h2, h3, h4⟩ := body p e s m below meth c C s₁ [] (Stand.of_body Bd) e0 (Fr.nil n0)
  exact ⟨s₂, o, castTop (ef m) h1, h2, h3, h4⟩
theorem oPureK {w : Value} {hc : Heap} (g : oW p l e R s m args below meth c F n0 hc cells slots (mkF m q Ls (w :: rest))) : ∀ (v : Option Value) (h' : Heap), (v = some w ∧ h' = hc) → oW p l e R s m args below meth c F n0 h' cells slots (mkF m q Ls (v.toList ++ rest)) := by
  rintro _ _ ⟨rfl, rfl⟩; exact g
theorem oVoidK {hc : Heap} (g : oW p l e R s m args below meth c F n0 hc cells slots (mkF m q Ls rest)) : ∀ (v : Option Value) (h' : Heap), (v = none ∧ h' = hc) → oW p l e R s m args below meth c F n0 h' cells slots (mkF m q Ls (v.toList ++ rest)) := by
  rintro _ _ ⟨rfl, rfl⟩; exact g
end Calls
theorem oInitO (C : oCx p s m meth c bs ml own nm rt Z) {i W : Nat} {a : Addr} (w1 : (Jvm.Cond.methodLink own i Lib.objectInit).before a0 Z = true) (w2 : (Jvm.Cond.instanceMethod Lib.objectInit).before a0 Z = true) (w3 : (Jvm.Cond.code Lib.objectInit ⟨#[0xb1]⟩ 1 none).before a0 Z = true) (hd : decode bs pc = .ok (.invokespecial i, 3)) (hsz : Ls.size = ml) (hW : (st.map fun v => v.category).sum = W) (hq : pc + 3 = q) (hf : 1 ≤ R.frames) (hl : W + 12 ≤ R.locals)
    (g : oW p l e R s m args below meth c F n0 h cells slots (mkF m q Ls st)) : oW p l e R s m args below meth c F n0 h cells slots (mkF m pc Ls (.ref a :: st)) := by
  subst hq
  exact oW.to (fun T locs X eT => initO X C.1 C.2.2.2.2.1 C.2.2.2.1 w1 w2 w3 eT (g := mkF m pc Ls (.ref a :: st)) rfl (hsz.trans C.2.2.1.symm) rfl (hb C.2.1 hd) hf (W := W) (by show 2 * 0 + _ ≤ _; omega) hl) g
theorem oCastI {z z' : Int32} (hz : z = z') (g : oW p l e R s m args below meth c F n0 h cells slots (mkF m pc Ls (.int z' :: st))) : oW p l e R s m args below meth c F n0 h cells slots (mkF m pc Ls (.int z :: st)) := hz ▸ g
theorem oCastL {z z' : Int64} (hz : z = z') (g : oW p l e R s m args below meth c F n0 h cells slots (mkF m pc Ls (.long z' :: st))) : oW p l e R s m args below meth c F n0 h cells slots (mkF m pc Ls (.long z :: st)) := hz ▸ g
theorem oNew (C : oCx p s m meth c bs ml own nm rt Z) {i n : Nat} {K : String} (w : (Jvm.Cond.classLink own i K).before a0 Z = true) (wi : (Jvm.Cond.instantiable K n).before a0 Z = true) (wz : (Jvm.Cond.initialized K).before a0 Z = true) (hd : decode bs pc = .ok (.new i, 3)) (hq : pc + 3 = q) (hc : cells + 1 ≤ R.cells) (hs : slots + n ≤ R.slots)
    (g : ∀ (a : Addr) (h' : Heap), a = h.size → Ext h h' → Exa Z h' a K → (∀ {O nm d : String} {ty : FieldType}, Laid Z a0 K O nm d → parseFieldDescriptor d = some ty → Fld Z h' a O nm d (defaultValue ty)) → oW p l e R s m args below meth c F n0 h' (cells + 1) (slots + n) (mkF m q Ls (.ref a :: st))) :
    oW p l e R s m args below meth c F n0 h cells slots (mkF m pc Ls st) := fun T locs X eT N => by
  subst hq
  obtain ⟨T', h', X', e', E', A', D', -, st'⟩ := newO X C.1 C.2.2.2.2.1 C.2.2.2.1 w wi wz eT (g := mkF m pc Ls st) rfl (hb C.2.1 hd) hc hs
  obtain ⟨s₂, o, h1, h2⟩ := g _ h' rfl E' A' D' T' _ X' e' N
  exact ⟨s₂, o, st' _ h1, h2⟩
theorem oGetF (C : oCx p s m meth c bs ml own nm rt Z) {i : Nat} {R0 O n d : String} {a : Addr} {v : Value} (w : (Jvm.Cond.fieldLink own i R0 n d).before a0 Z = true) (via : Via Z R0 O n d) (Fd : Fld Z h a O n d v) (hd : decode bs pc = .ok (.getfield i, 3)) (hq : pc + 3 = q)
    (g : oW p l e R s m args below meth c F n0 h cells slots (mkF m q Ls (v :: st))) : oW p l e R s m args below meth c F n0 h cells slots (mkF m pc Ls (.ref a :: st)) := by
  subst hq
  exact oW.to (fun T locs X eT => getF X C.1 C.2.2.2.2.1 C.2.2.2.1 (host := "") (Or.inl w) via eT Fd (g := mkF m pc Ls (.ref a :: st)) rfl rfl (hb C.2.1 hd)) g
theorem oPutF (C : oCx p s m meth c bs ml own nm rt Z) {i kk : Nat} {R0 O n d K : String} {ty : FieldType} {a : Addr} {v old : Value} (w : (Jvm.Cond.fieldLink own i R0 n d).before a0 Z = true) (via : Via Z R0 O n d) (Fd : Fld Z h a O n d old) (E : Exa Z h a K) (L : (Jvm.Cond.lays K O n d).before a0 Z = true ∨ ((Jvm.Cond.laysFinal K O n d).before a0 Z = true ∧ own = O ∧ nm = "<init>")) (wi : (Jvm.Cond.instantiable K kk).before a0 Z = true)
    (hty : parseFieldDescriptor d = some ty) (hn : narrow ty v = v) (hf : fits ty v = true) (hd : decode bs pc = .ok (.putfield i, 3)) (hq : pc + 3 = q) (ha : n0 ≤ a)
    (g : ∀ h', Wr h h' a (Jvm.RoadKit.slotOf Z O n d) v → oW p l e R s m args below meth c F n0 h' cells slots (mkF m q Ls st)) : oW p l e R s m args below meth c F n0 h cells slots (mkF m pc Ls (v :: .ref a :: st)) := fun T locs X eT N => by
  subst hq
  obtain ⟨T', h', X', e', W', st'⟩ := putF X C.1 C.2.2.2.2.1 C.2.2.2.1 (host := "") (Or.inl w) via eT Fd E (L.imp id fun z => ⟨z.1, z.2.1, C.2.2.2.2.2.1.trans z.2.2⟩) wi hty hn hf (g := mkF m pc Ls (v :: .ref a :: st)) rfl rfl (hb C.2.1 hd)
  obtain ⟨s₂, o, h1, h2⟩ := g h' W' T' _ X' e' (Fr.snoc X' N ha)
  exact ⟨s₂, o, st' _ h1, h2⟩
def oAr (Z : State) (h : Heap) (a : Addr) (ty : FieldType) (vs : List Value) : Prop := ∃ c : Cell, Arr Z h a c ty ∧ c.slots.toList = vs
section Arrays
variable {a b : Addr} {ty : FieldType} {vs : List Value} {v : Value} {sl : Nat}
theorem oAr.lt (A : oAr Z h a ty vs) : a < h.size := by obtain ⟨c, A, -⟩ := A; exact A.lt
theorem oAr.other (A : oAr Z h a ty vs) (W : Wr h h' b sl v) (ne : a ≠ b) : oAr Z h' a ty vs := by obtain ⟨c, A, r⟩ := A; exact ⟨c, A.other W ne, r⟩
theorem oAr.same (A : oAr Z h a ty vs) (W : Wr h h' a sl v) : oAr Z h' a ty (vs.set sl v) := by
  obtain ⟨c, A, r⟩ := A
  exact ⟨_, A.same W, by subst r; simp [Cell.setSlot]⟩
theorem oAr.keep {ws : List Addr} (A : oAr Z h a ty vs) (K : Keep h h' ws) (ne : a ∉ ws) : oAr Z h' a ty vs := by obtain ⟨c, A, r⟩ := A; exact ⟨c, ⟨K.2.1 a c A.1 ne, A.2⟩, r⟩
end Arrays
def oKe (h0 h : Heap) (ws : List Addr) (fs : List (Addr × Nat)) : Prop := h0.size ≤ h.size ∧ ∀ (x : Addr) (c : Cell), h0[x]? = some c → ∃ c' : Cell, h[x]? = some c' ∧ c'.cls = c.cls ∧ c'.vm = c.vm ∧ c'.slots.size = c.slots.size ∧ (x ∉ ws → ∀ j, (x, j) ∉ fs → c'.slots[j]? = c.slots[j]?)
section Ke
variable {h0 : Heap} {ws ws' : List Addr} {fs fs' : List (Addr × Nat)} {a b : Addr} {sl : Nat} {v : Value} {ty : FieldType} {vs : List Value} {K O n d : String}
theorem oKe.refl (h : Heap) (ws : List Addr) (fs : List (Addr × Nat)) : oKe h h ws fs := ⟨Nat.le_refl _, fun x c q => ⟨c, q, rfl, rfl, rfl, fun _ _ _ => rfl⟩⟩
theorem oKe.trans (A : oKe h0 h ws fs) (B : oKe h h' ws' fs') (q1 : ∀ x ∈ ws', x ∈ ws ∨ h0.size ≤ x) (q2 : ∀ x ∈ fs', x ∈ fs ∨ h0.size ≤ x.1) : oKe h0 h' ws fs := by
  refine ⟨Nat.le_trans A.1 B.1, fun x c hx => ?_⟩
  obtain ⟨c1, e1, e2, e3, e4, e5⟩ := A.2 x c hx
  obtain ⟨c2, g1, g2, g3, g4, g5⟩ := B.2 x c1 e1
  have lt := (Array.getElem?_eq_some_iff.mp hx).1
  refine ⟨c2, g1, g2.trans e2, g3.trans e3, g4.trans e4, fun hn j hj => ?_⟩
  rw [g5 (fun z => (q1 x z).elim hn (fun y => absurd lt (Nat.not_lt.mpr y))) j (fun z => (q2 _ z).elim hj (fun y => absurd lt (Nat.not_lt.mpr y)))]
  exact e5 hn j hj
end Ke
end Own
section Own2
variable {p : Program} {l : Launch} {e : Env} {R : Room} {s : State} {m : MethodId} {args : Array Value} {below : List Frame} {meth : Method} {c : Code} {bs : ByteArray} {ml : Nat} {own nm : String} {rt : Option FieldType} {Z : State} {F : State → Outcome → Prop} {n0 : Nat} {h h' : Heap} {cells slots : Nat} {pc q : Nat} {Ls Ls' : Array Slot} {st : List Value} {a0 : Array Value}
section ArraysO
variable {a b : Addr} {K : String} {vs : List Value} {v : Value} {sl : Nat}
end ArraysO
section Stas
variable {K n d : String} {v w : Value} {a : Addr} {sl : Nat}
end Stas
end Own2
abbrev oHw (a0 : Array Value) (Z : State) : Prop := ∀ d ∈ tables_1, d.before a0 Z = true
theorem w0 {a0 : Array Value} {Z : State} (hw : oHw a0 Z) : (Jvm.Cond.constant "com/example/orderloom/orderloom/WorkersAdaptsPinLaw" (7 : Nat) (2147483647 : Int32)).before a0 Z = true := hw _ (List.mem_of_getElem? (i := 0) rfl)
theorem w1 {a0 : Array Value} {Z : State} (hw : oHw a0 Z) : (Jvm.Cond.methodLink "com/example/orderloom/orderloom/WorkersAdaptsPinLaw" (8 : Nat) ({ cls := "java/lang/Math", name := "max", desc := "(II)I" } : Jvm.MethodName)).before a0 Z = true := hw _ (List.mem_of_getElem? (i := 1) rfl)
theorem w2 {a0 : Array Value} {Z : State} (hw : oHw a0 Z) : (Jvm.Cond.static ({ cls := "java/lang/Math", name := "max", desc := "(II)I" } : Jvm.MethodName)).before a0 Z = true := hw _ (List.mem_of_getElem? (i := 2) rfl)
theorem w3 {a0 : Array Value} {Z : State} (hw : oHw a0 Z) : (Jvm.Cond.initialized "java/lang/Math").before a0 Z = true := hw _ (List.mem_of_getElem? (i := 3) rfl)
theorem w4 {a0 : Array Value} {Z : State} (hw : oHw a0 Z) : (Jvm.Cond.code ({ cls := "java/lang/Math", name := "max", desc := "(II)I" } : Jvm.MethodName) jdk_29_method_65_code (2 : Nat) (Option.some Jvm.ClassFile.FieldType.int)).before a0 Z = true := hw _ (List.mem_of_getElem? (i := 4) rfl)
theorem w5 {a0 : Array Value} {Z : State} (hw : oHw a0 Z) : (Jvm.Cond.constantLong "com/example/orderloom/orderloom/WorkersAdaptsPinLaw" (14 : Nat) (2147483647 : Int64)).before a0 Z = true := hw _ (List.mem_of_getElem? (i := 5) rfl)
theorem w6 {a0 : Array Value} {Z : State} (hw : oHw a0 Z) : (Jvm.Cond.classLink "com/example/orderloom/orderloom/WorkersAdaptsPinLaw" (16 : Nat) "com/example/orderloom/orderloom/Workers").before a0 Z = true := hw _ (List.mem_of_getElem? (i := 6) rfl)
theorem w7 {a0 : Array Value} {Z : State} (hw : oHw a0 Z) : (Jvm.Cond.instantiable "com/example/orderloom/orderloom/Workers" (4 : Nat)).before a0 Z = true := hw _ (List.mem_of_getElem? (i := 7) rfl)
theorem w8 {a0 : Array Value} {Z : State} (hw : oHw a0 Z) : (Jvm.Cond.initialized "com/example/orderloom/orderloom/Workers").before a0 Z = true := hw _ (List.mem_of_getElem? (i := 8) rfl)
theorem w9 {a0 : Array Value} {Z : State} (hw : oHw a0 Z) : (Jvm.Cond.methodLink "com/example/orderloom/orderloom/WorkersAdaptsPinLaw" (18 : Nat) ({ cls := "com/example/orderloom/orderloom/Workers", name := "<init>", desc := "(IIII)V" } : Jvm.MethodName)).before a0 Z = true := hw _ (List.mem_of_getElem? (i := 9) rfl)
theorem w10 {a0 : Array Value} {Z : State} (hw : oHw a0 Z) : (Jvm.Cond.instanceMethod ({ cls := "com/example/orderloom/orderloom/Workers", name := "<init>", desc := "(IIII)V" } : Jvm.MethodName)).before a0 Z = true := hw _ (List.mem_of_getElem? (i := 10) rfl)
theorem w11 {a0 : Array Value} {Z : State} (hw : oHw a0 Z) : (Jvm.Cond.code ({ cls := "com/example/orderloom/orderloom/Workers", name := "<init>", desc := "(IIII)V" } : Jvm.MethodName) prog_25_method_1_code (5 : Nat) (Option.none : Option Jvm.ClassFile.FieldType)).before a0 Z = true := hw _ (List.mem_of_getElem? (i := 11) rfl)
theorem w12 {a0 : Array Value} {Z : State} (hw : oHw a0 Z) : (Jvm.Cond.methodLink "com/example/orderloom/orderloom/Workers" (1 : Nat) ({ cls := "java/lang/Record", name := "<init>", desc := "()V" } : Jvm.MethodName)).before a0 Z = true := hw _ (List.mem_of_getElem? (i := 12) rfl)
theorem w13 {a0 : Array Value} {Z : State} (hw : oHw a0 Z) : (Jvm.Cond.instanceMethod ({ cls := "java/lang/Record", name := "<init>", desc := "()V" } : Jvm.MethodName)).before a0 Z = true := hw _ (List.mem_of_getElem? (i := 13) rfl)
theorem w15 {a0 : Array Value} {Z : State} (hw : oHw a0 Z) : (Jvm.Cond.initialized "java/lang/Record").before a0 Z = true := hw _ (List.mem_of_getElem? (i := 15) rfl)
theorem w16 {a0 : Array Value} {Z : State} (hw : oHw a0 Z) : (Jvm.Cond.code ({ cls := "java/lang/Record", name := "<init>", desc := "()V" } : Jvm.MethodName) jdk_30_method_1_code (1 : Nat) (Option.none : Option Jvm.ClassFile.FieldType)).before a0 Z = true := hw _ (List.mem_of_getElem? (i := 16) rfl)
theorem w17 {a0 : Array Value} {Z : State} (hw : oHw a0 Z) : (Jvm.Cond.methodLink "java/lang/Record" (1 : Nat) ({ cls := "java/lang/Object", name := "<init>", desc := "()V" } : Jvm.MethodName)).before a0 Z = true := hw _ (List.mem_of_getElem? (i := 17) rfl)
theorem w18 {a0 : Array Value} {Z : State} (hw : oHw a0 Z) : (Jvm.Cond.instanceMethod ({ cls := "java/lang/Object", name := "<init>", desc := "()V" } : Jvm.MethodName)).before a0 Z = true := hw _ (List.mem_of_getElem? (i := 18) rfl)
theorem w19 {a0 : Array Value} {Z : State} (hw : oHw a0 Z) : (Jvm.Cond.code ({ cls := "java/lang/Object", name := "<init>", desc := "()V" } : Jvm.MethodName) object_method_1_code (1 : Nat) (Option.none : Option Jvm.ClassFile.FieldType)).before a0 Z = true := hw _ (List.mem_of_getElem? (i := 19) rfl)
theorem w20 {a0 : Array Value} {Z : State} (hw : oHw a0 Z) : (Jvm.Cond.fieldLink "com/example/orderloom/orderloom/Workers" (22 : Nat) "com/example/orderloom/orderloom/Workers" "min" "I").before a0 Z = true := hw _ (List.mem_of_getElem? (i := 20) rfl)
theorem w21 {a0 : Array Value} {Z : State} (hw : oHw a0 Z) : (Jvm.Cond.laysFinal "com/example/orderloom/orderloom/Workers" "com/example/orderloom/orderloom/Workers" "min" "I").before a0 Z = true := hw _ (List.mem_of_getElem? (i := 21) rfl)
theorem w22 {a0 : Array Value} {Z : State} (hw : oHw a0 Z) : (Jvm.Cond.fieldLink "com/example/orderloom/orderloom/Workers" (28 : Nat) "com/example/orderloom/orderloom/Workers" "max" "I").before a0 Z = true := hw _ (List.mem_of_getElem? (i := 22) rfl)
theorem w23 {a0 : Array Value} {Z : State} (hw : oHw a0 Z) : (Jvm.Cond.laysFinal "com/example/orderloom/orderloom/Workers" "com/example/orderloom/orderloom/Workers" "max" "I").before a0 Z = true := hw _ (List.mem_of_getElem? (i := 23) rfl)
theorem w24 {a0 : Array Value} {Z : State} (hw : oHw a0 Z) : (Jvm.Cond.fieldLink "com/example/orderloom/orderloom/Workers" (31 : Nat) "com/example/orderloom/orderloom/Workers" "period" "I").before a0 Z = true := hw _ (List.mem_of_getElem? (i := 24) rfl)
theorem w25 {a0 : Array Value} {Z : State} (hw : oHw a0 Z) : (Jvm.Cond.laysFinal "com/example/orderloom/orderloom/Workers" "com/example/orderloom/orderloom/Workers" "period" "I").before a0 Z = true := hw _ (List.mem_of_getElem? (i := 25) rfl)
theorem w26 {a0 : Array Value} {Z : State} (hw : oHw a0 Z) : (Jvm.Cond.fieldLink "com/example/orderloom/orderloom/Workers" (34 : Nat) "com/example/orderloom/orderloom/Workers" "threshold" "I").before a0 Z = true := hw _ (List.mem_of_getElem? (i := 26) rfl)
theorem w27 {a0 : Array Value} {Z : State} (hw : oHw a0 Z) : (Jvm.Cond.laysFinal "com/example/orderloom/orderloom/Workers" "com/example/orderloom/orderloom/Workers" "threshold" "I").before a0 Z = true := hw _ (List.mem_of_getElem? (i := 27) rfl)
theorem w28 {a0 : Array Value} {Z : State} (hw : oHw a0 Z) : (Jvm.Cond.methodLink "com/example/orderloom/orderloom/WorkersAdaptsPinLaw" (21 : Nat) ({ cls := "com/example/orderloom/orderloom/Workers", name := "adapts", desc := "()Z" } : Jvm.MethodName)).before a0 Z = true := hw _ (List.mem_of_getElem? (i := 28) rfl)
theorem w29 {a0 : Array Value} {Z : State} (hw : oHw a0 Z) : (Jvm.Cond.declares ({ cls := "com/example/orderloom/orderloom/Workers", name := "adapts", desc := "()Z" } : Jvm.MethodName)).before a0 Z = true := hw _ (List.mem_of_getElem? (i := 29) rfl)
theorem w30 {a0 : Array Value} {Z : State} (hw : oHw a0 Z) : (Jvm.Cond.instanceMethod ({ cls := "com/example/orderloom/orderloom/Workers", name := "adapts", desc := "()Z" } : Jvm.MethodName)).before a0 Z = true := hw _ (List.mem_of_getElem? (i := 30) rfl)
theorem w31 {a0 : Array Value} {Z : State} (hw : oHw a0 Z) : (Jvm.Cond.selects "com/example/orderloom/orderloom/Workers" ({ cls := "com/example/orderloom/orderloom/Workers", name := "adapts", desc := "()Z" } : Jvm.MethodName) ({ cls := "com/example/orderloom/orderloom/Workers", name := "adapts", desc := "()Z" } : Jvm.MethodName)).before a0 Z = true := hw _ (List.mem_of_getElem? (i := 31) rfl)
theorem w32 {a0 : Array Value} {Z : State} (hw : oHw a0 Z) : (Jvm.Cond.code ({ cls := "com/example/orderloom/orderloom/Workers", name := "adapts", desc := "()Z" } : Jvm.MethodName) prog_25_method_3_code (1 : Nat) (Option.some Jvm.ClassFile.FieldType.boolean)).before a0 Z = true := hw _ (List.mem_of_getElem? (i := 32) rfl)
theorem w33 {a0 : Array Value} {Z : State} (hw : oHw a0 Z) : (Jvm.Cond.methodLink "com/example/orderloom/orderloom/WorkersAdaptsPinLaw" (25 : Nat) ({ cls := "com/example/orderloom/orderloom/Workers", name := "next", desc := "(IJ)I" } : Jvm.MethodName)).before a0 Z = true := hw _ (List.mem_of_getElem? (i := 33) rfl)
theorem w34 {a0 : Array Value} {Z : State} (hw : oHw a0 Z) : (Jvm.Cond.declares ({ cls := "com/example/orderloom/orderloom/Workers", name := "next", desc := "(IJ)I" } : Jvm.MethodName)).before a0 Z = true := hw _ (List.mem_of_getElem? (i := 34) rfl)
theorem w35 {a0 : Array Value} {Z : State} (hw : oHw a0 Z) : (Jvm.Cond.instanceMethod ({ cls := "com/example/orderloom/orderloom/Workers", name := "next", desc := "(IJ)I" } : Jvm.MethodName)).before a0 Z = true := hw _ (List.mem_of_getElem? (i := 35) rfl)
theorem w36 {a0 : Array Value} {Z : State} (hw : oHw a0 Z) : (Jvm.Cond.selects "com/example/orderloom/orderloom/Workers" ({ cls := "com/example/orderloom/orderloom/Workers", name := "next", desc := "(IJ)I" } : Jvm.MethodName) ({ cls := "com/example/orderloom/orderloom/Workers", name := "next", desc := "(IJ)I" } : Jvm.MethodName)).before a0 Z = true := hw _ (List.mem_of_getElem? (i := 36) rfl)
theorem w37 {a0 : Array Value} {Z : State} (hw : oHw a0 Z) : (Jvm.Cond.code ({ cls := "com/example/orderloom/orderloom/Workers", name := "next", desc := "(IJ)I" } : Jvm.MethodName) prog_25_method_4_code (4 : Nat) (Option.some Jvm.ClassFile.FieldType.int)).before a0 Z = true := hw _ (List.mem_of_getElem? (i := 37) rfl)
theorem w38 {a0 : Array Value} {Z : State} (hw : oHw a0 Z) : (Jvm.Cond.constantLong "com/example/orderloom/orderloom/Workers" (40 : Nat) (100 : Int64)).before a0 Z = true := hw _ (List.mem_of_getElem? (i := 38) rfl)
theorem w39 {a0 : Array Value} {Z : State} (hw : oHw a0 Z) : (Jvm.Cond.methodLink "com/example/orderloom/orderloom/Workers" (42 : Nat) ({ cls := "java/lang/Math", name := "min", desc := "(II)I" } : Jvm.MethodName)).before a0 Z = true := hw _ (List.mem_of_getElem? (i := 39) rfl)
theorem w40 {a0 : Array Value} {Z : State} (hw : oHw a0 Z) : (Jvm.Cond.static ({ cls := "java/lang/Math", name := "min", desc := "(II)I" } : Jvm.MethodName)).before a0 Z = true := hw _ (List.mem_of_getElem? (i := 40) rfl)
theorem w41 {a0 : Array Value} {Z : State} (hw : oHw a0 Z) : (Jvm.Cond.code ({ cls := "java/lang/Math", name := "min", desc := "(II)I" } : Jvm.MethodName) jdk_29_method_69_code (2 : Nat) (Option.some Jvm.ClassFile.FieldType.int)).before a0 Z = true := hw _ (List.mem_of_getElem? (i := 41) rfl)
theorem w42 {a0 : Array Value} {Z : State} (hw : oHw a0 Z) : (Jvm.Cond.methodLink "com/example/orderloom/orderloom/Workers" (47 : Nat) ({ cls := "java/lang/Math", name := "max", desc := "(II)I" } : Jvm.MethodName)).before a0 Z = true := hw _ (List.mem_of_getElem? (i := 42) rfl)
theorem ef_1 (m : MethodId) (x0 : Int32) (x1 : Int32) : entryFrame m #[.int x0, .int x1] 2 = mkF m 0 #[.val (.int x0), .val (.int x1)] [] := by first | (simp [entryFrame, mkF, argsToLocals, Value.category]; done) | rfl
def fMaxI (q1 : Int32) (q2 : Int32) : Int32 := (if q1 < q2 then q2 else q1)
theorem fMaxI_def (q1 : Int32) (q2 : Int32) : fMaxI q1 q2 = (if q1 < q2 then q2 else q1) := rfl
theorem d1_0 : decode jdk_29_method_65_code 0 = .ok (.iload_n 0, 1) := by decide +kernel
theorem d1_1 : decode jdk_29_method_65_code 1 = .ok (.iload_n 1, 1) := by decide +kernel
theorem d1_2 : decode jdk_29_method_65_code 2 = .ok (.if_icmp .lt 7, 3) := by decide +kernel
theorem d1_5 : decode jdk_29_method_65_code 5 = .ok (.iload_n 0, 1) := by decide +kernel
theorem d1_6 : decode jdk_29_method_65_code 6 = .ok (.goto 4, 3) := by decide +kernel
theorem d1_9 : decode jdk_29_method_65_code 9 = .ok (.iload_n 1, 1) := by decide +kernel
theorem d1_10 : decode jdk_29_method_65_code 10 = .ok (.ireturn, 1) := by decide +kernel
set_option maxRecDepth 65536 in
set_option maxHeartbeats 40000000 in
theorem mt_fMaxI (l : Launch) (Z : State) (a0 : Array Value) (hw : oHw a0 Z) (h0 : Heap) (n0 : Nat) (Z0 : n0 ≤ h0.size) (q1 : Int32) (q2 : Int32)  :
    oMet l Z (⟨"java/lang/Math", "max", "(II)I"⟩ : MethodName) jdk_29_method_65_code 2 (some .int) [] ({ frames := 0, cells := 0, slots := 0, locals := 0 } : Room) 0 0 n0 #[.int q1, .int q2] h0 (fun v h => v = some (.int (fMaxI q1 q2)) ∧ h = h0) := by
  refine oMet.intro (Jvm.Free.JP.mathPlain rfl (by decide +kernel)) (fun m => ef_1 m q1 q2) ?_
  intro op oe os m obl omt ocd C
  refine oIloadN C d1_0 rfl rfl ?_
  refine oIloadN C d1_1 rfl rfl ?_
  refine oIcmp_lt C d1_2 (q := 9) (by decide) (by decide) (r := 5) rfl (fun hc2 => ?_) (fun hc2 => ?_)
  ·
   refine oIloadN C d1_9 rfl rfl ?_
   refine oRetI C d1_10 (by decide) (by decide) ?_
   exact ⟨by rw [fMaxI_def, if_pos hc2], rfl⟩
  ·
   refine oIloadN C d1_5 rfl rfl ?_
   refine oGoto C d1_6 (q := 10) (by decide) (by decide) ?_
   refine oRetI C d1_10 (by decide) (by decide) ?_
   exact ⟨by rw [fMaxI_def, if_neg hc2], rfl⟩
theorem ef_7 (m : MethodId) (x0 : Int32) (x1 : Int32) : entryFrame m #[.int x0, .int x1] 2 = mkF m 0 #[.val (.int x0), .val (.int x1)] [] := by first | (simp [entryFrame, mkF, argsToLocals, Value.category]; done) | rfl
def fMinI (q1 : Int32) (q2 : Int32) : Int32 := (if q2 < q1 then q2 else q1)
theorem fMinI_def (q1 : Int32) (q2 : Int32) : fMinI q1 q2 = (if q2 < q1 then q2 else q1) := rfl
theorem d7_0 : decode jdk_29_method_69_code 0 = .ok (.iload_n 0, 1) := by decide +kernel
theorem d7_1 : decode jdk_29_method_69_code 1 = .ok (.iload_n 1, 1) := by decide +kernel
theorem d7_2 : decode jdk_29_method_69_code 2 = .ok (.if_icmp .gt 7, 3) := by decide +kernel
theorem d7_5 : decode jdk_29_method_69_code 5 = .ok (.iload_n 0, 1) := by decide +kernel
theorem d7_6 : decode jdk_29_method_69_code 6 = .ok (.goto 4, 3) := by decide +kernel
theorem d7_9 : decode jdk_29_method_69_code 9 = .ok (.iload_n 1, 1) := by decide +kernel
theorem d7_10 : decode jdk_29_method_69_code 10 = .ok (.ireturn, 1) := by decide +kernel
set_option maxRecDepth 65536 in
set_option maxHeartbeats 40000000 in
theorem mt_fMinI (l : Launch) (Z : State) (a0 : Array Value) (hw : oHw a0 Z) (h0 : Heap) (n0 : Nat) (Z0 : n0 ≤ h0.size) (q1 : Int32) (q2 : Int32)  :
    oMet l Z (⟨"java/lang/Math", "min", "(II)I"⟩ : MethodName) jdk_29_method_69_code 2 (some .int) [] ({ frames := 0, cells := 0, slots := 0, locals := 0 } : Room) 0 0 n0 #[.int q1, .int q2] h0 (fun v h => v = some (.int (fMinI q1 q2)) ∧ h = h0) := by
  refine oMet.intro (Jvm.Free.JP.mathPlain rfl (by decide +kernel)) (fun m => ef_7 m q1 q2) ?_
  intro op oe os m obl omt ocd C
  refine oIloadN C d7_0 rfl rfl ?_
  refine oIloadN C d7_1 rfl rfl ?_
  refine oIcmp_gt C d7_2 (q := 9) (by decide) (by decide) (r := 5) rfl (fun hc2 => ?_) (fun hc2 => ?_)
  ·
   refine oIloadN C d7_9 rfl rfl ?_
   refine oRetI C d7_10 (by decide) (by decide) ?_
   exact ⟨by rw [fMinI_def, if_pos hc2], rfl⟩
  ·
   refine oIloadN C d7_5 rfl rfl ?_
   refine oGoto C d7_6 (q := 10) (by decide) (by decide) ?_
   refine oRetI C d7_10 (by decide) (by decide) ?_
   exact ⟨by rw [fMinI_def, if_neg hc2], rfl⟩
theorem ef_3 (m : MethodId) (x0 : Addr) : entryFrame m #[.ref x0] 1 = mkF m 0 #[.val (.ref x0)] [] := by first | (simp [entryFrame, mkF, argsToLocals, Value.category]; done) | rfl
theorem pn_921419 : plainName "java/lang/Record" = true := by first | (simp [plainName, overriddenIn]; done) | decide +kernel
theorem d3_0 : decode jdk_30_method_1_code 0 = .ok (.aload_n 0, 1) := by decide +kernel
theorem d3_1 : decode jdk_30_method_1_code 1 = .ok (.invokespecial 1, 3) := by decide +kernel
theorem d3_4 : decode jdk_30_method_1_code 4 = .ok (.return_, 1) := by decide +kernel
set_option maxRecDepth 65536 in
set_option maxHeartbeats 40000000 in
theorem mt_rec (l : Launch) (Z : State) (a0 : Array Value) (hw : oHw a0 Z) (h0 : Heap) (n0 : Nat) (Z0 : n0 ≤ h0.size) (a : Addr) :
    oMet l Z (⟨"java/lang/Record", "<init>", "()V"⟩ : MethodName) jdk_30_method_1_code 1 none [] ({ frames := 1, cells := 0, slots := 0, locals := 12 } : Room) 0 0 n0 #[.ref a] h0 (fun v h => v = none ∧ h = h0) := by
  refine oMet.intro (plainFor_of_name pn_921419) (fun m => ef_3 m a) ?_
  intro op oe os m obl omt ocd C
  refine oAloadN C d3_0 rfl rfl rfl ?_
  refine oInitO C (w17 hw) (w18 hw) (w19 hw) d3_1 rfl (W := 0) rfl rfl (by decide) (by decide) ?_
  refine oRetV C d3_4 (by decide) (by decide) ?_
  exact ⟨rfl, rfl⟩
theorem ef_2 (m : MethodId) (x0 : Addr) (x1 : Int32) (x2 : Int32) (x3 : Int32) (x4 : Int32) : entryFrame m #[.ref x0, .int x1, .int x2, .int x3, .int x4] 5 = mkF m 0 #[.val (.ref x0), .val (.int x1), .val (.int x2), .val (.int x3), .val (.int x4)] [] := by first | (simp [entryFrame, mkF, argsToLocals, Value.category]; done) | rfl
theorem pn_685688 : plainName "com/example/orderloom/orderloom/Workers" = true := by first | (simp [plainName, overriddenIn]; done) | decide +kernel
theorem pd_428486 : parseMethodDescriptor "()V" = some ⟨[], none⟩ := by decide +kernel
def oFL0 : List (String × String × String) := [("com/example/orderloom/orderloom/Workers", "min", "I"), ("com/example/orderloom/orderloom/Workers", "max", "I"), ("com/example/orderloom/orderloom/Workers", "period", "I"), ("com/example/orderloom/orderloom/Workers", "threshold", "I")]
theorem oLa0 {a0 : Array Value} {Z : State} (hw : oHw a0 Z) : ∀ p ∈ oFL0, Laid Z a0 "com/example/orderloom/orderloom/Workers" p.1 p.2.1 p.2.2 ∧ ∃ t, parseFieldDescriptor p.2.2 = some t := by
  intro p hp
  simp only [oFL0, List.mem_cons, List.not_mem_nil, or_false] at hp
  rcases hp with rfl | rfl | rfl | rfl
  · exact ⟨(Or.inr (w21 hw)), _, (by decide : parseFieldDescriptor "I" = some .int)⟩
  · exact ⟨(Or.inr (w23 hw)), _, (by decide : parseFieldDescriptor "I" = some .int)⟩
  · exact ⟨(Or.inr (w25 hw)), _, (by decide : parseFieldDescriptor "I" = some .int)⟩
  · exact ⟨(Or.inr (w27 hw)), _, (by decide : parseFieldDescriptor "I" = some .int)⟩
theorem oSn0 {a0 : Array Value} {Z : State} (hw : oHw a0 Z) (i j : Nat) {O n d O' n' d' : String} (hi : oFL0[i]? = some (O, n, d) := by rfl) (hj : oFL0[j]? = some (O', n', d') := by rfl) (hn : n ≠ n' := by decide) : Jvm.RoadKit.slotOf Z O n d ≠ Jvm.RoadKit.slotOf Z O' n' d' := by
  obtain ⟨l1, t1, e1⟩ := oLa0 hw _ (List.mem_of_getElem? hi)
  obtain ⟨l2, t2, e2⟩ := oLa0 hw _ (List.mem_of_getElem? hj)
  exact slot_ne l1 l2 hn e1 e2
theorem d2_0 : decode prog_25_method_1_code 0 = .ok (.aload_n 0, 1) := by decide +kernel
theorem d2_1 : decode prog_25_method_1_code 1 = .ok (.invokespecial 1, 3) := by decide +kernel
theorem d2_4 : decode prog_25_method_1_code 4 = .ok (.iload_n 1, 1) := by decide +kernel
theorem d2_5 : decode prog_25_method_1_code 5 = .ok (.iconst 1, 1) := by decide +kernel
theorem d2_6 : decode prog_25_method_1_code 6 = .ok (.if_icmp .lt 14, 3) := by decide +kernel
theorem d2_9 : decode prog_25_method_1_code 9 = .ok (.iload_n 2, 1) := by decide +kernel
theorem d2_10 : decode prog_25_method_1_code 10 = .ok (.iload_n 1, 1) := by decide +kernel
theorem d2_11 : decode prog_25_method_1_code 11 = .ok (.if_icmp .lt 9, 3) := by decide +kernel
theorem d2_14 : decode prog_25_method_1_code 14 = .ok (.iload_n 2, 1) := by decide +kernel
theorem d2_15 : decode prog_25_method_1_code 15 = .ok (.bipush 64, 2) := by decide +kernel
theorem d2_17 : decode prog_25_method_1_code 17 = .ok (.if_icmp .le 18, 3) := by decide +kernel
theorem d2_35 : decode prog_25_method_1_code 35 = .ok (.iload_n 3, 1) := by decide +kernel
theorem d2_36 : decode prog_25_method_1_code 36 = .ok (.iconst 1, 1) := by decide +kernel
theorem d2_37 : decode prog_25_method_1_code 37 = .ok (.if_icmp .ge 17, 3) := by decide +kernel
theorem d2_54 : decode prog_25_method_1_code 54 = .ok (.iload 4, 2) := by decide +kernel
theorem d2_56 : decode prog_25_method_1_code 56 = .ok (.ifCond .lt 10, 3) := by decide +kernel
theorem d2_59 : decode prog_25_method_1_code 59 = .ok (.iload 4, 2) := by decide +kernel
theorem d2_61 : decode prog_25_method_1_code 61 = .ok (.bipush 100, 2) := by decide +kernel
theorem d2_63 : decode prog_25_method_1_code 63 = .ok (.if_icmp .le 18, 3) := by decide +kernel
theorem d2_81 : decode prog_25_method_1_code 81 = .ok (.aload_n 0, 1) := by decide +kernel
theorem d2_82 : decode prog_25_method_1_code 82 = .ok (.iload_n 1, 1) := by decide +kernel
theorem d2_83 : decode prog_25_method_1_code 83 = .ok (.putfield 22, 3) := by decide +kernel
theorem d2_86 : decode prog_25_method_1_code 86 = .ok (.aload_n 0, 1) := by decide +kernel
theorem d2_87 : decode prog_25_method_1_code 87 = .ok (.iload_n 2, 1) := by decide +kernel
theorem d2_88 : decode prog_25_method_1_code 88 = .ok (.putfield 28, 3) := by decide +kernel
theorem d2_91 : decode prog_25_method_1_code 91 = .ok (.aload_n 0, 1) := by decide +kernel
theorem d2_92 : decode prog_25_method_1_code 92 = .ok (.iload_n 3, 1) := by decide +kernel
theorem d2_93 : decode prog_25_method_1_code 93 = .ok (.putfield 31, 3) := by decide +kernel
theorem d2_96 : decode prog_25_method_1_code 96 = .ok (.aload_n 0, 1) := by decide +kernel
theorem d2_97 : decode prog_25_method_1_code 97 = .ok (.iload 4, 2) := by decide +kernel
theorem d2_99 : decode prog_25_method_1_code 99 = .ok (.putfield 34, 3) := by decide +kernel
theorem d2_102 : decode prog_25_method_1_code 102 = .ok (.return_, 1) := by decide +kernel
set_option maxRecDepth 65536 in
set_option maxHeartbeats 40000000 in
theorem mt_wk (l : Launch) (Z : State) (a0 : Array Value) (hw : oHw a0 Z) (h0 : Heap) (n0 : Nat) (Z0 : n0 ≤ h0.size) (a : Addr) (mi : Int32) (ma : Int32) (pe : Int32) (th : Int32) (E_a : Exa Z h0 a "com/example/orderloom/orderloom/Workers") (g_a : n0 ≤ a) (F_min : Fld Z h0 a "com/example/orderloom/orderloom/Workers" "min" "I" (.int 0)) (F_max : Fld Z h0 a "com/example/orderloom/orderloom/Workers" "max" "I" (.int 0)) (F_period : Fld Z h0 a "com/example/orderloom/orderloom/Workers" "period" "I" (.int 0)) (F_threshold : Fld Z h0 a "com/example/orderloom/orderloom/Workers" "threshold" "I" (.int 0)) (k1 : ¬ mi < 1) (k2 : ¬ ma < mi) (k3 : ¬ 64 < ma) (k4 : ¬ pe < 1) (k5 : ¬ th < 0) (k6 : ¬ 100 < th) :
    oMet l Z (⟨"com/example/orderloom/orderloom/Workers", "<init>", "(IIII)V"⟩ : MethodName) prog_25_method_1_code 5 none [] ({ frames := 2, cells := 0, slots := 0, locals := 24 } : Room) 0 0 n0 #[.ref a, .int mi, .int ma, .int pe, .int th] h0 (fun v h => v = none ∧ Keep h0 h [a] ∧ Fld Z h a "com/example/orderloom/orderloom/Workers" "min" "I" (.int mi) ∧ Fld Z h a "com/example/orderloom/orderloom/Workers" "max" "I" (.int ma) ∧ Fld Z h a "com/example/orderloom/orderloom/Workers" "period" "I" (.int pe) ∧ Fld Z h a "com/example/orderloom/orderloom/Workers" "threshold" "I" (.int th)) := by
  refine oMet.intro (plainFor_of_name pn_685688) (fun m => ef_2 m a mi ma pe th) ?_
  intro op oe os m obl omt ocd C
  refine oAloadN C d2_0 rfl rfl rfl ?_
  refine oCallC C (w12 hw) (w13 hw) (w15 hw) (w16 hw) d2_1 rfl (by decide) pd_428486 rfl rfl (a := a) (argsL := []) (rest := []) rfl (W := 0) rfl (q := 4) rfl (by decide) (by decide) (by decide) (by decide) (mt_rec l Z a0 hw _ n0 Z0 a) (oVoidK ?_)
  refine oIloadN C d2_4 rfl rfl ?_
  refine oIconst C d2_5 (z := 1) rfl rfl ?_
  refine oIcmp_lt C d2_6 (q := 20) (by decide) (by decide) (r := 9) rfl (fun hq => absurd hq (k1)) (fun hc6 => ?_)
  refine oIloadN C d2_9 rfl rfl ?_
  refine oIloadN C d2_10 rfl rfl ?_
  refine oIcmp_lt C d2_11 (q := 20) (by decide) (by decide) (r := 14) rfl (fun hq => absurd hq (k2)) (fun hc11 => ?_)
  refine oIloadN C d2_14 rfl rfl ?_
  refine oBipush C d2_15 (z := 64) rfl rfl ?_
  refine oIcmp_le C d2_17 (q := 35) (by decide) (by decide) (r := 20) rfl (fun hc17 => ?_) (fun hq => absurd hq (k3))
  refine oIloadN C d2_35 rfl rfl ?_
  refine oIconst C d2_36 (z := 1) rfl rfl ?_
  refine oIcmp_ge C d2_37 (q := 54) (by decide) (by decide) (r := 40) rfl (fun hc37 => ?_) (fun hq => absurd hq (k4))
  refine oIload C d2_54 rfl rfl ?_
  refine oIf_lt C d2_56 (q := 66) (by decide) (by decide) (r := 59) rfl (fun hq => absurd hq (k5)) (fun hc56 => ?_)
  refine oIload C d2_59 rfl rfl ?_
  refine oBipush C d2_61 (z := 100) rfl rfl ?_
  refine oIcmp_le C d2_63 (q := 81) (by decide) (by decide) (r := 66) rfl (fun hc63 => ?_) (fun hq => absurd hq (k6))
  refine oAloadN C d2_81 rfl rfl rfl ?_
  refine oIloadN C d2_82 rfl rfl ?_
  refine oPutF C (w20 hw) Via.refl F_min E_a (Or.inr ⟨(w21 hw), rfl, rfl⟩) (w7 hw) (ty := .int) (by decide) rfl rfl d2_83 rfl g_a fun h1 W1 => ?_
  have f1w := Fld.same W1 F_min
  refine oAloadN C d2_86 rfl rfl rfl ?_
  refine oIloadN C d2_87 rfl rfl ?_
  have f2 := (Exa.wr W1 E_a)
  have f3 := (Fld.other W1 F_max (Or.inr (oSn0 hw 1 0)))
  refine oPutF C (w22 hw) Via.refl f3 f2 (Or.inr ⟨(w23 hw), rfl, rfl⟩) (w7 hw) (ty := .int) (by decide) rfl rfl d2_88 rfl g_a fun h4 W4 => ?_
  have f4w := Fld.same W4 f3
  refine oAloadN C d2_91 rfl rfl rfl ?_
  refine oIloadN C d2_92 rfl rfl ?_
  have f5 := (Exa.wr W4 f2)
  have f6 := (Fld.other W4 (Fld.other W1 F_period (Or.inr (oSn0 hw 2 0))) (Or.inr (oSn0 hw 2 1)))
  refine oPutF C (w24 hw) Via.refl f6 f5 (Or.inr ⟨(w25 hw), rfl, rfl⟩) (w7 hw) (ty := .int) (by decide) rfl rfl d2_93 rfl g_a fun h7 W7 => ?_
  have f7w := Fld.same W7 f6
  refine oAloadN C d2_96 rfl rfl rfl ?_
  refine oIload C d2_97 rfl rfl ?_
  have f8 := (Exa.wr W7 f5)
  have f9 := (Fld.other W7 (Fld.other W4 (Fld.other W1 F_threshold (Or.inr (oSn0 hw 3 0))) (Or.inr (oSn0 hw 3 1))) (Or.inr (oSn0 hw 3 2)))
  refine oPutF C (w26 hw) Via.refl f9 f8 (Or.inr ⟨(w27 hw), rfl, rfl⟩) (w7 hw) (ty := .int) (by decide) rfl rfl d2_99 rfl g_a fun h10 W10 => ?_
  have f10w := Fld.same W10 f9
  refine oRetV C d2_102 (by decide) (by decide) ?_
  have f11 := (Fld.other W10 (Fld.other W7 (Fld.other W4 f1w (Or.inr (oSn0 hw 0 1))) (Or.inr (oSn0 hw 0 2))) (Or.inr (oSn0 hw 0 3)))
  have f12 := (Fld.other W10 (Fld.other W7 f4w (Or.inr (oSn0 hw 1 2))) (Or.inr (oSn0 hw 1 3)))
  have f13 := (Fld.other W10 f7w (Or.inr (oSn0 hw 2 3)))
  exact ⟨rfl, (((((Keep.refl h0 [a]).wr W1 (Or.inl (List.mem_of_getElem? (i := 0) rfl))).wr W4 (Or.inl (List.mem_of_getElem? (i := 0) rfl))).wr W7 (Or.inl (List.mem_of_getElem? (i := 0) rfl))).wr W10 (Or.inl (List.mem_of_getElem? (i := 0) rfl))), f11, f12, f13, f10w⟩
theorem ef_5 (m : MethodId) (x0 : Addr) : entryFrame m #[.ref x0] 1 = mkF m 0 #[.val (.ref x0)] [] := by first | (simp [entryFrame, mkF, argsToLocals, Value.category]; done) | rfl
def fAd (mi : Int32) (ma : Int32) : Int32 := (if mi < ma then (1 : Int32) else (0 : Int32))
theorem fAd_def (mi : Int32) (ma : Int32) : fAd mi ma = (if mi < ma then (1 : Int32) else (0 : Int32)) := rfl
theorem d5_0 : decode prog_25_method_3_code 0 = .ok (.aload_n 0, 1) := by decide +kernel
theorem d5_1 : decode prog_25_method_3_code 1 = .ok (.getfield 22, 3) := by decide +kernel
theorem d5_4 : decode prog_25_method_3_code 4 = .ok (.aload_n 0, 1) := by decide +kernel
theorem d5_5 : decode prog_25_method_3_code 5 = .ok (.getfield 28, 3) := by decide +kernel
theorem d5_8 : decode prog_25_method_3_code 8 = .ok (.if_icmp .ge 7, 3) := by decide +kernel
theorem d5_11 : decode prog_25_method_3_code 11 = .ok (.iconst 1, 1) := by decide +kernel
theorem d5_12 : decode prog_25_method_3_code 12 = .ok (.goto 4, 3) := by decide +kernel
theorem d5_15 : decode prog_25_method_3_code 15 = .ok (.iconst 0, 1) := by decide +kernel
theorem d5_16 : decode prog_25_method_3_code 16 = .ok (.ireturn, 1) := by decide +kernel
set_option maxRecDepth 65536 in
set_option maxHeartbeats 40000000 in
theorem mt_fAd (l : Launch) (Z : State) (a0 : Array Value) (hw : oHw a0 Z) (h0 : Heap) (n0 : Nat) (Z0 : n0 ≤ h0.size) (a : Addr) (mi : Int32) (ma : Int32) (F_min : Fld Z h0 a "com/example/orderloom/orderloom/Workers" "min" "I" (.int mi)) (F_max : Fld Z h0 a "com/example/orderloom/orderloom/Workers" "max" "I" (.int ma)) :
    oMet l Z (⟨"com/example/orderloom/orderloom/Workers", "adapts", "()Z"⟩ : MethodName) prog_25_method_3_code 1 (some .boolean) [] ({ frames := 0, cells := 0, slots := 0, locals := 0 } : Room) 0 0 n0 #[.ref a] h0 (fun v h => v = some (.int (fAd mi ma)) ∧ h = h0) := by
  refine oMet.intro (plainFor_of_name pn_685688) (fun m => ef_5 m a) ?_
  intro op oe os m obl omt ocd C
  refine oAloadN C d5_0 rfl rfl rfl ?_
  refine oGetF C (w20 hw) Via.refl F_min d5_1 rfl ?_
  refine oAloadN C d5_4 rfl rfl rfl ?_
  refine oGetF C (w22 hw) Via.refl F_max d5_5 rfl ?_
  refine oIcmp_ge C d5_8 (q := 15) (by decide) (by decide) (r := 11) rfl (fun hc8 => ?_) (fun hc8 => ?_)
  ·
   refine oIconst C d5_15 (z := 0) rfl rfl ?_
   refine oRetZ C d5_16 (z' := (0 : Int32)) rfl (by decide) (by decide) ?_
   exact ⟨by rw [fAd_def, if_neg hc8], rfl⟩
  ·
   refine oIconst C d5_11 (z := 1) rfl rfl ?_
   refine oGoto C d5_12 (q := 16) (by decide) (by decide) ?_
   refine oRetZ C d5_16 (z' := (1 : Int32)) rfl (by decide) (by decide) ?_
   exact ⟨by rw [fAd_def, if_pos hc8], rfl⟩
theorem ef_6 (m : MethodId) (x0 : Addr) (x1 : Int32) (x2 : Int64) : entryFrame m #[.ref x0, .int x1, .long x2] 4 = mkF m 0 #[.val (.ref x0), .val (.int x1), .val (.long x2), .second] [] := by first | (simp [entryFrame, mkF, argsToLocals, Value.category]; done) | rfl
theorem pd_947237 : parseMethodDescriptor "(II)I" = some ⟨[.int, .int], some .int⟩ := by decide +kernel
def fNext (cu : Int32) (cf : Int64) (th : Int32) (pe : Int32) (ma : Int32) (mi : Int32) : Int32 := (if ((th.toInt64) * (pe.toInt64)) < (cf * (100 : Int64)) then (fMaxI (cu - (1 : Int32)) mi) else (fMinI (cu + (1 : Int32)) ma))
theorem fNext_def (cu : Int32) (cf : Int64) (th : Int32) (pe : Int32) (ma : Int32) (mi : Int32) : fNext cu cf th pe ma mi = (if ((th.toInt64) * (pe.toInt64)) < (cf * (100 : Int64)) then (fMaxI (cu - (1 : Int32)) mi) else (fMinI (cu + (1 : Int32)) ma)) := rfl
theorem d6_0 : decode prog_25_method_4_code 0 = .ok (.lload_n 2, 1) := by decide +kernel
theorem d6_1 : decode prog_25_method_4_code 1 = .ok (.ldc2_w 40, 3) := by decide +kernel
theorem d6_4 : decode prog_25_method_4_code 4 = .ok (.lmul, 1) := by decide +kernel
theorem d6_5 : decode prog_25_method_4_code 5 = .ok (.aload_n 0, 1) := by decide +kernel
theorem d6_6 : decode prog_25_method_4_code 6 = .ok (.getfield 34, 3) := by decide +kernel
theorem d6_9 : decode prog_25_method_4_code 9 = .ok (.i2l, 1) := by decide +kernel
theorem d6_10 : decode prog_25_method_4_code 10 = .ok (.aload_n 0, 1) := by decide +kernel
theorem d6_11 : decode prog_25_method_4_code 11 = .ok (.getfield 31, 3) := by decide +kernel
theorem d6_14 : decode prog_25_method_4_code 14 = .ok (.i2l, 1) := by decide +kernel
theorem d6_15 : decode prog_25_method_4_code 15 = .ok (.lmul, 1) := by decide +kernel
theorem d6_16 : decode prog_25_method_4_code 16 = .ok (.lcmp, 1) := by decide +kernel
theorem d6_17 : decode prog_25_method_4_code 17 = .ok (.ifCond .gt 14, 3) := by decide +kernel
theorem d6_20 : decode prog_25_method_4_code 20 = .ok (.iload_n 1, 1) := by decide +kernel
theorem d6_21 : decode prog_25_method_4_code 21 = .ok (.iconst 1, 1) := by decide +kernel
theorem d6_22 : decode prog_25_method_4_code 22 = .ok (.iadd, 1) := by decide +kernel
theorem d6_23 : decode prog_25_method_4_code 23 = .ok (.aload_n 0, 1) := by decide +kernel
theorem d6_24 : decode prog_25_method_4_code 24 = .ok (.getfield 28, 3) := by decide +kernel
theorem d6_27 : decode prog_25_method_4_code 27 = .ok (.invokestatic 42, 3) := by decide +kernel
theorem d6_30 : decode prog_25_method_4_code 30 = .ok (.ireturn, 1) := by decide +kernel
theorem d6_31 : decode prog_25_method_4_code 31 = .ok (.iload_n 1, 1) := by decide +kernel
theorem d6_32 : decode prog_25_method_4_code 32 = .ok (.iconst 1, 1) := by decide +kernel
theorem d6_33 : decode prog_25_method_4_code 33 = .ok (.isub, 1) := by decide +kernel
theorem d6_34 : decode prog_25_method_4_code 34 = .ok (.aload_n 0, 1) := by decide +kernel
theorem d6_35 : decode prog_25_method_4_code 35 = .ok (.getfield 22, 3) := by decide +kernel
theorem d6_38 : decode prog_25_method_4_code 38 = .ok (.invokestatic 47, 3) := by decide +kernel
theorem d6_41 : decode prog_25_method_4_code 41 = .ok (.ireturn, 1) := by decide +kernel
set_option maxRecDepth 65536 in
set_option maxHeartbeats 40000000 in
theorem mt_fNext (l : Launch) (Z : State) (a0 : Array Value) (hw : oHw a0 Z) (h0 : Heap) (n0 : Nat) (Z0 : n0 ≤ h0.size) (a : Addr) (cu : Int32) (cf : Int64) (th : Int32) (pe : Int32) (ma : Int32) (mi : Int32) (F_threshold : Fld Z h0 a "com/example/orderloom/orderloom/Workers" "threshold" "I" (.int th)) (F_period : Fld Z h0 a "com/example/orderloom/orderloom/Workers" "period" "I" (.int pe)) (F_max : Fld Z h0 a "com/example/orderloom/orderloom/Workers" "max" "I" (.int ma)) (F_min : Fld Z h0 a "com/example/orderloom/orderloom/Workers" "min" "I" (.int mi)) :
    oMet l Z (⟨"com/example/orderloom/orderloom/Workers", "next", "(IJ)I"⟩ : MethodName) prog_25_method_4_code 4 (some .int) [] ({ frames := 1, cells := 0, slots := 0, locals := 13 } : Room) 0 0 n0 #[.ref a, .int cu, .long cf] h0 (fun v h => v = some (.int (fNext cu cf th pe ma mi)) ∧ h = h0) := by
  refine oMet.intro (plainFor_of_name pn_685688) (fun m => ef_6 m a cu cf) ?_
  intro op oe os m obl omt ocd C
  refine oLloadN C d6_0 rfl rfl ?_
  refine oLdc2 C (w38 hw) d6_1 rfl ?_
  refine oLmul C d6_4 rfl ?_
  refine oAloadN C d6_5 rfl rfl rfl ?_
  refine oGetF C (w26 hw) Via.refl F_threshold d6_6 rfl ?_
  refine oI2L C d6_9 rfl ?_
  refine oAloadN C d6_10 rfl rfl rfl ?_
  refine oGetF C (w24 hw) Via.refl F_period d6_11 rfl ?_
  refine oI2L C d6_14 rfl ?_
  refine oLmul C d6_15 rfl ?_
  refine oLcmp_gt C d6_16 rfl d6_17 (q := 31) (by decide) (by decide) (r := 20) rfl (fun hc16 => ?_) (fun hc16 => ?_)
  ·
   refine oIloadN C d6_31 rfl rfl ?_
   refine oIconst C d6_32 (z := 1) rfl rfl ?_
   refine oIsub C d6_33 rfl ?_
   refine oAloadN C d6_34 rfl rfl rfl ?_
   refine oGetF C (w20 hw) Via.refl F_min d6_35 rfl ?_
   refine oCallS C (w42 hw) (w2 hw) (w3 hw) (w4 hw) d6_38 (by decide) pd_947237 rfl rfl (argsL := [.int (cu - (1 : Int32)), .int mi]) (rest := []) rfl (W := 0) rfl (q := 41) rfl (by decide) (by decide) (by decide) (by decide) (mt_fMaxI l Z a0 hw _ n0 Z0 (cu - (1 : Int32)) mi ) (oPureK ?_)
   refine oRetI C d6_41 (by decide) (by decide) ?_
   exact ⟨by rw [fNext_def, if_pos hc16], rfl⟩
  ·
   refine oIloadN C d6_20 rfl rfl ?_
   refine oIconst C d6_21 (z := 1) rfl rfl ?_
   refine oIadd C d6_22 rfl ?_
   refine oAloadN C d6_23 rfl rfl rfl ?_
   refine oGetF C (w22 hw) Via.refl F_max d6_24 rfl ?_
   refine oCallS C (w39 hw) (w40 hw) (w3 hw) (w41 hw) d6_27 (by decide) pd_947237 rfl rfl (argsL := [.int (cu + (1 : Int32)), .int ma]) (rest := []) rfl (W := 0) rfl (q := 30) rfl (by decide) (by decide) (by decide) (by decide) (mt_fMinI l Z a0 hw _ n0 Z0 (cu + (1 : Int32)) ma ) (oPureK ?_)
   refine oRetI C d6_30 (by decide) (by decide) ?_
   exact ⟨by rw [fNext_def, if_neg hc16], rfl⟩
theorem own_mi (x : Int32) : 1 ≤ (1 + (x &&& 63)).toInt ∧ (1 + (x &&& 63)).toInt ≤ 64 := by
  have e1 := c_mask x 63 6 (by decide) (by decide)
  have e7 := c_iadd 1 (x &&& 63)
  have e8 := rng32 (1 + (x &&& 63))
  rw [show (1 : Int32).toInt = 1 from rfl] at e7
  omega
theorem own_65 {mi : Int32} (r : 1 ≤ mi.toInt ∧ mi.toInt ≤ 64) : ((65 : Int32) - mi).toInt = 65 - mi.toInt := by
  have e := c_isub 65 mi
  have e8 := rng32 (65 - mi)
  rw [show (65 : Int32).toInt = 65 from rfl] at e
  omega
theorem own_nz {mi : Int32} (r : 1 ≤ mi.toInt ∧ mi.toInt ≤ 64) : ((65 : Int32) - mi) ≠ 0 := fun h => by
  have e := own_65 r
  rw [h, show (0 : Int32).toInt = 0 from rfl] at e
  omega
theorem own_ma (b : Int32) {mi : Int32} (r : 1 ≤ mi.toInt ∧ mi.toInt ≤ 64) : mi.toInt ≤ (mi + ((b &&& 2147483647) % ((65 : Int32) - mi))).toInt ∧ (mi + ((b &&& 2147483647) % ((65 : Int32) - mi))).toInt ≤ 64 := by
  have e1 := c_mask b 2147483647 31 (by decide) (by decide)
  have e2 : ((b &&& 2147483647) % ((65 : Int32) - mi)).toInt = (b &&& 2147483647).toInt.tmod ((65 : Int32) - mi).toInt := Int32.toInt_mod _ _
  rw [own_65 r, Int.tmod_eq_emod_of_nonneg (by rw [e1]; omega)] at e2
  have e5 := Int.emod_nonneg (b &&& 2147483647).toInt (show (65 - mi.toInt : Int) ≠ 0 by omega)
  have e6 := Int.emod_lt_of_pos (b &&& 2147483647).toInt (show (0 : Int) < 65 - mi.toInt by omega)
  have e7 := c_iadd mi ((b &&& 2147483647) % ((65 : Int32) - mi))
  have e8 := rng32 (mi + ((b &&& 2147483647) % ((65 : Int32) - mi)))
  omega
theorem own_pe (p : Int32) : 1 ≤ (fMaxI 1 (p &&& 2147483647)).toInt := by
  rw [fMaxI_def]; simp only [Int32.lt_iff_toInt_lt]; rw [show (1 : Int32).toInt = 1 from rfl]; split
  · omega
  · decide
theorem own_th (t : Int32) : 0 ≤ ((t &&& 2147483647) % (101 : Int32)).toInt ∧ ((t &&& 2147483647) % (101 : Int32)).toInt ≤ 100 := by
  have e1 := c_mask t 2147483647 31 (by decide) (by decide)
  rw [Int32.toInt_mod, show (101 : Int32).toInt = 101 from rfl, Int.tmod_eq_emod_of_nonneg (by rw [e1]; omega)]
  omega
theorem own_nz2 {pe : Int32} (r : 1 ≤ pe.toInt) : (pe.toInt64 + (1 : Int64)) ≠ 0 := fun h => by
  have e := c_ladd pe.toInt64 1
  rw [h, c_i2l, show (0 : Int64).toInt = 0 from rfl, show (1 : Int64).toInt = 1 from rfl] at e
  have := rng32 pe
  omega
theorem own_nlt {x k : Int32} {K : Int} (hk : k.toInt = K) (h : K ≤ x.toInt) : ¬ x < k := by rw [Int32.lt_iff_toInt_lt]; omega
theorem own_nlt' {x k : Int32} {K : Int} (hk : k.toInt = K) (h : x.toInt ≤ K) : ¬ k < x := by rw [Int32.lt_iff_toInt_lt]; omega
theorem own_ad0 {mi ma : Int32} (h : mi = ma) : fAd mi ma = 0 := by
  rw [fAd_def, if_neg (by rw [Int32.lt_iff_toInt_lt, h]; omega)]
theorem own_lt {mi ma : Int32} (h : ¬ mi = ma) (r : mi.toInt ≤ ma.toInt) : mi.toInt < ma.toInt := by
  rw [← Int32.toInt_inj] at h; omega
theorem own_ad1 {mi ma : Int32} (h : ¬ mi = ma) (r : mi.toInt ≤ ma.toInt) : fAd mi ma = 1 := by
  rw [fAd_def, if_pos (by rw [Int32.lt_iff_toInt_lt]; exact own_lt h r)]
theorem own_inc {mi : Int32} (h : mi.toInt ≤ 64) : (mi + 1).toInt = mi.toInt + 1 := by
  have e := c_iadd mi 1
  have e2 := rng32 (mi + 1)
  have e3 := rng32 mi
  rw [show (1 : Int32).toInt = 1 from rfl] at e
  omega
theorem own_dec {mi : Int32} (h : 1 ≤ mi.toInt) : (mi - 1).toInt = mi.toInt - 1 := by
  have e := c_isub mi 1
  have e2 := rng32 (mi - 1)
  have e3 := rng32 mi
  rw [show (1 : Int32).toInt = 1 from rfl] at e
  omega
theorem own_up0 {mi ma : Int32} (cf : Int64) (th pe : Int32) (h : mi = ma) (r : 1 ≤ mi.toInt ∧ mi.toInt ≤ 64) : fNext mi cf th pe ma mi = mi := by
  subst h
  have e1 := own_inc r.2
  have e2 := own_dec r.1
  rw [fNext_def]; split
  · rw [fMaxI_def]; simp only [Int32.lt_iff_toInt_lt]; split
    · rfl
    · omega
  · rw [fMinI_def]; simp only [Int32.lt_iff_toInt_lt]; split
    · rfl
    · omega
theorem own_up1 {mi ma th pe : Int32} (h : ¬ mi = ma) (r : 1 ≤ mi.toInt ∧ mi.toInt ≤ 64) (r2 : mi.toInt ≤ ma.toInt) (r3 : 0 ≤ th.toInt ∧ th.toInt ≤ 100) (r4 : 1 ≤ pe.toInt) : fNext mi 0 th pe ma mi = mi + 1 := by
  have e1 := own_inc r.2
  have e2 := own_lt h r2
  have e3 : 0 ≤ (th.toInt64 * pe.toInt64).toInt := by
    have q := c_lmul th.toInt64 pe.toInt64
    have q2 := rng64 (th.toInt64 * pe.toInt64)
    rw [c_i2l, c_i2l] at q
    have q3 := rng32 pe
    have q4 : 0 ≤ th.toInt * pe.toInt := Int.mul_nonneg r3.1 (by omega)
    have q5 : th.toInt * pe.toInt ≤ 100 * 2147483648 := Int.mul_le_mul r3.2 (by omega) (by omega) (by decide)
    omega
  rw [fNext_def, if_neg (by rw [Int64.lt_iff_toInt_lt, show ((0 : Int64) * (100 : Int64)).toInt = 0 from rfl]; omega), fMinI_def, if_neg (by rw [Int32.lt_iff_toInt_lt]; omega)]
theorem ef_0 (m : MethodId) (x0 : Int32) (x1 : Int32) (x2 : Int32) (x3 : Int32) (x4 : Int64) : entryFrame m #[.int x0, .int x1, .int x2, .int x3, .long x4] maxLocals = mkF m 0 #[.val (.int x0), .val (.int x1), .val (.int x2), .val (.int x3), .val (.long x4), .second, .unset, .unset, .unset, .unset, .unset, .unset, .unset, .unset, .unset, .unset, .unset] [] := by first | (simp [entryFrame, mkF, argsToLocals, Value.category, maxLocals]; done) | rfl
theorem pn_485954 : plainName "com/example/orderloom/orderloom/WorkersAdaptsPinLaw" = true := by first | (simp [plainName, overriddenIn]; done) | decide +kernel
theorem pd_429545 : parseMethodDescriptor "(IIII)V" = some ⟨[.int, .int, .int, .int], none⟩ := by decide +kernel
theorem pd_428490 : parseMethodDescriptor "()Z" = some ⟨[], some .boolean⟩ := by decide +kernel
theorem pd_964398 : parseMethodDescriptor "(IJ)I" = some ⟨[.int, .long], some .int⟩ := by decide +kernel
set_option maxRecDepth 65536 in
set_option maxHeartbeats 40000000 in
theorem mt_law (l : Launch) (Z : State) (a0 : Array Value) (hw : oHw a0 Z) (h0 : Heap) (n0 : Nat) (Z0 : n0 ≤ h0.size) (x0 : Int32) (x1 : Int32) (x2 : Int32) (x3 : Int32) (x4 : Int64)  :
    oMet l Z x code maxLocals ret tables_1 room_1 16 128 n0 #[.int x0, .int x1, .int x2, .int x3, .long x4] h0 (fun v h => v = some (.int 1)) := by
  refine oMet.intro (plainFor_of_name pn_485954) (fun m => ef_0 m x0 x1 x2 x3 x4) ?_
  intro op oe os m obl omt ocd C
  refine oIconst C at_0 (z := 1) rfl rfl ?_
  refine oIloadN C at_1 rfl rfl ?_
  refine oBipush C at_2 (z := 63) rfl rfl ?_
  refine oIand C at_4 rfl ?_
  refine oIadd C at_5 rfl ?_
  obtain ⟨mi, e_mi⟩ : ∃ z, z = ((1 : Int32) + (x0 &&& (63 : Int32))) := ⟨_, rfl⟩
  refine oCastI e_mi.symm ?_
  have r_mi := own_mi x0
  rw [← e_mi] at r_mi
  refine oIstore C at_6 (Ls' := #[.val (.int x0), .val (.int x1), .val (.int x2), .val (.int x3), .val (.long x4), .second, .val (.int mi), .unset, .unset, .unset, .unset, .unset, .unset, .unset, .unset, .unset, .unset]) rfl (q := 8) rfl ?_
  refine oIload C at_8 rfl rfl ?_
  refine oIloadN C at_10 rfl rfl ?_
  refine oLdc C (w0 hw) at_11 rfl ?_
  refine oIand C at_13 rfl ?_
  refine oBipush C at_14 (z := 65) rfl rfl ?_
  refine oIload C at_16 rfl rfl ?_
  refine oIsub C at_18 rfl ?_
  refine oIrem C at_19 (own_nz r_mi) rfl ?_
  refine oIadd C at_20 rfl ?_
  obtain ⟨ma, e_ma⟩ : ∃ z, z = (mi + ((x1 &&& (2147483647 : Int32)) % ((65 : Int32) - mi))) := ⟨_, rfl⟩
  refine oCastI e_ma.symm ?_
  have r_ma := own_ma x1 r_mi
  rw [← e_ma] at r_ma
  refine oIstore C at_21 (Ls' := #[.val (.int x0), .val (.int x1), .val (.int x2), .val (.int x3), .val (.long x4), .second, .val (.int mi), .val (.int ma), .unset, .unset, .unset, .unset, .unset, .unset, .unset, .unset, .unset]) rfl (q := 23) rfl ?_
  refine oIconst C at_23 (z := 1) rfl rfl ?_
  refine oIloadN C at_24 rfl rfl ?_
  refine oLdc C (w0 hw) at_25 rfl ?_
  refine oIand C at_27 rfl ?_
  refine oCallS C (w1 hw) (w2 hw) (w3 hw) (w4 hw) at_28 (by decide) pd_947237 rfl rfl (argsL := [.int 1, .int (x2 &&& (2147483647 : Int32))]) (rest := []) rfl (W := 0) rfl (q := 31) rfl (by decide) (by decide) (by decide) (by decide) (mt_fMaxI l Z a0 hw _ n0 Z0 (1 : Int32) (x2 &&& (2147483647 : Int32)) ) (oPureK ?_)
  obtain ⟨pe, e_pe⟩ : ∃ z, z = (fMaxI (1 : Int32) (x2 &&& (2147483647 : Int32))) := ⟨_, rfl⟩
  refine oCastI e_pe.symm ?_
  have r_pe := own_pe x2
  rw [← e_pe] at r_pe
  refine oIstore C at_31 (Ls' := #[.val (.int x0), .val (.int x1), .val (.int x2), .val (.int x3), .val (.long x4), .second, .val (.int mi), .val (.int ma), .val (.int pe), .unset, .unset, .unset, .unset, .unset, .unset, .unset, .unset]) rfl (q := 33) rfl ?_
  refine oIloadN C at_33 rfl rfl ?_
  refine oLdc C (w0 hw) at_34 rfl ?_
  refine oIand C at_36 rfl ?_
  refine oBipush C at_37 (z := 101) rfl rfl ?_
  refine oIrem C at_39 (by decide) rfl ?_
  obtain ⟨th, e_th⟩ : ∃ z, z = ((x3 &&& (2147483647 : Int32)) % (101 : Int32)) := ⟨_, rfl⟩
  refine oCastI e_th.symm ?_
  have r_th := own_th x3
  rw [← e_th] at r_th
  refine oIstore C at_40 (Ls' := #[.val (.int x0), .val (.int x1), .val (.int x2), .val (.int x3), .val (.long x4), .second, .val (.int mi), .val (.int ma), .val (.int pe), .val (.int th), .unset, .unset, .unset, .unset, .unset, .unset, .unset]) rfl (q := 42) rfl ?_
  refine oLload C at_42 rfl rfl ?_
  refine oLdc2 C (w5 hw) at_44 rfl ?_
  refine oLand C at_47 rfl ?_
  refine oIload C at_48 rfl rfl ?_
  refine oI2L C at_50 rfl ?_
  refine oLconst C at_51 (z := 1) rfl rfl ?_
  refine oLadd C at_52 rfl ?_
  refine oLrem C at_53 (own_nz2 r_pe) rfl ?_
  obtain ⟨cf, e_cf⟩ : ∃ z, z = ((x4 &&& (2147483647 : Int64)) - ((x4 &&& (2147483647 : Int64)) / ((pe.toInt64) + (1 : Int64))) * ((pe.toInt64) + (1 : Int64))) := ⟨_, rfl⟩
  refine oCastL e_cf.symm ?_
  refine oLstore C at_54 (Ls' := #[.val (.int x0), .val (.int x1), .val (.int x2), .val (.int x3), .val (.long x4), .second, .val (.int mi), .val (.int ma), .val (.int pe), .val (.int th), .val (.long cf), .second, .unset, .unset, .unset, .unset, .unset]) rfl (q := 56) rfl ?_
  refine oNew C (w6 hw) (w7 hw) (w8 hw) at_56 rfl (by decide) (by decide) fun a17 h17 g_a17 E17 X17 D17 => ?_
  have ge_a17 : n0 ≤ a17 := g_a17 ▸ Z0
  have f17_min : Fld Z h17 a17 "com/example/orderloom/orderloom/Workers" "min" "I" (.int 0) := D17 (Or.inr (w21 hw)) (ty := .int) (by decide)
  have f17_max : Fld Z h17 a17 "com/example/orderloom/orderloom/Workers" "max" "I" (.int 0) := D17 (Or.inr (w23 hw)) (ty := .int) (by decide)
  have f17_period : Fld Z h17 a17 "com/example/orderloom/orderloom/Workers" "period" "I" (.int 0) := D17 (Or.inr (w25 hw)) (ty := .int) (by decide)
  have f17_threshold : Fld Z h17 a17 "com/example/orderloom/orderloom/Workers" "threshold" "I" (.int 0) := D17 (Or.inr (w27 hw)) (ty := .int) (by decide)
  refine oDup C at_59 rfl rfl ?_
  refine oIload C at_60 rfl rfl ?_
  refine oIload C at_62 rfl rfl ?_
  refine oIload C at_64 rfl rfl ?_
  refine oIload C at_66 rfl rfl ?_
  have z19 := (Nat.le_trans Z0 E17.1)
  refine oCallC C (w9 hw) (w10 hw) (w8 hw) (w11 hw) at_68 rfl (by decide) pd_429545 rfl rfl (a := a17) (argsL := [.int mi, .int ma, .int pe, .int th]) (rest := [.ref a17]) rfl (W := 1) rfl (q := 71) rfl (by decide) (by decide) (by decide) (by decide) (mt_wk l Z a0 hw _ n0 z19 a17 mi ma pe th X17 ge_a17 f17_min f17_max f17_period f17_threshold (own_nlt rfl r_mi.1) (by rw [Int32.lt_iff_toInt_lt]; omega) (own_nlt' rfl r_ma.2) (own_nlt rfl r_pe) (own_nlt rfl r_th.1) (own_nlt' rfl r_th.2)) ?_
  rintro _ h18 ⟨rfl, K18, f18_min, f18_max, f18_period, f18_threshold⟩
  show oW _ _ _ _ _ _ _ _ _ _ _ _ _ _ _ (mkF m 71 #[.val (.int x0), .val (.int x1), .val (.int x2), .val (.int x3), .val (.long x4), .second, .val (.int mi), .val (.int ma), .val (.int pe), .val (.int th), .val (.long cf), .second, .unset, .unset, .unset, .unset, .unset] [.ref a17])
  refine oAstore C at_71 rfl (Ls' := #[.val (.int x0), .val (.int x1), .val (.int x2), .val (.int x3), .val (.long x4), .second, .val (.int mi), .val (.int ma), .val (.int pe), .val (.int th), .val (.long cf), .second, .val (.ref a17), .unset, .unset, .unset, .unset]) rfl (q := 73) rfl ?_
  refine oAload C at_73 rfl rfl rfl ?_
  have f20 := (X17.keep K18)
  have z21 := (Nat.le_trans z19 K18.1)
  refine oCallV C (w28 hw) (w29 hw) (w31 hw) (w30 hw) (w8 hw) (w32 hw) at_75 f20 (by decide) pd_428490 rfl rfl (a := a17) (argsL := []) (rest := []) rfl (W := 0) rfl (q := 78) rfl (by decide) (by decide) (by decide) (by decide) (mt_fAd l Z a0 hw _ n0 z21 a17 mi ma f18_min f18_max) (oPureK ?_)
  obtain ⟨ad, e_ad⟩ : ∃ z, z = (fAd mi ma) := ⟨_, rfl⟩
  refine oCastI e_ad.symm ?_
  refine oIstore C at_78 (Ls' := #[.val (.int x0), .val (.int x1), .val (.int x2), .val (.int x3), .val (.long x4), .second, .val (.int mi), .val (.int ma), .val (.int pe), .val (.int th), .val (.long cf), .second, .val (.ref a17), .val (.int ad), .unset, .unset, .unset]) rfl (q := 80) rfl ?_
  refine oIload C at_80 rfl rfl ?_
  refine oIload C at_82 rfl rfl ?_
  refine oIcmp_eq C at_84 (q := 91) (by decide) (by decide) (r := 87) rfl (fun hc84 => ?_) (fun hc84 => ?_)
  ·
   refine oIconst C at_91 (z := 0) rfl rfl ?_
   refine oIstore C at_92 (Ls' := #[.val (.int x0), .val (.int x1), .val (.int x2), .val (.int x3), .val (.long x4), .second, .val (.int mi), .val (.int ma), .val (.int pe), .val (.int th), .val (.long cf), .second, .val (.ref a17), .val (.int ad), .val (.int 0), .unset, .unset]) rfl (q := 94) rfl ?_
   refine oIload C at_94 rfl rfl ?_
   refine oIload C at_96 rfl rfl ?_
   refine oIcmp_eq C at_98 (q := 103) (by decide) (by decide) (r := 101) rfl (fun hc98 => ?_) (fun hq => absurd hq (not_not_intro (e_ad.trans (own_ad0 hc84))))
   refine oAload C at_103 rfl rfl rfl ?_
   refine oIload C at_105 rfl rfl ?_
   refine oLconst C at_107 (z := 0) rfl rfl ?_
   refine oCallV C (w33 hw) (w34 hw) (w36 hw) (w35 hw) (w8 hw) (w37 hw) at_108 f20 (by decide) pd_964398 rfl rfl (a := a17) (argsL := [.int mi, .long 0]) (rest := []) rfl (W := 0) rfl (q := 111) rfl (by decide) (by decide) (by decide) (by decide) (mt_fNext l Z a0 hw _ n0 z21 a17 mi (0 : Int64) th pe ma mi f18_threshold f18_period f18_max f18_min) (oPureK ?_)
   refine oIstore C at_111 (Ls' := #[.val (.int x0), .val (.int x1), .val (.int x2), .val (.int x3), .val (.long x4), .second, .val (.int mi), .val (.int ma), .val (.int pe), .val (.int th), .val (.long cf), .second, .val (.ref a17), .val (.int ad), .val (.int 0), .val (.int (fNext mi (0 : Int64) th pe ma mi)), .unset]) rfl (q := 113) rfl ?_
   refine oIload C at_113 rfl rfl ?_
   refine oIf_eq C at_115 (q := 129) (by decide) (by decide) (r := 118) rfl (fun hc115 => ?_) (fun hq => absurd hq (not_not_intro (e_ad.trans (own_ad0 hc84))))
   refine oIload C at_129 rfl rfl ?_
   refine oIload C at_131 rfl rfl ?_
   refine oIcmp_eq C at_133 (q := 138) (by decide) (by decide) (r := 136) rfl (fun hc133 => ?_) (fun hq => absurd hq (not_not_intro (own_up0 _ _ _ hc84 r_mi)))
   refine oAload C at_138 rfl rfl rfl ?_
   refine oIload C at_140 rfl rfl ?_
   refine oLload C at_142 rfl rfl ?_
   refine oCallV C (w33 hw) (w34 hw) (w36 hw) (w35 hw) (w8 hw) (w37 hw) at_144 f20 (by decide) pd_964398 rfl rfl (a := a17) (argsL := [.int mi, .long cf]) (rest := []) rfl (W := 0) rfl (q := 147) rfl (by decide) (by decide) (by decide) (by decide) (mt_fNext l Z a0 hw _ n0 z21 a17 mi cf th pe ma mi f18_threshold f18_period f18_max f18_min) (oPureK ?_)
   refine oIstore C at_147 (Ls' := #[.val (.int x0), .val (.int x1), .val (.int x2), .val (.int x3), .val (.long x4), .second, .val (.int mi), .val (.int ma), .val (.int pe), .val (.int th), .val (.long cf), .second, .val (.ref a17), .val (.int ad), .val (.int 0), .val (.int (fNext mi (0 : Int64) th pe ma mi)), .val (.int (fNext mi cf th pe ma mi))]) rfl (q := 149) rfl ?_
   refine oIload C at_149 rfl rfl ?_
   refine oIf_ne C at_151 (q := 163) (by decide) (by decide) (r := 154) rfl (fun hq => absurd hq (not_not_intro (e_ad.trans (own_ad0 hc84)))) (fun hc151 => ?_)
   refine oIload C at_154 rfl rfl ?_
   refine oIload C at_156 rfl rfl ?_
   refine oIcmp_eq C at_158 (q := 163) (by decide) (by decide) (r := 161) rfl (fun hc158 => ?_) (fun hq => absurd hq (not_not_intro (own_up0 _ _ _ hc84 r_mi)))
   refine oIconst C at_163 (z := 1) rfl rfl ?_
   refine oRetZ C at_164 (z' := (1 : Int32)) rfl (by decide) (by decide) ?_
   exact rfl
  ·
   refine oIconst C at_87 (z := 1) rfl rfl ?_
   refine oGoto C at_88 (q := 92) (by decide) (by decide) ?_
   refine oIstore C at_92 (Ls' := #[.val (.int x0), .val (.int x1), .val (.int x2), .val (.int x3), .val (.long x4), .second, .val (.int mi), .val (.int ma), .val (.int pe), .val (.int th), .val (.long cf), .second, .val (.ref a17), .val (.int ad), .val (.int 1), .unset, .unset]) rfl (q := 94) rfl ?_
   refine oIload C at_94 rfl rfl ?_
   refine oIload C at_96 rfl rfl ?_
   refine oIcmp_eq C at_98 (q := 103) (by decide) (by decide) (r := 101) rfl (fun hc98 => ?_) (fun hq => absurd hq (not_not_intro (e_ad.trans (own_ad1 hc84 r_ma.1))))
   refine oAload C at_103 rfl rfl rfl ?_
   refine oIload C at_105 rfl rfl ?_
   refine oLconst C at_107 (z := 0) rfl rfl ?_
   refine oCallV C (w33 hw) (w34 hw) (w36 hw) (w35 hw) (w8 hw) (w37 hw) at_108 f20 (by decide) pd_964398 rfl rfl (a := a17) (argsL := [.int mi, .long 0]) (rest := []) rfl (W := 0) rfl (q := 111) rfl (by decide) (by decide) (by decide) (by decide) (mt_fNext l Z a0 hw _ n0 z21 a17 mi (0 : Int64) th pe ma mi f18_threshold f18_period f18_max f18_min) (oPureK ?_)
   refine oIstore C at_111 (Ls' := #[.val (.int x0), .val (.int x1), .val (.int x2), .val (.int x3), .val (.long x4), .second, .val (.int mi), .val (.int ma), .val (.int pe), .val (.int th), .val (.long cf), .second, .val (.ref a17), .val (.int ad), .val (.int 1), .val (.int (fNext mi (0 : Int64) th pe ma mi)), .unset]) rfl (q := 113) rfl ?_
   refine oIload C at_113 rfl rfl ?_
   refine oIf_eq C at_115 (q := 129) (by decide) (by decide) (r := 118) rfl (fun hq => absurd hq (fun q => absurd ((e_ad.trans (own_ad1 hc84 r_ma.1)).symm.trans q) (by decide))) (fun hc115 => ?_)
   refine oIload C at_118 rfl rfl ?_
   refine oIload C at_120 rfl rfl ?_
   refine oIconst C at_122 (z := 1) rfl rfl ?_
   refine oIadd C at_123 rfl ?_
   refine oIcmp_eq C at_124 (q := 138) (by decide) (by decide) (r := 127) rfl (fun hc124 => ?_) (fun hq => absurd hq (not_not_intro (own_up1 hc84 r_mi r_ma.1 r_th r_pe)))
   refine oAload C at_138 rfl rfl rfl ?_
   refine oIload C at_140 rfl rfl ?_
   refine oLload C at_142 rfl rfl ?_
   refine oCallV C (w33 hw) (w34 hw) (w36 hw) (w35 hw) (w8 hw) (w37 hw) at_144 f20 (by decide) pd_964398 rfl rfl (a := a17) (argsL := [.int mi, .long cf]) (rest := []) rfl (W := 0) rfl (q := 147) rfl (by decide) (by decide) (by decide) (by decide) (mt_fNext l Z a0 hw _ n0 z21 a17 mi cf th pe ma mi f18_threshold f18_period f18_max f18_min) (oPureK ?_)
   refine oIstore C at_147 (Ls' := #[.val (.int x0), .val (.int x1), .val (.int x2), .val (.int x3), .val (.long x4), .second, .val (.int mi), .val (.int ma), .val (.int pe), .val (.int th), .val (.long cf), .second, .val (.ref a17), .val (.int ad), .val (.int 1), .val (.int (fNext mi (0 : Int64) th pe ma mi)), .val (.int (fNext mi cf th pe ma mi))]) rfl (q := 149) rfl ?_
   refine oIload C at_149 rfl rfl ?_
   refine oIf_ne C at_151 (q := 163) (by decide) (by decide) (r := 154) rfl (fun hc151 => ?_) (fun hq => absurd hq (fun q => absurd ((e_ad.trans (own_ad1 hc84 r_ma.1)).symm.trans q) (by decide)))
   refine oIconst C at_163 (z := 1) rfl rfl ?_
   refine oRetZ C at_164 (z' := (1 : Int32)) rfl (by decide) (by decide) ?_
   exact rfl
set_option maxRecDepth 65536 in
set_option maxHeartbeats 40000000 in
theorem comes_1 {Post : Tables → Env → Array Value → State → Outcome → State → Prop} (hpost : ∀ tb e args s v u, (limb_1_1.after args s (.returned v) u = true ∧ limb_1_2.after args s (.returned v) u = true ∧ True) → FrameEnd s (.returned v) u (Jvm.fieldLocs frame_1_writes args s ++ Jvm.arrayLocs frame_1_arrays args s ++ Jvm.staticLocs frame_1_statics s) 16 128 → Post tb e args s (.returned v) u) :
    ArmFor flags0 classFile x code maxLocals ret World_1 tables_1 room_1 Calls_1 rest_1 Pre_1 Post := by
  intro l hfl _ _ p e ha hc hk s m args below hf hA hF happ hP
  obtain ⟨hcalls, hrest, hpre⟩ := hP
  obtain ⟨-, -, -, hnamed, -, -, -, hat⟩ := (Spec.applies_iff hf).mp happ
  obtain ⟨hg, hn⟩ := and_e (Cond.before_iff.mp (show (Jvm.Cond.and given_1 narrow_1).before args s = true from hpre))
  obtain ⟨h1, k0⟩ := and_e hg
  obtain ⟨c0, k1⟩ := and_e k0
  obtain ⟨c1, k2⟩ := and_e k1
  obtain ⟨c2, k3⟩ := and_e k2
  obtain ⟨c3, k4⟩ := and_e k3
  obtain ⟨v0, v1, v2, v3, v4, rfl⟩ : ∃ v0 v1 v2 v3 v4 : Value, args = #[v0, v1, v2, v3, v4] := by
    have hs : args.size = 5 := by simpa [Cond.value, given_1] using h1
    obtain ⟨L⟩ := args
    match L, hs with
    | [v0, v1, v2, v3, v4], _ => exact ⟨v0, v1, v2, v3, v4, rfl⟩
  have hw := fun d (hd : d ∈ tables_1) => atoms_spec (ws := Jvm.Cond.code x code maxLocals ret :: tables_1) hat d (List.mem_cons_of_mem _ hd)
  have hfit : Fit s := fun {y c} hc i hi => by
    obtain ⟨ha, rfl⟩ := Array.getElem?_eq_some_iff.mp hc
    have q := List.all_eq_true.mp ((Array.all_eq_true_iff_forall_mem.mp hF) _ (Array.getElem_mem ha)) i (List.mem_range.mpr hi)
    simpa [Array.getElem?_eq_getElem hi] using q
  obtain ⟨i0, e0⟩ := is_v c0
  obtain rfl : v0 = (.int i0) := Option.some.inj e0
  obtain ⟨i1, e1⟩ := is_v c1
  obtain rfl : v1 = (.int i1) := Option.some.inj e1
  obtain ⟨i2, e2⟩ := is_v c2
  obtain rfl : v2 = (.int i2) := Option.some.inj e2
  obtain ⟨i3, e3⟩ := is_v c3
  obtain rfl : v3 = (.int i3) := Option.some.inj e3
  obtain ⟨i4, e4⟩ := isL_v k4
  obtain rfl : v4 = (.long i4) := Option.some.inj e4
  obtain ⟨n, o, h1, h2, h3, _, L, rfl, ⟨N, rfl⟩, hq⟩ := mt_law l s _ hw s.heap s.heap.size (Nat.le_refl _) i0 i1 i2 i3 i4  p e ha hc hk s m _ below hf ((Spec.applies_iff_loose hf).mp happ).1 ⟨rfl, State.Warmed39.refl s, rfl⟩ trivial
  refine ⟨n, _, h1, h2, h3, hpost _ _ _ _ _ _ ⟨Cond.after_iff.mpr rfl, Cond.after_iff.mpr (eq_i res_at (Term.int_eval (1)) rfl), trivial⟩ ⟨hq.1, hq.2.1, (hq.2.2.sift fun y hy => Or.inr (N y hy)).mono (by decide) (by decide)⟩⟩
theorem main_1_1 : Claimed_1_1 := comes_1 fun _ _ _ _ _ _ h hF => ⟨h.1, hF⟩
theorem main_1_2 : Claimed_1_2 := comes_1 fun _ _ _ _ _ _ h hF => ⟨h.2.1, hF⟩
end Jvm.Pilot.@@N@@
namespace Jvm.Pilot.@@N@@
open Jvm Jvm.ClassFile Sem Op Lib Jvm.Free Jvm.Stand Jvm.Pilot.@@N@@.Jvm.D
/-! MADE BY PROGRAM (witnessworld.py) out of the Statement's table words and the real class files: 11 classes; the members and pool entries that the words name. The judged class is class 1, her method 1. -/
namespace start1
open Jvm.ClassFile
def u (s : String) : CpInfo := .utf8 (stringToUtf16 s)
/-- a pool by its gaps: so many unusable entries, then the entry; so many at the end -/
def gap : Nat → List CpInfo → List CpInfo
  | 0, r => r
  | n + 1, r => .unusable :: gap n r
def poolList (es : List (Nat × CpInfo)) (last : Nat) : List CpInfo := es.foldr (fun e r => gap e.1 (e.2 :: r)) (gap last [])
def pool (es : List (Nat × CpInfo)) (last : Nat) : Array CpInfo := ⟨poolList es last⟩
def fileOf (pool : Array CpInfo) (this : Nat) (attrs : Array Attribute := #[]) (ms : Array MethodInfo := #[]) (fl : Nat := 33) (sup : Nat := 0) (ifs : Array Nat := #[]) (fds : Array FieldInfo := #[]) : ClassFile where
  minorVersion := 0
  majorVersion := 65
  constantPool := pool
  accessFlags := fl
  thisClass := this
  superClass := sup
  interfaces := ifs
  fields := fds
  methods := ms
  attributes := attrs
def plain (name : String) (sup : Option ClassId) : Class where
  name := name
  kind := .ordinary
  loader := none
  accessFlags := 33
  super := sup
  interfaces := #[]
  cf := none
  fields := #[]
  methods := #[]
  instanceTypes := #[]
  staticTypes := #[]
  resolved := #[]
  callSites := []
  init := .initialized
  statics := none
  mirror := none

def pool0 : Array CpInfo := pool [(5, u "<init>"), (0, u "()V"), (1, .class_ 10), (1, u "java/lang/Object")] 113

def k0c0 : Code := { maxStack := 0, maxLocals := 1, code := object_method_1_code, exceptionTable := #[], attributes := #[] }
def k0m0 : Method := { name := "<init>", desc := "()V", sig := { parameters := [], returnType := none }, accessFlags := 1, code := some k0c0 }
/-- java/lang/Object -/
def k0 : Class := { plain "java/lang/Object" none with
  accessFlags := 33
  interfaces := #[]
  cf := some (fileOf pool0 8 #[] #[{ accessFlags := 1, nameIndex := 5, descriptorIndex := 6, attributes := #[] }] 33 0 #[] #[])
  fields := #[]
  methods := #[k0m0]
  instanceTypes := #[]
  staticTypes := #[]
  resolved := Array.replicate 124 none
  statics := none }

def pool1 : Array CpInfo := pool [(2, .class_ 4), (1, u "java/lang/Object"), (0, u "<init>"), (0, u "()V"), (0, .integer 2147483647), (0, .methodref 9 10), (0, .class_ 11), (0, .nameAndType 12 13), (0, u "java/lang/Math"), (0, u "max"), (0, u "(II)I"), (0, .long 2147483647), (1, .class_ 17), (0, u "com/example/orderloom/orderloom/Workers"), (0, .methodref 16 19), (0, .nameAndType 5 20), (0, u "(IIII)V"), (0, .methodref 16 22), (0, .nameAndType 23 24), (0, u "adapts"), (0, u "()Z"), (0, .methodref 16 26), (0, .nameAndType 27 28), (0, u "next"), (0, u "(IJ)I"), (0, .class_ 30), (0, u "com/example/orderloom/orderloom/WorkersAdaptsPinLaw"), (2, u "law"), (0, u "(IIIIJ)Z")] 3

def k1m0 : Method := { name := "<init>", desc := "()V", sig := { parameters := [], returnType := none }, accessFlags := 1, code := none }
def k1c1 : Code := { maxStack := 6, maxLocals := 17, code := code, exceptionTable := #[], attributes := #[] }
def k1m1 : Method := { name := "law", desc := "(IIIIJ)Z", sig := { parameters := [.int, .int, .int, .int, .long], returnType := some .boolean }, accessFlags := 9, code := some k1c1 }
/-- com/example/orderloom/orderloom/WorkersAdaptsPinLaw -/
def k1 : Class := { plain "com/example/orderloom/orderloom/WorkersAdaptsPinLaw" (some 0) with
  accessFlags := 49
  interfaces := #[]
  cf := some (fileOf pool1 29 #[] #[{ accessFlags := 1, nameIndex := 5, descriptorIndex := 6, attributes := #[] }, { accessFlags := 9, nameIndex := 33, descriptorIndex := 34, attributes := #[] }] 49 2 #[] #[])
  fields := #[]
  methods := #[k1m0, k1m1]
  instanceTypes := #[]
  staticTypes := #[]
  resolved := Array.replicate 38 none
  statics := none }

def pool2 : Array CpInfo := pool [(1, .class_ 2), (0, u "java/lang/Math"), (1, .class_ 6), (1, u "java/lang/Object"), (0, u "<init>"), (0, u "()V"), (89, .class_ 100), (1, u "java/lang/Math$RandomNumberGeneratorHolder"), (71, u "negativeZeroFloatBits"), (0, u "J"), (2, u "negativeZeroDoubleBits"), (21, u "max"), (2, u "min"), (43, u "$assertionsDisabled"), (0, u "Z"), (88, u "(II)I"), (2, u "twoToTheDoubleScaleDown"), (0, u "D"), (4, u "twoToTheDoubleScaleUp"), (9, u "E"), (3, u "PI"), (2, u "TAU"), (2, u "DEGREES_TO_RADIANS"), (0, u "RADIANS_TO_DEGREES")] 94

def k2m0 : Method := { name := "<init>", desc := "()V", sig := { parameters := [], returnType := none }, accessFlags := 2, code := none }
def k2c1 : Code := { maxStack := 2, maxLocals := 2, code := jdk_29_method_65_code, exceptionTable := #[], attributes := #[] }
def k2m1 : Method := { name := "max", desc := "(II)I", sig := { parameters := [.int, .int], returnType := some .int }, accessFlags := 9, code := some k2c1 }
def k2c2 : Code := { maxStack := 2, maxLocals := 2, code := jdk_29_method_69_code, exceptionTable := #[], attributes := #[] }
def k2m2 : Method := { name := "min", desc := "(II)I", sig := { parameters := [.int, .int], returnType := some .int }, accessFlags := 9, code := some k2c2 }
/-- java/lang/Math -/
def k2 : Class := { plain "java/lang/Math" (some 0) with
  accessFlags := 49
  interfaces := #[]
  cf := some (fileOf pool2 1 #[.nestMembers #[98]] #[{ accessFlags := 2, nameIndex := 7, descriptorIndex := 8, attributes := #[] }, { accessFlags := 9, nameIndex := 198, descriptorIndex := 335, attributes := #[] }, { accessFlags := 9, nameIndex := 201, descriptorIndex := 335, attributes := #[] }] 49 4 #[] #[{ accessFlags := 25, nameIndex := 354, descriptorIndex := 339, attributes := #[] }, { accessFlags := 25, nameIndex := 358, descriptorIndex := 339, attributes := #[] }, { accessFlags := 25, nameIndex := 361, descriptorIndex := 339, attributes := #[] }, { accessFlags := 26, nameIndex := 364, descriptorIndex := 339, attributes := #[] }, { accessFlags := 26, nameIndex := 365, descriptorIndex := 339, attributes := #[] }, { accessFlags := 26, nameIndex := 172, descriptorIndex := 173, attributes := #[] }, { accessFlags := 26, nameIndex := 176, descriptorIndex := 173, attributes := #[] }, { accessFlags := 8, nameIndex := 344, descriptorIndex := 339, attributes := #[] }, { accessFlags := 8, nameIndex := 338, descriptorIndex := 339, attributes := #[] }, { accessFlags := 4120, nameIndex := 245, descriptorIndex := 246, attributes := #[] }])
  fields := #[{ name := "E", type := .double, accessFlags := 25, slot := 0, constantValue := 0 }, { name := "PI", type := .double, accessFlags := 25, slot := 1, constantValue := 0 }, { name := "TAU", type := .double, accessFlags := 25, slot := 2, constantValue := 0 }, { name := "DEGREES_TO_RADIANS", type := .double, accessFlags := 26, slot := 3, constantValue := 0 }, { name := "RADIANS_TO_DEGREES", type := .double, accessFlags := 26, slot := 4, constantValue := 0 }, { name := "negativeZeroFloatBits", type := .long, accessFlags := 26, slot := 5, constantValue := 0 }, { name := "negativeZeroDoubleBits", type := .long, accessFlags := 26, slot := 6, constantValue := 0 }, { name := "twoToTheDoubleScaleUp", type := .double, accessFlags := 8, slot := 7, constantValue := 0 }, { name := "twoToTheDoubleScaleDown", type := .double, accessFlags := 8, slot := 8, constantValue := 0 }, { name := "$assertionsDisabled", type := .boolean, accessFlags := 4120, slot := 9, constantValue := 0 }]
  methods := #[k2m0, k2m1, k2m2]
  instanceTypes := #[]
  staticTypes := #[.double, .double, .double, .double, .double, .long, .long, .double, .double, .boolean]
  resolved := Array.replicate 460 none
  statics := none }

def pool3 : Array CpInfo := pool [(1, .methodref 2 3), (0, .class_ 4), (0, .nameAndType 5 6), (0, u "java/lang/Object"), (0, u "<init>"), (0, u "()V"), (0, .class_ 8), (0, u "java/lang/Record")] 13

def k3c0 : Code := { maxStack := 1, maxLocals := 1, code := jdk_30_method_1_code, exceptionTable := #[], attributes := #[] }
def k3m0 : Method := { name := "<init>", desc := "()V", sig := { parameters := [], returnType := none }, accessFlags := 4, code := some k3c0 }
/-- java/lang/Record -/
def k3 : Class := { plain "java/lang/Record" (some 0) with
  accessFlags := 1057
  interfaces := #[]
  cf := some (fileOf pool3 7 #[] #[{ accessFlags := 4, nameIndex := 5, descriptorIndex := 6, attributes := #[] }] 1057 2 #[] #[])
  fields := #[]
  methods := #[k3m0]
  instanceTypes := #[]
  staticTypes := #[]
  resolved := Array.replicate 22 none
  statics := none }

def pool4 : Array CpInfo := pool [(1, .methodref 2 3), (0, .class_ 4), (0, .nameAndType 5 6), (0, u "java/lang/Record"), (0, u "<init>"), (0, u "()V"), (15, .fieldref 23 24), (0, .class_ 25), (0, .nameAndType 26 27), (0, u "com/example/orderloom/orderloom/Workers"), (0, u "min"), (0, u "I"), (0, .fieldref 23 29), (0, .nameAndType 30 27), (0, u "max"), (0, .fieldref 23 32), (0, .nameAndType 33 27), (0, u "period"), (0, .fieldref 23 35), (0, .nameAndType 36 27), (0, u "threshold"), (2, u "(IIII)V"), (0, .long 100), (1, .methodref 43 44), (0, .class_ 45), (0, .nameAndType 26 46), (0, u "java/lang/Math"), (0, u "(II)I"), (0, .methodref 43 48), (0, .nameAndType 30 46), (12, u "DEFAULT_PERIOD"), (2, u "DEFAULT_THRESHOLD"), (7, u "adapts"), (0, u "()Z"), (0, u "next"), (0, u "(IJ)I")] 38

def k4c0 : Code := { maxStack := 4, maxLocals := 5, code := prog_25_method_1_code, exceptionTable := #[], attributes := #[] }
def k4m0 : Method := { name := "<init>", desc := "(IIII)V", sig := { parameters := [.int, .int, .int, .int], returnType := none }, accessFlags := 1, code := some k4c0 }
def k4c1 : Code := { maxStack := 2, maxLocals := 1, code := prog_25_method_3_code, exceptionTable := #[], attributes := #[] }
def k4m1 : Method := { name := "adapts", desc := "()Z", sig := { parameters := [], returnType := some .boolean }, accessFlags := 1, code := some k4c1 }
def k4c2 : Code := { maxStack := 6, maxLocals := 4, code := prog_25_method_4_code, exceptionTable := #[], attributes := #[] }
def k4m2 : Method := { name := "next", desc := "(IJ)I", sig := { parameters := [.int, .long], returnType := some .int }, accessFlags := 0, code := some k4c2 }
/-- com/example/orderloom/orderloom/Workers -/
def k4 : Class := { plain "com/example/orderloom/orderloom/Workers" (some 3) with
  accessFlags := 49
  interfaces := #[]
  cf := some (fileOf pool4 23 #[] #[{ accessFlags := 1, nameIndex := 5, descriptorIndex := 39, attributes := #[] }, { accessFlags := 1, nameIndex := 72, descriptorIndex := 73, attributes := #[] }, { accessFlags := 0, nameIndex := 74, descriptorIndex := 75, attributes := #[] }] 49 2 #[] #[{ accessFlags := 18, nameIndex := 26, descriptorIndex := 27, attributes := #[] }, { accessFlags := 18, nameIndex := 30, descriptorIndex := 27, attributes := #[] }, { accessFlags := 18, nameIndex := 33, descriptorIndex := 27, attributes := #[] }, { accessFlags := 18, nameIndex := 36, descriptorIndex := 27, attributes := #[] }, { accessFlags := 25, nameIndex := 61, descriptorIndex := 27, attributes := #[] }, { accessFlags := 25, nameIndex := 64, descriptorIndex := 27, attributes := #[] }])
  fields := #[{ name := "min", type := .int, accessFlags := 18, slot := 0, constantValue := 0 }, { name := "max", type := .int, accessFlags := 18, slot := 1, constantValue := 0 }, { name := "period", type := .int, accessFlags := 18, slot := 2, constantValue := 0 }, { name := "threshold", type := .int, accessFlags := 18, slot := 3, constantValue := 0 }, { name := "DEFAULT_PERIOD", type := .int, accessFlags := 25, slot := 0, constantValue := 0 }, { name := "DEFAULT_THRESHOLD", type := .int, accessFlags := 25, slot := 1, constantValue := 0 }]
  methods := #[k4m0, k4m1, k4m2]
  instanceTypes := #[.int, .int, .int, .int]
  staticTypes := #[.int, .int]
  resolved := Array.replicate 114 none
  statics := none }

def pool5 : Array CpInfo := pool [(1, u "java/lang/Cloneable"), (0, .class_ 1), (0, u "java/lang/Object"), (0, .class_ 3)] 3

/-- java/lang/Cloneable -/
def k5 : Class := { plain "java/lang/Cloneable" (some 0) with
  accessFlags := 1537
  interfaces := #[]
  cf := some (fileOf pool5 2 #[] #[] 1537 4 #[] #[])
  fields := #[]
  methods := #[]
  instanceTypes := #[]
  staticTypes := #[]
  resolved := Array.replicate 8 none
  statics := none }

def pool6 : Array CpInfo := pool [(1, u "java/io/Serializable"), (0, .class_ 1), (0, u "java/lang/Object"), (0, .class_ 3)] 3

/-- java/io/Serializable -/
def k6 : Class := { plain "java/io/Serializable" (some 0) with
  accessFlags := 1537
  interfaces := #[]
  cf := some (fileOf pool6 2 #[] #[] 1537 4 #[] #[])
  fields := #[]
  methods := #[]
  instanceTypes := #[]
  staticTypes := #[]
  resolved := Array.replicate 8 none
  statics := none }

/-- the primitive byte -/
def k7 : Class := { plain "byte" none with kind := .primitive 'B', accessFlags := 0x411 }
/-- [B -/
def k8 : Class := { plain "[B" (some 0) with kind := .array 7 .byte, interfaces := #[5, 6], accessFlags := 1041 }

/-- the primitive int -/
def k9 : Class := { plain "int" none with kind := .primitive 'I', accessFlags := 0x411 }
/-- [I -/
def k10 : Class := { plain "[I" (some 0) with kind := .array 9 .int, interfaces := #[5, 6], accessFlags := 1041 }

def heap : Heap := #[]
def classes : Array Class := #[k0, k1, k2, k3, k4, k5, k6, k7, k8, k9, k10]
def interned : List (Array UInt16 × Addr) := []
def slotsUsed : Nat := 0
def theMethod : MethodId := ⟨1, 1⟩
def args0 : Array Value := #[.int 5, .int 5, .int 5, .int 5, .long 9]
def aboutOver (below : List Frame) : State where
  vm := { classes := classes, interned := interned.toArray }
  heap := heap
  slotsUsed := slotsUsed
  threads := #[{ frames := .invoking theMethod args0 :: below }]
def below0 : List Frame := [.native { method := ⟨0, 0⟩, args := #[] }]
def about1 : State := aboutOver below0
def p0 : Program := .bare "" "" ""
def e0 : Env := launch0.env 0 0 0
theorem w_frames : about1.frames = Frame.invoking theMethod args0 :: below0 := rfl
set_option maxRecDepth 65536 in
theorem w_args : argsFit about1.vm theMethod args0 = true := by decide +kernel
set_option maxRecDepth 65536 in
theorem w_heap : heapFits about1 = true := by decide +kernel
set_option maxRecDepth 65536 in
theorem w_runnable : about1.curStatus? = some .runnable := by decide +kernel
set_option maxRecDepth 65536 in
theorem w_alone : about1.alone = true := by decide +kernel
set_option maxRecDepth 65536 in
theorem w_named : about1.methodNamed? x = some theMethod := by decide +kernel
set_option maxRecDepth 65536 in
theorem w_hears : about1.hears theMethod below0 = true := by decide +kernel
set_option maxRecDepth 65536 in
theorem w_ripe : about1.ripe theMethod args0 below0 = true := by decide +kernel
theorem w_running : about1.status = .running := rfl
set_option maxRecDepth 65536 in
theorem w_room : about1.hasRoom e0.platform room_1 = true :=
  launch0.hasRoom_least _ room_1 (by decide +kernel) (by decide +kernel) (by decide +kernel) (by decide +kernel) (by decide +kernel) (by decide +kernel)
theorem allAtoms_all (ts : List Jvm.Cond) (a : Array Jvm.Value) (st : Jvm.State) : (allAtoms ts).before a st = ts.all (fun c => c.before a st) := by
  induction ts with
  | nil => rfl
  | cons c t ih =>
    show (Jvm.Cond.and c (allAtoms t)).before a st = _
    rw [Jvm.Cond.before_and, ih, List.all_cons]
def words1 : List Jvm.Cond := Jvm.Cond.code x code maxLocals ret :: tables_1
/-- a 'code' word, met by the world's own term for the bytes: nothing is compared byte by byte -/
theorem code_word {y : MethodName} {bytes : ByteArray} {mx : Nat} {rt : Option FieldType} {a : Array Value} {s : State} {m : MethodId} {meth : Method} {c : Code} (h1 : s.methodNamed? y = some m) (h2 : s.vm.method? m = some meth) (h3 : meth.code = some c) (h4 : c.code = bytes)
    (h5 : (c.maxLocals == mx && c.exceptionTable.isEmpty && decide (c.maxStack ≤ mostOperands) && decide (meth.sig.returnType = rt) && !meth.locks && decide (parseMethodDescriptor y.desc = some meth.sig)) = true) : (Jvm.Cond.code y bytes mx rt).before a s = true := by
  simp only [Bool.and_eq_true, beq_iff_eq, Bool.not_eq_true', decide_eq_true_eq] at h5
  obtain ⟨⟨⟨⟨⟨g1, g2⟩, g3⟩, g4⟩, g5⟩, g6⟩ := h5
  simp [Cond.before, Cond.holds, Cond.value, h1, h2, h3, h4, g1, g2, g3, g4, g5, g6]
def isCode : Jvm.Cond → Bool
  | .code _ _ _ _ => true
  | _ => false
theorem all_split {L : List Jvm.Cond} {P : Jvm.Cond → Bool} (h1 : L.all (fun c => isCode c || P c) = true) (h2 : ∀ c ∈ L.filter isCode, P c = true) : L.all P = true := by
  refine List.all_eq_true.mpr fun c hc => ?_
  have h := List.all_eq_true.mp h1 c hc
  rcases Bool.eq_false_or_eq_true (isCode c) with hi | hi
  · exact h2 c (List.mem_filter.mpr ⟨hc, hi⟩)
  · simpa [hi] using h
set_option maxRecDepth 65536 in
theorem w_c0 : (Jvm.Cond.code x code maxLocals ret).before args0 about1 = true := code_word (m := ⟨1, 1⟩) (meth := k1m1) (c := k1c1) (by decide +kernel) rfl rfl rfl (by decide +kernel)
set_option maxRecDepth 65536 in
theorem w_c1 : (Jvm.Cond.code ({ cls := "java/lang/Math", name := "max", desc := "(II)I" } : Jvm.MethodName) jdk_29_method_65_code (2 : Nat) (Option.some Jvm.ClassFile.FieldType.int)).before args0 about1 = true := code_word (m := ⟨2, 1⟩) (meth := k2m1) (c := k2c1) (by decide +kernel) rfl rfl rfl (by decide +kernel)
set_option maxRecDepth 65536 in
theorem w_c2 : (Jvm.Cond.code ({ cls := "com/example/orderloom/orderloom/Workers", name := "<init>", desc := "(IIII)V" } : Jvm.MethodName) prog_25_method_1_code (5 : Nat) (Option.none : Option Jvm.ClassFile.FieldType)).before args0 about1 = true := code_word (m := ⟨4, 0⟩) (meth := k4m0) (c := k4c0) (by decide +kernel) rfl rfl rfl (by decide +kernel)
set_option maxRecDepth 65536 in
theorem w_c3 : (Jvm.Cond.code ({ cls := "java/lang/Record", name := "<init>", desc := "()V" } : Jvm.MethodName) jdk_30_method_1_code (1 : Nat) (Option.none : Option Jvm.ClassFile.FieldType)).before args0 about1 = true := code_word (m := ⟨3, 0⟩) (meth := k3m0) (c := k3c0) (by decide +kernel) rfl rfl rfl (by decide +kernel)
set_option maxRecDepth 65536 in
theorem w_c4 : (Jvm.Cond.code ({ cls := "java/lang/Object", name := "<init>", desc := "()V" } : Jvm.MethodName) object_method_1_code (1 : Nat) (Option.none : Option Jvm.ClassFile.FieldType)).before args0 about1 = true := code_word (m := ⟨0, 0⟩) (meth := k0m0) (c := k0c0) (by decide +kernel) rfl rfl rfl (by decide +kernel)
set_option maxRecDepth 65536 in
theorem w_c5 : (Jvm.Cond.code ({ cls := "com/example/orderloom/orderloom/Workers", name := "adapts", desc := "()Z" } : Jvm.MethodName) prog_25_method_3_code (1 : Nat) (Option.some Jvm.ClassFile.FieldType.boolean)).before args0 about1 = true := code_word (m := ⟨4, 1⟩) (meth := k4m1) (c := k4c1) (by decide +kernel) rfl rfl rfl (by decide +kernel)
set_option maxRecDepth 65536 in
theorem w_c6 : (Jvm.Cond.code ({ cls := "com/example/orderloom/orderloom/Workers", name := "next", desc := "(IJ)I" } : Jvm.MethodName) prog_25_method_4_code (4 : Nat) (Option.some Jvm.ClassFile.FieldType.int)).before args0 about1 = true := code_word (m := ⟨4, 2⟩) (meth := k4m2) (c := k4c2) (by decide +kernel) rfl rfl rfl (by decide +kernel)
set_option maxRecDepth 65536 in
theorem w_c7 : (Jvm.Cond.code ({ cls := "java/lang/Math", name := "min", desc := "(II)I" } : Jvm.MethodName) jdk_29_method_69_code (2 : Nat) (Option.some Jvm.ClassFile.FieldType.int)).before args0 about1 = true := code_word (m := ⟨2, 2⟩) (meth := k2m2) (c := k2c2) (by decide +kernel) rfl rfl rfl (by decide +kernel)
def codes1 : List Jvm.Cond := [Jvm.Cond.code x code maxLocals ret, Jvm.Cond.code ({ cls := "java/lang/Math", name := "max", desc := "(II)I" } : Jvm.MethodName) jdk_29_method_65_code (2 : Nat) (Option.some Jvm.ClassFile.FieldType.int), Jvm.Cond.code ({ cls := "com/example/orderloom/orderloom/Workers", name := "<init>", desc := "(IIII)V" } : Jvm.MethodName) prog_25_method_1_code (5 : Nat) (Option.none : Option Jvm.ClassFile.FieldType), Jvm.Cond.code ({ cls := "java/lang/Record", name := "<init>", desc := "()V" } : Jvm.MethodName) jdk_30_method_1_code (1 : Nat) (Option.none : Option Jvm.ClassFile.FieldType), Jvm.Cond.code ({ cls := "java/lang/Object", name := "<init>", desc := "()V" } : Jvm.MethodName) object_method_1_code (1 : Nat) (Option.none : Option Jvm.ClassFile.FieldType), Jvm.Cond.code ({ cls := "com/example/orderloom/orderloom/Workers", name := "adapts", desc := "()Z" } : Jvm.MethodName) prog_25_method_3_code (1 : Nat) (Option.some Jvm.ClassFile.FieldType.boolean), Jvm.Cond.code ({ cls := "com/example/orderloom/orderloom/Workers", name := "next", desc := "(IJ)I" } : Jvm.MethodName) prog_25_method_4_code (4 : Nat) (Option.some Jvm.ClassFile.FieldType.int), Jvm.Cond.code ({ cls := "java/lang/Math", name := "min", desc := "(II)I" } : Jvm.MethodName) jdk_29_method_69_code (2 : Nat) (Option.some Jvm.ClassFile.FieldType.int)]
set_option maxRecDepth 65536 in
theorem codes_eq : words1.filter isCode = codes1 := rfl
theorem w_codes : ∀ c ∈ words1.filter isCode, c.before args0 about1 = true := by
  rw [codes_eq]
  intro c hc
  simp only [codes1, List.mem_cons, List.not_mem_nil, or_false] at hc
  rcases hc with rfl | rfl | rfl | rfl | rfl | rfl | rfl | rfl
  · exact w_c0
  · exact w_c1
  · exact w_c2
  · exact w_c3
  · exact w_c4
  · exact w_c5
  · exact w_c6
  · exact w_c7
set_option maxRecDepth 65536 in
theorem w_t1 : (words1.take 24).all (fun c => isCode c || c.before args0 about1) = true := by decide +kernel
set_option maxRecDepth 65536 in
theorem w_t2 : (words1.drop 24).all (fun c => isCode c || c.before args0 about1) = true := by decide +kernel
theorem w_tables : (allAtoms (Jvm.Cond.code x code maxLocals ret :: tables_1)).before args0 about1 = true := by
  rw [allAtoms_all]
  show words1.all (fun c => c.before args0 about1) = true
  refine all_split ?_ w_codes
  rw [← List.take_append_drop 24 words1, List.all_append, w_t1, w_t2]
  rfl
set_option maxRecDepth 65536 in
theorem w_case : (Jvm.Cond.and given_1 narrow_1).before args0 about1 = true := by decide +kernel
theorem w_applies : (headSpec (Jvm.Cond.code x code maxLocals ret :: tables_1) room_1).applies x e0.platform about1 = true :=
  (Spec.applies_iff w_frames).mpr ⟨w_running, w_runnable, w_alone, w_named, w_hears, w_ripe, w_room, w_tables⟩
theorem atStart : AtStart classFile x code maxLocals ret World_1 tables_1 room_1 Calls_1 rest_1 Pre_1 launch0 p0 e0 about1 theMethod args0 below0 :=
  ⟨lists_1, trivial, launch0.admits_env _ _ _, launch0.least_env, fairChoices_fair.cas, fairChoices_fair.clock, w_frames, w_args, w_heap, w_applies, trivial, trivial, w_case⟩
end start1
theorem witness_1 : WitnessClaimed_1 := ⟨start1.p0, start1.e0, start1.about1, start1.theMethod, start1.args0, start1.below0, start1.atStart⟩
end Jvm.Pilot.@@N@@
