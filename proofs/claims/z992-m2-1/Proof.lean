import JvmDerived
import JvmDerived.Pilot.@@N@@Statement
import JvmDerived.Pilot.@@N@@Code
set_option linter.unusedVariables false
set_option linter.unusedSimpArgs false
namespace Jvm.RoadKit
open Sem ClassFile Op Lib Jvm.Stand Jvm.Free Jvm.LawKit
section New
variable {p : Program} {l : Launch} {e : Env} {R : Room} {s : State} {m : MethodId} {args : Array Value} {below : List Frame} {meth : Method} {c : Code} {T : State} {locs : List Loc} {cells slots : Nat}
theorem retI (X : Stand p l e R s m args below meth c T locs cells slots) (hx : p.tables.exec = Jvm.exec) {pc : Nat} {Ls : Array Slot} {z : Int32} {rest : List Value} (hret : meth.sig.returnType = some .int) (hd : decode c.code pc = .ok (.ireturn, 1)) {fs : List Frame}
    (hl : ∀ (f : JFrame) (acts : List Action), f.method = m → f.locked = none → f.entered = [] → (doReturn e (T.setTop f) acts (some (.int z))).1 = T.setFrames fs) : Steps p.tables e below (T.setTop (mkF m pc Ls (.int z :: rest))) (T.setFrames fs) := by
  have hm' : T.vm.method? m = some meth := X.method'
  have hn : narrow .int (.int z) = .int z := rfl
  show Steps p.tables e below (T.setTop { method := m, pc := pc, locals := Ls, stack := _ :: rest, locked := none }) _
  jvm_step X.here [X.here.top, hx, hd, hm', hret, hn]
  first | (intro acts; rw [hl _ acts rfl rfl rfl]) | rw [hl _ _ rfl rfl rfl]
  exact Steps.refl _
end New
end Jvm.RoadKit
namespace Jvm.Pilot.@@N@@
open Jvm Jvm.ClassFile Sem Op Lib Jvm.Free Jvm.Stand Jvm.LawKit Jvm.RoadKit Bundle Jvm.Pilot.@@N@@.Jvm.D
section Own
variable {p : Program} {l : Launch} {e : Env} {R : Room} {s : State} {m : MethodId} {args : Array Value} {below : List Frame} {meth : Method} {c : Code} {bs : ByteArray} {ml : Nat} {own nm : String} {rt : Option FieldType} {Z : State} {F : State → Outcome → Prop} {n0 : Nat} {h h' : Heap} {cells slots : Nat} {pc q : Nat} {Ls Ls' : Array Slot} {st : List Value} {a0 : Array Value}
def oCx (p : Program) (s : State) (m : MethodId) (meth : Method) (c : Code) (bs : ByteArray) (ml : Nat) (own nm : String) (rt : Option FieldType) (Z : State) : Prop :=
  p.tables.exec = Jvm.exec ∧ c.code = bs ∧ c.maxLocals = ml ∧ s.vm.findClass own = some m.cls ∧ Z.Warmed39 s.vm ∧ meth.name = nm ∧ meth.sig.returnType = rt ∧ meth.locks = false
def oW (p : Program) (l : Launch) (e : Env) (R : Room) (s : State) (m : MethodId) (args : Array Value) (below : List Frame) (meth : Method) (c : Code) (F : State → Outcome → Prop) (n0 : Nat) (h : Heap) (cells slots : Nat) (f : JFrame) : Prop :=
  ∀ (T : State) (locs : List Loc), Stand p l e R s m args below meth c T locs cells slots → T.heap = h → Fr n0 locs → ∃ s₂ o, Steps p.tables e below (T.setTop f) s₂ ∧ s₂.status = .running ∧ Ended s₂ below o ∧ F s₂ o
def oFin (s : State) (n0 k n : Nat) (Q : Option Value → Heap → Prop) (s₂ : State) (o : Outcome) : Prop := ∃ v L, o = .returned v ∧ (Fr n0 L ∧ Q v s₂.heap) ∧ FrameEnd s o s₂ L k n
def oMet (l : Launch) (Z : State) (y : MethodName) (bs : ByteArray) (ml : Nat) (rt : Option FieldType) (ws : List Jvm.Cond) (R : Room) (k n n0 : Nat) (as' : Array Value) (h0 : Heap) (Q : Option Value → Heap → Prop) : Prop :=
  MetFree l y (head1 (Jvm.Cond.code y bs ml rt :: ws) R) (fun a U => a = as' ∧ Z.Warmed39 U.vm ∧ U.heap = h0) (fun _ _ _ _ _ => True) (fun _ U o U' => ∃ v L, o = .returned v ∧ (Fr n0 L ∧ Q v U'.heap) ∧ FrameEnd U o U' L k n)
theorem oMet.intro {y : MethodName} {ws : List Jvm.Cond} {k n : Nat} {as' : Array Value} {h0 : Heap} {Q : Option Value → Heap → Prop} (pn : plainFor y = true) (ef : ∀ m, entryFrame m as' ml = mkF m 0 Ls [])
    (body : ∀ (p : Program) (e : Env) (s : State) (m : MethodId) (below : List Frame) (meth : Method) (c : Code), oCx p s m meth c bs ml y.cls y.name rt Z → oW p l e R s m as' below meth c (oFin s n0 k n Q) n0 h0 0 0 (mkF m 0 Ls [])) :
    oMet l Z y bs ml rt ws R k n n0 as' h0 Q := by
  refine MetFree.of_bodySF pn hisR ?_
  intro p e s m args below meth c s₁ Bd hml0 hP hK
  obtain ⟨rfl, hZ, hh⟩ := hP
  have e0 : s₁.heap = h0 := by rw [← hh, Bd.state]; rfl
  have C : oCx p s m meth c bs ml y.cls y.name rt Z := ⟨Bd.exec, Bd.bytes, hml0, findClass_of_methodNamed Bd.named, hZ, (name_of_methodNamed Bd.named Bd.method).1, Bd.returns, Bd.notSynchronized⟩
  obtain ⟨s₂, o, h1, h2, h3, h4⟩ := body p e s m below meth c C s₁ [] (Stand.of_body Bd) e0 (Fr.nil n0)
  exact ⟨s₂, o, castTop (ef m) h1, h2, h3, h4⟩
theorem oMet.mono {y : MethodName} {ws : List Jvm.Cond} {k n : Nat} {as' : Array Value} {h0 : Heap} {Q Q' : Option Value → Heap → Prop} (M : oMet l Z y bs ml rt ws R k n n0 as' h0 Q) (hq : ∀ v h, Q v h → Q' v h) : oMet l Z y bs ml rt ws R k n n0 as' h0 Q' := by
  intro p e ha hc hk s m args below hf happ hP hK
  obtain ⟨n', o, h1, h2, h3, v, L, h4, ⟨h5, h6⟩, h7⟩ := M p e ha hc hk s m args below hf happ hP hK
  exact ⟨n', o, h1, h2, h3, v, L, h4, ⟨h5, hq _ _ h6⟩, h7⟩
theorem oW.of {f f' : JFrame} (k : ∀ (T : State) (locs : List Loc), Stand p l e R s m args below meth c T locs cells slots → ∀ t, Steps p.tables e below (T.setTop f') t → Steps p.tables e below (T.setTop f) t)
    (g : oW p l e R s m args below meth c F n0 h cells slots f') : oW p l e R s m args below meth c F n0 h cells slots f := fun T locs X eT N => by
  obtain ⟨s₂, o, h1, h2⟩ := g T locs X eT N
  exact ⟨s₂, o, k T locs X _ h1, h2⟩
theorem oIloadN (C : oCx p s m meth c bs ml own nm rt Z) {k : Fin 4} {v : Int32} (hd : decode bs pc = .ok (.iload_n k, 1)) (hl : Ls[k.val]? = some (.val (.int v))) (hq : pc + 1 = q) (g : oW p l e R s m args below meth c F n0 h cells slots (mkF m q Ls (.int v :: st))) : oW p l e R s m args below meth c F n0 h cells slots (mkF m pc Ls (st)) := by
  subst hq; exact oW.of (fun T locs X t k => XS.iloadN X.here C.1 rfl (hb C.2.1 hd) hl k) g
theorem oIload (C : oCx p s m meth c bs ml own nm rt Z) {k : Nat} {v : Int32} (hd : decode bs pc = .ok (.iload k, 2)) (hl : Ls[k]? = some (.val (.int v))) (hq : pc + 2 = q) (g : oW p l e R s m args below meth c F n0 h cells slots (mkF m q Ls (.int v :: st))) : oW p l e R s m args below meth c F n0 h cells slots (mkF m pc Ls (st)) := by
  subst hq; exact oW.of (fun T locs X t k => XS.iload X.here C.1 rfl (hb C.2.1 hd) hl k) g
theorem oLloadN (C : oCx p s m meth c bs ml own nm rt Z) {k : Fin 4} {v : Int64} (hd : decode bs pc = .ok (.lload_n k, 1)) (hl : Ls[k.val]? = some (.val (.long v))) (hq : pc + 1 = q) (g : oW p l e R s m args below meth c F n0 h cells slots (mkF m q Ls (.long v :: st))) : oW p l e R s m args below meth c F n0 h cells slots (mkF m pc Ls (st)) := by
  subst hq; exact oW.of (fun T locs X t k => XS.lloadN X.here C.1 rfl (hb C.2.1 hd) hl k) g
theorem oLload (C : oCx p s m meth c bs ml own nm rt Z) {k : Nat} {v : Int64} (hd : decode bs pc = .ok (.lload k, 2)) (hl : Ls[k]? = some (.val (.long v))) (hq : pc + 2 = q) (g : oW p l e R s m args below meth c F n0 h cells slots (mkF m q Ls (.long v :: st))) : oW p l e R s m args below meth c F n0 h cells slots (mkF m pc Ls (st)) := by
  subst hq; exact oW.of (fun T locs X t k => XS.lload X.here C.1 rfl (hb C.2.1 hd) hl k) g
theorem oAloadN (C : oCx p s m meth c bs ml own nm rt Z) {k : Fin 4} {v : Value} (hd : decode bs pc = .ok (.aload_n k, 1)) (hl : Ls[k.val]? = some (.val v)) (hv : v.isRef = true) (hq : pc + 1 = q) (g : oW p l e R s m args below meth c F n0 h cells slots (mkF m q Ls (v :: st))) : oW p l e R s m args below meth c F n0 h cells slots (mkF m pc Ls (st)) := by
  subst hq; exact oW.of (fun T locs X t k => XS.aloadN X.here C.1 rfl (hb C.2.1 hd) hl hv k) g
theorem oAload (C : oCx p s m meth c bs ml own nm rt Z) {k : Nat} {v : Value} (hd : decode bs pc = .ok (.aload k, 2)) (hl : Ls[k]? = some (.val v)) (hv : v.isRef = true) (hq : pc + 2 = q) (g : oW p l e R s m args below meth c F n0 h cells slots (mkF m q Ls (v :: st))) : oW p l e R s m args below meth c F n0 h cells slots (mkF m pc Ls (st)) := by
  subst hq; exact oW.of (fun T locs X t k => XS.aload X.here C.1 rfl (hb C.2.1 hd) hl hv k) g
theorem oIstoreN (C : oCx p s m meth c bs ml own nm rt Z) {k : Fin 4} {v : Int32} (hd : decode bs pc = .ok (.istore_n k, 1)) (hl : storeLocals Ls k.val (.int v) = some Ls') (hq : pc + 1 = q) (g : oW p l e R s m args below meth c F n0 h cells slots (mkF m q Ls' (st))) : oW p l e R s m args below meth c F n0 h cells slots (mkF m pc Ls (.int v :: st)) := by
  subst hq; exact oW.of (fun T locs X t k => XS.istoreN X.here C.1 rfl (hb C.2.1 hd) rfl hl k) g
theorem oIstore (C : oCx p s m meth c bs ml own nm rt Z) {k : Nat} {v : Int32} (hd : decode bs pc = .ok (.istore k, 2)) (hl : storeLocals Ls k (.int v) = some Ls') (hq : pc + 2 = q) (g : oW p l e R s m args below meth c F n0 h cells slots (mkF m q Ls' (st))) : oW p l e R s m args below meth c F n0 h cells slots (mkF m pc Ls (.int v :: st)) := by
  subst hq; exact oW.of (fun T locs X t k => XS.istore X.here C.1 rfl (hb C.2.1 hd) rfl hl k) g
theorem oLstore (C : oCx p s m meth c bs ml own nm rt Z) {k : Nat} {v : Int64} (hd : decode bs pc = .ok (.lstore k, 2)) (hl : storeLocals Ls k (.long v) = some Ls') (hq : pc + 2 = q) (g : oW p l e R s m args below meth c F n0 h cells slots (mkF m q Ls' (st))) : oW p l e R s m args below meth c F n0 h cells slots (mkF m pc Ls (.long v :: st)) := by
  subst hq; exact oW.of (fun T locs X t k => XS.lstore X.here C.1 rfl (hb C.2.1 hd) rfl hl k) g
theorem oAstore (C : oCx p s m meth c bs ml own nm rt Z) {k : Nat} {v : Value} (hd : decode bs pc = .ok (.astore k, 2)) (hv : v.isRef = true) (hl : storeLocals Ls k v = some Ls') (hq : pc + 2 = q) (g : oW p l e R s m args below meth c F n0 h cells slots (mkF m q Ls' (st))) : oW p l e R s m args below meth c F n0 h cells slots (mkF m pc Ls (v :: st)) := by
  subst hq; exact oW.of (fun T locs X t k => XS.astore X.here C.1 rfl (hb C.2.1 hd) rfl hv hl k) g
theorem oIconst (C : oCx p s m meth c bs ml own nm rt Z) {i : Int} {z : Int32} (hd : decode bs pc = .ok (.iconst i, 1)) (hz : Int32.ofInt i = z) (hq : pc + 1 = q) (g : oW p l e R s m args below meth c F n0 h cells slots (mkF m q Ls (.int z :: st))) : oW p l e R s m args below meth c F n0 h cells slots (mkF m pc Ls (st)) := by
  subst hq; exact oW.of (fun T locs X t k => XS.iconst X.here C.1 rfl (hb C.2.1 hd) (hz ▸ k)) g
theorem oBipush (C : oCx p s m meth c bs ml own nm rt Z) {i : Int} {z : Int32} (hd : decode bs pc = .ok (.bipush i, 2)) (hz : (Int8.ofInt i).toInt32 = z) (hq : pc + 2 = q) (g : oW p l e R s m args below meth c F n0 h cells slots (mkF m q Ls (.int z :: st))) : oW p l e R s m args below meth c F n0 h cells slots (mkF m pc Ls (st)) := by
  subst hq; exact oW.of (fun T locs X t k => XS.bipush X.here C.1 rfl (hb C.2.1 hd) (hz ▸ k)) g
theorem oIadd (C : oCx p s m meth c bs ml own nm rt Z) {x y : Int32} (hd : decode bs pc = .ok (.iadd, 1)) (hq : pc + 1 = q) (g : oW p l e R s m args below meth c F n0 h cells slots (mkF m q Ls (.int (x + y) :: st))) : oW p l e R s m args below meth c F n0 h cells slots (mkF m pc Ls (.int y :: .int x :: st)) := by
  subst hq; exact oW.of (fun T locs X t k => XS.iadd X.here C.1 rfl (hb C.2.1 hd) rfl k) g
theorem oIand (C : oCx p s m meth c bs ml own nm rt Z) {x y : Int32} (hd : decode bs pc = .ok (.iand, 1)) (hq : pc + 1 = q) (g : oW p l e R s m args below meth c F n0 h cells slots (mkF m q Ls (.int (x &&& y) :: st))) : oW p l e R s m args below meth c F n0 h cells slots (mkF m pc Ls (.int y :: .int x :: st)) := by
  subst hq; exact oW.of (fun T locs X t k => XS.iand X.here C.1 rfl (hb C.2.1 hd) rfl k) g
theorem oIshr (C : oCx p s m meth c bs ml own nm rt Z) {x y : Int32} (hd : decode bs pc = .ok (.ishr, 1)) (hq : pc + 1 = q) (g : oW p l e R s m args below meth c F n0 h cells slots (mkF m q Ls (.int (x >>> (y &&& 31)) :: st))) : oW p l e R s m args below meth c F n0 h cells slots (mkF m pc Ls (.int y :: .int x :: st)) := by
  subst hq; exact oW.of (fun T locs X t k => XS.ishr X.here C.1 rfl (hb C.2.1 hd) rfl k) g
theorem oIinc (C : oCx p s m meth c bs ml own nm rt Z) {k : Nat} {i : Int} {x z w : Int32} (hd : decode bs pc = .ok (.iinc k i, 3)) (hl : Ls[k]? = some (.val (.int x))) (hz : Int32.ofInt i = z) (hw : x + z = w) (hl' : storeLocals Ls k (.int w) = some Ls') (hq : pc + 3 = q) (g : oW p l e R s m args below meth c F n0 h cells slots (mkF m q Ls' (st))) : oW p l e R s m args below meth c F n0 h cells slots (mkF m pc Ls (st)) := by
  subst hq; exact oW.of (fun T locs X t k => XS.iinc X.here C.1 rfl (hb C.2.1 hd) hl (hz ▸ hw ▸ hl') k) g
theorem oGoto (C : oCx p s m meth c bs ml own nm rt Z) {o : Int} (hd : decode bs pc = .ok (.goto o, 3)) (ho : 0 ≤ (pc : Int) + o) (hp : ((pc : Int) + o).toNat = q) (g : oW p l e R s m args below meth c F n0 h cells slots (mkF m q Ls (st))) : oW p l e R s m args below meth c F n0 h cells slots (mkF m pc Ls (st)) :=
  oW.of (fun T locs X t k => XS.goto X.here C.1 rfl (pc0 := pc) rfl (hb C.2.1 hd) ho hp k) g
theorem oIf_eq (C : oCx p s m meth c bs ml own nm rt Z) {x : Int32} {o : Int} {r : Nat} (hd : decode bs pc = .ok (.ifCond .eq o, 3)) (ho : 0 ≤ (pc : Int) + o) (hp : ((pc : Int) + o).toNat = q) (hr : pc + 3 = r) (gy : x = 0 → oW p l e R s m args below meth c F n0 h cells slots (mkF m q Ls (st))) (gn : ¬ x = 0 → oW p l e R s m args below meth c F n0 h cells slots (mkF m r Ls (st))) : oW p l e R s m args below meth c F n0 h cells slots (mkF m pc Ls (.int x :: st)) := by
  subst hr
  by_cases hc : x = 0
  · exact oW.of (fun T locs X t k => XS.ifYes X.here C.1 rfl (pc0 := pc) rfl (hb C.2.1 hd) rfl ((if0 _ _).trans (teq hc).1) ho hp k) (gy hc)
  · exact oW.of (fun T locs X t k => XS.ifNo X.here C.1 rfl (hb C.2.1 hd) rfl ((if0 _ _).trans (feq hc).1) k) (gn hc)
theorem oIf_ne (C : oCx p s m meth c bs ml own nm rt Z) {x : Int32} {o : Int} {r : Nat} (hd : decode bs pc = .ok (.ifCond .ne o, 3)) (ho : 0 ≤ (pc : Int) + o) (hp : ((pc : Int) + o).toNat = q) (hr : pc + 3 = r) (gy : ¬ x = 0 → oW p l e R s m args below meth c F n0 h cells slots (mkF m q Ls (st))) (gn : x = 0 → oW p l e R s m args below meth c F n0 h cells slots (mkF m r Ls (st))) : oW p l e R s m args below meth c F n0 h cells slots (mkF m pc Ls (.int x :: st)) := by
  subst hr
  by_cases hc : x = 0
  · exact oW.of (fun T locs X t k => XS.ifNo X.here C.1 rfl (hb C.2.1 hd) rfl ((if0 _ _).trans (teq hc).2) k) (gn hc)
  · exact oW.of (fun T locs X t k => XS.ifYes X.here C.1 rfl (pc0 := pc) rfl (hb C.2.1 hd) rfl ((if0 _ _).trans (feq hc).2) ho hp k) (gy hc)
theorem oLcmp_ne (C : oCx p s m meth c bs ml own nm rt Z) {x y : Int64} {o : Int} {pd r : Nat} (hd0 : decode bs pc = .ok (.lcmp, 1)) (hq0 : pc + 1 = pd) (hd : decode bs pd = .ok (.ifCond .ne o, 3)) (ho : 0 ≤ (pd : Int) + o) (hp : ((pd : Int) + o).toNat = q) (hr : pd + 3 = r) (gy : ¬ x = y → oW p l e R s m args below meth c F n0 h cells slots (mkF m q Ls (st))) (gn : x = y → oW p l e R s m args below meth c F n0 h cells slots (mkF m r Ls (st))) : oW p l e R s m args below meth c F n0 h cells slots (mkF m pc Ls (.long y :: .long x :: st)) := by
  subst hq0
  refine oW.of (fun T locs X t k => XS.lcmp X.here C.1 rfl (hb C.2.1 hd0) rfl k) ?_
  exact oIf_ne C hd ho hp hr (fun w => gy (fun u => w ((lw_eq x y).mpr u))) (fun w => gn ((lw_eq x y).mp w))
theorem oIcmp_lt (C : oCx p s m meth c bs ml own nm rt Z) {x y : Int32} {o : Int} {r : Nat} (hd : decode bs pc = .ok (.if_icmp .lt o, 3)) (ho : 0 ≤ (pc : Int) + o) (hp : ((pc : Int) + o).toNat = q) (hr : pc + 3 = r) (gy : x < y → oW p l e R s m args below meth c F n0 h cells slots (mkF m q Ls (st))) (gn : ¬ x < y → oW p l e R s m args below meth c F n0 h cells slots (mkF m r Ls (st))) : oW p l e R s m args below meth c F n0 h cells slots (mkF m pc Ls (.int y :: .int x :: st)) := by
  subst hr
  by_cases hc : x < y
  · exact oW.of (fun T locs X t k => XS.icmpYes X.here C.1 rfl (pc0 := pc) rfl (hb C.2.1 hd) rfl (tlt hc).1 ho hp k) (gy hc)
  · exact oW.of (fun T locs X t k => XS.icmpNo X.here C.1 rfl (hb C.2.1 hd) rfl (flt hc).1 k) (gn hc)
theorem oIf_lt (C : oCx p s m meth c bs ml own nm rt Z) {x : Int32} {o : Int} {r : Nat} (hd : decode bs pc = .ok (.ifCond .lt o, 3)) (ho : 0 ≤ (pc : Int) + o) (hp : ((pc : Int) + o).toNat = q) (hr : pc + 3 = r) (gy : x < 0 → oW p l e R s m args below meth c F n0 h cells slots (mkF m q Ls (st))) (gn : ¬ x < 0 → oW p l e R s m args below meth c F n0 h cells slots (mkF m r Ls (st))) : oW p l e R s m args below meth c F n0 h cells slots (mkF m pc Ls (.int x :: st)) := by
  subst hr
  by_cases hc : x < 0
  · exact oW.of (fun T locs X t k => XS.ifYes X.here C.1 rfl (pc0 := pc) rfl (hb C.2.1 hd) rfl ((if0 _ _).trans (tlt hc).1) ho hp k) (gy hc)
  · exact oW.of (fun T locs X t k => XS.ifNo X.here C.1 rfl (hb C.2.1 hd) rfl ((if0 _ _).trans (flt hc).1) k) (gn hc)
theorem oIcmp_ge (C : oCx p s m meth c bs ml own nm rt Z) {x y : Int32} {o : Int} {r : Nat} (hd : decode bs pc = .ok (.if_icmp .ge o, 3)) (ho : 0 ≤ (pc : Int) + o) (hp : ((pc : Int) + o).toNat = q) (hr : pc + 3 = r) (gy : ¬ x < y → oW p l e R s m args below meth c F n0 h cells slots (mkF m q Ls (st))) (gn : x < y → oW p l e R s m args below meth c F n0 h cells slots (mkF m r Ls (st))) : oW p l e R s m args below meth c F n0 h cells slots (mkF m pc Ls (.int y :: .int x :: st)) := by
  subst hr
  by_cases hc : x < y
  · exact oW.of (fun T locs X t k => XS.icmpNo X.here C.1 rfl (hb C.2.1 hd) rfl (tlt hc).2.1 k) (gn hc)
  · exact oW.of (fun T locs X t k => XS.icmpYes X.here C.1 rfl (pc0 := pc) rfl (hb C.2.1 hd) rfl (flt hc).2.1 ho hp k) (gy hc)
theorem oIf_ge (C : oCx p s m meth c bs ml own nm rt Z) {x : Int32} {o : Int} {r : Nat} (hd : decode bs pc = .ok (.ifCond .ge o, 3)) (ho : 0 ≤ (pc : Int) + o) (hp : ((pc : Int) + o).toNat = q) (hr : pc + 3 = r) (gy : ¬ x < 0 → oW p l e R s m args below meth c F n0 h cells slots (mkF m q Ls (st))) (gn : x < 0 → oW p l e R s m args below meth c F n0 h cells slots (mkF m r Ls (st))) : oW p l e R s m args below meth c F n0 h cells slots (mkF m pc Ls (.int x :: st)) := by
  subst hr
  by_cases hc : x < 0
  · exact oW.of (fun T locs X t k => XS.ifNo X.here C.1 rfl (hb C.2.1 hd) rfl ((if0 _ _).trans (tlt hc).2.1) k) (gn hc)
  · exact oW.of (fun T locs X t k => XS.ifYes X.here C.1 rfl (pc0 := pc) rfl (hb C.2.1 hd) rfl ((if0 _ _).trans (flt hc).2.1) ho hp k) (gy hc)
theorem oLcmp_ge (C : oCx p s m meth c bs ml own nm rt Z) {x y : Int64} {o : Int} {pd r : Nat} (hd0 : decode bs pc = .ok (.lcmp, 1)) (hq0 : pc + 1 = pd) (hd : decode bs pd = .ok (.ifCond .ge o, 3)) (ho : 0 ≤ (pd : Int) + o) (hp : ((pd : Int) + o).toNat = q) (hr : pd + 3 = r) (gy : ¬ x < y → oW p l e R s m args below meth c F n0 h cells slots (mkF m q Ls (st))) (gn : x < y → oW p l e R s m args below meth c F n0 h cells slots (mkF m r Ls (st))) : oW p l e R s m args below meth c F n0 h cells slots (mkF m pc Ls (.long y :: .long x :: st)) := by
  subst hq0
  refine oW.of (fun T locs X t k => XS.lcmp X.here C.1 rfl (hb C.2.1 hd0) rfl k) ?_
  exact oIf_ge C hd ho hp hr (fun w => gy (fun u => w ((lw_lt x y).mpr u))) (fun w => gn ((lw_lt x y).mp w))
theorem oIf_gt (C : oCx p s m meth c bs ml own nm rt Z) {x : Int32} {o : Int} {r : Nat} (hd : decode bs pc = .ok (.ifCond .gt o, 3)) (ho : 0 ≤ (pc : Int) + o) (hp : ((pc : Int) + o).toNat = q) (hr : pc + 3 = r) (gy : 0 < x → oW p l e R s m args below meth c F n0 h cells slots (mkF m q Ls (st))) (gn : ¬ 0 < x → oW p l e R s m args below meth c F n0 h cells slots (mkF m r Ls (st))) : oW p l e R s m args below meth c F n0 h cells slots (mkF m pc Ls (.int x :: st)) := by
  subst hr
  by_cases hc : 0 < x
  · exact oW.of (fun T locs X t k => XS.ifYes X.here C.1 rfl (pc0 := pc) rfl (hb C.2.1 hd) rfl ((if0 _ _).trans (tlt hc).2.2.1) ho hp k) (gy hc)
  · exact oW.of (fun T locs X t k => XS.ifNo X.here C.1 rfl (hb C.2.1 hd) rfl ((if0 _ _).trans (flt hc).2.2.1) k) (gn hc)
theorem oLcmp_gt (C : oCx p s m meth c bs ml own nm rt Z) {x y : Int64} {o : Int} {pd r : Nat} (hd0 : decode bs pc = .ok (.lcmp, 1)) (hq0 : pc + 1 = pd) (hd : decode bs pd = .ok (.ifCond .gt o, 3)) (ho : 0 ≤ (pd : Int) + o) (hp : ((pd : Int) + o).toNat = q) (hr : pd + 3 = r) (gy : y < x → oW p l e R s m args below meth c F n0 h cells slots (mkF m q Ls (st))) (gn : ¬ y < x → oW p l e R s m args below meth c F n0 h cells slots (mkF m r Ls (st))) : oW p l e R s m args below meth c F n0 h cells slots (mkF m pc Ls (.long y :: .long x :: st)) := by
  subst hq0
  refine oW.of (fun T locs X t k => XS.lcmp X.here C.1 rfl (hb C.2.1 hd0) rfl k) ?_
  exact oIf_gt C hd ho hp hr (fun w => gy ((lw_gt x y).mp w)) (fun w => gn (fun u => w ((lw_gt x y).mpr u)))
theorem oIcmp_le (C : oCx p s m meth c bs ml own nm rt Z) {x y : Int32} {o : Int} {r : Nat} (hd : decode bs pc = .ok (.if_icmp .le o, 3)) (ho : 0 ≤ (pc : Int) + o) (hp : ((pc : Int) + o).toNat = q) (hr : pc + 3 = r) (gy : ¬ y < x → oW p l e R s m args below meth c F n0 h cells slots (mkF m q Ls (st))) (gn : y < x → oW p l e R s m args below meth c F n0 h cells slots (mkF m r Ls (st))) : oW p l e R s m args below meth c F n0 h cells slots (mkF m pc Ls (.int y :: .int x :: st)) := by
  subst hr
  by_cases hc : y < x
  · exact oW.of (fun T locs X t k => XS.icmpNo X.here C.1 rfl (hb C.2.1 hd) rfl (tlt hc).2.2.2 k) (gn hc)
  · exact oW.of (fun T locs X t k => XS.icmpYes X.here C.1 rfl (pc0 := pc) rfl (hb C.2.1 hd) rfl (flt hc).2.2.2 ho hp k) (gy hc)
theorem oIf_le (C : oCx p s m meth c bs ml own nm rt Z) {x : Int32} {o : Int} {r : Nat} (hd : decode bs pc = .ok (.ifCond .le o, 3)) (ho : 0 ≤ (pc : Int) + o) (hp : ((pc : Int) + o).toNat = q) (hr : pc + 3 = r) (gy : ¬ 0 < x → oW p l e R s m args below meth c F n0 h cells slots (mkF m q Ls (st))) (gn : 0 < x → oW p l e R s m args below meth c F n0 h cells slots (mkF m r Ls (st))) : oW p l e R s m args below meth c F n0 h cells slots (mkF m pc Ls (.int x :: st)) := by
  subst hr
  by_cases hc : 0 < x
  · exact oW.of (fun T locs X t k => XS.ifNo X.here C.1 rfl (hb C.2.1 hd) rfl ((if0 _ _).trans (tlt hc).2.2.2) k) (gn hc)
  · exact oW.of (fun T locs X t k => XS.ifYes X.here C.1 rfl (pc0 := pc) rfl (hb C.2.1 hd) rfl ((if0 _ _).trans (flt hc).2.2.2) ho hp k) (gy hc)
theorem oLcmp_le (C : oCx p s m meth c bs ml own nm rt Z) {x y : Int64} {o : Int} {pd r : Nat} (hd0 : decode bs pc = .ok (.lcmp, 1)) (hq0 : pc + 1 = pd) (hd : decode bs pd = .ok (.ifCond .le o, 3)) (ho : 0 ≤ (pd : Int) + o) (hp : ((pd : Int) + o).toNat = q) (hr : pd + 3 = r) (gy : ¬ y < x → oW p l e R s m args below meth c F n0 h cells slots (mkF m q Ls (st))) (gn : y < x → oW p l e R s m args below meth c F n0 h cells slots (mkF m r Ls (st))) : oW p l e R s m args below meth c F n0 h cells slots (mkF m pc Ls (.long y :: .long x :: st)) := by
  subst hq0
  refine oW.of (fun T locs X t k => XS.lcmp X.here C.1 rfl (hb C.2.1 hd0) rfl k) ?_
  exact oIf_le C hd ho hp hr (fun w => gy (fun u => w ((lw_gt x y).mpr u))) (fun w => gn ((lw_gt x y).mp w))
section Rets
variable {k n : Nat} {Q : Option Value → Heap → Prop} {rt' : FieldType}
theorem oRetN (C : oCx p s m meth c bs ml own nm (some rt') Z) (ht : rt' = .boolean ∨ rt' = .byte ∨ rt' = .char ∨ rt' = .short) {z z' : Int32} (hd : decode bs pc = .ok (.ireturn, 1)) (hz : nar rt' z = z') (hk : cells ≤ k) (hn : slots ≤ n) (hQ : Q (some (.int z')) h) :
    oW p l e R s m args below meth c (oFin s n0 k n Q) n0 h cells slots (mkF m pc Ls (.int z :: st)) := fun T locs X eT N => by
  subst hz eT
  obtain ⟨fs, hr, hrun, hended, hW, hsame⟩ := X.leave (v := some (.int (nar rt' z))) (fun hh => by rw [C.2.2.2.2.2.2.1] at hh; cases hh) C.2.2.2.2.2.2.2
  exact ⟨_, _, retN X C.1 C.2.2.2.2.2.2.1 ht (hb C.2.1 hd) hr, hrun, hended, _, _, rfl, ⟨N, hQ⟩, ⟨_, rfl⟩, hW, hsame.mono hk hn⟩
theorem oRetZ (C : oCx p s m meth c bs ml own nm (some .boolean) Z) {z z' : Int32} (hd : decode bs pc = .ok (.ireturn, 1)) (hz : nar .boolean z = z') (hk : cells ≤ k) (hn : slots ≤ n) (hQ : Q (some (.int z')) h) :
    oW p l e R s m args below meth c (oFin s n0 k n Q) n0 h cells slots (mkF m pc Ls (.int z :: st)) := oRetN C (Or.inl rfl) hd hz hk hn hQ
theorem oRetI (C : oCx p s m meth c bs ml own nm (some .int) Z) {z : Int32} (hd : decode bs pc = .ok (.ireturn, 1)) (hk : cells ≤ k) (hn : slots ≤ n) (hQ : Q (some (.int z)) h) :
    oW p l e R s m args below meth c (oFin s n0 k n Q) n0 h cells slots (mkF m pc Ls (.int z :: st)) := fun T locs X eT N => by
  subst eT
  obtain ⟨fs, hr, hrun, hended, hW, hsame⟩ := X.leave (v := some (.int z)) (fun hh => by rw [C.2.2.2.2.2.2.1] at hh; cases hh) C.2.2.2.2.2.2.2
  exact ⟨_, _, retI X C.1 C.2.2.2.2.2.2.1 (hb C.2.1 hd) hr, hrun, hended, _, _, rfl, ⟨N, hQ⟩, ⟨_, rfl⟩, hW, hsame.mono hk hn⟩
end Rets
section Calls
variable {i : Nat} {y : MethodName} {bs' : ByteArray} {ml' : Nat} {rt' : Option FieldType} {R' : Room} {Q : Option Value → Heap → Prop} {argsL rest : List Value} {ps : List FieldType} {r' : Option FieldType} {W : Nat} {a : Addr}
theorem oCallS (C : oCx p s m meth c bs ml own nm rt Z) (w1 : (Jvm.Cond.methodLink own i y).before a0 Z = true) (w2 : (Jvm.Cond.static y).before a0 Z = true) (w3 : (Jvm.Cond.initialized y.cls).before a0 Z = true) (w4 : (Jvm.Cond.code y bs' ml' rt').before a0 Z = true) (hd : decode bs pc = .ok (.invokestatic i, 3))
    (hy : y.cls ≠ "java/lang/invoke/MethodHandle" ∧ y.cls ≠ "java/lang/invoke/VarHandle") (hpd : parseMethodDescriptor y.desc = some ⟨ps, r'⟩) (hlen : argsL.length = ps.length) (hsz : Ls.size = ml) (hst : argsL.reverse ++ rest = st) (hW : (rest.map fun v => v.category).sum = W) (hq : pc + 3 = q)
    (hf : R'.frames + 1 ≤ R.frames) (hl : W + (ml' + 11) + R'.locals ≤ R.locals) (hc : cells + R'.cells ≤ R.cells) (hs : slots + R'.slots ≤ R.slots)
    (M : oMet l Z y bs' ml' rt' [] R' R'.cells R'.slots n0 argsL.toArray h Q)
    (g : ∀ v h', Q v h' → oW p l e R s m args below meth c F n0 h' (cells + R'.cells) (slots + R'.slots) (mkF m q Ls (v.toList ++ rest))) :
    oW p l e R s m args below meth c F n0 h cells slots (mkF m pc Ls st) := fun T locs X eT N => by
  subst hq hst
  have hZ := C.2.2.2.2.1
  obtain ⟨v, _, ⟨T', L', k', n'⟩, -, X', ⟨Lc, ⟨hN, hQ⟩, l', y', z'⟩, st'⟩ := Jvm.LawKit.callS X C.1 (y := y) C.2.2.2.1 (mvT hZ w1) (mvT hZ w2) (mvT hZ w3) (mvT hZ w4) hy (backOf (W := W) (Q := fun v h L => Fr n0 L ∧ Q v h) M hZ w4 w3 hf hl) (g := mkF m pc Ls (argsL.reverse ++ rest)) rfl (hsz.trans C.2.2.1.symm) (argsL := argsL) (rest := rest) (lenOf hpd hlen) rfl (by show 2 * 0 + _ ≤ _; omega) (hb C.2.1 hd) (fun _ _ => ⟨rfl, eT, hc, hs⟩)
  dsimp only [Pt.U, Pt.locs, Pt.cells, Pt.slots] at X' l' y' z' st' hQ
  subst l' y' z'
  obtain ⟨s₂, o, h1, h2⟩ := g v T'.heap hQ T' _ X' rfl (Fr.app N hN)
  exact ⟨s₂, o, st' _ h1, h2⟩
def oMetH (l : Launch) (Z : State) (y : MethodName) (bs : ByteArray) (ml : Nat) (rt : Option FieldType) (tr : List (Nat × Nat × Nat × Nat)) (R : Room) (k n n0 : Nat) (as' : Array Value) (h0 : Heap) (Q : Option Value → Heap → Prop) : Prop :=
  MetFree l y (head1 [Jvm.Cond.codeWith y bs ml rt tr] R) (fun a U => a = as' ∧ Z.Warmed39 U.vm ∧ U.heap = h0) (fun _ _ _ _ _ => True) (fun _ U o U' => ∃ v L, o = .returned v ∧ (Fr n0 L ∧ Q v U'.heap) ∧ FrameEnd U o U' L k n)
theorem oMetH.intro {tr : List (Nat × Nat × Nat × Nat)} {k n : Nat} {as' : Array Value} {h0 : Heap} (pn : plainFor y = true) (ef : ∀ m, entryFrame m as' ml = mkF m 0 Ls [])
    (body : ∀ (p : Program) (e : Env) (s : State) (m : MethodId) (below : List Frame) (meth : Method) (c : Code), oCx p s m meth c bs ml y.cls y.name rt Z → oW p l e R s m as' below meth c (oFin s n0 k n Q) n0 h0 0 0 (mkF m 0 Ls [])) :
    oMetH l Z y bs ml rt tr R k n n0 as' h0 Q := by
  refine MetFree.of_bodySF pn hisWith ?_
  intro p e s m args below meth c s₁ Bd hml0 hP hK
  obtain ⟨rfl, hZ, hh⟩ := hP
  have e0 : s₁.heap = h0 := by rw [← hh, Bd.state]; rfl
  have C : oCx p s m meth c bs ml y.cls y.name rt Z := ⟨Bd.exec, Bd.bytes, hml0, findClass_of_methodNamed Bd.named, hZ, (name_of_methodNamed Bd.named Bd.method).1, Bd.returns, Bd.notSynchronized⟩
  obtain ⟨s₂, o, h1, h2, h3, h4⟩ := body p e s m below meth c C s₁ [] (Stand.of_body Bd) e0 (Fr.nil n0)
  exact ⟨s₂, o, castTop (ef m) h1, h2, h3, h4⟩
theorem oPureK {w : Value} {hc : Heap} (g : oW p l e R s m args below meth c F n0 hc cells slots (mkF m q Ls (w :: rest))) : ∀ (v : Option Value) (h' : Heap), (v = some w ∧ h' = hc) → oW p l e R s m args below meth c F n0 h' cells slots (mkF m q Ls (v.toList ++ rest)) := by
  rintro _ _ ⟨rfl, rfl⟩; exact g
end Calls
theorem oCastI {z z' : Int32} (hz : z = z') (g : oW p l e R s m args below meth c F n0 h cells slots (mkF m pc Ls (.int z' :: st))) : oW p l e R s m args below meth c F n0 h cells slots (mkF m pc Ls (.int z :: st)) := hz ▸ g
theorem oCastL {z z' : Int64} (hz : z = z') (g : oW p l e R s m args below meth c F n0 h cells slots (mkF m pc Ls (.long z' :: st))) : oW p l e R s m args below meth c F n0 h cells slots (mkF m pc Ls (.long z :: st)) := hz ▸ g
theorem oJoin {α : Type} {f : JFrame} (P : α → Prop) (hh : α → Heap) (fr : α → JFrame) {k n : Nat} (j : ∀ w, P w → oW p l e R s m args below meth c F n0 (hh w) k n (fr w)) (g : (∀ w, P w → oW p l e R s m args below meth c F n0 (hh w) k n (fr w)) → oW p l e R s m args below meth c F n0 h cells slots f) : oW p l e R s m args below meth c F n0 h cells slots f := g j
def oAr (Z : State) (h : Heap) (a : Addr) (ty : FieldType) (vs : List Value) : Prop := ∃ c : Cell, Arr Z h a c ty ∧ c.slots.toList = vs
section Arrays
variable {a b : Addr} {ty : FieldType} {vs : List Value} {v : Value} {sl : Nat}
theorem oAr.lt (A : oAr Z h a ty vs) : a < h.size := by obtain ⟨c, A, -⟩ := A; exact A.lt
theorem oAr.same (A : oAr Z h a ty vs) (W : Wr h h' a sl v) : oAr Z h' a ty (vs.set sl v) := by
  obtain ⟨c, A, r⟩ := A
  exact ⟨_, A.same W, by subst r; simp [Cell.setSlot]⟩
theorem oInb {cl : Cell} {j : Int32} {k : Nat} (r : cl.slots.toList = vs) (hj : ¬ j < 0) (hk : j.toNatClampNeg = k) (hv : vs[k]? = some v) : ¬ (j < 0 ∨ cl.slots.size ≤ j.toNatClampNeg) ∧ cl.slots[j.toNatClampNeg]? = some v := by
  subst hk r
  have hlt : j.toNatClampNeg < cl.slots.toList.length := (List.getElem?_eq_some_iff.mp hv).1
  refine ⟨fun q => q.elim hj fun u => ?_, by rw [← hv]; simp⟩
  simp at hlt; omega
end Arrays
def oKe (h0 h : Heap) (ws : List Addr) (fs : List (Addr × Nat)) : Prop := h0.size ≤ h.size ∧ ∀ (x : Addr) (c : Cell), h0[x]? = some c → ∃ c' : Cell, h[x]? = some c' ∧ c'.cls = c.cls ∧ c'.vm = c.vm ∧ c'.slots.size = c.slots.size ∧ (x ∉ ws → ∀ j, (x, j) ∉ fs → c'.slots[j]? = c.slots[j]?)
section Ke
variable {h0 : Heap} {ws ws' : List Addr} {fs fs' : List (Addr × Nat)} {a b : Addr} {sl : Nat} {v : Value} {ty : FieldType} {vs : List Value} {K O n d : String}
theorem oKe.refl (h : Heap) (ws : List Addr) (fs : List (Addr × Nat)) : oKe h h ws fs := ⟨Nat.le_refl _, fun x c q => ⟨c, q, rfl, rfl, rfl, fun _ _ _ => rfl⟩⟩
theorem oKe.trans (A : oKe h0 h ws fs) (B : oKe h h' ws' fs') (q1 : ∀ x ∈ ws', x ∈ ws ∨ h0.size ≤ x) (q2 : ∀ x ∈ fs', x ∈ fs ∨ h0.size ≤ x.1) : oKe h0 h' ws fs := by
  refine ⟨Nat.le_trans A.1 B.1, fun x c hx => ?_⟩
  obtain ⟨c1, e1, e2, e3, e4, e5⟩ := A.2 x c hx
  obtain ⟨c2, g1, g2, g3, g4, g5⟩ := B.2 x c1 e1
  have lt := (Array.getElem?_eq_some_iff.mp hx).1
  refine ⟨c2, g1, g2.trans e2, g3.trans e3, g4.trans e4, fun hn j hj => ?_⟩
  rw [g5 (fun z => (q1 x z).elim hn (fun y => absurd lt (Nat.not_lt.mpr y))) j (fun z => (q2 _ z).elim hj (fun y => absurd lt (Nat.not_lt.mpr y)))]
  exact e5 hn j hj
end Ke
theorem oNewA (C : oCx p s m meth c bs ml own nm rt Z) {aty : ArrayType} {ty : FieldType} {z : Int32} {k : Nat} (w : (Jvm.Cond.arrayClass ty).before a0 Z = true) (hty : newarray.typeOf aty = ty) (hd : decode bs pc = .ok (.newarray aty, 2)) (hq : pc + 2 = q) (hz : ¬ z < 0) (hk : z.toNatClampNeg = k) (hb' : k * 8 ≤ 536870912) (hc : cells + 1 ≤ R.cells) {cap : Nat} (hcap : k ≤ cap) (hcb : cap * 8 ≤ 536870912) (hs : slots + cap ≤ R.slots)
    (g : ∀ (a : Addr) (h' : Heap), a = h.size → Ext h h' → oAr Z h' a ty (List.replicate k (defaultValue ty)) → oW p l e R s m args below meth c F n0 h' (cells + 1) (slots + cap) (mkF m q Ls (.ref a :: st))) :
    oW p l e R s m args below meth c F n0 h cells slots (mkF m pc Ls (.int z :: st)) := fun T locs X eT N => by
  subst hq hty hk
  obtain ⟨T', h', cA, X', e', E', A', st'⟩ := newP X C.1 C.2.2.2.2.1 w eT (g := mkF m pc Ls (.int z :: st)) rfl (hb C.2.1 hd) rfl hz (cap := cap) hcap hcb hc hs
  obtain ⟨s₂, o, h1, h2⟩ := g _ h' rfl E' ⟨_, A', by simp [newA]⟩ T' _ X' e' N
  exact ⟨s₂, o, st' _ h1, h2⟩
theorem oLen (C : oCx p s m meth c bs ml own nm rt Z) {a : Addr} {ty : FieldType} {vs : List Value} {z : Int32} (A : oAr Z h a ty vs) (hz : vs.length.toInt32 = z) (hd : decode bs pc = .ok (.arraylength, 1)) (hq : pc + 1 = q) (g : oW p l e R s m args below meth c F n0 h cells slots (mkF m q Ls (.int z :: st))) :
    oW p l e R s m args below meth c F n0 h cells slots (mkF m pc Ls (.ref a :: st)) := fun T locs X eT N => by
  subst hq hz
  obtain ⟨cl, A, r⟩ := A
  obtain ⟨s₂, o, h1, h2⟩ := g T locs X eT N
  exact ⟨s₂, o, X.arraylength C.1 (by rw [eT]; exact A.1) (State.isArrayOf_alike C.2.2.2.2.1.alike A.2.1) (g := mkF m pc Ls (.ref a :: st)) rfl rfl (hb C.2.1 hd) _ (by subst r; simpa using h1), h2⟩
theorem oLaload (C : oCx p s m meth c bs ml own nm rt Z) {a : Addr} {vs : List Value} {j : Int32} {k : Nat} {v : Value} (A : oAr Z h a .long vs) (hj : ¬ j < 0) (hk : j.toNatClampNeg = k) (hv : vs[k]? = some v) (hd : decode bs pc = .ok (.laload, 1)) (hq : pc + 1 = q) (g : oW p l e R s m args below meth c F n0 h cells slots (mkF m q Ls (v :: st))) :
    oW p l e R s m args below meth c F n0 h cells slots (mkF m pc Ls (.int j :: .ref a :: st)) := fun T locs X eT N => by
  subst hq
  obtain ⟨cl, A, r⟩ := A
  obtain ⟨i1, i2⟩ := oInb r hj hk hv
  obtain ⟨s₂, o, h1, h2⟩ := g T locs X eT N
  exact ⟨s₂, o, X.laload C.1 (j := j) (v := v) (by rw [eT]; exact A.1) (State.isArrayOf_alike C.2.2.2.2.1.alike A.2.1) A.2.2 i1 i2 (g := mkF m pc Ls (.int j :: .ref a :: st)) rfl rfl (hb C.2.1 hd) _ h1, h2⟩
theorem oLastore (C : oCx p s m meth c bs ml own nm rt Z) {a : Addr} {vs : List Value} {j : Int32} {k : Nat} {v v' : Value} {x : Int64} (A : oAr Z h a .long vs) (hj : ¬ j < 0) (hk : j.toNatClampNeg = k) (hv : vs[k]? = some v) (hx : (.long x : Value) = v') (hd : decode bs pc = .ok (.lastore, 1)) (hq : pc + 1 = q) (ha : n0 ≤ a)
    (g : ∀ h', Wr h h' a k v' → oAr Z h' a .long (vs.set k v') → oW p l e R s m args below meth c F n0 h' cells slots (mkF m q Ls (st))) :
    oW p l e R s m args below meth c F n0 h cells slots (mkF m pc Ls (.long x :: .int j :: .ref a :: st)) := fun T locs X eT N => by
  subst hq hx
  obtain ⟨cl, A, r⟩ := A
  obtain ⟨i1, -⟩ := oInb r hj hk hv
  obtain ⟨T', h', X', e', W', st'⟩ := stJ X C.1 C.2.2.2.2.1 eT A (j := j) i1 (g := mkF m pc Ls (.long x :: .int j :: .ref a :: st)) rfl rfl (hb C.2.1 hd)
  have W2 : Wr h h' a k (.long x) := hk ▸ W'
  obtain ⟨s₂, o, h1, h2⟩ := g h' W2 (oAr.same ⟨cl, A, r⟩ W2) T' _ X' e' (Fr.snoc X' N ha)
  exact ⟨s₂, o, st' _ h1, h2⟩
end Own
section Own2
variable {p : Program} {l : Launch} {e : Env} {R : Room} {s : State} {m : MethodId} {args : Array Value} {below : List Frame} {meth : Method} {c : Code} {bs : ByteArray} {ml : Nat} {own nm : String} {rt : Option FieldType} {Z : State} {F : State → Outcome → Prop} {n0 : Nat} {h h' : Heap} {cells slots : Nat} {pc q : Nat} {Ls Ls' : Array Slot} {st : List Value} {a0 : Array Value}
section ArraysO
variable {a b : Addr} {K : String} {vs : List Value} {v : Value} {sl : Nat}
end ArraysO
section Stas
variable {K n d : String} {v w : Value} {a : Addr} {sl : Nat}
end Stas
end Own2
abbrev oHw (a0 : Array Value) (Z : State) : Prop := ∀ d ∈ tables_1, d.before a0 Z = true
theorem w0 {a0 : Array Value} {Z : State} (hw : oHw a0 Z) : (Jvm.Cond.arrayClass Jvm.ClassFile.FieldType.long).before a0 Z = true := hw _ (List.mem_of_getElem? (i := 0) rfl)
theorem w1 {a0 : Array Value} {Z : State} (hw : oHw a0 Z) : (Jvm.Cond.methodLink "com/example/gavel/gavel/CandidateSumsFirstLargestPinLaw" (7 : Nat) ({ cls := "com/example/gavel/gavel/CandidateSums", name := "firstLargest", desc := "([J)I" } : Jvm.MethodName)).before a0 Z = true := hw _ (List.mem_of_getElem? (i := 1) rfl)
theorem w2 {a0 : Array Value} {Z : State} (hw : oHw a0 Z) : (Jvm.Cond.static ({ cls := "com/example/gavel/gavel/CandidateSums", name := "firstLargest", desc := "([J)I" } : Jvm.MethodName)).before a0 Z = true := hw _ (List.mem_of_getElem? (i := 2) rfl)
theorem w3 {a0 : Array Value} {Z : State} (hw : oHw a0 Z) : (Jvm.Cond.initialized "com/example/gavel/gavel/CandidateSums").before a0 Z = true := hw _ (List.mem_of_getElem? (i := 3) rfl)
theorem w4 {a0 : Array Value} {Z : State} (hw : oHw a0 Z) : (Jvm.Cond.code ({ cls := "com/example/gavel/gavel/CandidateSums", name := "firstLargest", desc := "([J)I" } : Jvm.MethodName) prog_15_method_9_code (3 : Nat) (Option.some Jvm.ClassFile.FieldType.int)).before a0 Z = true := hw _ (List.mem_of_getElem? (i := 4) rfl)
theorem w5 {a0 : Array Value} {Z : State} (hw : oHw a0 Z) : (Jvm.Cond.methodLink "com/example/gavel/gavel/CandidateSumsFirstLargestPinLaw" (13 : Nat) ({ cls := "com/example/gavel/gavel/CandidateSumsFirstLargestPinLaw", name := "ok", desc := "(JIIIJ)Z" } : Jvm.MethodName)).before a0 Z = true := hw _ (List.mem_of_getElem? (i := 5) rfl)
theorem w6 {a0 : Array Value} {Z : State} (hw : oHw a0 Z) : (Jvm.Cond.static ({ cls := "com/example/gavel/gavel/CandidateSumsFirstLargestPinLaw", name := "ok", desc := "(JIIIJ)Z" } : Jvm.MethodName)).before a0 Z = true := hw _ (List.mem_of_getElem? (i := 6) rfl)
theorem w7 {a0 : Array Value} {Z : State} (hw : oHw a0 Z) : (Jvm.Cond.initialized "com/example/gavel/gavel/CandidateSumsFirstLargestPinLaw").before a0 Z = true := hw _ (List.mem_of_getElem? (i := 7) rfl)
theorem w8 {a0 : Array Value} {Z : State} (hw : oHw a0 Z) : (Jvm.Cond.code ({ cls := "com/example/gavel/gavel/CandidateSumsFirstLargestPinLaw", name := "ok", desc := "(JIIIJ)Z" } : Jvm.MethodName) method_3_code (7 : Nat) (Option.some Jvm.ClassFile.FieldType.boolean)).before a0 Z = true := hw _ (List.mem_of_getElem? (i := 8) rfl)
theorem ef_1 (m : MethodId) (x0 : Addr) : entryFrame m #[.ref x0] 3 = mkF m 0 #[.val (.ref x0), .unset, .unset] [] := by first | (simp [entryFrame, mkF, argsToLocals, Value.category]; done) | rfl
theorem pn_792397 : plainName "com/example/gavel/gavel/CandidateSums" = true := by first | (simp [plainName, overriddenIn]; done) | decide +kernel
def fFL1 (u0 : Int64) : Int32 := (0 : Int32)
theorem fFL1_def (u0 : Int64) : fFL1 u0 = (0 : Int32) := rfl
theorem d1_0 : decode prog_15_method_9_code 0 = .ok (.iconst 0, 1) := by decide +kernel
theorem d1_1 : decode prog_15_method_9_code 1 = .ok (.istore_n 1, 1) := by decide +kernel
theorem d1_2 : decode prog_15_method_9_code 2 = .ok (.iconst 1, 1) := by decide +kernel
theorem d1_3 : decode prog_15_method_9_code 3 = .ok (.istore_n 2, 1) := by decide +kernel
theorem d1_4 : decode prog_15_method_9_code 4 = .ok (.iload_n 2, 1) := by decide +kernel
theorem d1_5 : decode prog_15_method_9_code 5 = .ok (.aload_n 0, 1) := by decide +kernel
theorem d1_6 : decode prog_15_method_9_code 6 = .ok (.arraylength, 1) := by decide +kernel
theorem d1_7 : decode prog_15_method_9_code 7 = .ok (.if_icmp .ge 21, 3) := by decide +kernel
theorem d1_28 : decode prog_15_method_9_code 28 = .ok (.iload_n 1, 1) := by decide +kernel
theorem d1_29 : decode prog_15_method_9_code 29 = .ok (.ireturn, 1) := by decide +kernel
set_option maxRecDepth 65536 in
set_option maxHeartbeats 40000000 in
theorem mt_fFL1 (l : Launch) (Z : State) (a0 : Array Value) (hw : oHw a0 Z) (h0 : Heap) (n0 : Nat) (Z0 : n0 ≤ h0.size) (b : Addr) (u0 : Int64) (A_b : oAr Z h0 b .long [.long u0]) :
    oMet l Z (⟨"com/example/gavel/gavel/CandidateSums", "firstLargest", "([J)I"⟩ : MethodName) prog_15_method_9_code 3 (some .int) [] ({ frames := 0, cells := 0, slots := 0, locals := 0 } : Room) 0 0 n0 #[.ref b] h0 (fun v h => v = some (.int (fFL1 u0)) ∧ h = h0) := by
  refine oMet.intro (plainFor_of_name pn_792397) (fun m => ef_1 m b) ?_
  intro op oe os m obl omt ocd C
  refine oIconst C d1_0 (z := 0) rfl rfl ?_
  refine oIstoreN C d1_1 (Ls' := #[.val (.ref b), .val (.int 0), .unset]) rfl (q := 2) rfl ?_
  refine oIconst C d1_2 (z := 1) rfl rfl ?_
  refine oIstoreN C d1_3 (Ls' := #[.val (.ref b), .val (.int 0), .val (.int 1)]) rfl (q := 4) rfl ?_
  refine oIloadN C d1_4 rfl rfl ?_
  refine oAloadN C d1_5 rfl rfl rfl ?_
  refine oLen C A_b (z := (1 : Int32)) rfl d1_6 rfl ?_
  refine oIcmp_ge C d1_7 (q := 28) (by decide) (by decide) (r := 10) rfl (fun hc7 => ?_) (fun hq => absurd hq ((by decide)))
  refine oIloadN C d1_28 rfl rfl ?_
  refine oRetI C d1_29 (by decide) (by decide) ?_
  exact ⟨by rw [fFL1_def], rfl⟩
def fFL2 (u0 : Int64) (u1 : Int64) : Int32 := (if u0 < u1 then (1 : Int32) else (0 : Int32))
theorem fFL2_def (u0 : Int64) (u1 : Int64) : fFL2 u0 u1 = (if u0 < u1 then (1 : Int32) else (0 : Int32)) := rfl
theorem d1_10 : decode prog_15_method_9_code 10 = .ok (.aload_n 0, 1) := by decide +kernel
theorem d1_11 : decode prog_15_method_9_code 11 = .ok (.iload_n 2, 1) := by decide +kernel
theorem d1_12 : decode prog_15_method_9_code 12 = .ok (.laload, 1) := by decide +kernel
theorem d1_13 : decode prog_15_method_9_code 13 = .ok (.aload_n 0, 1) := by decide +kernel
theorem d1_14 : decode prog_15_method_9_code 14 = .ok (.iload_n 1, 1) := by decide +kernel
theorem d1_15 : decode prog_15_method_9_code 15 = .ok (.laload, 1) := by decide +kernel
theorem d1_16 : decode prog_15_method_9_code 16 = .ok (.lcmp, 1) := by decide +kernel
theorem d1_17 : decode prog_15_method_9_code 17 = .ok (.ifCond .le 5, 3) := by decide +kernel
theorem d1_20 : decode prog_15_method_9_code 20 = .ok (.iload_n 2, 1) := by decide +kernel
theorem d1_21 : decode prog_15_method_9_code 21 = .ok (.istore_n 1, 1) := by decide +kernel
theorem d1_22 : decode prog_15_method_9_code 22 = .ok (.iinc 2 1, 3) := by decide +kernel
theorem d1_25 : decode prog_15_method_9_code 25 = .ok (.goto (-21), 3) := by decide +kernel
set_option maxRecDepth 65536 in
set_option maxHeartbeats 40000000 in
theorem mt_fFL2 (l : Launch) (Z : State) (a0 : Array Value) (hw : oHw a0 Z) (h0 : Heap) (n0 : Nat) (Z0 : n0 ≤ h0.size) (b : Addr) (u0 : Int64) (u1 : Int64) (A_b : oAr Z h0 b .long [.long u0, .long u1]) :
    oMet l Z (⟨"com/example/gavel/gavel/CandidateSums", "firstLargest", "([J)I"⟩ : MethodName) prog_15_method_9_code 3 (some .int) [] ({ frames := 0, cells := 0, slots := 0, locals := 0 } : Room) 0 0 n0 #[.ref b] h0 (fun v h => v = some (.int (fFL2 u0 u1)) ∧ h = h0) := by
  refine oMet.intro (plainFor_of_name pn_792397) (fun m => ef_1 m b) ?_
  intro op oe os m obl omt ocd C
  refine oIconst C d1_0 (z := 0) rfl rfl ?_
  refine oIstoreN C d1_1 (Ls' := #[.val (.ref b), .val (.int 0), .unset]) rfl (q := 2) rfl ?_
  refine oIconst C d1_2 (z := 1) rfl rfl ?_
  refine oIstoreN C d1_3 (Ls' := #[.val (.ref b), .val (.int 0), .val (.int 1)]) rfl (q := 4) rfl ?_
  refine oIloadN C d1_4 rfl rfl ?_
  refine oAloadN C d1_5 rfl rfl rfl ?_
  refine oLen C A_b (z := (2 : Int32)) rfl d1_6 rfl ?_
  refine oIcmp_ge C d1_7 (q := 28) (by decide) (by decide) (r := 10) rfl (fun hq => absurd hq ((by decide))) (fun hc7 => ?_)
  refine oAloadN C d1_10 rfl rfl rfl ?_
  refine oIloadN C d1_11 rfl rfl ?_
  refine oLaload C A_b (by decide) (k := 1) rfl (v := .long u1) rfl d1_12 rfl ?_
  refine oAloadN C d1_13 rfl rfl rfl ?_
  refine oIloadN C d1_14 rfl rfl ?_
  refine oLaload C A_b (by decide) (k := 0) rfl (v := .long u0) rfl d1_15 rfl ?_
  refine oLcmp_le C d1_16 rfl d1_17 (q := 22) (by decide) (by decide) (r := 20) rfl (fun hc16 => ?_) (fun hc16 => ?_)
  ·
   refine oIinc C d1_22 rfl (z := 1) rfl (w := (2 : Int32)) (by decide) (Ls' := #[.val (.ref b), .val (.int 0), .val (.int 2)]) rfl rfl ?_
   refine oGoto C d1_25 (q := 4) (by decide) (by decide) ?_
   refine oIloadN C d1_4 rfl rfl ?_
   refine oAloadN C d1_5 rfl rfl rfl ?_
   refine oLen C A_b (z := (2 : Int32)) rfl d1_6 rfl ?_
   refine oIcmp_ge C d1_7 (q := 28) (by decide) (by decide) (r := 10) rfl (fun hc7_1 => ?_) (fun hq => absurd hq ((by decide)))
   refine oIloadN C d1_28 rfl rfl ?_
   refine oRetI C d1_29 (by decide) (by decide) ?_
   exact ⟨by rw [fFL2_def, if_neg hc16], rfl⟩
  ·
   refine oIloadN C d1_20 rfl rfl ?_
   refine oIstoreN C d1_21 (Ls' := #[.val (.ref b), .val (.int 1), .val (.int 1)]) rfl (q := 22) rfl ?_
   refine oIinc C d1_22 rfl (z := 1) rfl (w := (2 : Int32)) (by decide) (Ls' := #[.val (.ref b), .val (.int 1), .val (.int 2)]) rfl rfl ?_
   refine oGoto C d1_25 (q := 4) (by decide) (by decide) ?_
   refine oIloadN C d1_4 rfl rfl ?_
   refine oAloadN C d1_5 rfl rfl rfl ?_
   refine oLen C A_b (z := (2 : Int32)) rfl d1_6 rfl ?_
   refine oIcmp_ge C d1_7 (q := 28) (by decide) (by decide) (r := 10) rfl (fun hc7_1 => ?_) (fun hq => absurd hq ((by decide)))
   refine oIloadN C d1_28 rfl rfl ?_
   refine oRetI C d1_29 (by decide) (by decide) ?_
   exact ⟨by rw [fFL2_def, if_pos hc16], rfl⟩
def fFL3 (u0 : Int64) (u1 : Int64) (u2 : Int64) : Int32 := (if u0 < u1 then (if u1 < u2 then (2 : Int32) else (1 : Int32)) else (if u0 < u2 then (2 : Int32) else (0 : Int32)))
theorem fFL3_def (u0 : Int64) (u1 : Int64) (u2 : Int64) : fFL3 u0 u1 u2 = (if u0 < u1 then (if u1 < u2 then (2 : Int32) else (1 : Int32)) else (if u0 < u2 then (2 : Int32) else (0 : Int32))) := rfl
set_option maxRecDepth 65536 in
set_option maxHeartbeats 40000000 in
theorem mt_fFL3 (l : Launch) (Z : State) (a0 : Array Value) (hw : oHw a0 Z) (h0 : Heap) (n0 : Nat) (Z0 : n0 ≤ h0.size) (b : Addr) (u0 : Int64) (u1 : Int64) (u2 : Int64) (A_b : oAr Z h0 b .long [.long u0, .long u1, .long u2]) :
    oMet l Z (⟨"com/example/gavel/gavel/CandidateSums", "firstLargest", "([J)I"⟩ : MethodName) prog_15_method_9_code 3 (some .int) [] ({ frames := 0, cells := 0, slots := 0, locals := 0 } : Room) 0 0 n0 #[.ref b] h0 (fun v h => v = some (.int (fFL3 u0 u1 u2)) ∧ h = h0) := by
  refine oMet.intro (plainFor_of_name pn_792397) (fun m => ef_1 m b) ?_
  intro op oe os m obl omt ocd C
  refine oIconst C d1_0 (z := 0) rfl rfl ?_
  refine oIstoreN C d1_1 (Ls' := #[.val (.ref b), .val (.int 0), .unset]) rfl (q := 2) rfl ?_
  refine oIconst C d1_2 (z := 1) rfl rfl ?_
  refine oIstoreN C d1_3 (Ls' := #[.val (.ref b), .val (.int 0), .val (.int 1)]) rfl (q := 4) rfl ?_
  refine oIloadN C d1_4 rfl rfl ?_
  refine oAloadN C d1_5 rfl rfl rfl ?_
  refine oLen C A_b (z := (3 : Int32)) rfl d1_6 rfl ?_
  refine oIcmp_ge C d1_7 (q := 28) (by decide) (by decide) (r := 10) rfl (fun hq => absurd hq ((by decide))) (fun hc7 => ?_)
  refine oAloadN C d1_10 rfl rfl rfl ?_
  refine oIloadN C d1_11 rfl rfl ?_
  refine oLaload C A_b (by decide) (k := 1) rfl (v := .long u1) rfl d1_12 rfl ?_
  refine oAloadN C d1_13 rfl rfl rfl ?_
  refine oIloadN C d1_14 rfl rfl ?_
  refine oLaload C A_b (by decide) (k := 0) rfl (v := .long u0) rfl d1_15 rfl ?_
  refine oLcmp_le C d1_16 rfl d1_17 (q := 22) (by decide) (by decide) (r := 20) rfl (fun hc16 => ?_) (fun hc16 => ?_)
  ·
   refine oIinc C d1_22 rfl (z := 1) rfl (w := (2 : Int32)) (by decide) (Ls' := #[.val (.ref b), .val (.int 0), .val (.int 2)]) rfl rfl ?_
   refine oGoto C d1_25 (q := 4) (by decide) (by decide) ?_
   refine oIloadN C d1_4 rfl rfl ?_
   refine oAloadN C d1_5 rfl rfl rfl ?_
   refine oLen C A_b (z := (3 : Int32)) rfl d1_6 rfl ?_
   refine oIcmp_ge C d1_7 (q := 28) (by decide) (by decide) (r := 10) rfl (fun hq => absurd hq ((by decide))) (fun hc7_1 => ?_)
   refine oAloadN C d1_10 rfl rfl rfl ?_
   refine oIloadN C d1_11 rfl rfl ?_
   refine oLaload C A_b (by decide) (k := 2) rfl (v := .long u2) rfl d1_12 rfl ?_
   refine oAloadN C d1_13 rfl rfl rfl ?_
   refine oIloadN C d1_14 rfl rfl ?_
   refine oLaload C A_b (by decide) (k := 0) rfl (v := .long u0) rfl d1_15 rfl ?_
   refine oLcmp_le C d1_16 rfl d1_17 (q := 22) (by decide) (by decide) (r := 20) rfl (fun hc16_1 => ?_) (fun hc16_1 => ?_)
   ·
    refine oIinc C d1_22 rfl (z := 1) rfl (w := (3 : Int32)) (by decide) (Ls' := #[.val (.ref b), .val (.int 0), .val (.int 3)]) rfl rfl ?_
    refine oGoto C d1_25 (q := 4) (by decide) (by decide) ?_
    refine oIloadN C d1_4 rfl rfl ?_
    refine oAloadN C d1_5 rfl rfl rfl ?_
    refine oLen C A_b (z := (3 : Int32)) rfl d1_6 rfl ?_
    refine oIcmp_ge C d1_7 (q := 28) (by decide) (by decide) (r := 10) rfl (fun hc7_2 => ?_) (fun hq => absurd hq ((by decide)))
    refine oIloadN C d1_28 rfl rfl ?_
    refine oRetI C d1_29 (by decide) (by decide) ?_
    exact ⟨by rw [fFL3_def, if_neg hc16, if_neg hc16_1], rfl⟩
   ·
    refine oIloadN C d1_20 rfl rfl ?_
    refine oIstoreN C d1_21 (Ls' := #[.val (.ref b), .val (.int 2), .val (.int 2)]) rfl (q := 22) rfl ?_
    refine oIinc C d1_22 rfl (z := 1) rfl (w := (3 : Int32)) (by decide) (Ls' := #[.val (.ref b), .val (.int 2), .val (.int 3)]) rfl rfl ?_
    refine oGoto C d1_25 (q := 4) (by decide) (by decide) ?_
    refine oIloadN C d1_4 rfl rfl ?_
    refine oAloadN C d1_5 rfl rfl rfl ?_
    refine oLen C A_b (z := (3 : Int32)) rfl d1_6 rfl ?_
    refine oIcmp_ge C d1_7 (q := 28) (by decide) (by decide) (r := 10) rfl (fun hc7_2 => ?_) (fun hq => absurd hq ((by decide)))
    refine oIloadN C d1_28 rfl rfl ?_
    refine oRetI C d1_29 (by decide) (by decide) ?_
    exact ⟨by rw [fFL3_def, if_neg hc16, if_pos hc16_1], rfl⟩
  ·
   refine oIloadN C d1_20 rfl rfl ?_
   refine oIstoreN C d1_21 (Ls' := #[.val (.ref b), .val (.int 1), .val (.int 1)]) rfl (q := 22) rfl ?_
   refine oIinc C d1_22 rfl (z := 1) rfl (w := (2 : Int32)) (by decide) (Ls' := #[.val (.ref b), .val (.int 1), .val (.int 2)]) rfl rfl ?_
   refine oGoto C d1_25 (q := 4) (by decide) (by decide) ?_
   refine oIloadN C d1_4 rfl rfl ?_
   refine oAloadN C d1_5 rfl rfl rfl ?_
   refine oLen C A_b (z := (3 : Int32)) rfl d1_6 rfl ?_
   refine oIcmp_ge C d1_7 (q := 28) (by decide) (by decide) (r := 10) rfl (fun hq => absurd hq ((by decide))) (fun hc7_1 => ?_)
   refine oAloadN C d1_10 rfl rfl rfl ?_
   refine oIloadN C d1_11 rfl rfl ?_
   refine oLaload C A_b (by decide) (k := 2) rfl (v := .long u2) rfl d1_12 rfl ?_
   refine oAloadN C d1_13 rfl rfl rfl ?_
   refine oIloadN C d1_14 rfl rfl ?_
   refine oLaload C A_b (by decide) (k := 1) rfl (v := .long u1) rfl d1_15 rfl ?_
   refine oLcmp_le C d1_16 rfl d1_17 (q := 22) (by decide) (by decide) (r := 20) rfl (fun hc16_1 => ?_) (fun hc16_1 => ?_)
   ·
    refine oIinc C d1_22 rfl (z := 1) rfl (w := (3 : Int32)) (by decide) (Ls' := #[.val (.ref b), .val (.int 1), .val (.int 3)]) rfl rfl ?_
    refine oGoto C d1_25 (q := 4) (by decide) (by decide) ?_
    refine oIloadN C d1_4 rfl rfl ?_
    refine oAloadN C d1_5 rfl rfl rfl ?_
    refine oLen C A_b (z := (3 : Int32)) rfl d1_6 rfl ?_
    refine oIcmp_ge C d1_7 (q := 28) (by decide) (by decide) (r := 10) rfl (fun hc7_2 => ?_) (fun hq => absurd hq ((by decide)))
    refine oIloadN C d1_28 rfl rfl ?_
    refine oRetI C d1_29 (by decide) (by decide) ?_
    exact ⟨by rw [fFL3_def, if_pos hc16, if_neg hc16_1], rfl⟩
   ·
    refine oIloadN C d1_20 rfl rfl ?_
    refine oIstoreN C d1_21 (Ls' := #[.val (.ref b), .val (.int 2), .val (.int 2)]) rfl (q := 22) rfl ?_
    refine oIinc C d1_22 rfl (z := 1) rfl (w := (3 : Int32)) (by decide) (Ls' := #[.val (.ref b), .val (.int 2), .val (.int 3)]) rfl rfl ?_
    refine oGoto C d1_25 (q := 4) (by decide) (by decide) ?_
    refine oIloadN C d1_4 rfl rfl ?_
    refine oAloadN C d1_5 rfl rfl rfl ?_
    refine oLen C A_b (z := (3 : Int32)) rfl d1_6 rfl ?_
    refine oIcmp_ge C d1_7 (q := 28) (by decide) (by decide) (r := 10) rfl (fun hc7_2 => ?_) (fun hq => absurd hq ((by decide)))
    refine oIloadN C d1_28 rfl rfl ?_
    refine oRetI C d1_29 (by decide) (by decide) ?_
    exact ⟨by rw [fFL3_def, if_pos hc16, if_pos hc16_1], rfl⟩
def fFL4 (u0 : Int64) (u1 : Int64) (u2 : Int64) (u3 : Int64) : Int32 := (if u0 < u1 then (if u1 < u2 then (if u2 < u3 then (3 : Int32) else (2 : Int32)) else (if u1 < u3 then (3 : Int32) else (1 : Int32))) else (if u0 < u2 then (if u2 < u3 then (3 : Int32) else (2 : Int32)) else (if u0 < u3 then (3 : Int32) else (0 : Int32))))
theorem fFL4_def (u0 : Int64) (u1 : Int64) (u2 : Int64) (u3 : Int64) : fFL4 u0 u1 u2 u3 = (if u0 < u1 then (if u1 < u2 then (if u2 < u3 then (3 : Int32) else (2 : Int32)) else (if u1 < u3 then (3 : Int32) else (1 : Int32))) else (if u0 < u2 then (if u2 < u3 then (3 : Int32) else (2 : Int32)) else (if u0 < u3 then (3 : Int32) else (0 : Int32)))) := rfl
set_option maxRecDepth 65536 in
set_option maxHeartbeats 40000000 in
theorem mt_fFL4 (l : Launch) (Z : State) (a0 : Array Value) (hw : oHw a0 Z) (h0 : Heap) (n0 : Nat) (Z0 : n0 ≤ h0.size) (b : Addr) (u0 : Int64) (u1 : Int64) (u2 : Int64) (u3 : Int64) (A_b : oAr Z h0 b .long [.long u0, .long u1, .long u2, .long u3]) :
    oMet l Z (⟨"com/example/gavel/gavel/CandidateSums", "firstLargest", "([J)I"⟩ : MethodName) prog_15_method_9_code 3 (some .int) [] ({ frames := 0, cells := 0, slots := 0, locals := 0 } : Room) 0 0 n0 #[.ref b] h0 (fun v h => v = some (.int (fFL4 u0 u1 u2 u3)) ∧ h = h0) := by
  refine oMet.intro (plainFor_of_name pn_792397) (fun m => ef_1 m b) ?_
  intro op oe os m obl omt ocd C
  refine oIconst C d1_0 (z := 0) rfl rfl ?_
  refine oIstoreN C d1_1 (Ls' := #[.val (.ref b), .val (.int 0), .unset]) rfl (q := 2) rfl ?_
  refine oIconst C d1_2 (z := 1) rfl rfl ?_
  refine oIstoreN C d1_3 (Ls' := #[.val (.ref b), .val (.int 0), .val (.int 1)]) rfl (q := 4) rfl ?_
  refine oIloadN C d1_4 rfl rfl ?_
  refine oAloadN C d1_5 rfl rfl rfl ?_
  refine oLen C A_b (z := (4 : Int32)) rfl d1_6 rfl ?_
  refine oIcmp_ge C d1_7 (q := 28) (by decide) (by decide) (r := 10) rfl (fun hq => absurd hq ((by decide))) (fun hc7 => ?_)
  refine oAloadN C d1_10 rfl rfl rfl ?_
  refine oIloadN C d1_11 rfl rfl ?_
  refine oLaload C A_b (by decide) (k := 1) rfl (v := .long u1) rfl d1_12 rfl ?_
  refine oAloadN C d1_13 rfl rfl rfl ?_
  refine oIloadN C d1_14 rfl rfl ?_
  refine oLaload C A_b (by decide) (k := 0) rfl (v := .long u0) rfl d1_15 rfl ?_
  refine oLcmp_le C d1_16 rfl d1_17 (q := 22) (by decide) (by decide) (r := 20) rfl (fun hc16 => ?_) (fun hc16 => ?_)
  ·
   refine oIinc C d1_22 rfl (z := 1) rfl (w := (2 : Int32)) (by decide) (Ls' := #[.val (.ref b), .val (.int 0), .val (.int 2)]) rfl rfl ?_
   refine oGoto C d1_25 (q := 4) (by decide) (by decide) ?_
   refine oIloadN C d1_4 rfl rfl ?_
   refine oAloadN C d1_5 rfl rfl rfl ?_
   refine oLen C A_b (z := (4 : Int32)) rfl d1_6 rfl ?_
   refine oIcmp_ge C d1_7 (q := 28) (by decide) (by decide) (r := 10) rfl (fun hq => absurd hq ((by decide))) (fun hc7_1 => ?_)
   refine oAloadN C d1_10 rfl rfl rfl ?_
   refine oIloadN C d1_11 rfl rfl ?_
   refine oLaload C A_b (by decide) (k := 2) rfl (v := .long u2) rfl d1_12 rfl ?_
   refine oAloadN C d1_13 rfl rfl rfl ?_
   refine oIloadN C d1_14 rfl rfl ?_
   refine oLaload C A_b (by decide) (k := 0) rfl (v := .long u0) rfl d1_15 rfl ?_
   refine oLcmp_le C d1_16 rfl d1_17 (q := 22) (by decide) (by decide) (r := 20) rfl (fun hc16_1 => ?_) (fun hc16_1 => ?_)
   ·
    refine oIinc C d1_22 rfl (z := 1) rfl (w := (3 : Int32)) (by decide) (Ls' := #[.val (.ref b), .val (.int 0), .val (.int 3)]) rfl rfl ?_
    refine oGoto C d1_25 (q := 4) (by decide) (by decide) ?_
    refine oIloadN C d1_4 rfl rfl ?_
    refine oAloadN C d1_5 rfl rfl rfl ?_
    refine oLen C A_b (z := (4 : Int32)) rfl d1_6 rfl ?_
    refine oIcmp_ge C d1_7 (q := 28) (by decide) (by decide) (r := 10) rfl (fun hq => absurd hq ((by decide))) (fun hc7_2 => ?_)
    refine oAloadN C d1_10 rfl rfl rfl ?_
    refine oIloadN C d1_11 rfl rfl ?_
    refine oLaload C A_b (by decide) (k := 3) rfl (v := .long u3) rfl d1_12 rfl ?_
    refine oAloadN C d1_13 rfl rfl rfl ?_
    refine oIloadN C d1_14 rfl rfl ?_
    refine oLaload C A_b (by decide) (k := 0) rfl (v := .long u0) rfl d1_15 rfl ?_
    refine oLcmp_le C d1_16 rfl d1_17 (q := 22) (by decide) (by decide) (r := 20) rfl (fun hc16_2 => ?_) (fun hc16_2 => ?_)
    ·
     refine oIinc C d1_22 rfl (z := 1) rfl (w := (4 : Int32)) (by decide) (Ls' := #[.val (.ref b), .val (.int 0), .val (.int 4)]) rfl rfl ?_
     refine oGoto C d1_25 (q := 4) (by decide) (by decide) ?_
     refine oIloadN C d1_4 rfl rfl ?_
     refine oAloadN C d1_5 rfl rfl rfl ?_
     refine oLen C A_b (z := (4 : Int32)) rfl d1_6 rfl ?_
     refine oIcmp_ge C d1_7 (q := 28) (by decide) (by decide) (r := 10) rfl (fun hc7_3 => ?_) (fun hq => absurd hq ((by decide)))
     refine oIloadN C d1_28 rfl rfl ?_
     refine oRetI C d1_29 (by decide) (by decide) ?_
     exact ⟨by rw [fFL4_def, if_neg hc16, if_neg hc16_1, if_neg hc16_2], rfl⟩
    ·
     refine oIloadN C d1_20 rfl rfl ?_
     refine oIstoreN C d1_21 (Ls' := #[.val (.ref b), .val (.int 3), .val (.int 3)]) rfl (q := 22) rfl ?_
     refine oIinc C d1_22 rfl (z := 1) rfl (w := (4 : Int32)) (by decide) (Ls' := #[.val (.ref b), .val (.int 3), .val (.int 4)]) rfl rfl ?_
     refine oGoto C d1_25 (q := 4) (by decide) (by decide) ?_
     refine oIloadN C d1_4 rfl rfl ?_
     refine oAloadN C d1_5 rfl rfl rfl ?_
     refine oLen C A_b (z := (4 : Int32)) rfl d1_6 rfl ?_
     refine oIcmp_ge C d1_7 (q := 28) (by decide) (by decide) (r := 10) rfl (fun hc7_3 => ?_) (fun hq => absurd hq ((by decide)))
     refine oIloadN C d1_28 rfl rfl ?_
     refine oRetI C d1_29 (by decide) (by decide) ?_
     exact ⟨by rw [fFL4_def, if_neg hc16, if_neg hc16_1, if_pos hc16_2], rfl⟩
   ·
    refine oIloadN C d1_20 rfl rfl ?_
    refine oIstoreN C d1_21 (Ls' := #[.val (.ref b), .val (.int 2), .val (.int 2)]) rfl (q := 22) rfl ?_
    refine oIinc C d1_22 rfl (z := 1) rfl (w := (3 : Int32)) (by decide) (Ls' := #[.val (.ref b), .val (.int 2), .val (.int 3)]) rfl rfl ?_
    refine oGoto C d1_25 (q := 4) (by decide) (by decide) ?_
    refine oIloadN C d1_4 rfl rfl ?_
    refine oAloadN C d1_5 rfl rfl rfl ?_
    refine oLen C A_b (z := (4 : Int32)) rfl d1_6 rfl ?_
    refine oIcmp_ge C d1_7 (q := 28) (by decide) (by decide) (r := 10) rfl (fun hq => absurd hq ((by decide))) (fun hc7_2 => ?_)
    refine oAloadN C d1_10 rfl rfl rfl ?_
    refine oIloadN C d1_11 rfl rfl ?_
    refine oLaload C A_b (by decide) (k := 3) rfl (v := .long u3) rfl d1_12 rfl ?_
    refine oAloadN C d1_13 rfl rfl rfl ?_
    refine oIloadN C d1_14 rfl rfl ?_
    refine oLaload C A_b (by decide) (k := 2) rfl (v := .long u2) rfl d1_15 rfl ?_
    refine oLcmp_le C d1_16 rfl d1_17 (q := 22) (by decide) (by decide) (r := 20) rfl (fun hc16_2 => ?_) (fun hc16_2 => ?_)
    ·
     refine oIinc C d1_22 rfl (z := 1) rfl (w := (4 : Int32)) (by decide) (Ls' := #[.val (.ref b), .val (.int 2), .val (.int 4)]) rfl rfl ?_
     refine oGoto C d1_25 (q := 4) (by decide) (by decide) ?_
     refine oIloadN C d1_4 rfl rfl ?_
     refine oAloadN C d1_5 rfl rfl rfl ?_
     refine oLen C A_b (z := (4 : Int32)) rfl d1_6 rfl ?_
     refine oIcmp_ge C d1_7 (q := 28) (by decide) (by decide) (r := 10) rfl (fun hc7_3 => ?_) (fun hq => absurd hq ((by decide)))
     refine oIloadN C d1_28 rfl rfl ?_
     refine oRetI C d1_29 (by decide) (by decide) ?_
     exact ⟨by rw [fFL4_def, if_neg hc16, if_pos hc16_1, if_neg hc16_2], rfl⟩
    ·
     refine oIloadN C d1_20 rfl rfl ?_
     refine oIstoreN C d1_21 (Ls' := #[.val (.ref b), .val (.int 3), .val (.int 3)]) rfl (q := 22) rfl ?_
     refine oIinc C d1_22 rfl (z := 1) rfl (w := (4 : Int32)) (by decide) (Ls' := #[.val (.ref b), .val (.int 3), .val (.int 4)]) rfl rfl ?_
     refine oGoto C d1_25 (q := 4) (by decide) (by decide) ?_
     refine oIloadN C d1_4 rfl rfl ?_
     refine oAloadN C d1_5 rfl rfl rfl ?_
     refine oLen C A_b (z := (4 : Int32)) rfl d1_6 rfl ?_
     refine oIcmp_ge C d1_7 (q := 28) (by decide) (by decide) (r := 10) rfl (fun hc7_3 => ?_) (fun hq => absurd hq ((by decide)))
     refine oIloadN C d1_28 rfl rfl ?_
     refine oRetI C d1_29 (by decide) (by decide) ?_
     exact ⟨by rw [fFL4_def, if_neg hc16, if_pos hc16_1, if_pos hc16_2], rfl⟩
  ·
   refine oIloadN C d1_20 rfl rfl ?_
   refine oIstoreN C d1_21 (Ls' := #[.val (.ref b), .val (.int 1), .val (.int 1)]) rfl (q := 22) rfl ?_
   refine oIinc C d1_22 rfl (z := 1) rfl (w := (2 : Int32)) (by decide) (Ls' := #[.val (.ref b), .val (.int 1), .val (.int 2)]) rfl rfl ?_
   refine oGoto C d1_25 (q := 4) (by decide) (by decide) ?_
   refine oIloadN C d1_4 rfl rfl ?_
   refine oAloadN C d1_5 rfl rfl rfl ?_
   refine oLen C A_b (z := (4 : Int32)) rfl d1_6 rfl ?_
   refine oIcmp_ge C d1_7 (q := 28) (by decide) (by decide) (r := 10) rfl (fun hq => absurd hq ((by decide))) (fun hc7_1 => ?_)
   refine oAloadN C d1_10 rfl rfl rfl ?_
   refine oIloadN C d1_11 rfl rfl ?_
   refine oLaload C A_b (by decide) (k := 2) rfl (v := .long u2) rfl d1_12 rfl ?_
   refine oAloadN C d1_13 rfl rfl rfl ?_
   refine oIloadN C d1_14 rfl rfl ?_
   refine oLaload C A_b (by decide) (k := 1) rfl (v := .long u1) rfl d1_15 rfl ?_
   refine oLcmp_le C d1_16 rfl d1_17 (q := 22) (by decide) (by decide) (r := 20) rfl (fun hc16_1 => ?_) (fun hc16_1 => ?_)
   ·
    refine oIinc C d1_22 rfl (z := 1) rfl (w := (3 : Int32)) (by decide) (Ls' := #[.val (.ref b), .val (.int 1), .val (.int 3)]) rfl rfl ?_
    refine oGoto C d1_25 (q := 4) (by decide) (by decide) ?_
    refine oIloadN C d1_4 rfl rfl ?_
    refine oAloadN C d1_5 rfl rfl rfl ?_
    refine oLen C A_b (z := (4 : Int32)) rfl d1_6 rfl ?_
    refine oIcmp_ge C d1_7 (q := 28) (by decide) (by decide) (r := 10) rfl (fun hq => absurd hq ((by decide))) (fun hc7_2 => ?_)
    refine oAloadN C d1_10 rfl rfl rfl ?_
    refine oIloadN C d1_11 rfl rfl ?_
    refine oLaload C A_b (by decide) (k := 3) rfl (v := .long u3) rfl d1_12 rfl ?_
    refine oAloadN C d1_13 rfl rfl rfl ?_
    refine oIloadN C d1_14 rfl rfl ?_
    refine oLaload C A_b (by decide) (k := 1) rfl (v := .long u1) rfl d1_15 rfl ?_
    refine oLcmp_le C d1_16 rfl d1_17 (q := 22) (by decide) (by decide) (r := 20) rfl (fun hc16_2 => ?_) (fun hc16_2 => ?_)
    ·
     refine oIinc C d1_22 rfl (z := 1) rfl (w := (4 : Int32)) (by decide) (Ls' := #[.val (.ref b), .val (.int 1), .val (.int 4)]) rfl rfl ?_
     refine oGoto C d1_25 (q := 4) (by decide) (by decide) ?_
     refine oIloadN C d1_4 rfl rfl ?_
     refine oAloadN C d1_5 rfl rfl rfl ?_
     refine oLen C A_b (z := (4 : Int32)) rfl d1_6 rfl ?_
     refine oIcmp_ge C d1_7 (q := 28) (by decide) (by decide) (r := 10) rfl (fun hc7_3 => ?_) (fun hq => absurd hq ((by decide)))
     refine oIloadN C d1_28 rfl rfl ?_
     refine oRetI C d1_29 (by decide) (by decide) ?_
     exact ⟨by rw [fFL4_def, if_pos hc16, if_neg hc16_1, if_neg hc16_2], rfl⟩
    ·
     refine oIloadN C d1_20 rfl rfl ?_
     refine oIstoreN C d1_21 (Ls' := #[.val (.ref b), .val (.int 3), .val (.int 3)]) rfl (q := 22) rfl ?_
     refine oIinc C d1_22 rfl (z := 1) rfl (w := (4 : Int32)) (by decide) (Ls' := #[.val (.ref b), .val (.int 3), .val (.int 4)]) rfl rfl ?_
     refine oGoto C d1_25 (q := 4) (by decide) (by decide) ?_
     refine oIloadN C d1_4 rfl rfl ?_
     refine oAloadN C d1_5 rfl rfl rfl ?_
     refine oLen C A_b (z := (4 : Int32)) rfl d1_6 rfl ?_
     refine oIcmp_ge C d1_7 (q := 28) (by decide) (by decide) (r := 10) rfl (fun hc7_3 => ?_) (fun hq => absurd hq ((by decide)))
     refine oIloadN C d1_28 rfl rfl ?_
     refine oRetI C d1_29 (by decide) (by decide) ?_
     exact ⟨by rw [fFL4_def, if_pos hc16, if_neg hc16_1, if_pos hc16_2], rfl⟩
   ·
    refine oIloadN C d1_20 rfl rfl ?_
    refine oIstoreN C d1_21 (Ls' := #[.val (.ref b), .val (.int 2), .val (.int 2)]) rfl (q := 22) rfl ?_
    refine oIinc C d1_22 rfl (z := 1) rfl (w := (3 : Int32)) (by decide) (Ls' := #[.val (.ref b), .val (.int 2), .val (.int 3)]) rfl rfl ?_
    refine oGoto C d1_25 (q := 4) (by decide) (by decide) ?_
    refine oIloadN C d1_4 rfl rfl ?_
    refine oAloadN C d1_5 rfl rfl rfl ?_
    refine oLen C A_b (z := (4 : Int32)) rfl d1_6 rfl ?_
    refine oIcmp_ge C d1_7 (q := 28) (by decide) (by decide) (r := 10) rfl (fun hq => absurd hq ((by decide))) (fun hc7_2 => ?_)
    refine oAloadN C d1_10 rfl rfl rfl ?_
    refine oIloadN C d1_11 rfl rfl ?_
    refine oLaload C A_b (by decide) (k := 3) rfl (v := .long u3) rfl d1_12 rfl ?_
    refine oAloadN C d1_13 rfl rfl rfl ?_
    refine oIloadN C d1_14 rfl rfl ?_
    refine oLaload C A_b (by decide) (k := 2) rfl (v := .long u2) rfl d1_15 rfl ?_
    refine oLcmp_le C d1_16 rfl d1_17 (q := 22) (by decide) (by decide) (r := 20) rfl (fun hc16_2 => ?_) (fun hc16_2 => ?_)
    ·
     refine oIinc C d1_22 rfl (z := 1) rfl (w := (4 : Int32)) (by decide) (Ls' := #[.val (.ref b), .val (.int 2), .val (.int 4)]) rfl rfl ?_
     refine oGoto C d1_25 (q := 4) (by decide) (by decide) ?_
     refine oIloadN C d1_4 rfl rfl ?_
     refine oAloadN C d1_5 rfl rfl rfl ?_
     refine oLen C A_b (z := (4 : Int32)) rfl d1_6 rfl ?_
     refine oIcmp_ge C d1_7 (q := 28) (by decide) (by decide) (r := 10) rfl (fun hc7_3 => ?_) (fun hq => absurd hq ((by decide)))
     refine oIloadN C d1_28 rfl rfl ?_
     refine oRetI C d1_29 (by decide) (by decide) ?_
     exact ⟨by rw [fFL4_def, if_pos hc16, if_pos hc16_1, if_neg hc16_2], rfl⟩
    ·
     refine oIloadN C d1_20 rfl rfl ?_
     refine oIstoreN C d1_21 (Ls' := #[.val (.ref b), .val (.int 3), .val (.int 3)]) rfl (q := 22) rfl ?_
     refine oIinc C d1_22 rfl (z := 1) rfl (w := (4 : Int32)) (by decide) (Ls' := #[.val (.ref b), .val (.int 3), .val (.int 4)]) rfl rfl ?_
     refine oGoto C d1_25 (q := 4) (by decide) (by decide) ?_
     refine oIloadN C d1_4 rfl rfl ?_
     refine oAloadN C d1_5 rfl rfl rfl ?_
     refine oLen C A_b (z := (4 : Int32)) rfl d1_6 rfl ?_
     refine oIcmp_ge C d1_7 (q := 28) (by decide) (by decide) (r := 10) rfl (fun hc7_3 => ?_) (fun hq => absurd hq ((by decide)))
     refine oIloadN C d1_28 rfl rfl ?_
     refine oRetI C d1_29 (by decide) (by decide) ?_
     exact ⟨by rw [fFL4_def, if_pos hc16, if_pos hc16_1, if_pos hc16_2], rfl⟩
theorem ef_2 (m : MethodId) (x0 : Int64) (x1 : Int32) (x2 : Int32) (x3 : Int32) (x4 : Int64) : entryFrame m #[.long x0, .int x1, .int x2, .int x3, .long x4] 7 = mkF m 0 #[.val (.long x0), .second, .val (.int x1), .val (.int x2), .val (.int x3), .val (.long x4), .second] [] := by first | (simp [entryFrame, mkF, argsToLocals, Value.category]; done) | rfl
theorem pn_427976 : plainName "com/example/gavel/gavel/CandidateSumsFirstLargestPinLaw" = true := by first | (simp [plainName, overriddenIn]; done) | decide +kernel
def fOk (v1 : Int64) (j1 : Int32) (n1 : Int32) (r1 : Int32) (b1 : Int64) : Int32 := (if j1 < n1 then (if j1 < r1 then (if v1 < b1 then (1 : Int32) else (0 : Int32)) else (if b1 < v1 then (0 : Int32) else (1 : Int32))) else (1 : Int32))
theorem fOk_def (v1 : Int64) (j1 : Int32) (n1 : Int32) (r1 : Int32) (b1 : Int64) : fOk v1 j1 n1 r1 b1 = (if j1 < n1 then (if j1 < r1 then (if v1 < b1 then (1 : Int32) else (0 : Int32)) else (if b1 < v1 then (0 : Int32) else (1 : Int32))) else (1 : Int32)) := rfl
theorem d2_0 : decode method_3_code 0 = .ok (.iload_n 2, 1) := by decide +kernel
theorem d2_1 : decode method_3_code 1 = .ok (.iload_n 3, 1) := by decide +kernel
theorem d2_2 : decode method_3_code 2 = .ok (.if_icmp .lt 5, 3) := by decide +kernel
theorem d2_5 : decode method_3_code 5 = .ok (.iconst 1, 1) := by decide +kernel
theorem d2_6 : decode method_3_code 6 = .ok (.ireturn, 1) := by decide +kernel
theorem d2_7 : decode method_3_code 7 = .ok (.iload_n 2, 1) := by decide +kernel
theorem d2_8 : decode method_3_code 8 = .ok (.iload 4, 2) := by decide +kernel
theorem d2_10 : decode method_3_code 10 = .ok (.if_icmp .ge 16, 3) := by decide +kernel
theorem d2_13 : decode method_3_code 13 = .ok (.lload_n 0, 1) := by decide +kernel
theorem d2_14 : decode method_3_code 14 = .ok (.lload 5, 2) := by decide +kernel
theorem d2_16 : decode method_3_code 16 = .ok (.lcmp, 1) := by decide +kernel
theorem d2_17 : decode method_3_code 17 = .ok (.ifCond .ge 7, 3) := by decide +kernel
theorem d2_20 : decode method_3_code 20 = .ok (.iconst 1, 1) := by decide +kernel
theorem d2_21 : decode method_3_code 21 = .ok (.goto 4, 3) := by decide +kernel
theorem d2_24 : decode method_3_code 24 = .ok (.iconst 0, 1) := by decide +kernel
theorem d2_25 : decode method_3_code 25 = .ok (.ireturn, 1) := by decide +kernel
theorem d2_26 : decode method_3_code 26 = .ok (.lload_n 0, 1) := by decide +kernel
theorem d2_27 : decode method_3_code 27 = .ok (.lload 5, 2) := by decide +kernel
theorem d2_29 : decode method_3_code 29 = .ok (.lcmp, 1) := by decide +kernel
theorem d2_30 : decode method_3_code 30 = .ok (.ifCond .gt 7, 3) := by decide +kernel
theorem d2_33 : decode method_3_code 33 = .ok (.iconst 1, 1) := by decide +kernel
theorem d2_34 : decode method_3_code 34 = .ok (.goto 4, 3) := by decide +kernel
theorem d2_37 : decode method_3_code 37 = .ok (.iconst 0, 1) := by decide +kernel
theorem d2_38 : decode method_3_code 38 = .ok (.ireturn, 1) := by decide +kernel
set_option maxRecDepth 65536 in
set_option maxHeartbeats 40000000 in
theorem mt_fOk (l : Launch) (Z : State) (a0 : Array Value) (hw : oHw a0 Z) (h0 : Heap) (n0 : Nat) (Z0 : n0 ≤ h0.size) (v1 : Int64) (j1 : Int32) (n1 : Int32) (r1 : Int32) (b1 : Int64)  :
    oMet l Z (⟨"com/example/gavel/gavel/CandidateSumsFirstLargestPinLaw", "ok", "(JIIIJ)Z"⟩ : MethodName) method_3_code 7 (some .boolean) [] ({ frames := 0, cells := 0, slots := 0, locals := 0 } : Room) 0 0 n0 #[.long v1, .int j1, .int n1, .int r1, .long b1] h0 (fun v h => v = some (.int (fOk v1 j1 n1 r1 b1)) ∧ h = h0) := by
  refine oMet.intro (plainFor_of_name pn_427976) (fun m => ef_2 m v1 j1 n1 r1 b1) ?_
  intro op oe os m obl omt ocd C
  refine oIloadN C d2_0 rfl rfl ?_
  refine oIloadN C d2_1 rfl rfl ?_
  refine oIcmp_lt C d2_2 (q := 7) (by decide) (by decide) (r := 5) rfl (fun hc2 => ?_) (fun hc2 => ?_)
  ·
   refine oIloadN C d2_7 rfl rfl ?_
   refine oIload C d2_8 rfl rfl ?_
   refine oIcmp_ge C d2_10 (q := 26) (by decide) (by decide) (r := 13) rfl (fun hc10 => ?_) (fun hc10 => ?_)
   ·
    refine oLloadN C d2_26 rfl rfl ?_
    refine oLload C d2_27 rfl rfl ?_
    refine oLcmp_gt C d2_29 rfl d2_30 (q := 37) (by decide) (by decide) (r := 33) rfl (fun hc29 => ?_) (fun hc29 => ?_)
    ·
     refine oIconst C d2_37 (z := 0) rfl rfl ?_
     refine oRetZ C d2_38 (z' := (0 : Int32)) rfl (by decide) (by decide) ?_
     exact ⟨by rw [fOk_def, if_pos hc2, if_neg hc10, if_pos hc29], rfl⟩
    ·
     refine oIconst C d2_33 (z := 1) rfl rfl ?_
     refine oGoto C d2_34 (q := 38) (by decide) (by decide) ?_
     refine oRetZ C d2_38 (z' := (1 : Int32)) rfl (by decide) (by decide) ?_
     exact ⟨by rw [fOk_def, if_pos hc2, if_neg hc10, if_neg hc29], rfl⟩
   ·
    refine oLloadN C d2_13 rfl rfl ?_
    refine oLload C d2_14 rfl rfl ?_
    refine oLcmp_ge C d2_16 rfl d2_17 (q := 24) (by decide) (by decide) (r := 20) rfl (fun hc16 => ?_) (fun hc16 => ?_)
    ·
     refine oIconst C d2_24 (z := 0) rfl rfl ?_
     refine oRetZ C d2_25 (z' := (0 : Int32)) rfl (by decide) (by decide) ?_
     exact ⟨by rw [fOk_def, if_pos hc2, if_pos hc10, if_neg hc16], rfl⟩
    ·
     refine oIconst C d2_20 (z := 1) rfl rfl ?_
     refine oGoto C d2_21 (q := 25) (by decide) (by decide) ?_
     refine oRetZ C d2_25 (z' := (1 : Int32)) rfl (by decide) (by decide) ?_
     exact ⟨by rw [fOk_def, if_pos hc2, if_pos hc10, if_pos hc16], rfl⟩
  ·
   refine oIconst C d2_5 (z := 1) rfl rfl ?_
   refine oRetZ C d2_6 (z' := (1 : Int32)) rfl (by decide) (by decide) ?_
   exact ⟨by rw [fOk_def, if_neg hc2], rfl⟩
theorem own_ok1 {v b : Int64} {j n r : Int32} (h : ¬ j < n) : fOk v j n r b = 1 := by rw [fOk_def, if_neg h]
theorem own_ok2 {v b : Int64} {j n r : Int32} (h1 : j < n) (h2 : j < r) (h3 : v < b) : fOk v j n r b = 1 := by rw [fOk_def, if_pos h1, if_pos h2, if_pos h3]
theorem own_ok3 {v b : Int64} {j n r : Int32} (h1 : j < n) (h2 : ¬ j < r) (h3 : ¬ b < v) : fOk v j n r b = 1 := by rw [fOk_def, if_pos h1, if_neg h2, if_neg h3]
theorem own_irr (v : Int64) : ¬ v < v := by rw [Int64.lt_iff_toInt_lt]; omega
theorem own_nn (x : Int32) : ((x &&& (3 : Int32)) + (1 : Int32)) = 1 ∨ ((x &&& (3 : Int32)) + (1 : Int32)) = 2 ∨ ((x &&& (3 : Int32)) + (1 : Int32)) = 3 ∨ ((x &&& (3 : Int32)) + (1 : Int32)) = 4 := by
  have e1 := c_mask x 3 2 (by decide) (by decide)
  have e7 := c_iadd (x &&& 3) 1
  have e8 := rng32 ((x &&& 3) + 1)
  rw [show (1 : Int32).toInt = 1 from rfl] at e7
  simp only [← Int32.toInt_inj, Int32.reduceToInt]
  omega
theorem own_fl1 (u0 : Int64) : (fFL1 u0 = 0) := by
  rw [fFL1_def]
theorem own_fl2 (u0 u1 : Int64) : (fFL2 u0 u1 = 0 ∧ ¬ u0 < u1) ∨ (fFL2 u0 u1 = 1 ∧ u0 < u1) := by
  rw [fFL2_def]
  simp only [Int64.lt_iff_toInt_lt]
  (repeat' split) <;> simp <;> omega
theorem own_fl3 (u0 u1 u2 : Int64) : (fFL3 u0 u1 u2 = 0 ∧ ¬ u0 < u1 ∧ ¬ u0 < u2) ∨ (fFL3 u0 u1 u2 = 1 ∧ u0 < u1 ∧ ¬ u1 < u2) ∨ (fFL3 u0 u1 u2 = 2 ∧ u0 < u2 ∧ u1 < u2) := by
  rw [fFL3_def]
  simp only [Int64.lt_iff_toInt_lt]
  (repeat' split) <;> simp <;> omega
theorem own_fl4 (u0 u1 u2 u3 : Int64) : (fFL4 u0 u1 u2 u3 = 0 ∧ ¬ u0 < u1 ∧ ¬ u0 < u2 ∧ ¬ u0 < u3) ∨ (fFL4 u0 u1 u2 u3 = 1 ∧ u0 < u1 ∧ ¬ u1 < u2 ∧ ¬ u1 < u3) ∨ (fFL4 u0 u1 u2 u3 = 2 ∧ u0 < u2 ∧ u1 < u2 ∧ ¬ u2 < u3) ∨ (fFL4 u0 u1 u2 u3 = 3 ∧ u0 < u3 ∧ u1 < u3 ∧ u2 < u3) := by
  rw [fFL4_def]
  simp only [Int64.lt_iff_toInt_lt]
  (repeat' split) <;> simp <;> omega
theorem ef_0 (m : MethodId) (x0 : Int32) (x1 : Int64) (x2 : Int64) (x3 : Int64) (x4 : Int64) : entryFrame m #[.int x0, .long x1, .long x2, .long x3, .long x4] maxLocals = mkF m 0 #[.val (.int x0), .val (.long x1), .second, .val (.long x2), .second, .val (.long x3), .second, .val (.long x4), .second, .unset, .unset, .unset, .unset, .unset, .unset, .unset, .unset, .unset, .unset, .unset, .unset, .unset, .unset] [] := by first | (simp [entryFrame, mkF, argsToLocals, Value.category, maxLocals]; done) | rfl
def fV1_1 (sh : Int32) (x1 : Int64) (x2 : Int64) : Int64 := (if ((sh >>> ((2 : Int32) &&& 31)) &&& (1 : Int32)) = 0 then x2 else x1)
theorem fV1_1_def (sh : Int32) (x1 : Int64) (x2 : Int64) : fV1_1 sh x1 x2 = (if ((sh >>> ((2 : Int32) &&& 31)) &&& (1 : Int32)) = 0 then x2 else x1) := rfl
def fV2_1 (sh : Int32) (x1 : Int64) (x2 : Int64) (x3 : Int64) : Int64 := (if ((sh >>> ((3 : Int32) &&& 31)) &&& (1 : Int32)) = 0 then x3 else (if ((sh >>> ((4 : Int32) &&& 31)) &&& (1 : Int32)) = 0 then (fV1_1 sh x1 x2) else x1))
theorem fV2_1_def (sh : Int32) (x1 : Int64) (x2 : Int64) (x3 : Int64) : fV2_1 sh x1 x2 x3 = (if ((sh >>> ((3 : Int32) &&& 31)) &&& (1 : Int32)) = 0 then x3 else (if ((sh >>> ((4 : Int32) &&& 31)) &&& (1 : Int32)) = 0 then (fV1_1 sh x1 x2) else x1)) := rfl
def fV3_1 (sh : Int32) (x1 : Int64) (x2 : Int64) (x3 : Int64) (x4 : Int64) : Int64 := (if ((sh >>> ((5 : Int32) &&& 31)) &&& (1 : Int32)) = 0 then x4 else (if ((sh >>> ((6 : Int32) &&& 31)) &&& (1 : Int32)) = 0 then (fV2_1 sh x1 x2 x3) else (fV1_1 sh x1 x2)))
theorem fV3_1_def (sh : Int32) (x1 : Int64) (x2 : Int64) (x3 : Int64) (x4 : Int64) : fV3_1 sh x1 x2 x3 x4 = (if ((sh >>> ((5 : Int32) &&& 31)) &&& (1 : Int32)) = 0 then x4 else (if ((sh >>> ((6 : Int32) &&& 31)) &&& (1 : Int32)) = 0 then (fV2_1 sh x1 x2 x3) else (fV1_1 sh x1 x2))) := rfl
theorem pd_429913 : parseMethodDescriptor "([J)I" = some ⟨[(.array .long)], some .int⟩ := by decide +kernel
theorem pd_813322 : parseMethodDescriptor "(JIIIJ)Z" = some ⟨[.long, .int, .int, .int, .long], some .boolean⟩ := by decide +kernel
def fV1_2 (sh : Int32) (x1 : Int64) (x2 : Int64) : Int64 := (if ((sh >>> ((2 : Int32) &&& 31)) &&& (1 : Int32)) = 0 then x2 else x1)
theorem fV1_2_def (sh : Int32) (x1 : Int64) (x2 : Int64) : fV1_2 sh x1 x2 = (if ((sh >>> ((2 : Int32) &&& 31)) &&& (1 : Int32)) = 0 then x2 else x1) := rfl
def fV2_2 (sh : Int32) (x1 : Int64) (x2 : Int64) (x3 : Int64) : Int64 := (if ((sh >>> ((3 : Int32) &&& 31)) &&& (1 : Int32)) = 0 then x3 else (if ((sh >>> ((4 : Int32) &&& 31)) &&& (1 : Int32)) = 0 then (fV1_2 sh x1 x2) else x1))
theorem fV2_2_def (sh : Int32) (x1 : Int64) (x2 : Int64) (x3 : Int64) : fV2_2 sh x1 x2 x3 = (if ((sh >>> ((3 : Int32) &&& 31)) &&& (1 : Int32)) = 0 then x3 else (if ((sh >>> ((4 : Int32) &&& 31)) &&& (1 : Int32)) = 0 then (fV1_2 sh x1 x2) else x1)) := rfl
def fV3_2 (sh : Int32) (x1 : Int64) (x2 : Int64) (x3 : Int64) (x4 : Int64) : Int64 := (if ((sh >>> ((5 : Int32) &&& 31)) &&& (1 : Int32)) = 0 then x4 else (if ((sh >>> ((6 : Int32) &&& 31)) &&& (1 : Int32)) = 0 then (fV2_2 sh x1 x2 x3) else (fV1_2 sh x1 x2)))
theorem fV3_2_def (sh : Int32) (x1 : Int64) (x2 : Int64) (x3 : Int64) (x4 : Int64) : fV3_2 sh x1 x2 x3 x4 = (if ((sh >>> ((5 : Int32) &&& 31)) &&& (1 : Int32)) = 0 then x4 else (if ((sh >>> ((6 : Int32) &&& 31)) &&& (1 : Int32)) = 0 then (fV2_2 sh x1 x2 x3) else (fV1_2 sh x1 x2))) := rfl
def fV1_3 (sh : Int32) (x1 : Int64) (x2 : Int64) : Int64 := (if ((sh >>> ((2 : Int32) &&& 31)) &&& (1 : Int32)) = 0 then x2 else x1)
theorem fV1_3_def (sh : Int32) (x1 : Int64) (x2 : Int64) : fV1_3 sh x1 x2 = (if ((sh >>> ((2 : Int32) &&& 31)) &&& (1 : Int32)) = 0 then x2 else x1) := rfl
def fV2_3 (sh : Int32) (x1 : Int64) (x2 : Int64) (x3 : Int64) : Int64 := (if ((sh >>> ((3 : Int32) &&& 31)) &&& (1 : Int32)) = 0 then x3 else (if ((sh >>> ((4 : Int32) &&& 31)) &&& (1 : Int32)) = 0 then (fV1_3 sh x1 x2) else x1))
theorem fV2_3_def (sh : Int32) (x1 : Int64) (x2 : Int64) (x3 : Int64) : fV2_3 sh x1 x2 x3 = (if ((sh >>> ((3 : Int32) &&& 31)) &&& (1 : Int32)) = 0 then x3 else (if ((sh >>> ((4 : Int32) &&& 31)) &&& (1 : Int32)) = 0 then (fV1_3 sh x1 x2) else x1)) := rfl
def fV3_3 (sh : Int32) (x1 : Int64) (x2 : Int64) (x3 : Int64) (x4 : Int64) : Int64 := (if ((sh >>> ((5 : Int32) &&& 31)) &&& (1 : Int32)) = 0 then x4 else (if ((sh >>> ((6 : Int32) &&& 31)) &&& (1 : Int32)) = 0 then (fV2_3 sh x1 x2 x3) else (fV1_3 sh x1 x2)))
theorem fV3_3_def (sh : Int32) (x1 : Int64) (x2 : Int64) (x3 : Int64) (x4 : Int64) : fV3_3 sh x1 x2 x3 x4 = (if ((sh >>> ((5 : Int32) &&& 31)) &&& (1 : Int32)) = 0 then x4 else (if ((sh >>> ((6 : Int32) &&& 31)) &&& (1 : Int32)) = 0 then (fV2_3 sh x1 x2 x3) else (fV1_3 sh x1 x2))) := rfl
def fV1_4 (sh : Int32) (x1 : Int64) (x2 : Int64) : Int64 := (if ((sh >>> ((2 : Int32) &&& 31)) &&& (1 : Int32)) = 0 then x2 else x1)
theorem fV1_4_def (sh : Int32) (x1 : Int64) (x2 : Int64) : fV1_4 sh x1 x2 = (if ((sh >>> ((2 : Int32) &&& 31)) &&& (1 : Int32)) = 0 then x2 else x1) := rfl
def fV2_4 (sh : Int32) (x1 : Int64) (x2 : Int64) (x3 : Int64) : Int64 := (if ((sh >>> ((3 : Int32) &&& 31)) &&& (1 : Int32)) = 0 then x3 else (if ((sh >>> ((4 : Int32) &&& 31)) &&& (1 : Int32)) = 0 then (fV1_4 sh x1 x2) else x1))
theorem fV2_4_def (sh : Int32) (x1 : Int64) (x2 : Int64) (x3 : Int64) : fV2_4 sh x1 x2 x3 = (if ((sh >>> ((3 : Int32) &&& 31)) &&& (1 : Int32)) = 0 then x3 else (if ((sh >>> ((4 : Int32) &&& 31)) &&& (1 : Int32)) = 0 then (fV1_4 sh x1 x2) else x1)) := rfl
def fV3_4 (sh : Int32) (x1 : Int64) (x2 : Int64) (x3 : Int64) (x4 : Int64) : Int64 := (if ((sh >>> ((5 : Int32) &&& 31)) &&& (1 : Int32)) = 0 then x4 else (if ((sh >>> ((6 : Int32) &&& 31)) &&& (1 : Int32)) = 0 then (fV2_4 sh x1 x2 x3) else (fV1_4 sh x1 x2)))
theorem fV3_4_def (sh : Int32) (x1 : Int64) (x2 : Int64) (x3 : Int64) (x4 : Int64) : fV3_4 sh x1 x2 x3 x4 = (if ((sh >>> ((5 : Int32) &&& 31)) &&& (1 : Int32)) = 0 then x4 else (if ((sh >>> ((6 : Int32) &&& 31)) &&& (1 : Int32)) = 0 then (fV2_4 sh x1 x2 x3) else (fV1_4 sh x1 x2))) := rfl
set_option maxRecDepth 65536 in
set_option maxHeartbeats 40000000 in
theorem mt_law (l : Launch) (Z : State) (a0 : Array Value) (hw : oHw a0 Z) (h0 : Heap) (n0 : Nat) (Z0 : n0 ≤ h0.size) (sh : Int32) (x1 : Int64) (x2 : Int64) (x3 : Int64) (x4 : Int64)  :
    oMet l Z x code maxLocals ret tables_1 room_1 16 128 n0 #[.int sh, .long x1, .long x2, .long x3, .long x4] h0 (fun v h => v = some (.int 1)) := by
  refine oMet.intro (plainFor_of_name pn_427976) (fun m => ef_0 m sh x1 x2 x3 x4) ?_
  intro op oe os m obl omt ocd C
  refine oIloadN C at_0 rfl rfl ?_
  refine oIconst C at_1 (z := 3) rfl rfl ?_
  refine oIand C at_2 rfl ?_
  refine oIconst C at_3 (z := 1) rfl rfl ?_
  refine oIadd C at_4 rfl ?_
  rcases own_nn sh with hv | hv | hv | hv
  ·
   refine oCastI (z' := (1 : Int32)) hv ?_
   refine oIstore C at_5 (Ls' := #[.val (.int sh), .val (.long x1), .second, .val (.long x2), .second, .val (.long x3), .second, .val (.long x4), .second, .val (.int 1), .unset, .unset, .unset, .unset, .unset, .unset, .unset, .unset, .unset, .unset, .unset, .unset, .unset]) rfl (q := 7) rfl ?_
   refine oLloadN C at_7 rfl rfl ?_
   refine oLstore C at_8 (Ls' := #[.val (.int sh), .val (.long x1), .second, .val (.long x2), .second, .val (.long x3), .second, .val (.long x4), .second, .val (.int 1), .val (.long x1), .second, .unset, .unset, .unset, .unset, .unset, .unset, .unset, .unset, .unset, .unset, .unset]) rfl (q := 10) rfl ?_
   refine oJoin (α := Unit) (fun _ => True) (fun _ => h0) (fun _ => (mkF m 24 #[.val (.int sh), .val (.long x1), .second, .val (.long x2), .second, .val (.long x3), .second, .val (.long x4), .second, .val (.int 1), .val (.long x1), .second, .unset, .unset, .unset, .unset, .unset, .unset, .unset, .unset, .unset, .unset, .unset] [.long (fV1_1 sh x1 x2)])) (k := 0) (n := 0) (fun _ _ => ?_) (fun J24 => ?_)
   ·
    show oW _ _ _ _ _ _ _ _ _ _ _ _ _ _ _ (mkF m 24 #[.val (.int sh), .val (.long x1), .second, .val (.long x2), .second, .val (.long x3), .second, .val (.long x4), .second, .val (.int 1), .val (.long x1), .second, .unset, .unset, .unset, .unset, .unset, .unset, .unset, .unset, .unset, .unset, .unset] [.long (fV1_1 sh x1 x2)])
    refine oLstore C at_24 (Ls' := #[.val (.int sh), .val (.long x1), .second, .val (.long x2), .second, .val (.long x3), .second, .val (.long x4), .second, .val (.int 1), .val (.long x1), .second, .val (.long (fV1_1 sh x1 x2)), .second, .unset, .unset, .unset, .unset, .unset, .unset, .unset, .unset, .unset]) rfl (q := 26) rfl ?_
    refine oJoin (α := Unit) (fun _ => True) (fun _ => h0) (fun _ => (mkF m 54 #[.val (.int sh), .val (.long x1), .second, .val (.long x2), .second, .val (.long x3), .second, .val (.long x4), .second, .val (.int 1), .val (.long x1), .second, .val (.long (fV1_1 sh x1 x2)), .second, .unset, .unset, .unset, .unset, .unset, .unset, .unset, .unset, .unset] [.long (fV2_1 sh x1 x2 x3)])) (k := 0) (n := 0) (fun _ _ => ?_) (fun J54 => ?_)
    ·
     show oW _ _ _ _ _ _ _ _ _ _ _ _ _ _ _ (mkF m 54 #[.val (.int sh), .val (.long x1), .second, .val (.long x2), .second, .val (.long x3), .second, .val (.long x4), .second, .val (.int 1), .val (.long x1), .second, .val (.long (fV1_1 sh x1 x2)), .second, .unset, .unset, .unset, .unset, .unset, .unset, .unset, .unset, .unset] [.long (fV2_1 sh x1 x2 x3)])
     refine oLstore C at_54 (Ls' := #[.val (.int sh), .val (.long x1), .second, .val (.long x2), .second, .val (.long x3), .second, .val (.long x4), .second, .val (.int 1), .val (.long x1), .second, .val (.long (fV1_1 sh x1 x2)), .second, .val (.long (fV2_1 sh x1 x2 x3)), .second, .unset, .unset, .unset, .unset, .unset, .unset, .unset]) rfl (q := 56) rfl ?_
     refine oJoin (α := Unit) (fun _ => True) (fun _ => h0) (fun _ => (mkF m 85 #[.val (.int sh), .val (.long x1), .second, .val (.long x2), .second, .val (.long x3), .second, .val (.long x4), .second, .val (.int 1), .val (.long x1), .second, .val (.long (fV1_1 sh x1 x2)), .second, .val (.long (fV2_1 sh x1 x2 x3)), .second, .unset, .unset, .unset, .unset, .unset, .unset, .unset] [.long (fV3_1 sh x1 x2 x3 x4)])) (k := 0) (n := 0) (fun _ _ => ?_) (fun J85 => ?_)
     ·
      show oW _ _ _ _ _ _ _ _ _ _ _ _ _ _ _ (mkF m 85 #[.val (.int sh), .val (.long x1), .second, .val (.long x2), .second, .val (.long x3), .second, .val (.long x4), .second, .val (.int 1), .val (.long x1), .second, .val (.long (fV1_1 sh x1 x2)), .second, .val (.long (fV2_1 sh x1 x2 x3)), .second, .unset, .unset, .unset, .unset, .unset, .unset, .unset] [.long (fV3_1 sh x1 x2 x3 x4)])
      refine oLstore C at_85 (Ls' := #[.val (.int sh), .val (.long x1), .second, .val (.long x2), .second, .val (.long x3), .second, .val (.long x4), .second, .val (.int 1), .val (.long x1), .second, .val (.long (fV1_1 sh x1 x2)), .second, .val (.long (fV2_1 sh x1 x2 x3)), .second, .val (.long (fV3_1 sh x1 x2 x3 x4)), .second, .unset, .unset, .unset, .unset, .unset]) rfl (q := 87) rfl ?_
      refine oIload C at_87 rfl rfl ?_
      refine oNewA C (w0 hw) rfl at_89 rfl (by decide) (k := 1) rfl (by decide) (by decide) (cap := 1) (Nat.le_refl _) (by decide) (by decide) fun a1 h1 g_a1 E1 A1 => ?_
      have ge_a1 : n0 ≤ a1 := g_a1 ▸ Z0
      have A1l : oAr Z h1 a1 .long [.long 0] := A1
      refine oAstore C at_91 rfl (Ls' := #[.val (.int sh), .val (.long x1), .second, .val (.long x2), .second, .val (.long x3), .second, .val (.long x4), .second, .val (.int 1), .val (.long x1), .second, .val (.long (fV1_1 sh x1 x2)), .second, .val (.long (fV2_1 sh x1 x2 x3)), .second, .val (.long (fV3_1 sh x1 x2 x3 x4)), .second, .val (.ref a1), .unset, .unset, .unset, .unset]) rfl (q := 93) rfl ?_
      refine oAload C at_93 rfl rfl rfl ?_
      refine oIconst C at_95 (z := 0) rfl rfl ?_
      refine oLload C at_96 rfl rfl ?_
      refine oLastore C A1l (by decide) (k := 0) rfl (v := .long 0) rfl (v' := .long x1) rfl at_98 rfl ge_a1 fun h2 W2 A2 => ?_
      have A2l : oAr Z h2 a1 .long [.long x1] := A2
      refine oIload C at_99 rfl rfl ?_
      refine oIconst C at_101 (z := 1) rfl rfl ?_
      refine oIcmp_le C at_102 (q := 111) (by decide) (by decide) (r := 105) rfl (fun hc102 => ?_) (fun hq => absurd hq ((by decide)))
      refine oIload C at_111 rfl rfl ?_
      refine oIconst C at_113 (z := 2) rfl rfl ?_
      refine oIcmp_le C at_114 (q := 123) (by decide) (by decide) (r := 117) rfl (fun hc114 => ?_) (fun hq => absurd hq ((by decide)))
      refine oIload C at_123 rfl rfl ?_
      refine oIconst C at_125 (z := 3) rfl rfl ?_
      refine oIcmp_le C at_126 (q := 135) (by decide) (by decide) (r := 129) rfl (fun hc126 => ?_) (fun hq => absurd hq ((by decide)))
      refine oAload C at_135 rfl rfl rfl ?_
      have z3 := (Nat.le_trans (Nat.le_trans Z0 E1.1) (Nat.le_of_eq W2.size.symm))
      refine oCallS C (w1 hw) (w2 hw) (w3 hw) (w4 hw) at_137 (by decide) pd_429913 rfl rfl (argsL := [.ref a1]) (rest := []) rfl (W := 0) rfl (q := 140) rfl (by decide) (by decide) (by decide) (by decide) (mt_fFL1 l Z a0 hw _ n0 z3 a1 x1 A2l) (oPureK ?_)
      rcases own_fl1 x1 with hv
      ·
       refine oCastI (z' := (0 : Int32)) hv ?_
       refine oIstore C at_140 (Ls' := #[.val (.int sh), .val (.long x1), .second, .val (.long x2), .second, .val (.long x3), .second, .val (.long x4), .second, .val (.int 1), .val (.long x1), .second, .val (.long (fV1_1 sh x1 x2)), .second, .val (.long (fV2_1 sh x1 x2 x3)), .second, .val (.long (fV3_1 sh x1 x2 x3 x4)), .second, .val (.ref a1), .val (.int 0), .unset, .unset, .unset]) rfl (q := 142) rfl ?_
       refine oIload C at_142 rfl rfl ?_
       refine oIf_lt C at_144 (q := 154) (by decide) (by decide) (r := 147) rfl (fun hq => absurd hq ((by decide))) (fun hc144 => ?_)
       refine oIload C at_147 rfl rfl ?_
       refine oIload C at_149 rfl rfl ?_
       refine oIcmp_lt C at_151 (q := 156) (by decide) (by decide) (r := 154) rfl (fun hc151 => ?_) (fun hq => absurd hq ((by decide)))
       refine oAload C at_156 rfl rfl rfl ?_
       refine oIload C at_158 rfl rfl ?_
       refine oLaload C A2l (by decide) (k := 0) rfl (v := .long x1) rfl at_160 rfl ?_
       refine oLstore C at_161 (Ls' := #[.val (.int sh), .val (.long x1), .second, .val (.long x2), .second, .val (.long x3), .second, .val (.long x4), .second, .val (.int 1), .val (.long x1), .second, .val (.long (fV1_1 sh x1 x2)), .second, .val (.long (fV2_1 sh x1 x2 x3)), .second, .val (.long (fV3_1 sh x1 x2 x3 x4)), .second, .val (.ref a1), .val (.int 0), .val (.long x1), .second, .unset]) rfl (q := 163) rfl ?_
       refine oAload C at_163 rfl rfl rfl ?_
       refine oIconst C at_165 (z := 0) rfl rfl ?_
       refine oLaload C A2l (by decide) (k := 0) rfl (v := .long x1) rfl at_166 rfl ?_
       refine oLload C at_167 rfl rfl ?_
       refine oLcmp_ne C at_169 rfl at_170 (q := 225) (by decide) (by decide) (r := 173) rfl (fun hq => absurd hq (not_not_intro rfl)) (fun hc169 => ?_)
       refine oIload C at_173 rfl rfl ?_
       refine oIconst C at_175 (z := 2) rfl rfl ?_
       refine oIcmp_lt C at_176 (q := 189) (by decide) (by decide) (r := 179) rfl (fun hc176 => ?_) (fun hq => absurd hq ((by decide)))
       refine oIload C at_189 rfl rfl ?_
       refine oIconst C at_191 (z := 3) rfl rfl ?_
       refine oIcmp_lt C at_192 (q := 205) (by decide) (by decide) (r := 195) rfl (fun hc192 => ?_) (fun hq => absurd hq ((by decide)))
       refine oIload C at_205 rfl rfl ?_
       refine oIconst C at_207 (z := 4) rfl rfl ?_
       refine oIcmp_lt C at_208 (q := 221) (by decide) (by decide) (r := 211) rfl (fun hc208 => ?_) (fun hq => absurd hq ((by decide)))
       refine oIconst C at_221 (z := 1) rfl rfl ?_
       refine oGoto C at_222 (q := 226) (by decide) (by decide) ?_
       refine oIstore C at_226 (Ls' := #[.val (.int sh), .val (.long x1), .second, .val (.long x2), .second, .val (.long x3), .second, .val (.long x4), .second, .val (.int 1), .val (.long x1), .second, .val (.long (fV1_1 sh x1 x2)), .second, .val (.long (fV2_1 sh x1 x2 x3)), .second, .val (.long (fV3_1 sh x1 x2 x3 x4)), .second, .val (.ref a1), .val (.int 0), .val (.long x1), .second, .val (.int 1)]) rfl (q := 228) rfl ?_
       refine oIload C at_228 rfl rfl ?_
       refine oIf_eq C at_230 (q := 297) (by decide) (by decide) (r := 233) rfl (fun hq => absurd hq ((by decide))) (fun hc230 => ?_)
       refine oLload C at_233 rfl rfl ?_
       refine oIconst C at_235 (z := 0) rfl rfl ?_
       refine oIload C at_236 rfl rfl ?_
       refine oIload C at_238 rfl rfl ?_
       refine oLload C at_240 rfl rfl ?_
       refine oCallS C (w5 hw) (w6 hw) (w7 hw) (w8 hw) at_242 (by decide) pd_813322 rfl rfl (argsL := [.long x1, .int 0, .int 1, .int 0, .long x1]) (rest := []) rfl (W := 0) rfl (q := 245) rfl (by decide) (by decide) (by decide) (by decide) (mt_fOk l Z a0 hw _ n0 z3 x1 (0 : Int32) (1 : Int32) (0 : Int32) x1 ) (oPureK ?_)
       refine oIf_eq C at_245 (q := 297) (by decide) (by decide) (r := 248) rfl (fun hq => absurd hq (fun q => absurd ((own_ok3 (by decide) (by decide) (own_irr _)).symm.trans q) (by decide))) (fun hc245 => ?_)
       refine oLload C at_248 rfl rfl ?_
       refine oIconst C at_250 (z := 1) rfl rfl ?_
       refine oIload C at_251 rfl rfl ?_
       refine oIload C at_253 rfl rfl ?_
       refine oLload C at_255 rfl rfl ?_
       refine oCallS C (w5 hw) (w6 hw) (w7 hw) (w8 hw) at_257 (by decide) pd_813322 rfl rfl (argsL := [.long (fV1_1 sh x1 x2), .int 1, .int 1, .int 0, .long x1]) (rest := []) rfl (W := 0) rfl (q := 260) rfl (by decide) (by decide) (by decide) (by decide) (mt_fOk l Z a0 hw _ n0 z3 (fV1_1 sh x1 x2) (1 : Int32) (1 : Int32) (0 : Int32) x1 ) (oPureK ?_)
       refine oIf_eq C at_260 (q := 297) (by decide) (by decide) (r := 263) rfl (fun hq => absurd hq (fun q => absurd ((own_ok1 (by decide)).symm.trans q) (by decide))) (fun hc260 => ?_)
       refine oLload C at_263 rfl rfl ?_
       refine oIconst C at_265 (z := 2) rfl rfl ?_
       refine oIload C at_266 rfl rfl ?_
       refine oIload C at_268 rfl rfl ?_
       refine oLload C at_270 rfl rfl ?_
       refine oCallS C (w5 hw) (w6 hw) (w7 hw) (w8 hw) at_272 (by decide) pd_813322 rfl rfl (argsL := [.long (fV2_1 sh x1 x2 x3), .int 2, .int 1, .int 0, .long x1]) (rest := []) rfl (W := 0) rfl (q := 275) rfl (by decide) (by decide) (by decide) (by decide) (mt_fOk l Z a0 hw _ n0 z3 (fV2_1 sh x1 x2 x3) (2 : Int32) (1 : Int32) (0 : Int32) x1 ) (oPureK ?_)
       refine oIf_eq C at_275 (q := 297) (by decide) (by decide) (r := 278) rfl (fun hq => absurd hq (fun q => absurd ((own_ok1 (by decide)).symm.trans q) (by decide))) (fun hc275 => ?_)
       refine oLload C at_278 rfl rfl ?_
       refine oIconst C at_280 (z := 3) rfl rfl ?_
       refine oIload C at_281 rfl rfl ?_
       refine oIload C at_283 rfl rfl ?_
       refine oLload C at_285 rfl rfl ?_
       refine oCallS C (w5 hw) (w6 hw) (w7 hw) (w8 hw) at_287 (by decide) pd_813322 rfl rfl (argsL := [.long (fV3_1 sh x1 x2 x3 x4), .int 3, .int 1, .int 0, .long x1]) (rest := []) rfl (W := 0) rfl (q := 290) rfl (by decide) (by decide) (by decide) (by decide) (mt_fOk l Z a0 hw _ n0 z3 (fV3_1 sh x1 x2 x3 x4) (3 : Int32) (1 : Int32) (0 : Int32) x1 ) (oPureK ?_)
       refine oIf_eq C at_290 (q := 297) (by decide) (by decide) (r := 293) rfl (fun hq => absurd hq (fun q => absurd ((own_ok1 (by decide)).symm.trans q) (by decide))) (fun hc290 => ?_)
       refine oIconst C at_293 (z := 1) rfl rfl ?_
       refine oGoto C at_294 (q := 298) (by decide) (by decide) ?_
       refine oRetZ C at_298 (z' := (1 : Int32)) rfl (by decide) (by decide) ?_
       exact rfl
     ·
      refine oIloadN C at_56 rfl rfl ?_
      refine oIconst C at_57 (z := 5) rfl rfl ?_
      refine oIshr C at_58 rfl ?_
      refine oIconst C at_59 (z := 1) rfl rfl ?_
      refine oIand C at_60 rfl ?_
      refine oIf_eq C at_61 (q := 83) (by decide) (by decide) (r := 64) rfl (fun hc61 => ?_) (fun hc61 => ?_)
      ·
       refine oLload C at_83 rfl rfl ?_
       refine oCastL (z' := (fV3_1 sh x1 x2 x3 x4)) (by rw [fV3_1_def, if_pos hc61]) ?_
       exact J85 () trivial
      ·
       refine oIloadN C at_64 rfl rfl ?_
       refine oBipush C at_65 (z := 6) rfl rfl ?_
       refine oIshr C at_67 rfl ?_
       refine oIconst C at_68 (z := 1) rfl rfl ?_
       refine oIand C at_69 rfl ?_
       refine oIf_eq C at_70 (q := 78) (by decide) (by decide) (r := 73) rfl (fun hc70 => ?_) (fun hc70 => ?_)
       ·
        refine oLload C at_78 rfl rfl ?_
        refine oGoto C at_80 (q := 85) (by decide) (by decide) ?_
        refine oCastL (z' := (fV3_1 sh x1 x2 x3 x4)) (by rw [fV3_1_def, if_neg hc61, if_pos hc70]) ?_
        exact J85 () trivial
       ·
        refine oLload C at_73 rfl rfl ?_
        refine oGoto C at_75 (q := 85) (by decide) (by decide) ?_
        refine oCastL (z' := (fV3_1 sh x1 x2 x3 x4)) (by rw [fV3_1_def, if_neg hc61, if_neg hc70]) ?_
        exact J85 () trivial
    ·
     refine oIloadN C at_26 rfl rfl ?_
     refine oIconst C at_27 (z := 3) rfl rfl ?_
     refine oIshr C at_28 rfl ?_
     refine oIconst C at_29 (z := 1) rfl rfl ?_
     refine oIand C at_30 rfl ?_
     refine oIf_eq C at_31 (q := 52) (by decide) (by decide) (r := 34) rfl (fun hc31 => ?_) (fun hc31 => ?_)
     ·
      refine oLload C at_52 rfl rfl ?_
      refine oCastL (z' := (fV2_1 sh x1 x2 x3)) (by rw [fV2_1_def, if_pos hc31]) ?_
      exact J54 () trivial
     ·
      refine oIloadN C at_34 rfl rfl ?_
      refine oIconst C at_35 (z := 4) rfl rfl ?_
      refine oIshr C at_36 rfl ?_
      refine oIconst C at_37 (z := 1) rfl rfl ?_
      refine oIand C at_38 rfl ?_
      refine oIf_eq C at_39 (q := 47) (by decide) (by decide) (r := 42) rfl (fun hc39 => ?_) (fun hc39 => ?_)
      ·
       refine oLload C at_47 rfl rfl ?_
       refine oGoto C at_49 (q := 54) (by decide) (by decide) ?_
       refine oCastL (z' := (fV2_1 sh x1 x2 x3)) (by rw [fV2_1_def, if_neg hc31, if_pos hc39]) ?_
       exact J54 () trivial
      ·
       refine oLload C at_42 rfl rfl ?_
       refine oGoto C at_44 (q := 54) (by decide) (by decide) ?_
       refine oCastL (z' := (fV2_1 sh x1 x2 x3)) (by rw [fV2_1_def, if_neg hc31, if_neg hc39]) ?_
       exact J54 () trivial
   ·
    refine oIloadN C at_10 rfl rfl ?_
    refine oIconst C at_11 (z := 2) rfl rfl ?_
    refine oIshr C at_12 rfl ?_
    refine oIconst C at_13 (z := 1) rfl rfl ?_
    refine oIand C at_14 rfl ?_
    refine oIf_eq C at_15 (q := 23) (by decide) (by decide) (r := 18) rfl (fun hc15 => ?_) (fun hc15 => ?_)
    ·
     refine oLloadN C at_23 rfl rfl ?_
     refine oCastL (z' := (fV1_1 sh x1 x2)) (by rw [fV1_1_def, if_pos hc15]) ?_
     exact J24 () trivial
    ·
     refine oLload C at_18 rfl rfl ?_
     refine oGoto C at_20 (q := 24) (by decide) (by decide) ?_
     refine oCastL (z' := (fV1_1 sh x1 x2)) (by rw [fV1_1_def, if_neg hc15]) ?_
     exact J24 () trivial
  ·
   refine oCastI (z' := (2 : Int32)) hv ?_
   refine oIstore C at_5 (Ls' := #[.val (.int sh), .val (.long x1), .second, .val (.long x2), .second, .val (.long x3), .second, .val (.long x4), .second, .val (.int 2), .unset, .unset, .unset, .unset, .unset, .unset, .unset, .unset, .unset, .unset, .unset, .unset, .unset]) rfl (q := 7) rfl ?_
   refine oLloadN C at_7 rfl rfl ?_
   refine oLstore C at_8 (Ls' := #[.val (.int sh), .val (.long x1), .second, .val (.long x2), .second, .val (.long x3), .second, .val (.long x4), .second, .val (.int 2), .val (.long x1), .second, .unset, .unset, .unset, .unset, .unset, .unset, .unset, .unset, .unset, .unset, .unset]) rfl (q := 10) rfl ?_
   refine oJoin (α := Unit) (fun _ => True) (fun _ => h0) (fun _ => (mkF m 24 #[.val (.int sh), .val (.long x1), .second, .val (.long x2), .second, .val (.long x3), .second, .val (.long x4), .second, .val (.int 2), .val (.long x1), .second, .unset, .unset, .unset, .unset, .unset, .unset, .unset, .unset, .unset, .unset, .unset] [.long (fV1_2 sh x1 x2)])) (k := 0) (n := 0) (fun _ _ => ?_) (fun J24 => ?_)
   ·
    show oW _ _ _ _ _ _ _ _ _ _ _ _ _ _ _ (mkF m 24 #[.val (.int sh), .val (.long x1), .second, .val (.long x2), .second, .val (.long x3), .second, .val (.long x4), .second, .val (.int 2), .val (.long x1), .second, .unset, .unset, .unset, .unset, .unset, .unset, .unset, .unset, .unset, .unset, .unset] [.long (fV1_2 sh x1 x2)])
    refine oLstore C at_24 (Ls' := #[.val (.int sh), .val (.long x1), .second, .val (.long x2), .second, .val (.long x3), .second, .val (.long x4), .second, .val (.int 2), .val (.long x1), .second, .val (.long (fV1_2 sh x1 x2)), .second, .unset, .unset, .unset, .unset, .unset, .unset, .unset, .unset, .unset]) rfl (q := 26) rfl ?_
    refine oJoin (α := Unit) (fun _ => True) (fun _ => h0) (fun _ => (mkF m 54 #[.val (.int sh), .val (.long x1), .second, .val (.long x2), .second, .val (.long x3), .second, .val (.long x4), .second, .val (.int 2), .val (.long x1), .second, .val (.long (fV1_2 sh x1 x2)), .second, .unset, .unset, .unset, .unset, .unset, .unset, .unset, .unset, .unset] [.long (fV2_2 sh x1 x2 x3)])) (k := 0) (n := 0) (fun _ _ => ?_) (fun J54 => ?_)
    ·
     show oW _ _ _ _ _ _ _ _ _ _ _ _ _ _ _ (mkF m 54 #[.val (.int sh), .val (.long x1), .second, .val (.long x2), .second, .val (.long x3), .second, .val (.long x4), .second, .val (.int 2), .val (.long x1), .second, .val (.long (fV1_2 sh x1 x2)), .second, .unset, .unset, .unset, .unset, .unset, .unset, .unset, .unset, .unset] [.long (fV2_2 sh x1 x2 x3)])
     refine oLstore C at_54 (Ls' := #[.val (.int sh), .val (.long x1), .second, .val (.long x2), .second, .val (.long x3), .second, .val (.long x4), .second, .val (.int 2), .val (.long x1), .second, .val (.long (fV1_2 sh x1 x2)), .second, .val (.long (fV2_2 sh x1 x2 x3)), .second, .unset, .unset, .unset, .unset, .unset, .unset, .unset]) rfl (q := 56) rfl ?_
     refine oJoin (α := Unit) (fun _ => True) (fun _ => h0) (fun _ => (mkF m 85 #[.val (.int sh), .val (.long x1), .second, .val (.long x2), .second, .val (.long x3), .second, .val (.long x4), .second, .val (.int 2), .val (.long x1), .second, .val (.long (fV1_2 sh x1 x2)), .second, .val (.long (fV2_2 sh x1 x2 x3)), .second, .unset, .unset, .unset, .unset, .unset, .unset, .unset] [.long (fV3_2 sh x1 x2 x3 x4)])) (k := 0) (n := 0) (fun _ _ => ?_) (fun J85 => ?_)
     ·
      show oW _ _ _ _ _ _ _ _ _ _ _ _ _ _ _ (mkF m 85 #[.val (.int sh), .val (.long x1), .second, .val (.long x2), .second, .val (.long x3), .second, .val (.long x4), .second, .val (.int 2), .val (.long x1), .second, .val (.long (fV1_2 sh x1 x2)), .second, .val (.long (fV2_2 sh x1 x2 x3)), .second, .unset, .unset, .unset, .unset, .unset, .unset, .unset] [.long (fV3_2 sh x1 x2 x3 x4)])
      refine oLstore C at_85 (Ls' := #[.val (.int sh), .val (.long x1), .second, .val (.long x2), .second, .val (.long x3), .second, .val (.long x4), .second, .val (.int 2), .val (.long x1), .second, .val (.long (fV1_2 sh x1 x2)), .second, .val (.long (fV2_2 sh x1 x2 x3)), .second, .val (.long (fV3_2 sh x1 x2 x3 x4)), .second, .unset, .unset, .unset, .unset, .unset]) rfl (q := 87) rfl ?_
      refine oIload C at_87 rfl rfl ?_
      refine oNewA C (w0 hw) rfl at_89 rfl (by decide) (k := 2) rfl (by decide) (by decide) (cap := 2) (Nat.le_refl _) (by decide) (by decide) fun a8 h8 g_a8 E8 A8 => ?_
      have ge_a8 : n0 ≤ a8 := g_a8 ▸ Z0
      have A8l : oAr Z h8 a8 .long [.long 0, .long 0] := A8
      refine oAstore C at_91 rfl (Ls' := #[.val (.int sh), .val (.long x1), .second, .val (.long x2), .second, .val (.long x3), .second, .val (.long x4), .second, .val (.int 2), .val (.long x1), .second, .val (.long (fV1_2 sh x1 x2)), .second, .val (.long (fV2_2 sh x1 x2 x3)), .second, .val (.long (fV3_2 sh x1 x2 x3 x4)), .second, .val (.ref a8), .unset, .unset, .unset, .unset]) rfl (q := 93) rfl ?_
      refine oAload C at_93 rfl rfl rfl ?_
      refine oIconst C at_95 (z := 0) rfl rfl ?_
      refine oLload C at_96 rfl rfl ?_
      refine oLastore C A8l (by decide) (k := 0) rfl (v := .long 0) rfl (v' := .long x1) rfl at_98 rfl ge_a8 fun h9 W9 A9 => ?_
      have A9l : oAr Z h9 a8 .long [.long x1, .long 0] := A9
      refine oIload C at_99 rfl rfl ?_
      refine oIconst C at_101 (z := 1) rfl rfl ?_
      refine oIcmp_le C at_102 (q := 111) (by decide) (by decide) (r := 105) rfl (fun hq => absurd hq ((by decide))) (fun hc102 => ?_)
      refine oAload C at_105 rfl rfl rfl ?_
      refine oIconst C at_107 (z := 1) rfl rfl ?_
      refine oLload C at_108 rfl rfl ?_
      refine oLastore C A9l (by decide) (k := 1) rfl (v := .long 0) rfl (v' := .long (fV1_2 sh x1 x2)) rfl at_110 rfl ge_a8 fun h10 W10 A10 => ?_
      have A10l : oAr Z h10 a8 .long [.long x1, .long (fV1_2 sh x1 x2)] := A10
      refine oIload C at_111 rfl rfl ?_
      refine oIconst C at_113 (z := 2) rfl rfl ?_
      refine oIcmp_le C at_114 (q := 123) (by decide) (by decide) (r := 117) rfl (fun hc114 => ?_) (fun hq => absurd hq ((by decide)))
      refine oIload C at_123 rfl rfl ?_
      refine oIconst C at_125 (z := 3) rfl rfl ?_
      refine oIcmp_le C at_126 (q := 135) (by decide) (by decide) (r := 129) rfl (fun hc126 => ?_) (fun hq => absurd hq ((by decide)))
      refine oAload C at_135 rfl rfl rfl ?_
      have z11 := (Nat.le_trans (Nat.le_trans (Nat.le_trans Z0 E8.1) (Nat.le_of_eq W9.size.symm)) (Nat.le_of_eq W10.size.symm))
      refine oCallS C (w1 hw) (w2 hw) (w3 hw) (w4 hw) at_137 (by decide) pd_429913 rfl rfl (argsL := [.ref a8]) (rest := []) rfl (W := 0) rfl (q := 140) rfl (by decide) (by decide) (by decide) (by decide) (mt_fFL2 l Z a0 hw _ n0 z11 a8 x1 (fV1_2 sh x1 x2) A10l) (oPureK ?_)
      rcases own_fl2 x1 (fV1_2 sh x1 x2) with ⟨hv, k1⟩ | ⟨hv, k0⟩
      ·
       refine oCastI (z' := (0 : Int32)) hv ?_
       refine oIstore C at_140 (Ls' := #[.val (.int sh), .val (.long x1), .second, .val (.long x2), .second, .val (.long x3), .second, .val (.long x4), .second, .val (.int 2), .val (.long x1), .second, .val (.long (fV1_2 sh x1 x2)), .second, .val (.long (fV2_2 sh x1 x2 x3)), .second, .val (.long (fV3_2 sh x1 x2 x3 x4)), .second, .val (.ref a8), .val (.int 0), .unset, .unset, .unset]) rfl (q := 142) rfl ?_
       refine oIload C at_142 rfl rfl ?_
       refine oIf_lt C at_144 (q := 154) (by decide) (by decide) (r := 147) rfl (fun hq => absurd hq ((by decide))) (fun hc144 => ?_)
       refine oIload C at_147 rfl rfl ?_
       refine oIload C at_149 rfl rfl ?_
       refine oIcmp_lt C at_151 (q := 156) (by decide) (by decide) (r := 154) rfl (fun hc151 => ?_) (fun hq => absurd hq ((by decide)))
       refine oAload C at_156 rfl rfl rfl ?_
       refine oIload C at_158 rfl rfl ?_
       refine oLaload C A10l (by decide) (k := 0) rfl (v := .long x1) rfl at_160 rfl ?_
       refine oLstore C at_161 (Ls' := #[.val (.int sh), .val (.long x1), .second, .val (.long x2), .second, .val (.long x3), .second, .val (.long x4), .second, .val (.int 2), .val (.long x1), .second, .val (.long (fV1_2 sh x1 x2)), .second, .val (.long (fV2_2 sh x1 x2 x3)), .second, .val (.long (fV3_2 sh x1 x2 x3 x4)), .second, .val (.ref a8), .val (.int 0), .val (.long x1), .second, .unset]) rfl (q := 163) rfl ?_
       refine oAload C at_163 rfl rfl rfl ?_
       refine oIconst C at_165 (z := 0) rfl rfl ?_
       refine oLaload C A10l (by decide) (k := 0) rfl (v := .long x1) rfl at_166 rfl ?_
       refine oLload C at_167 rfl rfl ?_
       refine oLcmp_ne C at_169 rfl at_170 (q := 225) (by decide) (by decide) (r := 173) rfl (fun hq => absurd hq (not_not_intro rfl)) (fun hc169 => ?_)
       refine oIload C at_173 rfl rfl ?_
       refine oIconst C at_175 (z := 2) rfl rfl ?_
       refine oIcmp_lt C at_176 (q := 189) (by decide) (by decide) (r := 179) rfl (fun hq => absurd hq ((by decide))) (fun hc176 => ?_)
       refine oAload C at_179 rfl rfl rfl ?_
       refine oIconst C at_181 (z := 1) rfl rfl ?_
       refine oLaload C A10l (by decide) (k := 1) rfl (v := .long (fV1_2 sh x1 x2)) rfl at_182 rfl ?_
       refine oLload C at_183 rfl rfl ?_
       refine oLcmp_ne C at_185 rfl at_186 (q := 225) (by decide) (by decide) (r := 189) rfl (fun hq => absurd hq (not_not_intro rfl)) (fun hc185 => ?_)
       refine oIload C at_189 rfl rfl ?_
       refine oIconst C at_191 (z := 3) rfl rfl ?_
       refine oIcmp_lt C at_192 (q := 205) (by decide) (by decide) (r := 195) rfl (fun hc192 => ?_) (fun hq => absurd hq ((by decide)))
       refine oIload C at_205 rfl rfl ?_
       refine oIconst C at_207 (z := 4) rfl rfl ?_
       refine oIcmp_lt C at_208 (q := 221) (by decide) (by decide) (r := 211) rfl (fun hc208 => ?_) (fun hq => absurd hq ((by decide)))
       refine oIconst C at_221 (z := 1) rfl rfl ?_
       refine oGoto C at_222 (q := 226) (by decide) (by decide) ?_
       refine oIstore C at_226 (Ls' := #[.val (.int sh), .val (.long x1), .second, .val (.long x2), .second, .val (.long x3), .second, .val (.long x4), .second, .val (.int 2), .val (.long x1), .second, .val (.long (fV1_2 sh x1 x2)), .second, .val (.long (fV2_2 sh x1 x2 x3)), .second, .val (.long (fV3_2 sh x1 x2 x3 x4)), .second, .val (.ref a8), .val (.int 0), .val (.long x1), .second, .val (.int 1)]) rfl (q := 228) rfl ?_
       refine oIload C at_228 rfl rfl ?_
       refine oIf_eq C at_230 (q := 297) (by decide) (by decide) (r := 233) rfl (fun hq => absurd hq ((by decide))) (fun hc230 => ?_)
       refine oLload C at_233 rfl rfl ?_
       refine oIconst C at_235 (z := 0) rfl rfl ?_
       refine oIload C at_236 rfl rfl ?_
       refine oIload C at_238 rfl rfl ?_
       refine oLload C at_240 rfl rfl ?_
       refine oCallS C (w5 hw) (w6 hw) (w7 hw) (w8 hw) at_242 (by decide) pd_813322 rfl rfl (argsL := [.long x1, .int 0, .int 2, .int 0, .long x1]) (rest := []) rfl (W := 0) rfl (q := 245) rfl (by decide) (by decide) (by decide) (by decide) (mt_fOk l Z a0 hw _ n0 z11 x1 (0 : Int32) (2 : Int32) (0 : Int32) x1 ) (oPureK ?_)
       refine oIf_eq C at_245 (q := 297) (by decide) (by decide) (r := 248) rfl (fun hq => absurd hq (fun q => absurd ((own_ok3 (by decide) (by decide) (own_irr _)).symm.trans q) (by decide))) (fun hc245 => ?_)
       refine oLload C at_248 rfl rfl ?_
       refine oIconst C at_250 (z := 1) rfl rfl ?_
       refine oIload C at_251 rfl rfl ?_
       refine oIload C at_253 rfl rfl ?_
       refine oLload C at_255 rfl rfl ?_
       refine oCallS C (w5 hw) (w6 hw) (w7 hw) (w8 hw) at_257 (by decide) pd_813322 rfl rfl (argsL := [.long (fV1_2 sh x1 x2), .int 1, .int 2, .int 0, .long x1]) (rest := []) rfl (W := 0) rfl (q := 260) rfl (by decide) (by decide) (by decide) (by decide) (mt_fOk l Z a0 hw _ n0 z11 (fV1_2 sh x1 x2) (1 : Int32) (2 : Int32) (0 : Int32) x1 ) (oPureK ?_)
       refine oIf_eq C at_260 (q := 297) (by decide) (by decide) (r := 263) rfl (fun hq => absurd hq (fun q => absurd ((own_ok3 (by decide) (by decide) k1).symm.trans q) (by decide))) (fun hc260 => ?_)
       refine oLload C at_263 rfl rfl ?_
       refine oIconst C at_265 (z := 2) rfl rfl ?_
       refine oIload C at_266 rfl rfl ?_
       refine oIload C at_268 rfl rfl ?_
       refine oLload C at_270 rfl rfl ?_
       refine oCallS C (w5 hw) (w6 hw) (w7 hw) (w8 hw) at_272 (by decide) pd_813322 rfl rfl (argsL := [.long (fV2_2 sh x1 x2 x3), .int 2, .int 2, .int 0, .long x1]) (rest := []) rfl (W := 0) rfl (q := 275) rfl (by decide) (by decide) (by decide) (by decide) (mt_fOk l Z a0 hw _ n0 z11 (fV2_2 sh x1 x2 x3) (2 : Int32) (2 : Int32) (0 : Int32) x1 ) (oPureK ?_)
       refine oIf_eq C at_275 (q := 297) (by decide) (by decide) (r := 278) rfl (fun hq => absurd hq (fun q => absurd ((own_ok1 (by decide)).symm.trans q) (by decide))) (fun hc275 => ?_)
       refine oLload C at_278 rfl rfl ?_
       refine oIconst C at_280 (z := 3) rfl rfl ?_
       refine oIload C at_281 rfl rfl ?_
       refine oIload C at_283 rfl rfl ?_
       refine oLload C at_285 rfl rfl ?_
       refine oCallS C (w5 hw) (w6 hw) (w7 hw) (w8 hw) at_287 (by decide) pd_813322 rfl rfl (argsL := [.long (fV3_2 sh x1 x2 x3 x4), .int 3, .int 2, .int 0, .long x1]) (rest := []) rfl (W := 0) rfl (q := 290) rfl (by decide) (by decide) (by decide) (by decide) (mt_fOk l Z a0 hw _ n0 z11 (fV3_2 sh x1 x2 x3 x4) (3 : Int32) (2 : Int32) (0 : Int32) x1 ) (oPureK ?_)
       refine oIf_eq C at_290 (q := 297) (by decide) (by decide) (r := 293) rfl (fun hq => absurd hq (fun q => absurd ((own_ok1 (by decide)).symm.trans q) (by decide))) (fun hc290 => ?_)
       refine oIconst C at_293 (z := 1) rfl rfl ?_
       refine oGoto C at_294 (q := 298) (by decide) (by decide) ?_
       refine oRetZ C at_298 (z' := (1 : Int32)) rfl (by decide) (by decide) ?_
       exact rfl
      ·
       refine oCastI (z' := (1 : Int32)) hv ?_
       refine oIstore C at_140 (Ls' := #[.val (.int sh), .val (.long x1), .second, .val (.long x2), .second, .val (.long x3), .second, .val (.long x4), .second, .val (.int 2), .val (.long x1), .second, .val (.long (fV1_2 sh x1 x2)), .second, .val (.long (fV2_2 sh x1 x2 x3)), .second, .val (.long (fV3_2 sh x1 x2 x3 x4)), .second, .val (.ref a8), .val (.int 1), .unset, .unset, .unset]) rfl (q := 142) rfl ?_
       refine oIload C at_142 rfl rfl ?_
       refine oIf_lt C at_144 (q := 154) (by decide) (by decide) (r := 147) rfl (fun hq => absurd hq ((by decide))) (fun hc144 => ?_)
       refine oIload C at_147 rfl rfl ?_
       refine oIload C at_149 rfl rfl ?_
       refine oIcmp_lt C at_151 (q := 156) (by decide) (by decide) (r := 154) rfl (fun hc151 => ?_) (fun hq => absurd hq ((by decide)))
       refine oAload C at_156 rfl rfl rfl ?_
       refine oIload C at_158 rfl rfl ?_
       refine oLaload C A10l (by decide) (k := 1) rfl (v := .long (fV1_2 sh x1 x2)) rfl at_160 rfl ?_
       refine oLstore C at_161 (Ls' := #[.val (.int sh), .val (.long x1), .second, .val (.long x2), .second, .val (.long x3), .second, .val (.long x4), .second, .val (.int 2), .val (.long x1), .second, .val (.long (fV1_2 sh x1 x2)), .second, .val (.long (fV2_2 sh x1 x2 x3)), .second, .val (.long (fV3_2 sh x1 x2 x3 x4)), .second, .val (.ref a8), .val (.int 1), .val (.long (fV1_2 sh x1 x2)), .second, .unset]) rfl (q := 163) rfl ?_
       refine oAload C at_163 rfl rfl rfl ?_
       refine oIconst C at_165 (z := 0) rfl rfl ?_
       refine oLaload C A10l (by decide) (k := 0) rfl (v := .long x1) rfl at_166 rfl ?_
       refine oLload C at_167 rfl rfl ?_
       refine oLcmp_ne C at_169 rfl at_170 (q := 225) (by decide) (by decide) (r := 173) rfl (fun hq => absurd hq (not_not_intro rfl)) (fun hc169 => ?_)
       refine oIload C at_173 rfl rfl ?_
       refine oIconst C at_175 (z := 2) rfl rfl ?_
       refine oIcmp_lt C at_176 (q := 189) (by decide) (by decide) (r := 179) rfl (fun hq => absurd hq ((by decide))) (fun hc176 => ?_)
       refine oAload C at_179 rfl rfl rfl ?_
       refine oIconst C at_181 (z := 1) rfl rfl ?_
       refine oLaload C A10l (by decide) (k := 1) rfl (v := .long (fV1_2 sh x1 x2)) rfl at_182 rfl ?_
       refine oLload C at_183 rfl rfl ?_
       refine oLcmp_ne C at_185 rfl at_186 (q := 225) (by decide) (by decide) (r := 189) rfl (fun hq => absurd hq (not_not_intro rfl)) (fun hc185 => ?_)
       refine oIload C at_189 rfl rfl ?_
       refine oIconst C at_191 (z := 3) rfl rfl ?_
       refine oIcmp_lt C at_192 (q := 205) (by decide) (by decide) (r := 195) rfl (fun hc192 => ?_) (fun hq => absurd hq ((by decide)))
       refine oIload C at_205 rfl rfl ?_
       refine oIconst C at_207 (z := 4) rfl rfl ?_
       refine oIcmp_lt C at_208 (q := 221) (by decide) (by decide) (r := 211) rfl (fun hc208 => ?_) (fun hq => absurd hq ((by decide)))
       refine oIconst C at_221 (z := 1) rfl rfl ?_
       refine oGoto C at_222 (q := 226) (by decide) (by decide) ?_
       refine oIstore C at_226 (Ls' := #[.val (.int sh), .val (.long x1), .second, .val (.long x2), .second, .val (.long x3), .second, .val (.long x4), .second, .val (.int 2), .val (.long x1), .second, .val (.long (fV1_2 sh x1 x2)), .second, .val (.long (fV2_2 sh x1 x2 x3)), .second, .val (.long (fV3_2 sh x1 x2 x3 x4)), .second, .val (.ref a8), .val (.int 1), .val (.long (fV1_2 sh x1 x2)), .second, .val (.int 1)]) rfl (q := 228) rfl ?_
       refine oIload C at_228 rfl rfl ?_
       refine oIf_eq C at_230 (q := 297) (by decide) (by decide) (r := 233) rfl (fun hq => absurd hq ((by decide))) (fun hc230 => ?_)
       refine oLload C at_233 rfl rfl ?_
       refine oIconst C at_235 (z := 0) rfl rfl ?_
       refine oIload C at_236 rfl rfl ?_
       refine oIload C at_238 rfl rfl ?_
       refine oLload C at_240 rfl rfl ?_
       refine oCallS C (w5 hw) (w6 hw) (w7 hw) (w8 hw) at_242 (by decide) pd_813322 rfl rfl (argsL := [.long x1, .int 0, .int 2, .int 1, .long (fV1_2 sh x1 x2)]) (rest := []) rfl (W := 0) rfl (q := 245) rfl (by decide) (by decide) (by decide) (by decide) (mt_fOk l Z a0 hw _ n0 z11 x1 (0 : Int32) (2 : Int32) (1 : Int32) (fV1_2 sh x1 x2) ) (oPureK ?_)
       refine oIf_eq C at_245 (q := 297) (by decide) (by decide) (r := 248) rfl (fun hq => absurd hq (fun q => absurd ((own_ok2 (by decide) (by decide) k0).symm.trans q) (by decide))) (fun hc245 => ?_)
       refine oLload C at_248 rfl rfl ?_
       refine oIconst C at_250 (z := 1) rfl rfl ?_
       refine oIload C at_251 rfl rfl ?_
       refine oIload C at_253 rfl rfl ?_
       refine oLload C at_255 rfl rfl ?_
       refine oCallS C (w5 hw) (w6 hw) (w7 hw) (w8 hw) at_257 (by decide) pd_813322 rfl rfl (argsL := [.long (fV1_2 sh x1 x2), .int 1, .int 2, .int 1, .long (fV1_2 sh x1 x2)]) (rest := []) rfl (W := 0) rfl (q := 260) rfl (by decide) (by decide) (by decide) (by decide) (mt_fOk l Z a0 hw _ n0 z11 (fV1_2 sh x1 x2) (1 : Int32) (2 : Int32) (1 : Int32) (fV1_2 sh x1 x2) ) (oPureK ?_)
       refine oIf_eq C at_260 (q := 297) (by decide) (by decide) (r := 263) rfl (fun hq => absurd hq (fun q => absurd ((own_ok3 (by decide) (by decide) (own_irr _)).symm.trans q) (by decide))) (fun hc260 => ?_)
       refine oLload C at_263 rfl rfl ?_
       refine oIconst C at_265 (z := 2) rfl rfl ?_
       refine oIload C at_266 rfl rfl ?_
       refine oIload C at_268 rfl rfl ?_
       refine oLload C at_270 rfl rfl ?_
       refine oCallS C (w5 hw) (w6 hw) (w7 hw) (w8 hw) at_272 (by decide) pd_813322 rfl rfl (argsL := [.long (fV2_2 sh x1 x2 x3), .int 2, .int 2, .int 1, .long (fV1_2 sh x1 x2)]) (rest := []) rfl (W := 0) rfl (q := 275) rfl (by decide) (by decide) (by decide) (by decide) (mt_fOk l Z a0 hw _ n0 z11 (fV2_2 sh x1 x2 x3) (2 : Int32) (2 : Int32) (1 : Int32) (fV1_2 sh x1 x2) ) (oPureK ?_)
       refine oIf_eq C at_275 (q := 297) (by decide) (by decide) (r := 278) rfl (fun hq => absurd hq (fun q => absurd ((own_ok1 (by decide)).symm.trans q) (by decide))) (fun hc275 => ?_)
       refine oLload C at_278 rfl rfl ?_
       refine oIconst C at_280 (z := 3) rfl rfl ?_
       refine oIload C at_281 rfl rfl ?_
       refine oIload C at_283 rfl rfl ?_
       refine oLload C at_285 rfl rfl ?_
       refine oCallS C (w5 hw) (w6 hw) (w7 hw) (w8 hw) at_287 (by decide) pd_813322 rfl rfl (argsL := [.long (fV3_2 sh x1 x2 x3 x4), .int 3, .int 2, .int 1, .long (fV1_2 sh x1 x2)]) (rest := []) rfl (W := 0) rfl (q := 290) rfl (by decide) (by decide) (by decide) (by decide) (mt_fOk l Z a0 hw _ n0 z11 (fV3_2 sh x1 x2 x3 x4) (3 : Int32) (2 : Int32) (1 : Int32) (fV1_2 sh x1 x2) ) (oPureK ?_)
       refine oIf_eq C at_290 (q := 297) (by decide) (by decide) (r := 293) rfl (fun hq => absurd hq (fun q => absurd ((own_ok1 (by decide)).symm.trans q) (by decide))) (fun hc290 => ?_)
       refine oIconst C at_293 (z := 1) rfl rfl ?_
       refine oGoto C at_294 (q := 298) (by decide) (by decide) ?_
       refine oRetZ C at_298 (z' := (1 : Int32)) rfl (by decide) (by decide) ?_
       exact rfl
     ·
      refine oIloadN C at_56 rfl rfl ?_
      refine oIconst C at_57 (z := 5) rfl rfl ?_
      refine oIshr C at_58 rfl ?_
      refine oIconst C at_59 (z := 1) rfl rfl ?_
      refine oIand C at_60 rfl ?_
      refine oIf_eq C at_61 (q := 83) (by decide) (by decide) (r := 64) rfl (fun hc61 => ?_) (fun hc61 => ?_)
      ·
       refine oLload C at_83 rfl rfl ?_
       refine oCastL (z' := (fV3_2 sh x1 x2 x3 x4)) (by rw [fV3_2_def, if_pos hc61]) ?_
       exact J85 () trivial
      ·
       refine oIloadN C at_64 rfl rfl ?_
       refine oBipush C at_65 (z := 6) rfl rfl ?_
       refine oIshr C at_67 rfl ?_
       refine oIconst C at_68 (z := 1) rfl rfl ?_
       refine oIand C at_69 rfl ?_
       refine oIf_eq C at_70 (q := 78) (by decide) (by decide) (r := 73) rfl (fun hc70 => ?_) (fun hc70 => ?_)
       ·
        refine oLload C at_78 rfl rfl ?_
        refine oGoto C at_80 (q := 85) (by decide) (by decide) ?_
        refine oCastL (z' := (fV3_2 sh x1 x2 x3 x4)) (by rw [fV3_2_def, if_neg hc61, if_pos hc70]) ?_
        exact J85 () trivial
       ·
        refine oLload C at_73 rfl rfl ?_
        refine oGoto C at_75 (q := 85) (by decide) (by decide) ?_
        refine oCastL (z' := (fV3_2 sh x1 x2 x3 x4)) (by rw [fV3_2_def, if_neg hc61, if_neg hc70]) ?_
        exact J85 () trivial
    ·
     refine oIloadN C at_26 rfl rfl ?_
     refine oIconst C at_27 (z := 3) rfl rfl ?_
     refine oIshr C at_28 rfl ?_
     refine oIconst C at_29 (z := 1) rfl rfl ?_
     refine oIand C at_30 rfl ?_
     refine oIf_eq C at_31 (q := 52) (by decide) (by decide) (r := 34) rfl (fun hc31 => ?_) (fun hc31 => ?_)
     ·
      refine oLload C at_52 rfl rfl ?_
      refine oCastL (z' := (fV2_2 sh x1 x2 x3)) (by rw [fV2_2_def, if_pos hc31]) ?_
      exact J54 () trivial
     ·
      refine oIloadN C at_34 rfl rfl ?_
      refine oIconst C at_35 (z := 4) rfl rfl ?_
      refine oIshr C at_36 rfl ?_
      refine oIconst C at_37 (z := 1) rfl rfl ?_
      refine oIand C at_38 rfl ?_
      refine oIf_eq C at_39 (q := 47) (by decide) (by decide) (r := 42) rfl (fun hc39 => ?_) (fun hc39 => ?_)
      ·
       refine oLload C at_47 rfl rfl ?_
       refine oGoto C at_49 (q := 54) (by decide) (by decide) ?_
       refine oCastL (z' := (fV2_2 sh x1 x2 x3)) (by rw [fV2_2_def, if_neg hc31, if_pos hc39]) ?_
       exact J54 () trivial
      ·
       refine oLload C at_42 rfl rfl ?_
       refine oGoto C at_44 (q := 54) (by decide) (by decide) ?_
       refine oCastL (z' := (fV2_2 sh x1 x2 x3)) (by rw [fV2_2_def, if_neg hc31, if_neg hc39]) ?_
       exact J54 () trivial
   ·
    refine oIloadN C at_10 rfl rfl ?_
    refine oIconst C at_11 (z := 2) rfl rfl ?_
    refine oIshr C at_12 rfl ?_
    refine oIconst C at_13 (z := 1) rfl rfl ?_
    refine oIand C at_14 rfl ?_
    refine oIf_eq C at_15 (q := 23) (by decide) (by decide) (r := 18) rfl (fun hc15 => ?_) (fun hc15 => ?_)
    ·
     refine oLloadN C at_23 rfl rfl ?_
     refine oCastL (z' := (fV1_2 sh x1 x2)) (by rw [fV1_2_def, if_pos hc15]) ?_
     exact J24 () trivial
    ·
     refine oLload C at_18 rfl rfl ?_
     refine oGoto C at_20 (q := 24) (by decide) (by decide) ?_
     refine oCastL (z' := (fV1_2 sh x1 x2)) (by rw [fV1_2_def, if_neg hc15]) ?_
     exact J24 () trivial
  ·
   refine oCastI (z' := (3 : Int32)) hv ?_
   refine oIstore C at_5 (Ls' := #[.val (.int sh), .val (.long x1), .second, .val (.long x2), .second, .val (.long x3), .second, .val (.long x4), .second, .val (.int 3), .unset, .unset, .unset, .unset, .unset, .unset, .unset, .unset, .unset, .unset, .unset, .unset, .unset]) rfl (q := 7) rfl ?_
   refine oLloadN C at_7 rfl rfl ?_
   refine oLstore C at_8 (Ls' := #[.val (.int sh), .val (.long x1), .second, .val (.long x2), .second, .val (.long x3), .second, .val (.long x4), .second, .val (.int 3), .val (.long x1), .second, .unset, .unset, .unset, .unset, .unset, .unset, .unset, .unset, .unset, .unset, .unset]) rfl (q := 10) rfl ?_
   refine oJoin (α := Unit) (fun _ => True) (fun _ => h0) (fun _ => (mkF m 24 #[.val (.int sh), .val (.long x1), .second, .val (.long x2), .second, .val (.long x3), .second, .val (.long x4), .second, .val (.int 3), .val (.long x1), .second, .unset, .unset, .unset, .unset, .unset, .unset, .unset, .unset, .unset, .unset, .unset] [.long (fV1_3 sh x1 x2)])) (k := 0) (n := 0) (fun _ _ => ?_) (fun J24 => ?_)
   ·
    show oW _ _ _ _ _ _ _ _ _ _ _ _ _ _ _ (mkF m 24 #[.val (.int sh), .val (.long x1), .second, .val (.long x2), .second, .val (.long x3), .second, .val (.long x4), .second, .val (.int 3), .val (.long x1), .second, .unset, .unset, .unset, .unset, .unset, .unset, .unset, .unset, .unset, .unset, .unset] [.long (fV1_3 sh x1 x2)])
    refine oLstore C at_24 (Ls' := #[.val (.int sh), .val (.long x1), .second, .val (.long x2), .second, .val (.long x3), .second, .val (.long x4), .second, .val (.int 3), .val (.long x1), .second, .val (.long (fV1_3 sh x1 x2)), .second, .unset, .unset, .unset, .unset, .unset, .unset, .unset, .unset, .unset]) rfl (q := 26) rfl ?_
    refine oJoin (α := Unit) (fun _ => True) (fun _ => h0) (fun _ => (mkF m 54 #[.val (.int sh), .val (.long x1), .second, .val (.long x2), .second, .val (.long x3), .second, .val (.long x4), .second, .val (.int 3), .val (.long x1), .second, .val (.long (fV1_3 sh x1 x2)), .second, .unset, .unset, .unset, .unset, .unset, .unset, .unset, .unset, .unset] [.long (fV2_3 sh x1 x2 x3)])) (k := 0) (n := 0) (fun _ _ => ?_) (fun J54 => ?_)
    ·
     show oW _ _ _ _ _ _ _ _ _ _ _ _ _ _ _ (mkF m 54 #[.val (.int sh), .val (.long x1), .second, .val (.long x2), .second, .val (.long x3), .second, .val (.long x4), .second, .val (.int 3), .val (.long x1), .second, .val (.long (fV1_3 sh x1 x2)), .second, .unset, .unset, .unset, .unset, .unset, .unset, .unset, .unset, .unset] [.long (fV2_3 sh x1 x2 x3)])
     refine oLstore C at_54 (Ls' := #[.val (.int sh), .val (.long x1), .second, .val (.long x2), .second, .val (.long x3), .second, .val (.long x4), .second, .val (.int 3), .val (.long x1), .second, .val (.long (fV1_3 sh x1 x2)), .second, .val (.long (fV2_3 sh x1 x2 x3)), .second, .unset, .unset, .unset, .unset, .unset, .unset, .unset]) rfl (q := 56) rfl ?_
     refine oJoin (α := Unit) (fun _ => True) (fun _ => h0) (fun _ => (mkF m 85 #[.val (.int sh), .val (.long x1), .second, .val (.long x2), .second, .val (.long x3), .second, .val (.long x4), .second, .val (.int 3), .val (.long x1), .second, .val (.long (fV1_3 sh x1 x2)), .second, .val (.long (fV2_3 sh x1 x2 x3)), .second, .unset, .unset, .unset, .unset, .unset, .unset, .unset] [.long (fV3_3 sh x1 x2 x3 x4)])) (k := 0) (n := 0) (fun _ _ => ?_) (fun J85 => ?_)
     ·
      show oW _ _ _ _ _ _ _ _ _ _ _ _ _ _ _ (mkF m 85 #[.val (.int sh), .val (.long x1), .second, .val (.long x2), .second, .val (.long x3), .second, .val (.long x4), .second, .val (.int 3), .val (.long x1), .second, .val (.long (fV1_3 sh x1 x2)), .second, .val (.long (fV2_3 sh x1 x2 x3)), .second, .unset, .unset, .unset, .unset, .unset, .unset, .unset] [.long (fV3_3 sh x1 x2 x3 x4)])
      refine oLstore C at_85 (Ls' := #[.val (.int sh), .val (.long x1), .second, .val (.long x2), .second, .val (.long x3), .second, .val (.long x4), .second, .val (.int 3), .val (.long x1), .second, .val (.long (fV1_3 sh x1 x2)), .second, .val (.long (fV2_3 sh x1 x2 x3)), .second, .val (.long (fV3_3 sh x1 x2 x3 x4)), .second, .unset, .unset, .unset, .unset, .unset]) rfl (q := 87) rfl ?_
      refine oIload C at_87 rfl rfl ?_
      refine oNewA C (w0 hw) rfl at_89 rfl (by decide) (k := 3) rfl (by decide) (by decide) (cap := 3) (Nat.le_refl _) (by decide) (by decide) fun a20 h20 g_a20 E20 A20 => ?_
      have ge_a20 : n0 ≤ a20 := g_a20 ▸ Z0
      have A20l : oAr Z h20 a20 .long [.long 0, .long 0, .long 0] := A20
      refine oAstore C at_91 rfl (Ls' := #[.val (.int sh), .val (.long x1), .second, .val (.long x2), .second, .val (.long x3), .second, .val (.long x4), .second, .val (.int 3), .val (.long x1), .second, .val (.long (fV1_3 sh x1 x2)), .second, .val (.long (fV2_3 sh x1 x2 x3)), .second, .val (.long (fV3_3 sh x1 x2 x3 x4)), .second, .val (.ref a20), .unset, .unset, .unset, .unset]) rfl (q := 93) rfl ?_
      refine oAload C at_93 rfl rfl rfl ?_
      refine oIconst C at_95 (z := 0) rfl rfl ?_
      refine oLload C at_96 rfl rfl ?_
      refine oLastore C A20l (by decide) (k := 0) rfl (v := .long 0) rfl (v' := .long x1) rfl at_98 rfl ge_a20 fun h21 W21 A21 => ?_
      have A21l : oAr Z h21 a20 .long [.long x1, .long 0, .long 0] := A21
      refine oIload C at_99 rfl rfl ?_
      refine oIconst C at_101 (z := 1) rfl rfl ?_
      refine oIcmp_le C at_102 (q := 111) (by decide) (by decide) (r := 105) rfl (fun hq => absurd hq ((by decide))) (fun hc102 => ?_)
      refine oAload C at_105 rfl rfl rfl ?_
      refine oIconst C at_107 (z := 1) rfl rfl ?_
      refine oLload C at_108 rfl rfl ?_
      refine oLastore C A21l (by decide) (k := 1) rfl (v := .long 0) rfl (v' := .long (fV1_3 sh x1 x2)) rfl at_110 rfl ge_a20 fun h22 W22 A22 => ?_
      have A22l : oAr Z h22 a20 .long [.long x1, .long (fV1_3 sh x1 x2), .long 0] := A22
      refine oIload C at_111 rfl rfl ?_
      refine oIconst C at_113 (z := 2) rfl rfl ?_
      refine oIcmp_le C at_114 (q := 123) (by decide) (by decide) (r := 117) rfl (fun hq => absurd hq ((by decide))) (fun hc114 => ?_)
      refine oAload C at_117 rfl rfl rfl ?_
      refine oIconst C at_119 (z := 2) rfl rfl ?_
      refine oLload C at_120 rfl rfl ?_
      refine oLastore C A22l (by decide) (k := 2) rfl (v := .long 0) rfl (v' := .long (fV2_3 sh x1 x2 x3)) rfl at_122 rfl ge_a20 fun h23 W23 A23 => ?_
      have A23l : oAr Z h23 a20 .long [.long x1, .long (fV1_3 sh x1 x2), .long (fV2_3 sh x1 x2 x3)] := A23
      refine oIload C at_123 rfl rfl ?_
      refine oIconst C at_125 (z := 3) rfl rfl ?_
      refine oIcmp_le C at_126 (q := 135) (by decide) (by decide) (r := 129) rfl (fun hc126 => ?_) (fun hq => absurd hq ((by decide)))
      refine oAload C at_135 rfl rfl rfl ?_
      have z24 := (Nat.le_trans (Nat.le_trans (Nat.le_trans (Nat.le_trans Z0 E20.1) (Nat.le_of_eq W21.size.symm)) (Nat.le_of_eq W22.size.symm)) (Nat.le_of_eq W23.size.symm))
      refine oCallS C (w1 hw) (w2 hw) (w3 hw) (w4 hw) at_137 (by decide) pd_429913 rfl rfl (argsL := [.ref a20]) (rest := []) rfl (W := 0) rfl (q := 140) rfl (by decide) (by decide) (by decide) (by decide) (mt_fFL3 l Z a0 hw _ n0 z24 a20 x1 (fV1_3 sh x1 x2) (fV2_3 sh x1 x2 x3) A23l) (oPureK ?_)
      rcases own_fl3 x1 (fV1_3 sh x1 x2) (fV2_3 sh x1 x2 x3) with ⟨hv, k1, k2⟩ | ⟨hv, k0, k2⟩ | ⟨hv, k0, k1⟩
      ·
       refine oCastI (z' := (0 : Int32)) hv ?_
       refine oIstore C at_140 (Ls' := #[.val (.int sh), .val (.long x1), .second, .val (.long x2), .second, .val (.long x3), .second, .val (.long x4), .second, .val (.int 3), .val (.long x1), .second, .val (.long (fV1_3 sh x1 x2)), .second, .val (.long (fV2_3 sh x1 x2 x3)), .second, .val (.long (fV3_3 sh x1 x2 x3 x4)), .second, .val (.ref a20), .val (.int 0), .unset, .unset, .unset]) rfl (q := 142) rfl ?_
       refine oIload C at_142 rfl rfl ?_
       refine oIf_lt C at_144 (q := 154) (by decide) (by decide) (r := 147) rfl (fun hq => absurd hq ((by decide))) (fun hc144 => ?_)
       refine oIload C at_147 rfl rfl ?_
       refine oIload C at_149 rfl rfl ?_
       refine oIcmp_lt C at_151 (q := 156) (by decide) (by decide) (r := 154) rfl (fun hc151 => ?_) (fun hq => absurd hq ((by decide)))
       refine oAload C at_156 rfl rfl rfl ?_
       refine oIload C at_158 rfl rfl ?_
       refine oLaload C A23l (by decide) (k := 0) rfl (v := .long x1) rfl at_160 rfl ?_
       refine oLstore C at_161 (Ls' := #[.val (.int sh), .val (.long x1), .second, .val (.long x2), .second, .val (.long x3), .second, .val (.long x4), .second, .val (.int 3), .val (.long x1), .second, .val (.long (fV1_3 sh x1 x2)), .second, .val (.long (fV2_3 sh x1 x2 x3)), .second, .val (.long (fV3_3 sh x1 x2 x3 x4)), .second, .val (.ref a20), .val (.int 0), .val (.long x1), .second, .unset]) rfl (q := 163) rfl ?_
       refine oAload C at_163 rfl rfl rfl ?_
       refine oIconst C at_165 (z := 0) rfl rfl ?_
       refine oLaload C A23l (by decide) (k := 0) rfl (v := .long x1) rfl at_166 rfl ?_
       refine oLload C at_167 rfl rfl ?_
       refine oLcmp_ne C at_169 rfl at_170 (q := 225) (by decide) (by decide) (r := 173) rfl (fun hq => absurd hq (not_not_intro rfl)) (fun hc169 => ?_)
       refine oIload C at_173 rfl rfl ?_
       refine oIconst C at_175 (z := 2) rfl rfl ?_
       refine oIcmp_lt C at_176 (q := 189) (by decide) (by decide) (r := 179) rfl (fun hq => absurd hq ((by decide))) (fun hc176 => ?_)
       refine oAload C at_179 rfl rfl rfl ?_
       refine oIconst C at_181 (z := 1) rfl rfl ?_
       refine oLaload C A23l (by decide) (k := 1) rfl (v := .long (fV1_3 sh x1 x2)) rfl at_182 rfl ?_
       refine oLload C at_183 rfl rfl ?_
       refine oLcmp_ne C at_185 rfl at_186 (q := 225) (by decide) (by decide) (r := 189) rfl (fun hq => absurd hq (not_not_intro rfl)) (fun hc185 => ?_)
       refine oIload C at_189 rfl rfl ?_
       refine oIconst C at_191 (z := 3) rfl rfl ?_
       refine oIcmp_lt C at_192 (q := 205) (by decide) (by decide) (r := 195) rfl (fun hq => absurd hq ((by decide))) (fun hc192 => ?_)
       refine oAload C at_195 rfl rfl rfl ?_
       refine oIconst C at_197 (z := 2) rfl rfl ?_
       refine oLaload C A23l (by decide) (k := 2) rfl (v := .long (fV2_3 sh x1 x2 x3)) rfl at_198 rfl ?_
       refine oLload C at_199 rfl rfl ?_
       refine oLcmp_ne C at_201 rfl at_202 (q := 225) (by decide) (by decide) (r := 205) rfl (fun hq => absurd hq (not_not_intro rfl)) (fun hc201 => ?_)
       refine oIload C at_205 rfl rfl ?_
       refine oIconst C at_207 (z := 4) rfl rfl ?_
       refine oIcmp_lt C at_208 (q := 221) (by decide) (by decide) (r := 211) rfl (fun hc208 => ?_) (fun hq => absurd hq ((by decide)))
       refine oIconst C at_221 (z := 1) rfl rfl ?_
       refine oGoto C at_222 (q := 226) (by decide) (by decide) ?_
       refine oIstore C at_226 (Ls' := #[.val (.int sh), .val (.long x1), .second, .val (.long x2), .second, .val (.long x3), .second, .val (.long x4), .second, .val (.int 3), .val (.long x1), .second, .val (.long (fV1_3 sh x1 x2)), .second, .val (.long (fV2_3 sh x1 x2 x3)), .second, .val (.long (fV3_3 sh x1 x2 x3 x4)), .second, .val (.ref a20), .val (.int 0), .val (.long x1), .second, .val (.int 1)]) rfl (q := 228) rfl ?_
       refine oIload C at_228 rfl rfl ?_
       refine oIf_eq C at_230 (q := 297) (by decide) (by decide) (r := 233) rfl (fun hq => absurd hq ((by decide))) (fun hc230 => ?_)
       refine oLload C at_233 rfl rfl ?_
       refine oIconst C at_235 (z := 0) rfl rfl ?_
       refine oIload C at_236 rfl rfl ?_
       refine oIload C at_238 rfl rfl ?_
       refine oLload C at_240 rfl rfl ?_
       refine oCallS C (w5 hw) (w6 hw) (w7 hw) (w8 hw) at_242 (by decide) pd_813322 rfl rfl (argsL := [.long x1, .int 0, .int 3, .int 0, .long x1]) (rest := []) rfl (W := 0) rfl (q := 245) rfl (by decide) (by decide) (by decide) (by decide) (mt_fOk l Z a0 hw _ n0 z24 x1 (0 : Int32) (3 : Int32) (0 : Int32) x1 ) (oPureK ?_)
       refine oIf_eq C at_245 (q := 297) (by decide) (by decide) (r := 248) rfl (fun hq => absurd hq (fun q => absurd ((own_ok3 (by decide) (by decide) (own_irr _)).symm.trans q) (by decide))) (fun hc245 => ?_)
       refine oLload C at_248 rfl rfl ?_
       refine oIconst C at_250 (z := 1) rfl rfl ?_
       refine oIload C at_251 rfl rfl ?_
       refine oIload C at_253 rfl rfl ?_
       refine oLload C at_255 rfl rfl ?_
       refine oCallS C (w5 hw) (w6 hw) (w7 hw) (w8 hw) at_257 (by decide) pd_813322 rfl rfl (argsL := [.long (fV1_3 sh x1 x2), .int 1, .int 3, .int 0, .long x1]) (rest := []) rfl (W := 0) rfl (q := 260) rfl (by decide) (by decide) (by decide) (by decide) (mt_fOk l Z a0 hw _ n0 z24 (fV1_3 sh x1 x2) (1 : Int32) (3 : Int32) (0 : Int32) x1 ) (oPureK ?_)
       refine oIf_eq C at_260 (q := 297) (by decide) (by decide) (r := 263) rfl (fun hq => absurd hq (fun q => absurd ((own_ok3 (by decide) (by decide) k1).symm.trans q) (by decide))) (fun hc260 => ?_)
       refine oLload C at_263 rfl rfl ?_
       refine oIconst C at_265 (z := 2) rfl rfl ?_
       refine oIload C at_266 rfl rfl ?_
       refine oIload C at_268 rfl rfl ?_
       refine oLload C at_270 rfl rfl ?_
       refine oCallS C (w5 hw) (w6 hw) (w7 hw) (w8 hw) at_272 (by decide) pd_813322 rfl rfl (argsL := [.long (fV2_3 sh x1 x2 x3), .int 2, .int 3, .int 0, .long x1]) (rest := []) rfl (W := 0) rfl (q := 275) rfl (by decide) (by decide) (by decide) (by decide) (mt_fOk l Z a0 hw _ n0 z24 (fV2_3 sh x1 x2 x3) (2 : Int32) (3 : Int32) (0 : Int32) x1 ) (oPureK ?_)
       refine oIf_eq C at_275 (q := 297) (by decide) (by decide) (r := 278) rfl (fun hq => absurd hq (fun q => absurd ((own_ok3 (by decide) (by decide) k2).symm.trans q) (by decide))) (fun hc275 => ?_)
       refine oLload C at_278 rfl rfl ?_
       refine oIconst C at_280 (z := 3) rfl rfl ?_
       refine oIload C at_281 rfl rfl ?_
       refine oIload C at_283 rfl rfl ?_
       refine oLload C at_285 rfl rfl ?_
       refine oCallS C (w5 hw) (w6 hw) (w7 hw) (w8 hw) at_287 (by decide) pd_813322 rfl rfl (argsL := [.long (fV3_3 sh x1 x2 x3 x4), .int 3, .int 3, .int 0, .long x1]) (rest := []) rfl (W := 0) rfl (q := 290) rfl (by decide) (by decide) (by decide) (by decide) (mt_fOk l Z a0 hw _ n0 z24 (fV3_3 sh x1 x2 x3 x4) (3 : Int32) (3 : Int32) (0 : Int32) x1 ) (oPureK ?_)
       refine oIf_eq C at_290 (q := 297) (by decide) (by decide) (r := 293) rfl (fun hq => absurd hq (fun q => absurd ((own_ok1 (by decide)).symm.trans q) (by decide))) (fun hc290 => ?_)
       refine oIconst C at_293 (z := 1) rfl rfl ?_
       refine oGoto C at_294 (q := 298) (by decide) (by decide) ?_
       refine oRetZ C at_298 (z' := (1 : Int32)) rfl (by decide) (by decide) ?_
       exact rfl
      ·
       refine oCastI (z' := (1 : Int32)) hv ?_
       refine oIstore C at_140 (Ls' := #[.val (.int sh), .val (.long x1), .second, .val (.long x2), .second, .val (.long x3), .second, .val (.long x4), .second, .val (.int 3), .val (.long x1), .second, .val (.long (fV1_3 sh x1 x2)), .second, .val (.long (fV2_3 sh x1 x2 x3)), .second, .val (.long (fV3_3 sh x1 x2 x3 x4)), .second, .val (.ref a20), .val (.int 1), .unset, .unset, .unset]) rfl (q := 142) rfl ?_
       refine oIload C at_142 rfl rfl ?_
       refine oIf_lt C at_144 (q := 154) (by decide) (by decide) (r := 147) rfl (fun hq => absurd hq ((by decide))) (fun hc144 => ?_)
       refine oIload C at_147 rfl rfl ?_
       refine oIload C at_149 rfl rfl ?_
       refine oIcmp_lt C at_151 (q := 156) (by decide) (by decide) (r := 154) rfl (fun hc151 => ?_) (fun hq => absurd hq ((by decide)))
       refine oAload C at_156 rfl rfl rfl ?_
       refine oIload C at_158 rfl rfl ?_
       refine oLaload C A23l (by decide) (k := 1) rfl (v := .long (fV1_3 sh x1 x2)) rfl at_160 rfl ?_
       refine oLstore C at_161 (Ls' := #[.val (.int sh), .val (.long x1), .second, .val (.long x2), .second, .val (.long x3), .second, .val (.long x4), .second, .val (.int 3), .val (.long x1), .second, .val (.long (fV1_3 sh x1 x2)), .second, .val (.long (fV2_3 sh x1 x2 x3)), .second, .val (.long (fV3_3 sh x1 x2 x3 x4)), .second, .val (.ref a20), .val (.int 1), .val (.long (fV1_3 sh x1 x2)), .second, .unset]) rfl (q := 163) rfl ?_
       refine oAload C at_163 rfl rfl rfl ?_
       refine oIconst C at_165 (z := 0) rfl rfl ?_
       refine oLaload C A23l (by decide) (k := 0) rfl (v := .long x1) rfl at_166 rfl ?_
       refine oLload C at_167 rfl rfl ?_
       refine oLcmp_ne C at_169 rfl at_170 (q := 225) (by decide) (by decide) (r := 173) rfl (fun hq => absurd hq (not_not_intro rfl)) (fun hc169 => ?_)
       refine oIload C at_173 rfl rfl ?_
       refine oIconst C at_175 (z := 2) rfl rfl ?_
       refine oIcmp_lt C at_176 (q := 189) (by decide) (by decide) (r := 179) rfl (fun hq => absurd hq ((by decide))) (fun hc176 => ?_)
       refine oAload C at_179 rfl rfl rfl ?_
       refine oIconst C at_181 (z := 1) rfl rfl ?_
       refine oLaload C A23l (by decide) (k := 1) rfl (v := .long (fV1_3 sh x1 x2)) rfl at_182 rfl ?_
       refine oLload C at_183 rfl rfl ?_
       refine oLcmp_ne C at_185 rfl at_186 (q := 225) (by decide) (by decide) (r := 189) rfl (fun hq => absurd hq (not_not_intro rfl)) (fun hc185 => ?_)
       refine oIload C at_189 rfl rfl ?_
       refine oIconst C at_191 (z := 3) rfl rfl ?_
       refine oIcmp_lt C at_192 (q := 205) (by decide) (by decide) (r := 195) rfl (fun hq => absurd hq ((by decide))) (fun hc192 => ?_)
       refine oAload C at_195 rfl rfl rfl ?_
       refine oIconst C at_197 (z := 2) rfl rfl ?_
       refine oLaload C A23l (by decide) (k := 2) rfl (v := .long (fV2_3 sh x1 x2 x3)) rfl at_198 rfl ?_
       refine oLload C at_199 rfl rfl ?_
       refine oLcmp_ne C at_201 rfl at_202 (q := 225) (by decide) (by decide) (r := 205) rfl (fun hq => absurd hq (not_not_intro rfl)) (fun hc201 => ?_)
       refine oIload C at_205 rfl rfl ?_
       refine oIconst C at_207 (z := 4) rfl rfl ?_
       refine oIcmp_lt C at_208 (q := 221) (by decide) (by decide) (r := 211) rfl (fun hc208 => ?_) (fun hq => absurd hq ((by decide)))
       refine oIconst C at_221 (z := 1) rfl rfl ?_
       refine oGoto C at_222 (q := 226) (by decide) (by decide) ?_
       refine oIstore C at_226 (Ls' := #[.val (.int sh), .val (.long x1), .second, .val (.long x2), .second, .val (.long x3), .second, .val (.long x4), .second, .val (.int 3), .val (.long x1), .second, .val (.long (fV1_3 sh x1 x2)), .second, .val (.long (fV2_3 sh x1 x2 x3)), .second, .val (.long (fV3_3 sh x1 x2 x3 x4)), .second, .val (.ref a20), .val (.int 1), .val (.long (fV1_3 sh x1 x2)), .second, .val (.int 1)]) rfl (q := 228) rfl ?_
       refine oIload C at_228 rfl rfl ?_
       refine oIf_eq C at_230 (q := 297) (by decide) (by decide) (r := 233) rfl (fun hq => absurd hq ((by decide))) (fun hc230 => ?_)
       refine oLload C at_233 rfl rfl ?_
       refine oIconst C at_235 (z := 0) rfl rfl ?_
       refine oIload C at_236 rfl rfl ?_
       refine oIload C at_238 rfl rfl ?_
       refine oLload C at_240 rfl rfl ?_
       refine oCallS C (w5 hw) (w6 hw) (w7 hw) (w8 hw) at_242 (by decide) pd_813322 rfl rfl (argsL := [.long x1, .int 0, .int 3, .int 1, .long (fV1_3 sh x1 x2)]) (rest := []) rfl (W := 0) rfl (q := 245) rfl (by decide) (by decide) (by decide) (by decide) (mt_fOk l Z a0 hw _ n0 z24 x1 (0 : Int32) (3 : Int32) (1 : Int32) (fV1_3 sh x1 x2) ) (oPureK ?_)
       refine oIf_eq C at_245 (q := 297) (by decide) (by decide) (r := 248) rfl (fun hq => absurd hq (fun q => absurd ((own_ok2 (by decide) (by decide) k0).symm.trans q) (by decide))) (fun hc245 => ?_)
       refine oLload C at_248 rfl rfl ?_
       refine oIconst C at_250 (z := 1) rfl rfl ?_
       refine oIload C at_251 rfl rfl ?_
       refine oIload C at_253 rfl rfl ?_
       refine oLload C at_255 rfl rfl ?_
       refine oCallS C (w5 hw) (w6 hw) (w7 hw) (w8 hw) at_257 (by decide) pd_813322 rfl rfl (argsL := [.long (fV1_3 sh x1 x2), .int 1, .int 3, .int 1, .long (fV1_3 sh x1 x2)]) (rest := []) rfl (W := 0) rfl (q := 260) rfl (by decide) (by decide) (by decide) (by decide) (mt_fOk l Z a0 hw _ n0 z24 (fV1_3 sh x1 x2) (1 : Int32) (3 : Int32) (1 : Int32) (fV1_3 sh x1 x2) ) (oPureK ?_)
       refine oIf_eq C at_260 (q := 297) (by decide) (by decide) (r := 263) rfl (fun hq => absurd hq (fun q => absurd ((own_ok3 (by decide) (by decide) (own_irr _)).symm.trans q) (by decide))) (fun hc260 => ?_)
       refine oLload C at_263 rfl rfl ?_
       refine oIconst C at_265 (z := 2) rfl rfl ?_
       refine oIload C at_266 rfl rfl ?_
       refine oIload C at_268 rfl rfl ?_
       refine oLload C at_270 rfl rfl ?_
       refine oCallS C (w5 hw) (w6 hw) (w7 hw) (w8 hw) at_272 (by decide) pd_813322 rfl rfl (argsL := [.long (fV2_3 sh x1 x2 x3), .int 2, .int 3, .int 1, .long (fV1_3 sh x1 x2)]) (rest := []) rfl (W := 0) rfl (q := 275) rfl (by decide) (by decide) (by decide) (by decide) (mt_fOk l Z a0 hw _ n0 z24 (fV2_3 sh x1 x2 x3) (2 : Int32) (3 : Int32) (1 : Int32) (fV1_3 sh x1 x2) ) (oPureK ?_)
       refine oIf_eq C at_275 (q := 297) (by decide) (by decide) (r := 278) rfl (fun hq => absurd hq (fun q => absurd ((own_ok3 (by decide) (by decide) k2).symm.trans q) (by decide))) (fun hc275 => ?_)
       refine oLload C at_278 rfl rfl ?_
       refine oIconst C at_280 (z := 3) rfl rfl ?_
       refine oIload C at_281 rfl rfl ?_
       refine oIload C at_283 rfl rfl ?_
       refine oLload C at_285 rfl rfl ?_
       refine oCallS C (w5 hw) (w6 hw) (w7 hw) (w8 hw) at_287 (by decide) pd_813322 rfl rfl (argsL := [.long (fV3_3 sh x1 x2 x3 x4), .int 3, .int 3, .int 1, .long (fV1_3 sh x1 x2)]) (rest := []) rfl (W := 0) rfl (q := 290) rfl (by decide) (by decide) (by decide) (by decide) (mt_fOk l Z a0 hw _ n0 z24 (fV3_3 sh x1 x2 x3 x4) (3 : Int32) (3 : Int32) (1 : Int32) (fV1_3 sh x1 x2) ) (oPureK ?_)
       refine oIf_eq C at_290 (q := 297) (by decide) (by decide) (r := 293) rfl (fun hq => absurd hq (fun q => absurd ((own_ok1 (by decide)).symm.trans q) (by decide))) (fun hc290 => ?_)
       refine oIconst C at_293 (z := 1) rfl rfl ?_
       refine oGoto C at_294 (q := 298) (by decide) (by decide) ?_
       refine oRetZ C at_298 (z' := (1 : Int32)) rfl (by decide) (by decide) ?_
       exact rfl
      ·
       refine oCastI (z' := (2 : Int32)) hv ?_
       refine oIstore C at_140 (Ls' := #[.val (.int sh), .val (.long x1), .second, .val (.long x2), .second, .val (.long x3), .second, .val (.long x4), .second, .val (.int 3), .val (.long x1), .second, .val (.long (fV1_3 sh x1 x2)), .second, .val (.long (fV2_3 sh x1 x2 x3)), .second, .val (.long (fV3_3 sh x1 x2 x3 x4)), .second, .val (.ref a20), .val (.int 2), .unset, .unset, .unset]) rfl (q := 142) rfl ?_
       refine oIload C at_142 rfl rfl ?_
       refine oIf_lt C at_144 (q := 154) (by decide) (by decide) (r := 147) rfl (fun hq => absurd hq ((by decide))) (fun hc144 => ?_)
       refine oIload C at_147 rfl rfl ?_
       refine oIload C at_149 rfl rfl ?_
       refine oIcmp_lt C at_151 (q := 156) (by decide) (by decide) (r := 154) rfl (fun hc151 => ?_) (fun hq => absurd hq ((by decide)))
       refine oAload C at_156 rfl rfl rfl ?_
       refine oIload C at_158 rfl rfl ?_
       refine oLaload C A23l (by decide) (k := 2) rfl (v := .long (fV2_3 sh x1 x2 x3)) rfl at_160 rfl ?_
       refine oLstore C at_161 (Ls' := #[.val (.int sh), .val (.long x1), .second, .val (.long x2), .second, .val (.long x3), .second, .val (.long x4), .second, .val (.int 3), .val (.long x1), .second, .val (.long (fV1_3 sh x1 x2)), .second, .val (.long (fV2_3 sh x1 x2 x3)), .second, .val (.long (fV3_3 sh x1 x2 x3 x4)), .second, .val (.ref a20), .val (.int 2), .val (.long (fV2_3 sh x1 x2 x3)), .second, .unset]) rfl (q := 163) rfl ?_
       refine oAload C at_163 rfl rfl rfl ?_
       refine oIconst C at_165 (z := 0) rfl rfl ?_
       refine oLaload C A23l (by decide) (k := 0) rfl (v := .long x1) rfl at_166 rfl ?_
       refine oLload C at_167 rfl rfl ?_
       refine oLcmp_ne C at_169 rfl at_170 (q := 225) (by decide) (by decide) (r := 173) rfl (fun hq => absurd hq (not_not_intro rfl)) (fun hc169 => ?_)
       refine oIload C at_173 rfl rfl ?_
       refine oIconst C at_175 (z := 2) rfl rfl ?_
       refine oIcmp_lt C at_176 (q := 189) (by decide) (by decide) (r := 179) rfl (fun hq => absurd hq ((by decide))) (fun hc176 => ?_)
       refine oAload C at_179 rfl rfl rfl ?_
       refine oIconst C at_181 (z := 1) rfl rfl ?_
       refine oLaload C A23l (by decide) (k := 1) rfl (v := .long (fV1_3 sh x1 x2)) rfl at_182 rfl ?_
       refine oLload C at_183 rfl rfl ?_
       refine oLcmp_ne C at_185 rfl at_186 (q := 225) (by decide) (by decide) (r := 189) rfl (fun hq => absurd hq (not_not_intro rfl)) (fun hc185 => ?_)
       refine oIload C at_189 rfl rfl ?_
       refine oIconst C at_191 (z := 3) rfl rfl ?_
       refine oIcmp_lt C at_192 (q := 205) (by decide) (by decide) (r := 195) rfl (fun hq => absurd hq ((by decide))) (fun hc192 => ?_)
       refine oAload C at_195 rfl rfl rfl ?_
       refine oIconst C at_197 (z := 2) rfl rfl ?_
       refine oLaload C A23l (by decide) (k := 2) rfl (v := .long (fV2_3 sh x1 x2 x3)) rfl at_198 rfl ?_
       refine oLload C at_199 rfl rfl ?_
       refine oLcmp_ne C at_201 rfl at_202 (q := 225) (by decide) (by decide) (r := 205) rfl (fun hq => absurd hq (not_not_intro rfl)) (fun hc201 => ?_)
       refine oIload C at_205 rfl rfl ?_
       refine oIconst C at_207 (z := 4) rfl rfl ?_
       refine oIcmp_lt C at_208 (q := 221) (by decide) (by decide) (r := 211) rfl (fun hc208 => ?_) (fun hq => absurd hq ((by decide)))
       refine oIconst C at_221 (z := 1) rfl rfl ?_
       refine oGoto C at_222 (q := 226) (by decide) (by decide) ?_
       refine oIstore C at_226 (Ls' := #[.val (.int sh), .val (.long x1), .second, .val (.long x2), .second, .val (.long x3), .second, .val (.long x4), .second, .val (.int 3), .val (.long x1), .second, .val (.long (fV1_3 sh x1 x2)), .second, .val (.long (fV2_3 sh x1 x2 x3)), .second, .val (.long (fV3_3 sh x1 x2 x3 x4)), .second, .val (.ref a20), .val (.int 2), .val (.long (fV2_3 sh x1 x2 x3)), .second, .val (.int 1)]) rfl (q := 228) rfl ?_
       refine oIload C at_228 rfl rfl ?_
       refine oIf_eq C at_230 (q := 297) (by decide) (by decide) (r := 233) rfl (fun hq => absurd hq ((by decide))) (fun hc230 => ?_)
       refine oLload C at_233 rfl rfl ?_
       refine oIconst C at_235 (z := 0) rfl rfl ?_
       refine oIload C at_236 rfl rfl ?_
       refine oIload C at_238 rfl rfl ?_
       refine oLload C at_240 rfl rfl ?_
       refine oCallS C (w5 hw) (w6 hw) (w7 hw) (w8 hw) at_242 (by decide) pd_813322 rfl rfl (argsL := [.long x1, .int 0, .int 3, .int 2, .long (fV2_3 sh x1 x2 x3)]) (rest := []) rfl (W := 0) rfl (q := 245) rfl (by decide) (by decide) (by decide) (by decide) (mt_fOk l Z a0 hw _ n0 z24 x1 (0 : Int32) (3 : Int32) (2 : Int32) (fV2_3 sh x1 x2 x3) ) (oPureK ?_)
       refine oIf_eq C at_245 (q := 297) (by decide) (by decide) (r := 248) rfl (fun hq => absurd hq (fun q => absurd ((own_ok2 (by decide) (by decide) k0).symm.trans q) (by decide))) (fun hc245 => ?_)
       refine oLload C at_248 rfl rfl ?_
       refine oIconst C at_250 (z := 1) rfl rfl ?_
       refine oIload C at_251 rfl rfl ?_
       refine oIload C at_253 rfl rfl ?_
       refine oLload C at_255 rfl rfl ?_
       refine oCallS C (w5 hw) (w6 hw) (w7 hw) (w8 hw) at_257 (by decide) pd_813322 rfl rfl (argsL := [.long (fV1_3 sh x1 x2), .int 1, .int 3, .int 2, .long (fV2_3 sh x1 x2 x3)]) (rest := []) rfl (W := 0) rfl (q := 260) rfl (by decide) (by decide) (by decide) (by decide) (mt_fOk l Z a0 hw _ n0 z24 (fV1_3 sh x1 x2) (1 : Int32) (3 : Int32) (2 : Int32) (fV2_3 sh x1 x2 x3) ) (oPureK ?_)
       refine oIf_eq C at_260 (q := 297) (by decide) (by decide) (r := 263) rfl (fun hq => absurd hq (fun q => absurd ((own_ok2 (by decide) (by decide) k1).symm.trans q) (by decide))) (fun hc260 => ?_)
       refine oLload C at_263 rfl rfl ?_
       refine oIconst C at_265 (z := 2) rfl rfl ?_
       refine oIload C at_266 rfl rfl ?_
       refine oIload C at_268 rfl rfl ?_
       refine oLload C at_270 rfl rfl ?_
       refine oCallS C (w5 hw) (w6 hw) (w7 hw) (w8 hw) at_272 (by decide) pd_813322 rfl rfl (argsL := [.long (fV2_3 sh x1 x2 x3), .int 2, .int 3, .int 2, .long (fV2_3 sh x1 x2 x3)]) (rest := []) rfl (W := 0) rfl (q := 275) rfl (by decide) (by decide) (by decide) (by decide) (mt_fOk l Z a0 hw _ n0 z24 (fV2_3 sh x1 x2 x3) (2 : Int32) (3 : Int32) (2 : Int32) (fV2_3 sh x1 x2 x3) ) (oPureK ?_)
       refine oIf_eq C at_275 (q := 297) (by decide) (by decide) (r := 278) rfl (fun hq => absurd hq (fun q => absurd ((own_ok3 (by decide) (by decide) (own_irr _)).symm.trans q) (by decide))) (fun hc275 => ?_)
       refine oLload C at_278 rfl rfl ?_
       refine oIconst C at_280 (z := 3) rfl rfl ?_
       refine oIload C at_281 rfl rfl ?_
       refine oIload C at_283 rfl rfl ?_
       refine oLload C at_285 rfl rfl ?_
       refine oCallS C (w5 hw) (w6 hw) (w7 hw) (w8 hw) at_287 (by decide) pd_813322 rfl rfl (argsL := [.long (fV3_3 sh x1 x2 x3 x4), .int 3, .int 3, .int 2, .long (fV2_3 sh x1 x2 x3)]) (rest := []) rfl (W := 0) rfl (q := 290) rfl (by decide) (by decide) (by decide) (by decide) (mt_fOk l Z a0 hw _ n0 z24 (fV3_3 sh x1 x2 x3 x4) (3 : Int32) (3 : Int32) (2 : Int32) (fV2_3 sh x1 x2 x3) ) (oPureK ?_)
       refine oIf_eq C at_290 (q := 297) (by decide) (by decide) (r := 293) rfl (fun hq => absurd hq (fun q => absurd ((own_ok1 (by decide)).symm.trans q) (by decide))) (fun hc290 => ?_)
       refine oIconst C at_293 (z := 1) rfl rfl ?_
       refine oGoto C at_294 (q := 298) (by decide) (by decide) ?_
       refine oRetZ C at_298 (z' := (1 : Int32)) rfl (by decide) (by decide) ?_
       exact rfl
     ·
      refine oIloadN C at_56 rfl rfl ?_
      refine oIconst C at_57 (z := 5) rfl rfl ?_
      refine oIshr C at_58 rfl ?_
      refine oIconst C at_59 (z := 1) rfl rfl ?_
      refine oIand C at_60 rfl ?_
      refine oIf_eq C at_61 (q := 83) (by decide) (by decide) (r := 64) rfl (fun hc61 => ?_) (fun hc61 => ?_)
      ·
       refine oLload C at_83 rfl rfl ?_
       refine oCastL (z' := (fV3_3 sh x1 x2 x3 x4)) (by rw [fV3_3_def, if_pos hc61]) ?_
       exact J85 () trivial
      ·
       refine oIloadN C at_64 rfl rfl ?_
       refine oBipush C at_65 (z := 6) rfl rfl ?_
       refine oIshr C at_67 rfl ?_
       refine oIconst C at_68 (z := 1) rfl rfl ?_
       refine oIand C at_69 rfl ?_
       refine oIf_eq C at_70 (q := 78) (by decide) (by decide) (r := 73) rfl (fun hc70 => ?_) (fun hc70 => ?_)
       ·
        refine oLload C at_78 rfl rfl ?_
        refine oGoto C at_80 (q := 85) (by decide) (by decide) ?_
        refine oCastL (z' := (fV3_3 sh x1 x2 x3 x4)) (by rw [fV3_3_def, if_neg hc61, if_pos hc70]) ?_
        exact J85 () trivial
       ·
        refine oLload C at_73 rfl rfl ?_
        refine oGoto C at_75 (q := 85) (by decide) (by decide) ?_
        refine oCastL (z' := (fV3_3 sh x1 x2 x3 x4)) (by rw [fV3_3_def, if_neg hc61, if_neg hc70]) ?_
        exact J85 () trivial
    ·
     refine oIloadN C at_26 rfl rfl ?_
     refine oIconst C at_27 (z := 3) rfl rfl ?_
     refine oIshr C at_28 rfl ?_
     refine oIconst C at_29 (z := 1) rfl rfl ?_
     refine oIand C at_30 rfl ?_
     refine oIf_eq C at_31 (q := 52) (by decide) (by decide) (r := 34) rfl (fun hc31 => ?_) (fun hc31 => ?_)
     ·
      refine oLload C at_52 rfl rfl ?_
      refine oCastL (z' := (fV2_3 sh x1 x2 x3)) (by rw [fV2_3_def, if_pos hc31]) ?_
      exact J54 () trivial
     ·
      refine oIloadN C at_34 rfl rfl ?_
      refine oIconst C at_35 (z := 4) rfl rfl ?_
      refine oIshr C at_36 rfl ?_
      refine oIconst C at_37 (z := 1) rfl rfl ?_
      refine oIand C at_38 rfl ?_
      refine oIf_eq C at_39 (q := 47) (by decide) (by decide) (r := 42) rfl (fun hc39 => ?_) (fun hc39 => ?_)
      ·
       refine oLload C at_47 rfl rfl ?_
       refine oGoto C at_49 (q := 54) (by decide) (by decide) ?_
       refine oCastL (z' := (fV2_3 sh x1 x2 x3)) (by rw [fV2_3_def, if_neg hc31, if_pos hc39]) ?_
       exact J54 () trivial
      ·
       refine oLload C at_42 rfl rfl ?_
       refine oGoto C at_44 (q := 54) (by decide) (by decide) ?_
       refine oCastL (z' := (fV2_3 sh x1 x2 x3)) (by rw [fV2_3_def, if_neg hc31, if_neg hc39]) ?_
       exact J54 () trivial
   ·
    refine oIloadN C at_10 rfl rfl ?_
    refine oIconst C at_11 (z := 2) rfl rfl ?_
    refine oIshr C at_12 rfl ?_
    refine oIconst C at_13 (z := 1) rfl rfl ?_
    refine oIand C at_14 rfl ?_
    refine oIf_eq C at_15 (q := 23) (by decide) (by decide) (r := 18) rfl (fun hc15 => ?_) (fun hc15 => ?_)
    ·
     refine oLloadN C at_23 rfl rfl ?_
     refine oCastL (z' := (fV1_3 sh x1 x2)) (by rw [fV1_3_def, if_pos hc15]) ?_
     exact J24 () trivial
    ·
     refine oLload C at_18 rfl rfl ?_
     refine oGoto C at_20 (q := 24) (by decide) (by decide) ?_
     refine oCastL (z' := (fV1_3 sh x1 x2)) (by rw [fV1_3_def, if_neg hc15]) ?_
     exact J24 () trivial
  ·
   refine oCastI (z' := (4 : Int32)) hv ?_
   refine oIstore C at_5 (Ls' := #[.val (.int sh), .val (.long x1), .second, .val (.long x2), .second, .val (.long x3), .second, .val (.long x4), .second, .val (.int 4), .unset, .unset, .unset, .unset, .unset, .unset, .unset, .unset, .unset, .unset, .unset, .unset, .unset]) rfl (q := 7) rfl ?_
   refine oLloadN C at_7 rfl rfl ?_
   refine oLstore C at_8 (Ls' := #[.val (.int sh), .val (.long x1), .second, .val (.long x2), .second, .val (.long x3), .second, .val (.long x4), .second, .val (.int 4), .val (.long x1), .second, .unset, .unset, .unset, .unset, .unset, .unset, .unset, .unset, .unset, .unset, .unset]) rfl (q := 10) rfl ?_
   refine oJoin (α := Unit) (fun _ => True) (fun _ => h0) (fun _ => (mkF m 24 #[.val (.int sh), .val (.long x1), .second, .val (.long x2), .second, .val (.long x3), .second, .val (.long x4), .second, .val (.int 4), .val (.long x1), .second, .unset, .unset, .unset, .unset, .unset, .unset, .unset, .unset, .unset, .unset, .unset] [.long (fV1_4 sh x1 x2)])) (k := 0) (n := 0) (fun _ _ => ?_) (fun J24 => ?_)
   ·
    show oW _ _ _ _ _ _ _ _ _ _ _ _ _ _ _ (mkF m 24 #[.val (.int sh), .val (.long x1), .second, .val (.long x2), .second, .val (.long x3), .second, .val (.long x4), .second, .val (.int 4), .val (.long x1), .second, .unset, .unset, .unset, .unset, .unset, .unset, .unset, .unset, .unset, .unset, .unset] [.long (fV1_4 sh x1 x2)])
    refine oLstore C at_24 (Ls' := #[.val (.int sh), .val (.long x1), .second, .val (.long x2), .second, .val (.long x3), .second, .val (.long x4), .second, .val (.int 4), .val (.long x1), .second, .val (.long (fV1_4 sh x1 x2)), .second, .unset, .unset, .unset, .unset, .unset, .unset, .unset, .unset, .unset]) rfl (q := 26) rfl ?_
    refine oJoin (α := Unit) (fun _ => True) (fun _ => h0) (fun _ => (mkF m 54 #[.val (.int sh), .val (.long x1), .second, .val (.long x2), .second, .val (.long x3), .second, .val (.long x4), .second, .val (.int 4), .val (.long x1), .second, .val (.long (fV1_4 sh x1 x2)), .second, .unset, .unset, .unset, .unset, .unset, .unset, .unset, .unset, .unset] [.long (fV2_4 sh x1 x2 x3)])) (k := 0) (n := 0) (fun _ _ => ?_) (fun J54 => ?_)
    ·
     show oW _ _ _ _ _ _ _ _ _ _ _ _ _ _ _ (mkF m 54 #[.val (.int sh), .val (.long x1), .second, .val (.long x2), .second, .val (.long x3), .second, .val (.long x4), .second, .val (.int 4), .val (.long x1), .second, .val (.long (fV1_4 sh x1 x2)), .second, .unset, .unset, .unset, .unset, .unset, .unset, .unset, .unset, .unset] [.long (fV2_4 sh x1 x2 x3)])
     refine oLstore C at_54 (Ls' := #[.val (.int sh), .val (.long x1), .second, .val (.long x2), .second, .val (.long x3), .second, .val (.long x4), .second, .val (.int 4), .val (.long x1), .second, .val (.long (fV1_4 sh x1 x2)), .second, .val (.long (fV2_4 sh x1 x2 x3)), .second, .unset, .unset, .unset, .unset, .unset, .unset, .unset]) rfl (q := 56) rfl ?_
     refine oJoin (α := Unit) (fun _ => True) (fun _ => h0) (fun _ => (mkF m 85 #[.val (.int sh), .val (.long x1), .second, .val (.long x2), .second, .val (.long x3), .second, .val (.long x4), .second, .val (.int 4), .val (.long x1), .second, .val (.long (fV1_4 sh x1 x2)), .second, .val (.long (fV2_4 sh x1 x2 x3)), .second, .unset, .unset, .unset, .unset, .unset, .unset, .unset] [.long (fV3_4 sh x1 x2 x3 x4)])) (k := 0) (n := 0) (fun _ _ => ?_) (fun J85 => ?_)
     ·
      show oW _ _ _ _ _ _ _ _ _ _ _ _ _ _ _ (mkF m 85 #[.val (.int sh), .val (.long x1), .second, .val (.long x2), .second, .val (.long x3), .second, .val (.long x4), .second, .val (.int 4), .val (.long x1), .second, .val (.long (fV1_4 sh x1 x2)), .second, .val (.long (fV2_4 sh x1 x2 x3)), .second, .unset, .unset, .unset, .unset, .unset, .unset, .unset] [.long (fV3_4 sh x1 x2 x3 x4)])
      refine oLstore C at_85 (Ls' := #[.val (.int sh), .val (.long x1), .second, .val (.long x2), .second, .val (.long x3), .second, .val (.long x4), .second, .val (.int 4), .val (.long x1), .second, .val (.long (fV1_4 sh x1 x2)), .second, .val (.long (fV2_4 sh x1 x2 x3)), .second, .val (.long (fV3_4 sh x1 x2 x3 x4)), .second, .unset, .unset, .unset, .unset, .unset]) rfl (q := 87) rfl ?_
      refine oIload C at_87 rfl rfl ?_
      refine oNewA C (w0 hw) rfl at_89 rfl (by decide) (k := 4) rfl (by decide) (by decide) (cap := 4) (Nat.le_refl _) (by decide) (by decide) fun a37 h37 g_a37 E37 A37 => ?_
      have ge_a37 : n0 ≤ a37 := g_a37 ▸ Z0
      have A37l : oAr Z h37 a37 .long [.long 0, .long 0, .long 0, .long 0] := A37
      refine oAstore C at_91 rfl (Ls' := #[.val (.int sh), .val (.long x1), .second, .val (.long x2), .second, .val (.long x3), .second, .val (.long x4), .second, .val (.int 4), .val (.long x1), .second, .val (.long (fV1_4 sh x1 x2)), .second, .val (.long (fV2_4 sh x1 x2 x3)), .second, .val (.long (fV3_4 sh x1 x2 x3 x4)), .second, .val (.ref a37), .unset, .unset, .unset, .unset]) rfl (q := 93) rfl ?_
      refine oAload C at_93 rfl rfl rfl ?_
      refine oIconst C at_95 (z := 0) rfl rfl ?_
      refine oLload C at_96 rfl rfl ?_
      refine oLastore C A37l (by decide) (k := 0) rfl (v := .long 0) rfl (v' := .long x1) rfl at_98 rfl ge_a37 fun h38 W38 A38 => ?_
      have A38l : oAr Z h38 a37 .long [.long x1, .long 0, .long 0, .long 0] := A38
      refine oIload C at_99 rfl rfl ?_
      refine oIconst C at_101 (z := 1) rfl rfl ?_
      refine oIcmp_le C at_102 (q := 111) (by decide) (by decide) (r := 105) rfl (fun hq => absurd hq ((by decide))) (fun hc102 => ?_)
      refine oAload C at_105 rfl rfl rfl ?_
      refine oIconst C at_107 (z := 1) rfl rfl ?_
      refine oLload C at_108 rfl rfl ?_
      refine oLastore C A38l (by decide) (k := 1) rfl (v := .long 0) rfl (v' := .long (fV1_4 sh x1 x2)) rfl at_110 rfl ge_a37 fun h39 W39 A39 => ?_
      have A39l : oAr Z h39 a37 .long [.long x1, .long (fV1_4 sh x1 x2), .long 0, .long 0] := A39
      refine oIload C at_111 rfl rfl ?_
      refine oIconst C at_113 (z := 2) rfl rfl ?_
      refine oIcmp_le C at_114 (q := 123) (by decide) (by decide) (r := 117) rfl (fun hq => absurd hq ((by decide))) (fun hc114 => ?_)
      refine oAload C at_117 rfl rfl rfl ?_
      refine oIconst C at_119 (z := 2) rfl rfl ?_
      refine oLload C at_120 rfl rfl ?_
      refine oLastore C A39l (by decide) (k := 2) rfl (v := .long 0) rfl (v' := .long (fV2_4 sh x1 x2 x3)) rfl at_122 rfl ge_a37 fun h40 W40 A40 => ?_
      have A40l : oAr Z h40 a37 .long [.long x1, .long (fV1_4 sh x1 x2), .long (fV2_4 sh x1 x2 x3), .long 0] := A40
      refine oIload C at_123 rfl rfl ?_
      refine oIconst C at_125 (z := 3) rfl rfl ?_
      refine oIcmp_le C at_126 (q := 135) (by decide) (by decide) (r := 129) rfl (fun hq => absurd hq ((by decide))) (fun hc126 => ?_)
      refine oAload C at_129 rfl rfl rfl ?_
      refine oIconst C at_131 (z := 3) rfl rfl ?_
      refine oLload C at_132 rfl rfl ?_
      refine oLastore C A40l (by decide) (k := 3) rfl (v := .long 0) rfl (v' := .long (fV3_4 sh x1 x2 x3 x4)) rfl at_134 rfl ge_a37 fun h41 W41 A41 => ?_
      have A41l : oAr Z h41 a37 .long [.long x1, .long (fV1_4 sh x1 x2), .long (fV2_4 sh x1 x2 x3), .long (fV3_4 sh x1 x2 x3 x4)] := A41
      refine oAload C at_135 rfl rfl rfl ?_
      have z42 := (Nat.le_trans (Nat.le_trans (Nat.le_trans (Nat.le_trans (Nat.le_trans Z0 E37.1) (Nat.le_of_eq W38.size.symm)) (Nat.le_of_eq W39.size.symm)) (Nat.le_of_eq W40.size.symm)) (Nat.le_of_eq W41.size.symm))
      refine oCallS C (w1 hw) (w2 hw) (w3 hw) (w4 hw) at_137 (by decide) pd_429913 rfl rfl (argsL := [.ref a37]) (rest := []) rfl (W := 0) rfl (q := 140) rfl (by decide) (by decide) (by decide) (by decide) (mt_fFL4 l Z a0 hw _ n0 z42 a37 x1 (fV1_4 sh x1 x2) (fV2_4 sh x1 x2 x3) (fV3_4 sh x1 x2 x3 x4) A41l) (oPureK ?_)
      rcases own_fl4 x1 (fV1_4 sh x1 x2) (fV2_4 sh x1 x2 x3) (fV3_4 sh x1 x2 x3 x4) with ⟨hv, k1, k2, k3⟩ | ⟨hv, k0, k2, k3⟩ | ⟨hv, k0, k1, k3⟩ | ⟨hv, k0, k1, k2⟩
      ·
       refine oCastI (z' := (0 : Int32)) hv ?_
       refine oIstore C at_140 (Ls' := #[.val (.int sh), .val (.long x1), .second, .val (.long x2), .second, .val (.long x3), .second, .val (.long x4), .second, .val (.int 4), .val (.long x1), .second, .val (.long (fV1_4 sh x1 x2)), .second, .val (.long (fV2_4 sh x1 x2 x3)), .second, .val (.long (fV3_4 sh x1 x2 x3 x4)), .second, .val (.ref a37), .val (.int 0), .unset, .unset, .unset]) rfl (q := 142) rfl ?_
       refine oIload C at_142 rfl rfl ?_
       refine oIf_lt C at_144 (q := 154) (by decide) (by decide) (r := 147) rfl (fun hq => absurd hq ((by decide))) (fun hc144 => ?_)
       refine oIload C at_147 rfl rfl ?_
       refine oIload C at_149 rfl rfl ?_
       refine oIcmp_lt C at_151 (q := 156) (by decide) (by decide) (r := 154) rfl (fun hc151 => ?_) (fun hq => absurd hq ((by decide)))
       refine oAload C at_156 rfl rfl rfl ?_
       refine oIload C at_158 rfl rfl ?_
       refine oLaload C A41l (by decide) (k := 0) rfl (v := .long x1) rfl at_160 rfl ?_
       refine oLstore C at_161 (Ls' := #[.val (.int sh), .val (.long x1), .second, .val (.long x2), .second, .val (.long x3), .second, .val (.long x4), .second, .val (.int 4), .val (.long x1), .second, .val (.long (fV1_4 sh x1 x2)), .second, .val (.long (fV2_4 sh x1 x2 x3)), .second, .val (.long (fV3_4 sh x1 x2 x3 x4)), .second, .val (.ref a37), .val (.int 0), .val (.long x1), .second, .unset]) rfl (q := 163) rfl ?_
       refine oAload C at_163 rfl rfl rfl ?_
       refine oIconst C at_165 (z := 0) rfl rfl ?_
       refine oLaload C A41l (by decide) (k := 0) rfl (v := .long x1) rfl at_166 rfl ?_
       refine oLload C at_167 rfl rfl ?_
       refine oLcmp_ne C at_169 rfl at_170 (q := 225) (by decide) (by decide) (r := 173) rfl (fun hq => absurd hq (not_not_intro rfl)) (fun hc169 => ?_)
       refine oIload C at_173 rfl rfl ?_
       refine oIconst C at_175 (z := 2) rfl rfl ?_
       refine oIcmp_lt C at_176 (q := 189) (by decide) (by decide) (r := 179) rfl (fun hq => absurd hq ((by decide))) (fun hc176 => ?_)
       refine oAload C at_179 rfl rfl rfl ?_
       refine oIconst C at_181 (z := 1) rfl rfl ?_
       refine oLaload C A41l (by decide) (k := 1) rfl (v := .long (fV1_4 sh x1 x2)) rfl at_182 rfl ?_
       refine oLload C at_183 rfl rfl ?_
       refine oLcmp_ne C at_185 rfl at_186 (q := 225) (by decide) (by decide) (r := 189) rfl (fun hq => absurd hq (not_not_intro rfl)) (fun hc185 => ?_)
       refine oIload C at_189 rfl rfl ?_
       refine oIconst C at_191 (z := 3) rfl rfl ?_
       refine oIcmp_lt C at_192 (q := 205) (by decide) (by decide) (r := 195) rfl (fun hq => absurd hq ((by decide))) (fun hc192 => ?_)
       refine oAload C at_195 rfl rfl rfl ?_
       refine oIconst C at_197 (z := 2) rfl rfl ?_
       refine oLaload C A41l (by decide) (k := 2) rfl (v := .long (fV2_4 sh x1 x2 x3)) rfl at_198 rfl ?_
       refine oLload C at_199 rfl rfl ?_
       refine oLcmp_ne C at_201 rfl at_202 (q := 225) (by decide) (by decide) (r := 205) rfl (fun hq => absurd hq (not_not_intro rfl)) (fun hc201 => ?_)
       refine oIload C at_205 rfl rfl ?_
       refine oIconst C at_207 (z := 4) rfl rfl ?_
       refine oIcmp_lt C at_208 (q := 221) (by decide) (by decide) (r := 211) rfl (fun hq => absurd hq ((by decide))) (fun hc208 => ?_)
       refine oAload C at_211 rfl rfl rfl ?_
       refine oIconst C at_213 (z := 3) rfl rfl ?_
       refine oLaload C A41l (by decide) (k := 3) rfl (v := .long (fV3_4 sh x1 x2 x3 x4)) rfl at_214 rfl ?_
       refine oLload C at_215 rfl rfl ?_
       refine oLcmp_ne C at_217 rfl at_218 (q := 225) (by decide) (by decide) (r := 221) rfl (fun hq => absurd hq (not_not_intro rfl)) (fun hc217 => ?_)
       refine oIconst C at_221 (z := 1) rfl rfl ?_
       refine oGoto C at_222 (q := 226) (by decide) (by decide) ?_
       refine oIstore C at_226 (Ls' := #[.val (.int sh), .val (.long x1), .second, .val (.long x2), .second, .val (.long x3), .second, .val (.long x4), .second, .val (.int 4), .val (.long x1), .second, .val (.long (fV1_4 sh x1 x2)), .second, .val (.long (fV2_4 sh x1 x2 x3)), .second, .val (.long (fV3_4 sh x1 x2 x3 x4)), .second, .val (.ref a37), .val (.int 0), .val (.long x1), .second, .val (.int 1)]) rfl (q := 228) rfl ?_
       refine oIload C at_228 rfl rfl ?_
       refine oIf_eq C at_230 (q := 297) (by decide) (by decide) (r := 233) rfl (fun hq => absurd hq ((by decide))) (fun hc230 => ?_)
       refine oLload C at_233 rfl rfl ?_
       refine oIconst C at_235 (z := 0) rfl rfl ?_
       refine oIload C at_236 rfl rfl ?_
       refine oIload C at_238 rfl rfl ?_
       refine oLload C at_240 rfl rfl ?_
       refine oCallS C (w5 hw) (w6 hw) (w7 hw) (w8 hw) at_242 (by decide) pd_813322 rfl rfl (argsL := [.long x1, .int 0, .int 4, .int 0, .long x1]) (rest := []) rfl (W := 0) rfl (q := 245) rfl (by decide) (by decide) (by decide) (by decide) (mt_fOk l Z a0 hw _ n0 z42 x1 (0 : Int32) (4 : Int32) (0 : Int32) x1 ) (oPureK ?_)
       refine oIf_eq C at_245 (q := 297) (by decide) (by decide) (r := 248) rfl (fun hq => absurd hq (fun q => absurd ((own_ok3 (by decide) (by decide) (own_irr _)).symm.trans q) (by decide))) (fun hc245 => ?_)
       refine oLload C at_248 rfl rfl ?_
       refine oIconst C at_250 (z := 1) rfl rfl ?_
       refine oIload C at_251 rfl rfl ?_
       refine oIload C at_253 rfl rfl ?_
       refine oLload C at_255 rfl rfl ?_
       refine oCallS C (w5 hw) (w6 hw) (w7 hw) (w8 hw) at_257 (by decide) pd_813322 rfl rfl (argsL := [.long (fV1_4 sh x1 x2), .int 1, .int 4, .int 0, .long x1]) (rest := []) rfl (W := 0) rfl (q := 260) rfl (by decide) (by decide) (by decide) (by decide) (mt_fOk l Z a0 hw _ n0 z42 (fV1_4 sh x1 x2) (1 : Int32) (4 : Int32) (0 : Int32) x1 ) (oPureK ?_)
       refine oIf_eq C at_260 (q := 297) (by decide) (by decide) (r := 263) rfl (fun hq => absurd hq (fun q => absurd ((own_ok3 (by decide) (by decide) k1).symm.trans q) (by decide))) (fun hc260 => ?_)
       refine oLload C at_263 rfl rfl ?_
       refine oIconst C at_265 (z := 2) rfl rfl ?_
       refine oIload C at_266 rfl rfl ?_
       refine oIload C at_268 rfl rfl ?_
       refine oLload C at_270 rfl rfl ?_
       refine oCallS C (w5 hw) (w6 hw) (w7 hw) (w8 hw) at_272 (by decide) pd_813322 rfl rfl (argsL := [.long (fV2_4 sh x1 x2 x3), .int 2, .int 4, .int 0, .long x1]) (rest := []) rfl (W := 0) rfl (q := 275) rfl (by decide) (by decide) (by decide) (by decide) (mt_fOk l Z a0 hw _ n0 z42 (fV2_4 sh x1 x2 x3) (2 : Int32) (4 : Int32) (0 : Int32) x1 ) (oPureK ?_)
       refine oIf_eq C at_275 (q := 297) (by decide) (by decide) (r := 278) rfl (fun hq => absurd hq (fun q => absurd ((own_ok3 (by decide) (by decide) k2).symm.trans q) (by decide))) (fun hc275 => ?_)
       refine oLload C at_278 rfl rfl ?_
       refine oIconst C at_280 (z := 3) rfl rfl ?_
       refine oIload C at_281 rfl rfl ?_
       refine oIload C at_283 rfl rfl ?_
       refine oLload C at_285 rfl rfl ?_
       refine oCallS C (w5 hw) (w6 hw) (w7 hw) (w8 hw) at_287 (by decide) pd_813322 rfl rfl (argsL := [.long (fV3_4 sh x1 x2 x3 x4), .int 3, .int 4, .int 0, .long x1]) (rest := []) rfl (W := 0) rfl (q := 290) rfl (by decide) (by decide) (by decide) (by decide) (mt_fOk l Z a0 hw _ n0 z42 (fV3_4 sh x1 x2 x3 x4) (3 : Int32) (4 : Int32) (0 : Int32) x1 ) (oPureK ?_)
       refine oIf_eq C at_290 (q := 297) (by decide) (by decide) (r := 293) rfl (fun hq => absurd hq (fun q => absurd ((own_ok3 (by decide) (by decide) k3).symm.trans q) (by decide))) (fun hc290 => ?_)
       refine oIconst C at_293 (z := 1) rfl rfl ?_
       refine oGoto C at_294 (q := 298) (by decide) (by decide) ?_
       refine oRetZ C at_298 (z' := (1 : Int32)) rfl (by decide) (by decide) ?_
       exact rfl
      ·
       refine oCastI (z' := (1 : Int32)) hv ?_
       refine oIstore C at_140 (Ls' := #[.val (.int sh), .val (.long x1), .second, .val (.long x2), .second, .val (.long x3), .second, .val (.long x4), .second, .val (.int 4), .val (.long x1), .second, .val (.long (fV1_4 sh x1 x2)), .second, .val (.long (fV2_4 sh x1 x2 x3)), .second, .val (.long (fV3_4 sh x1 x2 x3 x4)), .second, .val (.ref a37), .val (.int 1), .unset, .unset, .unset]) rfl (q := 142) rfl ?_
       refine oIload C at_142 rfl rfl ?_
       refine oIf_lt C at_144 (q := 154) (by decide) (by decide) (r := 147) rfl (fun hq => absurd hq ((by decide))) (fun hc144 => ?_)
       refine oIload C at_147 rfl rfl ?_
       refine oIload C at_149 rfl rfl ?_
       refine oIcmp_lt C at_151 (q := 156) (by decide) (by decide) (r := 154) rfl (fun hc151 => ?_) (fun hq => absurd hq ((by decide)))
       refine oAload C at_156 rfl rfl rfl ?_
       refine oIload C at_158 rfl rfl ?_
       refine oLaload C A41l (by decide) (k := 1) rfl (v := .long (fV1_4 sh x1 x2)) rfl at_160 rfl ?_
       refine oLstore C at_161 (Ls' := #[.val (.int sh), .val (.long x1), .second, .val (.long x2), .second, .val (.long x3), .second, .val (.long x4), .second, .val (.int 4), .val (.long x1), .second, .val (.long (fV1_4 sh x1 x2)), .second, .val (.long (fV2_4 sh x1 x2 x3)), .second, .val (.long (fV3_4 sh x1 x2 x3 x4)), .second, .val (.ref a37), .val (.int 1), .val (.long (fV1_4 sh x1 x2)), .second, .unset]) rfl (q := 163) rfl ?_
       refine oAload C at_163 rfl rfl rfl ?_
       refine oIconst C at_165 (z := 0) rfl rfl ?_
       refine oLaload C A41l (by decide) (k := 0) rfl (v := .long x1) rfl at_166 rfl ?_
       refine oLload C at_167 rfl rfl ?_
       refine oLcmp_ne C at_169 rfl at_170 (q := 225) (by decide) (by decide) (r := 173) rfl (fun hq => absurd hq (not_not_intro rfl)) (fun hc169 => ?_)
       refine oIload C at_173 rfl rfl ?_
       refine oIconst C at_175 (z := 2) rfl rfl ?_
       refine oIcmp_lt C at_176 (q := 189) (by decide) (by decide) (r := 179) rfl (fun hq => absurd hq ((by decide))) (fun hc176 => ?_)
       refine oAload C at_179 rfl rfl rfl ?_
       refine oIconst C at_181 (z := 1) rfl rfl ?_
       refine oLaload C A41l (by decide) (k := 1) rfl (v := .long (fV1_4 sh x1 x2)) rfl at_182 rfl ?_
       refine oLload C at_183 rfl rfl ?_
       refine oLcmp_ne C at_185 rfl at_186 (q := 225) (by decide) (by decide) (r := 189) rfl (fun hq => absurd hq (not_not_intro rfl)) (fun hc185 => ?_)
       refine oIload C at_189 rfl rfl ?_
       refine oIconst C at_191 (z := 3) rfl rfl ?_
       refine oIcmp_lt C at_192 (q := 205) (by decide) (by decide) (r := 195) rfl (fun hq => absurd hq ((by decide))) (fun hc192 => ?_)
       refine oAload C at_195 rfl rfl rfl ?_
       refine oIconst C at_197 (z := 2) rfl rfl ?_
       refine oLaload C A41l (by decide) (k := 2) rfl (v := .long (fV2_4 sh x1 x2 x3)) rfl at_198 rfl ?_
       refine oLload C at_199 rfl rfl ?_
       refine oLcmp_ne C at_201 rfl at_202 (q := 225) (by decide) (by decide) (r := 205) rfl (fun hq => absurd hq (not_not_intro rfl)) (fun hc201 => ?_)
       refine oIload C at_205 rfl rfl ?_
       refine oIconst C at_207 (z := 4) rfl rfl ?_
       refine oIcmp_lt C at_208 (q := 221) (by decide) (by decide) (r := 211) rfl (fun hq => absurd hq ((by decide))) (fun hc208 => ?_)
       refine oAload C at_211 rfl rfl rfl ?_
       refine oIconst C at_213 (z := 3) rfl rfl ?_
       refine oLaload C A41l (by decide) (k := 3) rfl (v := .long (fV3_4 sh x1 x2 x3 x4)) rfl at_214 rfl ?_
       refine oLload C at_215 rfl rfl ?_
       refine oLcmp_ne C at_217 rfl at_218 (q := 225) (by decide) (by decide) (r := 221) rfl (fun hq => absurd hq (not_not_intro rfl)) (fun hc217 => ?_)
       refine oIconst C at_221 (z := 1) rfl rfl ?_
       refine oGoto C at_222 (q := 226) (by decide) (by decide) ?_
       refine oIstore C at_226 (Ls' := #[.val (.int sh), .val (.long x1), .second, .val (.long x2), .second, .val (.long x3), .second, .val (.long x4), .second, .val (.int 4), .val (.long x1), .second, .val (.long (fV1_4 sh x1 x2)), .second, .val (.long (fV2_4 sh x1 x2 x3)), .second, .val (.long (fV3_4 sh x1 x2 x3 x4)), .second, .val (.ref a37), .val (.int 1), .val (.long (fV1_4 sh x1 x2)), .second, .val (.int 1)]) rfl (q := 228) rfl ?_
       refine oIload C at_228 rfl rfl ?_
       refine oIf_eq C at_230 (q := 297) (by decide) (by decide) (r := 233) rfl (fun hq => absurd hq ((by decide))) (fun hc230 => ?_)
       refine oLload C at_233 rfl rfl ?_
       refine oIconst C at_235 (z := 0) rfl rfl ?_
       refine oIload C at_236 rfl rfl ?_
       refine oIload C at_238 rfl rfl ?_
       refine oLload C at_240 rfl rfl ?_
       refine oCallS C (w5 hw) (w6 hw) (w7 hw) (w8 hw) at_242 (by decide) pd_813322 rfl rfl (argsL := [.long x1, .int 0, .int 4, .int 1, .long (fV1_4 sh x1 x2)]) (rest := []) rfl (W := 0) rfl (q := 245) rfl (by decide) (by decide) (by decide) (by decide) (mt_fOk l Z a0 hw _ n0 z42 x1 (0 : Int32) (4 : Int32) (1 : Int32) (fV1_4 sh x1 x2) ) (oPureK ?_)
       refine oIf_eq C at_245 (q := 297) (by decide) (by decide) (r := 248) rfl (fun hq => absurd hq (fun q => absurd ((own_ok2 (by decide) (by decide) k0).symm.trans q) (by decide))) (fun hc245 => ?_)
       refine oLload C at_248 rfl rfl ?_
       refine oIconst C at_250 (z := 1) rfl rfl ?_
       refine oIload C at_251 rfl rfl ?_
       refine oIload C at_253 rfl rfl ?_
       refine oLload C at_255 rfl rfl ?_
       refine oCallS C (w5 hw) (w6 hw) (w7 hw) (w8 hw) at_257 (by decide) pd_813322 rfl rfl (argsL := [.long (fV1_4 sh x1 x2), .int 1, .int 4, .int 1, .long (fV1_4 sh x1 x2)]) (rest := []) rfl (W := 0) rfl (q := 260) rfl (by decide) (by decide) (by decide) (by decide) (mt_fOk l Z a0 hw _ n0 z42 (fV1_4 sh x1 x2) (1 : Int32) (4 : Int32) (1 : Int32) (fV1_4 sh x1 x2) ) (oPureK ?_)
       refine oIf_eq C at_260 (q := 297) (by decide) (by decide) (r := 263) rfl (fun hq => absurd hq (fun q => absurd ((own_ok3 (by decide) (by decide) (own_irr _)).symm.trans q) (by decide))) (fun hc260 => ?_)
       refine oLload C at_263 rfl rfl ?_
       refine oIconst C at_265 (z := 2) rfl rfl ?_
       refine oIload C at_266 rfl rfl ?_
       refine oIload C at_268 rfl rfl ?_
       refine oLload C at_270 rfl rfl ?_
       refine oCallS C (w5 hw) (w6 hw) (w7 hw) (w8 hw) at_272 (by decide) pd_813322 rfl rfl (argsL := [.long (fV2_4 sh x1 x2 x3), .int 2, .int 4, .int 1, .long (fV1_4 sh x1 x2)]) (rest := []) rfl (W := 0) rfl (q := 275) rfl (by decide) (by decide) (by decide) (by decide) (mt_fOk l Z a0 hw _ n0 z42 (fV2_4 sh x1 x2 x3) (2 : Int32) (4 : Int32) (1 : Int32) (fV1_4 sh x1 x2) ) (oPureK ?_)
       refine oIf_eq C at_275 (q := 297) (by decide) (by decide) (r := 278) rfl (fun hq => absurd hq (fun q => absurd ((own_ok3 (by decide) (by decide) k2).symm.trans q) (by decide))) (fun hc275 => ?_)
       refine oLload C at_278 rfl rfl ?_
       refine oIconst C at_280 (z := 3) rfl rfl ?_
       refine oIload C at_281 rfl rfl ?_
       refine oIload C at_283 rfl rfl ?_
       refine oLload C at_285 rfl rfl ?_
       refine oCallS C (w5 hw) (w6 hw) (w7 hw) (w8 hw) at_287 (by decide) pd_813322 rfl rfl (argsL := [.long (fV3_4 sh x1 x2 x3 x4), .int 3, .int 4, .int 1, .long (fV1_4 sh x1 x2)]) (rest := []) rfl (W := 0) rfl (q := 290) rfl (by decide) (by decide) (by decide) (by decide) (mt_fOk l Z a0 hw _ n0 z42 (fV3_4 sh x1 x2 x3 x4) (3 : Int32) (4 : Int32) (1 : Int32) (fV1_4 sh x1 x2) ) (oPureK ?_)
       refine oIf_eq C at_290 (q := 297) (by decide) (by decide) (r := 293) rfl (fun hq => absurd hq (fun q => absurd ((own_ok3 (by decide) (by decide) k3).symm.trans q) (by decide))) (fun hc290 => ?_)
       refine oIconst C at_293 (z := 1) rfl rfl ?_
       refine oGoto C at_294 (q := 298) (by decide) (by decide) ?_
       refine oRetZ C at_298 (z' := (1 : Int32)) rfl (by decide) (by decide) ?_
       exact rfl
      ·
       refine oCastI (z' := (2 : Int32)) hv ?_
       refine oIstore C at_140 (Ls' := #[.val (.int sh), .val (.long x1), .second, .val (.long x2), .second, .val (.long x3), .second, .val (.long x4), .second, .val (.int 4), .val (.long x1), .second, .val (.long (fV1_4 sh x1 x2)), .second, .val (.long (fV2_4 sh x1 x2 x3)), .second, .val (.long (fV3_4 sh x1 x2 x3 x4)), .second, .val (.ref a37), .val (.int 2), .unset, .unset, .unset]) rfl (q := 142) rfl ?_
       refine oIload C at_142 rfl rfl ?_
       refine oIf_lt C at_144 (q := 154) (by decide) (by decide) (r := 147) rfl (fun hq => absurd hq ((by decide))) (fun hc144 => ?_)
       refine oIload C at_147 rfl rfl ?_
       refine oIload C at_149 rfl rfl ?_
       refine oIcmp_lt C at_151 (q := 156) (by decide) (by decide) (r := 154) rfl (fun hc151 => ?_) (fun hq => absurd hq ((by decide)))
       refine oAload C at_156 rfl rfl rfl ?_
       refine oIload C at_158 rfl rfl ?_
       refine oLaload C A41l (by decide) (k := 2) rfl (v := .long (fV2_4 sh x1 x2 x3)) rfl at_160 rfl ?_
       refine oLstore C at_161 (Ls' := #[.val (.int sh), .val (.long x1), .second, .val (.long x2), .second, .val (.long x3), .second, .val (.long x4), .second, .val (.int 4), .val (.long x1), .second, .val (.long (fV1_4 sh x1 x2)), .second, .val (.long (fV2_4 sh x1 x2 x3)), .second, .val (.long (fV3_4 sh x1 x2 x3 x4)), .second, .val (.ref a37), .val (.int 2), .val (.long (fV2_4 sh x1 x2 x3)), .second, .unset]) rfl (q := 163) rfl ?_
       refine oAload C at_163 rfl rfl rfl ?_
       refine oIconst C at_165 (z := 0) rfl rfl ?_
       refine oLaload C A41l (by decide) (k := 0) rfl (v := .long x1) rfl at_166 rfl ?_
       refine oLload C at_167 rfl rfl ?_
       refine oLcmp_ne C at_169 rfl at_170 (q := 225) (by decide) (by decide) (r := 173) rfl (fun hq => absurd hq (not_not_intro rfl)) (fun hc169 => ?_)
       refine oIload C at_173 rfl rfl ?_
       refine oIconst C at_175 (z := 2) rfl rfl ?_
       refine oIcmp_lt C at_176 (q := 189) (by decide) (by decide) (r := 179) rfl (fun hq => absurd hq ((by decide))) (fun hc176 => ?_)
       refine oAload C at_179 rfl rfl rfl ?_
       refine oIconst C at_181 (z := 1) rfl rfl ?_
       refine oLaload C A41l (by decide) (k := 1) rfl (v := .long (fV1_4 sh x1 x2)) rfl at_182 rfl ?_
       refine oLload C at_183 rfl rfl ?_
       refine oLcmp_ne C at_185 rfl at_186 (q := 225) (by decide) (by decide) (r := 189) rfl (fun hq => absurd hq (not_not_intro rfl)) (fun hc185 => ?_)
       refine oIload C at_189 rfl rfl ?_
       refine oIconst C at_191 (z := 3) rfl rfl ?_
       refine oIcmp_lt C at_192 (q := 205) (by decide) (by decide) (r := 195) rfl (fun hq => absurd hq ((by decide))) (fun hc192 => ?_)
       refine oAload C at_195 rfl rfl rfl ?_
       refine oIconst C at_197 (z := 2) rfl rfl ?_
       refine oLaload C A41l (by decide) (k := 2) rfl (v := .long (fV2_4 sh x1 x2 x3)) rfl at_198 rfl ?_
       refine oLload C at_199 rfl rfl ?_
       refine oLcmp_ne C at_201 rfl at_202 (q := 225) (by decide) (by decide) (r := 205) rfl (fun hq => absurd hq (not_not_intro rfl)) (fun hc201 => ?_)
       refine oIload C at_205 rfl rfl ?_
       refine oIconst C at_207 (z := 4) rfl rfl ?_
       refine oIcmp_lt C at_208 (q := 221) (by decide) (by decide) (r := 211) rfl (fun hq => absurd hq ((by decide))) (fun hc208 => ?_)
       refine oAload C at_211 rfl rfl rfl ?_
       refine oIconst C at_213 (z := 3) rfl rfl ?_
       refine oLaload C A41l (by decide) (k := 3) rfl (v := .long (fV3_4 sh x1 x2 x3 x4)) rfl at_214 rfl ?_
       refine oLload C at_215 rfl rfl ?_
       refine oLcmp_ne C at_217 rfl at_218 (q := 225) (by decide) (by decide) (r := 221) rfl (fun hq => absurd hq (not_not_intro rfl)) (fun hc217 => ?_)
       refine oIconst C at_221 (z := 1) rfl rfl ?_
       refine oGoto C at_222 (q := 226) (by decide) (by decide) ?_
       refine oIstore C at_226 (Ls' := #[.val (.int sh), .val (.long x1), .second, .val (.long x2), .second, .val (.long x3), .second, .val (.long x4), .second, .val (.int 4), .val (.long x1), .second, .val (.long (fV1_4 sh x1 x2)), .second, .val (.long (fV2_4 sh x1 x2 x3)), .second, .val (.long (fV3_4 sh x1 x2 x3 x4)), .second, .val (.ref a37), .val (.int 2), .val (.long (fV2_4 sh x1 x2 x3)), .second, .val (.int 1)]) rfl (q := 228) rfl ?_
       refine oIload C at_228 rfl rfl ?_
       refine oIf_eq C at_230 (q := 297) (by decide) (by decide) (r := 233) rfl (fun hq => absurd hq ((by decide))) (fun hc230 => ?_)
       refine oLload C at_233 rfl rfl ?_
       refine oIconst C at_235 (z := 0) rfl rfl ?_
       refine oIload C at_236 rfl rfl ?_
       refine oIload C at_238 rfl rfl ?_
       refine oLload C at_240 rfl rfl ?_
       refine oCallS C (w5 hw) (w6 hw) (w7 hw) (w8 hw) at_242 (by decide) pd_813322 rfl rfl (argsL := [.long x1, .int 0, .int 4, .int 2, .long (fV2_4 sh x1 x2 x3)]) (rest := []) rfl (W := 0) rfl (q := 245) rfl (by decide) (by decide) (by decide) (by decide) (mt_fOk l Z a0 hw _ n0 z42 x1 (0 : Int32) (4 : Int32) (2 : Int32) (fV2_4 sh x1 x2 x3) ) (oPureK ?_)
       refine oIf_eq C at_245 (q := 297) (by decide) (by decide) (r := 248) rfl (fun hq => absurd hq (fun q => absurd ((own_ok2 (by decide) (by decide) k0).symm.trans q) (by decide))) (fun hc245 => ?_)
       refine oLload C at_248 rfl rfl ?_
       refine oIconst C at_250 (z := 1) rfl rfl ?_
       refine oIload C at_251 rfl rfl ?_
       refine oIload C at_253 rfl rfl ?_
       refine oLload C at_255 rfl rfl ?_
       refine oCallS C (w5 hw) (w6 hw) (w7 hw) (w8 hw) at_257 (by decide) pd_813322 rfl rfl (argsL := [.long (fV1_4 sh x1 x2), .int 1, .int 4, .int 2, .long (fV2_4 sh x1 x2 x3)]) (rest := []) rfl (W := 0) rfl (q := 260) rfl (by decide) (by decide) (by decide) (by decide) (mt_fOk l Z a0 hw _ n0 z42 (fV1_4 sh x1 x2) (1 : Int32) (4 : Int32) (2 : Int32) (fV2_4 sh x1 x2 x3) ) (oPureK ?_)
       refine oIf_eq C at_260 (q := 297) (by decide) (by decide) (r := 263) rfl (fun hq => absurd hq (fun q => absurd ((own_ok2 (by decide) (by decide) k1).symm.trans q) (by decide))) (fun hc260 => ?_)
       refine oLload C at_263 rfl rfl ?_
       refine oIconst C at_265 (z := 2) rfl rfl ?_
       refine oIload C at_266 rfl rfl ?_
       refine oIload C at_268 rfl rfl ?_
       refine oLload C at_270 rfl rfl ?_
       refine oCallS C (w5 hw) (w6 hw) (w7 hw) (w8 hw) at_272 (by decide) pd_813322 rfl rfl (argsL := [.long (fV2_4 sh x1 x2 x3), .int 2, .int 4, .int 2, .long (fV2_4 sh x1 x2 x3)]) (rest := []) rfl (W := 0) rfl (q := 275) rfl (by decide) (by decide) (by decide) (by decide) (mt_fOk l Z a0 hw _ n0 z42 (fV2_4 sh x1 x2 x3) (2 : Int32) (4 : Int32) (2 : Int32) (fV2_4 sh x1 x2 x3) ) (oPureK ?_)
       refine oIf_eq C at_275 (q := 297) (by decide) (by decide) (r := 278) rfl (fun hq => absurd hq (fun q => absurd ((own_ok3 (by decide) (by decide) (own_irr _)).symm.trans q) (by decide))) (fun hc275 => ?_)
       refine oLload C at_278 rfl rfl ?_
       refine oIconst C at_280 (z := 3) rfl rfl ?_
       refine oIload C at_281 rfl rfl ?_
       refine oIload C at_283 rfl rfl ?_
       refine oLload C at_285 rfl rfl ?_
       refine oCallS C (w5 hw) (w6 hw) (w7 hw) (w8 hw) at_287 (by decide) pd_813322 rfl rfl (argsL := [.long (fV3_4 sh x1 x2 x3 x4), .int 3, .int 4, .int 2, .long (fV2_4 sh x1 x2 x3)]) (rest := []) rfl (W := 0) rfl (q := 290) rfl (by decide) (by decide) (by decide) (by decide) (mt_fOk l Z a0 hw _ n0 z42 (fV3_4 sh x1 x2 x3 x4) (3 : Int32) (4 : Int32) (2 : Int32) (fV2_4 sh x1 x2 x3) ) (oPureK ?_)
       refine oIf_eq C at_290 (q := 297) (by decide) (by decide) (r := 293) rfl (fun hq => absurd hq (fun q => absurd ((own_ok3 (by decide) (by decide) k3).symm.trans q) (by decide))) (fun hc290 => ?_)
       refine oIconst C at_293 (z := 1) rfl rfl ?_
       refine oGoto C at_294 (q := 298) (by decide) (by decide) ?_
       refine oRetZ C at_298 (z' := (1 : Int32)) rfl (by decide) (by decide) ?_
       exact rfl
      ·
       refine oCastI (z' := (3 : Int32)) hv ?_
       refine oIstore C at_140 (Ls' := #[.val (.int sh), .val (.long x1), .second, .val (.long x2), .second, .val (.long x3), .second, .val (.long x4), .second, .val (.int 4), .val (.long x1), .second, .val (.long (fV1_4 sh x1 x2)), .second, .val (.long (fV2_4 sh x1 x2 x3)), .second, .val (.long (fV3_4 sh x1 x2 x3 x4)), .second, .val (.ref a37), .val (.int 3), .unset, .unset, .unset]) rfl (q := 142) rfl ?_
       refine oIload C at_142 rfl rfl ?_
       refine oIf_lt C at_144 (q := 154) (by decide) (by decide) (r := 147) rfl (fun hq => absurd hq ((by decide))) (fun hc144 => ?_)
       refine oIload C at_147 rfl rfl ?_
       refine oIload C at_149 rfl rfl ?_
       refine oIcmp_lt C at_151 (q := 156) (by decide) (by decide) (r := 154) rfl (fun hc151 => ?_) (fun hq => absurd hq ((by decide)))
       refine oAload C at_156 rfl rfl rfl ?_
       refine oIload C at_158 rfl rfl ?_
       refine oLaload C A41l (by decide) (k := 3) rfl (v := .long (fV3_4 sh x1 x2 x3 x4)) rfl at_160 rfl ?_
       refine oLstore C at_161 (Ls' := #[.val (.int sh), .val (.long x1), .second, .val (.long x2), .second, .val (.long x3), .second, .val (.long x4), .second, .val (.int 4), .val (.long x1), .second, .val (.long (fV1_4 sh x1 x2)), .second, .val (.long (fV2_4 sh x1 x2 x3)), .second, .val (.long (fV3_4 sh x1 x2 x3 x4)), .second, .val (.ref a37), .val (.int 3), .val (.long (fV3_4 sh x1 x2 x3 x4)), .second, .unset]) rfl (q := 163) rfl ?_
       refine oAload C at_163 rfl rfl rfl ?_
       refine oIconst C at_165 (z := 0) rfl rfl ?_
       refine oLaload C A41l (by decide) (k := 0) rfl (v := .long x1) rfl at_166 rfl ?_
       refine oLload C at_167 rfl rfl ?_
       refine oLcmp_ne C at_169 rfl at_170 (q := 225) (by decide) (by decide) (r := 173) rfl (fun hq => absurd hq (not_not_intro rfl)) (fun hc169 => ?_)
       refine oIload C at_173 rfl rfl ?_
       refine oIconst C at_175 (z := 2) rfl rfl ?_
       refine oIcmp_lt C at_176 (q := 189) (by decide) (by decide) (r := 179) rfl (fun hq => absurd hq ((by decide))) (fun hc176 => ?_)
       refine oAload C at_179 rfl rfl rfl ?_
       refine oIconst C at_181 (z := 1) rfl rfl ?_
       refine oLaload C A41l (by decide) (k := 1) rfl (v := .long (fV1_4 sh x1 x2)) rfl at_182 rfl ?_
       refine oLload C at_183 rfl rfl ?_
       refine oLcmp_ne C at_185 rfl at_186 (q := 225) (by decide) (by decide) (r := 189) rfl (fun hq => absurd hq (not_not_intro rfl)) (fun hc185 => ?_)
       refine oIload C at_189 rfl rfl ?_
       refine oIconst C at_191 (z := 3) rfl rfl ?_
       refine oIcmp_lt C at_192 (q := 205) (by decide) (by decide) (r := 195) rfl (fun hq => absurd hq ((by decide))) (fun hc192 => ?_)
       refine oAload C at_195 rfl rfl rfl ?_
       refine oIconst C at_197 (z := 2) rfl rfl ?_
       refine oLaload C A41l (by decide) (k := 2) rfl (v := .long (fV2_4 sh x1 x2 x3)) rfl at_198 rfl ?_
       refine oLload C at_199 rfl rfl ?_
       refine oLcmp_ne C at_201 rfl at_202 (q := 225) (by decide) (by decide) (r := 205) rfl (fun hq => absurd hq (not_not_intro rfl)) (fun hc201 => ?_)
       refine oIload C at_205 rfl rfl ?_
       refine oIconst C at_207 (z := 4) rfl rfl ?_
       refine oIcmp_lt C at_208 (q := 221) (by decide) (by decide) (r := 211) rfl (fun hq => absurd hq ((by decide))) (fun hc208 => ?_)
       refine oAload C at_211 rfl rfl rfl ?_
       refine oIconst C at_213 (z := 3) rfl rfl ?_
       refine oLaload C A41l (by decide) (k := 3) rfl (v := .long (fV3_4 sh x1 x2 x3 x4)) rfl at_214 rfl ?_
       refine oLload C at_215 rfl rfl ?_
       refine oLcmp_ne C at_217 rfl at_218 (q := 225) (by decide) (by decide) (r := 221) rfl (fun hq => absurd hq (not_not_intro rfl)) (fun hc217 => ?_)
       refine oIconst C at_221 (z := 1) rfl rfl ?_
       refine oGoto C at_222 (q := 226) (by decide) (by decide) ?_
       refine oIstore C at_226 (Ls' := #[.val (.int sh), .val (.long x1), .second, .val (.long x2), .second, .val (.long x3), .second, .val (.long x4), .second, .val (.int 4), .val (.long x1), .second, .val (.long (fV1_4 sh x1 x2)), .second, .val (.long (fV2_4 sh x1 x2 x3)), .second, .val (.long (fV3_4 sh x1 x2 x3 x4)), .second, .val (.ref a37), .val (.int 3), .val (.long (fV3_4 sh x1 x2 x3 x4)), .second, .val (.int 1)]) rfl (q := 228) rfl ?_
       refine oIload C at_228 rfl rfl ?_
       refine oIf_eq C at_230 (q := 297) (by decide) (by decide) (r := 233) rfl (fun hq => absurd hq ((by decide))) (fun hc230 => ?_)
       refine oLload C at_233 rfl rfl ?_
       refine oIconst C at_235 (z := 0) rfl rfl ?_
       refine oIload C at_236 rfl rfl ?_
       refine oIload C at_238 rfl rfl ?_
       refine oLload C at_240 rfl rfl ?_
       refine oCallS C (w5 hw) (w6 hw) (w7 hw) (w8 hw) at_242 (by decide) pd_813322 rfl rfl (argsL := [.long x1, .int 0, .int 4, .int 3, .long (fV3_4 sh x1 x2 x3 x4)]) (rest := []) rfl (W := 0) rfl (q := 245) rfl (by decide) (by decide) (by decide) (by decide) (mt_fOk l Z a0 hw _ n0 z42 x1 (0 : Int32) (4 : Int32) (3 : Int32) (fV3_4 sh x1 x2 x3 x4) ) (oPureK ?_)
       refine oIf_eq C at_245 (q := 297) (by decide) (by decide) (r := 248) rfl (fun hq => absurd hq (fun q => absurd ((own_ok2 (by decide) (by decide) k0).symm.trans q) (by decide))) (fun hc245 => ?_)
       refine oLload C at_248 rfl rfl ?_
       refine oIconst C at_250 (z := 1) rfl rfl ?_
       refine oIload C at_251 rfl rfl ?_
       refine oIload C at_253 rfl rfl ?_
       refine oLload C at_255 rfl rfl ?_
       refine oCallS C (w5 hw) (w6 hw) (w7 hw) (w8 hw) at_257 (by decide) pd_813322 rfl rfl (argsL := [.long (fV1_4 sh x1 x2), .int 1, .int 4, .int 3, .long (fV3_4 sh x1 x2 x3 x4)]) (rest := []) rfl (W := 0) rfl (q := 260) rfl (by decide) (by decide) (by decide) (by decide) (mt_fOk l Z a0 hw _ n0 z42 (fV1_4 sh x1 x2) (1 : Int32) (4 : Int32) (3 : Int32) (fV3_4 sh x1 x2 x3 x4) ) (oPureK ?_)
       refine oIf_eq C at_260 (q := 297) (by decide) (by decide) (r := 263) rfl (fun hq => absurd hq (fun q => absurd ((own_ok2 (by decide) (by decide) k1).symm.trans q) (by decide))) (fun hc260 => ?_)
       refine oLload C at_263 rfl rfl ?_
       refine oIconst C at_265 (z := 2) rfl rfl ?_
       refine oIload C at_266 rfl rfl ?_
       refine oIload C at_268 rfl rfl ?_
       refine oLload C at_270 rfl rfl ?_
       refine oCallS C (w5 hw) (w6 hw) (w7 hw) (w8 hw) at_272 (by decide) pd_813322 rfl rfl (argsL := [.long (fV2_4 sh x1 x2 x3), .int 2, .int 4, .int 3, .long (fV3_4 sh x1 x2 x3 x4)]) (rest := []) rfl (W := 0) rfl (q := 275) rfl (by decide) (by decide) (by decide) (by decide) (mt_fOk l Z a0 hw _ n0 z42 (fV2_4 sh x1 x2 x3) (2 : Int32) (4 : Int32) (3 : Int32) (fV3_4 sh x1 x2 x3 x4) ) (oPureK ?_)
       refine oIf_eq C at_275 (q := 297) (by decide) (by decide) (r := 278) rfl (fun hq => absurd hq (fun q => absurd ((own_ok2 (by decide) (by decide) k2).symm.trans q) (by decide))) (fun hc275 => ?_)
       refine oLload C at_278 rfl rfl ?_
       refine oIconst C at_280 (z := 3) rfl rfl ?_
       refine oIload C at_281 rfl rfl ?_
       refine oIload C at_283 rfl rfl ?_
       refine oLload C at_285 rfl rfl ?_
       refine oCallS C (w5 hw) (w6 hw) (w7 hw) (w8 hw) at_287 (by decide) pd_813322 rfl rfl (argsL := [.long (fV3_4 sh x1 x2 x3 x4), .int 3, .int 4, .int 3, .long (fV3_4 sh x1 x2 x3 x4)]) (rest := []) rfl (W := 0) rfl (q := 290) rfl (by decide) (by decide) (by decide) (by decide) (mt_fOk l Z a0 hw _ n0 z42 (fV3_4 sh x1 x2 x3 x4) (3 : Int32) (4 : Int32) (3 : Int32) (fV3_4 sh x1 x2 x3 x4) ) (oPureK ?_)
       refine oIf_eq C at_290 (q := 297) (by decide) (by decide) (r := 293) rfl (fun hq => absurd hq (fun q => absurd ((own_ok3 (by decide) (by decide) (own_irr _)).symm.trans q) (by decide))) (fun hc290 => ?_)
       refine oIconst C at_293 (z := 1) rfl rfl ?_
       refine oGoto C at_294 (q := 298) (by decide) (by decide) ?_
       refine oRetZ C at_298 (z' := (1 : Int32)) rfl (by decide) (by decide) ?_
       exact rfl
     ·
      refine oIloadN C at_56 rfl rfl ?_
      refine oIconst C at_57 (z := 5) rfl rfl ?_
      refine oIshr C at_58 rfl ?_
      refine oIconst C at_59 (z := 1) rfl rfl ?_
      refine oIand C at_60 rfl ?_
      refine oIf_eq C at_61 (q := 83) (by decide) (by decide) (r := 64) rfl (fun hc61 => ?_) (fun hc61 => ?_)
      ·
       refine oLload C at_83 rfl rfl ?_
       refine oCastL (z' := (fV3_4 sh x1 x2 x3 x4)) (by rw [fV3_4_def, if_pos hc61]) ?_
       exact J85 () trivial
      ·
       refine oIloadN C at_64 rfl rfl ?_
       refine oBipush C at_65 (z := 6) rfl rfl ?_
       refine oIshr C at_67 rfl ?_
       refine oIconst C at_68 (z := 1) rfl rfl ?_
       refine oIand C at_69 rfl ?_
       refine oIf_eq C at_70 (q := 78) (by decide) (by decide) (r := 73) rfl (fun hc70 => ?_) (fun hc70 => ?_)
       ·
        refine oLload C at_78 rfl rfl ?_
        refine oGoto C at_80 (q := 85) (by decide) (by decide) ?_
        refine oCastL (z' := (fV3_4 sh x1 x2 x3 x4)) (by rw [fV3_4_def, if_neg hc61, if_pos hc70]) ?_
        exact J85 () trivial
       ·
        refine oLload C at_73 rfl rfl ?_
        refine oGoto C at_75 (q := 85) (by decide) (by decide) ?_
        refine oCastL (z' := (fV3_4 sh x1 x2 x3 x4)) (by rw [fV3_4_def, if_neg hc61, if_neg hc70]) ?_
        exact J85 () trivial
    ·
     refine oIloadN C at_26 rfl rfl ?_
     refine oIconst C at_27 (z := 3) rfl rfl ?_
     refine oIshr C at_28 rfl ?_
     refine oIconst C at_29 (z := 1) rfl rfl ?_
     refine oIand C at_30 rfl ?_
     refine oIf_eq C at_31 (q := 52) (by decide) (by decide) (r := 34) rfl (fun hc31 => ?_) (fun hc31 => ?_)
     ·
      refine oLload C at_52 rfl rfl ?_
      refine oCastL (z' := (fV2_4 sh x1 x2 x3)) (by rw [fV2_4_def, if_pos hc31]) ?_
      exact J54 () trivial
     ·
      refine oIloadN C at_34 rfl rfl ?_
      refine oIconst C at_35 (z := 4) rfl rfl ?_
      refine oIshr C at_36 rfl ?_
      refine oIconst C at_37 (z := 1) rfl rfl ?_
      refine oIand C at_38 rfl ?_
      refine oIf_eq C at_39 (q := 47) (by decide) (by decide) (r := 42) rfl (fun hc39 => ?_) (fun hc39 => ?_)
      ·
       refine oLload C at_47 rfl rfl ?_
       refine oGoto C at_49 (q := 54) (by decide) (by decide) ?_
       refine oCastL (z' := (fV2_4 sh x1 x2 x3)) (by rw [fV2_4_def, if_neg hc31, if_pos hc39]) ?_
       exact J54 () trivial
      ·
       refine oLload C at_42 rfl rfl ?_
       refine oGoto C at_44 (q := 54) (by decide) (by decide) ?_
       refine oCastL (z' := (fV2_4 sh x1 x2 x3)) (by rw [fV2_4_def, if_neg hc31, if_neg hc39]) ?_
       exact J54 () trivial
   ·
    refine oIloadN C at_10 rfl rfl ?_
    refine oIconst C at_11 (z := 2) rfl rfl ?_
    refine oIshr C at_12 rfl ?_
    refine oIconst C at_13 (z := 1) rfl rfl ?_
    refine oIand C at_14 rfl ?_
    refine oIf_eq C at_15 (q := 23) (by decide) (by decide) (r := 18) rfl (fun hc15 => ?_) (fun hc15 => ?_)
    ·
     refine oLloadN C at_23 rfl rfl ?_
     refine oCastL (z' := (fV1_4 sh x1 x2)) (by rw [fV1_4_def, if_pos hc15]) ?_
     exact J24 () trivial
    ·
     refine oLload C at_18 rfl rfl ?_
     refine oGoto C at_20 (q := 24) (by decide) (by decide) ?_
     refine oCastL (z' := (fV1_4 sh x1 x2)) (by rw [fV1_4_def, if_neg hc15]) ?_
     exact J24 () trivial
set_option maxRecDepth 65536 in
set_option maxHeartbeats 40000000 in
theorem comes_1 {Post : Tables → Env → Array Value → State → Outcome → State → Prop} (hpost : ∀ tb e args s v u, (limb_1_1.after args s (.returned v) u = true ∧ limb_1_2.after args s (.returned v) u = true ∧ True) → FrameEnd s (.returned v) u (Jvm.fieldLocs frame_1_writes args s ++ Jvm.arrayLocs frame_1_arrays args s ++ Jvm.staticLocs frame_1_statics s) 16 128 → Post tb e args s (.returned v) u) :
    ArmFor flags0 classFile x code maxLocals ret World_1 tables_1 room_1 Calls_1 rest_1 Pre_1 Post := by
  intro l hfl _ _ p e ha hc hk s m args below hf hA hF happ hP
  obtain ⟨hcalls, hrest, hpre⟩ := hP
  obtain ⟨-, -, -, hnamed, -, -, -, hat⟩ := (Spec.applies_iff hf).mp happ
  obtain ⟨hg, hn⟩ := and_e (Cond.before_iff.mp (show (Jvm.Cond.and given_1 narrow_1).before args s = true from hpre))
  obtain ⟨h1, k0⟩ := and_e hg
  obtain ⟨c0, k1⟩ := and_e k0
  obtain ⟨c1, k2⟩ := and_e k1
  obtain ⟨c2, k3⟩ := and_e k2
  obtain ⟨c3, k4⟩ := and_e k3
  obtain ⟨v0, v1, v2, v3, v4, rfl⟩ : ∃ v0 v1 v2 v3 v4 : Value, args = #[v0, v1, v2, v3, v4] := by
    have hs : args.size = 5 := by simpa [Cond.value, given_1] using h1
    obtain ⟨L⟩ := args
    match L, hs with
    | [v0, v1, v2, v3, v4], _ => exact ⟨v0, v1, v2, v3, v4, rfl⟩
  have hw := fun d (hd : d ∈ tables_1) => atoms_spec (ws := Jvm.Cond.code x code maxLocals ret :: tables_1) hat d (List.mem_cons_of_mem _ hd)
  have hfit : Fit s := fun {y c} hc i hi => by
    obtain ⟨ha, rfl⟩ := Array.getElem?_eq_some_iff.mp hc
    have q := List.all_eq_true.mp ((Array.all_eq_true_iff_forall_mem.mp hF) _ (Array.getElem_mem ha)) i (List.mem_range.mpr hi)
    simpa [Array.getElem?_eq_getElem hi] using q
  obtain ⟨i0, e0⟩ := is_v c0
  obtain rfl : v0 = (.int i0) := Option.some.inj e0
  obtain ⟨i1, e1⟩ := isL_v c1
  obtain rfl : v1 = (.long i1) := Option.some.inj e1
  obtain ⟨i2, e2⟩ := isL_v c2
  obtain rfl : v2 = (.long i2) := Option.some.inj e2
  obtain ⟨i3, e3⟩ := isL_v c3
  obtain rfl : v3 = (.long i3) := Option.some.inj e3
  obtain ⟨i4, e4⟩ := isL_v k4
  obtain rfl : v4 = (.long i4) := Option.some.inj e4
  obtain ⟨n, o, h1, h2, h3, _, L, rfl, ⟨N, rfl⟩, hq⟩ := mt_law l s _ hw s.heap s.heap.size (Nat.le_refl _) i0 i1 i2 i3 i4  p e ha hc hk s m _ below hf ((Spec.applies_iff_loose hf).mp happ).1 ⟨rfl, State.Warmed39.refl s, rfl⟩ trivial
  refine ⟨n, _, h1, h2, h3, hpost _ _ _ _ _ _ ⟨Cond.after_iff.mpr rfl, Cond.after_iff.mpr (eq_i res_at (Term.int_eval (1)) rfl), trivial⟩ ⟨hq.1, hq.2.1, (hq.2.2.sift fun y hy => Or.inr (N y hy)).mono (by decide) (by decide)⟩⟩
theorem main_1_1 : Claimed_1_1 := comes_1 fun _ _ _ _ _ _ h hF => ⟨h.1, hF⟩
theorem main_1_2 : Claimed_1_2 := comes_1 fun _ _ _ _ _ _ h hF => ⟨h.2.1, hF⟩
end Jvm.Pilot.@@N@@
namespace Jvm.Pilot.@@N@@
open Jvm Jvm.ClassFile Sem Op Lib Jvm.Free Jvm.Stand Jvm.Pilot.@@N@@.Jvm.D
/-! MADE BY PROGRAM (witnessworld.py) out of the Statement's table words and the real class files: 11 classes; the members and pool entries that the words name. The judged class is class 1, her method 1. -/
namespace start1
open Jvm.ClassFile
def u (s : String) : CpInfo := .utf8 (stringToUtf16 s)
/-- a pool by its gaps: so many unusable entries, then the entry; so many at the end -/
def gap : Nat → List CpInfo → List CpInfo
  | 0, r => r
  | n + 1, r => .unusable :: gap n r
def poolList (es : List (Nat × CpInfo)) (last : Nat) : List CpInfo := es.foldr (fun e r => gap e.1 (e.2 :: r)) (gap last [])
def pool (es : List (Nat × CpInfo)) (last : Nat) : Array CpInfo := ⟨poolList es last⟩
def fileOf (pool : Array CpInfo) (this : Nat) (attrs : Array Attribute := #[]) (ms : Array MethodInfo := #[]) (fl : Nat := 33) (sup : Nat := 0) (ifs : Array Nat := #[]) (fds : Array FieldInfo := #[]) : ClassFile where
  minorVersion := 0
  majorVersion := 65
  constantPool := pool
  accessFlags := fl
  thisClass := this
  superClass := sup
  interfaces := ifs
  fields := fds
  methods := ms
  attributes := attrs
def plain (name : String) (sup : Option ClassId) : Class where
  name := name
  kind := .ordinary
  loader := none
  accessFlags := 33
  super := sup
  interfaces := #[]
  cf := none
  fields := #[]
  methods := #[]
  instanceTypes := #[]
  staticTypes := #[]
  resolved := #[]
  callSites := []
  init := .initialized
  statics := none
  mirror := none

def pool0 : Array CpInfo := pool [(5, u "<init>"), (0, u "()V"), (1, .class_ 10), (1, u "java/lang/Object")] 113

def k0m0 : Method := { name := "<init>", desc := "()V", sig := { parameters := [], returnType := none }, accessFlags := 1, code := none }
/-- java/lang/Object -/
def k0 : Class := { plain "java/lang/Object" none with
  accessFlags := 33
  interfaces := #[]
  cf := some (fileOf pool0 8 #[] #[{ accessFlags := 1, nameIndex := 5, descriptorIndex := 6, attributes := #[] }] 33 0 #[] #[])
  fields := #[]
  methods := #[k0m0]
  instanceTypes := #[]
  staticTypes := #[]
  resolved := Array.replicate 124 none
  statics := none }

def pool1 : Array CpInfo := pool [(2, .class_ 4), (1, u "java/lang/Object"), (0, u "<init>"), (0, u "()V"), (0, .methodref 8 9), (0, .class_ 10), (0, .nameAndType 11 12), (0, u "com/example/gavel/gavel/CandidateSums"), (0, u "firstLargest"), (0, u "([J)I"), (0, .methodref 14 15), (0, .class_ 16), (0, .nameAndType 17 18), (0, u "com/example/gavel/gavel/CandidateSumsFirstLargestPinLaw"), (0, u "ok"), (0, u "(JIIIJ)Z"), (2, u "law"), (0, u "(IJJJJ)Z")] 5

def k1m0 : Method := { name := "<init>", desc := "()V", sig := { parameters := [], returnType := none }, accessFlags := 1, code := none }
def k1c1 : Code := { maxStack := 7, maxLocals := 23, code := code, exceptionTable := #[], attributes := #[] }
def k1m1 : Method := { name := "law", desc := "(IJJJJ)Z", sig := { parameters := [.int, .long, .long, .long, .long], returnType := some .boolean }, accessFlags := 9, code := some k1c1 }
def k1c2 : Code := { maxStack := 4, maxLocals := 7, code := method_3_code, exceptionTable := #[], attributes := #[] }
def k1m2 : Method := { name := "ok", desc := "(JIIIJ)Z", sig := { parameters := [.long, .int, .int, .int, .long], returnType := some .boolean }, accessFlags := 10, code := some k1c2 }
/-- com/example/gavel/gavel/CandidateSumsFirstLargestPinLaw -/
def k1 : Class := { plain "com/example/gavel/gavel/CandidateSumsFirstLargestPinLaw" (some 0) with
  accessFlags := 49
  interfaces := #[]
  cf := some (fileOf pool1 14 #[] #[{ accessFlags := 1, nameIndex := 5, descriptorIndex := 6, attributes := #[] }, { accessFlags := 9, nameIndex := 21, descriptorIndex := 22, attributes := #[] }, { accessFlags := 10, nameIndex := 17, descriptorIndex := 18, attributes := #[] }] 49 2 #[] #[])
  fields := #[]
  methods := #[k1m0, k1m1, k1m2]
  instanceTypes := #[]
  staticTypes := #[]
  resolved := Array.replicate 28 none
  statics := none }

def pool2 : Array CpInfo := pool [(2, .class_ 4), (1, u "java/lang/Object"), (3, .class_ 10), (1, u "com/example/gavel/gavel/CandidateSums"), (0, u "candidates"), (0, u "[J"), (2, u "constantSteps"), (2, u "slopeSteps"), (42, u "firstLargest"), (0, u "([J)I")] 2

def k2c0 : Code := { maxStack := 4, maxLocals := 3, code := prog_15_method_9_code, exceptionTable := #[], attributes := #[] }
def k2m0 : Method := { name := "firstLargest", desc := "([J)I", sig := { parameters := [(.array .long)], returnType := some .int }, accessFlags := 8, code := some k2c0 }
/-- com/example/gavel/gavel/CandidateSums -/
def k2 : Class := { plain "com/example/gavel/gavel/CandidateSums" (some 0) with
  accessFlags := 48
  interfaces := #[]
  cf := some (fileOf pool2 8 #[] #[{ accessFlags := 8, nameIndex := 61, descriptorIndex := 62, attributes := #[] }] 48 2 #[] #[{ accessFlags := 18, nameIndex := 11, descriptorIndex := 12, attributes := #[] }, { accessFlags := 18, nameIndex := 15, descriptorIndex := 12, attributes := #[] }, { accessFlags := 18, nameIndex := 18, descriptorIndex := 12, attributes := #[] }])
  fields := #[{ name := "candidates", type := (.array .long), accessFlags := 18, slot := 0, constantValue := 0 }, { name := "constantSteps", type := (.array .long), accessFlags := 18, slot := 1, constantValue := 0 }, { name := "slopeSteps", type := (.array .long), accessFlags := 18, slot := 2, constantValue := 0 }]
  methods := #[k2m0]
  instanceTypes := #[(.array .long), (.array .long), (.array .long)]
  staticTypes := #[]
  resolved := Array.replicate 65 none
  statics := none }

def pool3 : Array CpInfo := pool [(1, u "java/lang/Cloneable"), (0, .class_ 1), (0, u "java/lang/Object"), (0, .class_ 3)] 3

/-- java/lang/Cloneable -/
def k3 : Class := { plain "java/lang/Cloneable" (some 0) with
  accessFlags := 1537
  interfaces := #[]
  cf := some (fileOf pool3 2 #[] #[] 1537 4 #[] #[])
  fields := #[]
  methods := #[]
  instanceTypes := #[]
  staticTypes := #[]
  resolved := Array.replicate 8 none
  statics := none }

def pool4 : Array CpInfo := pool [(1, u "java/io/Serializable"), (0, .class_ 1), (0, u "java/lang/Object"), (0, .class_ 3)] 3

/-- java/io/Serializable -/
def k4 : Class := { plain "java/io/Serializable" (some 0) with
  accessFlags := 1537
  interfaces := #[]
  cf := some (fileOf pool4 2 #[] #[] 1537 4 #[] #[])
  fields := #[]
  methods := #[]
  instanceTypes := #[]
  staticTypes := #[]
  resolved := Array.replicate 8 none
  statics := none }

/-- the primitive byte -/
def k5 : Class := { plain "byte" none with kind := .primitive 'B', accessFlags := 0x411 }
/-- [B -/
def k6 : Class := { plain "[B" (some 0) with kind := .array 5 .byte, interfaces := #[3, 4], accessFlags := 1041 }

/-- the primitive int -/
def k7 : Class := { plain "int" none with kind := .primitive 'I', accessFlags := 0x411 }
/-- [I -/
def k8 : Class := { plain "[I" (some 0) with kind := .array 7 .int, interfaces := #[3, 4], accessFlags := 1041 }

/-- the primitive long -/
def k9 : Class := { plain "long" none with kind := .primitive 'J', accessFlags := 0x411 }
/-- [J -/
def k10 : Class := { plain "[J" (some 0) with kind := .array 9 .long, interfaces := #[3, 4], accessFlags := 1041 }

def heap : Heap := #[]
def classes : Array Class := #[k0, k1, k2, k3, k4, k5, k6, k7, k8, k9, k10]
def interned : List (Array UInt16 × Addr) := []
def slotsUsed : Nat := 0
def theMethod : MethodId := ⟨1, 1⟩
def args0 : Array Value := #[.int 5, .long 9, .long 9, .long 9, .long 9]
def aboutOver (below : List Frame) : State where
  vm := { classes := classes, interned := interned.toArray }
  heap := heap
  slotsUsed := slotsUsed
  threads := #[{ frames := .invoking theMethod args0 :: below }]
def below0 : List Frame := [.native { method := ⟨0, 0⟩, args := #[] }]
def about1 : State := aboutOver below0
def p0 : Program := .bare "" "" ""
def e0 : Env := launch0.env 0 0 0
theorem w_frames : about1.frames = Frame.invoking theMethod args0 :: below0 := rfl
set_option maxRecDepth 65536 in
theorem w_args : argsFit about1.vm theMethod args0 = true := by decide +kernel
set_option maxRecDepth 65536 in
theorem w_heap : heapFits about1 = true := by decide +kernel
set_option maxRecDepth 65536 in
theorem w_runnable : about1.curStatus? = some .runnable := by decide +kernel
set_option maxRecDepth 65536 in
theorem w_alone : about1.alone = true := by decide +kernel
set_option maxRecDepth 65536 in
theorem w_named : about1.methodNamed? x = some theMethod := by decide +kernel
set_option maxRecDepth 65536 in
theorem w_hears : about1.hears theMethod below0 = true := by decide +kernel
set_option maxRecDepth 65536 in
theorem w_ripe : about1.ripe theMethod args0 below0 = true := by decide +kernel
theorem w_running : about1.status = .running := rfl
set_option maxRecDepth 65536 in
theorem w_room : about1.hasRoom e0.platform room_1 = true :=
  launch0.hasRoom_least _ room_1 (by decide +kernel) (by decide +kernel) (by decide +kernel) (by decide +kernel) (by decide +kernel) (by decide +kernel)
theorem allAtoms_all (ts : List Jvm.Cond) (a : Array Jvm.Value) (st : Jvm.State) : (allAtoms ts).before a st = ts.all (fun c => c.before a st) := by
  induction ts with
  | nil => rfl
  | cons c t ih =>
    show (Jvm.Cond.and c (allAtoms t)).before a st = _
    rw [Jvm.Cond.before_and, ih, List.all_cons]
def words1 : List Jvm.Cond := Jvm.Cond.code x code maxLocals ret :: tables_1
/-- a 'code' word, met by the world's own term for the bytes: nothing is compared byte by byte -/
theorem code_word {y : MethodName} {bytes : ByteArray} {mx : Nat} {rt : Option FieldType} {a : Array Value} {s : State} {m : MethodId} {meth : Method} {c : Code} (h1 : s.methodNamed? y = some m) (h2 : s.vm.method? m = some meth) (h3 : meth.code = some c) (h4 : c.code = bytes)
    (h5 : (c.maxLocals == mx && c.exceptionTable.isEmpty && decide (c.maxStack ≤ mostOperands) && decide (meth.sig.returnType = rt) && !meth.locks && decide (parseMethodDescriptor y.desc = some meth.sig)) = true) : (Jvm.Cond.code y bytes mx rt).before a s = true := by
  simp only [Bool.and_eq_true, beq_iff_eq, Bool.not_eq_true', decide_eq_true_eq] at h5
  obtain ⟨⟨⟨⟨⟨g1, g2⟩, g3⟩, g4⟩, g5⟩, g6⟩ := h5
  simp [Cond.before, Cond.holds, Cond.value, h1, h2, h3, h4, g1, g2, g3, g4, g5, g6]
def isCode : Jvm.Cond → Bool
  | .code _ _ _ _ => true
  | _ => false
theorem all_split {L : List Jvm.Cond} {P : Jvm.Cond → Bool} (h1 : L.all (fun c => isCode c || P c) = true) (h2 : ∀ c ∈ L.filter isCode, P c = true) : L.all P = true := by
  refine List.all_eq_true.mpr fun c hc => ?_
  have h := List.all_eq_true.mp h1 c hc
  rcases Bool.eq_false_or_eq_true (isCode c) with hi | hi
  · exact h2 c (List.mem_filter.mpr ⟨hc, hi⟩)
  · simpa [hi] using h
set_option maxRecDepth 65536 in
theorem w_c0 : (Jvm.Cond.code x code maxLocals ret).before args0 about1 = true := code_word (m := ⟨1, 1⟩) (meth := k1m1) (c := k1c1) (by decide +kernel) rfl rfl rfl (by decide +kernel)
set_option maxRecDepth 65536 in
theorem w_c1 : (Jvm.Cond.code ({ cls := "com/example/gavel/gavel/CandidateSums", name := "firstLargest", desc := "([J)I" } : Jvm.MethodName) prog_15_method_9_code (3 : Nat) (Option.some Jvm.ClassFile.FieldType.int)).before args0 about1 = true := code_word (m := ⟨2, 0⟩) (meth := k2m0) (c := k2c0) (by decide +kernel) rfl rfl rfl (by decide +kernel)
set_option maxRecDepth 65536 in
theorem w_c2 : (Jvm.Cond.code ({ cls := "com/example/gavel/gavel/CandidateSumsFirstLargestPinLaw", name := "ok", desc := "(JIIIJ)Z" } : Jvm.MethodName) method_3_code (7 : Nat) (Option.some Jvm.ClassFile.FieldType.boolean)).before args0 about1 = true := code_word (m := ⟨1, 2⟩) (meth := k1m2) (c := k1c2) (by decide +kernel) rfl rfl rfl (by decide +kernel)
def codes1 : List Jvm.Cond := [Jvm.Cond.code x code maxLocals ret, Jvm.Cond.code ({ cls := "com/example/gavel/gavel/CandidateSums", name := "firstLargest", desc := "([J)I" } : Jvm.MethodName) prog_15_method_9_code (3 : Nat) (Option.some Jvm.ClassFile.FieldType.int), Jvm.Cond.code ({ cls := "com/example/gavel/gavel/CandidateSumsFirstLargestPinLaw", name := "ok", desc := "(JIIIJ)Z" } : Jvm.MethodName) method_3_code (7 : Nat) (Option.some Jvm.ClassFile.FieldType.boolean)]
set_option maxRecDepth 65536 in
theorem codes_eq : words1.filter isCode = codes1 := rfl
theorem w_codes : ∀ c ∈ words1.filter isCode, c.before args0 about1 = true := by
  rw [codes_eq]
  intro c hc
  simp only [codes1, List.mem_cons, List.not_mem_nil, or_false] at hc
  rcases hc with rfl | rfl | rfl
  · exact w_c0
  · exact w_c1
  · exact w_c2
set_option maxRecDepth 65536 in
theorem w_t1 : words1.all (fun c => isCode c || c.before args0 about1) = true := by decide +kernel
theorem w_tables : (allAtoms (Jvm.Cond.code x code maxLocals ret :: tables_1)).before args0 about1 = true := by
  rw [allAtoms_all]
  show words1.all (fun c => c.before args0 about1) = true
  refine all_split ?_ w_codes
  rw [w_t1]
set_option maxRecDepth 65536 in
theorem w_case : (Jvm.Cond.and given_1 narrow_1).before args0 about1 = true := by decide +kernel
theorem w_applies : (headSpec (Jvm.Cond.code x code maxLocals ret :: tables_1) room_1).applies x e0.platform about1 = true :=
  (Spec.applies_iff w_frames).mpr ⟨w_running, w_runnable, w_alone, w_named, w_hears, w_ripe, w_room, w_tables⟩
theorem atStart : AtStart classFile x code maxLocals ret World_1 tables_1 room_1 Calls_1 rest_1 Pre_1 launch0 p0 e0 about1 theMethod args0 below0 :=
  ⟨lists_1, trivial, launch0.admits_env _ _ _, launch0.least_env, fairChoices_fair.cas, fairChoices_fair.clock, w_frames, w_args, w_heap, w_applies, trivial, trivial, w_case⟩
end start1
theorem witness_1 : WitnessClaimed_1 := ⟨start1.p0, start1.e0, start1.about1, start1.theMethod, start1.args0, start1.below0, start1.atStart⟩
end Jvm.Pilot.@@N@@
