import JvmDerived
import JvmDerived.Pilot.@@N@@Statement
import JvmDerived.Pilot.@@N@@Code
set_option linter.unusedVariables false
set_option linter.unusedSimpArgs false
namespace Jvm.RoadKit
open Sem ClassFile Op Lib Jvm.Stand Jvm.Free Jvm.LawKit
section New
variable {p : Program} {l : Launch} {e : Env} {R : Room} {s : State} {m : MethodId} {args : Array Value} {below : List Frame} {meth : Method} {c : Code} {T : State} {locs : List Loc} {cells slots : Nat}
end New
end Jvm.RoadKit
namespace Jvm.Pilot.@@N@@
open Jvm Jvm.ClassFile Sem Op Lib Jvm.Free Jvm.Stand Jvm.LawKit Jvm.RoadKit Bundle Jvm.Pilot.@@N@@.Jvm.D
section Own
variable {p : Program} {l : Launch} {e : Env} {R : Room} {s : State} {m : MethodId} {args : Array Value} {below : List Frame} {meth : Method} {c : Code} {bs : ByteArray} {ml : Nat} {own nm : String} {rt : Option FieldType} {Z : State} {F : State → Outcome → Prop} {n0 : Nat} {h h' : Heap} {cells slots : Nat} {pc q : Nat} {Ls Ls' : Array Slot} {st : List Value} {a0 : Array Value}
def oCx (p : Program) (s : State) (m : MethodId) (meth : Method) (c : Code) (bs : ByteArray) (ml : Nat) (own nm : String) (rt : Option FieldType) (Z : State) : Prop :=
  p.tables.exec = Jvm.exec ∧ c.code = bs ∧ c.maxLocals = ml ∧ s.vm.findClass own = some m.cls ∧ Z.Warmed39 s.vm ∧ meth.name = nm ∧ meth.sig.returnType = rt ∧ meth.locks = false
def oW (p : Program) (l : Launch) (e : Env) (R : Room) (s : State) (m : MethodId) (args : Array Value) (below : List Frame) (meth : Method) (c : Code) (F : State → Outcome → Prop) (n0 : Nat) (h : Heap) (cells slots : Nat) (f : JFrame) : Prop :=
  ∀ (T : State) (locs : List Loc), Stand p l e R s m args below meth c T locs cells slots → T.heap = h → Fr n0 locs → ∃ s₂ o, Steps p.tables e below (T.setTop f) s₂ ∧ s₂.status = .running ∧ Ended s₂ below o ∧ F s₂ o
def oFin (s : State) (n0 k n : Nat) (Q : Option Value → Heap → Prop) (s₂ : State) (o : Outcome) : Prop := ∃ v L, o = .returned v ∧ (Fr n0 L ∧ Q v s₂.heap) ∧ FrameEnd s o s₂ L k n
def oMet (l : Launch) (Z : State) (y : MethodName) (bs : ByteArray) (ml : Nat) (rt : Option FieldType) (ws : List Jvm.Cond) (R : Room) (k n n0 : Nat) (as' : Array Value) (h0 : Heap) (Q : Option Value → Heap → Prop) : Prop :=
  MetFree l y (head1 (Jvm.Cond.code y bs ml rt :: ws) R) (fun a U => a = as' ∧ Z.Warmed39 U.vm ∧ U.heap = h0) (fun _ _ _ _ _ => True) (fun _ U o U' => ∃ v L, o = .returned v ∧ (Fr n0 L ∧ Q v U'.heap) ∧ FrameEnd U o U' L k n)
theorem oMet.intro {y : MethodName} {ws : List Jvm.Cond} {k n : Nat} {as' : Array Value} {h0 : Heap} {Q : Option Value → Heap → Prop} (pn : plainFor y = true) (ef : ∀ m, entryFrame m as' ml = mkF m 0 Ls [])
    (body : ∀ (p : Program) (e : Env) (s : State) (m : MethodId) (below : List Frame) (meth : Method) (c : Code), oCx p s m meth c bs ml y.cls y.name rt Z → oW p l e R s m as' below meth c (oFin s n0 k n Q) n0 h0 0 0 (mkF m 0 Ls [])) :
    oMet l Z y bs ml rt ws R k n n0 as' h0 Q := by
  refine MetFree.of_bodySF pn hisR ?_
  intro p e s m args below meth c s₁ Bd hml0 hP hK
  obtain ⟨rfl, hZ, hh⟩ := hP
  have e0 : s₁.heap = h0 := by rw [← hh, Bd.state]; rfl
  have C : oCx p s m meth c bs ml y.cls y.name rt Z := ⟨Bd.exec, Bd.bytes, hml0, findClass_of_methodNamed Bd.named, hZ, (name_of_methodNamed Bd.named Bd.method).1, Bd.returns, Bd.notSynchronized⟩
  obtain ⟨s₂, o, h1, h2, h3, h4⟩ := body p e s m below meth c C s₁ [] (Stand.of_body Bd) e0 (Fr.nil n0)
  exact ⟨s₂, o, castTop (ef m) h1, h2, h3, h4⟩
theorem oMet.mono {y : MethodName} {ws : List Jvm.Cond} {k n : Nat} {as' : Array Value} {h0 : Heap} {Q Q' : Option Value → Heap → Prop} (M : oMet l Z y bs ml rt ws R k n n0 as' h0 Q) (hq : ∀ v h, Q v h → Q' v h) : oMet l Z y bs ml rt ws R k n n0 as' h0 Q' := by
  intro p e ha hc hk s m args below hf happ hP hK
  obtain ⟨n', o, h1, h2, h3, v, L, h4, ⟨h5, h6⟩, h7⟩ := M p e ha hc hk s m args below hf happ hP hK
  exact ⟨n', o, h1, h2, h3, v, L, h4, ⟨h5, hq _ _ h6⟩, h7⟩
theorem oW.of {f f' : JFrame} (k : ∀ (T : State) (locs : List Loc), Stand p l e R s m args below meth c T locs cells slots → ∀ t, Steps p.tables e below (T.setTop f') t → Steps p.tables e below (T.setTop f) t)
    (g : oW p l e R s m args below meth c F n0 h cells slots f') : oW p l e R s m args below meth c F n0 h cells slots f := fun T locs X eT N => by
  obtain ⟨s₂, o, h1, h2⟩ := g T locs X eT N
  exact ⟨s₂, o, k T locs X _ h1, h2⟩
theorem oW.to {f f' : JFrame} (k : ∀ (T : State) (locs : List Loc), Stand p l e R s m args below meth c T locs cells slots → T.heap = h → ∃ T', Stand p l e R s m args below meth c T' locs cells slots ∧ T'.heap = h ∧ ∀ t, Steps p.tables e below (T'.setTop f') t → Steps p.tables e below (T.setTop f) t)
    (g : oW p l e R s m args below meth c F n0 h cells slots f') : oW p l e R s m args below meth c F n0 h cells slots f := fun T locs X eT N => by
  obtain ⟨T', X', eT', k'⟩ := k T locs X eT
  obtain ⟨s₂, o, h1, h2⟩ := g T' locs X' eT' N
  exact ⟨s₂, o, k' _ h1, h2⟩
theorem oIloadN (C : oCx p s m meth c bs ml own nm rt Z) {k : Fin 4} {v : Int32} (hd : decode bs pc = .ok (.iload_n k, 1)) (hl : Ls[k.val]? = some (.val (.int v))) (hq : pc + 1 = q) (g : oW p l e R s m args below meth c F n0 h cells slots (mkF m q Ls (.int v :: st))) : oW p l e R s m args below meth c F n0 h cells slots (mkF m pc Ls (st)) := by
  subst hq; exact oW.of (fun T locs X t k => XS.iloadN X.here C.1 rfl (hb C.2.1 hd) hl k) g
theorem oIload (C : oCx p s m meth c bs ml own nm rt Z) {k : Nat} {v : Int32} (hd : decode bs pc = .ok (.iload k, 2)) (hl : Ls[k]? = some (.val (.int v))) (hq : pc + 2 = q) (g : oW p l e R s m args below meth c F n0 h cells slots (mkF m q Ls (.int v :: st))) : oW p l e R s m args below meth c F n0 h cells slots (mkF m pc Ls (st)) := by
  subst hq; exact oW.of (fun T locs X t k => XS.iload X.here C.1 rfl (hb C.2.1 hd) hl k) g
theorem oLloadN (C : oCx p s m meth c bs ml own nm rt Z) {k : Fin 4} {v : Int64} (hd : decode bs pc = .ok (.lload_n k, 1)) (hl : Ls[k.val]? = some (.val (.long v))) (hq : pc + 1 = q) (g : oW p l e R s m args below meth c F n0 h cells slots (mkF m q Ls (.long v :: st))) : oW p l e R s m args below meth c F n0 h cells slots (mkF m pc Ls (st)) := by
  subst hq; exact oW.of (fun T locs X t k => XS.lloadN X.here C.1 rfl (hb C.2.1 hd) hl k) g
theorem oLload (C : oCx p s m meth c bs ml own nm rt Z) {k : Nat} {v : Int64} (hd : decode bs pc = .ok (.lload k, 2)) (hl : Ls[k]? = some (.val (.long v))) (hq : pc + 2 = q) (g : oW p l e R s m args below meth c F n0 h cells slots (mkF m q Ls (.long v :: st))) : oW p l e R s m args below meth c F n0 h cells slots (mkF m pc Ls (st)) := by
  subst hq; exact oW.of (fun T locs X t k => XS.lload X.here C.1 rfl (hb C.2.1 hd) hl k) g
theorem oAloadN (C : oCx p s m meth c bs ml own nm rt Z) {k : Fin 4} {v : Value} (hd : decode bs pc = .ok (.aload_n k, 1)) (hl : Ls[k.val]? = some (.val v)) (hv : v.isRef = true) (hq : pc + 1 = q) (g : oW p l e R s m args below meth c F n0 h cells slots (mkF m q Ls (v :: st))) : oW p l e R s m args below meth c F n0 h cells slots (mkF m pc Ls (st)) := by
  subst hq; exact oW.of (fun T locs X t k => XS.aloadN X.here C.1 rfl (hb C.2.1 hd) hl hv k) g
theorem oAload (C : oCx p s m meth c bs ml own nm rt Z) {k : Nat} {v : Value} (hd : decode bs pc = .ok (.aload k, 2)) (hl : Ls[k]? = some (.val v)) (hv : v.isRef = true) (hq : pc + 2 = q) (g : oW p l e R s m args below meth c F n0 h cells slots (mkF m q Ls (v :: st))) : oW p l e R s m args below meth c F n0 h cells slots (mkF m pc Ls (st)) := by
  subst hq; exact oW.of (fun T locs X t k => XS.aload X.here C.1 rfl (hb C.2.1 hd) hl hv k) g
theorem oIstoreN (C : oCx p s m meth c bs ml own nm rt Z) {k : Fin 4} {v : Int32} (hd : decode bs pc = .ok (.istore_n k, 1)) (hl : storeLocals Ls k.val (.int v) = some Ls') (hq : pc + 1 = q) (g : oW p l e R s m args below meth c F n0 h cells slots (mkF m q Ls' (st))) : oW p l e R s m args below meth c F n0 h cells slots (mkF m pc Ls (.int v :: st)) := by
  subst hq; exact oW.of (fun T locs X t k => XS.istoreN X.here C.1 rfl (hb C.2.1 hd) rfl hl k) g
theorem oIstore (C : oCx p s m meth c bs ml own nm rt Z) {k : Nat} {v : Int32} (hd : decode bs pc = .ok (.istore k, 2)) (hl : storeLocals Ls k (.int v) = some Ls') (hq : pc + 2 = q) (g : oW p l e R s m args below meth c F n0 h cells slots (mkF m q Ls' (st))) : oW p l e R s m args below meth c F n0 h cells slots (mkF m pc Ls (.int v :: st)) := by
  subst hq; exact oW.of (fun T locs X t k => XS.istore X.here C.1 rfl (hb C.2.1 hd) rfl hl k) g
theorem oLstore (C : oCx p s m meth c bs ml own nm rt Z) {k : Nat} {v : Int64} (hd : decode bs pc = .ok (.lstore k, 2)) (hl : storeLocals Ls k (.long v) = some Ls') (hq : pc + 2 = q) (g : oW p l e R s m args below meth c F n0 h cells slots (mkF m q Ls' (st))) : oW p l e R s m args below meth c F n0 h cells slots (mkF m pc Ls (.long v :: st)) := by
  subst hq; exact oW.of (fun T locs X t k => XS.lstore X.here C.1 rfl (hb C.2.1 hd) rfl hl k) g
theorem oAstore (C : oCx p s m meth c bs ml own nm rt Z) {k : Nat} {v : Value} (hd : decode bs pc = .ok (.astore k, 2)) (hv : v.isRef = true) (hl : storeLocals Ls k v = some Ls') (hq : pc + 2 = q) (g : oW p l e R s m args below meth c F n0 h cells slots (mkF m q Ls' (st))) : oW p l e R s m args below meth c F n0 h cells slots (mkF m pc Ls (v :: st)) := by
  subst hq; exact oW.of (fun T locs X t k => XS.astore X.here C.1 rfl (hb C.2.1 hd) rfl hv hl k) g
theorem oIconst (C : oCx p s m meth c bs ml own nm rt Z) {i : Int} {z : Int32} (hd : decode bs pc = .ok (.iconst i, 1)) (hz : Int32.ofInt i = z) (hq : pc + 1 = q) (g : oW p l e R s m args below meth c F n0 h cells slots (mkF m q Ls (.int z :: st))) : oW p l e R s m args below meth c F n0 h cells slots (mkF m pc Ls (st)) := by
  subst hq; exact oW.of (fun T locs X t k => XS.iconst X.here C.1 rfl (hb C.2.1 hd) (hz ▸ k)) g
theorem oBipush (C : oCx p s m meth c bs ml own nm rt Z) {i : Int} {z : Int32} (hd : decode bs pc = .ok (.bipush i, 2)) (hz : (Int8.ofInt i).toInt32 = z) (hq : pc + 2 = q) (g : oW p l e R s m args below meth c F n0 h cells slots (mkF m q Ls (.int z :: st))) : oW p l e R s m args below meth c F n0 h cells slots (mkF m pc Ls (st)) := by
  subst hq; exact oW.of (fun T locs X t k => XS.bipush X.here C.1 rfl (hb C.2.1 hd) (hz ▸ k)) g
theorem oLconst (C : oCx p s m meth c bs ml own nm rt Z) {i : Fin 2} {z : Int64} (hd : decode bs pc = .ok (.lconst i, 1)) (hz : Int64.ofNat i = z) (hq : pc + 1 = q) (g : oW p l e R s m args below meth c F n0 h cells slots (mkF m q Ls (.long z :: st))) : oW p l e R s m args below meth c F n0 h cells slots (mkF m pc Ls (st)) := by
  subst hq; exact oW.of (fun T locs X t k => XS.lconst X.here C.1 rfl (hb C.2.1 hd) (hz ▸ k)) g
theorem oIadd (C : oCx p s m meth c bs ml own nm rt Z) {x y : Int32} (hd : decode bs pc = .ok (.iadd, 1)) (hq : pc + 1 = q) (g : oW p l e R s m args below meth c F n0 h cells slots (mkF m q Ls (.int (x + y) :: st))) : oW p l e R s m args below meth c F n0 h cells slots (mkF m pc Ls (.int y :: .int x :: st)) := by
  subst hq; exact oW.of (fun T locs X t k => XS.iadd X.here C.1 rfl (hb C.2.1 hd) rfl k) g
theorem oLsub (C : oCx p s m meth c bs ml own nm rt Z) {x y : Int64} (hd : decode bs pc = .ok (.lsub, 1)) (hq : pc + 1 = q) (g : oW p l e R s m args below meth c F n0 h cells slots (mkF m q Ls (.long (x - y) :: st))) : oW p l e R s m args below meth c F n0 h cells slots (mkF m pc Ls (.long y :: .long x :: st)) := by
  subst hq; exact oW.of (fun T locs X t k => XS.lsub X.here C.1 rfl (hb C.2.1 hd) rfl k) g
theorem oIand (C : oCx p s m meth c bs ml own nm rt Z) {x y : Int32} (hd : decode bs pc = .ok (.iand, 1)) (hq : pc + 1 = q) (g : oW p l e R s m args below meth c F n0 h cells slots (mkF m q Ls (.int (x &&& y) :: st))) : oW p l e R s m args below meth c F n0 h cells slots (mkF m pc Ls (.int y :: .int x :: st)) := by
  subst hq; exact oW.of (fun T locs X t k => XS.iand X.here C.1 rfl (hb C.2.1 hd) rfl k) g
theorem oIushr (C : oCx p s m meth c bs ml own nm rt Z) {x y : Int32} (hd : decode bs pc = .ok (.iushr, 1)) (hq : pc + 1 = q) (g : oW p l e R s m args below meth c F n0 h cells slots (mkF m q Ls (.int ((x.toUInt32 >>> (y &&& 31).toUInt32).toInt32) :: st))) : oW p l e R s m args below meth c F n0 h cells slots (mkF m pc Ls (.int y :: .int x :: st)) := by
  subst hq; exact oW.of (fun T locs X t k => XS.iushr X.here C.1 rfl (hb C.2.1 hd) rfl k) g
theorem oI2L (C : oCx p s m meth c bs ml own nm rt Z) {x : Int32} (hd : decode bs pc = .ok (.i2l, 1)) (hq : pc + 1 = q) (g : oW p l e R s m args below meth c F n0 h cells slots (mkF m q Ls (.long (x.toInt64) :: st))) : oW p l e R s m args below meth c F n0 h cells slots (mkF m pc Ls (.int x :: st)) := by
  subst hq; exact oW.of (fun T locs X t k => XS.i2l X.here C.1 rfl (hb C.2.1 hd) rfl k) g
theorem oDup (C : oCx p s m meth c bs ml own nm rt Z) {x : Value} (hd : decode bs pc = .ok (.dup, 1)) (hc : x.category = 1) (hq : pc + 1 = q) (g : oW p l e R s m args below meth c F n0 h cells slots (mkF m q Ls (x :: x :: st))) : oW p l e R s m args below meth c F n0 h cells slots (mkF m pc Ls (x :: st)) := by
  subst hq; exact oW.of (fun T locs X t k => XS.dup X.here C.1 rfl (hb C.2.1 hd) rfl hc k) g
theorem oGoto (C : oCx p s m meth c bs ml own nm rt Z) {o : Int} (hd : decode bs pc = .ok (.goto o, 3)) (ho : 0 ≤ (pc : Int) + o) (hp : ((pc : Int) + o).toNat = q) (g : oW p l e R s m args below meth c F n0 h cells slots (mkF m q Ls (st))) : oW p l e R s m args below meth c F n0 h cells slots (mkF m pc Ls (st)) :=
  oW.of (fun T locs X t k => XS.goto X.here C.1 rfl (pc0 := pc) rfl (hb C.2.1 hd) ho hp k) g
theorem oIf_eq (C : oCx p s m meth c bs ml own nm rt Z) {x : Int32} {o : Int} {r : Nat} (hd : decode bs pc = .ok (.ifCond .eq o, 3)) (ho : 0 ≤ (pc : Int) + o) (hp : ((pc : Int) + o).toNat = q) (hr : pc + 3 = r) (gy : x = 0 → oW p l e R s m args below meth c F n0 h cells slots (mkF m q Ls (st))) (gn : ¬ x = 0 → oW p l e R s m args below meth c F n0 h cells slots (mkF m r Ls (st))) : oW p l e R s m args below meth c F n0 h cells slots (mkF m pc Ls (.int x :: st)) := by
  subst hr
  by_cases hc : x = 0
  · exact oW.of (fun T locs X t k => XS.ifYes X.here C.1 rfl (pc0 := pc) rfl (hb C.2.1 hd) rfl ((if0 _ _).trans (teq hc).1) ho hp k) (gy hc)
  · exact oW.of (fun T locs X t k => XS.ifNo X.here C.1 rfl (hb C.2.1 hd) rfl ((if0 _ _).trans (feq hc).1) k) (gn hc)
theorem oIcmp_ne (C : oCx p s m meth c bs ml own nm rt Z) {x y : Int32} {o : Int} {r : Nat} (hd : decode bs pc = .ok (.if_icmp .ne o, 3)) (ho : 0 ≤ (pc : Int) + o) (hp : ((pc : Int) + o).toNat = q) (hr : pc + 3 = r) (gy : ¬ x = y → oW p l e R s m args below meth c F n0 h cells slots (mkF m q Ls (st))) (gn : x = y → oW p l e R s m args below meth c F n0 h cells slots (mkF m r Ls (st))) : oW p l e R s m args below meth c F n0 h cells slots (mkF m pc Ls (.int y :: .int x :: st)) := by
  subst hr
  by_cases hc : x = y
  · exact oW.of (fun T locs X t k => XS.icmpNo X.here C.1 rfl (hb C.2.1 hd) rfl (teq hc).2 k) (gn hc)
  · exact oW.of (fun T locs X t k => XS.icmpYes X.here C.1 rfl (pc0 := pc) rfl (hb C.2.1 hd) rfl (feq hc).2 ho hp k) (gy hc)
theorem oIf_ne (C : oCx p s m meth c bs ml own nm rt Z) {x : Int32} {o : Int} {r : Nat} (hd : decode bs pc = .ok (.ifCond .ne o, 3)) (ho : 0 ≤ (pc : Int) + o) (hp : ((pc : Int) + o).toNat = q) (hr : pc + 3 = r) (gy : ¬ x = 0 → oW p l e R s m args below meth c F n0 h cells slots (mkF m q Ls (st))) (gn : x = 0 → oW p l e R s m args below meth c F n0 h cells slots (mkF m r Ls (st))) : oW p l e R s m args below meth c F n0 h cells slots (mkF m pc Ls (.int x :: st)) := by
  subst hr
  by_cases hc : x = 0
  · exact oW.of (fun T locs X t k => XS.ifNo X.here C.1 rfl (hb C.2.1 hd) rfl ((if0 _ _).trans (teq hc).2) k) (gn hc)
  · exact oW.of (fun T locs X t k => XS.ifYes X.here C.1 rfl (pc0 := pc) rfl (hb C.2.1 hd) rfl ((if0 _ _).trans (feq hc).2) ho hp k) (gy hc)
theorem oIcmp_lt (C : oCx p s m meth c bs ml own nm rt Z) {x y : Int32} {o : Int} {r : Nat} (hd : decode bs pc = .ok (.if_icmp .lt o, 3)) (ho : 0 ≤ (pc : Int) + o) (hp : ((pc : Int) + o).toNat = q) (hr : pc + 3 = r) (gy : x < y → oW p l e R s m args below meth c F n0 h cells slots (mkF m q Ls (st))) (gn : ¬ x < y → oW p l e R s m args below meth c F n0 h cells slots (mkF m r Ls (st))) : oW p l e R s m args below meth c F n0 h cells slots (mkF m pc Ls (.int y :: .int x :: st)) := by
  subst hr
  by_cases hc : x < y
  · exact oW.of (fun T locs X t k => XS.icmpYes X.here C.1 rfl (pc0 := pc) rfl (hb C.2.1 hd) rfl (tlt hc).1 ho hp k) (gy hc)
  · exact oW.of (fun T locs X t k => XS.icmpNo X.here C.1 rfl (hb C.2.1 hd) rfl (flt hc).1 k) (gn hc)
theorem oIf_lt (C : oCx p s m meth c bs ml own nm rt Z) {x : Int32} {o : Int} {r : Nat} (hd : decode bs pc = .ok (.ifCond .lt o, 3)) (ho : 0 ≤ (pc : Int) + o) (hp : ((pc : Int) + o).toNat = q) (hr : pc + 3 = r) (gy : x < 0 → oW p l e R s m args below meth c F n0 h cells slots (mkF m q Ls (st))) (gn : ¬ x < 0 → oW p l e R s m args below meth c F n0 h cells slots (mkF m r Ls (st))) : oW p l e R s m args below meth c F n0 h cells slots (mkF m pc Ls (.int x :: st)) := by
  subst hr
  by_cases hc : x < 0
  · exact oW.of (fun T locs X t k => XS.ifYes X.here C.1 rfl (pc0 := pc) rfl (hb C.2.1 hd) rfl ((if0 _ _).trans (tlt hc).1) ho hp k) (gy hc)
  · exact oW.of (fun T locs X t k => XS.ifNo X.here C.1 rfl (hb C.2.1 hd) rfl ((if0 _ _).trans (flt hc).1) k) (gn hc)
theorem oLcmp_lt (C : oCx p s m meth c bs ml own nm rt Z) {x y : Int64} {o : Int} {pd r : Nat} (hd0 : decode bs pc = .ok (.lcmp, 1)) (hq0 : pc + 1 = pd) (hd : decode bs pd = .ok (.ifCond .lt o, 3)) (ho : 0 ≤ (pd : Int) + o) (hp : ((pd : Int) + o).toNat = q) (hr : pd + 3 = r) (gy : x < y → oW p l e R s m args below meth c F n0 h cells slots (mkF m q Ls (st))) (gn : ¬ x < y → oW p l e R s m args below meth c F n0 h cells slots (mkF m r Ls (st))) : oW p l e R s m args below meth c F n0 h cells slots (mkF m pc Ls (.long y :: .long x :: st)) := by
  subst hq0
  refine oW.of (fun T locs X t k => XS.lcmp X.here C.1 rfl (hb C.2.1 hd0) rfl k) ?_
  exact oIf_lt C hd ho hp hr (fun w => gy ((lw_lt x y).mp w)) (fun w => gn (fun u => w ((lw_lt x y).mpr u)))
theorem oIcmp_ge (C : oCx p s m meth c bs ml own nm rt Z) {x y : Int32} {o : Int} {r : Nat} (hd : decode bs pc = .ok (.if_icmp .ge o, 3)) (ho : 0 ≤ (pc : Int) + o) (hp : ((pc : Int) + o).toNat = q) (hr : pc + 3 = r) (gy : ¬ x < y → oW p l e R s m args below meth c F n0 h cells slots (mkF m q Ls (st))) (gn : x < y → oW p l e R s m args below meth c F n0 h cells slots (mkF m r Ls (st))) : oW p l e R s m args below meth c F n0 h cells slots (mkF m pc Ls (.int y :: .int x :: st)) := by
  subst hr
  by_cases hc : x < y
  · exact oW.of (fun T locs X t k => XS.icmpNo X.here C.1 rfl (hb C.2.1 hd) rfl (tlt hc).2.1 k) (gn hc)
  · exact oW.of (fun T locs X t k => XS.icmpYes X.here C.1 rfl (pc0 := pc) rfl (hb C.2.1 hd) rfl (flt hc).2.1 ho hp k) (gy hc)
theorem oIf_ge (C : oCx p s m meth c bs ml own nm rt Z) {x : Int32} {o : Int} {r : Nat} (hd : decode bs pc = .ok (.ifCond .ge o, 3)) (ho : 0 ≤ (pc : Int) + o) (hp : ((pc : Int) + o).toNat = q) (hr : pc + 3 = r) (gy : ¬ x < 0 → oW p l e R s m args below meth c F n0 h cells slots (mkF m q Ls (st))) (gn : x < 0 → oW p l e R s m args below meth c F n0 h cells slots (mkF m r Ls (st))) : oW p l e R s m args below meth c F n0 h cells slots (mkF m pc Ls (.int x :: st)) := by
  subst hr
  by_cases hc : x < 0
  · exact oW.of (fun T locs X t k => XS.ifNo X.here C.1 rfl (hb C.2.1 hd) rfl ((if0 _ _).trans (tlt hc).2.1) k) (gn hc)
  · exact oW.of (fun T locs X t k => XS.ifYes X.here C.1 rfl (pc0 := pc) rfl (hb C.2.1 hd) rfl ((if0 _ _).trans (flt hc).2.1) ho hp k) (gy hc)
theorem oLcmp_ge (C : oCx p s m meth c bs ml own nm rt Z) {x y : Int64} {o : Int} {pd r : Nat} (hd0 : decode bs pc = .ok (.lcmp, 1)) (hq0 : pc + 1 = pd) (hd : decode bs pd = .ok (.ifCond .ge o, 3)) (ho : 0 ≤ (pd : Int) + o) (hp : ((pd : Int) + o).toNat = q) (hr : pd + 3 = r) (gy : ¬ x < y → oW p l e R s m args below meth c F n0 h cells slots (mkF m q Ls (st))) (gn : x < y → oW p l e R s m args below meth c F n0 h cells slots (mkF m r Ls (st))) : oW p l e R s m args below meth c F n0 h cells slots (mkF m pc Ls (.long y :: .long x :: st)) := by
  subst hq0
  refine oW.of (fun T locs X t k => XS.lcmp X.here C.1 rfl (hb C.2.1 hd0) rfl k) ?_
  exact oIf_ge C hd ho hp hr (fun w => gy (fun u => w ((lw_lt x y).mpr u))) (fun w => gn ((lw_lt x y).mp w))
theorem oIf_gt (C : oCx p s m meth c bs ml own nm rt Z) {x : Int32} {o : Int} {r : Nat} (hd : decode bs pc = .ok (.ifCond .gt o, 3)) (ho : 0 ≤ (pc : Int) + o) (hp : ((pc : Int) + o).toNat = q) (hr : pc + 3 = r) (gy : 0 < x → oW p l e R s m args below meth c F n0 h cells slots (mkF m q Ls (st))) (gn : ¬ 0 < x → oW p l e R s m args below meth c F n0 h cells slots (mkF m r Ls (st))) : oW p l e R s m args below meth c F n0 h cells slots (mkF m pc Ls (.int x :: st)) := by
  subst hr
  by_cases hc : 0 < x
  · exact oW.of (fun T locs X t k => XS.ifYes X.here C.1 rfl (pc0 := pc) rfl (hb C.2.1 hd) rfl ((if0 _ _).trans (tlt hc).2.2.1) ho hp k) (gy hc)
  · exact oW.of (fun T locs X t k => XS.ifNo X.here C.1 rfl (hb C.2.1 hd) rfl ((if0 _ _).trans (flt hc).2.2.1) k) (gn hc)
theorem oLcmp_gt (C : oCx p s m meth c bs ml own nm rt Z) {x y : Int64} {o : Int} {pd r : Nat} (hd0 : decode bs pc = .ok (.lcmp, 1)) (hq0 : pc + 1 = pd) (hd : decode bs pd = .ok (.ifCond .gt o, 3)) (ho : 0 ≤ (pd : Int) + o) (hp : ((pd : Int) + o).toNat = q) (hr : pd + 3 = r) (gy : y < x → oW p l e R s m args below meth c F n0 h cells slots (mkF m q Ls (st))) (gn : ¬ y < x → oW p l e R s m args below meth c F n0 h cells slots (mkF m r Ls (st))) : oW p l e R s m args below meth c F n0 h cells slots (mkF m pc Ls (.long y :: .long x :: st)) := by
  subst hq0
  refine oW.of (fun T locs X t k => XS.lcmp X.here C.1 rfl (hb C.2.1 hd0) rfl k) ?_
  exact oIf_gt C hd ho hp hr (fun w => gy ((lw_gt x y).mp w)) (fun w => gn (fun u => w ((lw_gt x y).mpr u)))
theorem oIf_le (C : oCx p s m meth c bs ml own nm rt Z) {x : Int32} {o : Int} {r : Nat} (hd : decode bs pc = .ok (.ifCond .le o, 3)) (ho : 0 ≤ (pc : Int) + o) (hp : ((pc : Int) + o).toNat = q) (hr : pc + 3 = r) (gy : ¬ 0 < x → oW p l e R s m args below meth c F n0 h cells slots (mkF m q Ls (st))) (gn : 0 < x → oW p l e R s m args below meth c F n0 h cells slots (mkF m r Ls (st))) : oW p l e R s m args below meth c F n0 h cells slots (mkF m pc Ls (.int x :: st)) := by
  subst hr
  by_cases hc : 0 < x
  · exact oW.of (fun T locs X t k => XS.ifNo X.here C.1 rfl (hb C.2.1 hd) rfl ((if0 _ _).trans (tlt hc).2.2.2) k) (gn hc)
  · exact oW.of (fun T locs X t k => XS.ifYes X.here C.1 rfl (pc0 := pc) rfl (hb C.2.1 hd) rfl ((if0 _ _).trans (flt hc).2.2.2) ho hp k) (gy hc)
theorem oLcmp_le (C : oCx p s m meth c bs ml own nm rt Z) {x y : Int64} {o : Int} {pd r : Nat} (hd0 : decode bs pc = .ok (.lcmp, 1)) (hq0 : pc + 1 = pd) (hd : decode bs pd = .ok (.ifCond .le o, 3)) (ho : 0 ≤ (pd : Int) + o) (hp : ((pd : Int) + o).toNat = q) (hr : pd + 3 = r) (gy : ¬ y < x → oW p l e R s m args below meth c F n0 h cells slots (mkF m q Ls (st))) (gn : y < x → oW p l e R s m args below meth c F n0 h cells slots (mkF m r Ls (st))) : oW p l e R s m args below meth c F n0 h cells slots (mkF m pc Ls (.long y :: .long x :: st)) := by
  subst hq0
  refine oW.of (fun T locs X t k => XS.lcmp X.here C.1 rfl (hb C.2.1 hd0) rfl k) ?_
  exact oIf_le C hd ho hp hr (fun w => gy (fun u => w ((lw_gt x y).mpr u))) (fun w => gn ((lw_gt x y).mp w))
theorem oLdc2 (C : oCx p s m meth c bs ml own nm rt Z) {i : Nat} {v : Int64} (w : (Jvm.Cond.constantLong own i v).before a0 Z = true) (hd : decode bs pc = .ok (.ldc2_w i, 3)) (hq : pc + 3 = q) (g : oW p l e R s m args below meth c F n0 h cells slots (mkF m q Ls (.long v :: st))) : oW p l e R s m args below meth c F n0 h cells slots (mkF m pc Ls st) := by
  subst hq; exact oW.of (fun T locs X t k => X.ldc2Long C.1 C.2.2.2.1 (mvT C.2.2.2.2.1 w) (g := mkF m pc Ls st) rfl (hb C.2.1 hd) t k) g
section Rets
variable {k n : Nat} {Q : Option Value → Heap → Prop} {rt' : FieldType}
theorem oRetN (C : oCx p s m meth c bs ml own nm (some rt') Z) (ht : rt' = .boolean ∨ rt' = .byte ∨ rt' = .char ∨ rt' = .short) {z z' : Int32} (hd : decode bs pc = .ok (.ireturn, 1)) (hz : nar rt' z = z') (hk : cells ≤ k) (hn : slots ≤ n) (hQ : Q (some (.int z')) h) :
    oW p l e R s m args below meth c (oFin s n0 k n Q) n0 h cells slots (mkF m pc Ls (.int z :: st)) := fun T locs X eT N => by
  subst hz eT
  obtain ⟨fs, hr, hrun, hended, hW, hsame⟩ := X.leave (v := some (.int (nar rt' z))) (fun hh => by rw [C.2.2.2.2.2.2.1] at hh; cases hh) C.2.2.2.2.2.2.2
  exact ⟨_, _, retN X C.1 C.2.2.2.2.2.2.1 ht (hb C.2.1 hd) hr, hrun, hended, _, _, rfl, ⟨N, hQ⟩, ⟨_, rfl⟩, hW, hsame.mono hk hn⟩
theorem oRetZ (C : oCx p s m meth c bs ml own nm (some .boolean) Z) {z z' : Int32} (hd : decode bs pc = .ok (.ireturn, 1)) (hz : nar .boolean z = z') (hk : cells ≤ k) (hn : slots ≤ n) (hQ : Q (some (.int z')) h) :
    oW p l e R s m args below meth c (oFin s n0 k n Q) n0 h cells slots (mkF m pc Ls (.int z :: st)) := oRetN C (Or.inl rfl) hd hz hk hn hQ
theorem oRetL (C : oCx p s m meth c bs ml own nm (some .long) Z) {z : Int64} (hd : decode bs pc = .ok (.lreturn, 1)) (hk : cells ≤ k) (hn : slots ≤ n) (hQ : Q (some (.long z)) h) :
    oW p l e R s m args below meth c (oFin s n0 k n Q) n0 h cells slots (mkF m pc Ls [.long z]) := fun T locs X eT N => by
  subst eT
  obtain ⟨fs, hr, hrun, hended, hW, hsame⟩ := X.leave (v := some (.long z)) (fun hh => by rw [C.2.2.2.2.2.2.1] at hh; cases hh) C.2.2.2.2.2.2.2
  exact ⟨_, _, X.lreturnOut C.1 C.2.2.2.2.2.2.1 (hb C.2.1 hd) hr, hrun, hended, _, _, rfl, ⟨N, hQ⟩, ⟨_, rfl⟩, hW, hsame.mono hk hn⟩
theorem oRetV (C : oCx p s m meth c bs ml own nm none Z) (hd : decode bs pc = .ok (.return_, 1)) (hk : cells ≤ k) (hn : slots ≤ n) (hQ : Q none h) :
    oW p l e R s m args below meth c (oFin s n0 k n Q) n0 h cells slots (mkF m pc Ls []) := fun T locs X eT N => by
  subst eT
  obtain ⟨fs, hr, hrun, hended, hW, hsame⟩ := X.leave (v := none) (fun _ => rfl) C.2.2.2.2.2.2.2
  exact ⟨_, _, X.returnOut C.1 C.2.2.2.2.2.2.1 (hb C.2.1 hd) hr, hrun, hended, _, _, rfl, ⟨N, hQ⟩, ⟨_, rfl⟩, hW, hsame.mono hk hn⟩
end Rets
section Calls
variable {i : Nat} {y : MethodName} {bs' : ByteArray} {ml' : Nat} {rt' : Option FieldType} {R' : Room} {Q : Option Value → Heap → Prop} {argsL rest : List Value} {ps : List FieldType} {r' : Option FieldType} {W : Nat} {a : Addr}
theorem oCallS (C : oCx p s m meth c bs ml own nm rt Z) (w1 : (Jvm.Cond.methodLink own i y).before a0 Z = true) (w2 : (Jvm.Cond.static y).before a0 Z = true) (w3 : (Jvm.Cond.initialized y.cls).before a0 Z = true) (w4 : (Jvm.Cond.code y bs' ml' rt').before a0 Z = true) (hd : decode bs pc = .ok (.invokestatic i, 3))
    (hy : y.cls ≠ "java/lang/invoke/MethodHandle" ∧ y.cls ≠ "java/lang/invoke/VarHandle") (hpd : parseMethodDescriptor y.desc = some ⟨ps, r'⟩) (hlen : argsL.length = ps.length) (hsz : Ls.size = ml) (hst : argsL.reverse ++ rest = st) (hW : (rest.map fun v => v.category).sum = W) (hq : pc + 3 = q)
    (hf : R'.frames + 1 ≤ R.frames) (hl : W + (ml' + 11) + R'.locals ≤ R.locals) (hc : cells + R'.cells ≤ R.cells) (hs : slots + R'.slots ≤ R.slots)
    (M : oMet l Z y bs' ml' rt' [] R' R'.cells R'.slots n0 argsL.toArray h Q)
    (g : ∀ v h', Q v h' → oW p l e R s m args below meth c F n0 h' (cells + R'.cells) (slots + R'.slots) (mkF m q Ls (v.toList ++ rest))) :
    oW p l e R s m args below meth c F n0 h cells slots (mkF m pc Ls st) := fun T locs X eT N => by
  subst hq hst
  have hZ := C.2.2.2.2.1
  obtain ⟨v, _, ⟨T', L', k', n'⟩, -, X', ⟨Lc, ⟨hN, hQ⟩, l', y', z'⟩, st'⟩ := Jvm.LawKit.callS X C.1 (y := y) C.2.2.2.1 (mvT hZ w1) (mvT hZ w2) (mvT hZ w3) (mvT hZ w4) hy (backOf (W := W) (Q := fun v h L => Fr n0 L ∧ Q v h) M hZ w4 w3 hf hl) (g := mkF m pc Ls (argsL.reverse ++ rest)) rfl (hsz.trans C.2.2.1.symm) (argsL := argsL) (rest := rest) (lenOf hpd hlen) rfl (by show 2 * 0 + _ ≤ _; omega) (hb C.2.1 hd) (fun _ _ => ⟨rfl, eT, hc, hs⟩)
  dsimp only [Pt.U, Pt.locs, Pt.cells, Pt.slots] at X' l' y' z' st' hQ
  subst l' y' z'
  obtain ⟨s₂, o, h1, h2⟩ := g v T'.heap hQ T' _ X' rfl (Fr.app N hN)
  exact ⟨s₂, o, st' _ h1, h2⟩
theorem oCallC (C : oCx p s m meth c bs ml own nm rt Z) (w1 : (Jvm.Cond.methodLink own i y).before a0 Z = true) (w2 : (Jvm.Cond.instanceMethod y).before a0 Z = true) (w3 : (Jvm.Cond.initialized y.cls).before a0 Z = true) (w4 : (Jvm.Cond.code y bs' ml' none).before a0 Z = true) (hd : decode bs pc = .ok (.invokespecial i, 3))
    (hn : y.name = "<init>") (hy : y.cls ≠ "java/lang/invoke/MethodHandle" ∧ y.cls ≠ "java/lang/invoke/VarHandle") (hpd : parseMethodDescriptor y.desc = some ⟨ps, r'⟩) (hlen : argsL.length = ps.length) (hsz : Ls.size = ml) (hst : argsL.reverse ++ .ref a :: rest = st) (hW : (rest.map fun v => v.category).sum = W) (hq : pc + 3 = q)
    (hf : R'.frames + 1 ≤ R.frames) (hl : W + (ml' + 11) + R'.locals ≤ R.locals) (hc : cells + R'.cells ≤ R.cells) (hs : slots + R'.slots ≤ R.slots)
    (M : oMet l Z y bs' ml' none [] R' R'.cells R'.slots n0 (.ref a :: argsL).toArray h Q)
    (g : ∀ v h', Q v h' → oW p l e R s m args below meth c F n0 h' (cells + R'.cells) (slots + R'.slots) (mkF m q Ls (v.toList ++ rest))) :
    oW p l e R s m args below meth c F n0 h cells slots (mkF m pc Ls st) := fun T locs X eT N => by
  subst hq hst
  have hZ := C.2.2.2.2.1
  obtain ⟨v, _, ⟨T', L', k', n'⟩, -, X', ⟨Lc, ⟨hN, hQ⟩, l', y', z'⟩, st'⟩ := X.specialBack C.1 (y := y) hn C.2.2.2.1 (mvT hZ w1) (mvT hZ w2) (mvT hZ w4) hy (backOf (W := W) (Q := fun v h L => Fr n0 L ∧ Q v h) M hZ w4 w3 hf hl) (g := mkF m pc Ls (argsL.reverse ++ .ref a :: rest)) rfl (hsz.trans C.2.2.1.symm) (Steps.refl _) (a := a) (argsL := argsL) (rest := rest) (lenOf hpd hlen) rfl (by show 2 * 0 + _ ≤ _; omega) (hb C.2.1 hd) (fun _ _ => ⟨rfl, eT, hc, hs⟩)
  dsimp only [Pt.U, Pt.locs, Pt.cells, Pt.slots] at X' l' y' z' st' hQ
  subst l' y' z'
  obtain ⟨s₂, o, h1, h2⟩ := g v T'.heap hQ T' _ X' rfl (Fr.app N hN)
  exact ⟨s₂, o, st'.trans h1, h2⟩
theorem oCallV (C : oCx p s m meth c bs ml own nm rt Z) (w1 : (Jvm.Cond.methodLink own i y).before a0 Z = true) (w5 : (Jvm.Cond.declares y).before a0 Z = true) (w6 : (Jvm.Cond.selects y.cls y y).before a0 Z = true) (w2 : (Jvm.Cond.instanceMethod y).before a0 Z = true) (w3 : (Jvm.Cond.initialized y.cls).before a0 Z = true) (w4 : (Jvm.Cond.code y bs' ml' rt').before a0 Z = true) (hd : decode bs pc = .ok (.invokevirtual i, 3))
    (E : Exa Z h a y.cls) (hy : y.cls ≠ "java/lang/invoke/MethodHandle" ∧ y.cls ≠ "java/lang/invoke/VarHandle") (hpd : parseMethodDescriptor y.desc = some ⟨ps, r'⟩) (hlen : argsL.length = ps.length) (hsz : Ls.size = ml) (hst : argsL.reverse ++ .ref a :: rest = st) (hW : (rest.map fun v => v.category).sum = W) (hq : pc + 3 = q)
    (hf : R'.frames + 1 ≤ R.frames) (hl : W + (ml' + 11) + R'.locals ≤ R.locals) (hc : cells + R'.cells ≤ R.cells) (hs : slots + R'.slots ≤ R.slots)
    (M : oMet l Z y bs' ml' rt' [] R' R'.cells R'.slots n0 (.ref a :: argsL).toArray h Q)
    (g : ∀ v h', Q v h' → oW p l e R s m args below meth c F n0 h' (cells + R'.cells) (slots + R'.slots) (mkF m q Ls (v.toList ++ rest))) :
    oW p l e R s m args below meth c F n0 h cells slots (mkF m pc Ls st) := fun T locs X eT N => by
  subst hq hst
  have hZ := C.2.2.2.2.1
  obtain ⟨cq, kq, qa, qb, qc⟩ := isOf hZ eT E
  obtain ⟨v, _, ⟨T', L', k', n'⟩, -, X', ⟨Lc, ⟨hN, hQ⟩, l', y', z'⟩, st'⟩ := X.virtualBack C.1 (y := y) (z := y) C.2.2.2.1 (mvT hZ w1) (mvT hZ w5) (notFace_of_selects (args := #[]) (mvT hZ w6)) (mvT hZ w6) (mvT hZ w2) hy (backOf (W := W) (Q := fun v h L => Fr n0 L ∧ Q v h) M hZ w4 w3 hf hl) qa qc (g := mkF m pc Ls (argsL.reverse ++ .ref a :: rest)) rfl (hsz.trans C.2.2.1.symm) (Steps.refl _) (argsL := argsL) (rest := rest) (lenOf hpd hlen) rfl (by show 2 * 0 + _ ≤ _; omega) (hb C.2.1 hd) (fun _ _ => ⟨rfl, eT, hc, hs⟩)
  dsimp only [Pt.U, Pt.locs, Pt.cells, Pt.slots] at X' l' y' z' st' hQ
  subst l' y' z'
  obtain ⟨s₂, o, h1, h2⟩ := g v T'.heap hQ T' _ X' rfl (Fr.app N hN)
  exact ⟨s₂, o, st'.trans h1, h2⟩
def oMetH (l : Launch) (Z : State) (y : MethodName) (bs : ByteArray) (ml : Nat) (rt : Option FieldType) (tr : List (Nat × Nat × Nat × Nat)) (R : Room) (k n n0 : Nat) (as' : Array Value) (h0 : Heap) (Q : Option Value → Heap → Prop) : Prop :=
  MetFree l y (head1 [Jvm.Cond.codeWith y bs ml rt tr] R) (fun a U => a = as' ∧ Z.Warmed39 U.vm ∧ U.heap = h0) (fun _ _ _ _ _ => True) (fun _ U o U' => ∃ v L, o = .returned v ∧ (Fr n0 L ∧ Q v U'.heap) ∧ FrameEnd U o U' L k n)
theorem oMetH.intro {tr : List (Nat × Nat × Nat × Nat)} {k n : Nat} {as' : Array Value} {h0 : Heap} (pn : plainFor y = true) (ef : ∀ m, entryFrame m as' ml = mkF m 0 Ls [])
    (body : ∀ (p : Program) (e : Env) (s : State) (m : MethodId) (below : List Frame) (meth : Method) (c : Code), oCx p s m meth c bs ml y.cls y.name rt Z → oW p l e R s m as' below meth c (oFin s n0 k n Q) n0 h0 0 0 (mkF m 0 Ls [])) :
    oMetH l Z y bs ml rt tr R k n n0 as' h0 Q := by
  refine MetFree.of_bodySF pn hisWith ?_
  intro p e s m args below meth c s₁ Bd hml0 hP hK
  obtain ⟨rfl, hZ, hh⟩ := hP
  have e0 : s₁.heap = h0 := by rw [← hh, Bd.state]; rfl
  have C : oCx p s m meth c bs ml y.cls y.name rt Z := ⟨Bd.exec, Bd.bytes, hml0, findClass_of_methodNamed Bd.named, hZ, (name_of_methodNamed Bd.named Bd.method).1, Bd.returns, Bd.notSynchronized⟩
  obtain ⟨s₂, o, h1, h2, h3, h4⟩ := body p e s m below meth c C s₁ [] (Stand.of_body Bd) e0 (Fr.nil n0)
  exact ⟨s₂, o, castTop (ef m) h1, h2, h3, h4⟩
theorem oPureK {w : Value} {hc : Heap} (g : oW p l e R s m args below meth c F n0 hc cells slots (mkF m q Ls (w :: rest))) : ∀ (v : Option Value) (h' : Heap), (v = some w ∧ h' = hc) → oW p l e R s m args below meth c F n0 h' cells slots (mkF m q Ls (v.toList ++ rest)) := by
  rintro _ _ ⟨rfl, rfl⟩; exact g
theorem oVQ {Q' : Heap → Prop} (g : ∀ h', Q' h' → oW p l e R s m args below meth c F n0 h' cells slots (mkF m q Ls rest)) : ∀ (v : Option Value) (h' : Heap), (v = none ∧ Q' h') → oW p l e R s m args below meth c F n0 h' cells slots (mkF m q Ls (v.toList ++ rest)) := by
  rintro _ _ ⟨rfl, hq⟩; exact g _ hq
theorem oRQ {Q' : Heap → Prop} {w : Value} (g : ∀ h', Q' h' → oW p l e R s m args below meth c F n0 h' cells slots (mkF m q Ls (w :: rest))) : ∀ (v : Option Value) (h' : Heap), (v = some w ∧ Q' h') → oW p l e R s m args below meth c F n0 h' cells slots (mkF m q Ls (v.toList ++ rest)) := by
  rintro _ _ ⟨rfl, hq⟩; exact g _ hq
end Calls
theorem oInitO (C : oCx p s m meth c bs ml own nm rt Z) {i W : Nat} {a : Addr} (w1 : (Jvm.Cond.methodLink own i Lib.objectInit).before a0 Z = true) (w2 : (Jvm.Cond.instanceMethod Lib.objectInit).before a0 Z = true) (w3 : (Jvm.Cond.code Lib.objectInit ⟨#[0xb1]⟩ 1 none).before a0 Z = true) (hd : decode bs pc = .ok (.invokespecial i, 3)) (hsz : Ls.size = ml) (hW : (st.map fun v => v.category).sum = W) (hq : pc + 3 = q) (hf : 1 ≤ R.frames) (hl : W + 12 ≤ R.locals)
    (g : oW p l e R s m args below meth c F n0 h cells slots (mkF m q Ls st)) : oW p l e R s m args below meth c F n0 h cells slots (mkF m pc Ls (.ref a :: st)) := by
  subst hq
  exact oW.to (fun T locs X eT => initO X C.1 C.2.2.2.2.1 C.2.2.2.1 w1 w2 w3 eT (g := mkF m pc Ls (.ref a :: st)) rfl (hsz.trans C.2.2.1.symm) rfl (hb C.2.1 hd) hf (W := W) (by show 2 * 0 + _ ≤ _; omega) hl) g
theorem oCastI {z z' : Int32} (hz : z = z') (g : oW p l e R s m args below meth c F n0 h cells slots (mkF m pc Ls (.int z' :: st))) : oW p l e R s m args below meth c F n0 h cells slots (mkF m pc Ls (.int z :: st)) := hz ▸ g
theorem oCastL {z z' : Int64} (hz : z = z') (g : oW p l e R s m args below meth c F n0 h cells slots (mkF m pc Ls (.long z' :: st))) : oW p l e R s m args below meth c F n0 h cells slots (mkF m pc Ls (.long z :: st)) := hz ▸ g
theorem oJoin {α : Type} {f : JFrame} (P : α → Prop) (hh : α → Heap) (fr : α → JFrame) {k n : Nat} (j : ∀ w, P w → oW p l e R s m args below meth c F n0 (hh w) k n (fr w)) (g : (∀ w, P w → oW p l e R s m args below meth c F n0 (hh w) k n (fr w)) → oW p l e R s m args below meth c F n0 h cells slots f) : oW p l e R s m args below meth c F n0 h cells slots f := g j
theorem oNew (C : oCx p s m meth c bs ml own nm rt Z) {i n : Nat} {K : String} (w : (Jvm.Cond.classLink own i K).before a0 Z = true) (wi : (Jvm.Cond.instantiable K n).before a0 Z = true) (wz : (Jvm.Cond.initialized K).before a0 Z = true) (hd : decode bs pc = .ok (.new i, 3)) (hq : pc + 3 = q) (hc : cells + 1 ≤ R.cells) (hs : slots + n ≤ R.slots)
    (g : ∀ (a : Addr) (h' : Heap), a = h.size → Ext h h' → Exa Z h' a K → (∀ {O nm d : String} {ty : FieldType}, Laid Z a0 K O nm d → parseFieldDescriptor d = some ty → Fld Z h' a O nm d (defaultValue ty)) → oW p l e R s m args below meth c F n0 h' (cells + 1) (slots + n) (mkF m q Ls (.ref a :: st))) :
    oW p l e R s m args below meth c F n0 h cells slots (mkF m pc Ls st) := fun T locs X eT N => by
  subst hq
  obtain ⟨T', h', X', e', E', A', D', -, st'⟩ := newO X C.1 C.2.2.2.2.1 C.2.2.2.1 w wi wz eT (g := mkF m pc Ls st) rfl (hb C.2.1 hd) hc hs
  obtain ⟨s₂, o, h1, h2⟩ := g _ h' rfl E' A' D' T' _ X' e' N
  exact ⟨s₂, o, st' _ h1, h2⟩
theorem oGetF (C : oCx p s m meth c bs ml own nm rt Z) {i : Nat} {R0 O n d : String} {a : Addr} {v : Value} (w : (Jvm.Cond.fieldLink own i R0 n d).before a0 Z = true) (via : Via Z R0 O n d) (Fd : Fld Z h a O n d v) (hd : decode bs pc = .ok (.getfield i, 3)) (hq : pc + 3 = q)
    (g : oW p l e R s m args below meth c F n0 h cells slots (mkF m q Ls (v :: st))) : oW p l e R s m args below meth c F n0 h cells slots (mkF m pc Ls (.ref a :: st)) := by
  subst hq
  exact oW.to (fun T locs X eT => getF X C.1 C.2.2.2.2.1 C.2.2.2.1 (host := "") (Or.inl w) via eT Fd (g := mkF m pc Ls (.ref a :: st)) rfl rfl (hb C.2.1 hd)) g
theorem oPutF (C : oCx p s m meth c bs ml own nm rt Z) {i kk : Nat} {R0 O n d K : String} {ty : FieldType} {a : Addr} {v old : Value} (w : (Jvm.Cond.fieldLink own i R0 n d).before a0 Z = true) (via : Via Z R0 O n d) (Fd : Fld Z h a O n d old) (E : Exa Z h a K) (L : (Jvm.Cond.lays K O n d).before a0 Z = true ∨ ((Jvm.Cond.laysFinal K O n d).before a0 Z = true ∧ own = O ∧ nm = "<init>")) (wi : (Jvm.Cond.instantiable K kk).before a0 Z = true)
    (hty : parseFieldDescriptor d = some ty) (hn : narrow ty v = v) (hf : fits ty v = true) (hd : decode bs pc = .ok (.putfield i, 3)) (hq : pc + 3 = q) (ha : n0 ≤ a)
    (g : ∀ h', Wr h h' a (Jvm.RoadKit.slotOf Z O n d) v → oW p l e R s m args below meth c F n0 h' cells slots (mkF m q Ls st)) : oW p l e R s m args below meth c F n0 h cells slots (mkF m pc Ls (v :: .ref a :: st)) := fun T locs X eT N => by
  subst hq
  obtain ⟨T', h', X', e', W', st'⟩ := putF X C.1 C.2.2.2.2.1 C.2.2.2.1 (host := "") (Or.inl w) via eT Fd E (L.imp id fun z => ⟨z.1, z.2.1, C.2.2.2.2.2.1.trans z.2.2⟩) wi hty hn hf (g := mkF m pc Ls (v :: .ref a :: st)) rfl rfl (hb C.2.1 hd)
  obtain ⟨s₂, o, h1, h2⟩ := g h' W' T' _ X' e' (Fr.snoc X' N ha)
  exact ⟨s₂, o, st' _ h1, h2⟩
def oAr (Z : State) (h : Heap) (a : Addr) (ty : FieldType) (vs : List Value) : Prop := ∃ c : Cell, Arr Z h a c ty ∧ c.slots.toList = vs
section Arrays
variable {a b : Addr} {ty : FieldType} {vs : List Value} {v : Value} {sl : Nat}
theorem oAr.lt (A : oAr Z h a ty vs) : a < h.size := by obtain ⟨c, A, -⟩ := A; exact A.lt
theorem oAr.ext (A : oAr Z h a ty vs) (E : Ext h h') : oAr Z h' a ty vs := by obtain ⟨c, A, r⟩ := A; exact ⟨c, A.ext E, r⟩
theorem oAr.other (A : oAr Z h a ty vs) (W : Wr h h' b sl v) (ne : a ≠ b) : oAr Z h' a ty vs := by obtain ⟨c, A, r⟩ := A; exact ⟨c, A.other W ne, r⟩
theorem oAr.same (A : oAr Z h a ty vs) (W : Wr h h' a sl v) : oAr Z h' a ty (vs.set sl v) := by
  obtain ⟨c, A, r⟩ := A
  exact ⟨_, A.same W, by subst r; simp [Cell.setSlot]⟩
theorem oNe' (h1 : a < h.size) (h2 : h.size ≤ b) : a ≠ b := Nat.ne_of_lt (Nat.lt_of_lt_of_le h1 h2)
theorem oInb {cl : Cell} {j : Int32} {k : Nat} (r : cl.slots.toList = vs) (hj : ¬ j < 0) (hk : j.toNatClampNeg = k) (hv : vs[k]? = some v) : ¬ (j < 0 ∨ cl.slots.size ≤ j.toNatClampNeg) ∧ cl.slots[j.toNatClampNeg]? = some v := by
  subst hk r
  have hlt : j.toNatClampNeg < cl.slots.toList.length := (List.getElem?_eq_some_iff.mp hv).1
  refine ⟨fun q => q.elim hj fun u => ?_, by rw [← hv]; simp⟩
  simp at hlt; omega
end Arrays
def oKe (h0 h : Heap) (ws : List Addr) (fs : List (Addr × Nat)) : Prop := h0.size ≤ h.size ∧ ∀ (x : Addr) (c : Cell), h0[x]? = some c → ∃ c' : Cell, h[x]? = some c' ∧ c'.cls = c.cls ∧ c'.vm = c.vm ∧ c'.slots.size = c.slots.size ∧ (x ∉ ws → ∀ j, (x, j) ∉ fs → c'.slots[j]? = c.slots[j]?)
section Ke
variable {h0 : Heap} {ws ws' : List Addr} {fs fs' : List (Addr × Nat)} {a b : Addr} {sl : Nat} {v : Value} {ty : FieldType} {vs : List Value} {K O n d : String}
theorem oKe.refl (h : Heap) (ws : List Addr) (fs : List (Addr × Nat)) : oKe h h ws fs := ⟨Nat.le_refl _, fun x c q => ⟨c, q, rfl, rfl, rfl, fun _ _ _ => rfl⟩⟩
theorem oKe.trans (A : oKe h0 h ws fs) (B : oKe h h' ws' fs') (q1 : ∀ x ∈ ws', x ∈ ws ∨ h0.size ≤ x) (q2 : ∀ x ∈ fs', x ∈ fs ∨ h0.size ≤ x.1) : oKe h0 h' ws fs := by
  refine ⟨Nat.le_trans A.1 B.1, fun x c hx => ?_⟩
  obtain ⟨c1, e1, e2, e3, e4, e5⟩ := A.2 x c hx
  obtain ⟨c2, g1, g2, g3, g4, g5⟩ := B.2 x c1 e1
  have lt := (Array.getElem?_eq_some_iff.mp hx).1
  refine ⟨c2, g1, g2.trans e2, g3.trans e3, g4.trans e4, fun hn j hj => ?_⟩
  rw [g5 (fun z => (q1 x z).elim hn (fun y => absurd lt (Nat.not_lt.mpr y))) j (fun z => (q2 _ z).elim hj (fun y => absurd lt (Nat.not_lt.mpr y)))]
  exact e5 hn j hj
theorem oKe.of_ext (E : Ext h h') : oKe h h' [] [] := ⟨E.1, fun x c q => ⟨c, E.2 x c q, rfl, rfl, rfl, fun _ _ _ => rfl⟩⟩
theorem oKe.ext (A : oKe h0 h ws fs) (E : Ext h h') : oKe h0 h' ws fs := A.trans (oKe.of_ext E) (fun _ q => nomatch q) (fun _ q => nomatch q)
theorem oKe.of_wr (W : Wr h h' a sl v) : oKe h h' [] [(a, sl)] := by
  refine ⟨Nat.le_of_eq W.size.symm, fun x c q => ?_⟩
  obtain ⟨c', e1, e2, e3, e4, e5, e6, -⟩ := wr_at W q
  refine ⟨c', e1, e2, e3, e4, fun _ j hj => ?_⟩
  by_cases ex : x = a
  · subst ex; exact e6 j (fun ej => hj (by simp [ej]))
  · rw [e5 ex]
theorem oKe.wrF (A : oKe h0 h ws fs) (W : Wr h h' a sl v) (q : (a, sl) ∈ fs ∨ h0.size ≤ a) : oKe h0 h' ws fs := A.trans (oKe.of_wr W) (fun _ q => nomatch q) fun x hx => by cases List.mem_singleton.mp hx; exact q
theorem oKe.exa (A : oKe h h' ws fs) (E : Exa Z h a K) : Exa Z h' a K := by
  obtain ⟨cell, k, h1, h2, h3, h4, h5⟩ := E
  obtain ⟨c', e1, e2, e3, e4, -⟩ := A.2 _ _ h1
  exact ⟨c', k, e1, e2 ▸ h2, e2 ▸ h3, e3 ▸ h4, e4 ▸ h5⟩
theorem oKe.fld (A : oKe h h' ws fs) (E : Fld Z h a O n d v) (q : a ∉ ws) (q2 : (a, Jvm.RoadKit.slotOf Z O n d) ∉ fs) : Fld Z h' a O n d v := by
  obtain ⟨cell, cf, k, i, f, h1, h2, h3, h4, h5, h6, h7⟩ := E
  obtain ⟨c', e1, e2, e3, e4, e5⟩ := A.2 _ _ h1
  have es : Jvm.RoadKit.slotOf Z O n d = f.slot := by simp [Jvm.RoadKit.slotOf, h2]
  rw [es] at q2
  exact ⟨c', cf, k, i, f, e1, h2, h3, e3 ▸ h4, e3 ▸ h5, e2 ▸ h6, (e5 q _ q2).trans h7⟩
theorem oKe.arr (A : oKe h h' ws fs) (E : oAr Z h a ty vs) (q : a ∉ ws) (q2 : ∀ y ∈ fs, a ≠ y.1) : oAr Z h' a ty vs := by
  obtain ⟨cl, ⟨h1, h2, h3⟩, h4⟩ := E
  obtain ⟨c', e1, e2, e3, e4, e5⟩ := A.2 _ _ h1
  have es : c'.slots = cl.slots := Array.ext_getElem? fun j => e5 q j (fun z => q2 _ z rfl)
  refine ⟨c', ⟨e1, ?_, e3 ▸ h3⟩, by rw [es]; exact h4⟩
  obtain ⟨g1, k, g2, comp, g3⟩ := h2
  exact ⟨e3 ▸ g1, k, e2 ▸ g2, comp, g3⟩
theorem oNF {x y : Addr × Nat} {L : List (Addr × Nat)} (q : x.1 ≠ y.1 ∨ x.2 ≠ y.2) (r : x ∉ L) : x ∉ y :: L := fun z => (List.mem_cons.mp z).elim (fun u => q.elim (fun w => w (by rw [u])) (fun w => w (by rw [u]))) r
theorem oN0 {x : Addr × Nat} : x ∉ ([] : List (Addr × Nat)) := fun q => nomatch q
theorem oA0 {P : Addr × Nat → Prop} : ∀ x ∈ ([] : List (Addr × Nat)), P x := fun _ q => nomatch q
theorem oAS {P : Addr × Nat → Prop} {y : Addr × Nat} {L : List (Addr × Nat)} (q : P y) (r : ∀ x ∈ L, P x) : ∀ x ∈ y :: L, P x := fun x z => (List.mem_cons.mp z).elim (fun u => u ▸ q) (r x)
end Ke
theorem oNewA (C : oCx p s m meth c bs ml own nm rt Z) {aty : ArrayType} {ty : FieldType} {z : Int32} {k : Nat} (w : (Jvm.Cond.arrayClass ty).before a0 Z = true) (hty : newarray.typeOf aty = ty) (hd : decode bs pc = .ok (.newarray aty, 2)) (hq : pc + 2 = q) (hz : ¬ z < 0) (hk : z.toNatClampNeg = k) (hb' : k * 8 ≤ 536870912) (hc : cells + 1 ≤ R.cells) {cap : Nat} (hcap : k ≤ cap) (hcb : cap * 8 ≤ 536870912) (hs : slots + cap ≤ R.slots)
    (g : ∀ (a : Addr) (h' : Heap), a = h.size → Ext h h' → oAr Z h' a ty (List.replicate k (defaultValue ty)) → oW p l e R s m args below meth c F n0 h' (cells + 1) (slots + cap) (mkF m q Ls (.ref a :: st))) :
    oW p l e R s m args below meth c F n0 h cells slots (mkF m pc Ls (.int z :: st)) := fun T locs X eT N => by
  subst hq hty hk
  obtain ⟨T', h', cA, X', e', E', A', st'⟩ := newP X C.1 C.2.2.2.2.1 w eT (g := mkF m pc Ls (.int z :: st)) rfl (hb C.2.1 hd) rfl hz (cap := cap) hcap hcb hc hs
  obtain ⟨s₂, o, h1, h2⟩ := g _ h' rfl E' ⟨_, A', by simp [newA]⟩ T' _ X' e' N
  exact ⟨s₂, o, st' _ h1, h2⟩
theorem oLen (C : oCx p s m meth c bs ml own nm rt Z) {a : Addr} {ty : FieldType} {vs : List Value} {z : Int32} (A : oAr Z h a ty vs) (hz : vs.length.toInt32 = z) (hd : decode bs pc = .ok (.arraylength, 1)) (hq : pc + 1 = q) (g : oW p l e R s m args below meth c F n0 h cells slots (mkF m q Ls (.int z :: st))) :
    oW p l e R s m args below meth c F n0 h cells slots (mkF m pc Ls (.ref a :: st)) := fun T locs X eT N => by
  subst hq hz
  obtain ⟨cl, A, r⟩ := A
  obtain ⟨s₂, o, h1, h2⟩ := g T locs X eT N
  exact ⟨s₂, o, X.arraylength C.1 (by rw [eT]; exact A.1) (State.isArrayOf_alike C.2.2.2.2.1.alike A.2.1) (g := mkF m pc Ls (.ref a :: st)) rfl rfl (hb C.2.1 hd) _ (by subst r; simpa using h1), h2⟩
theorem oLaload (C : oCx p s m meth c bs ml own nm rt Z) {a : Addr} {vs : List Value} {j : Int32} {k : Nat} {v : Value} (A : oAr Z h a .long vs) (hj : ¬ j < 0) (hk : j.toNatClampNeg = k) (hv : vs[k]? = some v) (hd : decode bs pc = .ok (.laload, 1)) (hq : pc + 1 = q) (g : oW p l e R s m args below meth c F n0 h cells slots (mkF m q Ls (v :: st))) :
    oW p l e R s m args below meth c F n0 h cells slots (mkF m pc Ls (.int j :: .ref a :: st)) := fun T locs X eT N => by
  subst hq
  obtain ⟨cl, A, r⟩ := A
  obtain ⟨i1, i2⟩ := oInb r hj hk hv
  obtain ⟨s₂, o, h1, h2⟩ := g T locs X eT N
  exact ⟨s₂, o, X.laload C.1 (j := j) (v := v) (by rw [eT]; exact A.1) (State.isArrayOf_alike C.2.2.2.2.1.alike A.2.1) A.2.2 i1 i2 (g := mkF m pc Ls (.int j :: .ref a :: st)) rfl rfl (hb C.2.1 hd) _ h1, h2⟩
theorem oLastore (C : oCx p s m meth c bs ml own nm rt Z) {a : Addr} {vs : List Value} {j : Int32} {k : Nat} {v v' : Value} {x : Int64} (A : oAr Z h a .long vs) (hj : ¬ j < 0) (hk : j.toNatClampNeg = k) (hv : vs[k]? = some v) (hx : (.long x : Value) = v') (hd : decode bs pc = .ok (.lastore, 1)) (hq : pc + 1 = q) (ha : n0 ≤ a)
    (g : ∀ h', Wr h h' a k v' → oAr Z h' a .long (vs.set k v') → oW p l e R s m args below meth c F n0 h' cells slots (mkF m q Ls (st))) :
    oW p l e R s m args below meth c F n0 h cells slots (mkF m pc Ls (.long x :: .int j :: .ref a :: st)) := fun T locs X eT N => by
  subst hq hx
  obtain ⟨cl, A, r⟩ := A
  obtain ⟨i1, -⟩ := oInb r hj hk hv
  obtain ⟨T', h', X', e', W', st'⟩ := stJ X C.1 C.2.2.2.2.1 eT A (j := j) i1 (g := mkF m pc Ls (.long x :: .int j :: .ref a :: st)) rfl rfl (hb C.2.1 hd)
  have W2 : Wr h h' a k (.long x) := hk ▸ W'
  obtain ⟨s₂, o, h1, h2⟩ := g h' W2 (oAr.same ⟨cl, A, r⟩ W2) T' _ X' e' (Fr.snoc X' N ha)
  exact ⟨s₂, o, st' _ h1, h2⟩
end Own
section Own2
variable {p : Program} {l : Launch} {e : Env} {R : Room} {s : State} {m : MethodId} {args : Array Value} {below : List Frame} {meth : Method} {c : Code} {bs : ByteArray} {ml : Nat} {own nm : String} {rt : Option FieldType} {Z : State} {F : State → Outcome → Prop} {n0 : Nat} {h h' : Heap} {cells slots : Nat} {pc q : Nat} {Ls Ls' : Array Slot} {st : List Value} {a0 : Array Value}
section ArraysO
variable {a b : Addr} {K : String} {vs : List Value} {v : Value} {sl : Nat}
end ArraysO
section Stas
variable {K n d : String} {v w : Value} {a : Addr} {sl : Nat}
end Stas
end Own2
abbrev oHw (a0 : Array Value) (Z : State) : Prop := ∀ d ∈ tables_1, d.before a0 Z = true
theorem w0 {a0 : Array Value} {Z : State} (hw : oHw a0 Z) : (Jvm.Cond.constantLong "com/example/tideline/tideline/RetentionKeepsPinLaw" (9 : Nat) (-9223372036854775744 : Int64)).before a0 Z = true := hw _ (List.mem_of_getElem? (i := 0) rfl)
theorem w1 {a0 : Array Value} {Z : State} (hw : oHw a0 Z) : (Jvm.Cond.methodLink "com/example/tideline/tideline/RetentionKeepsPinLaw" (11 : Nat) ({ cls := "java/lang/Math", name := "max", desc := "(JJ)J" } : Jvm.MethodName)).before a0 Z = true := hw _ (List.mem_of_getElem? (i := 1) rfl)
theorem w2 {a0 : Array Value} {Z : State} (hw : oHw a0 Z) : (Jvm.Cond.static ({ cls := "java/lang/Math", name := "max", desc := "(JJ)J" } : Jvm.MethodName)).before a0 Z = true := hw _ (List.mem_of_getElem? (i := 2) rfl)
theorem w3 {a0 : Array Value} {Z : State} (hw : oHw a0 Z) : (Jvm.Cond.initialized "java/lang/Math").before a0 Z = true := hw _ (List.mem_of_getElem? (i := 3) rfl)
theorem w4 {a0 : Array Value} {Z : State} (hw : oHw a0 Z) : (Jvm.Cond.code ({ cls := "java/lang/Math", name := "max", desc := "(JJ)J" } : Jvm.MethodName) jdk_29_method_66_code (4 : Nat) (Option.some Jvm.ClassFile.FieldType.long)).before a0 Z = true := hw _ (List.mem_of_getElem? (i := 4) rfl)
theorem w5 {a0 : Array Value} {Z : State} (hw : oHw a0 Z) : (Jvm.Cond.arrayClass Jvm.ClassFile.FieldType.long).before a0 Z = true := hw _ (List.mem_of_getElem? (i := 5) rfl)
theorem w6 {a0 : Array Value} {Z : State} (hw : oHw a0 Z) : (Jvm.Cond.classLink "com/example/tideline/tideline/RetentionKeepsPinLaw" (17 : Nat) "com/example/tideline/tideline/Retention").before a0 Z = true := hw _ (List.mem_of_getElem? (i := 6) rfl)
theorem w7 {a0 : Array Value} {Z : State} (hw : oHw a0 Z) : (Jvm.Cond.instantiable "com/example/tideline/tideline/Retention" (2 : Nat)).before a0 Z = true := hw _ (List.mem_of_getElem? (i := 7) rfl)
theorem w8 {a0 : Array Value} {Z : State} (hw : oHw a0 Z) : (Jvm.Cond.initialized "com/example/tideline/tideline/Retention").before a0 Z = true := hw _ (List.mem_of_getElem? (i := 8) rfl)
theorem w9 {a0 : Array Value} {Z : State} (hw : oHw a0 Z) : (Jvm.Cond.methodLink "com/example/tideline/tideline/RetentionKeepsPinLaw" (19 : Nat) ({ cls := "com/example/tideline/tideline/Retention", name := "<init>", desc := "([J)V" } : Jvm.MethodName)).before a0 Z = true := hw _ (List.mem_of_getElem? (i := 9) rfl)
theorem w10 {a0 : Array Value} {Z : State} (hw : oHw a0 Z) : (Jvm.Cond.instanceMethod ({ cls := "com/example/tideline/tideline/Retention", name := "<init>", desc := "([J)V" } : Jvm.MethodName)).before a0 Z = true := hw _ (List.mem_of_getElem? (i := 10) rfl)
theorem w11 {a0 : Array Value} {Z : State} (hw : oHw a0 Z) : (Jvm.Cond.code ({ cls := "com/example/tideline/tideline/Retention", name := "<init>", desc := "([J)V" } : Jvm.MethodName) prog_43_method_1_code (2 : Nat) (Option.none : Option Jvm.ClassFile.FieldType)).before a0 Z = true := hw _ (List.mem_of_getElem? (i := 11) rfl)
theorem w12 {a0 : Array Value} {Z : State} (hw : oHw a0 Z) : (Jvm.Cond.methodLink "com/example/tideline/tideline/Retention" (1 : Nat) ({ cls := "java/lang/Object", name := "<init>", desc := "()V" } : Jvm.MethodName)).before a0 Z = true := hw _ (List.mem_of_getElem? (i := 12) rfl)
theorem w13 {a0 : Array Value} {Z : State} (hw : oHw a0 Z) : (Jvm.Cond.instanceMethod ({ cls := "java/lang/Object", name := "<init>", desc := "()V" } : Jvm.MethodName)).before a0 Z = true := hw _ (List.mem_of_getElem? (i := 13) rfl)
theorem w14 {a0 : Array Value} {Z : State} (hw : oHw a0 Z) : (Jvm.Cond.code ({ cls := "java/lang/Object", name := "<init>", desc := "()V" } : Jvm.MethodName) object_method_1_code (1 : Nat) (Option.none : Option Jvm.ClassFile.FieldType)).before a0 Z = true := hw _ (List.mem_of_getElem? (i := 14) rfl)
theorem w15 {a0 : Array Value} {Z : State} (hw : oHw a0 Z) : (Jvm.Cond.fieldLink "com/example/tideline/tideline/Retention" (7 : Nat) "com/example/tideline/tideline/Retention" "open" "[J").before a0 Z = true := hw _ (List.mem_of_getElem? (i := 15) rfl)
theorem w16 {a0 : Array Value} {Z : State} (hw : oHw a0 Z) : (Jvm.Cond.laysFinal "com/example/tideline/tideline/Retention" "com/example/tideline/tideline/Retention" "open" "[J").before a0 Z = true := hw _ (List.mem_of_getElem? (i := 16) rfl)
theorem w17 {a0 : Array Value} {Z : State} (hw : oHw a0 Z) : (Jvm.Cond.methodLink "com/example/tideline/tideline/RetentionKeepsPinLaw" (22 : Nat) ({ cls := "com/example/tideline/tideline/Retention", name := "keeps", desc := "(J)Z" } : Jvm.MethodName)).before a0 Z = true := hw _ (List.mem_of_getElem? (i := 17) rfl)
theorem w18 {a0 : Array Value} {Z : State} (hw : oHw a0 Z) : (Jvm.Cond.declares ({ cls := "com/example/tideline/tideline/Retention", name := "keeps", desc := "(J)Z" } : Jvm.MethodName)).before a0 Z = true := hw _ (List.mem_of_getElem? (i := 18) rfl)
theorem w19 {a0 : Array Value} {Z : State} (hw : oHw a0 Z) : (Jvm.Cond.instanceMethod ({ cls := "com/example/tideline/tideline/Retention", name := "keeps", desc := "(J)Z" } : Jvm.MethodName)).before a0 Z = true := hw _ (List.mem_of_getElem? (i := 19) rfl)
theorem w20 {a0 : Array Value} {Z : State} (hw : oHw a0 Z) : (Jvm.Cond.selects "com/example/tideline/tideline/Retention" ({ cls := "com/example/tideline/tideline/Retention", name := "keeps", desc := "(J)Z" } : Jvm.MethodName) ({ cls := "com/example/tideline/tideline/Retention", name := "keeps", desc := "(J)Z" } : Jvm.MethodName)).before a0 Z = true := hw _ (List.mem_of_getElem? (i := 20) rfl)
theorem w21 {a0 : Array Value} {Z : State} (hw : oHw a0 Z) : (Jvm.Cond.code ({ cls := "com/example/tideline/tideline/Retention", name := "keeps", desc := "(J)Z" } : Jvm.MethodName) prog_43_method_3_code (4 : Nat) (Option.some Jvm.ClassFile.FieldType.boolean)).before a0 Z = true := hw _ (List.mem_of_getElem? (i := 21) rfl)
theorem w22 {a0 : Array Value} {Z : State} (hw : oHw a0 Z) : (Jvm.Cond.fieldLink "com/example/tideline/tideline/Retention" (13 : Nat) "com/example/tideline/tideline/Retention" "next" "I").before a0 Z = true := hw _ (List.mem_of_getElem? (i := 22) rfl)
theorem w23 {a0 : Array Value} {Z : State} (hw : oHw a0 Z) : (Jvm.Cond.lays "com/example/tideline/tideline/Retention" "com/example/tideline/tideline/Retention" "next" "I").before a0 Z = true := hw _ (List.mem_of_getElem? (i := 23) rfl)
theorem w24 {a0 : Array Value} {Z : State} (hw : oHw a0 Z) : (Jvm.Cond.methodLink "com/example/tideline/tideline/RetentionKeepsPinLaw" (26 : Nat) ({ cls := "com/example/tideline/tideline/RetentionKeepsPinLaw", name := "expected", desc := "(JJZIJJJ)Z" } : Jvm.MethodName)).before a0 Z = true := hw _ (List.mem_of_getElem? (i := 24) rfl)
theorem w25 {a0 : Array Value} {Z : State} (hw : oHw a0 Z) : (Jvm.Cond.static ({ cls := "com/example/tideline/tideline/RetentionKeepsPinLaw", name := "expected", desc := "(JJZIJJJ)Z" } : Jvm.MethodName)).before a0 Z = true := hw _ (List.mem_of_getElem? (i := 25) rfl)
theorem w26 {a0 : Array Value} {Z : State} (hw : oHw a0 Z) : (Jvm.Cond.initialized "com/example/tideline/tideline/RetentionKeepsPinLaw").before a0 Z = true := hw _ (List.mem_of_getElem? (i := 26) rfl)
theorem w27 {a0 : Array Value} {Z : State} (hw : oHw a0 Z) : (Jvm.Cond.code ({ cls := "com/example/tideline/tideline/RetentionKeepsPinLaw", name := "expected", desc := "(JJZIJJJ)Z" } : Jvm.MethodName) method_3_code (13 : Nat) (Option.some Jvm.ClassFile.FieldType.boolean)).before a0 Z = true := hw _ (List.mem_of_getElem? (i := 27) rfl)
theorem w28 {a0 : Array Value} {Z : State} (hw : oHw a0 Z) : (Jvm.Cond.methodLink "com/example/tideline/tideline/RetentionKeepsPinLaw" (32 : Nat) ({ cls := "com/example/tideline/tideline/RetentionKeepsPinLaw", name := "reads", desc := "(JJZJZ)Z" } : Jvm.MethodName)).before a0 Z = true := hw _ (List.mem_of_getElem? (i := 28) rfl)
theorem w29 {a0 : Array Value} {Z : State} (hw : oHw a0 Z) : (Jvm.Cond.static ({ cls := "com/example/tideline/tideline/RetentionKeepsPinLaw", name := "reads", desc := "(JJZJZ)Z" } : Jvm.MethodName)).before a0 Z = true := hw _ (List.mem_of_getElem? (i := 29) rfl)
theorem w30 {a0 : Array Value} {Z : State} (hw : oHw a0 Z) : (Jvm.Cond.code ({ cls := "com/example/tideline/tideline/RetentionKeepsPinLaw", name := "reads", desc := "(JJZJZ)Z" } : Jvm.MethodName) method_4_code (8 : Nat) (Option.some Jvm.ClassFile.FieldType.boolean)).before a0 Z = true := hw _ (List.mem_of_getElem? (i := 30) rfl)
theorem ef_1 (m : MethodId) (x0 : Int64) (x1 : Int64) : entryFrame m #[.long x0, .long x1] 4 = mkF m 0 #[.val (.long x0), .second, .val (.long x1), .second] [] := by first | (simp [entryFrame, mkF, argsToLocals, Value.category]; done) | rfl
def fMax (q1 : Int64) (q2 : Int64) : Int64 := (if q1 < q2 then q2 else q1)
theorem fMax_def (q1 : Int64) (q2 : Int64) : fMax q1 q2 = (if q1 < q2 then q2 else q1) := rfl
theorem d1_0 : decode jdk_29_method_66_code 0 = .ok (.lload_n 0, 1) := by decide +kernel
theorem d1_1 : decode jdk_29_method_66_code 1 = .ok (.lload_n 2, 1) := by decide +kernel
theorem d1_2 : decode jdk_29_method_66_code 2 = .ok (.lcmp, 1) := by decide +kernel
theorem d1_3 : decode jdk_29_method_66_code 3 = .ok (.ifCond .lt 7, 3) := by decide +kernel
theorem d1_6 : decode jdk_29_method_66_code 6 = .ok (.lload_n 0, 1) := by decide +kernel
theorem d1_7 : decode jdk_29_method_66_code 7 = .ok (.goto 4, 3) := by decide +kernel
theorem d1_10 : decode jdk_29_method_66_code 10 = .ok (.lload_n 2, 1) := by decide +kernel
theorem d1_11 : decode jdk_29_method_66_code 11 = .ok (.lreturn, 1) := by decide +kernel
set_option maxRecDepth 65536 in
set_option maxHeartbeats 40000000 in
theorem mt_fMax (l : Launch) (Z : State) (a0 : Array Value) (hw : oHw a0 Z) (h0 : Heap) (n0 : Nat) (Z0 : n0 ≤ h0.size) (q1 : Int64) (q2 : Int64)  :
    oMet l Z (⟨"java/lang/Math", "max", "(JJ)J"⟩ : MethodName) jdk_29_method_66_code 4 (some .long) [] ({ frames := 0, cells := 0, slots := 0, locals := 0 } : Room) 0 0 n0 #[.long q1, .long q2] h0 (fun v h => v = some (.long (fMax q1 q2)) ∧ h = h0) := by
  refine oMet.intro (Jvm.Free.JP.mathPlain rfl (by decide +kernel)) (fun m => ef_1 m q1 q2) ?_
  intro op oe os m obl omt ocd C
  refine oLloadN C d1_0 rfl rfl ?_
  refine oLloadN C d1_1 rfl rfl ?_
  refine oLcmp_lt C d1_2 rfl d1_3 (q := 10) (by decide) (by decide) (r := 6) rfl (fun hc2 => ?_) (fun hc2 => ?_)
  ·
   refine oLloadN C d1_10 rfl rfl ?_
   refine oRetL C d1_11 (by decide) (by decide) ?_
   exact ⟨by rw [fMax_def, if_pos hc2], rfl⟩
  ·
   refine oLloadN C d1_6 rfl rfl ?_
   refine oGoto C d1_7 (q := 11) (by decide) (by decide) ?_
   refine oRetL C d1_11 (by decide) (by decide) ?_
   exact ⟨by rw [fMax_def, if_neg hc2], rfl⟩
theorem ef_6 (m : MethodId) (x0 : Int64) (x1 : Int64) (x2 : Int32) (x3 : Int64) (x4 : Int32) : entryFrame m #[.long x0, .long x1, .int x2, .long x3, .int x4] 8 = mkF m 0 #[.val (.long x0), .second, .val (.long x1), .second, .val (.int x2), .val (.long x3), .second, .val (.int x4)] [] := by first | (simp [entryFrame, mkF, argsToLocals, Value.category]; done) | rfl
theorem pn_777322 : plainName "com/example/tideline/tideline/RetentionKeepsPinLaw" = true := by first | (simp [plainName, overriddenIn]; done) | decide +kernel
def fReads (c1 : Int64) (p1 : Int64) (f1 : Int32) (s1 : Int64) (r1 : Int32) : Int32 := (if r1 = 0 then (0 : Int32) else (if s1 < c1 then (0 : Int32) else (if f1 = 0 then (if s1 < p1 then (1 : Int32) else (0 : Int32)) else (1 : Int32))))
theorem fReads_def (c1 : Int64) (p1 : Int64) (f1 : Int32) (s1 : Int64) (r1 : Int32) : fReads c1 p1 f1 s1 r1 = (if r1 = 0 then (0 : Int32) else (if s1 < c1 then (0 : Int32) else (if f1 = 0 then (if s1 < p1 then (1 : Int32) else (0 : Int32)) else (1 : Int32)))) := rfl
theorem d6_0 : decode method_4_code 0 = .ok (.iload 7, 2) := by decide +kernel
theorem d6_2 : decode method_4_code 2 = .ok (.ifCond .eq 26, 3) := by decide +kernel
theorem d6_5 : decode method_4_code 5 = .ok (.lload_n 0, 1) := by decide +kernel
theorem d6_6 : decode method_4_code 6 = .ok (.lload 5, 2) := by decide +kernel
theorem d6_8 : decode method_4_code 8 = .ok (.lcmp, 1) := by decide +kernel
theorem d6_9 : decode method_4_code 9 = .ok (.ifCond .gt 19, 3) := by decide +kernel
theorem d6_12 : decode method_4_code 12 = .ok (.iload 4, 2) := by decide +kernel
theorem d6_14 : decode method_4_code 14 = .ok (.ifCond .ne 10, 3) := by decide +kernel
theorem d6_17 : decode method_4_code 17 = .ok (.lload 5, 2) := by decide +kernel
theorem d6_19 : decode method_4_code 19 = .ok (.lload_n 2, 1) := by decide +kernel
theorem d6_20 : decode method_4_code 20 = .ok (.lcmp, 1) := by decide +kernel
theorem d6_21 : decode method_4_code 21 = .ok (.ifCond .ge 7, 3) := by decide +kernel
theorem d6_24 : decode method_4_code 24 = .ok (.iconst 1, 1) := by decide +kernel
theorem d6_25 : decode method_4_code 25 = .ok (.goto 4, 3) := by decide +kernel
theorem d6_28 : decode method_4_code 28 = .ok (.iconst 0, 1) := by decide +kernel
theorem d6_29 : decode method_4_code 29 = .ok (.ireturn, 1) := by decide +kernel
set_option maxRecDepth 65536 in
set_option maxHeartbeats 40000000 in
theorem mt_fReads (l : Launch) (Z : State) (a0 : Array Value) (hw : oHw a0 Z) (h0 : Heap) (n0 : Nat) (Z0 : n0 ≤ h0.size) (c1 : Int64) (p1 : Int64) (f1 : Int32) (s1 : Int64) (r1 : Int32)  :
    oMet l Z (⟨"com/example/tideline/tideline/RetentionKeepsPinLaw", "reads", "(JJZJZ)Z"⟩ : MethodName) method_4_code 8 (some .boolean) [] ({ frames := 0, cells := 0, slots := 0, locals := 0 } : Room) 0 0 n0 #[.long c1, .long p1, .int f1, .long s1, .int r1] h0 (fun v h => v = some (.int (fReads c1 p1 f1 s1 r1)) ∧ h = h0) := by
  refine oMet.intro (plainFor_of_name pn_777322) (fun m => ef_6 m c1 p1 f1 s1 r1) ?_
  intro op oe os m obl omt ocd C
  refine oIload C d6_0 rfl rfl ?_
  refine oIf_eq C d6_2 (q := 28) (by decide) (by decide) (r := 5) rfl (fun hc2 => ?_) (fun hc2 => ?_)
  ·
   refine oIconst C d6_28 (z := 0) rfl rfl ?_
   refine oRetZ C d6_29 (z' := (0 : Int32)) rfl (by decide) (by decide) ?_
   exact ⟨by rw [fReads_def, if_pos hc2], rfl⟩
  ·
   refine oLloadN C d6_5 rfl rfl ?_
   refine oLload C d6_6 rfl rfl ?_
   refine oLcmp_gt C d6_8 rfl d6_9 (q := 28) (by decide) (by decide) (r := 12) rfl (fun hc8 => ?_) (fun hc8 => ?_)
   ·
    refine oIconst C d6_28 (z := 0) rfl rfl ?_
    refine oRetZ C d6_29 (z' := (0 : Int32)) rfl (by decide) (by decide) ?_
    exact ⟨by rw [fReads_def, if_neg hc2, if_pos hc8], rfl⟩
   ·
    refine oIload C d6_12 rfl rfl ?_
    refine oIf_ne C d6_14 (q := 24) (by decide) (by decide) (r := 17) rfl (fun hc14 => ?_) (fun hc14 => ?_)
    ·
     refine oIconst C d6_24 (z := 1) rfl rfl ?_
     refine oGoto C d6_25 (q := 29) (by decide) (by decide) ?_
     refine oRetZ C d6_29 (z' := (1 : Int32)) rfl (by decide) (by decide) ?_
     exact ⟨by rw [fReads_def, if_neg hc2, if_neg hc8, if_neg hc14], rfl⟩
    ·
     refine oLload C d6_17 rfl rfl ?_
     refine oLloadN C d6_19 rfl rfl ?_
     refine oLcmp_ge C d6_20 rfl d6_21 (q := 28) (by decide) (by decide) (r := 24) rfl (fun hc20 => ?_) (fun hc20 => ?_)
     ·
      refine oIconst C d6_28 (z := 0) rfl rfl ?_
      refine oRetZ C d6_29 (z' := (0 : Int32)) rfl (by decide) (by decide) ?_
      exact ⟨by rw [fReads_def, if_neg hc2, if_neg hc8, if_pos hc14, if_neg hc20], rfl⟩
     ·
      refine oIconst C d6_24 (z := 1) rfl rfl ?_
      refine oGoto C d6_25 (q := 29) (by decide) (by decide) ?_
      refine oRetZ C d6_29 (z' := (1 : Int32)) rfl (by decide) (by decide) ?_
      exact ⟨by rw [fReads_def, if_neg hc2, if_neg hc8, if_pos hc14, if_pos hc20], rfl⟩
theorem ef_5 (m : MethodId) (x0 : Int64) (x1 : Int64) (x2 : Int32) (x3 : Int32) (x4 : Int64) (x5 : Int64) (x6 : Int64) : entryFrame m #[.long x0, .long x1, .int x2, .int x3, .long x4, .long x5, .long x6] 13 = mkF m 0 #[.val (.long x0), .second, .val (.long x1), .second, .val (.int x2), .val (.int x3), .val (.long x4), .second, .val (.long x5), .second, .val (.long x6), .second, .unset] [] := by first | (simp [entryFrame, mkF, argsToLocals, Value.category]; done) | rfl
def fAf (c1 : Int64) (n1 : Int32) (u0 : Int64) : Int32 := (if n1 < (1 : Int32) then (0 : Int32) else (if u0 < c1 then (1 : Int32) else (0 : Int32)))
theorem fAf_def (c1 : Int64) (n1 : Int32) (u0 : Int64) : fAf c1 n1 u0 = (if n1 < (1 : Int32) then (0 : Int32) else (if u0 < c1 then (1 : Int32) else (0 : Int32))) := rfl
def fN1 (n1 : Int32) : Int32 := (if n1 < (1 : Int32) then (0 : Int32) else (1 : Int32))
theorem fN1_def (n1 : Int32) : fN1 n1 = (if n1 < (1 : Int32) then (0 : Int32) else (1 : Int32)) := rfl
theorem pd_193530 : parseMethodDescriptor "(JJZJZ)Z" = some ⟨[.long, .long, .boolean, .long, .boolean], some .boolean⟩ := by decide +kernel
def fN2 (n1 : Int32) : Int32 := (if n1 < (2 : Int32) then (0 : Int32) else (1 : Int32))
theorem fN2_def (n1 : Int32) : fN2 n1 = (if n1 < (2 : Int32) then (0 : Int32) else (1 : Int32)) := rfl
def fN3 (n1 : Int32) : Int32 := (if n1 < (3 : Int32) then (0 : Int32) else (1 : Int32))
theorem fN3_def (n1 : Int32) : fN3 n1 = (if n1 < (3 : Int32) then (0 : Int32) else (1 : Int32)) := rfl
def fExp (c1 : Int64) (p1 : Int64) (f1 : Int32) (n1 : Int32) (u0 : Int64) (u1 : Int64) (u2 : Int64) : Int32 := (if (fAf c1 n1 u0) = 0 then (if (fReads c1 p1 f1 u0 (fN1 n1)) = 0 then (if (fReads c1 p1 f1 u1 (fN2 n1)) = 0 then (if (fReads c1 p1 f1 u2 (fN3 n1)) = 0 then (0 : Int32) else (1 : Int32)) else (1 : Int32)) else (1 : Int32)) else (1 : Int32))
theorem fExp_def (c1 : Int64) (p1 : Int64) (f1 : Int32) (n1 : Int32) (u0 : Int64) (u1 : Int64) (u2 : Int64) : fExp c1 p1 f1 n1 u0 u1 u2 = (if (fAf c1 n1 u0) = 0 then (if (fReads c1 p1 f1 u0 (fN1 n1)) = 0 then (if (fReads c1 p1 f1 u1 (fN2 n1)) = 0 then (if (fReads c1 p1 f1 u2 (fN3 n1)) = 0 then (0 : Int32) else (1 : Int32)) else (1 : Int32)) else (1 : Int32)) else (1 : Int32)) := rfl
theorem d5_0 : decode method_3_code 0 = .ok (.iload 5, 2) := by decide +kernel
theorem d5_2 : decode method_3_code 2 = .ok (.iconst 1, 1) := by decide +kernel
theorem d5_3 : decode method_3_code 3 = .ok (.if_icmp .lt 14, 3) := by decide +kernel
theorem d5_6 : decode method_3_code 6 = .ok (.lload_n 0, 1) := by decide +kernel
theorem d5_7 : decode method_3_code 7 = .ok (.lload 6, 2) := by decide +kernel
theorem d5_9 : decode method_3_code 9 = .ok (.lcmp, 1) := by decide +kernel
theorem d5_10 : decode method_3_code 10 = .ok (.ifCond .le 7, 3) := by decide +kernel
theorem d5_13 : decode method_3_code 13 = .ok (.iconst 1, 1) := by decide +kernel
theorem d5_14 : decode method_3_code 14 = .ok (.goto 4, 3) := by decide +kernel
theorem d5_17 : decode method_3_code 17 = .ok (.iconst 0, 1) := by decide +kernel
theorem d5_18 : decode method_3_code 18 = .ok (.istore 12, 2) := by decide +kernel
theorem d5_20 : decode method_3_code 20 = .ok (.iload 12, 2) := by decide +kernel
theorem d5_22 : decode method_3_code 22 = .ok (.ifCond .ne 72, 3) := by decide +kernel
theorem d5_25 : decode method_3_code 25 = .ok (.lload_n 0, 1) := by decide +kernel
theorem d5_26 : decode method_3_code 26 = .ok (.lload_n 2, 1) := by decide +kernel
theorem d5_27 : decode method_3_code 27 = .ok (.iload 4, 2) := by decide +kernel
theorem d5_29 : decode method_3_code 29 = .ok (.lload 6, 2) := by decide +kernel
theorem d5_31 : decode method_3_code 31 = .ok (.iload 5, 2) := by decide +kernel
theorem d5_33 : decode method_3_code 33 = .ok (.iconst 1, 1) := by decide +kernel
theorem d5_34 : decode method_3_code 34 = .ok (.if_icmp .lt 7, 3) := by decide +kernel
theorem d5_37 : decode method_3_code 37 = .ok (.iconst 1, 1) := by decide +kernel
theorem d5_38 : decode method_3_code 38 = .ok (.goto 4, 3) := by decide +kernel
theorem d5_41 : decode method_3_code 41 = .ok (.iconst 0, 1) := by decide +kernel
theorem d5_42 : decode method_3_code 42 = .ok (.invokestatic 32, 3) := by decide +kernel
theorem d5_45 : decode method_3_code 45 = .ok (.ifCond .ne 49, 3) := by decide +kernel
theorem d5_48 : decode method_3_code 48 = .ok (.lload_n 0, 1) := by decide +kernel
theorem d5_49 : decode method_3_code 49 = .ok (.lload_n 2, 1) := by decide +kernel
theorem d5_50 : decode method_3_code 50 = .ok (.iload 4, 2) := by decide +kernel
theorem d5_52 : decode method_3_code 52 = .ok (.lload 8, 2) := by decide +kernel
theorem d5_54 : decode method_3_code 54 = .ok (.iload 5, 2) := by decide +kernel
theorem d5_56 : decode method_3_code 56 = .ok (.iconst 2, 1) := by decide +kernel
theorem d5_57 : decode method_3_code 57 = .ok (.if_icmp .lt 7, 3) := by decide +kernel
theorem d5_60 : decode method_3_code 60 = .ok (.iconst 1, 1) := by decide +kernel
theorem d5_61 : decode method_3_code 61 = .ok (.goto 4, 3) := by decide +kernel
theorem d5_64 : decode method_3_code 64 = .ok (.iconst 0, 1) := by decide +kernel
theorem d5_65 : decode method_3_code 65 = .ok (.invokestatic 32, 3) := by decide +kernel
theorem d5_68 : decode method_3_code 68 = .ok (.ifCond .ne 26, 3) := by decide +kernel
theorem d5_71 : decode method_3_code 71 = .ok (.lload_n 0, 1) := by decide +kernel
theorem d5_72 : decode method_3_code 72 = .ok (.lload_n 2, 1) := by decide +kernel
theorem d5_73 : decode method_3_code 73 = .ok (.iload 4, 2) := by decide +kernel
theorem d5_75 : decode method_3_code 75 = .ok (.lload 10, 2) := by decide +kernel
theorem d5_77 : decode method_3_code 77 = .ok (.iload 5, 2) := by decide +kernel
theorem d5_79 : decode method_3_code 79 = .ok (.iconst 3, 1) := by decide +kernel
theorem d5_80 : decode method_3_code 80 = .ok (.if_icmp .lt 7, 3) := by decide +kernel
theorem d5_83 : decode method_3_code 83 = .ok (.iconst 1, 1) := by decide +kernel
theorem d5_84 : decode method_3_code 84 = .ok (.goto 4, 3) := by decide +kernel
theorem d5_87 : decode method_3_code 87 = .ok (.iconst 0, 1) := by decide +kernel
theorem d5_88 : decode method_3_code 88 = .ok (.invokestatic 32, 3) := by decide +kernel
theorem d5_91 : decode method_3_code 91 = .ok (.ifCond .eq 7, 3) := by decide +kernel
theorem d5_94 : decode method_3_code 94 = .ok (.iconst 1, 1) := by decide +kernel
theorem d5_95 : decode method_3_code 95 = .ok (.goto 4, 3) := by decide +kernel
theorem d5_98 : decode method_3_code 98 = .ok (.iconst 0, 1) := by decide +kernel
theorem d5_99 : decode method_3_code 99 = .ok (.ireturn, 1) := by decide +kernel
set_option maxRecDepth 65536 in
set_option maxHeartbeats 40000000 in
theorem mt_fExp (l : Launch) (Z : State) (a0 : Array Value) (hw : oHw a0 Z) (h0 : Heap) (n0 : Nat) (Z0 : n0 ≤ h0.size) (c1 : Int64) (p1 : Int64) (f1 : Int32) (n1 : Int32) (u0 : Int64) (u1 : Int64) (u2 : Int64)  :
    oMet l Z (⟨"com/example/tideline/tideline/RetentionKeepsPinLaw", "expected", "(JJZIJJJ)Z"⟩ : MethodName) method_3_code 13 (some .boolean) [] ({ frames := 1, cells := 0, slots := 0, locals := 19 } : Room) 0 0 n0 #[.long c1, .long p1, .int f1, .int n1, .long u0, .long u1, .long u2] h0 (fun v h => v = some (.int (fExp c1 p1 f1 n1 u0 u1 u2)) ∧ h = h0) := by
  refine oMet.intro (plainFor_of_name pn_777322) (fun m => ef_5 m c1 p1 f1 n1 u0 u1 u2) ?_
  intro op oe os m obl omt ocd C
  refine oJoin (α := Unit) (fun _ => True) (fun _ => h0) (fun _ => (mkF m 18 #[.val (.long c1), .second, .val (.long p1), .second, .val (.int f1), .val (.int n1), .val (.long u0), .second, .val (.long u1), .second, .val (.long u2), .second, .unset] [.int (fAf c1 n1 u0)])) (k := 0) (n := 0) (fun _ _ => ?_) (fun J18 => ?_)
  ·
   show oW _ _ _ _ _ _ _ _ _ _ _ _ _ _ _ (mkF m 18 #[.val (.long c1), .second, .val (.long p1), .second, .val (.int f1), .val (.int n1), .val (.long u0), .second, .val (.long u1), .second, .val (.long u2), .second, .unset] [.int (fAf c1 n1 u0)])
   refine oIstore C d5_18 (Ls' := #[.val (.long c1), .second, .val (.long p1), .second, .val (.int f1), .val (.int n1), .val (.long u0), .second, .val (.long u1), .second, .val (.long u2), .second, .val (.int (fAf c1 n1 u0))]) rfl (q := 20) rfl ?_
   refine oIload C d5_20 rfl rfl ?_
   refine oIf_ne C d5_22 (q := 94) (by decide) (by decide) (r := 25) rfl (fun hc22 => ?_) (fun hc22 => ?_)
   ·
    refine oIconst C d5_94 (z := 1) rfl rfl ?_
    refine oGoto C d5_95 (q := 99) (by decide) (by decide) ?_
    refine oRetZ C d5_99 (z' := (1 : Int32)) rfl (by decide) (by decide) ?_
    exact ⟨by rw [fExp_def, if_neg hc22], rfl⟩
   ·
    refine oLloadN C d5_25 rfl rfl ?_
    refine oLloadN C d5_26 rfl rfl ?_
    refine oIload C d5_27 rfl rfl ?_
    refine oLload C d5_29 rfl rfl ?_
    refine oJoin (α := Unit) (fun _ => True) (fun _ => h0) (fun _ => (mkF m 42 #[.val (.long c1), .second, .val (.long p1), .second, .val (.int f1), .val (.int n1), .val (.long u0), .second, .val (.long u1), .second, .val (.long u2), .second, .val (.int (fAf c1 n1 u0))] [.int (fN1 n1), .long u0, .int f1, .long p1, .long c1])) (k := 0) (n := 0) (fun _ _ => ?_) (fun J42 => ?_)
    ·
     show oW _ _ _ _ _ _ _ _ _ _ _ _ _ _ _ (mkF m 42 #[.val (.long c1), .second, .val (.long p1), .second, .val (.int f1), .val (.int n1), .val (.long u0), .second, .val (.long u1), .second, .val (.long u2), .second, .val (.int (fAf c1 n1 u0))] [.int (fN1 n1), .long u0, .int f1, .long p1, .long c1])
     refine oCallS C (w28 hw) (w29 hw) (w26 hw) (w30 hw) d5_42 (by decide) pd_193530 rfl rfl (argsL := [.long c1, .long p1, .int f1, .long u0, .int (fN1 n1)]) (rest := []) rfl (W := 0) rfl (q := 45) rfl (by decide) (by decide) (by decide) (by decide) (mt_fReads l Z a0 hw _ n0 Z0 c1 p1 f1 u0 (fN1 n1) ) (oPureK ?_)
     refine oIf_ne C d5_45 (q := 94) (by decide) (by decide) (r := 48) rfl (fun hc45 => ?_) (fun hc45 => ?_)
     ·
      refine oIconst C d5_94 (z := 1) rfl rfl ?_
      refine oGoto C d5_95 (q := 99) (by decide) (by decide) ?_
      refine oRetZ C d5_99 (z' := (1 : Int32)) rfl (by decide) (by decide) ?_
      exact ⟨by rw [fExp_def, if_pos hc22, if_neg hc45], rfl⟩
     ·
      refine oLloadN C d5_48 rfl rfl ?_
      refine oLloadN C d5_49 rfl rfl ?_
      refine oIload C d5_50 rfl rfl ?_
      refine oLload C d5_52 rfl rfl ?_
      refine oJoin (α := Unit) (fun _ => True) (fun _ => h0) (fun _ => (mkF m 65 #[.val (.long c1), .second, .val (.long p1), .second, .val (.int f1), .val (.int n1), .val (.long u0), .second, .val (.long u1), .second, .val (.long u2), .second, .val (.int (fAf c1 n1 u0))] [.int (fN2 n1), .long u1, .int f1, .long p1, .long c1])) (k := 0) (n := 0) (fun _ _ => ?_) (fun J65 => ?_)
      ·
       show oW _ _ _ _ _ _ _ _ _ _ _ _ _ _ _ (mkF m 65 #[.val (.long c1), .second, .val (.long p1), .second, .val (.int f1), .val (.int n1), .val (.long u0), .second, .val (.long u1), .second, .val (.long u2), .second, .val (.int (fAf c1 n1 u0))] [.int (fN2 n1), .long u1, .int f1, .long p1, .long c1])
       refine oCallS C (w28 hw) (w29 hw) (w26 hw) (w30 hw) d5_65 (by decide) pd_193530 rfl rfl (argsL := [.long c1, .long p1, .int f1, .long u1, .int (fN2 n1)]) (rest := []) rfl (W := 0) rfl (q := 68) rfl (by decide) (by decide) (by decide) (by decide) (mt_fReads l Z a0 hw _ n0 Z0 c1 p1 f1 u1 (fN2 n1) ) (oPureK ?_)
       refine oIf_ne C d5_68 (q := 94) (by decide) (by decide) (r := 71) rfl (fun hc68 => ?_) (fun hc68 => ?_)
       ·
        refine oIconst C d5_94 (z := 1) rfl rfl ?_
        refine oGoto C d5_95 (q := 99) (by decide) (by decide) ?_
        refine oRetZ C d5_99 (z' := (1 : Int32)) rfl (by decide) (by decide) ?_
        exact ⟨by rw [fExp_def, if_pos hc22, if_pos hc45, if_neg hc68], rfl⟩
       ·
        refine oLloadN C d5_71 rfl rfl ?_
        refine oLloadN C d5_72 rfl rfl ?_
        refine oIload C d5_73 rfl rfl ?_
        refine oLload C d5_75 rfl rfl ?_
        refine oJoin (α := Unit) (fun _ => True) (fun _ => h0) (fun _ => (mkF m 88 #[.val (.long c1), .second, .val (.long p1), .second, .val (.int f1), .val (.int n1), .val (.long u0), .second, .val (.long u1), .second, .val (.long u2), .second, .val (.int (fAf c1 n1 u0))] [.int (fN3 n1), .long u2, .int f1, .long p1, .long c1])) (k := 0) (n := 0) (fun _ _ => ?_) (fun J88 => ?_)
        ·
         show oW _ _ _ _ _ _ _ _ _ _ _ _ _ _ _ (mkF m 88 #[.val (.long c1), .second, .val (.long p1), .second, .val (.int f1), .val (.int n1), .val (.long u0), .second, .val (.long u1), .second, .val (.long u2), .second, .val (.int (fAf c1 n1 u0))] [.int (fN3 n1), .long u2, .int f1, .long p1, .long c1])
         refine oCallS C (w28 hw) (w29 hw) (w26 hw) (w30 hw) d5_88 (by decide) pd_193530 rfl rfl (argsL := [.long c1, .long p1, .int f1, .long u2, .int (fN3 n1)]) (rest := []) rfl (W := 0) rfl (q := 91) rfl (by decide) (by decide) (by decide) (by decide) (mt_fReads l Z a0 hw _ n0 Z0 c1 p1 f1 u2 (fN3 n1) ) (oPureK ?_)
         refine oIf_eq C d5_91 (q := 98) (by decide) (by decide) (r := 94) rfl (fun hc91 => ?_) (fun hc91 => ?_)
         ·
          refine oIconst C d5_98 (z := 0) rfl rfl ?_
          refine oRetZ C d5_99 (z' := (0 : Int32)) rfl (by decide) (by decide) ?_
          exact ⟨by rw [fExp_def, if_pos hc22, if_pos hc45, if_pos hc68, if_pos hc91], rfl⟩
         ·
          refine oIconst C d5_94 (z := 1) rfl rfl ?_
          refine oGoto C d5_95 (q := 99) (by decide) (by decide) ?_
          refine oRetZ C d5_99 (z' := (1 : Int32)) rfl (by decide) (by decide) ?_
          exact ⟨by rw [fExp_def, if_pos hc22, if_pos hc45, if_pos hc68, if_neg hc91], rfl⟩
        ·
         refine oIload C d5_77 rfl rfl ?_
         refine oIconst C d5_79 (z := 3) rfl rfl ?_
         refine oIcmp_lt C d5_80 (q := 87) (by decide) (by decide) (r := 83) rfl (fun hc80 => ?_) (fun hc80 => ?_)
         ·
          refine oIconst C d5_87 (z := 0) rfl rfl ?_
          refine oCastI (z' := (fN3 n1)) (by rw [fN3_def, if_pos hc80]) ?_
          exact J88 () trivial
         ·
          refine oIconst C d5_83 (z := 1) rfl rfl ?_
          refine oGoto C d5_84 (q := 88) (by decide) (by decide) ?_
          refine oCastI (z' := (fN3 n1)) (by rw [fN3_def, if_neg hc80]) ?_
          exact J88 () trivial
      ·
       refine oIload C d5_54 rfl rfl ?_
       refine oIconst C d5_56 (z := 2) rfl rfl ?_
       refine oIcmp_lt C d5_57 (q := 64) (by decide) (by decide) (r := 60) rfl (fun hc57 => ?_) (fun hc57 => ?_)
       ·
        refine oIconst C d5_64 (z := 0) rfl rfl ?_
        refine oCastI (z' := (fN2 n1)) (by rw [fN2_def, if_pos hc57]) ?_
        exact J65 () trivial
       ·
        refine oIconst C d5_60 (z := 1) rfl rfl ?_
        refine oGoto C d5_61 (q := 65) (by decide) (by decide) ?_
        refine oCastI (z' := (fN2 n1)) (by rw [fN2_def, if_neg hc57]) ?_
        exact J65 () trivial
    ·
     refine oIload C d5_31 rfl rfl ?_
     refine oIconst C d5_33 (z := 1) rfl rfl ?_
     refine oIcmp_lt C d5_34 (q := 41) (by decide) (by decide) (r := 37) rfl (fun hc34 => ?_) (fun hc34 => ?_)
     ·
      refine oIconst C d5_41 (z := 0) rfl rfl ?_
      refine oCastI (z' := (fN1 n1)) (by rw [fN1_def, if_pos hc34]) ?_
      exact J42 () trivial
     ·
      refine oIconst C d5_37 (z := 1) rfl rfl ?_
      refine oGoto C d5_38 (q := 42) (by decide) (by decide) ?_
      refine oCastI (z' := (fN1 n1)) (by rw [fN1_def, if_neg hc34]) ?_
      exact J42 () trivial
  ·
   refine oIload C d5_0 rfl rfl ?_
   refine oIconst C d5_2 (z := 1) rfl rfl ?_
   refine oIcmp_lt C d5_3 (q := 17) (by decide) (by decide) (r := 6) rfl (fun hc3 => ?_) (fun hc3 => ?_)
   ·
    refine oIconst C d5_17 (z := 0) rfl rfl ?_
    refine oCastI (z' := (fAf c1 n1 u0)) (by rw [fAf_def, if_pos hc3]) ?_
    exact J18 () trivial
   ·
    refine oLloadN C d5_6 rfl rfl ?_
    refine oLload C d5_7 rfl rfl ?_
    refine oLcmp_le C d5_9 rfl d5_10 (q := 17) (by decide) (by decide) (r := 13) rfl (fun hc9 => ?_) (fun hc9 => ?_)
    ·
     refine oIconst C d5_17 (z := 0) rfl rfl ?_
     refine oCastI (z' := (fAf c1 n1 u0)) (by rw [fAf_def, if_neg hc3, if_neg hc9]) ?_
     exact J18 () trivial
    ·
     refine oIconst C d5_13 (z := 1) rfl rfl ?_
     refine oGoto C d5_14 (q := 18) (by decide) (by decide) ?_
     refine oCastI (z' := (fAf c1 n1 u0)) (by rw [fAf_def, if_neg hc3, if_pos hc9]) ?_
     exact J18 () trivial
theorem own_t (a : Int64) : -9223372036854775744 ≤ (fMax a (-9223372036854775744 : Int64)).toInt := by
  rw [fMax_def]; simp only [Int64.lt_iff_toInt_lt]; rw [show (-9223372036854775744 : Int64).toInt = -9223372036854775744 from by decide]; split
  · decide
  · omega
theorem own_sub {t : Int64} {x : Int32} {k : Int} (hx : 0 ≤ x.toInt ∧ x.toInt ≤ k) (h : -9223372036854775808 + k ≤ t.toInt) : (t - x.toInt64).toInt = t.toInt - x.toInt := by
  have q := c_lsub t x.toInt64; have r := rng64 (t - x.toInt64); have r2 := rng64 t; rw [c_i2l] at q; omega
theorem own_sub1 {t : Int64} (h : -9223372036854775808 + 1 ≤ t.toInt) : (t - (1 : Int64)).toInt = t.toInt - 1 := by
  have q := c_lsub t 1; have r := rng64 (t - 1); have r2 := rng64 t; rw [show (1 : Int64).toInt = 1 from rfl] at q; omega
theorem own_m (x m : Int32) (k : Nat) (K : Int) (h : k ≤ 31) (hm : m.toBitVec.toNat = 2 ^ k - 1) (hk : ((2 ^ k : Nat) : Int) = K + 1) (h0 : 0 ≤ K) : 0 ≤ (x &&& m).toInt ∧ (x &&& m).toInt ≤ K := by
  rw [c_mask x m k h hm, hk]; have a := Int.emod_nonneg x.toInt (show (K + 1 : Int) ≠ 0 by omega); have b := Int.emod_lt_of_pos x.toInt (show (0 : Int) < K + 1 by omega); omega
theorem own_n (x : Int32) : (x &&& (3 : Int32)) = 0 ∨ (x &&& (3 : Int32)) = 1 ∨ (x &&& (3 : Int32)) = 2 ∨ (x &&& (3 : Int32)) = 3 := by
  have e1 := own_m x 3 2 3 (by decide) (by decide) (by decide) (by decide)
  simp only [← Int32.toInt_inj, Int32.reduceToInt]; omega
theorem own_mono {s a b : Int64} (h : ¬ s < a) (r : b.toInt < a.toInt) : ¬ s < b := by
  rw [Int64.lt_iff_toInt_lt] at *; omega
theorem ef_0 (m : MethodId) (x0 : Int64) (x1 : Int32) (x2 : Int32) (x3 : Int32) : entryFrame m #[.long x0, .int x1, .int x2, .int x3] maxLocals = mkF m 0 #[.val (.long x0), .second, .val (.int x1), .val (.int x2), .val (.int x3), .unset, .unset, .unset, .unset, .unset, .unset, .unset, .unset, .unset, .unset, .unset, .unset, .unset, .unset, .unset, .unset, .unset, .unset, .unset, .unset, .unset, .unset, .unset] [] := by first | (simp [entryFrame, mkF, argsToLocals, Value.category, maxLocals]; done) | rfl
theorem pd_212481 : parseMethodDescriptor "(JJ)J" = some ⟨[.long, .long], some .long⟩ := by decide +kernel
theorem ef_2 (m : MethodId) (x0 : Addr) (x1 : Addr) : entryFrame m #[.ref x0, .ref x1] 2 = mkF m 0 #[.val (.ref x0), .val (.ref x1)] [] := by first | (simp [entryFrame, mkF, argsToLocals, Value.category]; done) | rfl
theorem pn_593216 : plainName "com/example/tideline/tideline/Retention" = true := by first | (simp [plainName, overriddenIn]; done) | decide +kernel
theorem d2_0 : decode prog_43_method_1_code 0 = .ok (.aload_n 0, 1) := by decide +kernel
theorem d2_1 : decode prog_43_method_1_code 1 = .ok (.invokespecial 1, 3) := by decide +kernel
theorem d2_4 : decode prog_43_method_1_code 4 = .ok (.aload_n 0, 1) := by decide +kernel
theorem d2_5 : decode prog_43_method_1_code 5 = .ok (.aload_n 1, 1) := by decide +kernel
theorem d2_6 : decode prog_43_method_1_code 6 = .ok (.putfield 7, 3) := by decide +kernel
theorem d2_9 : decode prog_43_method_1_code 9 = .ok (.return_, 1) := by decide +kernel
set_option maxRecDepth 65536 in
set_option maxHeartbeats 40000000 in
theorem ac2_0 (l : Launch) (Z : State) (a0 : Array Value) (hw : oHw a0 Z) (h0 : Heap) (n0 : Nat) (Z0 : n0 ≤ h0.size) (b1 : Addr) (b2 : Addr) (p1 : Exa Z h0 b1 "com/example/tideline/tideline/Retention") (p2 : Fld Z h0 b1 "com/example/tideline/tideline/Retention" "open" "[J" (.null)) (p3 : n0 ≤ b1) :
    oMet l Z (⟨"com/example/tideline/tideline/Retention", "<init>", "([J)V"⟩ : MethodName) prog_43_method_1_code 2 none [] ({ frames := 1, cells := 0, slots := 0, locals := 12 } : Room) 0 0 n0 #[.ref b1, .ref b2] h0 (fun v h => v = none ∧ oKe h0 h [] [(b1, Jvm.RoadKit.slotOf Z "com/example/tideline/tideline/Retention" "open" "[J")] ∧ Fld Z h b1 "com/example/tideline/tideline/Retention" "open" "[J" (.ref b2)) := by
  refine oMet.intro (plainFor_of_name pn_593216) (fun m => ef_2 m b1 b2) ?_
  intro op oe os m obl omt ocd C
  refine oAloadN C d2_0 rfl rfl rfl ?_
  refine oInitO C (w12 hw) (w13 hw) (w14 hw) d2_1 rfl (W := 0) rfl rfl (by decide) (by decide) ?_
  refine oAloadN C d2_4 rfl rfl rfl ?_
  refine oAloadN C d2_5 rfl rfl rfl ?_
  refine oPutF C (w15 hw) Via.refl p2 p1 (Or.inr ⟨(w16 hw), rfl, rfl⟩) (w7 hw) (ty := (.array .long)) (by decide) rfl rfl d2_6 rfl p3 fun h1 W1 => ?_
  have f1w := Fld.same W1 p2
  refine oRetV C d2_9 (by decide) (by decide) ?_
  exact ⟨rfl, ((oKe.refl h0 [] [(b1, Jvm.RoadKit.slotOf Z "com/example/tideline/tideline/Retention" "open" "[J")]).wrF W1 (Or.inl (List.mem_of_getElem? (i := 0) rfl))), f1w⟩
theorem pd_429926 : parseMethodDescriptor "([J)V" = some ⟨[(.array .long)], none⟩ := by decide +kernel
theorem ef_4 (m : MethodId) (x0 : Addr) (x1 : Int64) : entryFrame m #[.ref x0, .long x1] 4 = mkF m 0 #[.val (.ref x0), .val (.long x1), .second, .unset] [] := by first | (simp [entryFrame, mkF, argsToLocals, Value.category]; done) | rfl
theorem d4_0 : decode prog_43_method_3_code 0 = .ok (.aload_n 0, 1) := by decide +kernel
theorem d4_1 : decode prog_43_method_3_code 1 = .ok (.getfield 13, 3) := by decide +kernel
theorem d4_4 : decode prog_43_method_3_code 4 = .ok (.aload_n 0, 1) := by decide +kernel
theorem d4_5 : decode prog_43_method_3_code 5 = .ok (.getfield 7, 3) := by decide +kernel
theorem d4_8 : decode prog_43_method_3_code 8 = .ok (.arraylength, 1) := by decide +kernel
theorem d4_9 : decode prog_43_method_3_code 9 = .ok (.if_icmp .lt 5, 3) := by decide +kernel
theorem d4_12 : decode prog_43_method_3_code 12 = .ok (.iconst 0, 1) := by decide +kernel
theorem d4_13 : decode prog_43_method_3_code 13 = .ok (.ireturn, 1) := by decide +kernel
set_option maxRecDepth 65536 in
set_option maxHeartbeats 40000000 in
theorem ac4_1 (l : Launch) (Z : State) (a0 : Array Value) (hw : oHw a0 Z) (h0 : Heap) (n0 : Nat) (Z0 : n0 ≤ h0.size) (b1 : Addr) (y2 : Int64) (b3 : Addr) (p1 : Fld Z h0 b1 "com/example/tideline/tideline/Retention" "next" "I" (.int 0)) (p2 : Fld Z h0 b1 "com/example/tideline/tideline/Retention" "open" "[J" (.ref b3)) (p3 : oAr Z h0 b3 .long []) :
    oMet l Z (⟨"com/example/tideline/tideline/Retention", "keeps", "(J)Z"⟩ : MethodName) prog_43_method_3_code 4 (some .boolean) [] ({ frames := 0, cells := 0, slots := 0, locals := 0 } : Room) 0 0 n0 #[.ref b1, .long y2] h0 (fun v h => v = some (.int 0) ∧ oKe h0 h [] []) := by
  refine oMet.intro (plainFor_of_name pn_593216) (fun m => ef_4 m b1 y2) ?_
  intro op oe os m obl omt ocd C
  refine oAloadN C d4_0 rfl rfl rfl ?_
  refine oGetF C (w22 hw) Via.refl p1 d4_1 rfl ?_
  refine oAloadN C d4_4 rfl rfl rfl ?_
  refine oGetF C (w15 hw) Via.refl p2 d4_5 rfl ?_
  refine oLen C p3 (z := (0 : Int32)) rfl d4_8 rfl ?_
  refine oIcmp_lt C d4_9 (q := 14) (by decide) (by decide) (r := 12) rfl (fun hq => absurd hq ((by decide))) (fun hc9 => ?_)
  refine oIconst C d4_12 (z := 0) rfl rfl ?_
  refine oRetZ C d4_13 (z' := (0 : Int32)) rfl (by decide) (by decide) ?_
  exact ⟨rfl, (oKe.refl h0 [] [])⟩
def oFL0 : List (String × String × String) := [("com/example/tideline/tideline/Retention", "open", "[J"), ("com/example/tideline/tideline/Retention", "next", "I")]
theorem oLa0 {a0 : Array Value} {Z : State} (hw : oHw a0 Z) : ∀ p ∈ oFL0, Laid Z a0 "com/example/tideline/tideline/Retention" p.1 p.2.1 p.2.2 ∧ ∃ t, parseFieldDescriptor p.2.2 = some t := by
  intro p hp
  simp only [oFL0, List.mem_cons, List.not_mem_nil, or_false] at hp
  rcases hp with rfl | rfl
  · exact ⟨(Or.inr (w16 hw)), _, (by decide : parseFieldDescriptor "[J" = some (.array .long))⟩
  · exact ⟨(Or.inl (w23 hw)), _, (by decide : parseFieldDescriptor "I" = some .int)⟩
theorem oSn0 {a0 : Array Value} {Z : State} (hw : oHw a0 Z) (i j : Nat) {O n d O' n' d' : String} (hi : oFL0[i]? = some (O, n, d) := by rfl) (hj : oFL0[j]? = some (O', n', d') := by rfl) (hn : n ≠ n' := by decide) : Jvm.RoadKit.slotOf Z O n d ≠ Jvm.RoadKit.slotOf Z O' n' d' := by
  obtain ⟨l1, t1, e1⟩ := oLa0 hw _ (List.mem_of_getElem? hi)
  obtain ⟨l2, t2, e2⟩ := oLa0 hw _ (List.mem_of_getElem? hj)
  exact slot_ne l1 l2 hn e1 e2
theorem pd_692006 : parseMethodDescriptor "(J)Z" = some ⟨[.long], some .boolean⟩ := by decide +kernel
theorem pd_717522 : parseMethodDescriptor "(JJZIJJJ)Z" = some ⟨[.long, .long, .boolean, .int, .long, .long, .long], some .boolean⟩ := by decide +kernel
theorem oe0100 (c p s0 s1 s2 : Int64) (hcp : c.toInt = p.toInt) (h01 : s1.toInt < s0.toInt) (h12 : s2.toInt < s1.toInt)  : fExp c p 1 0 s0 s1 s2 = 0 := by
  rw [fExp_def]
  simp only [fReads_def, fAf_def, fN1_def, fN2_def, fN3_def, Int64.lt_iff_toInt_lt] at *
  simp (disch := first | decide | omega) only [if_pos, if_neg]
theorem oe0000 (c p s0 s1 s2 : Int64) (hcp : c.toInt < p.toInt) (h01 : s1.toInt < s0.toInt) (h12 : s2.toInt < s1.toInt)  : fExp c p 0 0 s0 s1 s2 = 0 := by
  rw [fExp_def]
  simp only [fReads_def, fAf_def, fN1_def, fN2_def, fN3_def, Int64.lt_iff_toInt_lt] at *
  simp (disch := first | decide | omega) only [if_pos, if_neg]
theorem d4_14 : decode prog_43_method_3_code 14 = .ok (.lload_n 1, 1) := by decide +kernel
theorem d4_15 : decode prog_43_method_3_code 15 = .ok (.aload_n 0, 1) := by decide +kernel
theorem d4_16 : decode prog_43_method_3_code 16 = .ok (.getfield 7, 3) := by decide +kernel
theorem d4_19 : decode prog_43_method_3_code 19 = .ok (.aload_n 0, 1) := by decide +kernel
theorem d4_20 : decode prog_43_method_3_code 20 = .ok (.getfield 13, 3) := by decide +kernel
theorem d4_23 : decode prog_43_method_3_code 23 = .ok (.laload, 1) := by decide +kernel
theorem d4_24 : decode prog_43_method_3_code 24 = .ok (.lcmp, 1) := by decide +kernel
theorem d4_25 : decode prog_43_method_3_code 25 = .ok (.ifCond .le 10, 3) := by decide +kernel
theorem d4_28 : decode prog_43_method_3_code 28 = .ok (.aload_n 0, 1) := by decide +kernel
theorem d4_29 : decode prog_43_method_3_code 29 = .ok (.getfield 13, 3) := by decide +kernel
theorem d4_32 : decode prog_43_method_3_code 32 = .ok (.ifCond .ne 7, 3) := by decide +kernel
theorem d4_35 : decode prog_43_method_3_code 35 = .ok (.iconst 1, 1) := by decide +kernel
theorem d4_36 : decode prog_43_method_3_code 36 = .ok (.goto 4, 3) := by decide +kernel
theorem d4_40 : decode prog_43_method_3_code 40 = .ok (.istore_n 3, 1) := by decide +kernel
theorem d4_41 : decode prog_43_method_3_code 41 = .ok (.aload_n 0, 1) := by decide +kernel
theorem d4_42 : decode prog_43_method_3_code 42 = .ok (.getfield 13, 3) := by decide +kernel
theorem d4_45 : decode prog_43_method_3_code 45 = .ok (.aload_n 0, 1) := by decide +kernel
theorem d4_46 : decode prog_43_method_3_code 46 = .ok (.getfield 7, 3) := by decide +kernel
theorem d4_49 : decode prog_43_method_3_code 49 = .ok (.arraylength, 1) := by decide +kernel
theorem d4_50 : decode prog_43_method_3_code 50 = .ok (.if_icmp .ge 30, 3) := by decide +kernel
theorem d4_53 : decode prog_43_method_3_code 53 = .ok (.aload_n 0, 1) := by decide +kernel
theorem d4_54 : decode prog_43_method_3_code 54 = .ok (.getfield 7, 3) := by decide +kernel
theorem d4_57 : decode prog_43_method_3_code 57 = .ok (.aload_n 0, 1) := by decide +kernel
theorem d4_58 : decode prog_43_method_3_code 58 = .ok (.getfield 13, 3) := by decide +kernel
theorem d4_61 : decode prog_43_method_3_code 61 = .ok (.laload, 1) := by decide +kernel
theorem d4_62 : decode prog_43_method_3_code 62 = .ok (.lload_n 1, 1) := by decide +kernel
theorem d4_63 : decode prog_43_method_3_code 63 = .ok (.lcmp, 1) := by decide +kernel
theorem d4_64 : decode prog_43_method_3_code 64 = .ok (.ifCond .lt 16, 3) := by decide +kernel
theorem d4_80 : decode prog_43_method_3_code 80 = .ok (.iload_n 3, 1) := by decide +kernel
theorem d4_81 : decode prog_43_method_3_code 81 = .ok (.ireturn, 1) := by decide +kernel
set_option maxRecDepth 65536 in
set_option maxHeartbeats 40000000 in
theorem ac4_2 (l : Launch) (Z : State) (a0 : Array Value) (hw : oHw a0 Z) (h0 : Heap) (n0 : Nat) (Z0 : n0 ≤ h0.size) (b1 : Addr) (y2 : Int64) (b3 : Addr) (y4 : Int64) (p1 : Fld Z h0 b1 "com/example/tideline/tideline/Retention" "next" "I" (.int 0)) (p2 : Fld Z h0 b1 "com/example/tideline/tideline/Retention" "open" "[J" (.ref b3)) (p3 : oAr Z h0 b3 .long [.long y4]) (p4 : y4 < y2) :
    oMet l Z (⟨"com/example/tideline/tideline/Retention", "keeps", "(J)Z"⟩ : MethodName) prog_43_method_3_code 4 (some .boolean) [] ({ frames := 0, cells := 0, slots := 0, locals := 0 } : Room) 0 0 n0 #[.ref b1, .long y2] h0 (fun v h => v = some (.int 1) ∧ oKe h0 h [] []) := by
  refine oMet.intro (plainFor_of_name pn_593216) (fun m => ef_4 m b1 y2) ?_
  intro op oe os m obl omt ocd C
  refine oAloadN C d4_0 rfl rfl rfl ?_
  refine oGetF C (w22 hw) Via.refl p1 d4_1 rfl ?_
  refine oAloadN C d4_4 rfl rfl rfl ?_
  refine oGetF C (w15 hw) Via.refl p2 d4_5 rfl ?_
  refine oLen C p3 (z := (1 : Int32)) rfl d4_8 rfl ?_
  refine oIcmp_lt C d4_9 (q := 14) (by decide) (by decide) (r := 12) rfl (fun hc9 => ?_) (fun hq => absurd hq ((by decide)))
  refine oLloadN C d4_14 rfl rfl ?_
  refine oAloadN C d4_15 rfl rfl rfl ?_
  refine oGetF C (w15 hw) Via.refl p2 d4_16 rfl ?_
  refine oAloadN C d4_19 rfl rfl rfl ?_
  refine oGetF C (w22 hw) Via.refl p1 d4_20 rfl ?_
  refine oLaload C p3 (by decide) (k := 0) rfl (v := .long y4) rfl d4_23 rfl ?_
  refine oLcmp_le C d4_24 rfl d4_25 (q := 35) (by decide) (by decide) (r := 28) rfl (fun hq => absurd hq (not_not_intro p4)) (fun hc24 => ?_)
  refine oAloadN C d4_28 rfl rfl rfl ?_
  refine oGetF C (w22 hw) Via.refl p1 d4_29 rfl ?_
  refine oIf_ne C d4_32 (q := 39) (by decide) (by decide) (r := 35) rfl (fun hq => absurd hq ((by decide))) (fun hc32 => ?_)
  refine oIconst C d4_35 (z := 1) rfl rfl ?_
  refine oGoto C d4_36 (q := 40) (by decide) (by decide) ?_
  refine oIstoreN C d4_40 (Ls' := #[.val (.ref b1), .val (.long y2), .second, .val (.int 1)]) rfl (q := 41) rfl ?_
  refine oAloadN C d4_41 rfl rfl rfl ?_
  refine oGetF C (w22 hw) Via.refl p1 d4_42 rfl ?_
  refine oAloadN C d4_45 rfl rfl rfl ?_
  refine oGetF C (w15 hw) Via.refl p2 d4_46 rfl ?_
  refine oLen C p3 (z := (1 : Int32)) rfl d4_49 rfl ?_
  refine oIcmp_ge C d4_50 (q := 80) (by decide) (by decide) (r := 53) rfl (fun hq => absurd hq ((by decide))) (fun hc50 => ?_)
  refine oAloadN C d4_53 rfl rfl rfl ?_
  refine oGetF C (w15 hw) Via.refl p2 d4_54 rfl ?_
  refine oAloadN C d4_57 rfl rfl rfl ?_
  refine oGetF C (w22 hw) Via.refl p1 d4_58 rfl ?_
  refine oLaload C p3 (by decide) (k := 0) rfl (v := .long y4) rfl d4_61 rfl ?_
  refine oLloadN C d4_62 rfl rfl ?_
  refine oLcmp_lt C d4_63 rfl d4_64 (q := 80) (by decide) (by decide) (r := 67) rfl (fun hc63 => ?_) (fun hq => absurd hq (not_not_intro hc24))
  refine oIloadN C d4_80 rfl rfl ?_
  refine oRetZ C d4_81 (z' := (1 : Int32)) rfl (by decide) (by decide) ?_
  exact ⟨rfl, (oKe.refl h0 [] [])⟩
theorem oe1100 (c p s0 s1 s2 : Int64) (hcp : c.toInt = p.toInt) (h01 : s1.toInt < s0.toInt) (h12 : s2.toInt < s1.toInt) (b0 : s0 < c) : fExp c p 1 1 s0 s1 s2 = 1 := by
  rw [fExp_def]
  simp only [fReads_def, fAf_def, fN1_def, fN2_def, fN3_def, Int64.lt_iff_toInt_lt] at *
  simp (disch := first | decide | omega) only [if_pos, if_neg]
theorem oe1000 (c p s0 s1 s2 : Int64) (hcp : c.toInt < p.toInt) (h01 : s1.toInt < s0.toInt) (h12 : s2.toInt < s1.toInt) (a0 : s0 < p) (b0 : s0 < c) : fExp c p 0 1 s0 s1 s2 = 1 := by
  rw [fExp_def]
  simp only [fReads_def, fAf_def, fN1_def, fN2_def, fN3_def, Int64.lt_iff_toInt_lt] at *
  simp (disch := first | decide | omega) only [if_pos, if_neg]
theorem d4_67 : decode prog_43_method_3_code 67 = .ok (.aload_n 0, 1) := by decide +kernel
theorem d4_68 : decode prog_43_method_3_code 68 = .ok (.dup, 1) := by decide +kernel
theorem d4_69 : decode prog_43_method_3_code 69 = .ok (.getfield 13, 3) := by decide +kernel
theorem d4_72 : decode prog_43_method_3_code 72 = .ok (.iconst 1, 1) := by decide +kernel
theorem d4_73 : decode prog_43_method_3_code 73 = .ok (.iadd, 1) := by decide +kernel
theorem d4_74 : decode prog_43_method_3_code 74 = .ok (.putfield 13, 3) := by decide +kernel
theorem d4_77 : decode prog_43_method_3_code 77 = .ok (.goto (-36), 3) := by decide +kernel
set_option maxRecDepth 65536 in
set_option maxHeartbeats 40000000 in
theorem ac4_3 (l : Launch) (Z : State) (a0 : Array Value) (hw : oHw a0 Z) (h0 : Heap) (n0 : Nat) (Z0 : n0 ≤ h0.size) (b1 : Addr) (y2 : Int64) (b3 : Addr) (y4 : Int64) (p1 : Fld Z h0 b1 "com/example/tideline/tideline/Retention" "next" "I" (.int 0)) (p2 : Fld Z h0 b1 "com/example/tideline/tideline/Retention" "open" "[J" (.ref b3)) (p3 : oAr Z h0 b3 .long [.long y4]) (p4 : ¬ y4 < y2) (p5 : Exa Z h0 b1 "com/example/tideline/tideline/Retention") (p6 : n0 ≤ b1) (p7 : b3 ≠ b1) :
    oMet l Z (⟨"com/example/tideline/tideline/Retention", "keeps", "(J)Z"⟩ : MethodName) prog_43_method_3_code 4 (some .boolean) [] ({ frames := 0, cells := 0, slots := 0, locals := 0 } : Room) 0 0 n0 #[.ref b1, .long y2] h0 (fun v h => v = some (.int 1) ∧ oKe h0 h [] [(b1, Jvm.RoadKit.slotOf Z "com/example/tideline/tideline/Retention" "next" "I")] ∧ Fld Z h b1 "com/example/tideline/tideline/Retention" "next" "I" (.int 1)) := by
  refine oMet.intro (plainFor_of_name pn_593216) (fun m => ef_4 m b1 y2) ?_
  intro op oe os m obl omt ocd C
  refine oAloadN C d4_0 rfl rfl rfl ?_
  refine oGetF C (w22 hw) Via.refl p1 d4_1 rfl ?_
  refine oAloadN C d4_4 rfl rfl rfl ?_
  refine oGetF C (w15 hw) Via.refl p2 d4_5 rfl ?_
  refine oLen C p3 (z := (1 : Int32)) rfl d4_8 rfl ?_
  refine oIcmp_lt C d4_9 (q := 14) (by decide) (by decide) (r := 12) rfl (fun hc9 => ?_) (fun hq => absurd hq ((by decide)))
  refine oLloadN C d4_14 rfl rfl ?_
  refine oAloadN C d4_15 rfl rfl rfl ?_
  refine oGetF C (w15 hw) Via.refl p2 d4_16 rfl ?_
  refine oAloadN C d4_19 rfl rfl rfl ?_
  refine oGetF C (w22 hw) Via.refl p1 d4_20 rfl ?_
  refine oLaload C p3 (by decide) (k := 0) rfl (v := .long y4) rfl d4_23 rfl ?_
  refine oLcmp_le C d4_24 rfl d4_25 (q := 35) (by decide) (by decide) (r := 28) rfl (fun hc24 => ?_) (fun hq => absurd hq (p4))
  refine oIconst C d4_35 (z := 1) rfl rfl ?_
  refine oGoto C d4_36 (q := 40) (by decide) (by decide) ?_
  refine oIstoreN C d4_40 (Ls' := #[.val (.ref b1), .val (.long y2), .second, .val (.int 1)]) rfl (q := 41) rfl ?_
  refine oAloadN C d4_41 rfl rfl rfl ?_
  refine oGetF C (w22 hw) Via.refl p1 d4_42 rfl ?_
  refine oAloadN C d4_45 rfl rfl rfl ?_
  refine oGetF C (w15 hw) Via.refl p2 d4_46 rfl ?_
  refine oLen C p3 (z := (1 : Int32)) rfl d4_49 rfl ?_
  refine oIcmp_ge C d4_50 (q := 80) (by decide) (by decide) (r := 53) rfl (fun hq => absurd hq ((by decide))) (fun hc50 => ?_)
  refine oAloadN C d4_53 rfl rfl rfl ?_
  refine oGetF C (w15 hw) Via.refl p2 d4_54 rfl ?_
  refine oAloadN C d4_57 rfl rfl rfl ?_
  refine oGetF C (w22 hw) Via.refl p1 d4_58 rfl ?_
  refine oLaload C p3 (by decide) (k := 0) rfl (v := .long y4) rfl d4_61 rfl ?_
  refine oLloadN C d4_62 rfl rfl ?_
  refine oLcmp_lt C d4_63 rfl d4_64 (q := 80) (by decide) (by decide) (r := 67) rfl (fun hq => absurd hq (hc24)) (fun hc63 => ?_)
  refine oAloadN C d4_67 rfl rfl rfl ?_
  refine oDup C d4_68 rfl rfl ?_
  refine oGetF C (w22 hw) Via.refl p1 d4_69 rfl ?_
  refine oIconst C d4_72 (z := 1) rfl rfl ?_
  refine oIadd C d4_73 rfl ?_
  refine oCastI (z' := (1 : Int32)) (by decide) ?_
  refine oPutF C (w22 hw) Via.refl p1 p5 (Or.inl (w23 hw)) (w7 hw) (ty := .int) (by decide) rfl rfl d4_74 rfl p6 fun h1 W1 => ?_
  have f1w := Fld.same W1 p1
  refine oGoto C d4_77 (q := 41) (by decide) (by decide) ?_
  refine oAloadN C d4_41 rfl rfl rfl ?_
  refine oGetF C (w22 hw) Via.refl f1w d4_42 rfl ?_
  refine oAloadN C d4_45 rfl rfl rfl ?_
  have f2 := (Fld.other W1 p2 (Or.inr (oSn0 hw 0 1)))
  refine oGetF C (w15 hw) Via.refl f2 d4_46 rfl ?_
  have f3 := (p3.other W1 p7)
  refine oLen C f3 (z := (1 : Int32)) rfl d4_49 rfl ?_
  refine oIcmp_ge C d4_50 (q := 80) (by decide) (by decide) (r := 53) rfl (fun hc50_1 => ?_) (fun hq => absurd hq ((by decide)))
  refine oIloadN C d4_80 rfl rfl ?_
  refine oRetZ C d4_81 (z' := (1 : Int32)) rfl (by decide) (by decide) ?_
  exact ⟨rfl, ((oKe.refl h0 [] [(b1, Jvm.RoadKit.slotOf Z "com/example/tideline/tideline/Retention" "next" "I")]).wrF W1 (Or.inl (List.mem_of_getElem? (i := 0) rfl))), f1w⟩
theorem oe1001 (c p s0 s1 s2 : Int64) (hcp : c.toInt < p.toInt) (h01 : s1.toInt < s0.toInt) (h12 : s2.toInt < s1.toInt) (a0 : s0 < p) (b0 : ¬ s0 < c) : fExp c p 0 1 s0 s1 s2 = 1 := by
  rw [fExp_def]
  simp only [fReads_def, fAf_def, fN1_def, fN2_def, fN3_def, Int64.lt_iff_toInt_lt] at *
  simp (disch := first | decide | omega) only [if_pos, if_neg]
set_option maxRecDepth 65536 in
set_option maxHeartbeats 40000000 in
theorem ac4_4 (l : Launch) (Z : State) (a0 : Array Value) (hw : oHw a0 Z) (h0 : Heap) (n0 : Nat) (Z0 : n0 ≤ h0.size) (b1 : Addr) (y2 : Int64) (b3 : Addr) (y4 : Int64) (p1 : Fld Z h0 b1 "com/example/tideline/tideline/Retention" "next" "I" (.int 1)) (p2 : Fld Z h0 b1 "com/example/tideline/tideline/Retention" "open" "[J" (.ref b3)) (p3 : oAr Z h0 b3 .long [.long y4]) :
    oMet l Z (⟨"com/example/tideline/tideline/Retention", "keeps", "(J)Z"⟩ : MethodName) prog_43_method_3_code 4 (some .boolean) [] ({ frames := 0, cells := 0, slots := 0, locals := 0 } : Room) 0 0 n0 #[.ref b1, .long y2] h0 (fun v h => v = some (.int 0) ∧ oKe h0 h [] []) := by
  refine oMet.intro (plainFor_of_name pn_593216) (fun m => ef_4 m b1 y2) ?_
  intro op oe os m obl omt ocd C
  refine oAloadN C d4_0 rfl rfl rfl ?_
  refine oGetF C (w22 hw) Via.refl p1 d4_1 rfl ?_
  refine oAloadN C d4_4 rfl rfl rfl ?_
  refine oGetF C (w15 hw) Via.refl p2 d4_5 rfl ?_
  refine oLen C p3 (z := (1 : Int32)) rfl d4_8 rfl ?_
  refine oIcmp_lt C d4_9 (q := 14) (by decide) (by decide) (r := 12) rfl (fun hq => absurd hq ((by decide))) (fun hc9 => ?_)
  refine oIconst C d4_12 (z := 0) rfl rfl ?_
  refine oRetZ C d4_13 (z' := (0 : Int32)) rfl (by decide) (by decide) ?_
  exact ⟨rfl, (oKe.refl h0 [] [])⟩
theorem oe1011 (c p s0 s1 s2 : Int64) (hcp : c.toInt < p.toInt) (h01 : s1.toInt < s0.toInt) (h12 : s2.toInt < s1.toInt) (a0 : ¬ s0 < p) : fExp c p 0 1 s0 s1 s2 = 0 := by
  rw [fExp_def]
  simp only [fReads_def, fAf_def, fN1_def, fN2_def, fN3_def, Int64.lt_iff_toInt_lt] at *
  simp (disch := first | decide | omega) only [if_pos, if_neg]
theorem oe1101 (c p s0 s1 s2 : Int64) (hcp : c.toInt = p.toInt) (h01 : s1.toInt < s0.toInt) (h12 : s2.toInt < s1.toInt) (b0 : ¬ s0 < c) : fExp c p 1 1 s0 s1 s2 = 1 := by
  rw [fExp_def]
  simp only [fReads_def, fAf_def, fN1_def, fN2_def, fN3_def, Int64.lt_iff_toInt_lt] at *
  simp (disch := first | decide | omega) only [if_pos, if_neg]
set_option maxRecDepth 65536 in
set_option maxHeartbeats 40000000 in
theorem ac4_5 (l : Launch) (Z : State) (a0 : Array Value) (hw : oHw a0 Z) (h0 : Heap) (n0 : Nat) (Z0 : n0 ≤ h0.size) (b1 : Addr) (y2 : Int64) (b3 : Addr) (y4 : Int64) (y5 : Int64) (p1 : Fld Z h0 b1 "com/example/tideline/tideline/Retention" "next" "I" (.int 0)) (p2 : Fld Z h0 b1 "com/example/tideline/tideline/Retention" "open" "[J" (.ref b3)) (p3 : oAr Z h0 b3 .long [.long y4, .long y5]) (p4 : y4 < y2) :
    oMet l Z (⟨"com/example/tideline/tideline/Retention", "keeps", "(J)Z"⟩ : MethodName) prog_43_method_3_code 4 (some .boolean) [] ({ frames := 0, cells := 0, slots := 0, locals := 0 } : Room) 0 0 n0 #[.ref b1, .long y2] h0 (fun v h => v = some (.int 1) ∧ oKe h0 h [] []) := by
  refine oMet.intro (plainFor_of_name pn_593216) (fun m => ef_4 m b1 y2) ?_
  intro op oe os m obl omt ocd C
  refine oAloadN C d4_0 rfl rfl rfl ?_
  refine oGetF C (w22 hw) Via.refl p1 d4_1 rfl ?_
  refine oAloadN C d4_4 rfl rfl rfl ?_
  refine oGetF C (w15 hw) Via.refl p2 d4_5 rfl ?_
  refine oLen C p3 (z := (2 : Int32)) rfl d4_8 rfl ?_
  refine oIcmp_lt C d4_9 (q := 14) (by decide) (by decide) (r := 12) rfl (fun hc9 => ?_) (fun hq => absurd hq ((by decide)))
  refine oLloadN C d4_14 rfl rfl ?_
  refine oAloadN C d4_15 rfl rfl rfl ?_
  refine oGetF C (w15 hw) Via.refl p2 d4_16 rfl ?_
  refine oAloadN C d4_19 rfl rfl rfl ?_
  refine oGetF C (w22 hw) Via.refl p1 d4_20 rfl ?_
  refine oLaload C p3 (by decide) (k := 0) rfl (v := .long y4) rfl d4_23 rfl ?_
  refine oLcmp_le C d4_24 rfl d4_25 (q := 35) (by decide) (by decide) (r := 28) rfl (fun hq => absurd hq (not_not_intro p4)) (fun hc24 => ?_)
  refine oAloadN C d4_28 rfl rfl rfl ?_
  refine oGetF C (w22 hw) Via.refl p1 d4_29 rfl ?_
  refine oIf_ne C d4_32 (q := 39) (by decide) (by decide) (r := 35) rfl (fun hq => absurd hq ((by decide))) (fun hc32 => ?_)
  refine oIconst C d4_35 (z := 1) rfl rfl ?_
  refine oGoto C d4_36 (q := 40) (by decide) (by decide) ?_
  refine oIstoreN C d4_40 (Ls' := #[.val (.ref b1), .val (.long y2), .second, .val (.int 1)]) rfl (q := 41) rfl ?_
  refine oAloadN C d4_41 rfl rfl rfl ?_
  refine oGetF C (w22 hw) Via.refl p1 d4_42 rfl ?_
  refine oAloadN C d4_45 rfl rfl rfl ?_
  refine oGetF C (w15 hw) Via.refl p2 d4_46 rfl ?_
  refine oLen C p3 (z := (2 : Int32)) rfl d4_49 rfl ?_
  refine oIcmp_ge C d4_50 (q := 80) (by decide) (by decide) (r := 53) rfl (fun hq => absurd hq ((by decide))) (fun hc50 => ?_)
  refine oAloadN C d4_53 rfl rfl rfl ?_
  refine oGetF C (w15 hw) Via.refl p2 d4_54 rfl ?_
  refine oAloadN C d4_57 rfl rfl rfl ?_
  refine oGetF C (w22 hw) Via.refl p1 d4_58 rfl ?_
  refine oLaload C p3 (by decide) (k := 0) rfl (v := .long y4) rfl d4_61 rfl ?_
  refine oLloadN C d4_62 rfl rfl ?_
  refine oLcmp_lt C d4_63 rfl d4_64 (q := 80) (by decide) (by decide) (r := 67) rfl (fun hc63 => ?_) (fun hq => absurd hq (not_not_intro hc24))
  refine oIloadN C d4_80 rfl rfl ?_
  refine oRetZ C d4_81 (z' := (1 : Int32)) rfl (by decide) (by decide) ?_
  exact ⟨rfl, (oKe.refl h0 [] [])⟩
theorem oe2100 (c p s0 s1 s2 : Int64) (hcp : c.toInt = p.toInt) (h01 : s1.toInt < s0.toInt) (h12 : s2.toInt < s1.toInt) (b0 : s0 < c) : fExp c p 1 2 s0 s1 s2 = 1 := by
  rw [fExp_def]
  simp only [fReads_def, fAf_def, fN1_def, fN2_def, fN3_def, Int64.lt_iff_toInt_lt] at *
  simp (disch := first | decide | omega) only [if_pos, if_neg]
theorem oe2000 (c p s0 s1 s2 : Int64) (hcp : c.toInt < p.toInt) (h01 : s1.toInt < s0.toInt) (h12 : s2.toInt < s1.toInt) (a0 : s0 < p) (b0 : s0 < c) : fExp c p 0 2 s0 s1 s2 = 1 := by
  rw [fExp_def]
  simp only [fReads_def, fAf_def, fN1_def, fN2_def, fN3_def, Int64.lt_iff_toInt_lt] at *
  simp (disch := first | decide | omega) only [if_pos, if_neg]
set_option maxRecDepth 65536 in
set_option maxHeartbeats 40000000 in
theorem ac4_6 (l : Launch) (Z : State) (a0 : Array Value) (hw : oHw a0 Z) (h0 : Heap) (n0 : Nat) (Z0 : n0 ≤ h0.size) (b1 : Addr) (y2 : Int64) (b3 : Addr) (y4 : Int64) (y5 : Int64) (p1 : Fld Z h0 b1 "com/example/tideline/tideline/Retention" "next" "I" (.int 0)) (p2 : Fld Z h0 b1 "com/example/tideline/tideline/Retention" "open" "[J" (.ref b3)) (p3 : oAr Z h0 b3 .long [.long y4, .long y5]) (p4 : ¬ y4 < y2) (p5 : Exa Z h0 b1 "com/example/tideline/tideline/Retention") (p6 : n0 ≤ b1) (p7 : b3 ≠ b1) (p8 : y5 < y2) :
    oMet l Z (⟨"com/example/tideline/tideline/Retention", "keeps", "(J)Z"⟩ : MethodName) prog_43_method_3_code 4 (some .boolean) [] ({ frames := 0, cells := 0, slots := 0, locals := 0 } : Room) 0 0 n0 #[.ref b1, .long y2] h0 (fun v h => v = some (.int 1) ∧ oKe h0 h [] [(b1, Jvm.RoadKit.slotOf Z "com/example/tideline/tideline/Retention" "next" "I")] ∧ Fld Z h b1 "com/example/tideline/tideline/Retention" "next" "I" (.int 1)) := by
  refine oMet.intro (plainFor_of_name pn_593216) (fun m => ef_4 m b1 y2) ?_
  intro op oe os m obl omt ocd C
  refine oAloadN C d4_0 rfl rfl rfl ?_
  refine oGetF C (w22 hw) Via.refl p1 d4_1 rfl ?_
  refine oAloadN C d4_4 rfl rfl rfl ?_
  refine oGetF C (w15 hw) Via.refl p2 d4_5 rfl ?_
  refine oLen C p3 (z := (2 : Int32)) rfl d4_8 rfl ?_
  refine oIcmp_lt C d4_9 (q := 14) (by decide) (by decide) (r := 12) rfl (fun hc9 => ?_) (fun hq => absurd hq ((by decide)))
  refine oLloadN C d4_14 rfl rfl ?_
  refine oAloadN C d4_15 rfl rfl rfl ?_
  refine oGetF C (w15 hw) Via.refl p2 d4_16 rfl ?_
  refine oAloadN C d4_19 rfl rfl rfl ?_
  refine oGetF C (w22 hw) Via.refl p1 d4_20 rfl ?_
  refine oLaload C p3 (by decide) (k := 0) rfl (v := .long y4) rfl d4_23 rfl ?_
  refine oLcmp_le C d4_24 rfl d4_25 (q := 35) (by decide) (by decide) (r := 28) rfl (fun hc24 => ?_) (fun hq => absurd hq (p4))
  refine oIconst C d4_35 (z := 1) rfl rfl ?_
  refine oGoto C d4_36 (q := 40) (by decide) (by decide) ?_
  refine oIstoreN C d4_40 (Ls' := #[.val (.ref b1), .val (.long y2), .second, .val (.int 1)]) rfl (q := 41) rfl ?_
  refine oAloadN C d4_41 rfl rfl rfl ?_
  refine oGetF C (w22 hw) Via.refl p1 d4_42 rfl ?_
  refine oAloadN C d4_45 rfl rfl rfl ?_
  refine oGetF C (w15 hw) Via.refl p2 d4_46 rfl ?_
  refine oLen C p3 (z := (2 : Int32)) rfl d4_49 rfl ?_
  refine oIcmp_ge C d4_50 (q := 80) (by decide) (by decide) (r := 53) rfl (fun hq => absurd hq ((by decide))) (fun hc50 => ?_)
  refine oAloadN C d4_53 rfl rfl rfl ?_
  refine oGetF C (w15 hw) Via.refl p2 d4_54 rfl ?_
  refine oAloadN C d4_57 rfl rfl rfl ?_
  refine oGetF C (w22 hw) Via.refl p1 d4_58 rfl ?_
  refine oLaload C p3 (by decide) (k := 0) rfl (v := .long y4) rfl d4_61 rfl ?_
  refine oLloadN C d4_62 rfl rfl ?_
  refine oLcmp_lt C d4_63 rfl d4_64 (q := 80) (by decide) (by decide) (r := 67) rfl (fun hq => absurd hq (hc24)) (fun hc63 => ?_)
  refine oAloadN C d4_67 rfl rfl rfl ?_
  refine oDup C d4_68 rfl rfl ?_
  refine oGetF C (w22 hw) Via.refl p1 d4_69 rfl ?_
  refine oIconst C d4_72 (z := 1) rfl rfl ?_
  refine oIadd C d4_73 rfl ?_
  refine oCastI (z' := (1 : Int32)) (by decide) ?_
  refine oPutF C (w22 hw) Via.refl p1 p5 (Or.inl (w23 hw)) (w7 hw) (ty := .int) (by decide) rfl rfl d4_74 rfl p6 fun h1 W1 => ?_
  have f1w := Fld.same W1 p1
  refine oGoto C d4_77 (q := 41) (by decide) (by decide) ?_
  refine oAloadN C d4_41 rfl rfl rfl ?_
  refine oGetF C (w22 hw) Via.refl f1w d4_42 rfl ?_
  refine oAloadN C d4_45 rfl rfl rfl ?_
  have f2 := (Fld.other W1 p2 (Or.inr (oSn0 hw 0 1)))
  refine oGetF C (w15 hw) Via.refl f2 d4_46 rfl ?_
  have f3 := (p3.other W1 p7)
  refine oLen C f3 (z := (2 : Int32)) rfl d4_49 rfl ?_
  refine oIcmp_ge C d4_50 (q := 80) (by decide) (by decide) (r := 53) rfl (fun hq => absurd hq ((by decide))) (fun hc50_1 => ?_)
  refine oAloadN C d4_53 rfl rfl rfl ?_
  refine oGetF C (w15 hw) Via.refl f2 d4_54 rfl ?_
  refine oAloadN C d4_57 rfl rfl rfl ?_
  refine oGetF C (w22 hw) Via.refl f1w d4_58 rfl ?_
  refine oLaload C f3 (by decide) (k := 1) rfl (v := .long y5) rfl d4_61 rfl ?_
  refine oLloadN C d4_62 rfl rfl ?_
  refine oLcmp_lt C d4_63 rfl d4_64 (q := 80) (by decide) (by decide) (r := 67) rfl (fun hc63_1 => ?_) (fun hq => absurd hq (not_not_intro p8))
  refine oIloadN C d4_80 rfl rfl ?_
  refine oRetZ C d4_81 (z' := (1 : Int32)) rfl (by decide) (by decide) ?_
  exact ⟨rfl, ((oKe.refl h0 [] [(b1, Jvm.RoadKit.slotOf Z "com/example/tideline/tideline/Retention" "next" "I")]).wrF W1 (Or.inl (List.mem_of_getElem? (i := 0) rfl))), f1w⟩
theorem oe2001 (c p s0 s1 s2 : Int64) (hcp : c.toInt < p.toInt) (h01 : s1.toInt < s0.toInt) (h12 : s2.toInt < s1.toInt) (a0 : s0 < p) (b0 : ¬ s0 < c) (b1 : s1 < c) : fExp c p 0 2 s0 s1 s2 = 1 := by
  rw [fExp_def]
  simp only [fReads_def, fAf_def, fN1_def, fN2_def, fN3_def, Int64.lt_iff_toInt_lt] at *
  simp (disch := first | decide | omega) only [if_pos, if_neg]
set_option maxRecDepth 65536 in
set_option maxHeartbeats 40000000 in
theorem ac4_7 (l : Launch) (Z : State) (a0 : Array Value) (hw : oHw a0 Z) (h0 : Heap) (n0 : Nat) (Z0 : n0 ≤ h0.size) (b1 : Addr) (y2 : Int64) (b3 : Addr) (y4 : Int64) (y5 : Int64) (p1 : Fld Z h0 b1 "com/example/tideline/tideline/Retention" "next" "I" (.int 0)) (p2 : Fld Z h0 b1 "com/example/tideline/tideline/Retention" "open" "[J" (.ref b3)) (p3 : oAr Z h0 b3 .long [.long y4, .long y5]) (p4 : ¬ y4 < y2) (p5 : Exa Z h0 b1 "com/example/tideline/tideline/Retention") (p6 : n0 ≤ b1) (p7 : b3 ≠ b1) (p8 : ¬ y5 < y2) :
    oMet l Z (⟨"com/example/tideline/tideline/Retention", "keeps", "(J)Z"⟩ : MethodName) prog_43_method_3_code 4 (some .boolean) [] ({ frames := 0, cells := 0, slots := 0, locals := 0 } : Room) 0 0 n0 #[.ref b1, .long y2] h0 (fun v h => v = some (.int 1) ∧ oKe h0 h [] [(b1, Jvm.RoadKit.slotOf Z "com/example/tideline/tideline/Retention" "next" "I")] ∧ Fld Z h b1 "com/example/tideline/tideline/Retention" "next" "I" (.int 2)) := by
  refine oMet.intro (plainFor_of_name pn_593216) (fun m => ef_4 m b1 y2) ?_
  intro op oe os m obl omt ocd C
  refine oAloadN C d4_0 rfl rfl rfl ?_
  refine oGetF C (w22 hw) Via.refl p1 d4_1 rfl ?_
  refine oAloadN C d4_4 rfl rfl rfl ?_
  refine oGetF C (w15 hw) Via.refl p2 d4_5 rfl ?_
  refine oLen C p3 (z := (2 : Int32)) rfl d4_8 rfl ?_
  refine oIcmp_lt C d4_9 (q := 14) (by decide) (by decide) (r := 12) rfl (fun hc9 => ?_) (fun hq => absurd hq ((by decide)))
  refine oLloadN C d4_14 rfl rfl ?_
  refine oAloadN C d4_15 rfl rfl rfl ?_
  refine oGetF C (w15 hw) Via.refl p2 d4_16 rfl ?_
  refine oAloadN C d4_19 rfl rfl rfl ?_
  refine oGetF C (w22 hw) Via.refl p1 d4_20 rfl ?_
  refine oLaload C p3 (by decide) (k := 0) rfl (v := .long y4) rfl d4_23 rfl ?_
  refine oLcmp_le C d4_24 rfl d4_25 (q := 35) (by decide) (by decide) (r := 28) rfl (fun hc24 => ?_) (fun hq => absurd hq (p4))
  refine oIconst C d4_35 (z := 1) rfl rfl ?_
  refine oGoto C d4_36 (q := 40) (by decide) (by decide) ?_
  refine oIstoreN C d4_40 (Ls' := #[.val (.ref b1), .val (.long y2), .second, .val (.int 1)]) rfl (q := 41) rfl ?_
  refine oAloadN C d4_41 rfl rfl rfl ?_
  refine oGetF C (w22 hw) Via.refl p1 d4_42 rfl ?_
  refine oAloadN C d4_45 rfl rfl rfl ?_
  refine oGetF C (w15 hw) Via.refl p2 d4_46 rfl ?_
  refine oLen C p3 (z := (2 : Int32)) rfl d4_49 rfl ?_
  refine oIcmp_ge C d4_50 (q := 80) (by decide) (by decide) (r := 53) rfl (fun hq => absurd hq ((by decide))) (fun hc50 => ?_)
  refine oAloadN C d4_53 rfl rfl rfl ?_
  refine oGetF C (w15 hw) Via.refl p2 d4_54 rfl ?_
  refine oAloadN C d4_57 rfl rfl rfl ?_
  refine oGetF C (w22 hw) Via.refl p1 d4_58 rfl ?_
  refine oLaload C p3 (by decide) (k := 0) rfl (v := .long y4) rfl d4_61 rfl ?_
  refine oLloadN C d4_62 rfl rfl ?_
  refine oLcmp_lt C d4_63 rfl d4_64 (q := 80) (by decide) (by decide) (r := 67) rfl (fun hq => absurd hq (hc24)) (fun hc63 => ?_)
  refine oAloadN C d4_67 rfl rfl rfl ?_
  refine oDup C d4_68 rfl rfl ?_
  refine oGetF C (w22 hw) Via.refl p1 d4_69 rfl ?_
  refine oIconst C d4_72 (z := 1) rfl rfl ?_
  refine oIadd C d4_73 rfl ?_
  refine oCastI (z' := (1 : Int32)) (by decide) ?_
  refine oPutF C (w22 hw) Via.refl p1 p5 (Or.inl (w23 hw)) (w7 hw) (ty := .int) (by decide) rfl rfl d4_74 rfl p6 fun h1 W1 => ?_
  have f1w := Fld.same W1 p1
  refine oGoto C d4_77 (q := 41) (by decide) (by decide) ?_
  refine oAloadN C d4_41 rfl rfl rfl ?_
  refine oGetF C (w22 hw) Via.refl f1w d4_42 rfl ?_
  refine oAloadN C d4_45 rfl rfl rfl ?_
  have f2 := (Fld.other W1 p2 (Or.inr (oSn0 hw 0 1)))
  refine oGetF C (w15 hw) Via.refl f2 d4_46 rfl ?_
  have f3 := (p3.other W1 p7)
  refine oLen C f3 (z := (2 : Int32)) rfl d4_49 rfl ?_
  refine oIcmp_ge C d4_50 (q := 80) (by decide) (by decide) (r := 53) rfl (fun hq => absurd hq ((by decide))) (fun hc50_1 => ?_)
  refine oAloadN C d4_53 rfl rfl rfl ?_
  refine oGetF C (w15 hw) Via.refl f2 d4_54 rfl ?_
  refine oAloadN C d4_57 rfl rfl rfl ?_
  refine oGetF C (w22 hw) Via.refl f1w d4_58 rfl ?_
  refine oLaload C f3 (by decide) (k := 1) rfl (v := .long y5) rfl d4_61 rfl ?_
  refine oLloadN C d4_62 rfl rfl ?_
  refine oLcmp_lt C d4_63 rfl d4_64 (q := 80) (by decide) (by decide) (r := 67) rfl (fun hq => absurd hq (p8)) (fun hc63_1 => ?_)
  refine oAloadN C d4_67 rfl rfl rfl ?_
  refine oDup C d4_68 rfl rfl ?_
  refine oGetF C (w22 hw) Via.refl f1w d4_69 rfl ?_
  refine oIconst C d4_72 (z := 1) rfl rfl ?_
  refine oIadd C d4_73 rfl ?_
  refine oCastI (z' := (2 : Int32)) (by decide) ?_
  have f4 := (Exa.wr W1 p5)
  refine oPutF C (w22 hw) Via.refl f1w f4 (Or.inl (w23 hw)) (w7 hw) (ty := .int) (by decide) rfl rfl d4_74 rfl p6 fun h5 W5 => ?_
  have f5w := Fld.same W5 f1w
  refine oGoto C d4_77 (q := 41) (by decide) (by decide) ?_
  refine oAloadN C d4_41 rfl rfl rfl ?_
  refine oGetF C (w22 hw) Via.refl f5w d4_42 rfl ?_
  refine oAloadN C d4_45 rfl rfl rfl ?_
  have f6 := (Fld.other W5 f2 (Or.inr (oSn0 hw 0 1)))
  refine oGetF C (w15 hw) Via.refl f6 d4_46 rfl ?_
  have f7 := (f3.other W5 p7)
  refine oLen C f7 (z := (2 : Int32)) rfl d4_49 rfl ?_
  refine oIcmp_ge C d4_50 (q := 80) (by decide) (by decide) (r := 53) rfl (fun hc50_2 => ?_) (fun hq => absurd hq ((by decide)))
  refine oIloadN C d4_80 rfl rfl ?_
  refine oRetZ C d4_81 (z' := (1 : Int32)) rfl (by decide) (by decide) ?_
  exact ⟨rfl, (((oKe.refl h0 [] [(b1, Jvm.RoadKit.slotOf Z "com/example/tideline/tideline/Retention" "next" "I")]).wrF W1 (Or.inl (List.mem_of_getElem? (i := 0) rfl))).wrF W5 (Or.inl (List.mem_of_getElem? (i := 0) rfl))), f5w⟩
theorem oe2002 (c p s0 s1 s2 : Int64) (hcp : c.toInt < p.toInt) (h01 : s1.toInt < s0.toInt) (h12 : s2.toInt < s1.toInt) (a0 : s0 < p) (b0 : ¬ s0 < c) (b1 : ¬ s1 < c) : fExp c p 0 2 s0 s1 s2 = 1 := by
  rw [fExp_def]
  simp only [fReads_def, fAf_def, fN1_def, fN2_def, fN3_def, Int64.lt_iff_toInt_lt] at *
  simp (disch := first | decide | omega) only [if_pos, if_neg]
theorem d4_39 : decode prog_43_method_3_code 39 = .ok (.iconst 0, 1) := by decide +kernel
set_option maxRecDepth 65536 in
set_option maxHeartbeats 40000000 in
theorem ac4_8 (l : Launch) (Z : State) (a0 : Array Value) (hw : oHw a0 Z) (h0 : Heap) (n0 : Nat) (Z0 : n0 ≤ h0.size) (b1 : Addr) (y2 : Int64) (b3 : Addr) (y4 : Int64) (y5 : Int64) (p1 : Fld Z h0 b1 "com/example/tideline/tideline/Retention" "next" "I" (.int 1)) (p2 : Fld Z h0 b1 "com/example/tideline/tideline/Retention" "open" "[J" (.ref b3)) (p3 : oAr Z h0 b3 .long [.long y4, .long y5]) (p4 : y5 < y2) :
    oMet l Z (⟨"com/example/tideline/tideline/Retention", "keeps", "(J)Z"⟩ : MethodName) prog_43_method_3_code 4 (some .boolean) [] ({ frames := 0, cells := 0, slots := 0, locals := 0 } : Room) 0 0 n0 #[.ref b1, .long y2] h0 (fun v h => v = some (.int 0) ∧ oKe h0 h [] []) := by
  refine oMet.intro (plainFor_of_name pn_593216) (fun m => ef_4 m b1 y2) ?_
  intro op oe os m obl omt ocd C
  refine oAloadN C d4_0 rfl rfl rfl ?_
  refine oGetF C (w22 hw) Via.refl p1 d4_1 rfl ?_
  refine oAloadN C d4_4 rfl rfl rfl ?_
  refine oGetF C (w15 hw) Via.refl p2 d4_5 rfl ?_
  refine oLen C p3 (z := (2 : Int32)) rfl d4_8 rfl ?_
  refine oIcmp_lt C d4_9 (q := 14) (by decide) (by decide) (r := 12) rfl (fun hc9 => ?_) (fun hq => absurd hq ((by decide)))
  refine oLloadN C d4_14 rfl rfl ?_
  refine oAloadN C d4_15 rfl rfl rfl ?_
  refine oGetF C (w15 hw) Via.refl p2 d4_16 rfl ?_
  refine oAloadN C d4_19 rfl rfl rfl ?_
  refine oGetF C (w22 hw) Via.refl p1 d4_20 rfl ?_
  refine oLaload C p3 (by decide) (k := 1) rfl (v := .long y5) rfl d4_23 rfl ?_
  refine oLcmp_le C d4_24 rfl d4_25 (q := 35) (by decide) (by decide) (r := 28) rfl (fun hq => absurd hq (not_not_intro p4)) (fun hc24 => ?_)
  refine oAloadN C d4_28 rfl rfl rfl ?_
  refine oGetF C (w22 hw) Via.refl p1 d4_29 rfl ?_
  refine oIf_ne C d4_32 (q := 39) (by decide) (by decide) (r := 35) rfl (fun hc32 => ?_) (fun hq => absurd hq ((by decide)))
  refine oIconst C d4_39 (z := 0) rfl rfl ?_
  refine oIstoreN C d4_40 (Ls' := #[.val (.ref b1), .val (.long y2), .second, .val (.int 0)]) rfl (q := 41) rfl ?_
  refine oAloadN C d4_41 rfl rfl rfl ?_
  refine oGetF C (w22 hw) Via.refl p1 d4_42 rfl ?_
  refine oAloadN C d4_45 rfl rfl rfl ?_
  refine oGetF C (w15 hw) Via.refl p2 d4_46 rfl ?_
  refine oLen C p3 (z := (2 : Int32)) rfl d4_49 rfl ?_
  refine oIcmp_ge C d4_50 (q := 80) (by decide) (by decide) (r := 53) rfl (fun hq => absurd hq ((by decide))) (fun hc50 => ?_)
  refine oAloadN C d4_53 rfl rfl rfl ?_
  refine oGetF C (w15 hw) Via.refl p2 d4_54 rfl ?_
  refine oAloadN C d4_57 rfl rfl rfl ?_
  refine oGetF C (w22 hw) Via.refl p1 d4_58 rfl ?_
  refine oLaload C p3 (by decide) (k := 1) rfl (v := .long y5) rfl d4_61 rfl ?_
  refine oLloadN C d4_62 rfl rfl ?_
  refine oLcmp_lt C d4_63 rfl d4_64 (q := 80) (by decide) (by decide) (r := 67) rfl (fun hc63 => ?_) (fun hq => absurd hq (not_not_intro hc24))
  refine oIloadN C d4_80 rfl rfl ?_
  refine oRetZ C d4_81 (z' := (0 : Int32)) rfl (by decide) (by decide) ?_
  exact ⟨rfl, (oKe.refl h0 [] [])⟩
theorem oe2011 (c p s0 s1 s2 : Int64) (hcp : c.toInt < p.toInt) (h01 : s1.toInt < s0.toInt) (h12 : s2.toInt < s1.toInt) (a0 : ¬ s0 < p) (a1 : s1 < p) (b1 : s1 < c) : fExp c p 0 2 s0 s1 s2 = 0 := by
  rw [fExp_def]
  simp only [fReads_def, fAf_def, fN1_def, fN2_def, fN3_def, Int64.lt_iff_toInt_lt] at *
  simp (disch := first | decide | omega) only [if_pos, if_neg]
set_option maxRecDepth 65536 in
set_option maxHeartbeats 40000000 in
theorem ac4_9 (l : Launch) (Z : State) (a0 : Array Value) (hw : oHw a0 Z) (h0 : Heap) (n0 : Nat) (Z0 : n0 ≤ h0.size) (b1 : Addr) (y2 : Int64) (b3 : Addr) (y4 : Int64) (y5 : Int64) (p1 : Fld Z h0 b1 "com/example/tideline/tideline/Retention" "next" "I" (.int 1)) (p2 : Fld Z h0 b1 "com/example/tideline/tideline/Retention" "open" "[J" (.ref b3)) (p3 : oAr Z h0 b3 .long [.long y4, .long y5]) (p4 : ¬ y5 < y2) (p5 : Exa Z h0 b1 "com/example/tideline/tideline/Retention") (p6 : n0 ≤ b1) (p7 : b3 ≠ b1) :
    oMet l Z (⟨"com/example/tideline/tideline/Retention", "keeps", "(J)Z"⟩ : MethodName) prog_43_method_3_code 4 (some .boolean) [] ({ frames := 0, cells := 0, slots := 0, locals := 0 } : Room) 0 0 n0 #[.ref b1, .long y2] h0 (fun v h => v = some (.int 1) ∧ oKe h0 h [] [(b1, Jvm.RoadKit.slotOf Z "com/example/tideline/tideline/Retention" "next" "I")] ∧ Fld Z h b1 "com/example/tideline/tideline/Retention" "next" "I" (.int 2)) := by
  refine oMet.intro (plainFor_of_name pn_593216) (fun m => ef_4 m b1 y2) ?_
  intro op oe os m obl omt ocd C
  refine oAloadN C d4_0 rfl rfl rfl ?_
  refine oGetF C (w22 hw) Via.refl p1 d4_1 rfl ?_
  refine oAloadN C d4_4 rfl rfl rfl ?_
  refine oGetF C (w15 hw) Via.refl p2 d4_5 rfl ?_
  refine oLen C p3 (z := (2 : Int32)) rfl d4_8 rfl ?_
  refine oIcmp_lt C d4_9 (q := 14) (by decide) (by decide) (r := 12) rfl (fun hc9 => ?_) (fun hq => absurd hq ((by decide)))
  refine oLloadN C d4_14 rfl rfl ?_
  refine oAloadN C d4_15 rfl rfl rfl ?_
  refine oGetF C (w15 hw) Via.refl p2 d4_16 rfl ?_
  refine oAloadN C d4_19 rfl rfl rfl ?_
  refine oGetF C (w22 hw) Via.refl p1 d4_20 rfl ?_
  refine oLaload C p3 (by decide) (k := 1) rfl (v := .long y5) rfl d4_23 rfl ?_
  refine oLcmp_le C d4_24 rfl d4_25 (q := 35) (by decide) (by decide) (r := 28) rfl (fun hc24 => ?_) (fun hq => absurd hq (p4))
  refine oIconst C d4_35 (z := 1) rfl rfl ?_
  refine oGoto C d4_36 (q := 40) (by decide) (by decide) ?_
  refine oIstoreN C d4_40 (Ls' := #[.val (.ref b1), .val (.long y2), .second, .val (.int 1)]) rfl (q := 41) rfl ?_
  refine oAloadN C d4_41 rfl rfl rfl ?_
  refine oGetF C (w22 hw) Via.refl p1 d4_42 rfl ?_
  refine oAloadN C d4_45 rfl rfl rfl ?_
  refine oGetF C (w15 hw) Via.refl p2 d4_46 rfl ?_
  refine oLen C p3 (z := (2 : Int32)) rfl d4_49 rfl ?_
  refine oIcmp_ge C d4_50 (q := 80) (by decide) (by decide) (r := 53) rfl (fun hq => absurd hq ((by decide))) (fun hc50 => ?_)
  refine oAloadN C d4_53 rfl rfl rfl ?_
  refine oGetF C (w15 hw) Via.refl p2 d4_54 rfl ?_
  refine oAloadN C d4_57 rfl rfl rfl ?_
  refine oGetF C (w22 hw) Via.refl p1 d4_58 rfl ?_
  refine oLaload C p3 (by decide) (k := 1) rfl (v := .long y5) rfl d4_61 rfl ?_
  refine oLloadN C d4_62 rfl rfl ?_
  refine oLcmp_lt C d4_63 rfl d4_64 (q := 80) (by decide) (by decide) (r := 67) rfl (fun hq => absurd hq (hc24)) (fun hc63 => ?_)
  refine oAloadN C d4_67 rfl rfl rfl ?_
  refine oDup C d4_68 rfl rfl ?_
  refine oGetF C (w22 hw) Via.refl p1 d4_69 rfl ?_
  refine oIconst C d4_72 (z := 1) rfl rfl ?_
  refine oIadd C d4_73 rfl ?_
  refine oCastI (z' := (2 : Int32)) (by decide) ?_
  refine oPutF C (w22 hw) Via.refl p1 p5 (Or.inl (w23 hw)) (w7 hw) (ty := .int) (by decide) rfl rfl d4_74 rfl p6 fun h1 W1 => ?_
  have f1w := Fld.same W1 p1
  refine oGoto C d4_77 (q := 41) (by decide) (by decide) ?_
  refine oAloadN C d4_41 rfl rfl rfl ?_
  refine oGetF C (w22 hw) Via.refl f1w d4_42 rfl ?_
  refine oAloadN C d4_45 rfl rfl rfl ?_
  have f2 := (Fld.other W1 p2 (Or.inr (oSn0 hw 0 1)))
  refine oGetF C (w15 hw) Via.refl f2 d4_46 rfl ?_
  have f3 := (p3.other W1 p7)
  refine oLen C f3 (z := (2 : Int32)) rfl d4_49 rfl ?_
  refine oIcmp_ge C d4_50 (q := 80) (by decide) (by decide) (r := 53) rfl (fun hc50_1 => ?_) (fun hq => absurd hq ((by decide)))
  refine oIloadN C d4_80 rfl rfl ?_
  refine oRetZ C d4_81 (z' := (1 : Int32)) rfl (by decide) (by decide) ?_
  exact ⟨rfl, ((oKe.refl h0 [] [(b1, Jvm.RoadKit.slotOf Z "com/example/tideline/tideline/Retention" "next" "I")]).wrF W1 (Or.inl (List.mem_of_getElem? (i := 0) rfl))), f1w⟩
theorem oe2012 (c p s0 s1 s2 : Int64) (hcp : c.toInt < p.toInt) (h01 : s1.toInt < s0.toInt) (h12 : s2.toInt < s1.toInt) (a0 : ¬ s0 < p) (a1 : s1 < p) (b1 : ¬ s1 < c) : fExp c p 0 2 s0 s1 s2 = 1 := by
  rw [fExp_def]
  simp only [fReads_def, fAf_def, fN1_def, fN2_def, fN3_def, Int64.lt_iff_toInt_lt] at *
  simp (disch := first | decide | omega) only [if_pos, if_neg]
set_option maxRecDepth 65536 in
set_option maxHeartbeats 40000000 in
theorem ac4_10 (l : Launch) (Z : State) (a0 : Array Value) (hw : oHw a0 Z) (h0 : Heap) (n0 : Nat) (Z0 : n0 ≤ h0.size) (b1 : Addr) (y2 : Int64) (b3 : Addr) (y4 : Int64) (y5 : Int64) (p1 : Fld Z h0 b1 "com/example/tideline/tideline/Retention" "next" "I" (.int 2)) (p2 : Fld Z h0 b1 "com/example/tideline/tideline/Retention" "open" "[J" (.ref b3)) (p3 : oAr Z h0 b3 .long [.long y4, .long y5]) :
    oMet l Z (⟨"com/example/tideline/tideline/Retention", "keeps", "(J)Z"⟩ : MethodName) prog_43_method_3_code 4 (some .boolean) [] ({ frames := 0, cells := 0, slots := 0, locals := 0 } : Room) 0 0 n0 #[.ref b1, .long y2] h0 (fun v h => v = some (.int 0) ∧ oKe h0 h [] []) := by
  refine oMet.intro (plainFor_of_name pn_593216) (fun m => ef_4 m b1 y2) ?_
  intro op oe os m obl omt ocd C
  refine oAloadN C d4_0 rfl rfl rfl ?_
  refine oGetF C (w22 hw) Via.refl p1 d4_1 rfl ?_
  refine oAloadN C d4_4 rfl rfl rfl ?_
  refine oGetF C (w15 hw) Via.refl p2 d4_5 rfl ?_
  refine oLen C p3 (z := (2 : Int32)) rfl d4_8 rfl ?_
  refine oIcmp_lt C d4_9 (q := 14) (by decide) (by decide) (r := 12) rfl (fun hq => absurd hq ((by decide))) (fun hc9 => ?_)
  refine oIconst C d4_12 (z := 0) rfl rfl ?_
  refine oRetZ C d4_13 (z' := (0 : Int32)) rfl (by decide) (by decide) ?_
  exact ⟨rfl, (oKe.refl h0 [] [])⟩
theorem oe2022 (c p s0 s1 s2 : Int64) (hcp : c.toInt < p.toInt) (h01 : s1.toInt < s0.toInt) (h12 : s2.toInt < s1.toInt) (a0 : ¬ s0 < p) (a1 : ¬ s1 < p) : fExp c p 0 2 s0 s1 s2 = 0 := by
  rw [fExp_def]
  simp only [fReads_def, fAf_def, fN1_def, fN2_def, fN3_def, Int64.lt_iff_toInt_lt] at *
  simp (disch := first | decide | omega) only [if_pos, if_neg]
theorem oe2101 (c p s0 s1 s2 : Int64) (hcp : c.toInt = p.toInt) (h01 : s1.toInt < s0.toInt) (h12 : s2.toInt < s1.toInt) (b0 : ¬ s0 < c) (b1 : s1 < c) : fExp c p 1 2 s0 s1 s2 = 1 := by
  rw [fExp_def]
  simp only [fReads_def, fAf_def, fN1_def, fN2_def, fN3_def, Int64.lt_iff_toInt_lt] at *
  simp (disch := first | decide | omega) only [if_pos, if_neg]
theorem oe2102 (c p s0 s1 s2 : Int64) (hcp : c.toInt = p.toInt) (h01 : s1.toInt < s0.toInt) (h12 : s2.toInt < s1.toInt) (b0 : ¬ s0 < c) (b1 : ¬ s1 < c) : fExp c p 1 2 s0 s1 s2 = 1 := by
  rw [fExp_def]
  simp only [fReads_def, fAf_def, fN1_def, fN2_def, fN3_def, Int64.lt_iff_toInt_lt] at *
  simp (disch := first | decide | omega) only [if_pos, if_neg]
set_option maxRecDepth 65536 in
set_option maxHeartbeats 40000000 in
theorem ac4_11 (l : Launch) (Z : State) (a0 : Array Value) (hw : oHw a0 Z) (h0 : Heap) (n0 : Nat) (Z0 : n0 ≤ h0.size) (b1 : Addr) (y2 : Int64) (b3 : Addr) (y4 : Int64) (y5 : Int64) (y6 : Int64) (p1 : Fld Z h0 b1 "com/example/tideline/tideline/Retention" "next" "I" (.int 0)) (p2 : Fld Z h0 b1 "com/example/tideline/tideline/Retention" "open" "[J" (.ref b3)) (p3 : oAr Z h0 b3 .long [.long y4, .long y5, .long y6]) (p4 : y4 < y2) :
    oMet l Z (⟨"com/example/tideline/tideline/Retention", "keeps", "(J)Z"⟩ : MethodName) prog_43_method_3_code 4 (some .boolean) [] ({ frames := 0, cells := 0, slots := 0, locals := 0 } : Room) 0 0 n0 #[.ref b1, .long y2] h0 (fun v h => v = some (.int 1) ∧ oKe h0 h [] []) := by
  refine oMet.intro (plainFor_of_name pn_593216) (fun m => ef_4 m b1 y2) ?_
  intro op oe os m obl omt ocd C
  refine oAloadN C d4_0 rfl rfl rfl ?_
  refine oGetF C (w22 hw) Via.refl p1 d4_1 rfl ?_
  refine oAloadN C d4_4 rfl rfl rfl ?_
  refine oGetF C (w15 hw) Via.refl p2 d4_5 rfl ?_
  refine oLen C p3 (z := (3 : Int32)) rfl d4_8 rfl ?_
  refine oIcmp_lt C d4_9 (q := 14) (by decide) (by decide) (r := 12) rfl (fun hc9 => ?_) (fun hq => absurd hq ((by decide)))
  refine oLloadN C d4_14 rfl rfl ?_
  refine oAloadN C d4_15 rfl rfl rfl ?_
  refine oGetF C (w15 hw) Via.refl p2 d4_16 rfl ?_
  refine oAloadN C d4_19 rfl rfl rfl ?_
  refine oGetF C (w22 hw) Via.refl p1 d4_20 rfl ?_
  refine oLaload C p3 (by decide) (k := 0) rfl (v := .long y4) rfl d4_23 rfl ?_
  refine oLcmp_le C d4_24 rfl d4_25 (q := 35) (by decide) (by decide) (r := 28) rfl (fun hq => absurd hq (not_not_intro p4)) (fun hc24 => ?_)
  refine oAloadN C d4_28 rfl rfl rfl ?_
  refine oGetF C (w22 hw) Via.refl p1 d4_29 rfl ?_
  refine oIf_ne C d4_32 (q := 39) (by decide) (by decide) (r := 35) rfl (fun hq => absurd hq ((by decide))) (fun hc32 => ?_)
  refine oIconst C d4_35 (z := 1) rfl rfl ?_
  refine oGoto C d4_36 (q := 40) (by decide) (by decide) ?_
  refine oIstoreN C d4_40 (Ls' := #[.val (.ref b1), .val (.long y2), .second, .val (.int 1)]) rfl (q := 41) rfl ?_
  refine oAloadN C d4_41 rfl rfl rfl ?_
  refine oGetF C (w22 hw) Via.refl p1 d4_42 rfl ?_
  refine oAloadN C d4_45 rfl rfl rfl ?_
  refine oGetF C (w15 hw) Via.refl p2 d4_46 rfl ?_
  refine oLen C p3 (z := (3 : Int32)) rfl d4_49 rfl ?_
  refine oIcmp_ge C d4_50 (q := 80) (by decide) (by decide) (r := 53) rfl (fun hq => absurd hq ((by decide))) (fun hc50 => ?_)
  refine oAloadN C d4_53 rfl rfl rfl ?_
  refine oGetF C (w15 hw) Via.refl p2 d4_54 rfl ?_
  refine oAloadN C d4_57 rfl rfl rfl ?_
  refine oGetF C (w22 hw) Via.refl p1 d4_58 rfl ?_
  refine oLaload C p3 (by decide) (k := 0) rfl (v := .long y4) rfl d4_61 rfl ?_
  refine oLloadN C d4_62 rfl rfl ?_
  refine oLcmp_lt C d4_63 rfl d4_64 (q := 80) (by decide) (by decide) (r := 67) rfl (fun hc63 => ?_) (fun hq => absurd hq (not_not_intro hc24))
  refine oIloadN C d4_80 rfl rfl ?_
  refine oRetZ C d4_81 (z' := (1 : Int32)) rfl (by decide) (by decide) ?_
  exact ⟨rfl, (oKe.refl h0 [] [])⟩
theorem oe3100 (c p s0 s1 s2 : Int64) (hcp : c.toInt = p.toInt) (h01 : s1.toInt < s0.toInt) (h12 : s2.toInt < s1.toInt) (b0 : s0 < c) : fExp c p 1 3 s0 s1 s2 = 1 := by
  rw [fExp_def]
  simp only [fReads_def, fAf_def, fN1_def, fN2_def, fN3_def, Int64.lt_iff_toInt_lt] at *
  simp (disch := first | decide | omega) only [if_pos, if_neg]
theorem oe3000 (c p s0 s1 s2 : Int64) (hcp : c.toInt < p.toInt) (h01 : s1.toInt < s0.toInt) (h12 : s2.toInt < s1.toInt) (a0 : s0 < p) (b0 : s0 < c) : fExp c p 0 3 s0 s1 s2 = 1 := by
  rw [fExp_def]
  simp only [fReads_def, fAf_def, fN1_def, fN2_def, fN3_def, Int64.lt_iff_toInt_lt] at *
  simp (disch := first | decide | omega) only [if_pos, if_neg]
set_option maxRecDepth 65536 in
set_option maxHeartbeats 40000000 in
theorem ac4_12 (l : Launch) (Z : State) (a0 : Array Value) (hw : oHw a0 Z) (h0 : Heap) (n0 : Nat) (Z0 : n0 ≤ h0.size) (b1 : Addr) (y2 : Int64) (b3 : Addr) (y4 : Int64) (y5 : Int64) (y6 : Int64) (p1 : Fld Z h0 b1 "com/example/tideline/tideline/Retention" "next" "I" (.int 0)) (p2 : Fld Z h0 b1 "com/example/tideline/tideline/Retention" "open" "[J" (.ref b3)) (p3 : oAr Z h0 b3 .long [.long y4, .long y5, .long y6]) (p4 : ¬ y4 < y2) (p5 : Exa Z h0 b1 "com/example/tideline/tideline/Retention") (p6 : n0 ≤ b1) (p7 : b3 ≠ b1) (p8 : y5 < y2) :
    oMet l Z (⟨"com/example/tideline/tideline/Retention", "keeps", "(J)Z"⟩ : MethodName) prog_43_method_3_code 4 (some .boolean) [] ({ frames := 0, cells := 0, slots := 0, locals := 0 } : Room) 0 0 n0 #[.ref b1, .long y2] h0 (fun v h => v = some (.int 1) ∧ oKe h0 h [] [(b1, Jvm.RoadKit.slotOf Z "com/example/tideline/tideline/Retention" "next" "I")] ∧ Fld Z h b1 "com/example/tideline/tideline/Retention" "next" "I" (.int 1)) := by
  refine oMet.intro (plainFor_of_name pn_593216) (fun m => ef_4 m b1 y2) ?_
  intro op oe os m obl omt ocd C
  refine oAloadN C d4_0 rfl rfl rfl ?_
  refine oGetF C (w22 hw) Via.refl p1 d4_1 rfl ?_
  refine oAloadN C d4_4 rfl rfl rfl ?_
  refine oGetF C (w15 hw) Via.refl p2 d4_5 rfl ?_
  refine oLen C p3 (z := (3 : Int32)) rfl d4_8 rfl ?_
  refine oIcmp_lt C d4_9 (q := 14) (by decide) (by decide) (r := 12) rfl (fun hc9 => ?_) (fun hq => absurd hq ((by decide)))
  refine oLloadN C d4_14 rfl rfl ?_
  refine oAloadN C d4_15 rfl rfl rfl ?_
  refine oGetF C (w15 hw) Via.refl p2 d4_16 rfl ?_
  refine oAloadN C d4_19 rfl rfl rfl ?_
  refine oGetF C (w22 hw) Via.refl p1 d4_20 rfl ?_
  refine oLaload C p3 (by decide) (k := 0) rfl (v := .long y4) rfl d4_23 rfl ?_
  refine oLcmp_le C d4_24 rfl d4_25 (q := 35) (by decide) (by decide) (r := 28) rfl (fun hc24 => ?_) (fun hq => absurd hq (p4))
  refine oIconst C d4_35 (z := 1) rfl rfl ?_
  refine oGoto C d4_36 (q := 40) (by decide) (by decide) ?_
  refine oIstoreN C d4_40 (Ls' := #[.val (.ref b1), .val (.long y2), .second, .val (.int 1)]) rfl (q := 41) rfl ?_
  refine oAloadN C d4_41 rfl rfl rfl ?_
  refine oGetF C (w22 hw) Via.refl p1 d4_42 rfl ?_
  refine oAloadN C d4_45 rfl rfl rfl ?_
  refine oGetF C (w15 hw) Via.refl p2 d4_46 rfl ?_
  refine oLen C p3 (z := (3 : Int32)) rfl d4_49 rfl ?_
  refine oIcmp_ge C d4_50 (q := 80) (by decide) (by decide) (r := 53) rfl (fun hq => absurd hq ((by decide))) (fun hc50 => ?_)
  refine oAloadN C d4_53 rfl rfl rfl ?_
  refine oGetF C (w15 hw) Via.refl p2 d4_54 rfl ?_
  refine oAloadN C d4_57 rfl rfl rfl ?_
  refine oGetF C (w22 hw) Via.refl p1 d4_58 rfl ?_
  refine oLaload C p3 (by decide) (k := 0) rfl (v := .long y4) rfl d4_61 rfl ?_
  refine oLloadN C d4_62 rfl rfl ?_
  refine oLcmp_lt C d4_63 rfl d4_64 (q := 80) (by decide) (by decide) (r := 67) rfl (fun hq => absurd hq (hc24)) (fun hc63 => ?_)
  refine oAloadN C d4_67 rfl rfl rfl ?_
  refine oDup C d4_68 rfl rfl ?_
  refine oGetF C (w22 hw) Via.refl p1 d4_69 rfl ?_
  refine oIconst C d4_72 (z := 1) rfl rfl ?_
  refine oIadd C d4_73 rfl ?_
  refine oCastI (z' := (1 : Int32)) (by decide) ?_
  refine oPutF C (w22 hw) Via.refl p1 p5 (Or.inl (w23 hw)) (w7 hw) (ty := .int) (by decide) rfl rfl d4_74 rfl p6 fun h1 W1 => ?_
  have f1w := Fld.same W1 p1
  refine oGoto C d4_77 (q := 41) (by decide) (by decide) ?_
  refine oAloadN C d4_41 rfl rfl rfl ?_
  refine oGetF C (w22 hw) Via.refl f1w d4_42 rfl ?_
  refine oAloadN C d4_45 rfl rfl rfl ?_
  have f2 := (Fld.other W1 p2 (Or.inr (oSn0 hw 0 1)))
  refine oGetF C (w15 hw) Via.refl f2 d4_46 rfl ?_
  have f3 := (p3.other W1 p7)
  refine oLen C f3 (z := (3 : Int32)) rfl d4_49 rfl ?_
  refine oIcmp_ge C d4_50 (q := 80) (by decide) (by decide) (r := 53) rfl (fun hq => absurd hq ((by decide))) (fun hc50_1 => ?_)
  refine oAloadN C d4_53 rfl rfl rfl ?_
  refine oGetF C (w15 hw) Via.refl f2 d4_54 rfl ?_
  refine oAloadN C d4_57 rfl rfl rfl ?_
  refine oGetF C (w22 hw) Via.refl f1w d4_58 rfl ?_
  refine oLaload C f3 (by decide) (k := 1) rfl (v := .long y5) rfl d4_61 rfl ?_
  refine oLloadN C d4_62 rfl rfl ?_
  refine oLcmp_lt C d4_63 rfl d4_64 (q := 80) (by decide) (by decide) (r := 67) rfl (fun hc63_1 => ?_) (fun hq => absurd hq (not_not_intro p8))
  refine oIloadN C d4_80 rfl rfl ?_
  refine oRetZ C d4_81 (z' := (1 : Int32)) rfl (by decide) (by decide) ?_
  exact ⟨rfl, ((oKe.refl h0 [] [(b1, Jvm.RoadKit.slotOf Z "com/example/tideline/tideline/Retention" "next" "I")]).wrF W1 (Or.inl (List.mem_of_getElem? (i := 0) rfl))), f1w⟩
theorem oe3001 (c p s0 s1 s2 : Int64) (hcp : c.toInt < p.toInt) (h01 : s1.toInt < s0.toInt) (h12 : s2.toInt < s1.toInt) (a0 : s0 < p) (b0 : ¬ s0 < c) (b1 : s1 < c) : fExp c p 0 3 s0 s1 s2 = 1 := by
  rw [fExp_def]
  simp only [fReads_def, fAf_def, fN1_def, fN2_def, fN3_def, Int64.lt_iff_toInt_lt] at *
  simp (disch := first | decide | omega) only [if_pos, if_neg]
set_option maxRecDepth 65536 in
set_option maxHeartbeats 40000000 in
theorem ac4_13 (l : Launch) (Z : State) (a0 : Array Value) (hw : oHw a0 Z) (h0 : Heap) (n0 : Nat) (Z0 : n0 ≤ h0.size) (b1 : Addr) (y2 : Int64) (b3 : Addr) (y4 : Int64) (y5 : Int64) (y6 : Int64) (p1 : Fld Z h0 b1 "com/example/tideline/tideline/Retention" "next" "I" (.int 0)) (p2 : Fld Z h0 b1 "com/example/tideline/tideline/Retention" "open" "[J" (.ref b3)) (p3 : oAr Z h0 b3 .long [.long y4, .long y5, .long y6]) (p4 : ¬ y4 < y2) (p5 : Exa Z h0 b1 "com/example/tideline/tideline/Retention") (p6 : n0 ≤ b1) (p7 : b3 ≠ b1) (p8 : ¬ y5 < y2) (p9 : y6 < y2) :
    oMet l Z (⟨"com/example/tideline/tideline/Retention", "keeps", "(J)Z"⟩ : MethodName) prog_43_method_3_code 4 (some .boolean) [] ({ frames := 0, cells := 0, slots := 0, locals := 0 } : Room) 0 0 n0 #[.ref b1, .long y2] h0 (fun v h => v = some (.int 1) ∧ oKe h0 h [] [(b1, Jvm.RoadKit.slotOf Z "com/example/tideline/tideline/Retention" "next" "I")] ∧ Fld Z h b1 "com/example/tideline/tideline/Retention" "next" "I" (.int 2)) := by
  refine oMet.intro (plainFor_of_name pn_593216) (fun m => ef_4 m b1 y2) ?_
  intro op oe os m obl omt ocd C
  refine oAloadN C d4_0 rfl rfl rfl ?_
  refine oGetF C (w22 hw) Via.refl p1 d4_1 rfl ?_
  refine oAloadN C d4_4 rfl rfl rfl ?_
  refine oGetF C (w15 hw) Via.refl p2 d4_5 rfl ?_
  refine oLen C p3 (z := (3 : Int32)) rfl d4_8 rfl ?_
  refine oIcmp_lt C d4_9 (q := 14) (by decide) (by decide) (r := 12) rfl (fun hc9 => ?_) (fun hq => absurd hq ((by decide)))
  refine oLloadN C d4_14 rfl rfl ?_
  refine oAloadN C d4_15 rfl rfl rfl ?_
  refine oGetF C (w15 hw) Via.refl p2 d4_16 rfl ?_
  refine oAloadN C d4_19 rfl rfl rfl ?_
  refine oGetF C (w22 hw) Via.refl p1 d4_20 rfl ?_
  refine oLaload C p3 (by decide) (k := 0) rfl (v := .long y4) rfl d4_23 rfl ?_
  refine oLcmp_le C d4_24 rfl d4_25 (q := 35) (by decide) (by decide) (r := 28) rfl (fun hc24 => ?_) (fun hq => absurd hq (p4))
  refine oIconst C d4_35 (z := 1) rfl rfl ?_
  refine oGoto C d4_36 (q := 40) (by decide) (by decide) ?_
  refine oIstoreN C d4_40 (Ls' := #[.val (.ref b1), .val (.long y2), .second, .val (.int 1)]) rfl (q := 41) rfl ?_
  refine oAloadN C d4_41 rfl rfl rfl ?_
  refine oGetF C (w22 hw) Via.refl p1 d4_42 rfl ?_
  refine oAloadN C d4_45 rfl rfl rfl ?_
  refine oGetF C (w15 hw) Via.refl p2 d4_46 rfl ?_
  refine oLen C p3 (z := (3 : Int32)) rfl d4_49 rfl ?_
  refine oIcmp_ge C d4_50 (q := 80) (by decide) (by decide) (r := 53) rfl (fun hq => absurd hq ((by decide))) (fun hc50 => ?_)
  refine oAloadN C d4_53 rfl rfl rfl ?_
  refine oGetF C (w15 hw) Via.refl p2 d4_54 rfl ?_
  refine oAloadN C d4_57 rfl rfl rfl ?_
  refine oGetF C (w22 hw) Via.refl p1 d4_58 rfl ?_
  refine oLaload C p3 (by decide) (k := 0) rfl (v := .long y4) rfl d4_61 rfl ?_
  refine oLloadN C d4_62 rfl rfl ?_
  refine oLcmp_lt C d4_63 rfl d4_64 (q := 80) (by decide) (by decide) (r := 67) rfl (fun hq => absurd hq (hc24)) (fun hc63 => ?_)
  refine oAloadN C d4_67 rfl rfl rfl ?_
  refine oDup C d4_68 rfl rfl ?_
  refine oGetF C (w22 hw) Via.refl p1 d4_69 rfl ?_
  refine oIconst C d4_72 (z := 1) rfl rfl ?_
  refine oIadd C d4_73 rfl ?_
  refine oCastI (z' := (1 : Int32)) (by decide) ?_
  refine oPutF C (w22 hw) Via.refl p1 p5 (Or.inl (w23 hw)) (w7 hw) (ty := .int) (by decide) rfl rfl d4_74 rfl p6 fun h1 W1 => ?_
  have f1w := Fld.same W1 p1
  refine oGoto C d4_77 (q := 41) (by decide) (by decide) ?_
  refine oAloadN C d4_41 rfl rfl rfl ?_
  refine oGetF C (w22 hw) Via.refl f1w d4_42 rfl ?_
  refine oAloadN C d4_45 rfl rfl rfl ?_
  have f2 := (Fld.other W1 p2 (Or.inr (oSn0 hw 0 1)))
  refine oGetF C (w15 hw) Via.refl f2 d4_46 rfl ?_
  have f3 := (p3.other W1 p7)
  refine oLen C f3 (z := (3 : Int32)) rfl d4_49 rfl ?_
  refine oIcmp_ge C d4_50 (q := 80) (by decide) (by decide) (r := 53) rfl (fun hq => absurd hq ((by decide))) (fun hc50_1 => ?_)
  refine oAloadN C d4_53 rfl rfl rfl ?_
  refine oGetF C (w15 hw) Via.refl f2 d4_54 rfl ?_
  refine oAloadN C d4_57 rfl rfl rfl ?_
  refine oGetF C (w22 hw) Via.refl f1w d4_58 rfl ?_
  refine oLaload C f3 (by decide) (k := 1) rfl (v := .long y5) rfl d4_61 rfl ?_
  refine oLloadN C d4_62 rfl rfl ?_
  refine oLcmp_lt C d4_63 rfl d4_64 (q := 80) (by decide) (by decide) (r := 67) rfl (fun hq => absurd hq (p8)) (fun hc63_1 => ?_)
  refine oAloadN C d4_67 rfl rfl rfl ?_
  refine oDup C d4_68 rfl rfl ?_
  refine oGetF C (w22 hw) Via.refl f1w d4_69 rfl ?_
  refine oIconst C d4_72 (z := 1) rfl rfl ?_
  refine oIadd C d4_73 rfl ?_
  refine oCastI (z' := (2 : Int32)) (by decide) ?_
  have f4 := (Exa.wr W1 p5)
  refine oPutF C (w22 hw) Via.refl f1w f4 (Or.inl (w23 hw)) (w7 hw) (ty := .int) (by decide) rfl rfl d4_74 rfl p6 fun h5 W5 => ?_
  have f5w := Fld.same W5 f1w
  refine oGoto C d4_77 (q := 41) (by decide) (by decide) ?_
  refine oAloadN C d4_41 rfl rfl rfl ?_
  refine oGetF C (w22 hw) Via.refl f5w d4_42 rfl ?_
  refine oAloadN C d4_45 rfl rfl rfl ?_
  have f6 := (Fld.other W5 f2 (Or.inr (oSn0 hw 0 1)))
  refine oGetF C (w15 hw) Via.refl f6 d4_46 rfl ?_
  have f7 := (f3.other W5 p7)
  refine oLen C f7 (z := (3 : Int32)) rfl d4_49 rfl ?_
  refine oIcmp_ge C d4_50 (q := 80) (by decide) (by decide) (r := 53) rfl (fun hq => absurd hq ((by decide))) (fun hc50_2 => ?_)
  refine oAloadN C d4_53 rfl rfl rfl ?_
  refine oGetF C (w15 hw) Via.refl f6 d4_54 rfl ?_
  refine oAloadN C d4_57 rfl rfl rfl ?_
  refine oGetF C (w22 hw) Via.refl f5w d4_58 rfl ?_
  refine oLaload C f7 (by decide) (k := 2) rfl (v := .long y6) rfl d4_61 rfl ?_
  refine oLloadN C d4_62 rfl rfl ?_
  refine oLcmp_lt C d4_63 rfl d4_64 (q := 80) (by decide) (by decide) (r := 67) rfl (fun hc63_2 => ?_) (fun hq => absurd hq (not_not_intro p9))
  refine oIloadN C d4_80 rfl rfl ?_
  refine oRetZ C d4_81 (z' := (1 : Int32)) rfl (by decide) (by decide) ?_
  exact ⟨rfl, (((oKe.refl h0 [] [(b1, Jvm.RoadKit.slotOf Z "com/example/tideline/tideline/Retention" "next" "I")]).wrF W1 (Or.inl (List.mem_of_getElem? (i := 0) rfl))).wrF W5 (Or.inl (List.mem_of_getElem? (i := 0) rfl))), f5w⟩
theorem oe3002 (c p s0 s1 s2 : Int64) (hcp : c.toInt < p.toInt) (h01 : s1.toInt < s0.toInt) (h12 : s2.toInt < s1.toInt) (a0 : s0 < p) (b0 : ¬ s0 < c) (b1 : ¬ s1 < c) (b2 : s2 < c) : fExp c p 0 3 s0 s1 s2 = 1 := by
  rw [fExp_def]
  simp only [fReads_def, fAf_def, fN1_def, fN2_def, fN3_def, Int64.lt_iff_toInt_lt] at *
  simp (disch := first | decide | omega) only [if_pos, if_neg]
set_option maxRecDepth 65536 in
set_option maxHeartbeats 40000000 in
theorem ac4_14 (l : Launch) (Z : State) (a0 : Array Value) (hw : oHw a0 Z) (h0 : Heap) (n0 : Nat) (Z0 : n0 ≤ h0.size) (b1 : Addr) (y2 : Int64) (b3 : Addr) (y4 : Int64) (y5 : Int64) (y6 : Int64) (p1 : Fld Z h0 b1 "com/example/tideline/tideline/Retention" "next" "I" (.int 0)) (p2 : Fld Z h0 b1 "com/example/tideline/tideline/Retention" "open" "[J" (.ref b3)) (p3 : oAr Z h0 b3 .long [.long y4, .long y5, .long y6]) (p4 : ¬ y4 < y2) (p5 : Exa Z h0 b1 "com/example/tideline/tideline/Retention") (p6 : n0 ≤ b1) (p7 : b3 ≠ b1) (p8 : ¬ y5 < y2) (p9 : ¬ y6 < y2) :
    oMet l Z (⟨"com/example/tideline/tideline/Retention", "keeps", "(J)Z"⟩ : MethodName) prog_43_method_3_code 4 (some .boolean) [] ({ frames := 0, cells := 0, slots := 0, locals := 0 } : Room) 0 0 n0 #[.ref b1, .long y2] h0 (fun v h => v = some (.int 1) ∧ oKe h0 h [] [(b1, Jvm.RoadKit.slotOf Z "com/example/tideline/tideline/Retention" "next" "I")] ∧ Fld Z h b1 "com/example/tideline/tideline/Retention" "next" "I" (.int 3)) := by
  refine oMet.intro (plainFor_of_name pn_593216) (fun m => ef_4 m b1 y2) ?_
  intro op oe os m obl omt ocd C
  refine oAloadN C d4_0 rfl rfl rfl ?_
  refine oGetF C (w22 hw) Via.refl p1 d4_1 rfl ?_
  refine oAloadN C d4_4 rfl rfl rfl ?_
  refine oGetF C (w15 hw) Via.refl p2 d4_5 rfl ?_
  refine oLen C p3 (z := (3 : Int32)) rfl d4_8 rfl ?_
  refine oIcmp_lt C d4_9 (q := 14) (by decide) (by decide) (r := 12) rfl (fun hc9 => ?_) (fun hq => absurd hq ((by decide)))
  refine oLloadN C d4_14 rfl rfl ?_
  refine oAloadN C d4_15 rfl rfl rfl ?_
  refine oGetF C (w15 hw) Via.refl p2 d4_16 rfl ?_
  refine oAloadN C d4_19 rfl rfl rfl ?_
  refine oGetF C (w22 hw) Via.refl p1 d4_20 rfl ?_
  refine oLaload C p3 (by decide) (k := 0) rfl (v := .long y4) rfl d4_23 rfl ?_
  refine oLcmp_le C d4_24 rfl d4_25 (q := 35) (by decide) (by decide) (r := 28) rfl (fun hc24 => ?_) (fun hq => absurd hq (p4))
  refine oIconst C d4_35 (z := 1) rfl rfl ?_
  refine oGoto C d4_36 (q := 40) (by decide) (by decide) ?_
  refine oIstoreN C d4_40 (Ls' := #[.val (.ref b1), .val (.long y2), .second, .val (.int 1)]) rfl (q := 41) rfl ?_
  refine oAloadN C d4_41 rfl rfl rfl ?_
  refine oGetF C (w22 hw) Via.refl p1 d4_42 rfl ?_
  refine oAloadN C d4_45 rfl rfl rfl ?_
  refine oGetF C (w15 hw) Via.refl p2 d4_46 rfl ?_
  refine oLen C p3 (z := (3 : Int32)) rfl d4_49 rfl ?_
  refine oIcmp_ge C d4_50 (q := 80) (by decide) (by decide) (r := 53) rfl (fun hq => absurd hq ((by decide))) (fun hc50 => ?_)
  refine oAloadN C d4_53 rfl rfl rfl ?_
  refine oGetF C (w15 hw) Via.refl p2 d4_54 rfl ?_
  refine oAloadN C d4_57 rfl rfl rfl ?_
  refine oGetF C (w22 hw) Via.refl p1 d4_58 rfl ?_
  refine oLaload C p3 (by decide) (k := 0) rfl (v := .long y4) rfl d4_61 rfl ?_
  refine oLloadN C d4_62 rfl rfl ?_
  refine oLcmp_lt C d4_63 rfl d4_64 (q := 80) (by decide) (by decide) (r := 67) rfl (fun hq => absurd hq (hc24)) (fun hc63 => ?_)
  refine oAloadN C d4_67 rfl rfl rfl ?_
  refine oDup C d4_68 rfl rfl ?_
  refine oGetF C (w22 hw) Via.refl p1 d4_69 rfl ?_
  refine oIconst C d4_72 (z := 1) rfl rfl ?_
  refine oIadd C d4_73 rfl ?_
  refine oCastI (z' := (1 : Int32)) (by decide) ?_
  refine oPutF C (w22 hw) Via.refl p1 p5 (Or.inl (w23 hw)) (w7 hw) (ty := .int) (by decide) rfl rfl d4_74 rfl p6 fun h1 W1 => ?_
  have f1w := Fld.same W1 p1
  refine oGoto C d4_77 (q := 41) (by decide) (by decide) ?_
  refine oAloadN C d4_41 rfl rfl rfl ?_
  refine oGetF C (w22 hw) Via.refl f1w d4_42 rfl ?_
  refine oAloadN C d4_45 rfl rfl rfl ?_
  have f2 := (Fld.other W1 p2 (Or.inr (oSn0 hw 0 1)))
  refine oGetF C (w15 hw) Via.refl f2 d4_46 rfl ?_
  have f3 := (p3.other W1 p7)
  refine oLen C f3 (z := (3 : Int32)) rfl d4_49 rfl ?_
  refine oIcmp_ge C d4_50 (q := 80) (by decide) (by decide) (r := 53) rfl (fun hq => absurd hq ((by decide))) (fun hc50_1 => ?_)
  refine oAloadN C d4_53 rfl rfl rfl ?_
  refine oGetF C (w15 hw) Via.refl f2 d4_54 rfl ?_
  refine oAloadN C d4_57 rfl rfl rfl ?_
  refine oGetF C (w22 hw) Via.refl f1w d4_58 rfl ?_
  refine oLaload C f3 (by decide) (k := 1) rfl (v := .long y5) rfl d4_61 rfl ?_
  refine oLloadN C d4_62 rfl rfl ?_
  refine oLcmp_lt C d4_63 rfl d4_64 (q := 80) (by decide) (by decide) (r := 67) rfl (fun hq => absurd hq (p8)) (fun hc63_1 => ?_)
  refine oAloadN C d4_67 rfl rfl rfl ?_
  refine oDup C d4_68 rfl rfl ?_
  refine oGetF C (w22 hw) Via.refl f1w d4_69 rfl ?_
  refine oIconst C d4_72 (z := 1) rfl rfl ?_
  refine oIadd C d4_73 rfl ?_
  refine oCastI (z' := (2 : Int32)) (by decide) ?_
  have f4 := (Exa.wr W1 p5)
  refine oPutF C (w22 hw) Via.refl f1w f4 (Or.inl (w23 hw)) (w7 hw) (ty := .int) (by decide) rfl rfl d4_74 rfl p6 fun h5 W5 => ?_
  have f5w := Fld.same W5 f1w
  refine oGoto C d4_77 (q := 41) (by decide) (by decide) ?_
  refine oAloadN C d4_41 rfl rfl rfl ?_
  refine oGetF C (w22 hw) Via.refl f5w d4_42 rfl ?_
  refine oAloadN C d4_45 rfl rfl rfl ?_
  have f6 := (Fld.other W5 f2 (Or.inr (oSn0 hw 0 1)))
  refine oGetF C (w15 hw) Via.refl f6 d4_46 rfl ?_
  have f7 := (f3.other W5 p7)
  refine oLen C f7 (z := (3 : Int32)) rfl d4_49 rfl ?_
  refine oIcmp_ge C d4_50 (q := 80) (by decide) (by decide) (r := 53) rfl (fun hq => absurd hq ((by decide))) (fun hc50_2 => ?_)
  refine oAloadN C d4_53 rfl rfl rfl ?_
  refine oGetF C (w15 hw) Via.refl f6 d4_54 rfl ?_
  refine oAloadN C d4_57 rfl rfl rfl ?_
  refine oGetF C (w22 hw) Via.refl f5w d4_58 rfl ?_
  refine oLaload C f7 (by decide) (k := 2) rfl (v := .long y6) rfl d4_61 rfl ?_
  refine oLloadN C d4_62 rfl rfl ?_
  refine oLcmp_lt C d4_63 rfl d4_64 (q := 80) (by decide) (by decide) (r := 67) rfl (fun hq => absurd hq (p9)) (fun hc63_2 => ?_)
  refine oAloadN C d4_67 rfl rfl rfl ?_
  refine oDup C d4_68 rfl rfl ?_
  refine oGetF C (w22 hw) Via.refl f5w d4_69 rfl ?_
  refine oIconst C d4_72 (z := 1) rfl rfl ?_
  refine oIadd C d4_73 rfl ?_
  refine oCastI (z' := (3 : Int32)) (by decide) ?_
  have f8 := (Exa.wr W5 f4)
  refine oPutF C (w22 hw) Via.refl f5w f8 (Or.inl (w23 hw)) (w7 hw) (ty := .int) (by decide) rfl rfl d4_74 rfl p6 fun h9 W9 => ?_
  have f9w := Fld.same W9 f5w
  refine oGoto C d4_77 (q := 41) (by decide) (by decide) ?_
  refine oAloadN C d4_41 rfl rfl rfl ?_
  refine oGetF C (w22 hw) Via.refl f9w d4_42 rfl ?_
  refine oAloadN C d4_45 rfl rfl rfl ?_
  have f10 := (Fld.other W9 f6 (Or.inr (oSn0 hw 0 1)))
  refine oGetF C (w15 hw) Via.refl f10 d4_46 rfl ?_
  have f11 := (f7.other W9 p7)
  refine oLen C f11 (z := (3 : Int32)) rfl d4_49 rfl ?_
  refine oIcmp_ge C d4_50 (q := 80) (by decide) (by decide) (r := 53) rfl (fun hc50_3 => ?_) (fun hq => absurd hq ((by decide)))
  refine oIloadN C d4_80 rfl rfl ?_
  refine oRetZ C d4_81 (z' := (1 : Int32)) rfl (by decide) (by decide) ?_
  exact ⟨rfl, ((((oKe.refl h0 [] [(b1, Jvm.RoadKit.slotOf Z "com/example/tideline/tideline/Retention" "next" "I")]).wrF W1 (Or.inl (List.mem_of_getElem? (i := 0) rfl))).wrF W5 (Or.inl (List.mem_of_getElem? (i := 0) rfl))).wrF W9 (Or.inl (List.mem_of_getElem? (i := 0) rfl))), f9w⟩
theorem oe3003 (c p s0 s1 s2 : Int64) (hcp : c.toInt < p.toInt) (h01 : s1.toInt < s0.toInt) (h12 : s2.toInt < s1.toInt) (a0 : s0 < p) (b0 : ¬ s0 < c) (b1 : ¬ s1 < c) (b2 : ¬ s2 < c) : fExp c p 0 3 s0 s1 s2 = 1 := by
  rw [fExp_def]
  simp only [fReads_def, fAf_def, fN1_def, fN2_def, fN3_def, Int64.lt_iff_toInt_lt] at *
  simp (disch := first | decide | omega) only [if_pos, if_neg]
set_option maxRecDepth 65536 in
set_option maxHeartbeats 40000000 in
theorem ac4_15 (l : Launch) (Z : State) (a0 : Array Value) (hw : oHw a0 Z) (h0 : Heap) (n0 : Nat) (Z0 : n0 ≤ h0.size) (b1 : Addr) (y2 : Int64) (b3 : Addr) (y4 : Int64) (y5 : Int64) (y6 : Int64) (p1 : Fld Z h0 b1 "com/example/tideline/tideline/Retention" "next" "I" (.int 1)) (p2 : Fld Z h0 b1 "com/example/tideline/tideline/Retention" "open" "[J" (.ref b3)) (p3 : oAr Z h0 b3 .long [.long y4, .long y5, .long y6]) (p4 : y5 < y2) :
    oMet l Z (⟨"com/example/tideline/tideline/Retention", "keeps", "(J)Z"⟩ : MethodName) prog_43_method_3_code 4 (some .boolean) [] ({ frames := 0, cells := 0, slots := 0, locals := 0 } : Room) 0 0 n0 #[.ref b1, .long y2] h0 (fun v h => v = some (.int 0) ∧ oKe h0 h [] []) := by
  refine oMet.intro (plainFor_of_name pn_593216) (fun m => ef_4 m b1 y2) ?_
  intro op oe os m obl omt ocd C
  refine oAloadN C d4_0 rfl rfl rfl ?_
  refine oGetF C (w22 hw) Via.refl p1 d4_1 rfl ?_
  refine oAloadN C d4_4 rfl rfl rfl ?_
  refine oGetF C (w15 hw) Via.refl p2 d4_5 rfl ?_
  refine oLen C p3 (z := (3 : Int32)) rfl d4_8 rfl ?_
  refine oIcmp_lt C d4_9 (q := 14) (by decide) (by decide) (r := 12) rfl (fun hc9 => ?_) (fun hq => absurd hq ((by decide)))
  refine oLloadN C d4_14 rfl rfl ?_
  refine oAloadN C d4_15 rfl rfl rfl ?_
  refine oGetF C (w15 hw) Via.refl p2 d4_16 rfl ?_
  refine oAloadN C d4_19 rfl rfl rfl ?_
  refine oGetF C (w22 hw) Via.refl p1 d4_20 rfl ?_
  refine oLaload C p3 (by decide) (k := 1) rfl (v := .long y5) rfl d4_23 rfl ?_
  refine oLcmp_le C d4_24 rfl d4_25 (q := 35) (by decide) (by decide) (r := 28) rfl (fun hq => absurd hq (not_not_intro p4)) (fun hc24 => ?_)
  refine oAloadN C d4_28 rfl rfl rfl ?_
  refine oGetF C (w22 hw) Via.refl p1 d4_29 rfl ?_
  refine oIf_ne C d4_32 (q := 39) (by decide) (by decide) (r := 35) rfl (fun hc32 => ?_) (fun hq => absurd hq ((by decide)))
  refine oIconst C d4_39 (z := 0) rfl rfl ?_
  refine oIstoreN C d4_40 (Ls' := #[.val (.ref b1), .val (.long y2), .second, .val (.int 0)]) rfl (q := 41) rfl ?_
  refine oAloadN C d4_41 rfl rfl rfl ?_
  refine oGetF C (w22 hw) Via.refl p1 d4_42 rfl ?_
  refine oAloadN C d4_45 rfl rfl rfl ?_
  refine oGetF C (w15 hw) Via.refl p2 d4_46 rfl ?_
  refine oLen C p3 (z := (3 : Int32)) rfl d4_49 rfl ?_
  refine oIcmp_ge C d4_50 (q := 80) (by decide) (by decide) (r := 53) rfl (fun hq => absurd hq ((by decide))) (fun hc50 => ?_)
  refine oAloadN C d4_53 rfl rfl rfl ?_
  refine oGetF C (w15 hw) Via.refl p2 d4_54 rfl ?_
  refine oAloadN C d4_57 rfl rfl rfl ?_
  refine oGetF C (w22 hw) Via.refl p1 d4_58 rfl ?_
  refine oLaload C p3 (by decide) (k := 1) rfl (v := .long y5) rfl d4_61 rfl ?_
  refine oLloadN C d4_62 rfl rfl ?_
  refine oLcmp_lt C d4_63 rfl d4_64 (q := 80) (by decide) (by decide) (r := 67) rfl (fun hc63 => ?_) (fun hq => absurd hq (not_not_intro hc24))
  refine oIloadN C d4_80 rfl rfl ?_
  refine oRetZ C d4_81 (z' := (0 : Int32)) rfl (by decide) (by decide) ?_
  exact ⟨rfl, (oKe.refl h0 [] [])⟩
theorem oe3011 (c p s0 s1 s2 : Int64) (hcp : c.toInt < p.toInt) (h01 : s1.toInt < s0.toInt) (h12 : s2.toInt < s1.toInt) (a0 : ¬ s0 < p) (a1 : s1 < p) (b1 : s1 < c) : fExp c p 0 3 s0 s1 s2 = 0 := by
  rw [fExp_def]
  simp only [fReads_def, fAf_def, fN1_def, fN2_def, fN3_def, Int64.lt_iff_toInt_lt] at *
  simp (disch := first | decide | omega) only [if_pos, if_neg]
set_option maxRecDepth 65536 in
set_option maxHeartbeats 40000000 in
theorem ac4_16 (l : Launch) (Z : State) (a0 : Array Value) (hw : oHw a0 Z) (h0 : Heap) (n0 : Nat) (Z0 : n0 ≤ h0.size) (b1 : Addr) (y2 : Int64) (b3 : Addr) (y4 : Int64) (y5 : Int64) (y6 : Int64) (p1 : Fld Z h0 b1 "com/example/tideline/tideline/Retention" "next" "I" (.int 1)) (p2 : Fld Z h0 b1 "com/example/tideline/tideline/Retention" "open" "[J" (.ref b3)) (p3 : oAr Z h0 b3 .long [.long y4, .long y5, .long y6]) (p4 : ¬ y5 < y2) (p5 : Exa Z h0 b1 "com/example/tideline/tideline/Retention") (p6 : n0 ≤ b1) (p7 : b3 ≠ b1) (p8 : y6 < y2) :
    oMet l Z (⟨"com/example/tideline/tideline/Retention", "keeps", "(J)Z"⟩ : MethodName) prog_43_method_3_code 4 (some .boolean) [] ({ frames := 0, cells := 0, slots := 0, locals := 0 } : Room) 0 0 n0 #[.ref b1, .long y2] h0 (fun v h => v = some (.int 1) ∧ oKe h0 h [] [(b1, Jvm.RoadKit.slotOf Z "com/example/tideline/tideline/Retention" "next" "I")] ∧ Fld Z h b1 "com/example/tideline/tideline/Retention" "next" "I" (.int 2)) := by
  refine oMet.intro (plainFor_of_name pn_593216) (fun m => ef_4 m b1 y2) ?_
  intro op oe os m obl omt ocd C
  refine oAloadN C d4_0 rfl rfl rfl ?_
  refine oGetF C (w22 hw) Via.refl p1 d4_1 rfl ?_
  refine oAloadN C d4_4 rfl rfl rfl ?_
  refine oGetF C (w15 hw) Via.refl p2 d4_5 rfl ?_
  refine oLen C p3 (z := (3 : Int32)) rfl d4_8 rfl ?_
  refine oIcmp_lt C d4_9 (q := 14) (by decide) (by decide) (r := 12) rfl (fun hc9 => ?_) (fun hq => absurd hq ((by decide)))
  refine oLloadN C d4_14 rfl rfl ?_
  refine oAloadN C d4_15 rfl rfl rfl ?_
  refine oGetF C (w15 hw) Via.refl p2 d4_16 rfl ?_
  refine oAloadN C d4_19 rfl rfl rfl ?_
  refine oGetF C (w22 hw) Via.refl p1 d4_20 rfl ?_
  refine oLaload C p3 (by decide) (k := 1) rfl (v := .long y5) rfl d4_23 rfl ?_
  refine oLcmp_le C d4_24 rfl d4_25 (q := 35) (by decide) (by decide) (r := 28) rfl (fun hc24 => ?_) (fun hq => absurd hq (p4))
  refine oIconst C d4_35 (z := 1) rfl rfl ?_
  refine oGoto C d4_36 (q := 40) (by decide) (by decide) ?_
  refine oIstoreN C d4_40 (Ls' := #[.val (.ref b1), .val (.long y2), .second, .val (.int 1)]) rfl (q := 41) rfl ?_
  refine oAloadN C d4_41 rfl rfl rfl ?_
  refine oGetF C (w22 hw) Via.refl p1 d4_42 rfl ?_
  refine oAloadN C d4_45 rfl rfl rfl ?_
  refine oGetF C (w15 hw) Via.refl p2 d4_46 rfl ?_
  refine oLen C p3 (z := (3 : Int32)) rfl d4_49 rfl ?_
  refine oIcmp_ge C d4_50 (q := 80) (by decide) (by decide) (r := 53) rfl (fun hq => absurd hq ((by decide))) (fun hc50 => ?_)
  refine oAloadN C d4_53 rfl rfl rfl ?_
  refine oGetF C (w15 hw) Via.refl p2 d4_54 rfl ?_
  refine oAloadN C d4_57 rfl rfl rfl ?_
  refine oGetF C (w22 hw) Via.refl p1 d4_58 rfl ?_
  refine oLaload C p3 (by decide) (k := 1) rfl (v := .long y5) rfl d4_61 rfl ?_
  refine oLloadN C d4_62 rfl rfl ?_
  refine oLcmp_lt C d4_63 rfl d4_64 (q := 80) (by decide) (by decide) (r := 67) rfl (fun hq => absurd hq (hc24)) (fun hc63 => ?_)
  refine oAloadN C d4_67 rfl rfl rfl ?_
  refine oDup C d4_68 rfl rfl ?_
  refine oGetF C (w22 hw) Via.refl p1 d4_69 rfl ?_
  refine oIconst C d4_72 (z := 1) rfl rfl ?_
  refine oIadd C d4_73 rfl ?_
  refine oCastI (z' := (2 : Int32)) (by decide) ?_
  refine oPutF C (w22 hw) Via.refl p1 p5 (Or.inl (w23 hw)) (w7 hw) (ty := .int) (by decide) rfl rfl d4_74 rfl p6 fun h1 W1 => ?_
  have f1w := Fld.same W1 p1
  refine oGoto C d4_77 (q := 41) (by decide) (by decide) ?_
  refine oAloadN C d4_41 rfl rfl rfl ?_
  refine oGetF C (w22 hw) Via.refl f1w d4_42 rfl ?_
  refine oAloadN C d4_45 rfl rfl rfl ?_
  have f2 := (Fld.other W1 p2 (Or.inr (oSn0 hw 0 1)))
  refine oGetF C (w15 hw) Via.refl f2 d4_46 rfl ?_
  have f3 := (p3.other W1 p7)
  refine oLen C f3 (z := (3 : Int32)) rfl d4_49 rfl ?_
  refine oIcmp_ge C d4_50 (q := 80) (by decide) (by decide) (r := 53) rfl (fun hq => absurd hq ((by decide))) (fun hc50_1 => ?_)
  refine oAloadN C d4_53 rfl rfl rfl ?_
  refine oGetF C (w15 hw) Via.refl f2 d4_54 rfl ?_
  refine oAloadN C d4_57 rfl rfl rfl ?_
  refine oGetF C (w22 hw) Via.refl f1w d4_58 rfl ?_
  refine oLaload C f3 (by decide) (k := 2) rfl (v := .long y6) rfl d4_61 rfl ?_
  refine oLloadN C d4_62 rfl rfl ?_
  refine oLcmp_lt C d4_63 rfl d4_64 (q := 80) (by decide) (by decide) (r := 67) rfl (fun hc63_1 => ?_) (fun hq => absurd hq (not_not_intro p8))
  refine oIloadN C d4_80 rfl rfl ?_
  refine oRetZ C d4_81 (z' := (1 : Int32)) rfl (by decide) (by decide) ?_
  exact ⟨rfl, ((oKe.refl h0 [] [(b1, Jvm.RoadKit.slotOf Z "com/example/tideline/tideline/Retention" "next" "I")]).wrF W1 (Or.inl (List.mem_of_getElem? (i := 0) rfl))), f1w⟩
theorem oe3012 (c p s0 s1 s2 : Int64) (hcp : c.toInt < p.toInt) (h01 : s1.toInt < s0.toInt) (h12 : s2.toInt < s1.toInt) (a0 : ¬ s0 < p) (a1 : s1 < p) (b1 : ¬ s1 < c) (b2 : s2 < c) : fExp c p 0 3 s0 s1 s2 = 1 := by
  rw [fExp_def]
  simp only [fReads_def, fAf_def, fN1_def, fN2_def, fN3_def, Int64.lt_iff_toInt_lt] at *
  simp (disch := first | decide | omega) only [if_pos, if_neg]
set_option maxRecDepth 65536 in
set_option maxHeartbeats 40000000 in
theorem ac4_17 (l : Launch) (Z : State) (a0 : Array Value) (hw : oHw a0 Z) (h0 : Heap) (n0 : Nat) (Z0 : n0 ≤ h0.size) (b1 : Addr) (y2 : Int64) (b3 : Addr) (y4 : Int64) (y5 : Int64) (y6 : Int64) (p1 : Fld Z h0 b1 "com/example/tideline/tideline/Retention" "next" "I" (.int 1)) (p2 : Fld Z h0 b1 "com/example/tideline/tideline/Retention" "open" "[J" (.ref b3)) (p3 : oAr Z h0 b3 .long [.long y4, .long y5, .long y6]) (p4 : ¬ y5 < y2) (p5 : Exa Z h0 b1 "com/example/tideline/tideline/Retention") (p6 : n0 ≤ b1) (p7 : b3 ≠ b1) (p8 : ¬ y6 < y2) :
    oMet l Z (⟨"com/example/tideline/tideline/Retention", "keeps", "(J)Z"⟩ : MethodName) prog_43_method_3_code 4 (some .boolean) [] ({ frames := 0, cells := 0, slots := 0, locals := 0 } : Room) 0 0 n0 #[.ref b1, .long y2] h0 (fun v h => v = some (.int 1) ∧ oKe h0 h [] [(b1, Jvm.RoadKit.slotOf Z "com/example/tideline/tideline/Retention" "next" "I")] ∧ Fld Z h b1 "com/example/tideline/tideline/Retention" "next" "I" (.int 3)) := by
  refine oMet.intro (plainFor_of_name pn_593216) (fun m => ef_4 m b1 y2) ?_
  intro op oe os m obl omt ocd C
  refine oAloadN C d4_0 rfl rfl rfl ?_
  refine oGetF C (w22 hw) Via.refl p1 d4_1 rfl ?_
  refine oAloadN C d4_4 rfl rfl rfl ?_
  refine oGetF C (w15 hw) Via.refl p2 d4_5 rfl ?_
  refine oLen C p3 (z := (3 : Int32)) rfl d4_8 rfl ?_
  refine oIcmp_lt C d4_9 (q := 14) (by decide) (by decide) (r := 12) rfl (fun hc9 => ?_) (fun hq => absurd hq ((by decide)))
  refine oLloadN C d4_14 rfl rfl ?_
  refine oAloadN C d4_15 rfl rfl rfl ?_
  refine oGetF C (w15 hw) Via.refl p2 d4_16 rfl ?_
  refine oAloadN C d4_19 rfl rfl rfl ?_
  refine oGetF C (w22 hw) Via.refl p1 d4_20 rfl ?_
  refine oLaload C p3 (by decide) (k := 1) rfl (v := .long y5) rfl d4_23 rfl ?_
  refine oLcmp_le C d4_24 rfl d4_25 (q := 35) (by decide) (by decide) (r := 28) rfl (fun hc24 => ?_) (fun hq => absurd hq (p4))
  refine oIconst C d4_35 (z := 1) rfl rfl ?_
  refine oGoto C d4_36 (q := 40) (by decide) (by decide) ?_
  refine oIstoreN C d4_40 (Ls' := #[.val (.ref b1), .val (.long y2), .second, .val (.int 1)]) rfl (q := 41) rfl ?_
  refine oAloadN C d4_41 rfl rfl rfl ?_
  refine oGetF C (w22 hw) Via.refl p1 d4_42 rfl ?_
  refine oAloadN C d4_45 rfl rfl rfl ?_
  refine oGetF C (w15 hw) Via.refl p2 d4_46 rfl ?_
  refine oLen C p3 (z := (3 : Int32)) rfl d4_49 rfl ?_
  refine oIcmp_ge C d4_50 (q := 80) (by decide) (by decide) (r := 53) rfl (fun hq => absurd hq ((by decide))) (fun hc50 => ?_)
  refine oAloadN C d4_53 rfl rfl rfl ?_
  refine oGetF C (w15 hw) Via.refl p2 d4_54 rfl ?_
  refine oAloadN C d4_57 rfl rfl rfl ?_
  refine oGetF C (w22 hw) Via.refl p1 d4_58 rfl ?_
  refine oLaload C p3 (by decide) (k := 1) rfl (v := .long y5) rfl d4_61 rfl ?_
  refine oLloadN C d4_62 rfl rfl ?_
  refine oLcmp_lt C d4_63 rfl d4_64 (q := 80) (by decide) (by decide) (r := 67) rfl (fun hq => absurd hq (hc24)) (fun hc63 => ?_)
  refine oAloadN C d4_67 rfl rfl rfl ?_
  refine oDup C d4_68 rfl rfl ?_
  refine oGetF C (w22 hw) Via.refl p1 d4_69 rfl ?_
  refine oIconst C d4_72 (z := 1) rfl rfl ?_
  refine oIadd C d4_73 rfl ?_
  refine oCastI (z' := (2 : Int32)) (by decide) ?_
  refine oPutF C (w22 hw) Via.refl p1 p5 (Or.inl (w23 hw)) (w7 hw) (ty := .int) (by decide) rfl rfl d4_74 rfl p6 fun h1 W1 => ?_
  have f1w := Fld.same W1 p1
  refine oGoto C d4_77 (q := 41) (by decide) (by decide) ?_
  refine oAloadN C d4_41 rfl rfl rfl ?_
  refine oGetF C (w22 hw) Via.refl f1w d4_42 rfl ?_
  refine oAloadN C d4_45 rfl rfl rfl ?_
  have f2 := (Fld.other W1 p2 (Or.inr (oSn0 hw 0 1)))
  refine oGetF C (w15 hw) Via.refl f2 d4_46 rfl ?_
  have f3 := (p3.other W1 p7)
  refine oLen C f3 (z := (3 : Int32)) rfl d4_49 rfl ?_
  refine oIcmp_ge C d4_50 (q := 80) (by decide) (by decide) (r := 53) rfl (fun hq => absurd hq ((by decide))) (fun hc50_1 => ?_)
  refine oAloadN C d4_53 rfl rfl rfl ?_
  refine oGetF C (w15 hw) Via.refl f2 d4_54 rfl ?_
  refine oAloadN C d4_57 rfl rfl rfl ?_
  refine oGetF C (w22 hw) Via.refl f1w d4_58 rfl ?_
  refine oLaload C f3 (by decide) (k := 2) rfl (v := .long y6) rfl d4_61 rfl ?_
  refine oLloadN C d4_62 rfl rfl ?_
  refine oLcmp_lt C d4_63 rfl d4_64 (q := 80) (by decide) (by decide) (r := 67) rfl (fun hq => absurd hq (p8)) (fun hc63_1 => ?_)
  refine oAloadN C d4_67 rfl rfl rfl ?_
  refine oDup C d4_68 rfl rfl ?_
  refine oGetF C (w22 hw) Via.refl f1w d4_69 rfl ?_
  refine oIconst C d4_72 (z := 1) rfl rfl ?_
  refine oIadd C d4_73 rfl ?_
  refine oCastI (z' := (3 : Int32)) (by decide) ?_
  have f4 := (Exa.wr W1 p5)
  refine oPutF C (w22 hw) Via.refl f1w f4 (Or.inl (w23 hw)) (w7 hw) (ty := .int) (by decide) rfl rfl d4_74 rfl p6 fun h5 W5 => ?_
  have f5w := Fld.same W5 f1w
  refine oGoto C d4_77 (q := 41) (by decide) (by decide) ?_
  refine oAloadN C d4_41 rfl rfl rfl ?_
  refine oGetF C (w22 hw) Via.refl f5w d4_42 rfl ?_
  refine oAloadN C d4_45 rfl rfl rfl ?_
  have f6 := (Fld.other W5 f2 (Or.inr (oSn0 hw 0 1)))
  refine oGetF C (w15 hw) Via.refl f6 d4_46 rfl ?_
  have f7 := (f3.other W5 p7)
  refine oLen C f7 (z := (3 : Int32)) rfl d4_49 rfl ?_
  refine oIcmp_ge C d4_50 (q := 80) (by decide) (by decide) (r := 53) rfl (fun hc50_2 => ?_) (fun hq => absurd hq ((by decide)))
  refine oIloadN C d4_80 rfl rfl ?_
  refine oRetZ C d4_81 (z' := (1 : Int32)) rfl (by decide) (by decide) ?_
  exact ⟨rfl, (((oKe.refl h0 [] [(b1, Jvm.RoadKit.slotOf Z "com/example/tideline/tideline/Retention" "next" "I")]).wrF W1 (Or.inl (List.mem_of_getElem? (i := 0) rfl))).wrF W5 (Or.inl (List.mem_of_getElem? (i := 0) rfl))), f5w⟩
theorem oe3013 (c p s0 s1 s2 : Int64) (hcp : c.toInt < p.toInt) (h01 : s1.toInt < s0.toInt) (h12 : s2.toInt < s1.toInt) (a0 : ¬ s0 < p) (a1 : s1 < p) (b1 : ¬ s1 < c) (b2 : ¬ s2 < c) : fExp c p 0 3 s0 s1 s2 = 1 := by
  rw [fExp_def]
  simp only [fReads_def, fAf_def, fN1_def, fN2_def, fN3_def, Int64.lt_iff_toInt_lt] at *
  simp (disch := first | decide | omega) only [if_pos, if_neg]
set_option maxRecDepth 65536 in
set_option maxHeartbeats 40000000 in
theorem ac4_18 (l : Launch) (Z : State) (a0 : Array Value) (hw : oHw a0 Z) (h0 : Heap) (n0 : Nat) (Z0 : n0 ≤ h0.size) (b1 : Addr) (y2 : Int64) (b3 : Addr) (y4 : Int64) (y5 : Int64) (y6 : Int64) (p1 : Fld Z h0 b1 "com/example/tideline/tideline/Retention" "next" "I" (.int 2)) (p2 : Fld Z h0 b1 "com/example/tideline/tideline/Retention" "open" "[J" (.ref b3)) (p3 : oAr Z h0 b3 .long [.long y4, .long y5, .long y6]) (p4 : y6 < y2) :
    oMet l Z (⟨"com/example/tideline/tideline/Retention", "keeps", "(J)Z"⟩ : MethodName) prog_43_method_3_code 4 (some .boolean) [] ({ frames := 0, cells := 0, slots := 0, locals := 0 } : Room) 0 0 n0 #[.ref b1, .long y2] h0 (fun v h => v = some (.int 0) ∧ oKe h0 h [] []) := by
  refine oMet.intro (plainFor_of_name pn_593216) (fun m => ef_4 m b1 y2) ?_
  intro op oe os m obl omt ocd C
  refine oAloadN C d4_0 rfl rfl rfl ?_
  refine oGetF C (w22 hw) Via.refl p1 d4_1 rfl ?_
  refine oAloadN C d4_4 rfl rfl rfl ?_
  refine oGetF C (w15 hw) Via.refl p2 d4_5 rfl ?_
  refine oLen C p3 (z := (3 : Int32)) rfl d4_8 rfl ?_
  refine oIcmp_lt C d4_9 (q := 14) (by decide) (by decide) (r := 12) rfl (fun hc9 => ?_) (fun hq => absurd hq ((by decide)))
  refine oLloadN C d4_14 rfl rfl ?_
  refine oAloadN C d4_15 rfl rfl rfl ?_
  refine oGetF C (w15 hw) Via.refl p2 d4_16 rfl ?_
  refine oAloadN C d4_19 rfl rfl rfl ?_
  refine oGetF C (w22 hw) Via.refl p1 d4_20 rfl ?_
  refine oLaload C p3 (by decide) (k := 2) rfl (v := .long y6) rfl d4_23 rfl ?_
  refine oLcmp_le C d4_24 rfl d4_25 (q := 35) (by decide) (by decide) (r := 28) rfl (fun hq => absurd hq (not_not_intro p4)) (fun hc24 => ?_)
  refine oAloadN C d4_28 rfl rfl rfl ?_
  refine oGetF C (w22 hw) Via.refl p1 d4_29 rfl ?_
  refine oIf_ne C d4_32 (q := 39) (by decide) (by decide) (r := 35) rfl (fun hc32 => ?_) (fun hq => absurd hq ((by decide)))
  refine oIconst C d4_39 (z := 0) rfl rfl ?_
  refine oIstoreN C d4_40 (Ls' := #[.val (.ref b1), .val (.long y2), .second, .val (.int 0)]) rfl (q := 41) rfl ?_
  refine oAloadN C d4_41 rfl rfl rfl ?_
  refine oGetF C (w22 hw) Via.refl p1 d4_42 rfl ?_
  refine oAloadN C d4_45 rfl rfl rfl ?_
  refine oGetF C (w15 hw) Via.refl p2 d4_46 rfl ?_
  refine oLen C p3 (z := (3 : Int32)) rfl d4_49 rfl ?_
  refine oIcmp_ge C d4_50 (q := 80) (by decide) (by decide) (r := 53) rfl (fun hq => absurd hq ((by decide))) (fun hc50 => ?_)
  refine oAloadN C d4_53 rfl rfl rfl ?_
  refine oGetF C (w15 hw) Via.refl p2 d4_54 rfl ?_
  refine oAloadN C d4_57 rfl rfl rfl ?_
  refine oGetF C (w22 hw) Via.refl p1 d4_58 rfl ?_
  refine oLaload C p3 (by decide) (k := 2) rfl (v := .long y6) rfl d4_61 rfl ?_
  refine oLloadN C d4_62 rfl rfl ?_
  refine oLcmp_lt C d4_63 rfl d4_64 (q := 80) (by decide) (by decide) (r := 67) rfl (fun hc63 => ?_) (fun hq => absurd hq (not_not_intro hc24))
  refine oIloadN C d4_80 rfl rfl ?_
  refine oRetZ C d4_81 (z' := (0 : Int32)) rfl (by decide) (by decide) ?_
  exact ⟨rfl, (oKe.refl h0 [] [])⟩
theorem oe3022 (c p s0 s1 s2 : Int64) (hcp : c.toInt < p.toInt) (h01 : s1.toInt < s0.toInt) (h12 : s2.toInt < s1.toInt) (a0 : ¬ s0 < p) (a1 : ¬ s1 < p) (a2 : s2 < p) (b2 : s2 < c) : fExp c p 0 3 s0 s1 s2 = 0 := by
  rw [fExp_def]
  simp only [fReads_def, fAf_def, fN1_def, fN2_def, fN3_def, Int64.lt_iff_toInt_lt] at *
  simp (disch := first | decide | omega) only [if_pos, if_neg]
set_option maxRecDepth 65536 in
set_option maxHeartbeats 40000000 in
theorem ac4_19 (l : Launch) (Z : State) (a0 : Array Value) (hw : oHw a0 Z) (h0 : Heap) (n0 : Nat) (Z0 : n0 ≤ h0.size) (b1 : Addr) (y2 : Int64) (b3 : Addr) (y4 : Int64) (y5 : Int64) (y6 : Int64) (p1 : Fld Z h0 b1 "com/example/tideline/tideline/Retention" "next" "I" (.int 2)) (p2 : Fld Z h0 b1 "com/example/tideline/tideline/Retention" "open" "[J" (.ref b3)) (p3 : oAr Z h0 b3 .long [.long y4, .long y5, .long y6]) (p4 : ¬ y6 < y2) (p5 : Exa Z h0 b1 "com/example/tideline/tideline/Retention") (p6 : n0 ≤ b1) (p7 : b3 ≠ b1) :
    oMet l Z (⟨"com/example/tideline/tideline/Retention", "keeps", "(J)Z"⟩ : MethodName) prog_43_method_3_code 4 (some .boolean) [] ({ frames := 0, cells := 0, slots := 0, locals := 0 } : Room) 0 0 n0 #[.ref b1, .long y2] h0 (fun v h => v = some (.int 1) ∧ oKe h0 h [] [(b1, Jvm.RoadKit.slotOf Z "com/example/tideline/tideline/Retention" "next" "I")] ∧ Fld Z h b1 "com/example/tideline/tideline/Retention" "next" "I" (.int 3)) := by
  refine oMet.intro (plainFor_of_name pn_593216) (fun m => ef_4 m b1 y2) ?_
  intro op oe os m obl omt ocd C
  refine oAloadN C d4_0 rfl rfl rfl ?_
  refine oGetF C (w22 hw) Via.refl p1 d4_1 rfl ?_
  refine oAloadN C d4_4 rfl rfl rfl ?_
  refine oGetF C (w15 hw) Via.refl p2 d4_5 rfl ?_
  refine oLen C p3 (z := (3 : Int32)) rfl d4_8 rfl ?_
  refine oIcmp_lt C d4_9 (q := 14) (by decide) (by decide) (r := 12) rfl (fun hc9 => ?_) (fun hq => absurd hq ((by decide)))
  refine oLloadN C d4_14 rfl rfl ?_
  refine oAloadN C d4_15 rfl rfl rfl ?_
  refine oGetF C (w15 hw) Via.refl p2 d4_16 rfl ?_
  refine oAloadN C d4_19 rfl rfl rfl ?_
  refine oGetF C (w22 hw) Via.refl p1 d4_20 rfl ?_
  refine oLaload C p3 (by decide) (k := 2) rfl (v := .long y6) rfl d4_23 rfl ?_
  refine oLcmp_le C d4_24 rfl d4_25 (q := 35) (by decide) (by decide) (r := 28) rfl (fun hc24 => ?_) (fun hq => absurd hq (p4))
  refine oIconst C d4_35 (z := 1) rfl rfl ?_
  refine oGoto C d4_36 (q := 40) (by decide) (by decide) ?_
  refine oIstoreN C d4_40 (Ls' := #[.val (.ref b1), .val (.long y2), .second, .val (.int 1)]) rfl (q := 41) rfl ?_
  refine oAloadN C d4_41 rfl rfl rfl ?_
  refine oGetF C (w22 hw) Via.refl p1 d4_42 rfl ?_
  refine oAloadN C d4_45 rfl rfl rfl ?_
  refine oGetF C (w15 hw) Via.refl p2 d4_46 rfl ?_
  refine oLen C p3 (z := (3 : Int32)) rfl d4_49 rfl ?_
  refine oIcmp_ge C d4_50 (q := 80) (by decide) (by decide) (r := 53) rfl (fun hq => absurd hq ((by decide))) (fun hc50 => ?_)
  refine oAloadN C d4_53 rfl rfl rfl ?_
  refine oGetF C (w15 hw) Via.refl p2 d4_54 rfl ?_
  refine oAloadN C d4_57 rfl rfl rfl ?_
  refine oGetF C (w22 hw) Via.refl p1 d4_58 rfl ?_
  refine oLaload C p3 (by decide) (k := 2) rfl (v := .long y6) rfl d4_61 rfl ?_
  refine oLloadN C d4_62 rfl rfl ?_
  refine oLcmp_lt C d4_63 rfl d4_64 (q := 80) (by decide) (by decide) (r := 67) rfl (fun hq => absurd hq (hc24)) (fun hc63 => ?_)
  refine oAloadN C d4_67 rfl rfl rfl ?_
  refine oDup C d4_68 rfl rfl ?_
  refine oGetF C (w22 hw) Via.refl p1 d4_69 rfl ?_
  refine oIconst C d4_72 (z := 1) rfl rfl ?_
  refine oIadd C d4_73 rfl ?_
  refine oCastI (z' := (3 : Int32)) (by decide) ?_
  refine oPutF C (w22 hw) Via.refl p1 p5 (Or.inl (w23 hw)) (w7 hw) (ty := .int) (by decide) rfl rfl d4_74 rfl p6 fun h1 W1 => ?_
  have f1w := Fld.same W1 p1
  refine oGoto C d4_77 (q := 41) (by decide) (by decide) ?_
  refine oAloadN C d4_41 rfl rfl rfl ?_
  refine oGetF C (w22 hw) Via.refl f1w d4_42 rfl ?_
  refine oAloadN C d4_45 rfl rfl rfl ?_
  have f2 := (Fld.other W1 p2 (Or.inr (oSn0 hw 0 1)))
  refine oGetF C (w15 hw) Via.refl f2 d4_46 rfl ?_
  have f3 := (p3.other W1 p7)
  refine oLen C f3 (z := (3 : Int32)) rfl d4_49 rfl ?_
  refine oIcmp_ge C d4_50 (q := 80) (by decide) (by decide) (r := 53) rfl (fun hc50_1 => ?_) (fun hq => absurd hq ((by decide)))
  refine oIloadN C d4_80 rfl rfl ?_
  refine oRetZ C d4_81 (z' := (1 : Int32)) rfl (by decide) (by decide) ?_
  exact ⟨rfl, ((oKe.refl h0 [] [(b1, Jvm.RoadKit.slotOf Z "com/example/tideline/tideline/Retention" "next" "I")]).wrF W1 (Or.inl (List.mem_of_getElem? (i := 0) rfl))), f1w⟩
theorem oe3023 (c p s0 s1 s2 : Int64) (hcp : c.toInt < p.toInt) (h01 : s1.toInt < s0.toInt) (h12 : s2.toInt < s1.toInt) (a0 : ¬ s0 < p) (a1 : ¬ s1 < p) (a2 : s2 < p) (b2 : ¬ s2 < c) : fExp c p 0 3 s0 s1 s2 = 1 := by
  rw [fExp_def]
  simp only [fReads_def, fAf_def, fN1_def, fN2_def, fN3_def, Int64.lt_iff_toInt_lt] at *
  simp (disch := first | decide | omega) only [if_pos, if_neg]
set_option maxRecDepth 65536 in
set_option maxHeartbeats 40000000 in
theorem ac4_20 (l : Launch) (Z : State) (a0 : Array Value) (hw : oHw a0 Z) (h0 : Heap) (n0 : Nat) (Z0 : n0 ≤ h0.size) (b1 : Addr) (y2 : Int64) (b3 : Addr) (y4 : Int64) (y5 : Int64) (y6 : Int64) (p1 : Fld Z h0 b1 "com/example/tideline/tideline/Retention" "next" "I" (.int 3)) (p2 : Fld Z h0 b1 "com/example/tideline/tideline/Retention" "open" "[J" (.ref b3)) (p3 : oAr Z h0 b3 .long [.long y4, .long y5, .long y6]) :
    oMet l Z (⟨"com/example/tideline/tideline/Retention", "keeps", "(J)Z"⟩ : MethodName) prog_43_method_3_code 4 (some .boolean) [] ({ frames := 0, cells := 0, slots := 0, locals := 0 } : Room) 0 0 n0 #[.ref b1, .long y2] h0 (fun v h => v = some (.int 0) ∧ oKe h0 h [] []) := by
  refine oMet.intro (plainFor_of_name pn_593216) (fun m => ef_4 m b1 y2) ?_
  intro op oe os m obl omt ocd C
  refine oAloadN C d4_0 rfl rfl rfl ?_
  refine oGetF C (w22 hw) Via.refl p1 d4_1 rfl ?_
  refine oAloadN C d4_4 rfl rfl rfl ?_
  refine oGetF C (w15 hw) Via.refl p2 d4_5 rfl ?_
  refine oLen C p3 (z := (3 : Int32)) rfl d4_8 rfl ?_
  refine oIcmp_lt C d4_9 (q := 14) (by decide) (by decide) (r := 12) rfl (fun hq => absurd hq ((by decide))) (fun hc9 => ?_)
  refine oIconst C d4_12 (z := 0) rfl rfl ?_
  refine oRetZ C d4_13 (z' := (0 : Int32)) rfl (by decide) (by decide) ?_
  exact ⟨rfl, (oKe.refl h0 [] [])⟩
theorem oe3033 (c p s0 s1 s2 : Int64) (hcp : c.toInt < p.toInt) (h01 : s1.toInt < s0.toInt) (h12 : s2.toInt < s1.toInt) (a0 : ¬ s0 < p) (a1 : ¬ s1 < p) (a2 : ¬ s2 < p) : fExp c p 0 3 s0 s1 s2 = 0 := by
  rw [fExp_def]
  simp only [fReads_def, fAf_def, fN1_def, fN2_def, fN3_def, Int64.lt_iff_toInt_lt] at *
  simp (disch := first | decide | omega) only [if_pos, if_neg]
theorem oe3101 (c p s0 s1 s2 : Int64) (hcp : c.toInt = p.toInt) (h01 : s1.toInt < s0.toInt) (h12 : s2.toInt < s1.toInt) (b0 : ¬ s0 < c) (b1 : s1 < c) : fExp c p 1 3 s0 s1 s2 = 1 := by
  rw [fExp_def]
  simp only [fReads_def, fAf_def, fN1_def, fN2_def, fN3_def, Int64.lt_iff_toInt_lt] at *
  simp (disch := first | decide | omega) only [if_pos, if_neg]
theorem oe3102 (c p s0 s1 s2 : Int64) (hcp : c.toInt = p.toInt) (h01 : s1.toInt < s0.toInt) (h12 : s2.toInt < s1.toInt) (b0 : ¬ s0 < c) (b1 : ¬ s1 < c) (b2 : s2 < c) : fExp c p 1 3 s0 s1 s2 = 1 := by
  rw [fExp_def]
  simp only [fReads_def, fAf_def, fN1_def, fN2_def, fN3_def, Int64.lt_iff_toInt_lt] at *
  simp (disch := first | decide | omega) only [if_pos, if_neg]
theorem oe3103 (c p s0 s1 s2 : Int64) (hcp : c.toInt = p.toInt) (h01 : s1.toInt < s0.toInt) (h12 : s2.toInt < s1.toInt) (b0 : ¬ s0 < c) (b1 : ¬ s1 < c) (b2 : ¬ s2 < c) : fExp c p 1 3 s0 s1 s2 = 1 := by
  rw [fExp_def]
  simp only [fReads_def, fAf_def, fN1_def, fN2_def, fN3_def, Int64.lt_iff_toInt_lt] at *
  simp (disch := first | decide | omega) only [if_pos, if_neg]
set_option maxRecDepth 65536 in
set_option maxHeartbeats 40000000 in
theorem mt_law (l : Launch) (Z : State) (a0 : Array Value) (hw : oHw a0 Z) (h0 : Heap) (n0 : Nat) (Z0 : n0 ≤ h0.size) (x0 : Int64) (n9 : Int32) (sg : Int32) (cg : Int32)  :
    oMet l Z x code maxLocals ret tables_1 room_1 16 128 n0 #[.long x0, .int n9, .int sg, .int cg] h0 (fun v h => v = some (.int 1)) := by
  refine oMet.intro (plainFor_of_name pn_777322) (fun m => ef_0 m x0 n9 sg cg) ?_
  intro op oe os m obl omt ocd C
  refine oLloadN C at_0 rfl rfl ?_
  refine oLdc2 C (w0 hw) at_1 rfl ?_
  refine oCallS C (w1 hw) (w2 hw) (w3 hw) (w4 hw) at_4 (by decide) pd_212481 rfl rfl (argsL := [.long x0, .long (-9223372036854775744)]) (rest := []) rfl (W := 0) rfl (q := 7) rfl (by decide) (by decide) (by decide) (by decide) (mt_fMax l Z a0 hw _ n0 Z0 x0 (-9223372036854775744 : Int64) ) (oPureK ?_)
  obtain ⟨tt, e_tt⟩ : ∃ z, z = (fMax x0 (-9223372036854775744 : Int64)) := ⟨_, rfl⟩
  refine oCastL e_tt.symm ?_
  have r_tt := own_t x0
  rw [← e_tt] at r_tt
  refine oLstore C at_7 (Ls' := #[.val (.long x0), .second, .val (.int n9), .val (.int sg), .val (.int cg), .val (.long tt), .second, .unset, .unset, .unset, .unset, .unset, .unset, .unset, .unset, .unset, .unset, .unset, .unset, .unset, .unset, .unset, .unset, .unset, .unset, .unset, .unset, .unset]) rfl (q := 9) rfl ?_
  refine oIloadN C at_9 rfl rfl ?_
  refine oIconst C at_10 (z := 3) rfl rfl ?_
  refine oIand C at_11 rfl ?_
  rcases own_n n9 with hv | hv | hv | hv
  ·
   refine oCastI (z' := (0 : Int32)) hv ?_
   refine oIstore C at_12 (Ls' := #[.val (.long x0), .second, .val (.int n9), .val (.int sg), .val (.int cg), .val (.long tt), .second, .val (.int 0), .unset, .unset, .unset, .unset, .unset, .unset, .unset, .unset, .unset, .unset, .unset, .unset, .unset, .unset, .unset, .unset, .unset, .unset, .unset, .unset]) rfl (q := 14) rfl ?_
   refine oLload C at_14 rfl rfl ?_
   refine oIloadN C at_16 rfl rfl ?_
   refine oBipush C at_17 (z := 15) rfl rfl ?_
   refine oIand C at_19 rfl ?_
   refine oI2L C at_20 rfl ?_
   refine oLsub C at_21 rfl ?_
   obtain ⟨s0, e_s0⟩ : ∃ z, z = (tt - ((sg &&& (15 : Int32)).toInt64)) := ⟨_, rfl⟩
   refine oCastL e_s0.symm ?_
   have r_s0 : s0.toInt ≤ tt.toInt ∧ tt.toInt - 15 ≤ s0.toInt := by rw [e_s0, own_sub (own_m sg 15 4 15 (by decide) (by decide) (by decide) (by decide)) (by omega)]; have z := own_m sg 15 4 15 (by decide) (by decide) (by decide) (by decide); omega
   refine oLstore C at_22 (Ls' := #[.val (.long x0), .second, .val (.int n9), .val (.int sg), .val (.int cg), .val (.long tt), .second, .val (.int 0), .val (.long s0), .second, .unset, .unset, .unset, .unset, .unset, .unset, .unset, .unset, .unset, .unset, .unset, .unset, .unset, .unset, .unset, .unset, .unset, .unset]) rfl (q := 24) rfl ?_
   refine oLload C at_24 rfl rfl ?_
   refine oLconst C at_26 (z := 1) rfl rfl ?_
   refine oLsub C at_27 rfl ?_
   refine oIloadN C at_28 rfl rfl ?_
   refine oIconst C at_29 (z := 4) rfl rfl ?_
   refine oIushr C at_30 rfl ?_
   refine oBipush C at_31 (z := 7) rfl rfl ?_
   refine oIand C at_33 rfl ?_
   refine oI2L C at_34 rfl ?_
   refine oLsub C at_35 rfl ?_
   obtain ⟨s1, e_s1⟩ : ∃ z, z = ((s0 - (1 : Int64)) - ((((sg.toUInt32 >>> ((4 : Int32) &&& 31).toUInt32).toInt32) &&& (7 : Int32)).toInt64)) := ⟨_, rfl⟩
   refine oCastL e_s1.symm ?_
   have r_s1 : s1.toInt < s0.toInt ∧ s0.toInt - 8 ≤ s1.toInt := by rw [e_s1, own_sub (own_m (sg.toUInt32 >>> ((4 : Int32) &&& 31).toUInt32).toInt32 7 3 7 (by decide) (by decide) (by decide) (by decide)) (by rw [own_sub1 (by omega)]; omega), own_sub1 (by omega)]; have z := own_m (sg.toUInt32 >>> ((4 : Int32) &&& 31).toUInt32).toInt32 7 3 7 (by decide) (by decide) (by decide) (by decide); omega
   refine oLstore C at_36 (Ls' := #[.val (.long x0), .second, .val (.int n9), .val (.int sg), .val (.int cg), .val (.long tt), .second, .val (.int 0), .val (.long s0), .second, .val (.long s1), .second, .unset, .unset, .unset, .unset, .unset, .unset, .unset, .unset, .unset, .unset, .unset, .unset, .unset, .unset, .unset, .unset]) rfl (q := 38) rfl ?_
   refine oLload C at_38 rfl rfl ?_
   refine oLconst C at_40 (z := 1) rfl rfl ?_
   refine oLsub C at_41 rfl ?_
   refine oIloadN C at_42 rfl rfl ?_
   refine oBipush C at_43 (z := 7) rfl rfl ?_
   refine oIushr C at_45 rfl ?_
   refine oBipush C at_46 (z := 7) rfl rfl ?_
   refine oIand C at_48 rfl ?_
   refine oI2L C at_49 rfl ?_
   refine oLsub C at_50 rfl ?_
   obtain ⟨s2, e_s2⟩ : ∃ z, z = ((s1 - (1 : Int64)) - ((((sg.toUInt32 >>> ((7 : Int32) &&& 31).toUInt32).toInt32) &&& (7 : Int32)).toInt64)) := ⟨_, rfl⟩
   refine oCastL e_s2.symm ?_
   have r_s2 : s2.toInt < s1.toInt ∧ s1.toInt - 8 ≤ s2.toInt := by rw [e_s2, own_sub (own_m (sg.toUInt32 >>> ((7 : Int32) &&& 31).toUInt32).toInt32 7 3 7 (by decide) (by decide) (by decide) (by decide)) (by rw [own_sub1 (by omega)]; omega), own_sub1 (by omega)]; have z := own_m (sg.toUInt32 >>> ((7 : Int32) &&& 31).toUInt32).toInt32 7 3 7 (by decide) (by decide) (by decide) (by decide); omega
   have r01 := r_s1.1
   have r12 := r_s2.1
   refine oLstore C at_51 (Ls' := #[.val (.long x0), .second, .val (.int n9), .val (.int sg), .val (.int cg), .val (.long tt), .second, .val (.int 0), .val (.long s0), .second, .val (.long s1), .second, .val (.long s2), .second, .unset, .unset, .unset, .unset, .unset, .unset, .unset, .unset, .unset, .unset, .unset, .unset, .unset, .unset]) rfl (q := 53) rfl ?_
   refine oLload C at_53 rfl rfl ?_
   refine oIload C at_55 rfl rfl ?_
   refine oBipush C at_57 (z := 15) rfl rfl ?_
   refine oIand C at_59 rfl ?_
   refine oI2L C at_60 rfl ?_
   refine oLsub C at_61 rfl ?_
   obtain ⟨c0, e_c0⟩ : ∃ z, z = (tt - ((cg &&& (15 : Int32)).toInt64)) := ⟨_, rfl⟩
   refine oCastL e_c0.symm ?_
   have r_c0 : c0.toInt ≤ tt.toInt ∧ tt.toInt - 15 ≤ c0.toInt := by rw [e_c0, own_sub (own_m cg 15 4 15 (by decide) (by decide) (by decide) (by decide)) (by omega)]; have z := own_m cg 15 4 15 (by decide) (by decide) (by decide) (by decide); omega
   refine oLstore C at_62 (Ls' := #[.val (.long x0), .second, .val (.int n9), .val (.int sg), .val (.int cg), .val (.long tt), .second, .val (.int 0), .val (.long s0), .second, .val (.long s1), .second, .val (.long s2), .second, .val (.long c0), .second, .unset, .unset, .unset, .unset, .unset, .unset, .unset, .unset, .unset, .unset, .unset, .unset]) rfl (q := 64) rfl ?_
   refine oLload C at_64 rfl rfl ?_
   refine oLconst C at_66 (z := 1) rfl rfl ?_
   refine oLsub C at_67 rfl ?_
   refine oIload C at_68 rfl rfl ?_
   refine oIconst C at_70 (z := 4) rfl rfl ?_
   refine oIushr C at_71 rfl ?_
   refine oBipush C at_72 (z := 7) rfl rfl ?_
   refine oIand C at_74 rfl ?_
   refine oI2L C at_75 rfl ?_
   refine oLsub C at_76 rfl ?_
   obtain ⟨c1, e_c1⟩ : ∃ z, z = ((c0 - (1 : Int64)) - ((((cg.toUInt32 >>> ((4 : Int32) &&& 31).toUInt32).toInt32) &&& (7 : Int32)).toInt64)) := ⟨_, rfl⟩
   refine oCastL e_c1.symm ?_
   have r_c1 : c1.toInt < c0.toInt ∧ c0.toInt - 8 ≤ c1.toInt := by rw [e_c1, own_sub (own_m (cg.toUInt32 >>> ((4 : Int32) &&& 31).toUInt32).toInt32 7 3 7 (by decide) (by decide) (by decide) (by decide)) (by rw [own_sub1 (by omega)]; omega), own_sub1 (by omega)]; have z := own_m (cg.toUInt32 >>> ((4 : Int32) &&& 31).toUInt32).toInt32 7 3 7 (by decide) (by decide) (by decide) (by decide); omega
   have rc1 := r_c1.1
   refine oLstore C at_77 (Ls' := #[.val (.long x0), .second, .val (.int n9), .val (.int sg), .val (.int cg), .val (.long tt), .second, .val (.int 0), .val (.long s0), .second, .val (.long s1), .second, .val (.long s2), .second, .val (.long c0), .second, .val (.long c1), .second, .unset, .unset, .unset, .unset, .unset, .unset, .unset, .unset, .unset, .unset]) rfl (q := 79) rfl ?_
   refine oLload C at_79 rfl rfl ?_
   refine oLconst C at_81 (z := 1) rfl rfl ?_
   refine oLsub C at_82 rfl ?_
   refine oIload C at_83 rfl rfl ?_
   refine oBipush C at_85 (z := 7) rfl rfl ?_
   refine oIushr C at_87 rfl ?_
   refine oBipush C at_88 (z := 7) rfl rfl ?_
   refine oIand C at_90 rfl ?_
   refine oI2L C at_91 rfl ?_
   refine oLsub C at_92 rfl ?_
   obtain ⟨c2, e_c2⟩ : ∃ z, z = ((c1 - (1 : Int64)) - ((((cg.toUInt32 >>> ((7 : Int32) &&& 31).toUInt32).toInt32) &&& (7 : Int32)).toInt64)) := ⟨_, rfl⟩
   refine oCastL e_c2.symm ?_
   have r_c2 : c2.toInt < c1.toInt ∧ c1.toInt - 8 ≤ c2.toInt := by rw [e_c2, own_sub (own_m (cg.toUInt32 >>> ((7 : Int32) &&& 31).toUInt32).toInt32 7 3 7 (by decide) (by decide) (by decide) (by decide)) (by rw [own_sub1 (by omega)]; omega), own_sub1 (by omega)]; have z := own_m (cg.toUInt32 >>> ((7 : Int32) &&& 31).toUInt32).toInt32 7 3 7 (by decide) (by decide) (by decide) (by decide); omega
   have rc2 := r_c2.1
   refine oLstore C at_93 (Ls' := #[.val (.long x0), .second, .val (.int n9), .val (.int sg), .val (.int cg), .val (.long tt), .second, .val (.int 0), .val (.long s0), .second, .val (.long s1), .second, .val (.long s2), .second, .val (.long c0), .second, .val (.long c1), .second, .val (.long c2), .second, .unset, .unset, .unset, .unset, .unset, .unset, .unset, .unset]) rfl (q := 95) rfl ?_
   refine oLload C at_95 rfl rfl ?_
   refine oLconst C at_97 (z := 1) rfl rfl ?_
   refine oLsub C at_98 rfl ?_
   refine oIload C at_99 rfl rfl ?_
   refine oBipush C at_101 (z := 10) rfl rfl ?_
   refine oIushr C at_103 rfl ?_
   refine oBipush C at_104 (z := 7) rfl rfl ?_
   refine oIand C at_106 rfl ?_
   refine oI2L C at_107 rfl ?_
   refine oLsub C at_108 rfl ?_
   obtain ⟨c3, e_c3⟩ : ∃ z, z = ((c2 - (1 : Int64)) - ((((cg.toUInt32 >>> ((10 : Int32) &&& 31).toUInt32).toInt32) &&& (7 : Int32)).toInt64)) := ⟨_, rfl⟩
   refine oCastL e_c3.symm ?_
   have r_c3 : c3.toInt < c2.toInt ∧ c2.toInt - 8 ≤ c3.toInt := by rw [e_c3, own_sub (own_m (cg.toUInt32 >>> ((10 : Int32) &&& 31).toUInt32).toInt32 7 3 7 (by decide) (by decide) (by decide) (by decide)) (by rw [own_sub1 (by omega)]; omega), own_sub1 (by omega)]; have z := own_m (cg.toUInt32 >>> ((10 : Int32) &&& 31).toUInt32).toInt32 7 3 7 (by decide) (by decide) (by decide) (by decide); omega
   have rc3 := r_c3.1
   refine oLstore C at_109 (Ls' := #[.val (.long x0), .second, .val (.int n9), .val (.int sg), .val (.int cg), .val (.long tt), .second, .val (.int 0), .val (.long s0), .second, .val (.long s1), .second, .val (.long s2), .second, .val (.long c0), .second, .val (.long c1), .second, .val (.long c2), .second, .val (.long c3), .second, .unset, .unset, .unset, .unset, .unset, .unset]) rfl (q := 111) rfl ?_
   refine oIload C at_111 rfl rfl ?_
   refine oIf_ne C at_113 (q := 124) (by decide) (by decide) (r := 116) rfl (fun hq => absurd hq ((by decide))) (fun hc113 => ?_)
   refine oIconst C at_116 (z := 0) rfl rfl ?_
   refine oNewA C (w5 hw) rfl at_117 rfl (by decide) (k := 0) rfl (by decide) (by decide) (cap := 0) (Nat.le_refl _) (by decide) (by decide) fun a5 h5 g_a5 E5 A5 => ?_
   have ge_a5 : n0 ≤ a5 := g_a5 ▸ Z0
   have A5l : oAr Z h5 a5 .long [] := A5
   refine oAstore C at_119 rfl (Ls' := #[.val (.long x0), .second, .val (.int n9), .val (.int sg), .val (.int cg), .val (.long tt), .second, .val (.int 0), .val (.long s0), .second, .val (.long s1), .second, .val (.long s2), .second, .val (.long c0), .second, .val (.long c1), .second, .val (.long c2), .second, .val (.long c3), .second, .val (.ref a5), .unset, .unset, .unset, .unset, .unset]) rfl (q := 121) rfl ?_
   refine oGoto C at_121 (q := 187) (by decide) (by decide) ?_
   refine oNew C (w6 hw) (w7 hw) (w8 hw) at_187 rfl (by decide) (by decide) fun a6 h6 g_a6 E6 X6 D6 => ?_
   have z7 := (Nat.le_trans Z0 E5.1)
   have ge_a6 : n0 ≤ a6 := g_a6 ▸ z7
   have f6_open : Fld Z h6 a6 "com/example/tideline/tideline/Retention" "open" "[J" (.null) := D6 (Or.inr (w16 hw)) (ty := (.array .long)) (by decide)
   have f6_next : Fld Z h6 a6 "com/example/tideline/tideline/Retention" "next" "I" (.int 0) := D6 (Or.inl (w23 hw)) (ty := .int) (by decide)
   refine oDup C at_190 rfl rfl ?_
   refine oAload C at_191 rfl rfl rfl ?_
   have z9 := (Nat.le_trans z7 E6.1)
   refine oCallC C (w9 hw) (w10 hw) (w8 hw) (w11 hw) at_193 rfl (by decide) pd_429926 rfl rfl (a := a6) (argsL := [.ref a5]) (rest := [.ref a6]) rfl (W := 1) rfl (q := 196) rfl (by decide) (by decide) (by decide) (by decide) (ac2_0 l Z a0 hw _ n0 z9 a6 a5 X6 f6_open ge_a6) (oVQ ?_)
   rintro h8 ⟨K8, f8_0⟩
   refine oAstore C at_196 rfl (Ls' := #[.val (.long x0), .second, .val (.int n9), .val (.int sg), .val (.int cg), .val (.long tt), .second, .val (.int 0), .val (.long s0), .second, .val (.long s1), .second, .val (.long s2), .second, .val (.long c0), .second, .val (.long c1), .second, .val (.long c2), .second, .val (.long c3), .second, .val (.ref a5), .val (.ref a6), .unset, .unset, .unset, .unset]) rfl (q := 198) rfl ?_
   refine oAload C at_198 rfl rfl rfl ?_
   refine oLload C at_200 rfl rfl ?_
   have f10 := (K8.fld f6_next nin0 (oNF (Or.inr (oSn0 hw 1 0)) oN0))
   have ne11 : a5 ≠ a6 := oNe' A5l.lt (Nat.le_of_eq g_a6.symm)
   have f12 := (K8.arr (A5l.ext E6) nin0 (oAS ne11 oA0))
   have f14 := (K8.exa X6)
   have z15 := (Nat.le_trans z9 K8.1)
   refine oCallV C (w17 hw) (w18 hw) (w20 hw) (w19 hw) (w8 hw) (w21 hw) at_202 f14 (by decide) pd_692006 rfl rfl (a := a6) (argsL := [.long c0]) (rest := []) rfl (W := 0) rfl (q := 205) rfl (by decide) (by decide) (by decide) (by decide) (ac4_1 l Z a0 hw _ n0 z15 a6 c0 a5 f10 f8_0 f12) (oRQ ?_)
   rintro h13 K13
   refine oIstore C at_205 (Ls' := #[.val (.long x0), .second, .val (.int n9), .val (.int sg), .val (.int cg), .val (.long tt), .second, .val (.int 0), .val (.long s0), .second, .val (.long s1), .second, .val (.long s2), .second, .val (.long c0), .second, .val (.long c1), .second, .val (.long c2), .second, .val (.long c3), .second, .val (.ref a5), .val (.ref a6), .val (.int 0), .unset, .unset, .unset]) rfl (q := 207) rfl ?_
   refine oAload C at_207 rfl rfl rfl ?_
   refine oLload C at_209 rfl rfl ?_
   have f16 := (K13.fld f10 nin0 oN0)
   have f17 := (K13.fld f8_0 nin0 oN0)
   have f18 := (K13.arr f12 nin0 oA0)
   have f20 := (K13.exa f14)
   have z21 := (Nat.le_trans z15 K13.1)
   refine oCallV C (w17 hw) (w18 hw) (w20 hw) (w19 hw) (w8 hw) (w21 hw) at_211 f20 (by decide) pd_692006 rfl rfl (a := a6) (argsL := [.long c1]) (rest := []) rfl (W := 0) rfl (q := 214) rfl (by decide) (by decide) (by decide) (by decide) (ac4_1 l Z a0 hw _ n0 z21 a6 c1 a5 f16 f17 f18) (oRQ ?_)
   rintro h19 K19
   refine oIstore C at_214 (Ls' := #[.val (.long x0), .second, .val (.int n9), .val (.int sg), .val (.int cg), .val (.long tt), .second, .val (.int 0), .val (.long s0), .second, .val (.long s1), .second, .val (.long s2), .second, .val (.long c0), .second, .val (.long c1), .second, .val (.long c2), .second, .val (.long c3), .second, .val (.ref a5), .val (.ref a6), .val (.int 0), .val (.int 0), .unset, .unset]) rfl (q := 216) rfl ?_
   refine oAload C at_216 rfl rfl rfl ?_
   refine oLload C at_218 rfl rfl ?_
   have f22 := (K19.fld f16 nin0 oN0)
   have f23 := (K19.fld f17 nin0 oN0)
   have f24 := (K19.arr f18 nin0 oA0)
   have f26 := (K19.exa f20)
   have z27 := (Nat.le_trans z21 K19.1)
   refine oCallV C (w17 hw) (w18 hw) (w20 hw) (w19 hw) (w8 hw) (w21 hw) at_220 f26 (by decide) pd_692006 rfl rfl (a := a6) (argsL := [.long c2]) (rest := []) rfl (W := 0) rfl (q := 223) rfl (by decide) (by decide) (by decide) (by decide) (ac4_1 l Z a0 hw _ n0 z27 a6 c2 a5 f22 f23 f24) (oRQ ?_)
   rintro h25 K25
   refine oIstore C at_223 (Ls' := #[.val (.long x0), .second, .val (.int n9), .val (.int sg), .val (.int cg), .val (.long tt), .second, .val (.int 0), .val (.long s0), .second, .val (.long s1), .second, .val (.long s2), .second, .val (.long c0), .second, .val (.long c1), .second, .val (.long c2), .second, .val (.long c3), .second, .val (.ref a5), .val (.ref a6), .val (.int 0), .val (.int 0), .val (.int 0), .unset]) rfl (q := 225) rfl ?_
   refine oAload C at_225 rfl rfl rfl ?_
   refine oLload C at_227 rfl rfl ?_
   have f28 := (K25.fld f22 nin0 oN0)
   have f29 := (K25.fld f23 nin0 oN0)
   have f30 := (K25.arr f24 nin0 oA0)
   have f32 := (K25.exa f26)
   have z33 := (Nat.le_trans z27 K25.1)
   refine oCallV C (w17 hw) (w18 hw) (w20 hw) (w19 hw) (w8 hw) (w21 hw) at_229 f32 (by decide) pd_692006 rfl rfl (a := a6) (argsL := [.long c3]) (rest := []) rfl (W := 0) rfl (q := 232) rfl (by decide) (by decide) (by decide) (by decide) (ac4_1 l Z a0 hw _ n0 z33 a6 c3 a5 f28 f29 f30) (oRQ ?_)
   rintro h31 K31
   refine oIstore C at_232 (Ls' := #[.val (.long x0), .second, .val (.int n9), .val (.int sg), .val (.int cg), .val (.long tt), .second, .val (.int 0), .val (.long s0), .second, .val (.long s1), .second, .val (.long s2), .second, .val (.long c0), .second, .val (.long c1), .second, .val (.long c2), .second, .val (.long c3), .second, .val (.ref a5), .val (.ref a6), .val (.int 0), .val (.int 0), .val (.int 0), .val (.int 0)]) rfl (q := 234) rfl ?_
   refine oIload C at_234 rfl rfl ?_
   refine oLload C at_236 rfl rfl ?_
   refine oLload C at_238 rfl rfl ?_
   refine oIconst C at_240 (z := 1) rfl rfl ?_
   refine oIload C at_241 rfl rfl ?_
   refine oLload C at_243 rfl rfl ?_
   refine oLload C at_245 rfl rfl ?_
   refine oLload C at_247 rfl rfl ?_
   have z34 := (Nat.le_trans z33 K31.1)
   refine oCallS C (w24 hw) (w25 hw) (w26 hw) (w27 hw) at_249 (by decide) pd_717522 rfl rfl (argsL := [.long c0, .long c0, .int 1, .int 0, .long s0, .long s1, .long s2]) (rest := [.int 0]) rfl (W := 1) rfl (q := 252) rfl (by decide) (by decide) (by decide) (by decide) (mt_fExp l Z a0 hw _ n0 z34 c0 c0 (1 : Int32) (0 : Int32) s0 s1 s2 ) (oPureK ?_)
   refine oIcmp_ne C at_252 (q := 322) (by decide) (by decide) (r := 255) rfl (fun hq => absurd hq (not_not_intro (oe0100 c0 c0 s0 s1 s2 rfl r01 r12 ).symm)) (fun hc252 => ?_)
   refine oIload C at_255 rfl rfl ?_
   refine oLload C at_257 rfl rfl ?_
   refine oLload C at_259 rfl rfl ?_
   refine oIconst C at_261 (z := 0) rfl rfl ?_
   refine oIload C at_262 rfl rfl ?_
   refine oLload C at_264 rfl rfl ?_
   refine oLload C at_266 rfl rfl ?_
   refine oLload C at_268 rfl rfl ?_
   refine oCallS C (w24 hw) (w25 hw) (w26 hw) (w27 hw) at_270 (by decide) pd_717522 rfl rfl (argsL := [.long c1, .long c0, .int 0, .int 0, .long s0, .long s1, .long s2]) (rest := [.int 0]) rfl (W := 1) rfl (q := 273) rfl (by decide) (by decide) (by decide) (by decide) (mt_fExp l Z a0 hw _ n0 z34 c1 c0 (0 : Int32) (0 : Int32) s0 s1 s2 ) (oPureK ?_)
   refine oIcmp_ne C at_273 (q := 322) (by decide) (by decide) (r := 276) rfl (fun hq => absurd hq (not_not_intro (oe0000 c1 c0 s0 s1 s2 rc1 r01 r12 ).symm)) (fun hc273 => ?_)
   refine oIload C at_276 rfl rfl ?_
   refine oLload C at_278 rfl rfl ?_
   refine oLload C at_280 rfl rfl ?_
   refine oIconst C at_282 (z := 0) rfl rfl ?_
   refine oIload C at_283 rfl rfl ?_
   refine oLload C at_285 rfl rfl ?_
   refine oLload C at_287 rfl rfl ?_
   refine oLload C at_289 rfl rfl ?_
   refine oCallS C (w24 hw) (w25 hw) (w26 hw) (w27 hw) at_291 (by decide) pd_717522 rfl rfl (argsL := [.long c2, .long c1, .int 0, .int 0, .long s0, .long s1, .long s2]) (rest := [.int 0]) rfl (W := 1) rfl (q := 294) rfl (by decide) (by decide) (by decide) (by decide) (mt_fExp l Z a0 hw _ n0 z34 c2 c1 (0 : Int32) (0 : Int32) s0 s1 s2 ) (oPureK ?_)
   refine oIcmp_ne C at_294 (q := 322) (by decide) (by decide) (r := 297) rfl (fun hq => absurd hq (not_not_intro (oe0000 c2 c1 s0 s1 s2 rc2 r01 r12 ).symm)) (fun hc294 => ?_)
   refine oIload C at_297 rfl rfl ?_
   refine oLload C at_299 rfl rfl ?_
   refine oLload C at_301 rfl rfl ?_
   refine oIconst C at_303 (z := 0) rfl rfl ?_
   refine oIload C at_304 rfl rfl ?_
   refine oLload C at_306 rfl rfl ?_
   refine oLload C at_308 rfl rfl ?_
   refine oLload C at_310 rfl rfl ?_
   refine oCallS C (w24 hw) (w25 hw) (w26 hw) (w27 hw) at_312 (by decide) pd_717522 rfl rfl (argsL := [.long c3, .long c2, .int 0, .int 0, .long s0, .long s1, .long s2]) (rest := [.int 0]) rfl (W := 1) rfl (q := 315) rfl (by decide) (by decide) (by decide) (by decide) (mt_fExp l Z a0 hw _ n0 z34 c3 c2 (0 : Int32) (0 : Int32) s0 s1 s2 ) (oPureK ?_)
   refine oIcmp_ne C at_315 (q := 322) (by decide) (by decide) (r := 318) rfl (fun hq => absurd hq (not_not_intro (oe0000 c3 c2 s0 s1 s2 rc3 r01 r12 ).symm)) (fun hc315 => ?_)
   refine oIconst C at_318 (z := 1) rfl rfl ?_
   refine oGoto C at_319 (q := 323) (by decide) (by decide) ?_
   refine oRetZ C at_323 (z' := (1 : Int32)) rfl (by decide) (by decide) ?_
   exact rfl
  ·
   refine oCastI (z' := (1 : Int32)) hv ?_
   refine oIstore C at_12 (Ls' := #[.val (.long x0), .second, .val (.int n9), .val (.int sg), .val (.int cg), .val (.long tt), .second, .val (.int 1), .unset, .unset, .unset, .unset, .unset, .unset, .unset, .unset, .unset, .unset, .unset, .unset, .unset, .unset, .unset, .unset, .unset, .unset, .unset, .unset]) rfl (q := 14) rfl ?_
   refine oLload C at_14 rfl rfl ?_
   refine oIloadN C at_16 rfl rfl ?_
   refine oBipush C at_17 (z := 15) rfl rfl ?_
   refine oIand C at_19 rfl ?_
   refine oI2L C at_20 rfl ?_
   refine oLsub C at_21 rfl ?_
   obtain ⟨s0, e_s0⟩ : ∃ z, z = (tt - ((sg &&& (15 : Int32)).toInt64)) := ⟨_, rfl⟩
   refine oCastL e_s0.symm ?_
   have r_s0 : s0.toInt ≤ tt.toInt ∧ tt.toInt - 15 ≤ s0.toInt := by rw [e_s0, own_sub (own_m sg 15 4 15 (by decide) (by decide) (by decide) (by decide)) (by omega)]; have z := own_m sg 15 4 15 (by decide) (by decide) (by decide) (by decide); omega
   refine oLstore C at_22 (Ls' := #[.val (.long x0), .second, .val (.int n9), .val (.int sg), .val (.int cg), .val (.long tt), .second, .val (.int 1), .val (.long s0), .second, .unset, .unset, .unset, .unset, .unset, .unset, .unset, .unset, .unset, .unset, .unset, .unset, .unset, .unset, .unset, .unset, .unset, .unset]) rfl (q := 24) rfl ?_
   refine oLload C at_24 rfl rfl ?_
   refine oLconst C at_26 (z := 1) rfl rfl ?_
   refine oLsub C at_27 rfl ?_
   refine oIloadN C at_28 rfl rfl ?_
   refine oIconst C at_29 (z := 4) rfl rfl ?_
   refine oIushr C at_30 rfl ?_
   refine oBipush C at_31 (z := 7) rfl rfl ?_
   refine oIand C at_33 rfl ?_
   refine oI2L C at_34 rfl ?_
   refine oLsub C at_35 rfl ?_
   obtain ⟨s1, e_s1⟩ : ∃ z, z = ((s0 - (1 : Int64)) - ((((sg.toUInt32 >>> ((4 : Int32) &&& 31).toUInt32).toInt32) &&& (7 : Int32)).toInt64)) := ⟨_, rfl⟩
   refine oCastL e_s1.symm ?_
   have r_s1 : s1.toInt < s0.toInt ∧ s0.toInt - 8 ≤ s1.toInt := by rw [e_s1, own_sub (own_m (sg.toUInt32 >>> ((4 : Int32) &&& 31).toUInt32).toInt32 7 3 7 (by decide) (by decide) (by decide) (by decide)) (by rw [own_sub1 (by omega)]; omega), own_sub1 (by omega)]; have z := own_m (sg.toUInt32 >>> ((4 : Int32) &&& 31).toUInt32).toInt32 7 3 7 (by decide) (by decide) (by decide) (by decide); omega
   refine oLstore C at_36 (Ls' := #[.val (.long x0), .second, .val (.int n9), .val (.int sg), .val (.int cg), .val (.long tt), .second, .val (.int 1), .val (.long s0), .second, .val (.long s1), .second, .unset, .unset, .unset, .unset, .unset, .unset, .unset, .unset, .unset, .unset, .unset, .unset, .unset, .unset, .unset, .unset]) rfl (q := 38) rfl ?_
   refine oLload C at_38 rfl rfl ?_
   refine oLconst C at_40 (z := 1) rfl rfl ?_
   refine oLsub C at_41 rfl ?_
   refine oIloadN C at_42 rfl rfl ?_
   refine oBipush C at_43 (z := 7) rfl rfl ?_
   refine oIushr C at_45 rfl ?_
   refine oBipush C at_46 (z := 7) rfl rfl ?_
   refine oIand C at_48 rfl ?_
   refine oI2L C at_49 rfl ?_
   refine oLsub C at_50 rfl ?_
   obtain ⟨s2, e_s2⟩ : ∃ z, z = ((s1 - (1 : Int64)) - ((((sg.toUInt32 >>> ((7 : Int32) &&& 31).toUInt32).toInt32) &&& (7 : Int32)).toInt64)) := ⟨_, rfl⟩
   refine oCastL e_s2.symm ?_
   have r_s2 : s2.toInt < s1.toInt ∧ s1.toInt - 8 ≤ s2.toInt := by rw [e_s2, own_sub (own_m (sg.toUInt32 >>> ((7 : Int32) &&& 31).toUInt32).toInt32 7 3 7 (by decide) (by decide) (by decide) (by decide)) (by rw [own_sub1 (by omega)]; omega), own_sub1 (by omega)]; have z := own_m (sg.toUInt32 >>> ((7 : Int32) &&& 31).toUInt32).toInt32 7 3 7 (by decide) (by decide) (by decide) (by decide); omega
   have r01 := r_s1.1
   have r12 := r_s2.1
   refine oLstore C at_51 (Ls' := #[.val (.long x0), .second, .val (.int n9), .val (.int sg), .val (.int cg), .val (.long tt), .second, .val (.int 1), .val (.long s0), .second, .val (.long s1), .second, .val (.long s2), .second, .unset, .unset, .unset, .unset, .unset, .unset, .unset, .unset, .unset, .unset, .unset, .unset, .unset, .unset]) rfl (q := 53) rfl ?_
   refine oLload C at_53 rfl rfl ?_
   refine oIload C at_55 rfl rfl ?_
   refine oBipush C at_57 (z := 15) rfl rfl ?_
   refine oIand C at_59 rfl ?_
   refine oI2L C at_60 rfl ?_
   refine oLsub C at_61 rfl ?_
   obtain ⟨c0, e_c0⟩ : ∃ z, z = (tt - ((cg &&& (15 : Int32)).toInt64)) := ⟨_, rfl⟩
   refine oCastL e_c0.symm ?_
   have r_c0 : c0.toInt ≤ tt.toInt ∧ tt.toInt - 15 ≤ c0.toInt := by rw [e_c0, own_sub (own_m cg 15 4 15 (by decide) (by decide) (by decide) (by decide)) (by omega)]; have z := own_m cg 15 4 15 (by decide) (by decide) (by decide) (by decide); omega
   refine oLstore C at_62 (Ls' := #[.val (.long x0), .second, .val (.int n9), .val (.int sg), .val (.int cg), .val (.long tt), .second, .val (.int 1), .val (.long s0), .second, .val (.long s1), .second, .val (.long s2), .second, .val (.long c0), .second, .unset, .unset, .unset, .unset, .unset, .unset, .unset, .unset, .unset, .unset, .unset, .unset]) rfl (q := 64) rfl ?_
   refine oLload C at_64 rfl rfl ?_
   refine oLconst C at_66 (z := 1) rfl rfl ?_
   refine oLsub C at_67 rfl ?_
   refine oIload C at_68 rfl rfl ?_
   refine oIconst C at_70 (z := 4) rfl rfl ?_
   refine oIushr C at_71 rfl ?_
   refine oBipush C at_72 (z := 7) rfl rfl ?_
   refine oIand C at_74 rfl ?_
   refine oI2L C at_75 rfl ?_
   refine oLsub C at_76 rfl ?_
   obtain ⟨c1, e_c1⟩ : ∃ z, z = ((c0 - (1 : Int64)) - ((((cg.toUInt32 >>> ((4 : Int32) &&& 31).toUInt32).toInt32) &&& (7 : Int32)).toInt64)) := ⟨_, rfl⟩
   refine oCastL e_c1.symm ?_
   have r_c1 : c1.toInt < c0.toInt ∧ c0.toInt - 8 ≤ c1.toInt := by rw [e_c1, own_sub (own_m (cg.toUInt32 >>> ((4 : Int32) &&& 31).toUInt32).toInt32 7 3 7 (by decide) (by decide) (by decide) (by decide)) (by rw [own_sub1 (by omega)]; omega), own_sub1 (by omega)]; have z := own_m (cg.toUInt32 >>> ((4 : Int32) &&& 31).toUInt32).toInt32 7 3 7 (by decide) (by decide) (by decide) (by decide); omega
   have rc1 := r_c1.1
   refine oLstore C at_77 (Ls' := #[.val (.long x0), .second, .val (.int n9), .val (.int sg), .val (.int cg), .val (.long tt), .second, .val (.int 1), .val (.long s0), .second, .val (.long s1), .second, .val (.long s2), .second, .val (.long c0), .second, .val (.long c1), .second, .unset, .unset, .unset, .unset, .unset, .unset, .unset, .unset, .unset, .unset]) rfl (q := 79) rfl ?_
   refine oLload C at_79 rfl rfl ?_
   refine oLconst C at_81 (z := 1) rfl rfl ?_
   refine oLsub C at_82 rfl ?_
   refine oIload C at_83 rfl rfl ?_
   refine oBipush C at_85 (z := 7) rfl rfl ?_
   refine oIushr C at_87 rfl ?_
   refine oBipush C at_88 (z := 7) rfl rfl ?_
   refine oIand C at_90 rfl ?_
   refine oI2L C at_91 rfl ?_
   refine oLsub C at_92 rfl ?_
   obtain ⟨c2, e_c2⟩ : ∃ z, z = ((c1 - (1 : Int64)) - ((((cg.toUInt32 >>> ((7 : Int32) &&& 31).toUInt32).toInt32) &&& (7 : Int32)).toInt64)) := ⟨_, rfl⟩
   refine oCastL e_c2.symm ?_
   have r_c2 : c2.toInt < c1.toInt ∧ c1.toInt - 8 ≤ c2.toInt := by rw [e_c2, own_sub (own_m (cg.toUInt32 >>> ((7 : Int32) &&& 31).toUInt32).toInt32 7 3 7 (by decide) (by decide) (by decide) (by decide)) (by rw [own_sub1 (by omega)]; omega), own_sub1 (by omega)]; have z := own_m (cg.toUInt32 >>> ((7 : Int32) &&& 31).toUInt32).toInt32 7 3 7 (by decide) (by decide) (by decide) (by decide); omega
   have rc2 := r_c2.1
   refine oLstore C at_93 (Ls' := #[.val (.long x0), .second, .val (.int n9), .val (.int sg), .val (.int cg), .val (.long tt), .second, .val (.int 1), .val (.long s0), .second, .val (.long s1), .second, .val (.long s2), .second, .val (.long c0), .second, .val (.long c1), .second, .val (.long c2), .second, .unset, .unset, .unset, .unset, .unset, .unset, .unset, .unset]) rfl (q := 95) rfl ?_
   refine oLload C at_95 rfl rfl ?_
   refine oLconst C at_97 (z := 1) rfl rfl ?_
   refine oLsub C at_98 rfl ?_
   refine oIload C at_99 rfl rfl ?_
   refine oBipush C at_101 (z := 10) rfl rfl ?_
   refine oIushr C at_103 rfl ?_
   refine oBipush C at_104 (z := 7) rfl rfl ?_
   refine oIand C at_106 rfl ?_
   refine oI2L C at_107 rfl ?_
   refine oLsub C at_108 rfl ?_
   obtain ⟨c3, e_c3⟩ : ∃ z, z = ((c2 - (1 : Int64)) - ((((cg.toUInt32 >>> ((10 : Int32) &&& 31).toUInt32).toInt32) &&& (7 : Int32)).toInt64)) := ⟨_, rfl⟩
   refine oCastL e_c3.symm ?_
   have r_c3 : c3.toInt < c2.toInt ∧ c2.toInt - 8 ≤ c3.toInt := by rw [e_c3, own_sub (own_m (cg.toUInt32 >>> ((10 : Int32) &&& 31).toUInt32).toInt32 7 3 7 (by decide) (by decide) (by decide) (by decide)) (by rw [own_sub1 (by omega)]; omega), own_sub1 (by omega)]; have z := own_m (cg.toUInt32 >>> ((10 : Int32) &&& 31).toUInt32).toInt32 7 3 7 (by decide) (by decide) (by decide) (by decide); omega
   have rc3 := r_c3.1
   refine oLstore C at_109 (Ls' := #[.val (.long x0), .second, .val (.int n9), .val (.int sg), .val (.int cg), .val (.long tt), .second, .val (.int 1), .val (.long s0), .second, .val (.long s1), .second, .val (.long s2), .second, .val (.long c0), .second, .val (.long c1), .second, .val (.long c2), .second, .val (.long c3), .second, .unset, .unset, .unset, .unset, .unset, .unset]) rfl (q := 111) rfl ?_
   refine oIload C at_111 rfl rfl ?_
   refine oIf_ne C at_113 (q := 124) (by decide) (by decide) (r := 116) rfl (fun hc113 => ?_) (fun hq => absurd hq ((by decide)))
   refine oIload C at_124 rfl rfl ?_
   refine oIconst C at_126 (z := 1) rfl rfl ?_
   refine oIcmp_ne C at_127 (q := 143) (by decide) (by decide) (r := 130) rfl (fun hq => absurd hq ((by decide))) (fun hc127 => ?_)
   refine oIconst C at_130 (z := 1) rfl rfl ?_
   refine oNewA C (w5 hw) rfl at_131 rfl (by decide) (k := 1) rfl (by decide) (by decide) (cap := 1) (Nat.le_refl _) (by decide) (by decide) fun a39 h39 g_a39 E39 A39 => ?_
   have ge_a39 : n0 ≤ a39 := g_a39 ▸ Z0
   have A39l : oAr Z h39 a39 .long [.long 0] := A39
   refine oDup C at_133 rfl rfl ?_
   refine oIconst C at_134 (z := 0) rfl rfl ?_
   refine oLload C at_135 rfl rfl ?_
   refine oLastore C A39l (by decide) (k := 0) rfl (v := .long 0) rfl (v' := .long s0) rfl at_137 rfl ge_a39 fun h40 W40 A40 => ?_
   have A40l : oAr Z h40 a39 .long [.long s0] := A40
   refine oAstore C at_138 rfl (Ls' := #[.val (.long x0), .second, .val (.int n9), .val (.int sg), .val (.int cg), .val (.long tt), .second, .val (.int 1), .val (.long s0), .second, .val (.long s1), .second, .val (.long s2), .second, .val (.long c0), .second, .val (.long c1), .second, .val (.long c2), .second, .val (.long c3), .second, .val (.ref a39), .unset, .unset, .unset, .unset, .unset]) rfl (q := 140) rfl ?_
   refine oGoto C at_140 (q := 187) (by decide) (by decide) ?_
   refine oNew C (w6 hw) (w7 hw) (w8 hw) at_187 rfl (by decide) (by decide) fun a41 h41 g_a41 E41 X41 D41 => ?_
   have z42 := (Nat.le_trans (Nat.le_trans Z0 E39.1) (Nat.le_of_eq W40.size.symm))
   have ge_a41 : n0 ≤ a41 := g_a41 ▸ z42
   have f41_open : Fld Z h41 a41 "com/example/tideline/tideline/Retention" "open" "[J" (.null) := D41 (Or.inr (w16 hw)) (ty := (.array .long)) (by decide)
   have f41_next : Fld Z h41 a41 "com/example/tideline/tideline/Retention" "next" "I" (.int 0) := D41 (Or.inl (w23 hw)) (ty := .int) (by decide)
   refine oDup C at_190 rfl rfl ?_
   refine oAload C at_191 rfl rfl rfl ?_
   have z44 := (Nat.le_trans z42 E41.1)
   refine oCallC C (w9 hw) (w10 hw) (w8 hw) (w11 hw) at_193 rfl (by decide) pd_429926 rfl rfl (a := a41) (argsL := [.ref a39]) (rest := [.ref a41]) rfl (W := 1) rfl (q := 196) rfl (by decide) (by decide) (by decide) (by decide) (ac2_0 l Z a0 hw _ n0 z44 a41 a39 X41 f41_open ge_a41) (oVQ ?_)
   rintro h43 ⟨K43, f43_0⟩
   refine oAstore C at_196 rfl (Ls' := #[.val (.long x0), .second, .val (.int n9), .val (.int sg), .val (.int cg), .val (.long tt), .second, .val (.int 1), .val (.long s0), .second, .val (.long s1), .second, .val (.long s2), .second, .val (.long c0), .second, .val (.long c1), .second, .val (.long c2), .second, .val (.long c3), .second, .val (.ref a39), .val (.ref a41), .unset, .unset, .unset, .unset]) rfl (q := 198) rfl ?_
   refine oAload C at_198 rfl rfl rfl ?_
   refine oLload C at_200 rfl rfl ?_
   by_cases q0c0 : s0 < c0
   ·
    have f45 := (K43.fld f41_next nin0 (oNF (Or.inr (oSn0 hw 1 0)) oN0))
    have ne46 : a39 ≠ a41 := oNe' A40l.lt (Nat.le_of_eq g_a41.symm)
    have f47 := (K43.arr (A40l.ext E41) nin0 (oAS ne46 oA0))
    have f49 := (K43.exa X41)
    have z50 := (Nat.le_trans z44 K43.1)
    refine oCallV C (w17 hw) (w18 hw) (w20 hw) (w19 hw) (w8 hw) (w21 hw) at_202 f49 (by decide) pd_692006 rfl rfl (a := a41) (argsL := [.long c0]) (rest := []) rfl (W := 0) rfl (q := 205) rfl (by decide) (by decide) (by decide) (by decide) (ac4_2 l Z a0 hw _ n0 z50 a41 c0 a39 s0 f45 f43_0 f47 q0c0) (oRQ ?_)
    rintro h48 K48
    refine oIstore C at_205 (Ls' := #[.val (.long x0), .second, .val (.int n9), .val (.int sg), .val (.int cg), .val (.long tt), .second, .val (.int 1), .val (.long s0), .second, .val (.long s1), .second, .val (.long s2), .second, .val (.long c0), .second, .val (.long c1), .second, .val (.long c2), .second, .val (.long c3), .second, .val (.ref a39), .val (.ref a41), .val (.int 1), .unset, .unset, .unset]) rfl (q := 207) rfl ?_
    refine oAload C at_207 rfl rfl rfl ?_
    refine oLload C at_209 rfl rfl ?_
    by_cases q0c1 : s0 < c1
    ·
     have f51 := (K48.fld f45 nin0 oN0)
     have f52 := (K48.fld f43_0 nin0 oN0)
     have f53 := (K48.arr f47 nin0 oA0)
     have f55 := (K48.exa f49)
     have z56 := (Nat.le_trans z50 K48.1)
     refine oCallV C (w17 hw) (w18 hw) (w20 hw) (w19 hw) (w8 hw) (w21 hw) at_211 f55 (by decide) pd_692006 rfl rfl (a := a41) (argsL := [.long c1]) (rest := []) rfl (W := 0) rfl (q := 214) rfl (by decide) (by decide) (by decide) (by decide) (ac4_2 l Z a0 hw _ n0 z56 a41 c1 a39 s0 f51 f52 f53 q0c1) (oRQ ?_)
     rintro h54 K54
     refine oIstore C at_214 (Ls' := #[.val (.long x0), .second, .val (.int n9), .val (.int sg), .val (.int cg), .val (.long tt), .second, .val (.int 1), .val (.long s0), .second, .val (.long s1), .second, .val (.long s2), .second, .val (.long c0), .second, .val (.long c1), .second, .val (.long c2), .second, .val (.long c3), .second, .val (.ref a39), .val (.ref a41), .val (.int 1), .val (.int 1), .unset, .unset]) rfl (q := 216) rfl ?_
     refine oAload C at_216 rfl rfl rfl ?_
     refine oLload C at_218 rfl rfl ?_
     by_cases q0c2 : s0 < c2
     ·
      have f57 := (K54.fld f51 nin0 oN0)
      have f58 := (K54.fld f52 nin0 oN0)
      have f59 := (K54.arr f53 nin0 oA0)
      have f61 := (K54.exa f55)
      have z62 := (Nat.le_trans z56 K54.1)
      refine oCallV C (w17 hw) (w18 hw) (w20 hw) (w19 hw) (w8 hw) (w21 hw) at_220 f61 (by decide) pd_692006 rfl rfl (a := a41) (argsL := [.long c2]) (rest := []) rfl (W := 0) rfl (q := 223) rfl (by decide) (by decide) (by decide) (by decide) (ac4_2 l Z a0 hw _ n0 z62 a41 c2 a39 s0 f57 f58 f59 q0c2) (oRQ ?_)
      rintro h60 K60
      refine oIstore C at_223 (Ls' := #[.val (.long x0), .second, .val (.int n9), .val (.int sg), .val (.int cg), .val (.long tt), .second, .val (.int 1), .val (.long s0), .second, .val (.long s1), .second, .val (.long s2), .second, .val (.long c0), .second, .val (.long c1), .second, .val (.long c2), .second, .val (.long c3), .second, .val (.ref a39), .val (.ref a41), .val (.int 1), .val (.int 1), .val (.int 1), .unset]) rfl (q := 225) rfl ?_
      refine oAload C at_225 rfl rfl rfl ?_
      refine oLload C at_227 rfl rfl ?_
      by_cases q0c3 : s0 < c3
      ·
       have f63 := (K60.fld f57 nin0 oN0)
       have f64 := (K60.fld f58 nin0 oN0)
       have f65 := (K60.arr f59 nin0 oA0)
       have f67 := (K60.exa f61)
       have z68 := (Nat.le_trans z62 K60.1)
       refine oCallV C (w17 hw) (w18 hw) (w20 hw) (w19 hw) (w8 hw) (w21 hw) at_229 f67 (by decide) pd_692006 rfl rfl (a := a41) (argsL := [.long c3]) (rest := []) rfl (W := 0) rfl (q := 232) rfl (by decide) (by decide) (by decide) (by decide) (ac4_2 l Z a0 hw _ n0 z68 a41 c3 a39 s0 f63 f64 f65 q0c3) (oRQ ?_)
       rintro h66 K66
       refine oIstore C at_232 (Ls' := #[.val (.long x0), .second, .val (.int n9), .val (.int sg), .val (.int cg), .val (.long tt), .second, .val (.int 1), .val (.long s0), .second, .val (.long s1), .second, .val (.long s2), .second, .val (.long c0), .second, .val (.long c1), .second, .val (.long c2), .second, .val (.long c3), .second, .val (.ref a39), .val (.ref a41), .val (.int 1), .val (.int 1), .val (.int 1), .val (.int 1)]) rfl (q := 234) rfl ?_
       refine oIload C at_234 rfl rfl ?_
       refine oLload C at_236 rfl rfl ?_
       refine oLload C at_238 rfl rfl ?_
       refine oIconst C at_240 (z := 1) rfl rfl ?_
       refine oIload C at_241 rfl rfl ?_
       refine oLload C at_243 rfl rfl ?_
       refine oLload C at_245 rfl rfl ?_
       refine oLload C at_247 rfl rfl ?_
       have z69 := (Nat.le_trans z68 K66.1)
       refine oCallS C (w24 hw) (w25 hw) (w26 hw) (w27 hw) at_249 (by decide) pd_717522 rfl rfl (argsL := [.long c0, .long c0, .int 1, .int 1, .long s0, .long s1, .long s2]) (rest := [.int 1]) rfl (W := 1) rfl (q := 252) rfl (by decide) (by decide) (by decide) (by decide) (mt_fExp l Z a0 hw _ n0 z69 c0 c0 (1 : Int32) (1 : Int32) s0 s1 s2 ) (oPureK ?_)
       refine oIcmp_ne C at_252 (q := 322) (by decide) (by decide) (r := 255) rfl (fun hq => absurd hq (not_not_intro (oe1100 c0 c0 s0 s1 s2 rfl r01 r12 q0c0).symm)) (fun hc252 => ?_)
       refine oIload C at_255 rfl rfl ?_
       refine oLload C at_257 rfl rfl ?_
       refine oLload C at_259 rfl rfl ?_
       refine oIconst C at_261 (z := 0) rfl rfl ?_
       refine oIload C at_262 rfl rfl ?_
       refine oLload C at_264 rfl rfl ?_
       refine oLload C at_266 rfl rfl ?_
       refine oLload C at_268 rfl rfl ?_
       refine oCallS C (w24 hw) (w25 hw) (w26 hw) (w27 hw) at_270 (by decide) pd_717522 rfl rfl (argsL := [.long c1, .long c0, .int 0, .int 1, .long s0, .long s1, .long s2]) (rest := [.int 1]) rfl (W := 1) rfl (q := 273) rfl (by decide) (by decide) (by decide) (by decide) (mt_fExp l Z a0 hw _ n0 z69 c1 c0 (0 : Int32) (1 : Int32) s0 s1 s2 ) (oPureK ?_)
       refine oIcmp_ne C at_273 (q := 322) (by decide) (by decide) (r := 276) rfl (fun hq => absurd hq (not_not_intro (oe1000 c1 c0 s0 s1 s2 rc1 r01 r12 q0c0 q0c1).symm)) (fun hc273 => ?_)
       refine oIload C at_276 rfl rfl ?_
       refine oLload C at_278 rfl rfl ?_
       refine oLload C at_280 rfl rfl ?_
       refine oIconst C at_282 (z := 0) rfl rfl ?_
       refine oIload C at_283 rfl rfl ?_
       refine oLload C at_285 rfl rfl ?_
       refine oLload C at_287 rfl rfl ?_
       refine oLload C at_289 rfl rfl ?_
       refine oCallS C (w24 hw) (w25 hw) (w26 hw) (w27 hw) at_291 (by decide) pd_717522 rfl rfl (argsL := [.long c2, .long c1, .int 0, .int 1, .long s0, .long s1, .long s2]) (rest := [.int 1]) rfl (W := 1) rfl (q := 294) rfl (by decide) (by decide) (by decide) (by decide) (mt_fExp l Z a0 hw _ n0 z69 c2 c1 (0 : Int32) (1 : Int32) s0 s1 s2 ) (oPureK ?_)
       refine oIcmp_ne C at_294 (q := 322) (by decide) (by decide) (r := 297) rfl (fun hq => absurd hq (not_not_intro (oe1000 c2 c1 s0 s1 s2 rc2 r01 r12 q0c1 q0c2).symm)) (fun hc294 => ?_)
       refine oIload C at_297 rfl rfl ?_
       refine oLload C at_299 rfl rfl ?_
       refine oLload C at_301 rfl rfl ?_
       refine oIconst C at_303 (z := 0) rfl rfl ?_
       refine oIload C at_304 rfl rfl ?_
       refine oLload C at_306 rfl rfl ?_
       refine oLload C at_308 rfl rfl ?_
       refine oLload C at_310 rfl rfl ?_
       refine oCallS C (w24 hw) (w25 hw) (w26 hw) (w27 hw) at_312 (by decide) pd_717522 rfl rfl (argsL := [.long c3, .long c2, .int 0, .int 1, .long s0, .long s1, .long s2]) (rest := [.int 1]) rfl (W := 1) rfl (q := 315) rfl (by decide) (by decide) (by decide) (by decide) (mt_fExp l Z a0 hw _ n0 z69 c3 c2 (0 : Int32) (1 : Int32) s0 s1 s2 ) (oPureK ?_)
       refine oIcmp_ne C at_315 (q := 322) (by decide) (by decide) (r := 318) rfl (fun hq => absurd hq (not_not_intro (oe1000 c3 c2 s0 s1 s2 rc3 r01 r12 q0c2 q0c3).symm)) (fun hc315 => ?_)
       refine oIconst C at_318 (z := 1) rfl rfl ?_
       refine oGoto C at_319 (q := 323) (by decide) (by decide) ?_
       refine oRetZ C at_323 (z' := (1 : Int32)) rfl (by decide) (by decide) ?_
       exact rfl
      ·
       have f74 := (K60.fld f57 nin0 oN0)
       have f75 := (K60.fld f58 nin0 oN0)
       have f76 := (K60.arr f59 nin0 oA0)
       have f77 := (K60.exa f61)
       have z79 := (Nat.le_trans z62 K60.1)
       refine oCallV C (w17 hw) (w18 hw) (w20 hw) (w19 hw) (w8 hw) (w21 hw) at_229 f77 (by decide) pd_692006 rfl rfl (a := a41) (argsL := [.long c3]) (rest := []) rfl (W := 0) rfl (q := 232) rfl (by decide) (by decide) (by decide) (by decide) (ac4_3 l Z a0 hw _ n0 z79 a41 c3 a39 s0 f74 f75 f76 q0c3 f77 ge_a41 ne46) (oRQ ?_)
       rintro h78 ⟨K78, f78_0⟩
       refine oIstore C at_232 (Ls' := #[.val (.long x0), .second, .val (.int n9), .val (.int sg), .val (.int cg), .val (.long tt), .second, .val (.int 1), .val (.long s0), .second, .val (.long s1), .second, .val (.long s2), .second, .val (.long c0), .second, .val (.long c1), .second, .val (.long c2), .second, .val (.long c3), .second, .val (.ref a39), .val (.ref a41), .val (.int 1), .val (.int 1), .val (.int 1), .val (.int 1)]) rfl (q := 234) rfl ?_
       refine oIload C at_234 rfl rfl ?_
       refine oLload C at_236 rfl rfl ?_
       refine oLload C at_238 rfl rfl ?_
       refine oIconst C at_240 (z := 1) rfl rfl ?_
       refine oIload C at_241 rfl rfl ?_
       refine oLload C at_243 rfl rfl ?_
       refine oLload C at_245 rfl rfl ?_
       refine oLload C at_247 rfl rfl ?_
       have z80 := (Nat.le_trans z79 K78.1)
       refine oCallS C (w24 hw) (w25 hw) (w26 hw) (w27 hw) at_249 (by decide) pd_717522 rfl rfl (argsL := [.long c0, .long c0, .int 1, .int 1, .long s0, .long s1, .long s2]) (rest := [.int 1]) rfl (W := 1) rfl (q := 252) rfl (by decide) (by decide) (by decide) (by decide) (mt_fExp l Z a0 hw _ n0 z80 c0 c0 (1 : Int32) (1 : Int32) s0 s1 s2 ) (oPureK ?_)
       refine oIcmp_ne C at_252 (q := 322) (by decide) (by decide) (r := 255) rfl (fun hq => absurd hq (not_not_intro (oe1100 c0 c0 s0 s1 s2 rfl r01 r12 q0c0).symm)) (fun hc252 => ?_)
       refine oIload C at_255 rfl rfl ?_
       refine oLload C at_257 rfl rfl ?_
       refine oLload C at_259 rfl rfl ?_
       refine oIconst C at_261 (z := 0) rfl rfl ?_
       refine oIload C at_262 rfl rfl ?_
       refine oLload C at_264 rfl rfl ?_
       refine oLload C at_266 rfl rfl ?_
       refine oLload C at_268 rfl rfl ?_
       refine oCallS C (w24 hw) (w25 hw) (w26 hw) (w27 hw) at_270 (by decide) pd_717522 rfl rfl (argsL := [.long c1, .long c0, .int 0, .int 1, .long s0, .long s1, .long s2]) (rest := [.int 1]) rfl (W := 1) rfl (q := 273) rfl (by decide) (by decide) (by decide) (by decide) (mt_fExp l Z a0 hw _ n0 z80 c1 c0 (0 : Int32) (1 : Int32) s0 s1 s2 ) (oPureK ?_)
       refine oIcmp_ne C at_273 (q := 322) (by decide) (by decide) (r := 276) rfl (fun hq => absurd hq (not_not_intro (oe1000 c1 c0 s0 s1 s2 rc1 r01 r12 q0c0 q0c1).symm)) (fun hc273 => ?_)
       refine oIload C at_276 rfl rfl ?_
       refine oLload C at_278 rfl rfl ?_
       refine oLload C at_280 rfl rfl ?_
       refine oIconst C at_282 (z := 0) rfl rfl ?_
       refine oIload C at_283 rfl rfl ?_
       refine oLload C at_285 rfl rfl ?_
       refine oLload C at_287 rfl rfl ?_
       refine oLload C at_289 rfl rfl ?_
       refine oCallS C (w24 hw) (w25 hw) (w26 hw) (w27 hw) at_291 (by decide) pd_717522 rfl rfl (argsL := [.long c2, .long c1, .int 0, .int 1, .long s0, .long s1, .long s2]) (rest := [.int 1]) rfl (W := 1) rfl (q := 294) rfl (by decide) (by decide) (by decide) (by decide) (mt_fExp l Z a0 hw _ n0 z80 c2 c1 (0 : Int32) (1 : Int32) s0 s1 s2 ) (oPureK ?_)
       refine oIcmp_ne C at_294 (q := 322) (by decide) (by decide) (r := 297) rfl (fun hq => absurd hq (not_not_intro (oe1000 c2 c1 s0 s1 s2 rc2 r01 r12 q0c1 q0c2).symm)) (fun hc294 => ?_)
       refine oIload C at_297 rfl rfl ?_
       refine oLload C at_299 rfl rfl ?_
       refine oLload C at_301 rfl rfl ?_
       refine oIconst C at_303 (z := 0) rfl rfl ?_
       refine oIload C at_304 rfl rfl ?_
       refine oLload C at_306 rfl rfl ?_
       refine oLload C at_308 rfl rfl ?_
       refine oLload C at_310 rfl rfl ?_
       refine oCallS C (w24 hw) (w25 hw) (w26 hw) (w27 hw) at_312 (by decide) pd_717522 rfl rfl (argsL := [.long c3, .long c2, .int 0, .int 1, .long s0, .long s1, .long s2]) (rest := [.int 1]) rfl (W := 1) rfl (q := 315) rfl (by decide) (by decide) (by decide) (by decide) (mt_fExp l Z a0 hw _ n0 z80 c3 c2 (0 : Int32) (1 : Int32) s0 s1 s2 ) (oPureK ?_)
       refine oIcmp_ne C at_315 (q := 322) (by decide) (by decide) (r := 318) rfl (fun hq => absurd hq (not_not_intro (oe1001 c3 c2 s0 s1 s2 rc3 r01 r12 q0c2 q0c3).symm)) (fun hc315 => ?_)
       refine oIconst C at_318 (z := 1) rfl rfl ?_
       refine oGoto C at_319 (q := 323) (by decide) (by decide) ?_
       refine oRetZ C at_323 (z' := (1 : Int32)) rfl (by decide) (by decide) ?_
       exact rfl
     ·
      have f85 := (K54.fld f51 nin0 oN0)
      have f86 := (K54.fld f52 nin0 oN0)
      have f87 := (K54.arr f53 nin0 oA0)
      have f88 := (K54.exa f55)
      have z90 := (Nat.le_trans z56 K54.1)
      refine oCallV C (w17 hw) (w18 hw) (w20 hw) (w19 hw) (w8 hw) (w21 hw) at_220 f88 (by decide) pd_692006 rfl rfl (a := a41) (argsL := [.long c2]) (rest := []) rfl (W := 0) rfl (q := 223) rfl (by decide) (by decide) (by decide) (by decide) (ac4_3 l Z a0 hw _ n0 z90 a41 c2 a39 s0 f85 f86 f87 q0c2 f88 ge_a41 ne46) (oRQ ?_)
      rintro h89 ⟨K89, f89_0⟩
      refine oIstore C at_223 (Ls' := #[.val (.long x0), .second, .val (.int n9), .val (.int sg), .val (.int cg), .val (.long tt), .second, .val (.int 1), .val (.long s0), .second, .val (.long s1), .second, .val (.long s2), .second, .val (.long c0), .second, .val (.long c1), .second, .val (.long c2), .second, .val (.long c3), .second, .val (.ref a39), .val (.ref a41), .val (.int 1), .val (.int 1), .val (.int 1), .unset]) rfl (q := 225) rfl ?_
      refine oAload C at_225 rfl rfl rfl ?_
      refine oLload C at_227 rfl rfl ?_
      have f91 := (K89.fld f86 nin0 (oNF (Or.inr (oSn0 hw 0 1)) oN0))
      have f92 := (K89.arr f87 nin0 (oAS ne46 oA0))
      have f94 := (K89.exa f88)
      have z95 := (Nat.le_trans z90 K89.1)
      refine oCallV C (w17 hw) (w18 hw) (w20 hw) (w19 hw) (w8 hw) (w21 hw) at_229 f94 (by decide) pd_692006 rfl rfl (a := a41) (argsL := [.long c3]) (rest := []) rfl (W := 0) rfl (q := 232) rfl (by decide) (by decide) (by decide) (by decide) (ac4_4 l Z a0 hw _ n0 z95 a41 c3 a39 s0 f89_0 f91 f92) (oRQ ?_)
      rintro h93 K93
      refine oIstore C at_232 (Ls' := #[.val (.long x0), .second, .val (.int n9), .val (.int sg), .val (.int cg), .val (.long tt), .second, .val (.int 1), .val (.long s0), .second, .val (.long s1), .second, .val (.long s2), .second, .val (.long c0), .second, .val (.long c1), .second, .val (.long c2), .second, .val (.long c3), .second, .val (.ref a39), .val (.ref a41), .val (.int 1), .val (.int 1), .val (.int 1), .val (.int 0)]) rfl (q := 234) rfl ?_
      refine oIload C at_234 rfl rfl ?_
      refine oLload C at_236 rfl rfl ?_
      refine oLload C at_238 rfl rfl ?_
      refine oIconst C at_240 (z := 1) rfl rfl ?_
      refine oIload C at_241 rfl rfl ?_
      refine oLload C at_243 rfl rfl ?_
      refine oLload C at_245 rfl rfl ?_
      refine oLload C at_247 rfl rfl ?_
      have z96 := (Nat.le_trans z95 K93.1)
      refine oCallS C (w24 hw) (w25 hw) (w26 hw) (w27 hw) at_249 (by decide) pd_717522 rfl rfl (argsL := [.long c0, .long c0, .int 1, .int 1, .long s0, .long s1, .long s2]) (rest := [.int 1]) rfl (W := 1) rfl (q := 252) rfl (by decide) (by decide) (by decide) (by decide) (mt_fExp l Z a0 hw _ n0 z96 c0 c0 (1 : Int32) (1 : Int32) s0 s1 s2 ) (oPureK ?_)
      refine oIcmp_ne C at_252 (q := 322) (by decide) (by decide) (r := 255) rfl (fun hq => absurd hq (not_not_intro (oe1100 c0 c0 s0 s1 s2 rfl r01 r12 q0c0).symm)) (fun hc252 => ?_)
      refine oIload C at_255 rfl rfl ?_
      refine oLload C at_257 rfl rfl ?_
      refine oLload C at_259 rfl rfl ?_
      refine oIconst C at_261 (z := 0) rfl rfl ?_
      refine oIload C at_262 rfl rfl ?_
      refine oLload C at_264 rfl rfl ?_
      refine oLload C at_266 rfl rfl ?_
      refine oLload C at_268 rfl rfl ?_
      refine oCallS C (w24 hw) (w25 hw) (w26 hw) (w27 hw) at_270 (by decide) pd_717522 rfl rfl (argsL := [.long c1, .long c0, .int 0, .int 1, .long s0, .long s1, .long s2]) (rest := [.int 1]) rfl (W := 1) rfl (q := 273) rfl (by decide) (by decide) (by decide) (by decide) (mt_fExp l Z a0 hw _ n0 z96 c1 c0 (0 : Int32) (1 : Int32) s0 s1 s2 ) (oPureK ?_)
      refine oIcmp_ne C at_273 (q := 322) (by decide) (by decide) (r := 276) rfl (fun hq => absurd hq (not_not_intro (oe1000 c1 c0 s0 s1 s2 rc1 r01 r12 q0c0 q0c1).symm)) (fun hc273 => ?_)
      refine oIload C at_276 rfl rfl ?_
      refine oLload C at_278 rfl rfl ?_
      refine oLload C at_280 rfl rfl ?_
      refine oIconst C at_282 (z := 0) rfl rfl ?_
      refine oIload C at_283 rfl rfl ?_
      refine oLload C at_285 rfl rfl ?_
      refine oLload C at_287 rfl rfl ?_
      refine oLload C at_289 rfl rfl ?_
      refine oCallS C (w24 hw) (w25 hw) (w26 hw) (w27 hw) at_291 (by decide) pd_717522 rfl rfl (argsL := [.long c2, .long c1, .int 0, .int 1, .long s0, .long s1, .long s2]) (rest := [.int 1]) rfl (W := 1) rfl (q := 294) rfl (by decide) (by decide) (by decide) (by decide) (mt_fExp l Z a0 hw _ n0 z96 c2 c1 (0 : Int32) (1 : Int32) s0 s1 s2 ) (oPureK ?_)
      refine oIcmp_ne C at_294 (q := 322) (by decide) (by decide) (r := 297) rfl (fun hq => absurd hq (not_not_intro (oe1001 c2 c1 s0 s1 s2 rc2 r01 r12 q0c1 q0c2).symm)) (fun hc294 => ?_)
      refine oIload C at_297 rfl rfl ?_
      refine oLload C at_299 rfl rfl ?_
      refine oLload C at_301 rfl rfl ?_
      refine oIconst C at_303 (z := 0) rfl rfl ?_
      refine oIload C at_304 rfl rfl ?_
      refine oLload C at_306 rfl rfl ?_
      refine oLload C at_308 rfl rfl ?_
      refine oLload C at_310 rfl rfl ?_
      refine oCallS C (w24 hw) (w25 hw) (w26 hw) (w27 hw) at_312 (by decide) pd_717522 rfl rfl (argsL := [.long c3, .long c2, .int 0, .int 1, .long s0, .long s1, .long s2]) (rest := [.int 0]) rfl (W := 1) rfl (q := 315) rfl (by decide) (by decide) (by decide) (by decide) (mt_fExp l Z a0 hw _ n0 z96 c3 c2 (0 : Int32) (1 : Int32) s0 s1 s2 ) (oPureK ?_)
      refine oIcmp_ne C at_315 (q := 322) (by decide) (by decide) (r := 318) rfl (fun hq => absurd hq (not_not_intro (oe1011 c3 c2 s0 s1 s2 rc3 r01 r12 q0c2).symm)) (fun hc315 => ?_)
      refine oIconst C at_318 (z := 1) rfl rfl ?_
      refine oGoto C at_319 (q := 323) (by decide) (by decide) ?_
      refine oRetZ C at_323 (z' := (1 : Int32)) rfl (by decide) (by decide) ?_
      exact rfl
    ·
     have f101 := (K48.fld f45 nin0 oN0)
     have f102 := (K48.fld f43_0 nin0 oN0)
     have f103 := (K48.arr f47 nin0 oA0)
     have f104 := (K48.exa f49)
     have z106 := (Nat.le_trans z50 K48.1)
     refine oCallV C (w17 hw) (w18 hw) (w20 hw) (w19 hw) (w8 hw) (w21 hw) at_211 f104 (by decide) pd_692006 rfl rfl (a := a41) (argsL := [.long c1]) (rest := []) rfl (W := 0) rfl (q := 214) rfl (by decide) (by decide) (by decide) (by decide) (ac4_3 l Z a0 hw _ n0 z106 a41 c1 a39 s0 f101 f102 f103 q0c1 f104 ge_a41 ne46) (oRQ ?_)
     rintro h105 ⟨K105, f105_0⟩
     refine oIstore C at_214 (Ls' := #[.val (.long x0), .second, .val (.int n9), .val (.int sg), .val (.int cg), .val (.long tt), .second, .val (.int 1), .val (.long s0), .second, .val (.long s1), .second, .val (.long s2), .second, .val (.long c0), .second, .val (.long c1), .second, .val (.long c2), .second, .val (.long c3), .second, .val (.ref a39), .val (.ref a41), .val (.int 1), .val (.int 1), .unset, .unset]) rfl (q := 216) rfl ?_
     refine oAload C at_216 rfl rfl rfl ?_
     refine oLload C at_218 rfl rfl ?_
     have f107 := (K105.fld f102 nin0 (oNF (Or.inr (oSn0 hw 0 1)) oN0))
     have f108 := (K105.arr f103 nin0 (oAS ne46 oA0))
     have f110 := (K105.exa f104)
     have z111 := (Nat.le_trans z106 K105.1)
     refine oCallV C (w17 hw) (w18 hw) (w20 hw) (w19 hw) (w8 hw) (w21 hw) at_220 f110 (by decide) pd_692006 rfl rfl (a := a41) (argsL := [.long c2]) (rest := []) rfl (W := 0) rfl (q := 223) rfl (by decide) (by decide) (by decide) (by decide) (ac4_4 l Z a0 hw _ n0 z111 a41 c2 a39 s0 f105_0 f107 f108) (oRQ ?_)
     rintro h109 K109
     refine oIstore C at_223 (Ls' := #[.val (.long x0), .second, .val (.int n9), .val (.int sg), .val (.int cg), .val (.long tt), .second, .val (.int 1), .val (.long s0), .second, .val (.long s1), .second, .val (.long s2), .second, .val (.long c0), .second, .val (.long c1), .second, .val (.long c2), .second, .val (.long c3), .second, .val (.ref a39), .val (.ref a41), .val (.int 1), .val (.int 1), .val (.int 0), .unset]) rfl (q := 225) rfl ?_
     refine oAload C at_225 rfl rfl rfl ?_
     refine oLload C at_227 rfl rfl ?_
     have f112 := (K109.fld f105_0 nin0 oN0)
     have f113 := (K109.fld f107 nin0 oN0)
     have f114 := (K109.arr f108 nin0 oA0)
     have f116 := (K109.exa f110)
     have z117 := (Nat.le_trans z111 K109.1)
     refine oCallV C (w17 hw) (w18 hw) (w20 hw) (w19 hw) (w8 hw) (w21 hw) at_229 f116 (by decide) pd_692006 rfl rfl (a := a41) (argsL := [.long c3]) (rest := []) rfl (W := 0) rfl (q := 232) rfl (by decide) (by decide) (by decide) (by decide) (ac4_4 l Z a0 hw _ n0 z117 a41 c3 a39 s0 f112 f113 f114) (oRQ ?_)
     rintro h115 K115
     refine oIstore C at_232 (Ls' := #[.val (.long x0), .second, .val (.int n9), .val (.int sg), .val (.int cg), .val (.long tt), .second, .val (.int 1), .val (.long s0), .second, .val (.long s1), .second, .val (.long s2), .second, .val (.long c0), .second, .val (.long c1), .second, .val (.long c2), .second, .val (.long c3), .second, .val (.ref a39), .val (.ref a41), .val (.int 1), .val (.int 1), .val (.int 0), .val (.int 0)]) rfl (q := 234) rfl ?_
     refine oIload C at_234 rfl rfl ?_
     refine oLload C at_236 rfl rfl ?_
     refine oLload C at_238 rfl rfl ?_
     refine oIconst C at_240 (z := 1) rfl rfl ?_
     refine oIload C at_241 rfl rfl ?_
     refine oLload C at_243 rfl rfl ?_
     refine oLload C at_245 rfl rfl ?_
     refine oLload C at_247 rfl rfl ?_
     have z118 := (Nat.le_trans z117 K115.1)
     refine oCallS C (w24 hw) (w25 hw) (w26 hw) (w27 hw) at_249 (by decide) pd_717522 rfl rfl (argsL := [.long c0, .long c0, .int 1, .int 1, .long s0, .long s1, .long s2]) (rest := [.int 1]) rfl (W := 1) rfl (q := 252) rfl (by decide) (by decide) (by decide) (by decide) (mt_fExp l Z a0 hw _ n0 z118 c0 c0 (1 : Int32) (1 : Int32) s0 s1 s2 ) (oPureK ?_)
     refine oIcmp_ne C at_252 (q := 322) (by decide) (by decide) (r := 255) rfl (fun hq => absurd hq (not_not_intro (oe1100 c0 c0 s0 s1 s2 rfl r01 r12 q0c0).symm)) (fun hc252 => ?_)
     refine oIload C at_255 rfl rfl ?_
     refine oLload C at_257 rfl rfl ?_
     refine oLload C at_259 rfl rfl ?_
     refine oIconst C at_261 (z := 0) rfl rfl ?_
     refine oIload C at_262 rfl rfl ?_
     refine oLload C at_264 rfl rfl ?_
     refine oLload C at_266 rfl rfl ?_
     refine oLload C at_268 rfl rfl ?_
     refine oCallS C (w24 hw) (w25 hw) (w26 hw) (w27 hw) at_270 (by decide) pd_717522 rfl rfl (argsL := [.long c1, .long c0, .int 0, .int 1, .long s0, .long s1, .long s2]) (rest := [.int 1]) rfl (W := 1) rfl (q := 273) rfl (by decide) (by decide) (by decide) (by decide) (mt_fExp l Z a0 hw _ n0 z118 c1 c0 (0 : Int32) (1 : Int32) s0 s1 s2 ) (oPureK ?_)
     refine oIcmp_ne C at_273 (q := 322) (by decide) (by decide) (r := 276) rfl (fun hq => absurd hq (not_not_intro (oe1001 c1 c0 s0 s1 s2 rc1 r01 r12 q0c0 q0c1).symm)) (fun hc273 => ?_)
     refine oIload C at_276 rfl rfl ?_
     refine oLload C at_278 rfl rfl ?_
     refine oLload C at_280 rfl rfl ?_
     refine oIconst C at_282 (z := 0) rfl rfl ?_
     refine oIload C at_283 rfl rfl ?_
     refine oLload C at_285 rfl rfl ?_
     refine oLload C at_287 rfl rfl ?_
     refine oLload C at_289 rfl rfl ?_
     refine oCallS C (w24 hw) (w25 hw) (w26 hw) (w27 hw) at_291 (by decide) pd_717522 rfl rfl (argsL := [.long c2, .long c1, .int 0, .int 1, .long s0, .long s1, .long s2]) (rest := [.int 0]) rfl (W := 1) rfl (q := 294) rfl (by decide) (by decide) (by decide) (by decide) (mt_fExp l Z a0 hw _ n0 z118 c2 c1 (0 : Int32) (1 : Int32) s0 s1 s2 ) (oPureK ?_)
     refine oIcmp_ne C at_294 (q := 322) (by decide) (by decide) (r := 297) rfl (fun hq => absurd hq (not_not_intro (oe1011 c2 c1 s0 s1 s2 rc2 r01 r12 q0c1).symm)) (fun hc294 => ?_)
     refine oIload C at_297 rfl rfl ?_
     refine oLload C at_299 rfl rfl ?_
     refine oLload C at_301 rfl rfl ?_
     refine oIconst C at_303 (z := 0) rfl rfl ?_
     refine oIload C at_304 rfl rfl ?_
     refine oLload C at_306 rfl rfl ?_
     refine oLload C at_308 rfl rfl ?_
     refine oLload C at_310 rfl rfl ?_
     refine oCallS C (w24 hw) (w25 hw) (w26 hw) (w27 hw) at_312 (by decide) pd_717522 rfl rfl (argsL := [.long c3, .long c2, .int 0, .int 1, .long s0, .long s1, .long s2]) (rest := [.int 0]) rfl (W := 1) rfl (q := 315) rfl (by decide) (by decide) (by decide) (by decide) (mt_fExp l Z a0 hw _ n0 z118 c3 c2 (0 : Int32) (1 : Int32) s0 s1 s2 ) (oPureK ?_)
     refine oIcmp_ne C at_315 (q := 322) (by decide) (by decide) (r := 318) rfl (fun hq => absurd hq (not_not_intro (oe1011 c3 c2 s0 s1 s2 rc3 r01 r12 (own_mono q0c1 rc2)).symm)) (fun hc315 => ?_)
     refine oIconst C at_318 (z := 1) rfl rfl ?_
     refine oGoto C at_319 (q := 323) (by decide) (by decide) ?_
     refine oRetZ C at_323 (z' := (1 : Int32)) rfl (by decide) (by decide) ?_
     exact rfl
   ·
    have f123 := (K43.fld f41_next nin0 (oNF (Or.inr (oSn0 hw 1 0)) oN0))
    have ne124 : a39 ≠ a41 := oNe' A40l.lt (Nat.le_of_eq g_a41.symm)
    have f125 := (K43.arr (A40l.ext E41) nin0 (oAS ne124 oA0))
    have f126 := (K43.exa X41)
    have z128 := (Nat.le_trans z44 K43.1)
    refine oCallV C (w17 hw) (w18 hw) (w20 hw) (w19 hw) (w8 hw) (w21 hw) at_202 f126 (by decide) pd_692006 rfl rfl (a := a41) (argsL := [.long c0]) (rest := []) rfl (W := 0) rfl (q := 205) rfl (by decide) (by decide) (by decide) (by decide) (ac4_3 l Z a0 hw _ n0 z128 a41 c0 a39 s0 f123 f43_0 f125 q0c0 f126 ge_a41 ne124) (oRQ ?_)
    rintro h127 ⟨K127, f127_0⟩
    refine oIstore C at_205 (Ls' := #[.val (.long x0), .second, .val (.int n9), .val (.int sg), .val (.int cg), .val (.long tt), .second, .val (.int 1), .val (.long s0), .second, .val (.long s1), .second, .val (.long s2), .second, .val (.long c0), .second, .val (.long c1), .second, .val (.long c2), .second, .val (.long c3), .second, .val (.ref a39), .val (.ref a41), .val (.int 1), .unset, .unset, .unset]) rfl (q := 207) rfl ?_
    refine oAload C at_207 rfl rfl rfl ?_
    refine oLload C at_209 rfl rfl ?_
    have f129 := (K127.fld f43_0 nin0 (oNF (Or.inr (oSn0 hw 0 1)) oN0))
    have f130 := (K127.arr f125 nin0 (oAS ne124 oA0))
    have f132 := (K127.exa f126)
    have z133 := (Nat.le_trans z128 K127.1)
    refine oCallV C (w17 hw) (w18 hw) (w20 hw) (w19 hw) (w8 hw) (w21 hw) at_211 f132 (by decide) pd_692006 rfl rfl (a := a41) (argsL := [.long c1]) (rest := []) rfl (W := 0) rfl (q := 214) rfl (by decide) (by decide) (by decide) (by decide) (ac4_4 l Z a0 hw _ n0 z133 a41 c1 a39 s0 f127_0 f129 f130) (oRQ ?_)
    rintro h131 K131
    refine oIstore C at_214 (Ls' := #[.val (.long x0), .second, .val (.int n9), .val (.int sg), .val (.int cg), .val (.long tt), .second, .val (.int 1), .val (.long s0), .second, .val (.long s1), .second, .val (.long s2), .second, .val (.long c0), .second, .val (.long c1), .second, .val (.long c2), .second, .val (.long c3), .second, .val (.ref a39), .val (.ref a41), .val (.int 1), .val (.int 0), .unset, .unset]) rfl (q := 216) rfl ?_
    refine oAload C at_216 rfl rfl rfl ?_
    refine oLload C at_218 rfl rfl ?_
    have f134 := (K131.fld f127_0 nin0 oN0)
    have f135 := (K131.fld f129 nin0 oN0)
    have f136 := (K131.arr f130 nin0 oA0)
    have f138 := (K131.exa f132)
    have z139 := (Nat.le_trans z133 K131.1)
    refine oCallV C (w17 hw) (w18 hw) (w20 hw) (w19 hw) (w8 hw) (w21 hw) at_220 f138 (by decide) pd_692006 rfl rfl (a := a41) (argsL := [.long c2]) (rest := []) rfl (W := 0) rfl (q := 223) rfl (by decide) (by decide) (by decide) (by decide) (ac4_4 l Z a0 hw _ n0 z139 a41 c2 a39 s0 f134 f135 f136) (oRQ ?_)
    rintro h137 K137
    refine oIstore C at_223 (Ls' := #[.val (.long x0), .second, .val (.int n9), .val (.int sg), .val (.int cg), .val (.long tt), .second, .val (.int 1), .val (.long s0), .second, .val (.long s1), .second, .val (.long s2), .second, .val (.long c0), .second, .val (.long c1), .second, .val (.long c2), .second, .val (.long c3), .second, .val (.ref a39), .val (.ref a41), .val (.int 1), .val (.int 0), .val (.int 0), .unset]) rfl (q := 225) rfl ?_
    refine oAload C at_225 rfl rfl rfl ?_
    refine oLload C at_227 rfl rfl ?_
    have f140 := (K137.fld f134 nin0 oN0)
    have f141 := (K137.fld f135 nin0 oN0)
    have f142 := (K137.arr f136 nin0 oA0)
    have f144 := (K137.exa f138)
    have z145 := (Nat.le_trans z139 K137.1)
    refine oCallV C (w17 hw) (w18 hw) (w20 hw) (w19 hw) (w8 hw) (w21 hw) at_229 f144 (by decide) pd_692006 rfl rfl (a := a41) (argsL := [.long c3]) (rest := []) rfl (W := 0) rfl (q := 232) rfl (by decide) (by decide) (by decide) (by decide) (ac4_4 l Z a0 hw _ n0 z145 a41 c3 a39 s0 f140 f141 f142) (oRQ ?_)
    rintro h143 K143
    refine oIstore C at_232 (Ls' := #[.val (.long x0), .second, .val (.int n9), .val (.int sg), .val (.int cg), .val (.long tt), .second, .val (.int 1), .val (.long s0), .second, .val (.long s1), .second, .val (.long s2), .second, .val (.long c0), .second, .val (.long c1), .second, .val (.long c2), .second, .val (.long c3), .second, .val (.ref a39), .val (.ref a41), .val (.int 1), .val (.int 0), .val (.int 0), .val (.int 0)]) rfl (q := 234) rfl ?_
    refine oIload C at_234 rfl rfl ?_
    refine oLload C at_236 rfl rfl ?_
    refine oLload C at_238 rfl rfl ?_
    refine oIconst C at_240 (z := 1) rfl rfl ?_
    refine oIload C at_241 rfl rfl ?_
    refine oLload C at_243 rfl rfl ?_
    refine oLload C at_245 rfl rfl ?_
    refine oLload C at_247 rfl rfl ?_
    have z146 := (Nat.le_trans z145 K143.1)
    refine oCallS C (w24 hw) (w25 hw) (w26 hw) (w27 hw) at_249 (by decide) pd_717522 rfl rfl (argsL := [.long c0, .long c0, .int 1, .int 1, .long s0, .long s1, .long s2]) (rest := [.int 1]) rfl (W := 1) rfl (q := 252) rfl (by decide) (by decide) (by decide) (by decide) (mt_fExp l Z a0 hw _ n0 z146 c0 c0 (1 : Int32) (1 : Int32) s0 s1 s2 ) (oPureK ?_)
    refine oIcmp_ne C at_252 (q := 322) (by decide) (by decide) (r := 255) rfl (fun hq => absurd hq (not_not_intro (oe1101 c0 c0 s0 s1 s2 rfl r01 r12 q0c0).symm)) (fun hc252 => ?_)
    refine oIload C at_255 rfl rfl ?_
    refine oLload C at_257 rfl rfl ?_
    refine oLload C at_259 rfl rfl ?_
    refine oIconst C at_261 (z := 0) rfl rfl ?_
    refine oIload C at_262 rfl rfl ?_
    refine oLload C at_264 rfl rfl ?_
    refine oLload C at_266 rfl rfl ?_
    refine oLload C at_268 rfl rfl ?_
    refine oCallS C (w24 hw) (w25 hw) (w26 hw) (w27 hw) at_270 (by decide) pd_717522 rfl rfl (argsL := [.long c1, .long c0, .int 0, .int 1, .long s0, .long s1, .long s2]) (rest := [.int 0]) rfl (W := 1) rfl (q := 273) rfl (by decide) (by decide) (by decide) (by decide) (mt_fExp l Z a0 hw _ n0 z146 c1 c0 (0 : Int32) (1 : Int32) s0 s1 s2 ) (oPureK ?_)
    refine oIcmp_ne C at_273 (q := 322) (by decide) (by decide) (r := 276) rfl (fun hq => absurd hq (not_not_intro (oe1011 c1 c0 s0 s1 s2 rc1 r01 r12 q0c0).symm)) (fun hc273 => ?_)
    refine oIload C at_276 rfl rfl ?_
    refine oLload C at_278 rfl rfl ?_
    refine oLload C at_280 rfl rfl ?_
    refine oIconst C at_282 (z := 0) rfl rfl ?_
    refine oIload C at_283 rfl rfl ?_
    refine oLload C at_285 rfl rfl ?_
    refine oLload C at_287 rfl rfl ?_
    refine oLload C at_289 rfl rfl ?_
    refine oCallS C (w24 hw) (w25 hw) (w26 hw) (w27 hw) at_291 (by decide) pd_717522 rfl rfl (argsL := [.long c2, .long c1, .int 0, .int 1, .long s0, .long s1, .long s2]) (rest := [.int 0]) rfl (W := 1) rfl (q := 294) rfl (by decide) (by decide) (by decide) (by decide) (mt_fExp l Z a0 hw _ n0 z146 c2 c1 (0 : Int32) (1 : Int32) s0 s1 s2 ) (oPureK ?_)
    refine oIcmp_ne C at_294 (q := 322) (by decide) (by decide) (r := 297) rfl (fun hq => absurd hq (not_not_intro (oe1011 c2 c1 s0 s1 s2 rc2 r01 r12 (own_mono q0c0 rc1)).symm)) (fun hc294 => ?_)
    refine oIload C at_297 rfl rfl ?_
    refine oLload C at_299 rfl rfl ?_
    refine oLload C at_301 rfl rfl ?_
    refine oIconst C at_303 (z := 0) rfl rfl ?_
    refine oIload C at_304 rfl rfl ?_
    refine oLload C at_306 rfl rfl ?_
    refine oLload C at_308 rfl rfl ?_
    refine oLload C at_310 rfl rfl ?_
    refine oCallS C (w24 hw) (w25 hw) (w26 hw) (w27 hw) at_312 (by decide) pd_717522 rfl rfl (argsL := [.long c3, .long c2, .int 0, .int 1, .long s0, .long s1, .long s2]) (rest := [.int 0]) rfl (W := 1) rfl (q := 315) rfl (by decide) (by decide) (by decide) (by decide) (mt_fExp l Z a0 hw _ n0 z146 c3 c2 (0 : Int32) (1 : Int32) s0 s1 s2 ) (oPureK ?_)
    refine oIcmp_ne C at_315 (q := 322) (by decide) (by decide) (r := 318) rfl (fun hq => absurd hq (not_not_intro (oe1011 c3 c2 s0 s1 s2 rc3 r01 r12 (own_mono (own_mono q0c0 rc1) rc2)).symm)) (fun hc315 => ?_)
    refine oIconst C at_318 (z := 1) rfl rfl ?_
    refine oGoto C at_319 (q := 323) (by decide) (by decide) ?_
    refine oRetZ C at_323 (z' := (1 : Int32)) rfl (by decide) (by decide) ?_
    exact rfl
  ·
   refine oCastI (z' := (2 : Int32)) hv ?_
   refine oIstore C at_12 (Ls' := #[.val (.long x0), .second, .val (.int n9), .val (.int sg), .val (.int cg), .val (.long tt), .second, .val (.int 2), .unset, .unset, .unset, .unset, .unset, .unset, .unset, .unset, .unset, .unset, .unset, .unset, .unset, .unset, .unset, .unset, .unset, .unset, .unset, .unset]) rfl (q := 14) rfl ?_
   refine oLload C at_14 rfl rfl ?_
   refine oIloadN C at_16 rfl rfl ?_
   refine oBipush C at_17 (z := 15) rfl rfl ?_
   refine oIand C at_19 rfl ?_
   refine oI2L C at_20 rfl ?_
   refine oLsub C at_21 rfl ?_
   obtain ⟨s0, e_s0⟩ : ∃ z, z = (tt - ((sg &&& (15 : Int32)).toInt64)) := ⟨_, rfl⟩
   refine oCastL e_s0.symm ?_
   have r_s0 : s0.toInt ≤ tt.toInt ∧ tt.toInt - 15 ≤ s0.toInt := by rw [e_s0, own_sub (own_m sg 15 4 15 (by decide) (by decide) (by decide) (by decide)) (by omega)]; have z := own_m sg 15 4 15 (by decide) (by decide) (by decide) (by decide); omega
   refine oLstore C at_22 (Ls' := #[.val (.long x0), .second, .val (.int n9), .val (.int sg), .val (.int cg), .val (.long tt), .second, .val (.int 2), .val (.long s0), .second, .unset, .unset, .unset, .unset, .unset, .unset, .unset, .unset, .unset, .unset, .unset, .unset, .unset, .unset, .unset, .unset, .unset, .unset]) rfl (q := 24) rfl ?_
   refine oLload C at_24 rfl rfl ?_
   refine oLconst C at_26 (z := 1) rfl rfl ?_
   refine oLsub C at_27 rfl ?_
   refine oIloadN C at_28 rfl rfl ?_
   refine oIconst C at_29 (z := 4) rfl rfl ?_
   refine oIushr C at_30 rfl ?_
   refine oBipush C at_31 (z := 7) rfl rfl ?_
   refine oIand C at_33 rfl ?_
   refine oI2L C at_34 rfl ?_
   refine oLsub C at_35 rfl ?_
   obtain ⟨s1, e_s1⟩ : ∃ z, z = ((s0 - (1 : Int64)) - ((((sg.toUInt32 >>> ((4 : Int32) &&& 31).toUInt32).toInt32) &&& (7 : Int32)).toInt64)) := ⟨_, rfl⟩
   refine oCastL e_s1.symm ?_
   have r_s1 : s1.toInt < s0.toInt ∧ s0.toInt - 8 ≤ s1.toInt := by rw [e_s1, own_sub (own_m (sg.toUInt32 >>> ((4 : Int32) &&& 31).toUInt32).toInt32 7 3 7 (by decide) (by decide) (by decide) (by decide)) (by rw [own_sub1 (by omega)]; omega), own_sub1 (by omega)]; have z := own_m (sg.toUInt32 >>> ((4 : Int32) &&& 31).toUInt32).toInt32 7 3 7 (by decide) (by decide) (by decide) (by decide); omega
   refine oLstore C at_36 (Ls' := #[.val (.long x0), .second, .val (.int n9), .val (.int sg), .val (.int cg), .val (.long tt), .second, .val (.int 2), .val (.long s0), .second, .val (.long s1), .second, .unset, .unset, .unset, .unset, .unset, .unset, .unset, .unset, .unset, .unset, .unset, .unset, .unset, .unset, .unset, .unset]) rfl (q := 38) rfl ?_
   refine oLload C at_38 rfl rfl ?_
   refine oLconst C at_40 (z := 1) rfl rfl ?_
   refine oLsub C at_41 rfl ?_
   refine oIloadN C at_42 rfl rfl ?_
   refine oBipush C at_43 (z := 7) rfl rfl ?_
   refine oIushr C at_45 rfl ?_
   refine oBipush C at_46 (z := 7) rfl rfl ?_
   refine oIand C at_48 rfl ?_
   refine oI2L C at_49 rfl ?_
   refine oLsub C at_50 rfl ?_
   obtain ⟨s2, e_s2⟩ : ∃ z, z = ((s1 - (1 : Int64)) - ((((sg.toUInt32 >>> ((7 : Int32) &&& 31).toUInt32).toInt32) &&& (7 : Int32)).toInt64)) := ⟨_, rfl⟩
   refine oCastL e_s2.symm ?_
   have r_s2 : s2.toInt < s1.toInt ∧ s1.toInt - 8 ≤ s2.toInt := by rw [e_s2, own_sub (own_m (sg.toUInt32 >>> ((7 : Int32) &&& 31).toUInt32).toInt32 7 3 7 (by decide) (by decide) (by decide) (by decide)) (by rw [own_sub1 (by omega)]; omega), own_sub1 (by omega)]; have z := own_m (sg.toUInt32 >>> ((7 : Int32) &&& 31).toUInt32).toInt32 7 3 7 (by decide) (by decide) (by decide) (by decide); omega
   have r01 := r_s1.1
   have r12 := r_s2.1
   refine oLstore C at_51 (Ls' := #[.val (.long x0), .second, .val (.int n9), .val (.int sg), .val (.int cg), .val (.long tt), .second, .val (.int 2), .val (.long s0), .second, .val (.long s1), .second, .val (.long s2), .second, .unset, .unset, .unset, .unset, .unset, .unset, .unset, .unset, .unset, .unset, .unset, .unset, .unset, .unset]) rfl (q := 53) rfl ?_
   refine oLload C at_53 rfl rfl ?_
   refine oIload C at_55 rfl rfl ?_
   refine oBipush C at_57 (z := 15) rfl rfl ?_
   refine oIand C at_59 rfl ?_
   refine oI2L C at_60 rfl ?_
   refine oLsub C at_61 rfl ?_
   obtain ⟨c0, e_c0⟩ : ∃ z, z = (tt - ((cg &&& (15 : Int32)).toInt64)) := ⟨_, rfl⟩
   refine oCastL e_c0.symm ?_
   have r_c0 : c0.toInt ≤ tt.toInt ∧ tt.toInt - 15 ≤ c0.toInt := by rw [e_c0, own_sub (own_m cg 15 4 15 (by decide) (by decide) (by decide) (by decide)) (by omega)]; have z := own_m cg 15 4 15 (by decide) (by decide) (by decide) (by decide); omega
   refine oLstore C at_62 (Ls' := #[.val (.long x0), .second, .val (.int n9), .val (.int sg), .val (.int cg), .val (.long tt), .second, .val (.int 2), .val (.long s0), .second, .val (.long s1), .second, .val (.long s2), .second, .val (.long c0), .second, .unset, .unset, .unset, .unset, .unset, .unset, .unset, .unset, .unset, .unset, .unset, .unset]) rfl (q := 64) rfl ?_
   refine oLload C at_64 rfl rfl ?_
   refine oLconst C at_66 (z := 1) rfl rfl ?_
   refine oLsub C at_67 rfl ?_
   refine oIload C at_68 rfl rfl ?_
   refine oIconst C at_70 (z := 4) rfl rfl ?_
   refine oIushr C at_71 rfl ?_
   refine oBipush C at_72 (z := 7) rfl rfl ?_
   refine oIand C at_74 rfl ?_
   refine oI2L C at_75 rfl ?_
   refine oLsub C at_76 rfl ?_
   obtain ⟨c1, e_c1⟩ : ∃ z, z = ((c0 - (1 : Int64)) - ((((cg.toUInt32 >>> ((4 : Int32) &&& 31).toUInt32).toInt32) &&& (7 : Int32)).toInt64)) := ⟨_, rfl⟩
   refine oCastL e_c1.symm ?_
   have r_c1 : c1.toInt < c0.toInt ∧ c0.toInt - 8 ≤ c1.toInt := by rw [e_c1, own_sub (own_m (cg.toUInt32 >>> ((4 : Int32) &&& 31).toUInt32).toInt32 7 3 7 (by decide) (by decide) (by decide) (by decide)) (by rw [own_sub1 (by omega)]; omega), own_sub1 (by omega)]; have z := own_m (cg.toUInt32 >>> ((4 : Int32) &&& 31).toUInt32).toInt32 7 3 7 (by decide) (by decide) (by decide) (by decide); omega
   have rc1 := r_c1.1
   refine oLstore C at_77 (Ls' := #[.val (.long x0), .second, .val (.int n9), .val (.int sg), .val (.int cg), .val (.long tt), .second, .val (.int 2), .val (.long s0), .second, .val (.long s1), .second, .val (.long s2), .second, .val (.long c0), .second, .val (.long c1), .second, .unset, .unset, .unset, .unset, .unset, .unset, .unset, .unset, .unset, .unset]) rfl (q := 79) rfl ?_
   refine oLload C at_79 rfl rfl ?_
   refine oLconst C at_81 (z := 1) rfl rfl ?_
   refine oLsub C at_82 rfl ?_
   refine oIload C at_83 rfl rfl ?_
   refine oBipush C at_85 (z := 7) rfl rfl ?_
   refine oIushr C at_87 rfl ?_
   refine oBipush C at_88 (z := 7) rfl rfl ?_
   refine oIand C at_90 rfl ?_
   refine oI2L C at_91 rfl ?_
   refine oLsub C at_92 rfl ?_
   obtain ⟨c2, e_c2⟩ : ∃ z, z = ((c1 - (1 : Int64)) - ((((cg.toUInt32 >>> ((7 : Int32) &&& 31).toUInt32).toInt32) &&& (7 : Int32)).toInt64)) := ⟨_, rfl⟩
   refine oCastL e_c2.symm ?_
   have r_c2 : c2.toInt < c1.toInt ∧ c1.toInt - 8 ≤ c2.toInt := by rw [e_c2, own_sub (own_m (cg.toUInt32 >>> ((7 : Int32) &&& 31).toUInt32).toInt32 7 3 7 (by decide) (by decide) (by decide) (by decide)) (by rw [own_sub1 (by omega)]; omega), own_sub1 (by omega)]; have z := own_m (cg.toUInt32 >>> ((7 : Int32) &&& 31).toUInt32).toInt32 7 3 7 (by decide) (by decide) (by decide) (by decide); omega
   have rc2 := r_c2.1
   refine oLstore C at_93 (Ls' := #[.val (.long x0), .second, .val (.int n9), .val (.int sg), .val (.int cg), .val (.long tt), .second, .val (.int 2), .val (.long s0), .second, .val (.long s1), .second, .val (.long s2), .second, .val (.long c0), .second, .val (.long c1), .second, .val (.long c2), .second, .unset, .unset, .unset, .unset, .unset, .unset, .unset, .unset]) rfl (q := 95) rfl ?_
   refine oLload C at_95 rfl rfl ?_
   refine oLconst C at_97 (z := 1) rfl rfl ?_
   refine oLsub C at_98 rfl ?_
   refine oIload C at_99 rfl rfl ?_
   refine oBipush C at_101 (z := 10) rfl rfl ?_
   refine oIushr C at_103 rfl ?_
   refine oBipush C at_104 (z := 7) rfl rfl ?_
   refine oIand C at_106 rfl ?_
   refine oI2L C at_107 rfl ?_
   refine oLsub C at_108 rfl ?_
   obtain ⟨c3, e_c3⟩ : ∃ z, z = ((c2 - (1 : Int64)) - ((((cg.toUInt32 >>> ((10 : Int32) &&& 31).toUInt32).toInt32) &&& (7 : Int32)).toInt64)) := ⟨_, rfl⟩
   refine oCastL e_c3.symm ?_
   have r_c3 : c3.toInt < c2.toInt ∧ c2.toInt - 8 ≤ c3.toInt := by rw [e_c3, own_sub (own_m (cg.toUInt32 >>> ((10 : Int32) &&& 31).toUInt32).toInt32 7 3 7 (by decide) (by decide) (by decide) (by decide)) (by rw [own_sub1 (by omega)]; omega), own_sub1 (by omega)]; have z := own_m (cg.toUInt32 >>> ((10 : Int32) &&& 31).toUInt32).toInt32 7 3 7 (by decide) (by decide) (by decide) (by decide); omega
   have rc3 := r_c3.1
   refine oLstore C at_109 (Ls' := #[.val (.long x0), .second, .val (.int n9), .val (.int sg), .val (.int cg), .val (.long tt), .second, .val (.int 2), .val (.long s0), .second, .val (.long s1), .second, .val (.long s2), .second, .val (.long c0), .second, .val (.long c1), .second, .val (.long c2), .second, .val (.long c3), .second, .unset, .unset, .unset, .unset, .unset, .unset]) rfl (q := 111) rfl ?_
   refine oIload C at_111 rfl rfl ?_
   refine oIf_ne C at_113 (q := 124) (by decide) (by decide) (r := 116) rfl (fun hc113 => ?_) (fun hq => absurd hq ((by decide)))
   refine oIload C at_124 rfl rfl ?_
   refine oIconst C at_126 (z := 1) rfl rfl ?_
   refine oIcmp_ne C at_127 (q := 143) (by decide) (by decide) (r := 130) rfl (fun hc127 => ?_) (fun hq => absurd hq ((by decide)))
   refine oIload C at_143 rfl rfl ?_
   refine oIconst C at_145 (z := 2) rfl rfl ?_
   refine oIcmp_ne C at_146 (q := 167) (by decide) (by decide) (r := 149) rfl (fun hq => absurd hq ((by decide))) (fun hc146 => ?_)
   refine oIconst C at_149 (z := 2) rfl rfl ?_
   refine oNewA C (w5 hw) rfl at_150 rfl (by decide) (k := 2) rfl (by decide) (by decide) (cap := 2) (Nat.le_refl _) (by decide) (by decide) fun a151 h151 g_a151 E151 A151 => ?_
   have ge_a151 : n0 ≤ a151 := g_a151 ▸ Z0
   have A151l : oAr Z h151 a151 .long [.long 0, .long 0] := A151
   refine oDup C at_152 rfl rfl ?_
   refine oIconst C at_153 (z := 0) rfl rfl ?_
   refine oLload C at_154 rfl rfl ?_
   refine oLastore C A151l (by decide) (k := 0) rfl (v := .long 0) rfl (v' := .long s0) rfl at_156 rfl ge_a151 fun h152 W152 A152 => ?_
   have A152l : oAr Z h152 a151 .long [.long s0, .long 0] := A152
   refine oDup C at_157 rfl rfl ?_
   refine oIconst C at_158 (z := 1) rfl rfl ?_
   refine oLload C at_159 rfl rfl ?_
   refine oLastore C A152l (by decide) (k := 1) rfl (v := .long 0) rfl (v' := .long s1) rfl at_161 rfl ge_a151 fun h153 W153 A153 => ?_
   have A153l : oAr Z h153 a151 .long [.long s0, .long s1] := A153
   refine oAstore C at_162 rfl (Ls' := #[.val (.long x0), .second, .val (.int n9), .val (.int sg), .val (.int cg), .val (.long tt), .second, .val (.int 2), .val (.long s0), .second, .val (.long s1), .second, .val (.long s2), .second, .val (.long c0), .second, .val (.long c1), .second, .val (.long c2), .second, .val (.long c3), .second, .val (.ref a151), .unset, .unset, .unset, .unset, .unset]) rfl (q := 164) rfl ?_
   refine oGoto C at_164 (q := 187) (by decide) (by decide) ?_
   refine oNew C (w6 hw) (w7 hw) (w8 hw) at_187 rfl (by decide) (by decide) fun a154 h154 g_a154 E154 X154 D154 => ?_
   have z155 := (Nat.le_trans (Nat.le_trans (Nat.le_trans Z0 E151.1) (Nat.le_of_eq W152.size.symm)) (Nat.le_of_eq W153.size.symm))
   have ge_a154 : n0 ≤ a154 := g_a154 ▸ z155
   have f154_open : Fld Z h154 a154 "com/example/tideline/tideline/Retention" "open" "[J" (.null) := D154 (Or.inr (w16 hw)) (ty := (.array .long)) (by decide)
   have f154_next : Fld Z h154 a154 "com/example/tideline/tideline/Retention" "next" "I" (.int 0) := D154 (Or.inl (w23 hw)) (ty := .int) (by decide)
   refine oDup C at_190 rfl rfl ?_
   refine oAload C at_191 rfl rfl rfl ?_
   have z157 := (Nat.le_trans z155 E154.1)
   refine oCallC C (w9 hw) (w10 hw) (w8 hw) (w11 hw) at_193 rfl (by decide) pd_429926 rfl rfl (a := a154) (argsL := [.ref a151]) (rest := [.ref a154]) rfl (W := 1) rfl (q := 196) rfl (by decide) (by decide) (by decide) (by decide) (ac2_0 l Z a0 hw _ n0 z157 a154 a151 X154 f154_open ge_a154) (oVQ ?_)
   rintro h156 ⟨K156, f156_0⟩
   refine oAstore C at_196 rfl (Ls' := #[.val (.long x0), .second, .val (.int n9), .val (.int sg), .val (.int cg), .val (.long tt), .second, .val (.int 2), .val (.long s0), .second, .val (.long s1), .second, .val (.long s2), .second, .val (.long c0), .second, .val (.long c1), .second, .val (.long c2), .second, .val (.long c3), .second, .val (.ref a151), .val (.ref a154), .unset, .unset, .unset, .unset]) rfl (q := 198) rfl ?_
   refine oAload C at_198 rfl rfl rfl ?_
   refine oLload C at_200 rfl rfl ?_
   by_cases q0c0 : s0 < c0
   ·
    have f158 := (K156.fld f154_next nin0 (oNF (Or.inr (oSn0 hw 1 0)) oN0))
    have ne159 : a151 ≠ a154 := oNe' A153l.lt (Nat.le_of_eq g_a154.symm)
    have f160 := (K156.arr (A153l.ext E154) nin0 (oAS ne159 oA0))
    have f162 := (K156.exa X154)
    have z163 := (Nat.le_trans z157 K156.1)
    refine oCallV C (w17 hw) (w18 hw) (w20 hw) (w19 hw) (w8 hw) (w21 hw) at_202 f162 (by decide) pd_692006 rfl rfl (a := a154) (argsL := [.long c0]) (rest := []) rfl (W := 0) rfl (q := 205) rfl (by decide) (by decide) (by decide) (by decide) (ac4_5 l Z a0 hw _ n0 z163 a154 c0 a151 s0 s1 f158 f156_0 f160 q0c0) (oRQ ?_)
    rintro h161 K161
    refine oIstore C at_205 (Ls' := #[.val (.long x0), .second, .val (.int n9), .val (.int sg), .val (.int cg), .val (.long tt), .second, .val (.int 2), .val (.long s0), .second, .val (.long s1), .second, .val (.long s2), .second, .val (.long c0), .second, .val (.long c1), .second, .val (.long c2), .second, .val (.long c3), .second, .val (.ref a151), .val (.ref a154), .val (.int 1), .unset, .unset, .unset]) rfl (q := 207) rfl ?_
    refine oAload C at_207 rfl rfl rfl ?_
    refine oLload C at_209 rfl rfl ?_
    by_cases q0c1 : s0 < c1
    ·
     have f164 := (K161.fld f158 nin0 oN0)
     have f165 := (K161.fld f156_0 nin0 oN0)
     have f166 := (K161.arr f160 nin0 oA0)
     have f168 := (K161.exa f162)
     have z169 := (Nat.le_trans z163 K161.1)
     refine oCallV C (w17 hw) (w18 hw) (w20 hw) (w19 hw) (w8 hw) (w21 hw) at_211 f168 (by decide) pd_692006 rfl rfl (a := a154) (argsL := [.long c1]) (rest := []) rfl (W := 0) rfl (q := 214) rfl (by decide) (by decide) (by decide) (by decide) (ac4_5 l Z a0 hw _ n0 z169 a154 c1 a151 s0 s1 f164 f165 f166 q0c1) (oRQ ?_)
     rintro h167 K167
     refine oIstore C at_214 (Ls' := #[.val (.long x0), .second, .val (.int n9), .val (.int sg), .val (.int cg), .val (.long tt), .second, .val (.int 2), .val (.long s0), .second, .val (.long s1), .second, .val (.long s2), .second, .val (.long c0), .second, .val (.long c1), .second, .val (.long c2), .second, .val (.long c3), .second, .val (.ref a151), .val (.ref a154), .val (.int 1), .val (.int 1), .unset, .unset]) rfl (q := 216) rfl ?_
     refine oAload C at_216 rfl rfl rfl ?_
     refine oLload C at_218 rfl rfl ?_
     by_cases q0c2 : s0 < c2
     ·
      have f170 := (K167.fld f164 nin0 oN0)
      have f171 := (K167.fld f165 nin0 oN0)
      have f172 := (K167.arr f166 nin0 oA0)
      have f174 := (K167.exa f168)
      have z175 := (Nat.le_trans z169 K167.1)
      refine oCallV C (w17 hw) (w18 hw) (w20 hw) (w19 hw) (w8 hw) (w21 hw) at_220 f174 (by decide) pd_692006 rfl rfl (a := a154) (argsL := [.long c2]) (rest := []) rfl (W := 0) rfl (q := 223) rfl (by decide) (by decide) (by decide) (by decide) (ac4_5 l Z a0 hw _ n0 z175 a154 c2 a151 s0 s1 f170 f171 f172 q0c2) (oRQ ?_)
      rintro h173 K173
      refine oIstore C at_223 (Ls' := #[.val (.long x0), .second, .val (.int n9), .val (.int sg), .val (.int cg), .val (.long tt), .second, .val (.int 2), .val (.long s0), .second, .val (.long s1), .second, .val (.long s2), .second, .val (.long c0), .second, .val (.long c1), .second, .val (.long c2), .second, .val (.long c3), .second, .val (.ref a151), .val (.ref a154), .val (.int 1), .val (.int 1), .val (.int 1), .unset]) rfl (q := 225) rfl ?_
      refine oAload C at_225 rfl rfl rfl ?_
      refine oLload C at_227 rfl rfl ?_
      by_cases q0c3 : s0 < c3
      ·
       have f176 := (K173.fld f170 nin0 oN0)
       have f177 := (K173.fld f171 nin0 oN0)
       have f178 := (K173.arr f172 nin0 oA0)
       have f180 := (K173.exa f174)
       have z181 := (Nat.le_trans z175 K173.1)
       refine oCallV C (w17 hw) (w18 hw) (w20 hw) (w19 hw) (w8 hw) (w21 hw) at_229 f180 (by decide) pd_692006 rfl rfl (a := a154) (argsL := [.long c3]) (rest := []) rfl (W := 0) rfl (q := 232) rfl (by decide) (by decide) (by decide) (by decide) (ac4_5 l Z a0 hw _ n0 z181 a154 c3 a151 s0 s1 f176 f177 f178 q0c3) (oRQ ?_)
       rintro h179 K179
       refine oIstore C at_232 (Ls' := #[.val (.long x0), .second, .val (.int n9), .val (.int sg), .val (.int cg), .val (.long tt), .second, .val (.int 2), .val (.long s0), .second, .val (.long s1), .second, .val (.long s2), .second, .val (.long c0), .second, .val (.long c1), .second, .val (.long c2), .second, .val (.long c3), .second, .val (.ref a151), .val (.ref a154), .val (.int 1), .val (.int 1), .val (.int 1), .val (.int 1)]) rfl (q := 234) rfl ?_
       refine oIload C at_234 rfl rfl ?_
       refine oLload C at_236 rfl rfl ?_
       refine oLload C at_238 rfl rfl ?_
       refine oIconst C at_240 (z := 1) rfl rfl ?_
       refine oIload C at_241 rfl rfl ?_
       refine oLload C at_243 rfl rfl ?_
       refine oLload C at_245 rfl rfl ?_
       refine oLload C at_247 rfl rfl ?_
       have z182 := (Nat.le_trans z181 K179.1)
       refine oCallS C (w24 hw) (w25 hw) (w26 hw) (w27 hw) at_249 (by decide) pd_717522 rfl rfl (argsL := [.long c0, .long c0, .int 1, .int 2, .long s0, .long s1, .long s2]) (rest := [.int 1]) rfl (W := 1) rfl (q := 252) rfl (by decide) (by decide) (by decide) (by decide) (mt_fExp l Z a0 hw _ n0 z182 c0 c0 (1 : Int32) (2 : Int32) s0 s1 s2 ) (oPureK ?_)
       refine oIcmp_ne C at_252 (q := 322) (by decide) (by decide) (r := 255) rfl (fun hq => absurd hq (not_not_intro (oe2100 c0 c0 s0 s1 s2 rfl r01 r12 q0c0).symm)) (fun hc252 => ?_)
       refine oIload C at_255 rfl rfl ?_
       refine oLload C at_257 rfl rfl ?_
       refine oLload C at_259 rfl rfl ?_
       refine oIconst C at_261 (z := 0) rfl rfl ?_
       refine oIload C at_262 rfl rfl ?_
       refine oLload C at_264 rfl rfl ?_
       refine oLload C at_266 rfl rfl ?_
       refine oLload C at_268 rfl rfl ?_
       refine oCallS C (w24 hw) (w25 hw) (w26 hw) (w27 hw) at_270 (by decide) pd_717522 rfl rfl (argsL := [.long c1, .long c0, .int 0, .int 2, .long s0, .long s1, .long s2]) (rest := [.int 1]) rfl (W := 1) rfl (q := 273) rfl (by decide) (by decide) (by decide) (by decide) (mt_fExp l Z a0 hw _ n0 z182 c1 c0 (0 : Int32) (2 : Int32) s0 s1 s2 ) (oPureK ?_)
       refine oIcmp_ne C at_273 (q := 322) (by decide) (by decide) (r := 276) rfl (fun hq => absurd hq (not_not_intro (oe2000 c1 c0 s0 s1 s2 rc1 r01 r12 q0c0 q0c1).symm)) (fun hc273 => ?_)
       refine oIload C at_276 rfl rfl ?_
       refine oLload C at_278 rfl rfl ?_
       refine oLload C at_280 rfl rfl ?_
       refine oIconst C at_282 (z := 0) rfl rfl ?_
       refine oIload C at_283 rfl rfl ?_
       refine oLload C at_285 rfl rfl ?_
       refine oLload C at_287 rfl rfl ?_
       refine oLload C at_289 rfl rfl ?_
       refine oCallS C (w24 hw) (w25 hw) (w26 hw) (w27 hw) at_291 (by decide) pd_717522 rfl rfl (argsL := [.long c2, .long c1, .int 0, .int 2, .long s0, .long s1, .long s2]) (rest := [.int 1]) rfl (W := 1) rfl (q := 294) rfl (by decide) (by decide) (by decide) (by decide) (mt_fExp l Z a0 hw _ n0 z182 c2 c1 (0 : Int32) (2 : Int32) s0 s1 s2 ) (oPureK ?_)
       refine oIcmp_ne C at_294 (q := 322) (by decide) (by decide) (r := 297) rfl (fun hq => absurd hq (not_not_intro (oe2000 c2 c1 s0 s1 s2 rc2 r01 r12 q0c1 q0c2).symm)) (fun hc294 => ?_)
       refine oIload C at_297 rfl rfl ?_
       refine oLload C at_299 rfl rfl ?_
       refine oLload C at_301 rfl rfl ?_
       refine oIconst C at_303 (z := 0) rfl rfl ?_
       refine oIload C at_304 rfl rfl ?_
       refine oLload C at_306 rfl rfl ?_
       refine oLload C at_308 rfl rfl ?_
       refine oLload C at_310 rfl rfl ?_
       refine oCallS C (w24 hw) (w25 hw) (w26 hw) (w27 hw) at_312 (by decide) pd_717522 rfl rfl (argsL := [.long c3, .long c2, .int 0, .int 2, .long s0, .long s1, .long s2]) (rest := [.int 1]) rfl (W := 1) rfl (q := 315) rfl (by decide) (by decide) (by decide) (by decide) (mt_fExp l Z a0 hw _ n0 z182 c3 c2 (0 : Int32) (2 : Int32) s0 s1 s2 ) (oPureK ?_)
       refine oIcmp_ne C at_315 (q := 322) (by decide) (by decide) (r := 318) rfl (fun hq => absurd hq (not_not_intro (oe2000 c3 c2 s0 s1 s2 rc3 r01 r12 q0c2 q0c3).symm)) (fun hc315 => ?_)
       refine oIconst C at_318 (z := 1) rfl rfl ?_
       refine oGoto C at_319 (q := 323) (by decide) (by decide) ?_
       refine oRetZ C at_323 (z' := (1 : Int32)) rfl (by decide) (by decide) ?_
       exact rfl
      ·
       by_cases q1c3 : s1 < c3
       ·
        have f187 := (K173.fld f170 nin0 oN0)
        have f188 := (K173.fld f171 nin0 oN0)
        have f189 := (K173.arr f172 nin0 oA0)
        have f190 := (K173.exa f174)
        have z192 := (Nat.le_trans z175 K173.1)
        refine oCallV C (w17 hw) (w18 hw) (w20 hw) (w19 hw) (w8 hw) (w21 hw) at_229 f190 (by decide) pd_692006 rfl rfl (a := a154) (argsL := [.long c3]) (rest := []) rfl (W := 0) rfl (q := 232) rfl (by decide) (by decide) (by decide) (by decide) (ac4_6 l Z a0 hw _ n0 z192 a154 c3 a151 s0 s1 f187 f188 f189 q0c3 f190 ge_a154 ne159 q1c3) (oRQ ?_)
        rintro h191 ⟨K191, f191_0⟩
        refine oIstore C at_232 (Ls' := #[.val (.long x0), .second, .val (.int n9), .val (.int sg), .val (.int cg), .val (.long tt), .second, .val (.int 2), .val (.long s0), .second, .val (.long s1), .second, .val (.long s2), .second, .val (.long c0), .second, .val (.long c1), .second, .val (.long c2), .second, .val (.long c3), .second, .val (.ref a151), .val (.ref a154), .val (.int 1), .val (.int 1), .val (.int 1), .val (.int 1)]) rfl (q := 234) rfl ?_
        refine oIload C at_234 rfl rfl ?_
        refine oLload C at_236 rfl rfl ?_
        refine oLload C at_238 rfl rfl ?_
        refine oIconst C at_240 (z := 1) rfl rfl ?_
        refine oIload C at_241 rfl rfl ?_
        refine oLload C at_243 rfl rfl ?_
        refine oLload C at_245 rfl rfl ?_
        refine oLload C at_247 rfl rfl ?_
        have z193 := (Nat.le_trans z192 K191.1)
        refine oCallS C (w24 hw) (w25 hw) (w26 hw) (w27 hw) at_249 (by decide) pd_717522 rfl rfl (argsL := [.long c0, .long c0, .int 1, .int 2, .long s0, .long s1, .long s2]) (rest := [.int 1]) rfl (W := 1) rfl (q := 252) rfl (by decide) (by decide) (by decide) (by decide) (mt_fExp l Z a0 hw _ n0 z193 c0 c0 (1 : Int32) (2 : Int32) s0 s1 s2 ) (oPureK ?_)
        refine oIcmp_ne C at_252 (q := 322) (by decide) (by decide) (r := 255) rfl (fun hq => absurd hq (not_not_intro (oe2100 c0 c0 s0 s1 s2 rfl r01 r12 q0c0).symm)) (fun hc252 => ?_)
        refine oIload C at_255 rfl rfl ?_
        refine oLload C at_257 rfl rfl ?_
        refine oLload C at_259 rfl rfl ?_
        refine oIconst C at_261 (z := 0) rfl rfl ?_
        refine oIload C at_262 rfl rfl ?_
        refine oLload C at_264 rfl rfl ?_
        refine oLload C at_266 rfl rfl ?_
        refine oLload C at_268 rfl rfl ?_
        refine oCallS C (w24 hw) (w25 hw) (w26 hw) (w27 hw) at_270 (by decide) pd_717522 rfl rfl (argsL := [.long c1, .long c0, .int 0, .int 2, .long s0, .long s1, .long s2]) (rest := [.int 1]) rfl (W := 1) rfl (q := 273) rfl (by decide) (by decide) (by decide) (by decide) (mt_fExp l Z a0 hw _ n0 z193 c1 c0 (0 : Int32) (2 : Int32) s0 s1 s2 ) (oPureK ?_)
        refine oIcmp_ne C at_273 (q := 322) (by decide) (by decide) (r := 276) rfl (fun hq => absurd hq (not_not_intro (oe2000 c1 c0 s0 s1 s2 rc1 r01 r12 q0c0 q0c1).symm)) (fun hc273 => ?_)
        refine oIload C at_276 rfl rfl ?_
        refine oLload C at_278 rfl rfl ?_
        refine oLload C at_280 rfl rfl ?_
        refine oIconst C at_282 (z := 0) rfl rfl ?_
        refine oIload C at_283 rfl rfl ?_
        refine oLload C at_285 rfl rfl ?_
        refine oLload C at_287 rfl rfl ?_
        refine oLload C at_289 rfl rfl ?_
        refine oCallS C (w24 hw) (w25 hw) (w26 hw) (w27 hw) at_291 (by decide) pd_717522 rfl rfl (argsL := [.long c2, .long c1, .int 0, .int 2, .long s0, .long s1, .long s2]) (rest := [.int 1]) rfl (W := 1) rfl (q := 294) rfl (by decide) (by decide) (by decide) (by decide) (mt_fExp l Z a0 hw _ n0 z193 c2 c1 (0 : Int32) (2 : Int32) s0 s1 s2 ) (oPureK ?_)
        refine oIcmp_ne C at_294 (q := 322) (by decide) (by decide) (r := 297) rfl (fun hq => absurd hq (not_not_intro (oe2000 c2 c1 s0 s1 s2 rc2 r01 r12 q0c1 q0c2).symm)) (fun hc294 => ?_)
        refine oIload C at_297 rfl rfl ?_
        refine oLload C at_299 rfl rfl ?_
        refine oLload C at_301 rfl rfl ?_
        refine oIconst C at_303 (z := 0) rfl rfl ?_
        refine oIload C at_304 rfl rfl ?_
        refine oLload C at_306 rfl rfl ?_
        refine oLload C at_308 rfl rfl ?_
        refine oLload C at_310 rfl rfl ?_
        refine oCallS C (w24 hw) (w25 hw) (w26 hw) (w27 hw) at_312 (by decide) pd_717522 rfl rfl (argsL := [.long c3, .long c2, .int 0, .int 2, .long s0, .long s1, .long s2]) (rest := [.int 1]) rfl (W := 1) rfl (q := 315) rfl (by decide) (by decide) (by decide) (by decide) (mt_fExp l Z a0 hw _ n0 z193 c3 c2 (0 : Int32) (2 : Int32) s0 s1 s2 ) (oPureK ?_)
        refine oIcmp_ne C at_315 (q := 322) (by decide) (by decide) (r := 318) rfl (fun hq => absurd hq (not_not_intro (oe2001 c3 c2 s0 s1 s2 rc3 r01 r12 q0c2 q0c3 q1c3).symm)) (fun hc315 => ?_)
        refine oIconst C at_318 (z := 1) rfl rfl ?_
        refine oGoto C at_319 (q := 323) (by decide) (by decide) ?_
        refine oRetZ C at_323 (z' := (1 : Int32)) rfl (by decide) (by decide) ?_
        exact rfl
       ·
        have f198 := (K173.fld f170 nin0 oN0)
        have f199 := (K173.fld f171 nin0 oN0)
        have f200 := (K173.arr f172 nin0 oA0)
        have f201 := (K173.exa f174)
        have z203 := (Nat.le_trans z175 K173.1)
        refine oCallV C (w17 hw) (w18 hw) (w20 hw) (w19 hw) (w8 hw) (w21 hw) at_229 f201 (by decide) pd_692006 rfl rfl (a := a154) (argsL := [.long c3]) (rest := []) rfl (W := 0) rfl (q := 232) rfl (by decide) (by decide) (by decide) (by decide) (ac4_7 l Z a0 hw _ n0 z203 a154 c3 a151 s0 s1 f198 f199 f200 q0c3 f201 ge_a154 ne159 q1c3) (oRQ ?_)
        rintro h202 ⟨K202, f202_0⟩
        refine oIstore C at_232 (Ls' := #[.val (.long x0), .second, .val (.int n9), .val (.int sg), .val (.int cg), .val (.long tt), .second, .val (.int 2), .val (.long s0), .second, .val (.long s1), .second, .val (.long s2), .second, .val (.long c0), .second, .val (.long c1), .second, .val (.long c2), .second, .val (.long c3), .second, .val (.ref a151), .val (.ref a154), .val (.int 1), .val (.int 1), .val (.int 1), .val (.int 1)]) rfl (q := 234) rfl ?_
        refine oIload C at_234 rfl rfl ?_
        refine oLload C at_236 rfl rfl ?_
        refine oLload C at_238 rfl rfl ?_
        refine oIconst C at_240 (z := 1) rfl rfl ?_
        refine oIload C at_241 rfl rfl ?_
        refine oLload C at_243 rfl rfl ?_
        refine oLload C at_245 rfl rfl ?_
        refine oLload C at_247 rfl rfl ?_
        have z204 := (Nat.le_trans z203 K202.1)
        refine oCallS C (w24 hw) (w25 hw) (w26 hw) (w27 hw) at_249 (by decide) pd_717522 rfl rfl (argsL := [.long c0, .long c0, .int 1, .int 2, .long s0, .long s1, .long s2]) (rest := [.int 1]) rfl (W := 1) rfl (q := 252) rfl (by decide) (by decide) (by decide) (by decide) (mt_fExp l Z a0 hw _ n0 z204 c0 c0 (1 : Int32) (2 : Int32) s0 s1 s2 ) (oPureK ?_)
        refine oIcmp_ne C at_252 (q := 322) (by decide) (by decide) (r := 255) rfl (fun hq => absurd hq (not_not_intro (oe2100 c0 c0 s0 s1 s2 rfl r01 r12 q0c0).symm)) (fun hc252 => ?_)
        refine oIload C at_255 rfl rfl ?_
        refine oLload C at_257 rfl rfl ?_
        refine oLload C at_259 rfl rfl ?_
        refine oIconst C at_261 (z := 0) rfl rfl ?_
        refine oIload C at_262 rfl rfl ?_
        refine oLload C at_264 rfl rfl ?_
        refine oLload C at_266 rfl rfl ?_
        refine oLload C at_268 rfl rfl ?_
        refine oCallS C (w24 hw) (w25 hw) (w26 hw) (w27 hw) at_270 (by decide) pd_717522 rfl rfl (argsL := [.long c1, .long c0, .int 0, .int 2, .long s0, .long s1, .long s2]) (rest := [.int 1]) rfl (W := 1) rfl (q := 273) rfl (by decide) (by decide) (by decide) (by decide) (mt_fExp l Z a0 hw _ n0 z204 c1 c0 (0 : Int32) (2 : Int32) s0 s1 s2 ) (oPureK ?_)
        refine oIcmp_ne C at_273 (q := 322) (by decide) (by decide) (r := 276) rfl (fun hq => absurd hq (not_not_intro (oe2000 c1 c0 s0 s1 s2 rc1 r01 r12 q0c0 q0c1).symm)) (fun hc273 => ?_)
        refine oIload C at_276 rfl rfl ?_
        refine oLload C at_278 rfl rfl ?_
        refine oLload C at_280 rfl rfl ?_
        refine oIconst C at_282 (z := 0) rfl rfl ?_
        refine oIload C at_283 rfl rfl ?_
        refine oLload C at_285 rfl rfl ?_
        refine oLload C at_287 rfl rfl ?_
        refine oLload C at_289 rfl rfl ?_
        refine oCallS C (w24 hw) (w25 hw) (w26 hw) (w27 hw) at_291 (by decide) pd_717522 rfl rfl (argsL := [.long c2, .long c1, .int 0, .int 2, .long s0, .long s1, .long s2]) (rest := [.int 1]) rfl (W := 1) rfl (q := 294) rfl (by decide) (by decide) (by decide) (by decide) (mt_fExp l Z a0 hw _ n0 z204 c2 c1 (0 : Int32) (2 : Int32) s0 s1 s2 ) (oPureK ?_)
        refine oIcmp_ne C at_294 (q := 322) (by decide) (by decide) (r := 297) rfl (fun hq => absurd hq (not_not_intro (oe2000 c2 c1 s0 s1 s2 rc2 r01 r12 q0c1 q0c2).symm)) (fun hc294 => ?_)
        refine oIload C at_297 rfl rfl ?_
        refine oLload C at_299 rfl rfl ?_
        refine oLload C at_301 rfl rfl ?_
        refine oIconst C at_303 (z := 0) rfl rfl ?_
        refine oIload C at_304 rfl rfl ?_
        refine oLload C at_306 rfl rfl ?_
        refine oLload C at_308 rfl rfl ?_
        refine oLload C at_310 rfl rfl ?_
        refine oCallS C (w24 hw) (w25 hw) (w26 hw) (w27 hw) at_312 (by decide) pd_717522 rfl rfl (argsL := [.long c3, .long c2, .int 0, .int 2, .long s0, .long s1, .long s2]) (rest := [.int 1]) rfl (W := 1) rfl (q := 315) rfl (by decide) (by decide) (by decide) (by decide) (mt_fExp l Z a0 hw _ n0 z204 c3 c2 (0 : Int32) (2 : Int32) s0 s1 s2 ) (oPureK ?_)
        refine oIcmp_ne C at_315 (q := 322) (by decide) (by decide) (r := 318) rfl (fun hq => absurd hq (not_not_intro (oe2002 c3 c2 s0 s1 s2 rc3 r01 r12 q0c2 q0c3 q1c3).symm)) (fun hc315 => ?_)
        refine oIconst C at_318 (z := 1) rfl rfl ?_
        refine oGoto C at_319 (q := 323) (by decide) (by decide) ?_
        refine oRetZ C at_323 (z' := (1 : Int32)) rfl (by decide) (by decide) ?_
        exact rfl
     ·
      by_cases q1c2 : s1 < c2
      ·
       have f209 := (K167.fld f164 nin0 oN0)
       have f210 := (K167.fld f165 nin0 oN0)
       have f211 := (K167.arr f166 nin0 oA0)
       have f212 := (K167.exa f168)
       have z214 := (Nat.le_trans z169 K167.1)
       refine oCallV C (w17 hw) (w18 hw) (w20 hw) (w19 hw) (w8 hw) (w21 hw) at_220 f212 (by decide) pd_692006 rfl rfl (a := a154) (argsL := [.long c2]) (rest := []) rfl (W := 0) rfl (q := 223) rfl (by decide) (by decide) (by decide) (by decide) (ac4_6 l Z a0 hw _ n0 z214 a154 c2 a151 s0 s1 f209 f210 f211 q0c2 f212 ge_a154 ne159 q1c2) (oRQ ?_)
       rintro h213 ⟨K213, f213_0⟩
       refine oIstore C at_223 (Ls' := #[.val (.long x0), .second, .val (.int n9), .val (.int sg), .val (.int cg), .val (.long tt), .second, .val (.int 2), .val (.long s0), .second, .val (.long s1), .second, .val (.long s2), .second, .val (.long c0), .second, .val (.long c1), .second, .val (.long c2), .second, .val (.long c3), .second, .val (.ref a151), .val (.ref a154), .val (.int 1), .val (.int 1), .val (.int 1), .unset]) rfl (q := 225) rfl ?_
       refine oAload C at_225 rfl rfl rfl ?_
       refine oLload C at_227 rfl rfl ?_
       by_cases q1c3 : s1 < c3
       ·
        have f215 := (K213.fld f210 nin0 (oNF (Or.inr (oSn0 hw 0 1)) oN0))
        have f216 := (K213.arr f211 nin0 (oAS ne159 oA0))
        have f218 := (K213.exa f212)
        have z219 := (Nat.le_trans z214 K213.1)
        refine oCallV C (w17 hw) (w18 hw) (w20 hw) (w19 hw) (w8 hw) (w21 hw) at_229 f218 (by decide) pd_692006 rfl rfl (a := a154) (argsL := [.long c3]) (rest := []) rfl (W := 0) rfl (q := 232) rfl (by decide) (by decide) (by decide) (by decide) (ac4_8 l Z a0 hw _ n0 z219 a154 c3 a151 s0 s1 f213_0 f215 f216 q1c3) (oRQ ?_)
        rintro h217 K217
        refine oIstore C at_232 (Ls' := #[.val (.long x0), .second, .val (.int n9), .val (.int sg), .val (.int cg), .val (.long tt), .second, .val (.int 2), .val (.long s0), .second, .val (.long s1), .second, .val (.long s2), .second, .val (.long c0), .second, .val (.long c1), .second, .val (.long c2), .second, .val (.long c3), .second, .val (.ref a151), .val (.ref a154), .val (.int 1), .val (.int 1), .val (.int 1), .val (.int 0)]) rfl (q := 234) rfl ?_
        refine oIload C at_234 rfl rfl ?_
        refine oLload C at_236 rfl rfl ?_
        refine oLload C at_238 rfl rfl ?_
        refine oIconst C at_240 (z := 1) rfl rfl ?_
        refine oIload C at_241 rfl rfl ?_
        refine oLload C at_243 rfl rfl ?_
        refine oLload C at_245 rfl rfl ?_
        refine oLload C at_247 rfl rfl ?_
        have z220 := (Nat.le_trans z219 K217.1)
        refine oCallS C (w24 hw) (w25 hw) (w26 hw) (w27 hw) at_249 (by decide) pd_717522 rfl rfl (argsL := [.long c0, .long c0, .int 1, .int 2, .long s0, .long s1, .long s2]) (rest := [.int 1]) rfl (W := 1) rfl (q := 252) rfl (by decide) (by decide) (by decide) (by decide) (mt_fExp l Z a0 hw _ n0 z220 c0 c0 (1 : Int32) (2 : Int32) s0 s1 s2 ) (oPureK ?_)
        refine oIcmp_ne C at_252 (q := 322) (by decide) (by decide) (r := 255) rfl (fun hq => absurd hq (not_not_intro (oe2100 c0 c0 s0 s1 s2 rfl r01 r12 q0c0).symm)) (fun hc252 => ?_)
        refine oIload C at_255 rfl rfl ?_
        refine oLload C at_257 rfl rfl ?_
        refine oLload C at_259 rfl rfl ?_
        refine oIconst C at_261 (z := 0) rfl rfl ?_
        refine oIload C at_262 rfl rfl ?_
        refine oLload C at_264 rfl rfl ?_
        refine oLload C at_266 rfl rfl ?_
        refine oLload C at_268 rfl rfl ?_
        refine oCallS C (w24 hw) (w25 hw) (w26 hw) (w27 hw) at_270 (by decide) pd_717522 rfl rfl (argsL := [.long c1, .long c0, .int 0, .int 2, .long s0, .long s1, .long s2]) (rest := [.int 1]) rfl (W := 1) rfl (q := 273) rfl (by decide) (by decide) (by decide) (by decide) (mt_fExp l Z a0 hw _ n0 z220 c1 c0 (0 : Int32) (2 : Int32) s0 s1 s2 ) (oPureK ?_)
        refine oIcmp_ne C at_273 (q := 322) (by decide) (by decide) (r := 276) rfl (fun hq => absurd hq (not_not_intro (oe2000 c1 c0 s0 s1 s2 rc1 r01 r12 q0c0 q0c1).symm)) (fun hc273 => ?_)
        refine oIload C at_276 rfl rfl ?_
        refine oLload C at_278 rfl rfl ?_
        refine oLload C at_280 rfl rfl ?_
        refine oIconst C at_282 (z := 0) rfl rfl ?_
        refine oIload C at_283 rfl rfl ?_
        refine oLload C at_285 rfl rfl ?_
        refine oLload C at_287 rfl rfl ?_
        refine oLload C at_289 rfl rfl ?_
        refine oCallS C (w24 hw) (w25 hw) (w26 hw) (w27 hw) at_291 (by decide) pd_717522 rfl rfl (argsL := [.long c2, .long c1, .int 0, .int 2, .long s0, .long s1, .long s2]) (rest := [.int 1]) rfl (W := 1) rfl (q := 294) rfl (by decide) (by decide) (by decide) (by decide) (mt_fExp l Z a0 hw _ n0 z220 c2 c1 (0 : Int32) (2 : Int32) s0 s1 s2 ) (oPureK ?_)
        refine oIcmp_ne C at_294 (q := 322) (by decide) (by decide) (r := 297) rfl (fun hq => absurd hq (not_not_intro (oe2001 c2 c1 s0 s1 s2 rc2 r01 r12 q0c1 q0c2 q1c2).symm)) (fun hc294 => ?_)
        refine oIload C at_297 rfl rfl ?_
        refine oLload C at_299 rfl rfl ?_
        refine oLload C at_301 rfl rfl ?_
        refine oIconst C at_303 (z := 0) rfl rfl ?_
        refine oIload C at_304 rfl rfl ?_
        refine oLload C at_306 rfl rfl ?_
        refine oLload C at_308 rfl rfl ?_
        refine oLload C at_310 rfl rfl ?_
        refine oCallS C (w24 hw) (w25 hw) (w26 hw) (w27 hw) at_312 (by decide) pd_717522 rfl rfl (argsL := [.long c3, .long c2, .int 0, .int 2, .long s0, .long s1, .long s2]) (rest := [.int 0]) rfl (W := 1) rfl (q := 315) rfl (by decide) (by decide) (by decide) (by decide) (mt_fExp l Z a0 hw _ n0 z220 c3 c2 (0 : Int32) (2 : Int32) s0 s1 s2 ) (oPureK ?_)
        refine oIcmp_ne C at_315 (q := 322) (by decide) (by decide) (r := 318) rfl (fun hq => absurd hq (not_not_intro (oe2011 c3 c2 s0 s1 s2 rc3 r01 r12 q0c2 q1c2 q1c3).symm)) (fun hc315 => ?_)
        refine oIconst C at_318 (z := 1) rfl rfl ?_
        refine oGoto C at_319 (q := 323) (by decide) (by decide) ?_
        refine oRetZ C at_323 (z' := (1 : Int32)) rfl (by decide) (by decide) ?_
        exact rfl
       ·
        have f225 := (K213.fld f210 nin0 (oNF (Or.inr (oSn0 hw 0 1)) oN0))
        have f226 := (K213.arr f211 nin0 (oAS ne159 oA0))
        have f227 := (K213.exa f212)
        have z229 := (Nat.le_trans z214 K213.1)
        refine oCallV C (w17 hw) (w18 hw) (w20 hw) (w19 hw) (w8 hw) (w21 hw) at_229 f227 (by decide) pd_692006 rfl rfl (a := a154) (argsL := [.long c3]) (rest := []) rfl (W := 0) rfl (q := 232) rfl (by decide) (by decide) (by decide) (by decide) (ac4_9 l Z a0 hw _ n0 z229 a154 c3 a151 s0 s1 f213_0 f225 f226 q1c3 f227 ge_a154 ne159) (oRQ ?_)
        rintro h228 ⟨K228, f228_0⟩
        refine oIstore C at_232 (Ls' := #[.val (.long x0), .second, .val (.int n9), .val (.int sg), .val (.int cg), .val (.long tt), .second, .val (.int 2), .val (.long s0), .second, .val (.long s1), .second, .val (.long s2), .second, .val (.long c0), .second, .val (.long c1), .second, .val (.long c2), .second, .val (.long c3), .second, .val (.ref a151), .val (.ref a154), .val (.int 1), .val (.int 1), .val (.int 1), .val (.int 1)]) rfl (q := 234) rfl ?_
        refine oIload C at_234 rfl rfl ?_
        refine oLload C at_236 rfl rfl ?_
        refine oLload C at_238 rfl rfl ?_
        refine oIconst C at_240 (z := 1) rfl rfl ?_
        refine oIload C at_241 rfl rfl ?_
        refine oLload C at_243 rfl rfl ?_
        refine oLload C at_245 rfl rfl ?_
        refine oLload C at_247 rfl rfl ?_
        have z230 := (Nat.le_trans z229 K228.1)
        refine oCallS C (w24 hw) (w25 hw) (w26 hw) (w27 hw) at_249 (by decide) pd_717522 rfl rfl (argsL := [.long c0, .long c0, .int 1, .int 2, .long s0, .long s1, .long s2]) (rest := [.int 1]) rfl (W := 1) rfl (q := 252) rfl (by decide) (by decide) (by decide) (by decide) (mt_fExp l Z a0 hw _ n0 z230 c0 c0 (1 : Int32) (2 : Int32) s0 s1 s2 ) (oPureK ?_)
        refine oIcmp_ne C at_252 (q := 322) (by decide) (by decide) (r := 255) rfl (fun hq => absurd hq (not_not_intro (oe2100 c0 c0 s0 s1 s2 rfl r01 r12 q0c0).symm)) (fun hc252 => ?_)
        refine oIload C at_255 rfl rfl ?_
        refine oLload C at_257 rfl rfl ?_
        refine oLload C at_259 rfl rfl ?_
        refine oIconst C at_261 (z := 0) rfl rfl ?_
        refine oIload C at_262 rfl rfl ?_
        refine oLload C at_264 rfl rfl ?_
        refine oLload C at_266 rfl rfl ?_
        refine oLload C at_268 rfl rfl ?_
        refine oCallS C (w24 hw) (w25 hw) (w26 hw) (w27 hw) at_270 (by decide) pd_717522 rfl rfl (argsL := [.long c1, .long c0, .int 0, .int 2, .long s0, .long s1, .long s2]) (rest := [.int 1]) rfl (W := 1) rfl (q := 273) rfl (by decide) (by decide) (by decide) (by decide) (mt_fExp l Z a0 hw _ n0 z230 c1 c0 (0 : Int32) (2 : Int32) s0 s1 s2 ) (oPureK ?_)
        refine oIcmp_ne C at_273 (q := 322) (by decide) (by decide) (r := 276) rfl (fun hq => absurd hq (not_not_intro (oe2000 c1 c0 s0 s1 s2 rc1 r01 r12 q0c0 q0c1).symm)) (fun hc273 => ?_)
        refine oIload C at_276 rfl rfl ?_
        refine oLload C at_278 rfl rfl ?_
        refine oLload C at_280 rfl rfl ?_
        refine oIconst C at_282 (z := 0) rfl rfl ?_
        refine oIload C at_283 rfl rfl ?_
        refine oLload C at_285 rfl rfl ?_
        refine oLload C at_287 rfl rfl ?_
        refine oLload C at_289 rfl rfl ?_
        refine oCallS C (w24 hw) (w25 hw) (w26 hw) (w27 hw) at_291 (by decide) pd_717522 rfl rfl (argsL := [.long c2, .long c1, .int 0, .int 2, .long s0, .long s1, .long s2]) (rest := [.int 1]) rfl (W := 1) rfl (q := 294) rfl (by decide) (by decide) (by decide) (by decide) (mt_fExp l Z a0 hw _ n0 z230 c2 c1 (0 : Int32) (2 : Int32) s0 s1 s2 ) (oPureK ?_)
        refine oIcmp_ne C at_294 (q := 322) (by decide) (by decide) (r := 297) rfl (fun hq => absurd hq (not_not_intro (oe2001 c2 c1 s0 s1 s2 rc2 r01 r12 q0c1 q0c2 q1c2).symm)) (fun hc294 => ?_)
        refine oIload C at_297 rfl rfl ?_
        refine oLload C at_299 rfl rfl ?_
        refine oLload C at_301 rfl rfl ?_
        refine oIconst C at_303 (z := 0) rfl rfl ?_
        refine oIload C at_304 rfl rfl ?_
        refine oLload C at_306 rfl rfl ?_
        refine oLload C at_308 rfl rfl ?_
        refine oLload C at_310 rfl rfl ?_
        refine oCallS C (w24 hw) (w25 hw) (w26 hw) (w27 hw) at_312 (by decide) pd_717522 rfl rfl (argsL := [.long c3, .long c2, .int 0, .int 2, .long s0, .long s1, .long s2]) (rest := [.int 1]) rfl (W := 1) rfl (q := 315) rfl (by decide) (by decide) (by decide) (by decide) (mt_fExp l Z a0 hw _ n0 z230 c3 c2 (0 : Int32) (2 : Int32) s0 s1 s2 ) (oPureK ?_)
        refine oIcmp_ne C at_315 (q := 322) (by decide) (by decide) (r := 318) rfl (fun hq => absurd hq (not_not_intro (oe2012 c3 c2 s0 s1 s2 rc3 r01 r12 q0c2 q1c2 q1c3).symm)) (fun hc315 => ?_)
        refine oIconst C at_318 (z := 1) rfl rfl ?_
        refine oGoto C at_319 (q := 323) (by decide) (by decide) ?_
        refine oRetZ C at_323 (z' := (1 : Int32)) rfl (by decide) (by decide) ?_
        exact rfl
      ·
       have f235 := (K167.fld f164 nin0 oN0)
       have f236 := (K167.fld f165 nin0 oN0)
       have f237 := (K167.arr f166 nin0 oA0)
       have f238 := (K167.exa f168)
       have z240 := (Nat.le_trans z169 K167.1)
       refine oCallV C (w17 hw) (w18 hw) (w20 hw) (w19 hw) (w8 hw) (w21 hw) at_220 f238 (by decide) pd_692006 rfl rfl (a := a154) (argsL := [.long c2]) (rest := []) rfl (W := 0) rfl (q := 223) rfl (by decide) (by decide) (by decide) (by decide) (ac4_7 l Z a0 hw _ n0 z240 a154 c2 a151 s0 s1 f235 f236 f237 q0c2 f238 ge_a154 ne159 q1c2) (oRQ ?_)
       rintro h239 ⟨K239, f239_0⟩
       refine oIstore C at_223 (Ls' := #[.val (.long x0), .second, .val (.int n9), .val (.int sg), .val (.int cg), .val (.long tt), .second, .val (.int 2), .val (.long s0), .second, .val (.long s1), .second, .val (.long s2), .second, .val (.long c0), .second, .val (.long c1), .second, .val (.long c2), .second, .val (.long c3), .second, .val (.ref a151), .val (.ref a154), .val (.int 1), .val (.int 1), .val (.int 1), .unset]) rfl (q := 225) rfl ?_
       refine oAload C at_225 rfl rfl rfl ?_
       refine oLload C at_227 rfl rfl ?_
       have f241 := (K239.fld f236 nin0 (oNF (Or.inr (oSn0 hw 0 1)) oN0))
       have f242 := (K239.arr f237 nin0 (oAS ne159 oA0))
       have f244 := (K239.exa f238)
       have z245 := (Nat.le_trans z240 K239.1)
       refine oCallV C (w17 hw) (w18 hw) (w20 hw) (w19 hw) (w8 hw) (w21 hw) at_229 f244 (by decide) pd_692006 rfl rfl (a := a154) (argsL := [.long c3]) (rest := []) rfl (W := 0) rfl (q := 232) rfl (by decide) (by decide) (by decide) (by decide) (ac4_10 l Z a0 hw _ n0 z245 a154 c3 a151 s0 s1 f239_0 f241 f242) (oRQ ?_)
       rintro h243 K243
       refine oIstore C at_232 (Ls' := #[.val (.long x0), .second, .val (.int n9), .val (.int sg), .val (.int cg), .val (.long tt), .second, .val (.int 2), .val (.long s0), .second, .val (.long s1), .second, .val (.long s2), .second, .val (.long c0), .second, .val (.long c1), .second, .val (.long c2), .second, .val (.long c3), .second, .val (.ref a151), .val (.ref a154), .val (.int 1), .val (.int 1), .val (.int 1), .val (.int 0)]) rfl (q := 234) rfl ?_
       refine oIload C at_234 rfl rfl ?_
       refine oLload C at_236 rfl rfl ?_
       refine oLload C at_238 rfl rfl ?_
       refine oIconst C at_240 (z := 1) rfl rfl ?_
       refine oIload C at_241 rfl rfl ?_
       refine oLload C at_243 rfl rfl ?_
       refine oLload C at_245 rfl rfl ?_
       refine oLload C at_247 rfl rfl ?_
       have z246 := (Nat.le_trans z245 K243.1)
       refine oCallS C (w24 hw) (w25 hw) (w26 hw) (w27 hw) at_249 (by decide) pd_717522 rfl rfl (argsL := [.long c0, .long c0, .int 1, .int 2, .long s0, .long s1, .long s2]) (rest := [.int 1]) rfl (W := 1) rfl (q := 252) rfl (by decide) (by decide) (by decide) (by decide) (mt_fExp l Z a0 hw _ n0 z246 c0 c0 (1 : Int32) (2 : Int32) s0 s1 s2 ) (oPureK ?_)
       refine oIcmp_ne C at_252 (q := 322) (by decide) (by decide) (r := 255) rfl (fun hq => absurd hq (not_not_intro (oe2100 c0 c0 s0 s1 s2 rfl r01 r12 q0c0).symm)) (fun hc252 => ?_)
       refine oIload C at_255 rfl rfl ?_
       refine oLload C at_257 rfl rfl ?_
       refine oLload C at_259 rfl rfl ?_
       refine oIconst C at_261 (z := 0) rfl rfl ?_
       refine oIload C at_262 rfl rfl ?_
       refine oLload C at_264 rfl rfl ?_
       refine oLload C at_266 rfl rfl ?_
       refine oLload C at_268 rfl rfl ?_
       refine oCallS C (w24 hw) (w25 hw) (w26 hw) (w27 hw) at_270 (by decide) pd_717522 rfl rfl (argsL := [.long c1, .long c0, .int 0, .int 2, .long s0, .long s1, .long s2]) (rest := [.int 1]) rfl (W := 1) rfl (q := 273) rfl (by decide) (by decide) (by decide) (by decide) (mt_fExp l Z a0 hw _ n0 z246 c1 c0 (0 : Int32) (2 : Int32) s0 s1 s2 ) (oPureK ?_)
       refine oIcmp_ne C at_273 (q := 322) (by decide) (by decide) (r := 276) rfl (fun hq => absurd hq (not_not_intro (oe2000 c1 c0 s0 s1 s2 rc1 r01 r12 q0c0 q0c1).symm)) (fun hc273 => ?_)
       refine oIload C at_276 rfl rfl ?_
       refine oLload C at_278 rfl rfl ?_
       refine oLload C at_280 rfl rfl ?_
       refine oIconst C at_282 (z := 0) rfl rfl ?_
       refine oIload C at_283 rfl rfl ?_
       refine oLload C at_285 rfl rfl ?_
       refine oLload C at_287 rfl rfl ?_
       refine oLload C at_289 rfl rfl ?_
       refine oCallS C (w24 hw) (w25 hw) (w26 hw) (w27 hw) at_291 (by decide) pd_717522 rfl rfl (argsL := [.long c2, .long c1, .int 0, .int 2, .long s0, .long s1, .long s2]) (rest := [.int 1]) rfl (W := 1) rfl (q := 294) rfl (by decide) (by decide) (by decide) (by decide) (mt_fExp l Z a0 hw _ n0 z246 c2 c1 (0 : Int32) (2 : Int32) s0 s1 s2 ) (oPureK ?_)
       refine oIcmp_ne C at_294 (q := 322) (by decide) (by decide) (r := 297) rfl (fun hq => absurd hq (not_not_intro (oe2002 c2 c1 s0 s1 s2 rc2 r01 r12 q0c1 q0c2 q1c2).symm)) (fun hc294 => ?_)
       refine oIload C at_297 rfl rfl ?_
       refine oLload C at_299 rfl rfl ?_
       refine oLload C at_301 rfl rfl ?_
       refine oIconst C at_303 (z := 0) rfl rfl ?_
       refine oIload C at_304 rfl rfl ?_
       refine oLload C at_306 rfl rfl ?_
       refine oLload C at_308 rfl rfl ?_
       refine oLload C at_310 rfl rfl ?_
       refine oCallS C (w24 hw) (w25 hw) (w26 hw) (w27 hw) at_312 (by decide) pd_717522 rfl rfl (argsL := [.long c3, .long c2, .int 0, .int 2, .long s0, .long s1, .long s2]) (rest := [.int 0]) rfl (W := 1) rfl (q := 315) rfl (by decide) (by decide) (by decide) (by decide) (mt_fExp l Z a0 hw _ n0 z246 c3 c2 (0 : Int32) (2 : Int32) s0 s1 s2 ) (oPureK ?_)
       refine oIcmp_ne C at_315 (q := 322) (by decide) (by decide) (r := 318) rfl (fun hq => absurd hq (not_not_intro (oe2022 c3 c2 s0 s1 s2 rc3 r01 r12 q0c2 q1c2).symm)) (fun hc315 => ?_)
       refine oIconst C at_318 (z := 1) rfl rfl ?_
       refine oGoto C at_319 (q := 323) (by decide) (by decide) ?_
       refine oRetZ C at_323 (z' := (1 : Int32)) rfl (by decide) (by decide) ?_
       exact rfl
    ·
     by_cases q1c1 : s1 < c1
     ·
      have f251 := (K161.fld f158 nin0 oN0)
      have f252 := (K161.fld f156_0 nin0 oN0)
      have f253 := (K161.arr f160 nin0 oA0)
      have f254 := (K161.exa f162)
      have z256 := (Nat.le_trans z163 K161.1)
      refine oCallV C (w17 hw) (w18 hw) (w20 hw) (w19 hw) (w8 hw) (w21 hw) at_211 f254 (by decide) pd_692006 rfl rfl (a := a154) (argsL := [.long c1]) (rest := []) rfl (W := 0) rfl (q := 214) rfl (by decide) (by decide) (by decide) (by decide) (ac4_6 l Z a0 hw _ n0 z256 a154 c1 a151 s0 s1 f251 f252 f253 q0c1 f254 ge_a154 ne159 q1c1) (oRQ ?_)
      rintro h255 ⟨K255, f255_0⟩
      refine oIstore C at_214 (Ls' := #[.val (.long x0), .second, .val (.int n9), .val (.int sg), .val (.int cg), .val (.long tt), .second, .val (.int 2), .val (.long s0), .second, .val (.long s1), .second, .val (.long s2), .second, .val (.long c0), .second, .val (.long c1), .second, .val (.long c2), .second, .val (.long c3), .second, .val (.ref a151), .val (.ref a154), .val (.int 1), .val (.int 1), .unset, .unset]) rfl (q := 216) rfl ?_
      refine oAload C at_216 rfl rfl rfl ?_
      refine oLload C at_218 rfl rfl ?_
      by_cases q1c2 : s1 < c2
      ·
       have f257 := (K255.fld f252 nin0 (oNF (Or.inr (oSn0 hw 0 1)) oN0))
       have f258 := (K255.arr f253 nin0 (oAS ne159 oA0))
       have f260 := (K255.exa f254)
       have z261 := (Nat.le_trans z256 K255.1)
       refine oCallV C (w17 hw) (w18 hw) (w20 hw) (w19 hw) (w8 hw) (w21 hw) at_220 f260 (by decide) pd_692006 rfl rfl (a := a154) (argsL := [.long c2]) (rest := []) rfl (W := 0) rfl (q := 223) rfl (by decide) (by decide) (by decide) (by decide) (ac4_8 l Z a0 hw _ n0 z261 a154 c2 a151 s0 s1 f255_0 f257 f258 q1c2) (oRQ ?_)
       rintro h259 K259
       refine oIstore C at_223 (Ls' := #[.val (.long x0), .second, .val (.int n9), .val (.int sg), .val (.int cg), .val (.long tt), .second, .val (.int 2), .val (.long s0), .second, .val (.long s1), .second, .val (.long s2), .second, .val (.long c0), .second, .val (.long c1), .second, .val (.long c2), .second, .val (.long c3), .second, .val (.ref a151), .val (.ref a154), .val (.int 1), .val (.int 1), .val (.int 0), .unset]) rfl (q := 225) rfl ?_
       refine oAload C at_225 rfl rfl rfl ?_
       refine oLload C at_227 rfl rfl ?_
       by_cases q1c3 : s1 < c3
       ·
        have f262 := (K259.fld f255_0 nin0 oN0)
        have f263 := (K259.fld f257 nin0 oN0)
        have f264 := (K259.arr f258 nin0 oA0)
        have f266 := (K259.exa f260)
        have z267 := (Nat.le_trans z261 K259.1)
        refine oCallV C (w17 hw) (w18 hw) (w20 hw) (w19 hw) (w8 hw) (w21 hw) at_229 f266 (by decide) pd_692006 rfl rfl (a := a154) (argsL := [.long c3]) (rest := []) rfl (W := 0) rfl (q := 232) rfl (by decide) (by decide) (by decide) (by decide) (ac4_8 l Z a0 hw _ n0 z267 a154 c3 a151 s0 s1 f262 f263 f264 q1c3) (oRQ ?_)
        rintro h265 K265
        refine oIstore C at_232 (Ls' := #[.val (.long x0), .second, .val (.int n9), .val (.int sg), .val (.int cg), .val (.long tt), .second, .val (.int 2), .val (.long s0), .second, .val (.long s1), .second, .val (.long s2), .second, .val (.long c0), .second, .val (.long c1), .second, .val (.long c2), .second, .val (.long c3), .second, .val (.ref a151), .val (.ref a154), .val (.int 1), .val (.int 1), .val (.int 0), .val (.int 0)]) rfl (q := 234) rfl ?_
        refine oIload C at_234 rfl rfl ?_
        refine oLload C at_236 rfl rfl ?_
        refine oLload C at_238 rfl rfl ?_
        refine oIconst C at_240 (z := 1) rfl rfl ?_
        refine oIload C at_241 rfl rfl ?_
        refine oLload C at_243 rfl rfl ?_
        refine oLload C at_245 rfl rfl ?_
        refine oLload C at_247 rfl rfl ?_
        have z268 := (Nat.le_trans z267 K265.1)
        refine oCallS C (w24 hw) (w25 hw) (w26 hw) (w27 hw) at_249 (by decide) pd_717522 rfl rfl (argsL := [.long c0, .long c0, .int 1, .int 2, .long s0, .long s1, .long s2]) (rest := [.int 1]) rfl (W := 1) rfl (q := 252) rfl (by decide) (by decide) (by decide) (by decide) (mt_fExp l Z a0 hw _ n0 z268 c0 c0 (1 : Int32) (2 : Int32) s0 s1 s2 ) (oPureK ?_)
        refine oIcmp_ne C at_252 (q := 322) (by decide) (by decide) (r := 255) rfl (fun hq => absurd hq (not_not_intro (oe2100 c0 c0 s0 s1 s2 rfl r01 r12 q0c0).symm)) (fun hc252 => ?_)
        refine oIload C at_255 rfl rfl ?_
        refine oLload C at_257 rfl rfl ?_
        refine oLload C at_259 rfl rfl ?_
        refine oIconst C at_261 (z := 0) rfl rfl ?_
        refine oIload C at_262 rfl rfl ?_
        refine oLload C at_264 rfl rfl ?_
        refine oLload C at_266 rfl rfl ?_
        refine oLload C at_268 rfl rfl ?_
        refine oCallS C (w24 hw) (w25 hw) (w26 hw) (w27 hw) at_270 (by decide) pd_717522 rfl rfl (argsL := [.long c1, .long c0, .int 0, .int 2, .long s0, .long s1, .long s2]) (rest := [.int 1]) rfl (W := 1) rfl (q := 273) rfl (by decide) (by decide) (by decide) (by decide) (mt_fExp l Z a0 hw _ n0 z268 c1 c0 (0 : Int32) (2 : Int32) s0 s1 s2 ) (oPureK ?_)
        refine oIcmp_ne C at_273 (q := 322) (by decide) (by decide) (r := 276) rfl (fun hq => absurd hq (not_not_intro (oe2001 c1 c0 s0 s1 s2 rc1 r01 r12 q0c0 q0c1 q1c1).symm)) (fun hc273 => ?_)
        refine oIload C at_276 rfl rfl ?_
        refine oLload C at_278 rfl rfl ?_
        refine oLload C at_280 rfl rfl ?_
        refine oIconst C at_282 (z := 0) rfl rfl ?_
        refine oIload C at_283 rfl rfl ?_
        refine oLload C at_285 rfl rfl ?_
        refine oLload C at_287 rfl rfl ?_
        refine oLload C at_289 rfl rfl ?_
        refine oCallS C (w24 hw) (w25 hw) (w26 hw) (w27 hw) at_291 (by decide) pd_717522 rfl rfl (argsL := [.long c2, .long c1, .int 0, .int 2, .long s0, .long s1, .long s2]) (rest := [.int 0]) rfl (W := 1) rfl (q := 294) rfl (by decide) (by decide) (by decide) (by decide) (mt_fExp l Z a0 hw _ n0 z268 c2 c1 (0 : Int32) (2 : Int32) s0 s1 s2 ) (oPureK ?_)
        refine oIcmp_ne C at_294 (q := 322) (by decide) (by decide) (r := 297) rfl (fun hq => absurd hq (not_not_intro (oe2011 c2 c1 s0 s1 s2 rc2 r01 r12 q0c1 q1c1 q1c2).symm)) (fun hc294 => ?_)
        refine oIload C at_297 rfl rfl ?_
        refine oLload C at_299 rfl rfl ?_
        refine oLload C at_301 rfl rfl ?_
        refine oIconst C at_303 (z := 0) rfl rfl ?_
        refine oIload C at_304 rfl rfl ?_
        refine oLload C at_306 rfl rfl ?_
        refine oLload C at_308 rfl rfl ?_
        refine oLload C at_310 rfl rfl ?_
        refine oCallS C (w24 hw) (w25 hw) (w26 hw) (w27 hw) at_312 (by decide) pd_717522 rfl rfl (argsL := [.long c3, .long c2, .int 0, .int 2, .long s0, .long s1, .long s2]) (rest := [.int 0]) rfl (W := 1) rfl (q := 315) rfl (by decide) (by decide) (by decide) (by decide) (mt_fExp l Z a0 hw _ n0 z268 c3 c2 (0 : Int32) (2 : Int32) s0 s1 s2 ) (oPureK ?_)
        refine oIcmp_ne C at_315 (q := 322) (by decide) (by decide) (r := 318) rfl (fun hq => absurd hq (not_not_intro (oe2011 c3 c2 s0 s1 s2 rc3 r01 r12 (own_mono q0c1 rc2) q1c2 q1c3).symm)) (fun hc315 => ?_)
        refine oIconst C at_318 (z := 1) rfl rfl ?_
        refine oGoto C at_319 (q := 323) (by decide) (by decide) ?_
        refine oRetZ C at_323 (z' := (1 : Int32)) rfl (by decide) (by decide) ?_
        exact rfl
       ·
        have f273 := (K259.fld f255_0 nin0 oN0)
        have f274 := (K259.fld f257 nin0 oN0)
        have f275 := (K259.arr f258 nin0 oA0)
        have f276 := (K259.exa f260)
        have z278 := (Nat.le_trans z261 K259.1)
        refine oCallV C (w17 hw) (w18 hw) (w20 hw) (w19 hw) (w8 hw) (w21 hw) at_229 f276 (by decide) pd_692006 rfl rfl (a := a154) (argsL := [.long c3]) (rest := []) rfl (W := 0) rfl (q := 232) rfl (by decide) (by decide) (by decide) (by decide) (ac4_9 l Z a0 hw _ n0 z278 a154 c3 a151 s0 s1 f273 f274 f275 q1c3 f276 ge_a154 ne159) (oRQ ?_)
        rintro h277 ⟨K277, f277_0⟩
        refine oIstore C at_232 (Ls' := #[.val (.long x0), .second, .val (.int n9), .val (.int sg), .val (.int cg), .val (.long tt), .second, .val (.int 2), .val (.long s0), .second, .val (.long s1), .second, .val (.long s2), .second, .val (.long c0), .second, .val (.long c1), .second, .val (.long c2), .second, .val (.long c3), .second, .val (.ref a151), .val (.ref a154), .val (.int 1), .val (.int 1), .val (.int 0), .val (.int 1)]) rfl (q := 234) rfl ?_
        refine oIload C at_234 rfl rfl ?_
        refine oLload C at_236 rfl rfl ?_
        refine oLload C at_238 rfl rfl ?_
        refine oIconst C at_240 (z := 1) rfl rfl ?_
        refine oIload C at_241 rfl rfl ?_
        refine oLload C at_243 rfl rfl ?_
        refine oLload C at_245 rfl rfl ?_
        refine oLload C at_247 rfl rfl ?_
        have z279 := (Nat.le_trans z278 K277.1)
        refine oCallS C (w24 hw) (w25 hw) (w26 hw) (w27 hw) at_249 (by decide) pd_717522 rfl rfl (argsL := [.long c0, .long c0, .int 1, .int 2, .long s0, .long s1, .long s2]) (rest := [.int 1]) rfl (W := 1) rfl (q := 252) rfl (by decide) (by decide) (by decide) (by decide) (mt_fExp l Z a0 hw _ n0 z279 c0 c0 (1 : Int32) (2 : Int32) s0 s1 s2 ) (oPureK ?_)
        refine oIcmp_ne C at_252 (q := 322) (by decide) (by decide) (r := 255) rfl (fun hq => absurd hq (not_not_intro (oe2100 c0 c0 s0 s1 s2 rfl r01 r12 q0c0).symm)) (fun hc252 => ?_)
        refine oIload C at_255 rfl rfl ?_
        refine oLload C at_257 rfl rfl ?_
        refine oLload C at_259 rfl rfl ?_
        refine oIconst C at_261 (z := 0) rfl rfl ?_
        refine oIload C at_262 rfl rfl ?_
        refine oLload C at_264 rfl rfl ?_
        refine oLload C at_266 rfl rfl ?_
        refine oLload C at_268 rfl rfl ?_
        refine oCallS C (w24 hw) (w25 hw) (w26 hw) (w27 hw) at_270 (by decide) pd_717522 rfl rfl (argsL := [.long c1, .long c0, .int 0, .int 2, .long s0, .long s1, .long s2]) (rest := [.int 1]) rfl (W := 1) rfl (q := 273) rfl (by decide) (by decide) (by decide) (by decide) (mt_fExp l Z a0 hw _ n0 z279 c1 c0 (0 : Int32) (2 : Int32) s0 s1 s2 ) (oPureK ?_)
        refine oIcmp_ne C at_273 (q := 322) (by decide) (by decide) (r := 276) rfl (fun hq => absurd hq (not_not_intro (oe2001 c1 c0 s0 s1 s2 rc1 r01 r12 q0c0 q0c1 q1c1).symm)) (fun hc273 => ?_)
        refine oIload C at_276 rfl rfl ?_
        refine oLload C at_278 rfl rfl ?_
        refine oLload C at_280 rfl rfl ?_
        refine oIconst C at_282 (z := 0) rfl rfl ?_
        refine oIload C at_283 rfl rfl ?_
        refine oLload C at_285 rfl rfl ?_
        refine oLload C at_287 rfl rfl ?_
        refine oLload C at_289 rfl rfl ?_
        refine oCallS C (w24 hw) (w25 hw) (w26 hw) (w27 hw) at_291 (by decide) pd_717522 rfl rfl (argsL := [.long c2, .long c1, .int 0, .int 2, .long s0, .long s1, .long s2]) (rest := [.int 0]) rfl (W := 1) rfl (q := 294) rfl (by decide) (by decide) (by decide) (by decide) (mt_fExp l Z a0 hw _ n0 z279 c2 c1 (0 : Int32) (2 : Int32) s0 s1 s2 ) (oPureK ?_)
        refine oIcmp_ne C at_294 (q := 322) (by decide) (by decide) (r := 297) rfl (fun hq => absurd hq (not_not_intro (oe2011 c2 c1 s0 s1 s2 rc2 r01 r12 q0c1 q1c1 q1c2).symm)) (fun hc294 => ?_)
        refine oIload C at_297 rfl rfl ?_
        refine oLload C at_299 rfl rfl ?_
        refine oLload C at_301 rfl rfl ?_
        refine oIconst C at_303 (z := 0) rfl rfl ?_
        refine oIload C at_304 rfl rfl ?_
        refine oLload C at_306 rfl rfl ?_
        refine oLload C at_308 rfl rfl ?_
        refine oLload C at_310 rfl rfl ?_
        refine oCallS C (w24 hw) (w25 hw) (w26 hw) (w27 hw) at_312 (by decide) pd_717522 rfl rfl (argsL := [.long c3, .long c2, .int 0, .int 2, .long s0, .long s1, .long s2]) (rest := [.int 1]) rfl (W := 1) rfl (q := 315) rfl (by decide) (by decide) (by decide) (by decide) (mt_fExp l Z a0 hw _ n0 z279 c3 c2 (0 : Int32) (2 : Int32) s0 s1 s2 ) (oPureK ?_)
        refine oIcmp_ne C at_315 (q := 322) (by decide) (by decide) (r := 318) rfl (fun hq => absurd hq (not_not_intro (oe2012 c3 c2 s0 s1 s2 rc3 r01 r12 (own_mono q0c1 rc2) q1c2 q1c3).symm)) (fun hc315 => ?_)
        refine oIconst C at_318 (z := 1) rfl rfl ?_
        refine oGoto C at_319 (q := 323) (by decide) (by decide) ?_
        refine oRetZ C at_323 (z' := (1 : Int32)) rfl (by decide) (by decide) ?_
        exact rfl
      ·
       have f284 := (K255.fld f252 nin0 (oNF (Or.inr (oSn0 hw 0 1)) oN0))
       have f285 := (K255.arr f253 nin0 (oAS ne159 oA0))
       have f286 := (K255.exa f254)
       have z288 := (Nat.le_trans z256 K255.1)
       refine oCallV C (w17 hw) (w18 hw) (w20 hw) (w19 hw) (w8 hw) (w21 hw) at_220 f286 (by decide) pd_692006 rfl rfl (a := a154) (argsL := [.long c2]) (rest := []) rfl (W := 0) rfl (q := 223) rfl (by decide) (by decide) (by decide) (by decide) (ac4_9 l Z a0 hw _ n0 z288 a154 c2 a151 s0 s1 f255_0 f284 f285 q1c2 f286 ge_a154 ne159) (oRQ ?_)
       rintro h287 ⟨K287, f287_0⟩
       refine oIstore C at_223 (Ls' := #[.val (.long x0), .second, .val (.int n9), .val (.int sg), .val (.int cg), .val (.long tt), .second, .val (.int 2), .val (.long s0), .second, .val (.long s1), .second, .val (.long s2), .second, .val (.long c0), .second, .val (.long c1), .second, .val (.long c2), .second, .val (.long c3), .second, .val (.ref a151), .val (.ref a154), .val (.int 1), .val (.int 1), .val (.int 1), .unset]) rfl (q := 225) rfl ?_
       refine oAload C at_225 rfl rfl rfl ?_
       refine oLload C at_227 rfl rfl ?_
       have f289 := (K287.fld f284 nin0 (oNF (Or.inr (oSn0 hw 0 1)) oN0))
       have f290 := (K287.arr f285 nin0 (oAS ne159 oA0))
       have f292 := (K287.exa f286)
       have z293 := (Nat.le_trans z288 K287.1)
       refine oCallV C (w17 hw) (w18 hw) (w20 hw) (w19 hw) (w8 hw) (w21 hw) at_229 f292 (by decide) pd_692006 rfl rfl (a := a154) (argsL := [.long c3]) (rest := []) rfl (W := 0) rfl (q := 232) rfl (by decide) (by decide) (by decide) (by decide) (ac4_10 l Z a0 hw _ n0 z293 a154 c3 a151 s0 s1 f287_0 f289 f290) (oRQ ?_)
       rintro h291 K291
       refine oIstore C at_232 (Ls' := #[.val (.long x0), .second, .val (.int n9), .val (.int sg), .val (.int cg), .val (.long tt), .second, .val (.int 2), .val (.long s0), .second, .val (.long s1), .second, .val (.long s2), .second, .val (.long c0), .second, .val (.long c1), .second, .val (.long c2), .second, .val (.long c3), .second, .val (.ref a151), .val (.ref a154), .val (.int 1), .val (.int 1), .val (.int 1), .val (.int 0)]) rfl (q := 234) rfl ?_
       refine oIload C at_234 rfl rfl ?_
       refine oLload C at_236 rfl rfl ?_
       refine oLload C at_238 rfl rfl ?_
       refine oIconst C at_240 (z := 1) rfl rfl ?_
       refine oIload C at_241 rfl rfl ?_
       refine oLload C at_243 rfl rfl ?_
       refine oLload C at_245 rfl rfl ?_
       refine oLload C at_247 rfl rfl ?_
       have z294 := (Nat.le_trans z293 K291.1)
       refine oCallS C (w24 hw) (w25 hw) (w26 hw) (w27 hw) at_249 (by decide) pd_717522 rfl rfl (argsL := [.long c0, .long c0, .int 1, .int 2, .long s0, .long s1, .long s2]) (rest := [.int 1]) rfl (W := 1) rfl (q := 252) rfl (by decide) (by decide) (by decide) (by decide) (mt_fExp l Z a0 hw _ n0 z294 c0 c0 (1 : Int32) (2 : Int32) s0 s1 s2 ) (oPureK ?_)
       refine oIcmp_ne C at_252 (q := 322) (by decide) (by decide) (r := 255) rfl (fun hq => absurd hq (not_not_intro (oe2100 c0 c0 s0 s1 s2 rfl r01 r12 q0c0).symm)) (fun hc252 => ?_)
       refine oIload C at_255 rfl rfl ?_
       refine oLload C at_257 rfl rfl ?_
       refine oLload C at_259 rfl rfl ?_
       refine oIconst C at_261 (z := 0) rfl rfl ?_
       refine oIload C at_262 rfl rfl ?_
       refine oLload C at_264 rfl rfl ?_
       refine oLload C at_266 rfl rfl ?_
       refine oLload C at_268 rfl rfl ?_
       refine oCallS C (w24 hw) (w25 hw) (w26 hw) (w27 hw) at_270 (by decide) pd_717522 rfl rfl (argsL := [.long c1, .long c0, .int 0, .int 2, .long s0, .long s1, .long s2]) (rest := [.int 1]) rfl (W := 1) rfl (q := 273) rfl (by decide) (by decide) (by decide) (by decide) (mt_fExp l Z a0 hw _ n0 z294 c1 c0 (0 : Int32) (2 : Int32) s0 s1 s2 ) (oPureK ?_)
       refine oIcmp_ne C at_273 (q := 322) (by decide) (by decide) (r := 276) rfl (fun hq => absurd hq (not_not_intro (oe2001 c1 c0 s0 s1 s2 rc1 r01 r12 q0c0 q0c1 q1c1).symm)) (fun hc273 => ?_)
       refine oIload C at_276 rfl rfl ?_
       refine oLload C at_278 rfl rfl ?_
       refine oLload C at_280 rfl rfl ?_
       refine oIconst C at_282 (z := 0) rfl rfl ?_
       refine oIload C at_283 rfl rfl ?_
       refine oLload C at_285 rfl rfl ?_
       refine oLload C at_287 rfl rfl ?_
       refine oLload C at_289 rfl rfl ?_
       refine oCallS C (w24 hw) (w25 hw) (w26 hw) (w27 hw) at_291 (by decide) pd_717522 rfl rfl (argsL := [.long c2, .long c1, .int 0, .int 2, .long s0, .long s1, .long s2]) (rest := [.int 1]) rfl (W := 1) rfl (q := 294) rfl (by decide) (by decide) (by decide) (by decide) (mt_fExp l Z a0 hw _ n0 z294 c2 c1 (0 : Int32) (2 : Int32) s0 s1 s2 ) (oPureK ?_)
       refine oIcmp_ne C at_294 (q := 322) (by decide) (by decide) (r := 297) rfl (fun hq => absurd hq (not_not_intro (oe2012 c2 c1 s0 s1 s2 rc2 r01 r12 q0c1 q1c1 q1c2).symm)) (fun hc294 => ?_)
       refine oIload C at_297 rfl rfl ?_
       refine oLload C at_299 rfl rfl ?_
       refine oLload C at_301 rfl rfl ?_
       refine oIconst C at_303 (z := 0) rfl rfl ?_
       refine oIload C at_304 rfl rfl ?_
       refine oLload C at_306 rfl rfl ?_
       refine oLload C at_308 rfl rfl ?_
       refine oLload C at_310 rfl rfl ?_
       refine oCallS C (w24 hw) (w25 hw) (w26 hw) (w27 hw) at_312 (by decide) pd_717522 rfl rfl (argsL := [.long c3, .long c2, .int 0, .int 2, .long s0, .long s1, .long s2]) (rest := [.int 0]) rfl (W := 1) rfl (q := 315) rfl (by decide) (by decide) (by decide) (by decide) (mt_fExp l Z a0 hw _ n0 z294 c3 c2 (0 : Int32) (2 : Int32) s0 s1 s2 ) (oPureK ?_)
       refine oIcmp_ne C at_315 (q := 322) (by decide) (by decide) (r := 318) rfl (fun hq => absurd hq (not_not_intro (oe2022 c3 c2 s0 s1 s2 rc3 r01 r12 (own_mono q0c1 rc2) q1c2).symm)) (fun hc315 => ?_)
       refine oIconst C at_318 (z := 1) rfl rfl ?_
       refine oGoto C at_319 (q := 323) (by decide) (by decide) ?_
       refine oRetZ C at_323 (z' := (1 : Int32)) rfl (by decide) (by decide) ?_
       exact rfl
     ·
      have f299 := (K161.fld f158 nin0 oN0)
      have f300 := (K161.fld f156_0 nin0 oN0)
      have f301 := (K161.arr f160 nin0 oA0)
      have f302 := (K161.exa f162)
      have z304 := (Nat.le_trans z163 K161.1)
      refine oCallV C (w17 hw) (w18 hw) (w20 hw) (w19 hw) (w8 hw) (w21 hw) at_211 f302 (by decide) pd_692006 rfl rfl (a := a154) (argsL := [.long c1]) (rest := []) rfl (W := 0) rfl (q := 214) rfl (by decide) (by decide) (by decide) (by decide) (ac4_7 l Z a0 hw _ n0 z304 a154 c1 a151 s0 s1 f299 f300 f301 q0c1 f302 ge_a154 ne159 q1c1) (oRQ ?_)
      rintro h303 ⟨K303, f303_0⟩
      refine oIstore C at_214 (Ls' := #[.val (.long x0), .second, .val (.int n9), .val (.int sg), .val (.int cg), .val (.long tt), .second, .val (.int 2), .val (.long s0), .second, .val (.long s1), .second, .val (.long s2), .second, .val (.long c0), .second, .val (.long c1), .second, .val (.long c2), .second, .val (.long c3), .second, .val (.ref a151), .val (.ref a154), .val (.int 1), .val (.int 1), .unset, .unset]) rfl (q := 216) rfl ?_
      refine oAload C at_216 rfl rfl rfl ?_
      refine oLload C at_218 rfl rfl ?_
      have f305 := (K303.fld f300 nin0 (oNF (Or.inr (oSn0 hw 0 1)) oN0))
      have f306 := (K303.arr f301 nin0 (oAS ne159 oA0))
      have f308 := (K303.exa f302)
      have z309 := (Nat.le_trans z304 K303.1)
      refine oCallV C (w17 hw) (w18 hw) (w20 hw) (w19 hw) (w8 hw) (w21 hw) at_220 f308 (by decide) pd_692006 rfl rfl (a := a154) (argsL := [.long c2]) (rest := []) rfl (W := 0) rfl (q := 223) rfl (by decide) (by decide) (by decide) (by decide) (ac4_10 l Z a0 hw _ n0 z309 a154 c2 a151 s0 s1 f303_0 f305 f306) (oRQ ?_)
      rintro h307 K307
      refine oIstore C at_223 (Ls' := #[.val (.long x0), .second, .val (.int n9), .val (.int sg), .val (.int cg), .val (.long tt), .second, .val (.int 2), .val (.long s0), .second, .val (.long s1), .second, .val (.long s2), .second, .val (.long c0), .second, .val (.long c1), .second, .val (.long c2), .second, .val (.long c3), .second, .val (.ref a151), .val (.ref a154), .val (.int 1), .val (.int 1), .val (.int 0), .unset]) rfl (q := 225) rfl ?_
      refine oAload C at_225 rfl rfl rfl ?_
      refine oLload C at_227 rfl rfl ?_
      have f310 := (K307.fld f303_0 nin0 oN0)
      have f311 := (K307.fld f305 nin0 oN0)
      have f312 := (K307.arr f306 nin0 oA0)
      have f314 := (K307.exa f308)
      have z315 := (Nat.le_trans z309 K307.1)
      refine oCallV C (w17 hw) (w18 hw) (w20 hw) (w19 hw) (w8 hw) (w21 hw) at_229 f314 (by decide) pd_692006 rfl rfl (a := a154) (argsL := [.long c3]) (rest := []) rfl (W := 0) rfl (q := 232) rfl (by decide) (by decide) (by decide) (by decide) (ac4_10 l Z a0 hw _ n0 z315 a154 c3 a151 s0 s1 f310 f311 f312) (oRQ ?_)
      rintro h313 K313
      refine oIstore C at_232 (Ls' := #[.val (.long x0), .second, .val (.int n9), .val (.int sg), .val (.int cg), .val (.long tt), .second, .val (.int 2), .val (.long s0), .second, .val (.long s1), .second, .val (.long s2), .second, .val (.long c0), .second, .val (.long c1), .second, .val (.long c2), .second, .val (.long c3), .second, .val (.ref a151), .val (.ref a154), .val (.int 1), .val (.int 1), .val (.int 0), .val (.int 0)]) rfl (q := 234) rfl ?_
      refine oIload C at_234 rfl rfl ?_
      refine oLload C at_236 rfl rfl ?_
      refine oLload C at_238 rfl rfl ?_
      refine oIconst C at_240 (z := 1) rfl rfl ?_
      refine oIload C at_241 rfl rfl ?_
      refine oLload C at_243 rfl rfl ?_
      refine oLload C at_245 rfl rfl ?_
      refine oLload C at_247 rfl rfl ?_
      have z316 := (Nat.le_trans z315 K313.1)
      refine oCallS C (w24 hw) (w25 hw) (w26 hw) (w27 hw) at_249 (by decide) pd_717522 rfl rfl (argsL := [.long c0, .long c0, .int 1, .int 2, .long s0, .long s1, .long s2]) (rest := [.int 1]) rfl (W := 1) rfl (q := 252) rfl (by decide) (by decide) (by decide) (by decide) (mt_fExp l Z a0 hw _ n0 z316 c0 c0 (1 : Int32) (2 : Int32) s0 s1 s2 ) (oPureK ?_)
      refine oIcmp_ne C at_252 (q := 322) (by decide) (by decide) (r := 255) rfl (fun hq => absurd hq (not_not_intro (oe2100 c0 c0 s0 s1 s2 rfl r01 r12 q0c0).symm)) (fun hc252 => ?_)
      refine oIload C at_255 rfl rfl ?_
      refine oLload C at_257 rfl rfl ?_
      refine oLload C at_259 rfl rfl ?_
      refine oIconst C at_261 (z := 0) rfl rfl ?_
      refine oIload C at_262 rfl rfl ?_
      refine oLload C at_264 rfl rfl ?_
      refine oLload C at_266 rfl rfl ?_
      refine oLload C at_268 rfl rfl ?_
      refine oCallS C (w24 hw) (w25 hw) (w26 hw) (w27 hw) at_270 (by decide) pd_717522 rfl rfl (argsL := [.long c1, .long c0, .int 0, .int 2, .long s0, .long s1, .long s2]) (rest := [.int 1]) rfl (W := 1) rfl (q := 273) rfl (by decide) (by decide) (by decide) (by decide) (mt_fExp l Z a0 hw _ n0 z316 c1 c0 (0 : Int32) (2 : Int32) s0 s1 s2 ) (oPureK ?_)
      refine oIcmp_ne C at_273 (q := 322) (by decide) (by decide) (r := 276) rfl (fun hq => absurd hq (not_not_intro (oe2002 c1 c0 s0 s1 s2 rc1 r01 r12 q0c0 q0c1 q1c1).symm)) (fun hc273 => ?_)
      refine oIload C at_276 rfl rfl ?_
      refine oLload C at_278 rfl rfl ?_
      refine oLload C at_280 rfl rfl ?_
      refine oIconst C at_282 (z := 0) rfl rfl ?_
      refine oIload C at_283 rfl rfl ?_
      refine oLload C at_285 rfl rfl ?_
      refine oLload C at_287 rfl rfl ?_
      refine oLload C at_289 rfl rfl ?_
      refine oCallS C (w24 hw) (w25 hw) (w26 hw) (w27 hw) at_291 (by decide) pd_717522 rfl rfl (argsL := [.long c2, .long c1, .int 0, .int 2, .long s0, .long s1, .long s2]) (rest := [.int 0]) rfl (W := 1) rfl (q := 294) rfl (by decide) (by decide) (by decide) (by decide) (mt_fExp l Z a0 hw _ n0 z316 c2 c1 (0 : Int32) (2 : Int32) s0 s1 s2 ) (oPureK ?_)
      refine oIcmp_ne C at_294 (q := 322) (by decide) (by decide) (r := 297) rfl (fun hq => absurd hq (not_not_intro (oe2022 c2 c1 s0 s1 s2 rc2 r01 r12 q0c1 q1c1).symm)) (fun hc294 => ?_)
      refine oIload C at_297 rfl rfl ?_
      refine oLload C at_299 rfl rfl ?_
      refine oLload C at_301 rfl rfl ?_
      refine oIconst C at_303 (z := 0) rfl rfl ?_
      refine oIload C at_304 rfl rfl ?_
      refine oLload C at_306 rfl rfl ?_
      refine oLload C at_308 rfl rfl ?_
      refine oLload C at_310 rfl rfl ?_
      refine oCallS C (w24 hw) (w25 hw) (w26 hw) (w27 hw) at_312 (by decide) pd_717522 rfl rfl (argsL := [.long c3, .long c2, .int 0, .int 2, .long s0, .long s1, .long s2]) (rest := [.int 0]) rfl (W := 1) rfl (q := 315) rfl (by decide) (by decide) (by decide) (by decide) (mt_fExp l Z a0 hw _ n0 z316 c3 c2 (0 : Int32) (2 : Int32) s0 s1 s2 ) (oPureK ?_)
      refine oIcmp_ne C at_315 (q := 322) (by decide) (by decide) (r := 318) rfl (fun hq => absurd hq (not_not_intro (oe2022 c3 c2 s0 s1 s2 rc3 r01 r12 (own_mono q0c1 rc2) (own_mono q1c1 rc2)).symm)) (fun hc315 => ?_)
      refine oIconst C at_318 (z := 1) rfl rfl ?_
      refine oGoto C at_319 (q := 323) (by decide) (by decide) ?_
      refine oRetZ C at_323 (z' := (1 : Int32)) rfl (by decide) (by decide) ?_
      exact rfl
   ·
    by_cases q1c0 : s1 < c0
    ·
     have f321 := (K156.fld f154_next nin0 (oNF (Or.inr (oSn0 hw 1 0)) oN0))
     have ne322 : a151 ≠ a154 := oNe' A153l.lt (Nat.le_of_eq g_a154.symm)
     have f323 := (K156.arr (A153l.ext E154) nin0 (oAS ne322 oA0))
     have f324 := (K156.exa X154)
     have z326 := (Nat.le_trans z157 K156.1)
     refine oCallV C (w17 hw) (w18 hw) (w20 hw) (w19 hw) (w8 hw) (w21 hw) at_202 f324 (by decide) pd_692006 rfl rfl (a := a154) (argsL := [.long c0]) (rest := []) rfl (W := 0) rfl (q := 205) rfl (by decide) (by decide) (by decide) (by decide) (ac4_6 l Z a0 hw _ n0 z326 a154 c0 a151 s0 s1 f321 f156_0 f323 q0c0 f324 ge_a154 ne322 q1c0) (oRQ ?_)
     rintro h325 ⟨K325, f325_0⟩
     refine oIstore C at_205 (Ls' := #[.val (.long x0), .second, .val (.int n9), .val (.int sg), .val (.int cg), .val (.long tt), .second, .val (.int 2), .val (.long s0), .second, .val (.long s1), .second, .val (.long s2), .second, .val (.long c0), .second, .val (.long c1), .second, .val (.long c2), .second, .val (.long c3), .second, .val (.ref a151), .val (.ref a154), .val (.int 1), .unset, .unset, .unset]) rfl (q := 207) rfl ?_
     refine oAload C at_207 rfl rfl rfl ?_
     refine oLload C at_209 rfl rfl ?_
     by_cases q1c1 : s1 < c1
     ·
      have f327 := (K325.fld f156_0 nin0 (oNF (Or.inr (oSn0 hw 0 1)) oN0))
      have f328 := (K325.arr f323 nin0 (oAS ne322 oA0))
      have f330 := (K325.exa f324)
      have z331 := (Nat.le_trans z326 K325.1)
      refine oCallV C (w17 hw) (w18 hw) (w20 hw) (w19 hw) (w8 hw) (w21 hw) at_211 f330 (by decide) pd_692006 rfl rfl (a := a154) (argsL := [.long c1]) (rest := []) rfl (W := 0) rfl (q := 214) rfl (by decide) (by decide) (by decide) (by decide) (ac4_8 l Z a0 hw _ n0 z331 a154 c1 a151 s0 s1 f325_0 f327 f328 q1c1) (oRQ ?_)
      rintro h329 K329
      refine oIstore C at_214 (Ls' := #[.val (.long x0), .second, .val (.int n9), .val (.int sg), .val (.int cg), .val (.long tt), .second, .val (.int 2), .val (.long s0), .second, .val (.long s1), .second, .val (.long s2), .second, .val (.long c0), .second, .val (.long c1), .second, .val (.long c2), .second, .val (.long c3), .second, .val (.ref a151), .val (.ref a154), .val (.int 1), .val (.int 0), .unset, .unset]) rfl (q := 216) rfl ?_
      refine oAload C at_216 rfl rfl rfl ?_
      refine oLload C at_218 rfl rfl ?_
      by_cases q1c2 : s1 < c2
      ·
       have f332 := (K329.fld f325_0 nin0 oN0)
       have f333 := (K329.fld f327 nin0 oN0)
       have f334 := (K329.arr f328 nin0 oA0)
       have f336 := (K329.exa f330)
       have z337 := (Nat.le_trans z331 K329.1)
       refine oCallV C (w17 hw) (w18 hw) (w20 hw) (w19 hw) (w8 hw) (w21 hw) at_220 f336 (by decide) pd_692006 rfl rfl (a := a154) (argsL := [.long c2]) (rest := []) rfl (W := 0) rfl (q := 223) rfl (by decide) (by decide) (by decide) (by decide) (ac4_8 l Z a0 hw _ n0 z337 a154 c2 a151 s0 s1 f332 f333 f334 q1c2) (oRQ ?_)
       rintro h335 K335
       refine oIstore C at_223 (Ls' := #[.val (.long x0), .second, .val (.int n9), .val (.int sg), .val (.int cg), .val (.long tt), .second, .val (.int 2), .val (.long s0), .second, .val (.long s1), .second, .val (.long s2), .second, .val (.long c0), .second, .val (.long c1), .second, .val (.long c2), .second, .val (.long c3), .second, .val (.ref a151), .val (.ref a154), .val (.int 1), .val (.int 0), .val (.int 0), .unset]) rfl (q := 225) rfl ?_
       refine oAload C at_225 rfl rfl rfl ?_
       refine oLload C at_227 rfl rfl ?_
       by_cases q1c3 : s1 < c3
       ·
        have f338 := (K335.fld f332 nin0 oN0)
        have f339 := (K335.fld f333 nin0 oN0)
        have f340 := (K335.arr f334 nin0 oA0)
        have f342 := (K335.exa f336)
        have z343 := (Nat.le_trans z337 K335.1)
        refine oCallV C (w17 hw) (w18 hw) (w20 hw) (w19 hw) (w8 hw) (w21 hw) at_229 f342 (by decide) pd_692006 rfl rfl (a := a154) (argsL := [.long c3]) (rest := []) rfl (W := 0) rfl (q := 232) rfl (by decide) (by decide) (by decide) (by decide) (ac4_8 l Z a0 hw _ n0 z343 a154 c3 a151 s0 s1 f338 f339 f340 q1c3) (oRQ ?_)
        rintro h341 K341
        refine oIstore C at_232 (Ls' := #[.val (.long x0), .second, .val (.int n9), .val (.int sg), .val (.int cg), .val (.long tt), .second, .val (.int 2), .val (.long s0), .second, .val (.long s1), .second, .val (.long s2), .second, .val (.long c0), .second, .val (.long c1), .second, .val (.long c2), .second, .val (.long c3), .second, .val (.ref a151), .val (.ref a154), .val (.int 1), .val (.int 0), .val (.int 0), .val (.int 0)]) rfl (q := 234) rfl ?_
        refine oIload C at_234 rfl rfl ?_
        refine oLload C at_236 rfl rfl ?_
        refine oLload C at_238 rfl rfl ?_
        refine oIconst C at_240 (z := 1) rfl rfl ?_
        refine oIload C at_241 rfl rfl ?_
        refine oLload C at_243 rfl rfl ?_
        refine oLload C at_245 rfl rfl ?_
        refine oLload C at_247 rfl rfl ?_
        have z344 := (Nat.le_trans z343 K341.1)
        refine oCallS C (w24 hw) (w25 hw) (w26 hw) (w27 hw) at_249 (by decide) pd_717522 rfl rfl (argsL := [.long c0, .long c0, .int 1, .int 2, .long s0, .long s1, .long s2]) (rest := [.int 1]) rfl (W := 1) rfl (q := 252) rfl (by decide) (by decide) (by decide) (by decide) (mt_fExp l Z a0 hw _ n0 z344 c0 c0 (1 : Int32) (2 : Int32) s0 s1 s2 ) (oPureK ?_)
        refine oIcmp_ne C at_252 (q := 322) (by decide) (by decide) (r := 255) rfl (fun hq => absurd hq (not_not_intro (oe2101 c0 c0 s0 s1 s2 rfl r01 r12 q0c0 q1c0).symm)) (fun hc252 => ?_)
        refine oIload C at_255 rfl rfl ?_
        refine oLload C at_257 rfl rfl ?_
        refine oLload C at_259 rfl rfl ?_
        refine oIconst C at_261 (z := 0) rfl rfl ?_
        refine oIload C at_262 rfl rfl ?_
        refine oLload C at_264 rfl rfl ?_
        refine oLload C at_266 rfl rfl ?_
        refine oLload C at_268 rfl rfl ?_
        refine oCallS C (w24 hw) (w25 hw) (w26 hw) (w27 hw) at_270 (by decide) pd_717522 rfl rfl (argsL := [.long c1, .long c0, .int 0, .int 2, .long s0, .long s1, .long s2]) (rest := [.int 0]) rfl (W := 1) rfl (q := 273) rfl (by decide) (by decide) (by decide) (by decide) (mt_fExp l Z a0 hw _ n0 z344 c1 c0 (0 : Int32) (2 : Int32) s0 s1 s2 ) (oPureK ?_)
        refine oIcmp_ne C at_273 (q := 322) (by decide) (by decide) (r := 276) rfl (fun hq => absurd hq (not_not_intro (oe2011 c1 c0 s0 s1 s2 rc1 r01 r12 q0c0 q1c0 q1c1).symm)) (fun hc273 => ?_)
        refine oIload C at_276 rfl rfl ?_
        refine oLload C at_278 rfl rfl ?_
        refine oLload C at_280 rfl rfl ?_
        refine oIconst C at_282 (z := 0) rfl rfl ?_
        refine oIload C at_283 rfl rfl ?_
        refine oLload C at_285 rfl rfl ?_
        refine oLload C at_287 rfl rfl ?_
        refine oLload C at_289 rfl rfl ?_
        refine oCallS C (w24 hw) (w25 hw) (w26 hw) (w27 hw) at_291 (by decide) pd_717522 rfl rfl (argsL := [.long c2, .long c1, .int 0, .int 2, .long s0, .long s1, .long s2]) (rest := [.int 0]) rfl (W := 1) rfl (q := 294) rfl (by decide) (by decide) (by decide) (by decide) (mt_fExp l Z a0 hw _ n0 z344 c2 c1 (0 : Int32) (2 : Int32) s0 s1 s2 ) (oPureK ?_)
        refine oIcmp_ne C at_294 (q := 322) (by decide) (by decide) (r := 297) rfl (fun hq => absurd hq (not_not_intro (oe2011 c2 c1 s0 s1 s2 rc2 r01 r12 (own_mono q0c0 rc1) q1c1 q1c2).symm)) (fun hc294 => ?_)
        refine oIload C at_297 rfl rfl ?_
        refine oLload C at_299 rfl rfl ?_
        refine oLload C at_301 rfl rfl ?_
        refine oIconst C at_303 (z := 0) rfl rfl ?_
        refine oIload C at_304 rfl rfl ?_
        refine oLload C at_306 rfl rfl ?_
        refine oLload C at_308 rfl rfl ?_
        refine oLload C at_310 rfl rfl ?_
        refine oCallS C (w24 hw) (w25 hw) (w26 hw) (w27 hw) at_312 (by decide) pd_717522 rfl rfl (argsL := [.long c3, .long c2, .int 0, .int 2, .long s0, .long s1, .long s2]) (rest := [.int 0]) rfl (W := 1) rfl (q := 315) rfl (by decide) (by decide) (by decide) (by decide) (mt_fExp l Z a0 hw _ n0 z344 c3 c2 (0 : Int32) (2 : Int32) s0 s1 s2 ) (oPureK ?_)
        refine oIcmp_ne C at_315 (q := 322) (by decide) (by decide) (r := 318) rfl (fun hq => absurd hq (not_not_intro (oe2011 c3 c2 s0 s1 s2 rc3 r01 r12 (own_mono (own_mono q0c0 rc1) rc2) q1c2 q1c3).symm)) (fun hc315 => ?_)
        refine oIconst C at_318 (z := 1) rfl rfl ?_
        refine oGoto C at_319 (q := 323) (by decide) (by decide) ?_
        refine oRetZ C at_323 (z' := (1 : Int32)) rfl (by decide) (by decide) ?_
        exact rfl
       ·
        have f349 := (K335.fld f332 nin0 oN0)
        have f350 := (K335.fld f333 nin0 oN0)
        have f351 := (K335.arr f334 nin0 oA0)
        have f352 := (K335.exa f336)
        have z354 := (Nat.le_trans z337 K335.1)
        refine oCallV C (w17 hw) (w18 hw) (w20 hw) (w19 hw) (w8 hw) (w21 hw) at_229 f352 (by decide) pd_692006 rfl rfl (a := a154) (argsL := [.long c3]) (rest := []) rfl (W := 0) rfl (q := 232) rfl (by decide) (by decide) (by decide) (by decide) (ac4_9 l Z a0 hw _ n0 z354 a154 c3 a151 s0 s1 f349 f350 f351 q1c3 f352 ge_a154 ne322) (oRQ ?_)
        rintro h353 ⟨K353, f353_0⟩
        refine oIstore C at_232 (Ls' := #[.val (.long x0), .second, .val (.int n9), .val (.int sg), .val (.int cg), .val (.long tt), .second, .val (.int 2), .val (.long s0), .second, .val (.long s1), .second, .val (.long s2), .second, .val (.long c0), .second, .val (.long c1), .second, .val (.long c2), .second, .val (.long c3), .second, .val (.ref a151), .val (.ref a154), .val (.int 1), .val (.int 0), .val (.int 0), .val (.int 1)]) rfl (q := 234) rfl ?_
        refine oIload C at_234 rfl rfl ?_
        refine oLload C at_236 rfl rfl ?_
        refine oLload C at_238 rfl rfl ?_
        refine oIconst C at_240 (z := 1) rfl rfl ?_
        refine oIload C at_241 rfl rfl ?_
        refine oLload C at_243 rfl rfl ?_
        refine oLload C at_245 rfl rfl ?_
        refine oLload C at_247 rfl rfl ?_
        have z355 := (Nat.le_trans z354 K353.1)
        refine oCallS C (w24 hw) (w25 hw) (w26 hw) (w27 hw) at_249 (by decide) pd_717522 rfl rfl (argsL := [.long c0, .long c0, .int 1, .int 2, .long s0, .long s1, .long s2]) (rest := [.int 1]) rfl (W := 1) rfl (q := 252) rfl (by decide) (by decide) (by decide) (by decide) (mt_fExp l Z a0 hw _ n0 z355 c0 c0 (1 : Int32) (2 : Int32) s0 s1 s2 ) (oPureK ?_)
        refine oIcmp_ne C at_252 (q := 322) (by decide) (by decide) (r := 255) rfl (fun hq => absurd hq (not_not_intro (oe2101 c0 c0 s0 s1 s2 rfl r01 r12 q0c0 q1c0).symm)) (fun hc252 => ?_)
        refine oIload C at_255 rfl rfl ?_
        refine oLload C at_257 rfl rfl ?_
        refine oLload C at_259 rfl rfl ?_
        refine oIconst C at_261 (z := 0) rfl rfl ?_
        refine oIload C at_262 rfl rfl ?_
        refine oLload C at_264 rfl rfl ?_
        refine oLload C at_266 rfl rfl ?_
        refine oLload C at_268 rfl rfl ?_
        refine oCallS C (w24 hw) (w25 hw) (w26 hw) (w27 hw) at_270 (by decide) pd_717522 rfl rfl (argsL := [.long c1, .long c0, .int 0, .int 2, .long s0, .long s1, .long s2]) (rest := [.int 0]) rfl (W := 1) rfl (q := 273) rfl (by decide) (by decide) (by decide) (by decide) (mt_fExp l Z a0 hw _ n0 z355 c1 c0 (0 : Int32) (2 : Int32) s0 s1 s2 ) (oPureK ?_)
        refine oIcmp_ne C at_273 (q := 322) (by decide) (by decide) (r := 276) rfl (fun hq => absurd hq (not_not_intro (oe2011 c1 c0 s0 s1 s2 rc1 r01 r12 q0c0 q1c0 q1c1).symm)) (fun hc273 => ?_)
        refine oIload C at_276 rfl rfl ?_
        refine oLload C at_278 rfl rfl ?_
        refine oLload C at_280 rfl rfl ?_
        refine oIconst C at_282 (z := 0) rfl rfl ?_
        refine oIload C at_283 rfl rfl ?_
        refine oLload C at_285 rfl rfl ?_
        refine oLload C at_287 rfl rfl ?_
        refine oLload C at_289 rfl rfl ?_
        refine oCallS C (w24 hw) (w25 hw) (w26 hw) (w27 hw) at_291 (by decide) pd_717522 rfl rfl (argsL := [.long c2, .long c1, .int 0, .int 2, .long s0, .long s1, .long s2]) (rest := [.int 0]) rfl (W := 1) rfl (q := 294) rfl (by decide) (by decide) (by decide) (by decide) (mt_fExp l Z a0 hw _ n0 z355 c2 c1 (0 : Int32) (2 : Int32) s0 s1 s2 ) (oPureK ?_)
        refine oIcmp_ne C at_294 (q := 322) (by decide) (by decide) (r := 297) rfl (fun hq => absurd hq (not_not_intro (oe2011 c2 c1 s0 s1 s2 rc2 r01 r12 (own_mono q0c0 rc1) q1c1 q1c2).symm)) (fun hc294 => ?_)
        refine oIload C at_297 rfl rfl ?_
        refine oLload C at_299 rfl rfl ?_
        refine oLload C at_301 rfl rfl ?_
        refine oIconst C at_303 (z := 0) rfl rfl ?_
        refine oIload C at_304 rfl rfl ?_
        refine oLload C at_306 rfl rfl ?_
        refine oLload C at_308 rfl rfl ?_
        refine oLload C at_310 rfl rfl ?_
        refine oCallS C (w24 hw) (w25 hw) (w26 hw) (w27 hw) at_312 (by decide) pd_717522 rfl rfl (argsL := [.long c3, .long c2, .int 0, .int 2, .long s0, .long s1, .long s2]) (rest := [.int 1]) rfl (W := 1) rfl (q := 315) rfl (by decide) (by decide) (by decide) (by decide) (mt_fExp l Z a0 hw _ n0 z355 c3 c2 (0 : Int32) (2 : Int32) s0 s1 s2 ) (oPureK ?_)
        refine oIcmp_ne C at_315 (q := 322) (by decide) (by decide) (r := 318) rfl (fun hq => absurd hq (not_not_intro (oe2012 c3 c2 s0 s1 s2 rc3 r01 r12 (own_mono (own_mono q0c0 rc1) rc2) q1c2 q1c3).symm)) (fun hc315 => ?_)
        refine oIconst C at_318 (z := 1) rfl rfl ?_
        refine oGoto C at_319 (q := 323) (by decide) (by decide) ?_
        refine oRetZ C at_323 (z' := (1 : Int32)) rfl (by decide) (by decide) ?_
        exact rfl
      ·
       have f360 := (K329.fld f325_0 nin0 oN0)
       have f361 := (K329.fld f327 nin0 oN0)
       have f362 := (K329.arr f328 nin0 oA0)
       have f363 := (K329.exa f330)
       have z365 := (Nat.le_trans z331 K329.1)
       refine oCallV C (w17 hw) (w18 hw) (w20 hw) (w19 hw) (w8 hw) (w21 hw) at_220 f363 (by decide) pd_692006 rfl rfl (a := a154) (argsL := [.long c2]) (rest := []) rfl (W := 0) rfl (q := 223) rfl (by decide) (by decide) (by decide) (by decide) (ac4_9 l Z a0 hw _ n0 z365 a154 c2 a151 s0 s1 f360 f361 f362 q1c2 f363 ge_a154 ne322) (oRQ ?_)
       rintro h364 ⟨K364, f364_0⟩
       refine oIstore C at_223 (Ls' := #[.val (.long x0), .second, .val (.int n9), .val (.int sg), .val (.int cg), .val (.long tt), .second, .val (.int 2), .val (.long s0), .second, .val (.long s1), .second, .val (.long s2), .second, .val (.long c0), .second, .val (.long c1), .second, .val (.long c2), .second, .val (.long c3), .second, .val (.ref a151), .val (.ref a154), .val (.int 1), .val (.int 0), .val (.int 1), .unset]) rfl (q := 225) rfl ?_
       refine oAload C at_225 rfl rfl rfl ?_
       refine oLload C at_227 rfl rfl ?_
       have f366 := (K364.fld f361 nin0 (oNF (Or.inr (oSn0 hw 0 1)) oN0))
       have f367 := (K364.arr f362 nin0 (oAS ne322 oA0))
       have f369 := (K364.exa f363)
       have z370 := (Nat.le_trans z365 K364.1)
       refine oCallV C (w17 hw) (w18 hw) (w20 hw) (w19 hw) (w8 hw) (w21 hw) at_229 f369 (by decide) pd_692006 rfl rfl (a := a154) (argsL := [.long c3]) (rest := []) rfl (W := 0) rfl (q := 232) rfl (by decide) (by decide) (by decide) (by decide) (ac4_10 l Z a0 hw _ n0 z370 a154 c3 a151 s0 s1 f364_0 f366 f367) (oRQ ?_)
       rintro h368 K368
       refine oIstore C at_232 (Ls' := #[.val (.long x0), .second, .val (.int n9), .val (.int sg), .val (.int cg), .val (.long tt), .second, .val (.int 2), .val (.long s0), .second, .val (.long s1), .second, .val (.long s2), .second, .val (.long c0), .second, .val (.long c1), .second, .val (.long c2), .second, .val (.long c3), .second, .val (.ref a151), .val (.ref a154), .val (.int 1), .val (.int 0), .val (.int 1), .val (.int 0)]) rfl (q := 234) rfl ?_
       refine oIload C at_234 rfl rfl ?_
       refine oLload C at_236 rfl rfl ?_
       refine oLload C at_238 rfl rfl ?_
       refine oIconst C at_240 (z := 1) rfl rfl ?_
       refine oIload C at_241 rfl rfl ?_
       refine oLload C at_243 rfl rfl ?_
       refine oLload C at_245 rfl rfl ?_
       refine oLload C at_247 rfl rfl ?_
       have z371 := (Nat.le_trans z370 K368.1)
       refine oCallS C (w24 hw) (w25 hw) (w26 hw) (w27 hw) at_249 (by decide) pd_717522 rfl rfl (argsL := [.long c0, .long c0, .int 1, .int 2, .long s0, .long s1, .long s2]) (rest := [.int 1]) rfl (W := 1) rfl (q := 252) rfl (by decide) (by decide) (by decide) (by decide) (mt_fExp l Z a0 hw _ n0 z371 c0 c0 (1 : Int32) (2 : Int32) s0 s1 s2 ) (oPureK ?_)
       refine oIcmp_ne C at_252 (q := 322) (by decide) (by decide) (r := 255) rfl (fun hq => absurd hq (not_not_intro (oe2101 c0 c0 s0 s1 s2 rfl r01 r12 q0c0 q1c0).symm)) (fun hc252 => ?_)
       refine oIload C at_255 rfl rfl ?_
       refine oLload C at_257 rfl rfl ?_
       refine oLload C at_259 rfl rfl ?_
       refine oIconst C at_261 (z := 0) rfl rfl ?_
       refine oIload C at_262 rfl rfl ?_
       refine oLload C at_264 rfl rfl ?_
       refine oLload C at_266 rfl rfl ?_
       refine oLload C at_268 rfl rfl ?_
       refine oCallS C (w24 hw) (w25 hw) (w26 hw) (w27 hw) at_270 (by decide) pd_717522 rfl rfl (argsL := [.long c1, .long c0, .int 0, .int 2, .long s0, .long s1, .long s2]) (rest := [.int 0]) rfl (W := 1) rfl (q := 273) rfl (by decide) (by decide) (by decide) (by decide) (mt_fExp l Z a0 hw _ n0 z371 c1 c0 (0 : Int32) (2 : Int32) s0 s1 s2 ) (oPureK ?_)
       refine oIcmp_ne C at_273 (q := 322) (by decide) (by decide) (r := 276) rfl (fun hq => absurd hq (not_not_intro (oe2011 c1 c0 s0 s1 s2 rc1 r01 r12 q0c0 q1c0 q1c1).symm)) (fun hc273 => ?_)
       refine oIload C at_276 rfl rfl ?_
       refine oLload C at_278 rfl rfl ?_
       refine oLload C at_280 rfl rfl ?_
       refine oIconst C at_282 (z := 0) rfl rfl ?_
       refine oIload C at_283 rfl rfl ?_
       refine oLload C at_285 rfl rfl ?_
       refine oLload C at_287 rfl rfl ?_
       refine oLload C at_289 rfl rfl ?_
       refine oCallS C (w24 hw) (w25 hw) (w26 hw) (w27 hw) at_291 (by decide) pd_717522 rfl rfl (argsL := [.long c2, .long c1, .int 0, .int 2, .long s0, .long s1, .long s2]) (rest := [.int 1]) rfl (W := 1) rfl (q := 294) rfl (by decide) (by decide) (by decide) (by decide) (mt_fExp l Z a0 hw _ n0 z371 c2 c1 (0 : Int32) (2 : Int32) s0 s1 s2 ) (oPureK ?_)
       refine oIcmp_ne C at_294 (q := 322) (by decide) (by decide) (r := 297) rfl (fun hq => absurd hq (not_not_intro (oe2012 c2 c1 s0 s1 s2 rc2 r01 r12 (own_mono q0c0 rc1) q1c1 q1c2).symm)) (fun hc294 => ?_)
       refine oIload C at_297 rfl rfl ?_
       refine oLload C at_299 rfl rfl ?_
       refine oLload C at_301 rfl rfl ?_
       refine oIconst C at_303 (z := 0) rfl rfl ?_
       refine oIload C at_304 rfl rfl ?_
       refine oLload C at_306 rfl rfl ?_
       refine oLload C at_308 rfl rfl ?_
       refine oLload C at_310 rfl rfl ?_
       refine oCallS C (w24 hw) (w25 hw) (w26 hw) (w27 hw) at_312 (by decide) pd_717522 rfl rfl (argsL := [.long c3, .long c2, .int 0, .int 2, .long s0, .long s1, .long s2]) (rest := [.int 0]) rfl (W := 1) rfl (q := 315) rfl (by decide) (by decide) (by decide) (by decide) (mt_fExp l Z a0 hw _ n0 z371 c3 c2 (0 : Int32) (2 : Int32) s0 s1 s2 ) (oPureK ?_)
       refine oIcmp_ne C at_315 (q := 322) (by decide) (by decide) (r := 318) rfl (fun hq => absurd hq (not_not_intro (oe2022 c3 c2 s0 s1 s2 rc3 r01 r12 (own_mono (own_mono q0c0 rc1) rc2) q1c2).symm)) (fun hc315 => ?_)
       refine oIconst C at_318 (z := 1) rfl rfl ?_
       refine oGoto C at_319 (q := 323) (by decide) (by decide) ?_
       refine oRetZ C at_323 (z' := (1 : Int32)) rfl (by decide) (by decide) ?_
       exact rfl
     ·
      have f376 := (K325.fld f156_0 nin0 (oNF (Or.inr (oSn0 hw 0 1)) oN0))
      have f377 := (K325.arr f323 nin0 (oAS ne322 oA0))
      have f378 := (K325.exa f324)
      have z380 := (Nat.le_trans z326 K325.1)
      refine oCallV C (w17 hw) (w18 hw) (w20 hw) (w19 hw) (w8 hw) (w21 hw) at_211 f378 (by decide) pd_692006 rfl rfl (a := a154) (argsL := [.long c1]) (rest := []) rfl (W := 0) rfl (q := 214) rfl (by decide) (by decide) (by decide) (by decide) (ac4_9 l Z a0 hw _ n0 z380 a154 c1 a151 s0 s1 f325_0 f376 f377 q1c1 f378 ge_a154 ne322) (oRQ ?_)
      rintro h379 ⟨K379, f379_0⟩
      refine oIstore C at_214 (Ls' := #[.val (.long x0), .second, .val (.int n9), .val (.int sg), .val (.int cg), .val (.long tt), .second, .val (.int 2), .val (.long s0), .second, .val (.long s1), .second, .val (.long s2), .second, .val (.long c0), .second, .val (.long c1), .second, .val (.long c2), .second, .val (.long c3), .second, .val (.ref a151), .val (.ref a154), .val (.int 1), .val (.int 1), .unset, .unset]) rfl (q := 216) rfl ?_
      refine oAload C at_216 rfl rfl rfl ?_
      refine oLload C at_218 rfl rfl ?_
      have f381 := (K379.fld f376 nin0 (oNF (Or.inr (oSn0 hw 0 1)) oN0))
      have f382 := (K379.arr f377 nin0 (oAS ne322 oA0))
      have f384 := (K379.exa f378)
      have z385 := (Nat.le_trans z380 K379.1)
      refine oCallV C (w17 hw) (w18 hw) (w20 hw) (w19 hw) (w8 hw) (w21 hw) at_220 f384 (by decide) pd_692006 rfl rfl (a := a154) (argsL := [.long c2]) (rest := []) rfl (W := 0) rfl (q := 223) rfl (by decide) (by decide) (by decide) (by decide) (ac4_10 l Z a0 hw _ n0 z385 a154 c2 a151 s0 s1 f379_0 f381 f382) (oRQ ?_)
      rintro h383 K383
      refine oIstore C at_223 (Ls' := #[.val (.long x0), .second, .val (.int n9), .val (.int sg), .val (.int cg), .val (.long tt), .second, .val (.int 2), .val (.long s0), .second, .val (.long s1), .second, .val (.long s2), .second, .val (.long c0), .second, .val (.long c1), .second, .val (.long c2), .second, .val (.long c3), .second, .val (.ref a151), .val (.ref a154), .val (.int 1), .val (.int 1), .val (.int 0), .unset]) rfl (q := 225) rfl ?_
      refine oAload C at_225 rfl rfl rfl ?_
      refine oLload C at_227 rfl rfl ?_
      have f386 := (K383.fld f379_0 nin0 oN0)
      have f387 := (K383.fld f381 nin0 oN0)
      have f388 := (K383.arr f382 nin0 oA0)
      have f390 := (K383.exa f384)
      have z391 := (Nat.le_trans z385 K383.1)
      refine oCallV C (w17 hw) (w18 hw) (w20 hw) (w19 hw) (w8 hw) (w21 hw) at_229 f390 (by decide) pd_692006 rfl rfl (a := a154) (argsL := [.long c3]) (rest := []) rfl (W := 0) rfl (q := 232) rfl (by decide) (by decide) (by decide) (by decide) (ac4_10 l Z a0 hw _ n0 z391 a154 c3 a151 s0 s1 f386 f387 f388) (oRQ ?_)
      rintro h389 K389
      refine oIstore C at_232 (Ls' := #[.val (.long x0), .second, .val (.int n9), .val (.int sg), .val (.int cg), .val (.long tt), .second, .val (.int 2), .val (.long s0), .second, .val (.long s1), .second, .val (.long s2), .second, .val (.long c0), .second, .val (.long c1), .second, .val (.long c2), .second, .val (.long c3), .second, .val (.ref a151), .val (.ref a154), .val (.int 1), .val (.int 1), .val (.int 0), .val (.int 0)]) rfl (q := 234) rfl ?_
      refine oIload C at_234 rfl rfl ?_
      refine oLload C at_236 rfl rfl ?_
      refine oLload C at_238 rfl rfl ?_
      refine oIconst C at_240 (z := 1) rfl rfl ?_
      refine oIload C at_241 rfl rfl ?_
      refine oLload C at_243 rfl rfl ?_
      refine oLload C at_245 rfl rfl ?_
      refine oLload C at_247 rfl rfl ?_
      have z392 := (Nat.le_trans z391 K389.1)
      refine oCallS C (w24 hw) (w25 hw) (w26 hw) (w27 hw) at_249 (by decide) pd_717522 rfl rfl (argsL := [.long c0, .long c0, .int 1, .int 2, .long s0, .long s1, .long s2]) (rest := [.int 1]) rfl (W := 1) rfl (q := 252) rfl (by decide) (by decide) (by decide) (by decide) (mt_fExp l Z a0 hw _ n0 z392 c0 c0 (1 : Int32) (2 : Int32) s0 s1 s2 ) (oPureK ?_)
      refine oIcmp_ne C at_252 (q := 322) (by decide) (by decide) (r := 255) rfl (fun hq => absurd hq (not_not_intro (oe2101 c0 c0 s0 s1 s2 rfl r01 r12 q0c0 q1c0).symm)) (fun hc252 => ?_)
      refine oIload C at_255 rfl rfl ?_
      refine oLload C at_257 rfl rfl ?_
      refine oLload C at_259 rfl rfl ?_
      refine oIconst C at_261 (z := 0) rfl rfl ?_
      refine oIload C at_262 rfl rfl ?_
      refine oLload C at_264 rfl rfl ?_
      refine oLload C at_266 rfl rfl ?_
      refine oLload C at_268 rfl rfl ?_
      refine oCallS C (w24 hw) (w25 hw) (w26 hw) (w27 hw) at_270 (by decide) pd_717522 rfl rfl (argsL := [.long c1, .long c0, .int 0, .int 2, .long s0, .long s1, .long s2]) (rest := [.int 1]) rfl (W := 1) rfl (q := 273) rfl (by decide) (by decide) (by decide) (by decide) (mt_fExp l Z a0 hw _ n0 z392 c1 c0 (0 : Int32) (2 : Int32) s0 s1 s2 ) (oPureK ?_)
      refine oIcmp_ne C at_273 (q := 322) (by decide) (by decide) (r := 276) rfl (fun hq => absurd hq (not_not_intro (oe2012 c1 c0 s0 s1 s2 rc1 r01 r12 q0c0 q1c0 q1c1).symm)) (fun hc273 => ?_)
      refine oIload C at_276 rfl rfl ?_
      refine oLload C at_278 rfl rfl ?_
      refine oLload C at_280 rfl rfl ?_
      refine oIconst C at_282 (z := 0) rfl rfl ?_
      refine oIload C at_283 rfl rfl ?_
      refine oLload C at_285 rfl rfl ?_
      refine oLload C at_287 rfl rfl ?_
      refine oLload C at_289 rfl rfl ?_
      refine oCallS C (w24 hw) (w25 hw) (w26 hw) (w27 hw) at_291 (by decide) pd_717522 rfl rfl (argsL := [.long c2, .long c1, .int 0, .int 2, .long s0, .long s1, .long s2]) (rest := [.int 0]) rfl (W := 1) rfl (q := 294) rfl (by decide) (by decide) (by decide) (by decide) (mt_fExp l Z a0 hw _ n0 z392 c2 c1 (0 : Int32) (2 : Int32) s0 s1 s2 ) (oPureK ?_)
      refine oIcmp_ne C at_294 (q := 322) (by decide) (by decide) (r := 297) rfl (fun hq => absurd hq (not_not_intro (oe2022 c2 c1 s0 s1 s2 rc2 r01 r12 (own_mono q0c0 rc1) q1c1).symm)) (fun hc294 => ?_)
      refine oIload C at_297 rfl rfl ?_
      refine oLload C at_299 rfl rfl ?_
      refine oLload C at_301 rfl rfl ?_
      refine oIconst C at_303 (z := 0) rfl rfl ?_
      refine oIload C at_304 rfl rfl ?_
      refine oLload C at_306 rfl rfl ?_
      refine oLload C at_308 rfl rfl ?_
      refine oLload C at_310 rfl rfl ?_
      refine oCallS C (w24 hw) (w25 hw) (w26 hw) (w27 hw) at_312 (by decide) pd_717522 rfl rfl (argsL := [.long c3, .long c2, .int 0, .int 2, .long s0, .long s1, .long s2]) (rest := [.int 0]) rfl (W := 1) rfl (q := 315) rfl (by decide) (by decide) (by decide) (by decide) (mt_fExp l Z a0 hw _ n0 z392 c3 c2 (0 : Int32) (2 : Int32) s0 s1 s2 ) (oPureK ?_)
      refine oIcmp_ne C at_315 (q := 322) (by decide) (by decide) (r := 318) rfl (fun hq => absurd hq (not_not_intro (oe2022 c3 c2 s0 s1 s2 rc3 r01 r12 (own_mono (own_mono q0c0 rc1) rc2) (own_mono q1c1 rc2)).symm)) (fun hc315 => ?_)
      refine oIconst C at_318 (z := 1) rfl rfl ?_
      refine oGoto C at_319 (q := 323) (by decide) (by decide) ?_
      refine oRetZ C at_323 (z' := (1 : Int32)) rfl (by decide) (by decide) ?_
      exact rfl
    ·
     have f397 := (K156.fld f154_next nin0 (oNF (Or.inr (oSn0 hw 1 0)) oN0))
     have ne398 : a151 ≠ a154 := oNe' A153l.lt (Nat.le_of_eq g_a154.symm)
     have f399 := (K156.arr (A153l.ext E154) nin0 (oAS ne398 oA0))
     have f400 := (K156.exa X154)
     have z402 := (Nat.le_trans z157 K156.1)
     refine oCallV C (w17 hw) (w18 hw) (w20 hw) (w19 hw) (w8 hw) (w21 hw) at_202 f400 (by decide) pd_692006 rfl rfl (a := a154) (argsL := [.long c0]) (rest := []) rfl (W := 0) rfl (q := 205) rfl (by decide) (by decide) (by decide) (by decide) (ac4_7 l Z a0 hw _ n0 z402 a154 c0 a151 s0 s1 f397 f156_0 f399 q0c0 f400 ge_a154 ne398 q1c0) (oRQ ?_)
     rintro h401 ⟨K401, f401_0⟩
     refine oIstore C at_205 (Ls' := #[.val (.long x0), .second, .val (.int n9), .val (.int sg), .val (.int cg), .val (.long tt), .second, .val (.int 2), .val (.long s0), .second, .val (.long s1), .second, .val (.long s2), .second, .val (.long c0), .second, .val (.long c1), .second, .val (.long c2), .second, .val (.long c3), .second, .val (.ref a151), .val (.ref a154), .val (.int 1), .unset, .unset, .unset]) rfl (q := 207) rfl ?_
     refine oAload C at_207 rfl rfl rfl ?_
     refine oLload C at_209 rfl rfl ?_
     have f403 := (K401.fld f156_0 nin0 (oNF (Or.inr (oSn0 hw 0 1)) oN0))
     have f404 := (K401.arr f399 nin0 (oAS ne398 oA0))
     have f406 := (K401.exa f400)
     have z407 := (Nat.le_trans z402 K401.1)
     refine oCallV C (w17 hw) (w18 hw) (w20 hw) (w19 hw) (w8 hw) (w21 hw) at_211 f406 (by decide) pd_692006 rfl rfl (a := a154) (argsL := [.long c1]) (rest := []) rfl (W := 0) rfl (q := 214) rfl (by decide) (by decide) (by decide) (by decide) (ac4_10 l Z a0 hw _ n0 z407 a154 c1 a151 s0 s1 f401_0 f403 f404) (oRQ ?_)
     rintro h405 K405
     refine oIstore C at_214 (Ls' := #[.val (.long x0), .second, .val (.int n9), .val (.int sg), .val (.int cg), .val (.long tt), .second, .val (.int 2), .val (.long s0), .second, .val (.long s1), .second, .val (.long s2), .second, .val (.long c0), .second, .val (.long c1), .second, .val (.long c2), .second, .val (.long c3), .second, .val (.ref a151), .val (.ref a154), .val (.int 1), .val (.int 0), .unset, .unset]) rfl (q := 216) rfl ?_
     refine oAload C at_216 rfl rfl rfl ?_
     refine oLload C at_218 rfl rfl ?_
     have f408 := (K405.fld f401_0 nin0 oN0)
     have f409 := (K405.fld f403 nin0 oN0)
     have f410 := (K405.arr f404 nin0 oA0)
     have f412 := (K405.exa f406)
     have z413 := (Nat.le_trans z407 K405.1)
     refine oCallV C (w17 hw) (w18 hw) (w20 hw) (w19 hw) (w8 hw) (w21 hw) at_220 f412 (by decide) pd_692006 rfl rfl (a := a154) (argsL := [.long c2]) (rest := []) rfl (W := 0) rfl (q := 223) rfl (by decide) (by decide) (by decide) (by decide) (ac4_10 l Z a0 hw _ n0 z413 a154 c2 a151 s0 s1 f408 f409 f410) (oRQ ?_)
     rintro h411 K411
     refine oIstore C at_223 (Ls' := #[.val (.long x0), .second, .val (.int n9), .val (.int sg), .val (.int cg), .val (.long tt), .second, .val (.int 2), .val (.long s0), .second, .val (.long s1), .second, .val (.long s2), .second, .val (.long c0), .second, .val (.long c1), .second, .val (.long c2), .second, .val (.long c3), .second, .val (.ref a151), .val (.ref a154), .val (.int 1), .val (.int 0), .val (.int 0), .unset]) rfl (q := 225) rfl ?_
     refine oAload C at_225 rfl rfl rfl ?_
     refine oLload C at_227 rfl rfl ?_
     have f414 := (K411.fld f408 nin0 oN0)
     have f415 := (K411.fld f409 nin0 oN0)
     have f416 := (K411.arr f410 nin0 oA0)
     have f418 := (K411.exa f412)
     have z419 := (Nat.le_trans z413 K411.1)
     refine oCallV C (w17 hw) (w18 hw) (w20 hw) (w19 hw) (w8 hw) (w21 hw) at_229 f418 (by decide) pd_692006 rfl rfl (a := a154) (argsL := [.long c3]) (rest := []) rfl (W := 0) rfl (q := 232) rfl (by decide) (by decide) (by decide) (by decide) (ac4_10 l Z a0 hw _ n0 z419 a154 c3 a151 s0 s1 f414 f415 f416) (oRQ ?_)
     rintro h417 K417
     refine oIstore C at_232 (Ls' := #[.val (.long x0), .second, .val (.int n9), .val (.int sg), .val (.int cg), .val (.long tt), .second, .val (.int 2), .val (.long s0), .second, .val (.long s1), .second, .val (.long s2), .second, .val (.long c0), .second, .val (.long c1), .second, .val (.long c2), .second, .val (.long c3), .second, .val (.ref a151), .val (.ref a154), .val (.int 1), .val (.int 0), .val (.int 0), .val (.int 0)]) rfl (q := 234) rfl ?_
     refine oIload C at_234 rfl rfl ?_
     refine oLload C at_236 rfl rfl ?_
     refine oLload C at_238 rfl rfl ?_
     refine oIconst C at_240 (z := 1) rfl rfl ?_
     refine oIload C at_241 rfl rfl ?_
     refine oLload C at_243 rfl rfl ?_
     refine oLload C at_245 rfl rfl ?_
     refine oLload C at_247 rfl rfl ?_
     have z420 := (Nat.le_trans z419 K417.1)
     refine oCallS C (w24 hw) (w25 hw) (w26 hw) (w27 hw) at_249 (by decide) pd_717522 rfl rfl (argsL := [.long c0, .long c0, .int 1, .int 2, .long s0, .long s1, .long s2]) (rest := [.int 1]) rfl (W := 1) rfl (q := 252) rfl (by decide) (by decide) (by decide) (by decide) (mt_fExp l Z a0 hw _ n0 z420 c0 c0 (1 : Int32) (2 : Int32) s0 s1 s2 ) (oPureK ?_)
     refine oIcmp_ne C at_252 (q := 322) (by decide) (by decide) (r := 255) rfl (fun hq => absurd hq (not_not_intro (oe2102 c0 c0 s0 s1 s2 rfl r01 r12 q0c0 q1c0).symm)) (fun hc252 => ?_)
     refine oIload C at_255 rfl rfl ?_
     refine oLload C at_257 rfl rfl ?_
     refine oLload C at_259 rfl rfl ?_
     refine oIconst C at_261 (z := 0) rfl rfl ?_
     refine oIload C at_262 rfl rfl ?_
     refine oLload C at_264 rfl rfl ?_
     refine oLload C at_266 rfl rfl ?_
     refine oLload C at_268 rfl rfl ?_
     refine oCallS C (w24 hw) (w25 hw) (w26 hw) (w27 hw) at_270 (by decide) pd_717522 rfl rfl (argsL := [.long c1, .long c0, .int 0, .int 2, .long s0, .long s1, .long s2]) (rest := [.int 0]) rfl (W := 1) rfl (q := 273) rfl (by decide) (by decide) (by decide) (by decide) (mt_fExp l Z a0 hw _ n0 z420 c1 c0 (0 : Int32) (2 : Int32) s0 s1 s2 ) (oPureK ?_)
     refine oIcmp_ne C at_273 (q := 322) (by decide) (by decide) (r := 276) rfl (fun hq => absurd hq (not_not_intro (oe2022 c1 c0 s0 s1 s2 rc1 r01 r12 q0c0 q1c0).symm)) (fun hc273 => ?_)
     refine oIload C at_276 rfl rfl ?_
     refine oLload C at_278 rfl rfl ?_
     refine oLload C at_280 rfl rfl ?_
     refine oIconst C at_282 (z := 0) rfl rfl ?_
     refine oIload C at_283 rfl rfl ?_
     refine oLload C at_285 rfl rfl ?_
     refine oLload C at_287 rfl rfl ?_
     refine oLload C at_289 rfl rfl ?_
     refine oCallS C (w24 hw) (w25 hw) (w26 hw) (w27 hw) at_291 (by decide) pd_717522 rfl rfl (argsL := [.long c2, .long c1, .int 0, .int 2, .long s0, .long s1, .long s2]) (rest := [.int 0]) rfl (W := 1) rfl (q := 294) rfl (by decide) (by decide) (by decide) (by decide) (mt_fExp l Z a0 hw _ n0 z420 c2 c1 (0 : Int32) (2 : Int32) s0 s1 s2 ) (oPureK ?_)
     refine oIcmp_ne C at_294 (q := 322) (by decide) (by decide) (r := 297) rfl (fun hq => absurd hq (not_not_intro (oe2022 c2 c1 s0 s1 s2 rc2 r01 r12 (own_mono q0c0 rc1) (own_mono q1c0 rc1)).symm)) (fun hc294 => ?_)
     refine oIload C at_297 rfl rfl ?_
     refine oLload C at_299 rfl rfl ?_
     refine oLload C at_301 rfl rfl ?_
     refine oIconst C at_303 (z := 0) rfl rfl ?_
     refine oIload C at_304 rfl rfl ?_
     refine oLload C at_306 rfl rfl ?_
     refine oLload C at_308 rfl rfl ?_
     refine oLload C at_310 rfl rfl ?_
     refine oCallS C (w24 hw) (w25 hw) (w26 hw) (w27 hw) at_312 (by decide) pd_717522 rfl rfl (argsL := [.long c3, .long c2, .int 0, .int 2, .long s0, .long s1, .long s2]) (rest := [.int 0]) rfl (W := 1) rfl (q := 315) rfl (by decide) (by decide) (by decide) (by decide) (mt_fExp l Z a0 hw _ n0 z420 c3 c2 (0 : Int32) (2 : Int32) s0 s1 s2 ) (oPureK ?_)
     refine oIcmp_ne C at_315 (q := 322) (by decide) (by decide) (r := 318) rfl (fun hq => absurd hq (not_not_intro (oe2022 c3 c2 s0 s1 s2 rc3 r01 r12 (own_mono (own_mono q0c0 rc1) rc2) (own_mono (own_mono q1c0 rc1) rc2)).symm)) (fun hc315 => ?_)
     refine oIconst C at_318 (z := 1) rfl rfl ?_
     refine oGoto C at_319 (q := 323) (by decide) (by decide) ?_
     refine oRetZ C at_323 (z' := (1 : Int32)) rfl (by decide) (by decide) ?_
     exact rfl
  ·
   refine oCastI (z' := (3 : Int32)) hv ?_
   refine oIstore C at_12 (Ls' := #[.val (.long x0), .second, .val (.int n9), .val (.int sg), .val (.int cg), .val (.long tt), .second, .val (.int 3), .unset, .unset, .unset, .unset, .unset, .unset, .unset, .unset, .unset, .unset, .unset, .unset, .unset, .unset, .unset, .unset, .unset, .unset, .unset, .unset]) rfl (q := 14) rfl ?_
   refine oLload C at_14 rfl rfl ?_
   refine oIloadN C at_16 rfl rfl ?_
   refine oBipush C at_17 (z := 15) rfl rfl ?_
   refine oIand C at_19 rfl ?_
   refine oI2L C at_20 rfl ?_
   refine oLsub C at_21 rfl ?_
   obtain ⟨s0, e_s0⟩ : ∃ z, z = (tt - ((sg &&& (15 : Int32)).toInt64)) := ⟨_, rfl⟩
   refine oCastL e_s0.symm ?_
   have r_s0 : s0.toInt ≤ tt.toInt ∧ tt.toInt - 15 ≤ s0.toInt := by rw [e_s0, own_sub (own_m sg 15 4 15 (by decide) (by decide) (by decide) (by decide)) (by omega)]; have z := own_m sg 15 4 15 (by decide) (by decide) (by decide) (by decide); omega
   refine oLstore C at_22 (Ls' := #[.val (.long x0), .second, .val (.int n9), .val (.int sg), .val (.int cg), .val (.long tt), .second, .val (.int 3), .val (.long s0), .second, .unset, .unset, .unset, .unset, .unset, .unset, .unset, .unset, .unset, .unset, .unset, .unset, .unset, .unset, .unset, .unset, .unset, .unset]) rfl (q := 24) rfl ?_
   refine oLload C at_24 rfl rfl ?_
   refine oLconst C at_26 (z := 1) rfl rfl ?_
   refine oLsub C at_27 rfl ?_
   refine oIloadN C at_28 rfl rfl ?_
   refine oIconst C at_29 (z := 4) rfl rfl ?_
   refine oIushr C at_30 rfl ?_
   refine oBipush C at_31 (z := 7) rfl rfl ?_
   refine oIand C at_33 rfl ?_
   refine oI2L C at_34 rfl ?_
   refine oLsub C at_35 rfl ?_
   obtain ⟨s1, e_s1⟩ : ∃ z, z = ((s0 - (1 : Int64)) - ((((sg.toUInt32 >>> ((4 : Int32) &&& 31).toUInt32).toInt32) &&& (7 : Int32)).toInt64)) := ⟨_, rfl⟩
   refine oCastL e_s1.symm ?_
   have r_s1 : s1.toInt < s0.toInt ∧ s0.toInt - 8 ≤ s1.toInt := by rw [e_s1, own_sub (own_m (sg.toUInt32 >>> ((4 : Int32) &&& 31).toUInt32).toInt32 7 3 7 (by decide) (by decide) (by decide) (by decide)) (by rw [own_sub1 (by omega)]; omega), own_sub1 (by omega)]; have z := own_m (sg.toUInt32 >>> ((4 : Int32) &&& 31).toUInt32).toInt32 7 3 7 (by decide) (by decide) (by decide) (by decide); omega
   refine oLstore C at_36 (Ls' := #[.val (.long x0), .second, .val (.int n9), .val (.int sg), .val (.int cg), .val (.long tt), .second, .val (.int 3), .val (.long s0), .second, .val (.long s1), .second, .unset, .unset, .unset, .unset, .unset, .unset, .unset, .unset, .unset, .unset, .unset, .unset, .unset, .unset, .unset, .unset]) rfl (q := 38) rfl ?_
   refine oLload C at_38 rfl rfl ?_
   refine oLconst C at_40 (z := 1) rfl rfl ?_
   refine oLsub C at_41 rfl ?_
   refine oIloadN C at_42 rfl rfl ?_
   refine oBipush C at_43 (z := 7) rfl rfl ?_
   refine oIushr C at_45 rfl ?_
   refine oBipush C at_46 (z := 7) rfl rfl ?_
   refine oIand C at_48 rfl ?_
   refine oI2L C at_49 rfl ?_
   refine oLsub C at_50 rfl ?_
   obtain ⟨s2, e_s2⟩ : ∃ z, z = ((s1 - (1 : Int64)) - ((((sg.toUInt32 >>> ((7 : Int32) &&& 31).toUInt32).toInt32) &&& (7 : Int32)).toInt64)) := ⟨_, rfl⟩
   refine oCastL e_s2.symm ?_
   have r_s2 : s2.toInt < s1.toInt ∧ s1.toInt - 8 ≤ s2.toInt := by rw [e_s2, own_sub (own_m (sg.toUInt32 >>> ((7 : Int32) &&& 31).toUInt32).toInt32 7 3 7 (by decide) (by decide) (by decide) (by decide)) (by rw [own_sub1 (by omega)]; omega), own_sub1 (by omega)]; have z := own_m (sg.toUInt32 >>> ((7 : Int32) &&& 31).toUInt32).toInt32 7 3 7 (by decide) (by decide) (by decide) (by decide); omega
   have r01 := r_s1.1
   have r12 := r_s2.1
   refine oLstore C at_51 (Ls' := #[.val (.long x0), .second, .val (.int n9), .val (.int sg), .val (.int cg), .val (.long tt), .second, .val (.int 3), .val (.long s0), .second, .val (.long s1), .second, .val (.long s2), .second, .unset, .unset, .unset, .unset, .unset, .unset, .unset, .unset, .unset, .unset, .unset, .unset, .unset, .unset]) rfl (q := 53) rfl ?_
   refine oLload C at_53 rfl rfl ?_
   refine oIload C at_55 rfl rfl ?_
   refine oBipush C at_57 (z := 15) rfl rfl ?_
   refine oIand C at_59 rfl ?_
   refine oI2L C at_60 rfl ?_
   refine oLsub C at_61 rfl ?_
   obtain ⟨c0, e_c0⟩ : ∃ z, z = (tt - ((cg &&& (15 : Int32)).toInt64)) := ⟨_, rfl⟩
   refine oCastL e_c0.symm ?_
   have r_c0 : c0.toInt ≤ tt.toInt ∧ tt.toInt - 15 ≤ c0.toInt := by rw [e_c0, own_sub (own_m cg 15 4 15 (by decide) (by decide) (by decide) (by decide)) (by omega)]; have z := own_m cg 15 4 15 (by decide) (by decide) (by decide) (by decide); omega
   refine oLstore C at_62 (Ls' := #[.val (.long x0), .second, .val (.int n9), .val (.int sg), .val (.int cg), .val (.long tt), .second, .val (.int 3), .val (.long s0), .second, .val (.long s1), .second, .val (.long s2), .second, .val (.long c0), .second, .unset, .unset, .unset, .unset, .unset, .unset, .unset, .unset, .unset, .unset, .unset, .unset]) rfl (q := 64) rfl ?_
   refine oLload C at_64 rfl rfl ?_
   refine oLconst C at_66 (z := 1) rfl rfl ?_
   refine oLsub C at_67 rfl ?_
   refine oIload C at_68 rfl rfl ?_
   refine oIconst C at_70 (z := 4) rfl rfl ?_
   refine oIushr C at_71 rfl ?_
   refine oBipush C at_72 (z := 7) rfl rfl ?_
   refine oIand C at_74 rfl ?_
   refine oI2L C at_75 rfl ?_
   refine oLsub C at_76 rfl ?_
   obtain ⟨c1, e_c1⟩ : ∃ z, z = ((c0 - (1 : Int64)) - ((((cg.toUInt32 >>> ((4 : Int32) &&& 31).toUInt32).toInt32) &&& (7 : Int32)).toInt64)) := ⟨_, rfl⟩
   refine oCastL e_c1.symm ?_
   have r_c1 : c1.toInt < c0.toInt ∧ c0.toInt - 8 ≤ c1.toInt := by rw [e_c1, own_sub (own_m (cg.toUInt32 >>> ((4 : Int32) &&& 31).toUInt32).toInt32 7 3 7 (by decide) (by decide) (by decide) (by decide)) (by rw [own_sub1 (by omega)]; omega), own_sub1 (by omega)]; have z := own_m (cg.toUInt32 >>> ((4 : Int32) &&& 31).toUInt32).toInt32 7 3 7 (by decide) (by decide) (by decide) (by decide); omega
   have rc1 := r_c1.1
   refine oLstore C at_77 (Ls' := #[.val (.long x0), .second, .val (.int n9), .val (.int sg), .val (.int cg), .val (.long tt), .second, .val (.int 3), .val (.long s0), .second, .val (.long s1), .second, .val (.long s2), .second, .val (.long c0), .second, .val (.long c1), .second, .unset, .unset, .unset, .unset, .unset, .unset, .unset, .unset, .unset, .unset]) rfl (q := 79) rfl ?_
   refine oLload C at_79 rfl rfl ?_
   refine oLconst C at_81 (z := 1) rfl rfl ?_
   refine oLsub C at_82 rfl ?_
   refine oIload C at_83 rfl rfl ?_
   refine oBipush C at_85 (z := 7) rfl rfl ?_
   refine oIushr C at_87 rfl ?_
   refine oBipush C at_88 (z := 7) rfl rfl ?_
   refine oIand C at_90 rfl ?_
   refine oI2L C at_91 rfl ?_
   refine oLsub C at_92 rfl ?_
   obtain ⟨c2, e_c2⟩ : ∃ z, z = ((c1 - (1 : Int64)) - ((((cg.toUInt32 >>> ((7 : Int32) &&& 31).toUInt32).toInt32) &&& (7 : Int32)).toInt64)) := ⟨_, rfl⟩
   refine oCastL e_c2.symm ?_
   have r_c2 : c2.toInt < c1.toInt ∧ c1.toInt - 8 ≤ c2.toInt := by rw [e_c2, own_sub (own_m (cg.toUInt32 >>> ((7 : Int32) &&& 31).toUInt32).toInt32 7 3 7 (by decide) (by decide) (by decide) (by decide)) (by rw [own_sub1 (by omega)]; omega), own_sub1 (by omega)]; have z := own_m (cg.toUInt32 >>> ((7 : Int32) &&& 31).toUInt32).toInt32 7 3 7 (by decide) (by decide) (by decide) (by decide); omega
   have rc2 := r_c2.1
   refine oLstore C at_93 (Ls' := #[.val (.long x0), .second, .val (.int n9), .val (.int sg), .val (.int cg), .val (.long tt), .second, .val (.int 3), .val (.long s0), .second, .val (.long s1), .second, .val (.long s2), .second, .val (.long c0), .second, .val (.long c1), .second, .val (.long c2), .second, .unset, .unset, .unset, .unset, .unset, .unset, .unset, .unset]) rfl (q := 95) rfl ?_
   refine oLload C at_95 rfl rfl ?_
   refine oLconst C at_97 (z := 1) rfl rfl ?_
   refine oLsub C at_98 rfl ?_
   refine oIload C at_99 rfl rfl ?_
   refine oBipush C at_101 (z := 10) rfl rfl ?_
   refine oIushr C at_103 rfl ?_
   refine oBipush C at_104 (z := 7) rfl rfl ?_
   refine oIand C at_106 rfl ?_
   refine oI2L C at_107 rfl ?_
   refine oLsub C at_108 rfl ?_
   obtain ⟨c3, e_c3⟩ : ∃ z, z = ((c2 - (1 : Int64)) - ((((cg.toUInt32 >>> ((10 : Int32) &&& 31).toUInt32).toInt32) &&& (7 : Int32)).toInt64)) := ⟨_, rfl⟩
   refine oCastL e_c3.symm ?_
   have r_c3 : c3.toInt < c2.toInt ∧ c2.toInt - 8 ≤ c3.toInt := by rw [e_c3, own_sub (own_m (cg.toUInt32 >>> ((10 : Int32) &&& 31).toUInt32).toInt32 7 3 7 (by decide) (by decide) (by decide) (by decide)) (by rw [own_sub1 (by omega)]; omega), own_sub1 (by omega)]; have z := own_m (cg.toUInt32 >>> ((10 : Int32) &&& 31).toUInt32).toInt32 7 3 7 (by decide) (by decide) (by decide) (by decide); omega
   have rc3 := r_c3.1
   refine oLstore C at_109 (Ls' := #[.val (.long x0), .second, .val (.int n9), .val (.int sg), .val (.int cg), .val (.long tt), .second, .val (.int 3), .val (.long s0), .second, .val (.long s1), .second, .val (.long s2), .second, .val (.long c0), .second, .val (.long c1), .second, .val (.long c2), .second, .val (.long c3), .second, .unset, .unset, .unset, .unset, .unset, .unset]) rfl (q := 111) rfl ?_
   refine oIload C at_111 rfl rfl ?_
   refine oIf_ne C at_113 (q := 124) (by decide) (by decide) (r := 116) rfl (fun hc113 => ?_) (fun hq => absurd hq ((by decide)))
   refine oIload C at_124 rfl rfl ?_
   refine oIconst C at_126 (z := 1) rfl rfl ?_
   refine oIcmp_ne C at_127 (q := 143) (by decide) (by decide) (r := 130) rfl (fun hc127 => ?_) (fun hq => absurd hq ((by decide)))
   refine oIload C at_143 rfl rfl ?_
   refine oIconst C at_145 (z := 2) rfl rfl ?_
   refine oIcmp_ne C at_146 (q := 167) (by decide) (by decide) (r := 149) rfl (fun hc146 => ?_) (fun hq => absurd hq ((by decide)))
   refine oIconst C at_167 (z := 3) rfl rfl ?_
   refine oNewA C (w5 hw) rfl at_168 rfl (by decide) (k := 3) rfl (by decide) (by decide) (cap := 3) (Nat.le_refl _) (by decide) (by decide) fun a425 h425 g_a425 E425 A425 => ?_
   have ge_a425 : n0 ≤ a425 := g_a425 ▸ Z0
   have A425l : oAr Z h425 a425 .long [.long 0, .long 0, .long 0] := A425
   refine oDup C at_170 rfl rfl ?_
   refine oIconst C at_171 (z := 0) rfl rfl ?_
   refine oLload C at_172 rfl rfl ?_
   refine oLastore C A425l (by decide) (k := 0) rfl (v := .long 0) rfl (v' := .long s0) rfl at_174 rfl ge_a425 fun h426 W426 A426 => ?_
   have A426l : oAr Z h426 a425 .long [.long s0, .long 0, .long 0] := A426
   refine oDup C at_175 rfl rfl ?_
   refine oIconst C at_176 (z := 1) rfl rfl ?_
   refine oLload C at_177 rfl rfl ?_
   refine oLastore C A426l (by decide) (k := 1) rfl (v := .long 0) rfl (v' := .long s1) rfl at_179 rfl ge_a425 fun h427 W427 A427 => ?_
   have A427l : oAr Z h427 a425 .long [.long s0, .long s1, .long 0] := A427
   refine oDup C at_180 rfl rfl ?_
   refine oIconst C at_181 (z := 2) rfl rfl ?_
   refine oLload C at_182 rfl rfl ?_
   refine oLastore C A427l (by decide) (k := 2) rfl (v := .long 0) rfl (v' := .long s2) rfl at_184 rfl ge_a425 fun h428 W428 A428 => ?_
   have A428l : oAr Z h428 a425 .long [.long s0, .long s1, .long s2] := A428
   refine oAstore C at_185 rfl (Ls' := #[.val (.long x0), .second, .val (.int n9), .val (.int sg), .val (.int cg), .val (.long tt), .second, .val (.int 3), .val (.long s0), .second, .val (.long s1), .second, .val (.long s2), .second, .val (.long c0), .second, .val (.long c1), .second, .val (.long c2), .second, .val (.long c3), .second, .val (.ref a425), .unset, .unset, .unset, .unset, .unset]) rfl (q := 187) rfl ?_
   refine oNew C (w6 hw) (w7 hw) (w8 hw) at_187 rfl (by decide) (by decide) fun a429 h429 g_a429 E429 X429 D429 => ?_
   have z430 := (Nat.le_trans (Nat.le_trans (Nat.le_trans (Nat.le_trans Z0 E425.1) (Nat.le_of_eq W426.size.symm)) (Nat.le_of_eq W427.size.symm)) (Nat.le_of_eq W428.size.symm))
   have ge_a429 : n0 ≤ a429 := g_a429 ▸ z430
   have f429_open : Fld Z h429 a429 "com/example/tideline/tideline/Retention" "open" "[J" (.null) := D429 (Or.inr (w16 hw)) (ty := (.array .long)) (by decide)
   have f429_next : Fld Z h429 a429 "com/example/tideline/tideline/Retention" "next" "I" (.int 0) := D429 (Or.inl (w23 hw)) (ty := .int) (by decide)
   refine oDup C at_190 rfl rfl ?_
   refine oAload C at_191 rfl rfl rfl ?_
   have z432 := (Nat.le_trans z430 E429.1)
   refine oCallC C (w9 hw) (w10 hw) (w8 hw) (w11 hw) at_193 rfl (by decide) pd_429926 rfl rfl (a := a429) (argsL := [.ref a425]) (rest := [.ref a429]) rfl (W := 1) rfl (q := 196) rfl (by decide) (by decide) (by decide) (by decide) (ac2_0 l Z a0 hw _ n0 z432 a429 a425 X429 f429_open ge_a429) (oVQ ?_)
   rintro h431 ⟨K431, f431_0⟩
   refine oAstore C at_196 rfl (Ls' := #[.val (.long x0), .second, .val (.int n9), .val (.int sg), .val (.int cg), .val (.long tt), .second, .val (.int 3), .val (.long s0), .second, .val (.long s1), .second, .val (.long s2), .second, .val (.long c0), .second, .val (.long c1), .second, .val (.long c2), .second, .val (.long c3), .second, .val (.ref a425), .val (.ref a429), .unset, .unset, .unset, .unset]) rfl (q := 198) rfl ?_
   refine oAload C at_198 rfl rfl rfl ?_
   refine oLload C at_200 rfl rfl ?_
   by_cases q0c0 : s0 < c0
   ·
    have f433 := (K431.fld f429_next nin0 (oNF (Or.inr (oSn0 hw 1 0)) oN0))
    have ne434 : a425 ≠ a429 := oNe' A428l.lt (Nat.le_of_eq g_a429.symm)
    have f435 := (K431.arr (A428l.ext E429) nin0 (oAS ne434 oA0))
    have f437 := (K431.exa X429)
    have z438 := (Nat.le_trans z432 K431.1)
    refine oCallV C (w17 hw) (w18 hw) (w20 hw) (w19 hw) (w8 hw) (w21 hw) at_202 f437 (by decide) pd_692006 rfl rfl (a := a429) (argsL := [.long c0]) (rest := []) rfl (W := 0) rfl (q := 205) rfl (by decide) (by decide) (by decide) (by decide) (ac4_11 l Z a0 hw _ n0 z438 a429 c0 a425 s0 s1 s2 f433 f431_0 f435 q0c0) (oRQ ?_)
    rintro h436 K436
    refine oIstore C at_205 (Ls' := #[.val (.long x0), .second, .val (.int n9), .val (.int sg), .val (.int cg), .val (.long tt), .second, .val (.int 3), .val (.long s0), .second, .val (.long s1), .second, .val (.long s2), .second, .val (.long c0), .second, .val (.long c1), .second, .val (.long c2), .second, .val (.long c3), .second, .val (.ref a425), .val (.ref a429), .val (.int 1), .unset, .unset, .unset]) rfl (q := 207) rfl ?_
    refine oAload C at_207 rfl rfl rfl ?_
    refine oLload C at_209 rfl rfl ?_
    by_cases q0c1 : s0 < c1
    ·
     have f439 := (K436.fld f433 nin0 oN0)
     have f440 := (K436.fld f431_0 nin0 oN0)
     have f441 := (K436.arr f435 nin0 oA0)
     have f443 := (K436.exa f437)
     have z444 := (Nat.le_trans z438 K436.1)
     refine oCallV C (w17 hw) (w18 hw) (w20 hw) (w19 hw) (w8 hw) (w21 hw) at_211 f443 (by decide) pd_692006 rfl rfl (a := a429) (argsL := [.long c1]) (rest := []) rfl (W := 0) rfl (q := 214) rfl (by decide) (by decide) (by decide) (by decide) (ac4_11 l Z a0 hw _ n0 z444 a429 c1 a425 s0 s1 s2 f439 f440 f441 q0c1) (oRQ ?_)
     rintro h442 K442
     refine oIstore C at_214 (Ls' := #[.val (.long x0), .second, .val (.int n9), .val (.int sg), .val (.int cg), .val (.long tt), .second, .val (.int 3), .val (.long s0), .second, .val (.long s1), .second, .val (.long s2), .second, .val (.long c0), .second, .val (.long c1), .second, .val (.long c2), .second, .val (.long c3), .second, .val (.ref a425), .val (.ref a429), .val (.int 1), .val (.int 1), .unset, .unset]) rfl (q := 216) rfl ?_
     refine oAload C at_216 rfl rfl rfl ?_
     refine oLload C at_218 rfl rfl ?_
     by_cases q0c2 : s0 < c2
     ·
      have f445 := (K442.fld f439 nin0 oN0)
      have f446 := (K442.fld f440 nin0 oN0)
      have f447 := (K442.arr f441 nin0 oA0)
      have f449 := (K442.exa f443)
      have z450 := (Nat.le_trans z444 K442.1)
      refine oCallV C (w17 hw) (w18 hw) (w20 hw) (w19 hw) (w8 hw) (w21 hw) at_220 f449 (by decide) pd_692006 rfl rfl (a := a429) (argsL := [.long c2]) (rest := []) rfl (W := 0) rfl (q := 223) rfl (by decide) (by decide) (by decide) (by decide) (ac4_11 l Z a0 hw _ n0 z450 a429 c2 a425 s0 s1 s2 f445 f446 f447 q0c2) (oRQ ?_)
      rintro h448 K448
      refine oIstore C at_223 (Ls' := #[.val (.long x0), .second, .val (.int n9), .val (.int sg), .val (.int cg), .val (.long tt), .second, .val (.int 3), .val (.long s0), .second, .val (.long s1), .second, .val (.long s2), .second, .val (.long c0), .second, .val (.long c1), .second, .val (.long c2), .second, .val (.long c3), .second, .val (.ref a425), .val (.ref a429), .val (.int 1), .val (.int 1), .val (.int 1), .unset]) rfl (q := 225) rfl ?_
      refine oAload C at_225 rfl rfl rfl ?_
      refine oLload C at_227 rfl rfl ?_
      by_cases q0c3 : s0 < c3
      ·
       have f451 := (K448.fld f445 nin0 oN0)
       have f452 := (K448.fld f446 nin0 oN0)
       have f453 := (K448.arr f447 nin0 oA0)
       have f455 := (K448.exa f449)
       have z456 := (Nat.le_trans z450 K448.1)
       refine oCallV C (w17 hw) (w18 hw) (w20 hw) (w19 hw) (w8 hw) (w21 hw) at_229 f455 (by decide) pd_692006 rfl rfl (a := a429) (argsL := [.long c3]) (rest := []) rfl (W := 0) rfl (q := 232) rfl (by decide) (by decide) (by decide) (by decide) (ac4_11 l Z a0 hw _ n0 z456 a429 c3 a425 s0 s1 s2 f451 f452 f453 q0c3) (oRQ ?_)
       rintro h454 K454
       refine oIstore C at_232 (Ls' := #[.val (.long x0), .second, .val (.int n9), .val (.int sg), .val (.int cg), .val (.long tt), .second, .val (.int 3), .val (.long s0), .second, .val (.long s1), .second, .val (.long s2), .second, .val (.long c0), .second, .val (.long c1), .second, .val (.long c2), .second, .val (.long c3), .second, .val (.ref a425), .val (.ref a429), .val (.int 1), .val (.int 1), .val (.int 1), .val (.int 1)]) rfl (q := 234) rfl ?_
       refine oIload C at_234 rfl rfl ?_
       refine oLload C at_236 rfl rfl ?_
       refine oLload C at_238 rfl rfl ?_
       refine oIconst C at_240 (z := 1) rfl rfl ?_
       refine oIload C at_241 rfl rfl ?_
       refine oLload C at_243 rfl rfl ?_
       refine oLload C at_245 rfl rfl ?_
       refine oLload C at_247 rfl rfl ?_
       have z457 := (Nat.le_trans z456 K454.1)
       refine oCallS C (w24 hw) (w25 hw) (w26 hw) (w27 hw) at_249 (by decide) pd_717522 rfl rfl (argsL := [.long c0, .long c0, .int 1, .int 3, .long s0, .long s1, .long s2]) (rest := [.int 1]) rfl (W := 1) rfl (q := 252) rfl (by decide) (by decide) (by decide) (by decide) (mt_fExp l Z a0 hw _ n0 z457 c0 c0 (1 : Int32) (3 : Int32) s0 s1 s2 ) (oPureK ?_)
       refine oIcmp_ne C at_252 (q := 322) (by decide) (by decide) (r := 255) rfl (fun hq => absurd hq (not_not_intro (oe3100 c0 c0 s0 s1 s2 rfl r01 r12 q0c0).symm)) (fun hc252 => ?_)
       refine oIload C at_255 rfl rfl ?_
       refine oLload C at_257 rfl rfl ?_
       refine oLload C at_259 rfl rfl ?_
       refine oIconst C at_261 (z := 0) rfl rfl ?_
       refine oIload C at_262 rfl rfl ?_
       refine oLload C at_264 rfl rfl ?_
       refine oLload C at_266 rfl rfl ?_
       refine oLload C at_268 rfl rfl ?_
       refine oCallS C (w24 hw) (w25 hw) (w26 hw) (w27 hw) at_270 (by decide) pd_717522 rfl rfl (argsL := [.long c1, .long c0, .int 0, .int 3, .long s0, .long s1, .long s2]) (rest := [.int 1]) rfl (W := 1) rfl (q := 273) rfl (by decide) (by decide) (by decide) (by decide) (mt_fExp l Z a0 hw _ n0 z457 c1 c0 (0 : Int32) (3 : Int32) s0 s1 s2 ) (oPureK ?_)
       refine oIcmp_ne C at_273 (q := 322) (by decide) (by decide) (r := 276) rfl (fun hq => absurd hq (not_not_intro (oe3000 c1 c0 s0 s1 s2 rc1 r01 r12 q0c0 q0c1).symm)) (fun hc273 => ?_)
       refine oIload C at_276 rfl rfl ?_
       refine oLload C at_278 rfl rfl ?_
       refine oLload C at_280 rfl rfl ?_
       refine oIconst C at_282 (z := 0) rfl rfl ?_
       refine oIload C at_283 rfl rfl ?_
       refine oLload C at_285 rfl rfl ?_
       refine oLload C at_287 rfl rfl ?_
       refine oLload C at_289 rfl rfl ?_
       refine oCallS C (w24 hw) (w25 hw) (w26 hw) (w27 hw) at_291 (by decide) pd_717522 rfl rfl (argsL := [.long c2, .long c1, .int 0, .int 3, .long s0, .long s1, .long s2]) (rest := [.int 1]) rfl (W := 1) rfl (q := 294) rfl (by decide) (by decide) (by decide) (by decide) (mt_fExp l Z a0 hw _ n0 z457 c2 c1 (0 : Int32) (3 : Int32) s0 s1 s2 ) (oPureK ?_)
       refine oIcmp_ne C at_294 (q := 322) (by decide) (by decide) (r := 297) rfl (fun hq => absurd hq (not_not_intro (oe3000 c2 c1 s0 s1 s2 rc2 r01 r12 q0c1 q0c2).symm)) (fun hc294 => ?_)
       refine oIload C at_297 rfl rfl ?_
       refine oLload C at_299 rfl rfl ?_
       refine oLload C at_301 rfl rfl ?_
       refine oIconst C at_303 (z := 0) rfl rfl ?_
       refine oIload C at_304 rfl rfl ?_
       refine oLload C at_306 rfl rfl ?_
       refine oLload C at_308 rfl rfl ?_
       refine oLload C at_310 rfl rfl ?_
       refine oCallS C (w24 hw) (w25 hw) (w26 hw) (w27 hw) at_312 (by decide) pd_717522 rfl rfl (argsL := [.long c3, .long c2, .int 0, .int 3, .long s0, .long s1, .long s2]) (rest := [.int 1]) rfl (W := 1) rfl (q := 315) rfl (by decide) (by decide) (by decide) (by decide) (mt_fExp l Z a0 hw _ n0 z457 c3 c2 (0 : Int32) (3 : Int32) s0 s1 s2 ) (oPureK ?_)
       refine oIcmp_ne C at_315 (q := 322) (by decide) (by decide) (r := 318) rfl (fun hq => absurd hq (not_not_intro (oe3000 c3 c2 s0 s1 s2 rc3 r01 r12 q0c2 q0c3).symm)) (fun hc315 => ?_)
       refine oIconst C at_318 (z := 1) rfl rfl ?_
       refine oGoto C at_319 (q := 323) (by decide) (by decide) ?_
       refine oRetZ C at_323 (z' := (1 : Int32)) rfl (by decide) (by decide) ?_
       exact rfl
      ·
       by_cases q1c3 : s1 < c3
       ·
        have f462 := (K448.fld f445 nin0 oN0)
        have f463 := (K448.fld f446 nin0 oN0)
        have f464 := (K448.arr f447 nin0 oA0)
        have f465 := (K448.exa f449)
        have z467 := (Nat.le_trans z450 K448.1)
        refine oCallV C (w17 hw) (w18 hw) (w20 hw) (w19 hw) (w8 hw) (w21 hw) at_229 f465 (by decide) pd_692006 rfl rfl (a := a429) (argsL := [.long c3]) (rest := []) rfl (W := 0) rfl (q := 232) rfl (by decide) (by decide) (by decide) (by decide) (ac4_12 l Z a0 hw _ n0 z467 a429 c3 a425 s0 s1 s2 f462 f463 f464 q0c3 f465 ge_a429 ne434 q1c3) (oRQ ?_)
        rintro h466 ⟨K466, f466_0⟩
        refine oIstore C at_232 (Ls' := #[.val (.long x0), .second, .val (.int n9), .val (.int sg), .val (.int cg), .val (.long tt), .second, .val (.int 3), .val (.long s0), .second, .val (.long s1), .second, .val (.long s2), .second, .val (.long c0), .second, .val (.long c1), .second, .val (.long c2), .second, .val (.long c3), .second, .val (.ref a425), .val (.ref a429), .val (.int 1), .val (.int 1), .val (.int 1), .val (.int 1)]) rfl (q := 234) rfl ?_
        refine oIload C at_234 rfl rfl ?_
        refine oLload C at_236 rfl rfl ?_
        refine oLload C at_238 rfl rfl ?_
        refine oIconst C at_240 (z := 1) rfl rfl ?_
        refine oIload C at_241 rfl rfl ?_
        refine oLload C at_243 rfl rfl ?_
        refine oLload C at_245 rfl rfl ?_
        refine oLload C at_247 rfl rfl ?_
        have z468 := (Nat.le_trans z467 K466.1)
        refine oCallS C (w24 hw) (w25 hw) (w26 hw) (w27 hw) at_249 (by decide) pd_717522 rfl rfl (argsL := [.long c0, .long c0, .int 1, .int 3, .long s0, .long s1, .long s2]) (rest := [.int 1]) rfl (W := 1) rfl (q := 252) rfl (by decide) (by decide) (by decide) (by decide) (mt_fExp l Z a0 hw _ n0 z468 c0 c0 (1 : Int32) (3 : Int32) s0 s1 s2 ) (oPureK ?_)
        refine oIcmp_ne C at_252 (q := 322) (by decide) (by decide) (r := 255) rfl (fun hq => absurd hq (not_not_intro (oe3100 c0 c0 s0 s1 s2 rfl r01 r12 q0c0).symm)) (fun hc252 => ?_)
        refine oIload C at_255 rfl rfl ?_
        refine oLload C at_257 rfl rfl ?_
        refine oLload C at_259 rfl rfl ?_
        refine oIconst C at_261 (z := 0) rfl rfl ?_
        refine oIload C at_262 rfl rfl ?_
        refine oLload C at_264 rfl rfl ?_
        refine oLload C at_266 rfl rfl ?_
        refine oLload C at_268 rfl rfl ?_
        refine oCallS C (w24 hw) (w25 hw) (w26 hw) (w27 hw) at_270 (by decide) pd_717522 rfl rfl (argsL := [.long c1, .long c0, .int 0, .int 3, .long s0, .long s1, .long s2]) (rest := [.int 1]) rfl (W := 1) rfl (q := 273) rfl (by decide) (by decide) (by decide) (by decide) (mt_fExp l Z a0 hw _ n0 z468 c1 c0 (0 : Int32) (3 : Int32) s0 s1 s2 ) (oPureK ?_)
        refine oIcmp_ne C at_273 (q := 322) (by decide) (by decide) (r := 276) rfl (fun hq => absurd hq (not_not_intro (oe3000 c1 c0 s0 s1 s2 rc1 r01 r12 q0c0 q0c1).symm)) (fun hc273 => ?_)
        refine oIload C at_276 rfl rfl ?_
        refine oLload C at_278 rfl rfl ?_
        refine oLload C at_280 rfl rfl ?_
        refine oIconst C at_282 (z := 0) rfl rfl ?_
        refine oIload C at_283 rfl rfl ?_
        refine oLload C at_285 rfl rfl ?_
        refine oLload C at_287 rfl rfl ?_
        refine oLload C at_289 rfl rfl ?_
        refine oCallS C (w24 hw) (w25 hw) (w26 hw) (w27 hw) at_291 (by decide) pd_717522 rfl rfl (argsL := [.long c2, .long c1, .int 0, .int 3, .long s0, .long s1, .long s2]) (rest := [.int 1]) rfl (W := 1) rfl (q := 294) rfl (by decide) (by decide) (by decide) (by decide) (mt_fExp l Z a0 hw _ n0 z468 c2 c1 (0 : Int32) (3 : Int32) s0 s1 s2 ) (oPureK ?_)
        refine oIcmp_ne C at_294 (q := 322) (by decide) (by decide) (r := 297) rfl (fun hq => absurd hq (not_not_intro (oe3000 c2 c1 s0 s1 s2 rc2 r01 r12 q0c1 q0c2).symm)) (fun hc294 => ?_)
        refine oIload C at_297 rfl rfl ?_
        refine oLload C at_299 rfl rfl ?_
        refine oLload C at_301 rfl rfl ?_
        refine oIconst C at_303 (z := 0) rfl rfl ?_
        refine oIload C at_304 rfl rfl ?_
        refine oLload C at_306 rfl rfl ?_
        refine oLload C at_308 rfl rfl ?_
        refine oLload C at_310 rfl rfl ?_
        refine oCallS C (w24 hw) (w25 hw) (w26 hw) (w27 hw) at_312 (by decide) pd_717522 rfl rfl (argsL := [.long c3, .long c2, .int 0, .int 3, .long s0, .long s1, .long s2]) (rest := [.int 1]) rfl (W := 1) rfl (q := 315) rfl (by decide) (by decide) (by decide) (by decide) (mt_fExp l Z a0 hw _ n0 z468 c3 c2 (0 : Int32) (3 : Int32) s0 s1 s2 ) (oPureK ?_)
        refine oIcmp_ne C at_315 (q := 322) (by decide) (by decide) (r := 318) rfl (fun hq => absurd hq (not_not_intro (oe3001 c3 c2 s0 s1 s2 rc3 r01 r12 q0c2 q0c3 q1c3).symm)) (fun hc315 => ?_)
        refine oIconst C at_318 (z := 1) rfl rfl ?_
        refine oGoto C at_319 (q := 323) (by decide) (by decide) ?_
        refine oRetZ C at_323 (z' := (1 : Int32)) rfl (by decide) (by decide) ?_
        exact rfl
       ·
        by_cases q2c3 : s2 < c3
        ·
         have f473 := (K448.fld f445 nin0 oN0)
         have f474 := (K448.fld f446 nin0 oN0)
         have f475 := (K448.arr f447 nin0 oA0)
         have f476 := (K448.exa f449)
         have z478 := (Nat.le_trans z450 K448.1)
         refine oCallV C (w17 hw) (w18 hw) (w20 hw) (w19 hw) (w8 hw) (w21 hw) at_229 f476 (by decide) pd_692006 rfl rfl (a := a429) (argsL := [.long c3]) (rest := []) rfl (W := 0) rfl (q := 232) rfl (by decide) (by decide) (by decide) (by decide) (ac4_13 l Z a0 hw _ n0 z478 a429 c3 a425 s0 s1 s2 f473 f474 f475 q0c3 f476 ge_a429 ne434 q1c3 q2c3) (oRQ ?_)
         rintro h477 ⟨K477, f477_0⟩
         refine oIstore C at_232 (Ls' := #[.val (.long x0), .second, .val (.int n9), .val (.int sg), .val (.int cg), .val (.long tt), .second, .val (.int 3), .val (.long s0), .second, .val (.long s1), .second, .val (.long s2), .second, .val (.long c0), .second, .val (.long c1), .second, .val (.long c2), .second, .val (.long c3), .second, .val (.ref a425), .val (.ref a429), .val (.int 1), .val (.int 1), .val (.int 1), .val (.int 1)]) rfl (q := 234) rfl ?_
         refine oIload C at_234 rfl rfl ?_
         refine oLload C at_236 rfl rfl ?_
         refine oLload C at_238 rfl rfl ?_
         refine oIconst C at_240 (z := 1) rfl rfl ?_
         refine oIload C at_241 rfl rfl ?_
         refine oLload C at_243 rfl rfl ?_
         refine oLload C at_245 rfl rfl ?_
         refine oLload C at_247 rfl rfl ?_
         have z479 := (Nat.le_trans z478 K477.1)
         refine oCallS C (w24 hw) (w25 hw) (w26 hw) (w27 hw) at_249 (by decide) pd_717522 rfl rfl (argsL := [.long c0, .long c0, .int 1, .int 3, .long s0, .long s1, .long s2]) (rest := [.int 1]) rfl (W := 1) rfl (q := 252) rfl (by decide) (by decide) (by decide) (by decide) (mt_fExp l Z a0 hw _ n0 z479 c0 c0 (1 : Int32) (3 : Int32) s0 s1 s2 ) (oPureK ?_)
         refine oIcmp_ne C at_252 (q := 322) (by decide) (by decide) (r := 255) rfl (fun hq => absurd hq (not_not_intro (oe3100 c0 c0 s0 s1 s2 rfl r01 r12 q0c0).symm)) (fun hc252 => ?_)
         refine oIload C at_255 rfl rfl ?_
         refine oLload C at_257 rfl rfl ?_
         refine oLload C at_259 rfl rfl ?_
         refine oIconst C at_261 (z := 0) rfl rfl ?_
         refine oIload C at_262 rfl rfl ?_
         refine oLload C at_264 rfl rfl ?_
         refine oLload C at_266 rfl rfl ?_
         refine oLload C at_268 rfl rfl ?_
         refine oCallS C (w24 hw) (w25 hw) (w26 hw) (w27 hw) at_270 (by decide) pd_717522 rfl rfl (argsL := [.long c1, .long c0, .int 0, .int 3, .long s0, .long s1, .long s2]) (rest := [.int 1]) rfl (W := 1) rfl (q := 273) rfl (by decide) (by decide) (by decide) (by decide) (mt_fExp l Z a0 hw _ n0 z479 c1 c0 (0 : Int32) (3 : Int32) s0 s1 s2 ) (oPureK ?_)
         refine oIcmp_ne C at_273 (q := 322) (by decide) (by decide) (r := 276) rfl (fun hq => absurd hq (not_not_intro (oe3000 c1 c0 s0 s1 s2 rc1 r01 r12 q0c0 q0c1).symm)) (fun hc273 => ?_)
         refine oIload C at_276 rfl rfl ?_
         refine oLload C at_278 rfl rfl ?_
         refine oLload C at_280 rfl rfl ?_
         refine oIconst C at_282 (z := 0) rfl rfl ?_
         refine oIload C at_283 rfl rfl ?_
         refine oLload C at_285 rfl rfl ?_
         refine oLload C at_287 rfl rfl ?_
         refine oLload C at_289 rfl rfl ?_
         refine oCallS C (w24 hw) (w25 hw) (w26 hw) (w27 hw) at_291 (by decide) pd_717522 rfl rfl (argsL := [.long c2, .long c1, .int 0, .int 3, .long s0, .long s1, .long s2]) (rest := [.int 1]) rfl (W := 1) rfl (q := 294) rfl (by decide) (by decide) (by decide) (by decide) (mt_fExp l Z a0 hw _ n0 z479 c2 c1 (0 : Int32) (3 : Int32) s0 s1 s2 ) (oPureK ?_)
         refine oIcmp_ne C at_294 (q := 322) (by decide) (by decide) (r := 297) rfl (fun hq => absurd hq (not_not_intro (oe3000 c2 c1 s0 s1 s2 rc2 r01 r12 q0c1 q0c2).symm)) (fun hc294 => ?_)
         refine oIload C at_297 rfl rfl ?_
         refine oLload C at_299 rfl rfl ?_
         refine oLload C at_301 rfl rfl ?_
         refine oIconst C at_303 (z := 0) rfl rfl ?_
         refine oIload C at_304 rfl rfl ?_
         refine oLload C at_306 rfl rfl ?_
         refine oLload C at_308 rfl rfl ?_
         refine oLload C at_310 rfl rfl ?_
         refine oCallS C (w24 hw) (w25 hw) (w26 hw) (w27 hw) at_312 (by decide) pd_717522 rfl rfl (argsL := [.long c3, .long c2, .int 0, .int 3, .long s0, .long s1, .long s2]) (rest := [.int 1]) rfl (W := 1) rfl (q := 315) rfl (by decide) (by decide) (by decide) (by decide) (mt_fExp l Z a0 hw _ n0 z479 c3 c2 (0 : Int32) (3 : Int32) s0 s1 s2 ) (oPureK ?_)
         refine oIcmp_ne C at_315 (q := 322) (by decide) (by decide) (r := 318) rfl (fun hq => absurd hq (not_not_intro (oe3002 c3 c2 s0 s1 s2 rc3 r01 r12 q0c2 q0c3 q1c3 q2c3).symm)) (fun hc315 => ?_)
         refine oIconst C at_318 (z := 1) rfl rfl ?_
         refine oGoto C at_319 (q := 323) (by decide) (by decide) ?_
         refine oRetZ C at_323 (z' := (1 : Int32)) rfl (by decide) (by decide) ?_
         exact rfl
        ·
         have f484 := (K448.fld f445 nin0 oN0)
         have f485 := (K448.fld f446 nin0 oN0)
         have f486 := (K448.arr f447 nin0 oA0)
         have f487 := (K448.exa f449)
         have z489 := (Nat.le_trans z450 K448.1)
         refine oCallV C (w17 hw) (w18 hw) (w20 hw) (w19 hw) (w8 hw) (w21 hw) at_229 f487 (by decide) pd_692006 rfl rfl (a := a429) (argsL := [.long c3]) (rest := []) rfl (W := 0) rfl (q := 232) rfl (by decide) (by decide) (by decide) (by decide) (ac4_14 l Z a0 hw _ n0 z489 a429 c3 a425 s0 s1 s2 f484 f485 f486 q0c3 f487 ge_a429 ne434 q1c3 q2c3) (oRQ ?_)
         rintro h488 ⟨K488, f488_0⟩
         refine oIstore C at_232 (Ls' := #[.val (.long x0), .second, .val (.int n9), .val (.int sg), .val (.int cg), .val (.long tt), .second, .val (.int 3), .val (.long s0), .second, .val (.long s1), .second, .val (.long s2), .second, .val (.long c0), .second, .val (.long c1), .second, .val (.long c2), .second, .val (.long c3), .second, .val (.ref a425), .val (.ref a429), .val (.int 1), .val (.int 1), .val (.int 1), .val (.int 1)]) rfl (q := 234) rfl ?_
         refine oIload C at_234 rfl rfl ?_
         refine oLload C at_236 rfl rfl ?_
         refine oLload C at_238 rfl rfl ?_
         refine oIconst C at_240 (z := 1) rfl rfl ?_
         refine oIload C at_241 rfl rfl ?_
         refine oLload C at_243 rfl rfl ?_
         refine oLload C at_245 rfl rfl ?_
         refine oLload C at_247 rfl rfl ?_
         have z490 := (Nat.le_trans z489 K488.1)
         refine oCallS C (w24 hw) (w25 hw) (w26 hw) (w27 hw) at_249 (by decide) pd_717522 rfl rfl (argsL := [.long c0, .long c0, .int 1, .int 3, .long s0, .long s1, .long s2]) (rest := [.int 1]) rfl (W := 1) rfl (q := 252) rfl (by decide) (by decide) (by decide) (by decide) (mt_fExp l Z a0 hw _ n0 z490 c0 c0 (1 : Int32) (3 : Int32) s0 s1 s2 ) (oPureK ?_)
         refine oIcmp_ne C at_252 (q := 322) (by decide) (by decide) (r := 255) rfl (fun hq => absurd hq (not_not_intro (oe3100 c0 c0 s0 s1 s2 rfl r01 r12 q0c0).symm)) (fun hc252 => ?_)
         refine oIload C at_255 rfl rfl ?_
         refine oLload C at_257 rfl rfl ?_
         refine oLload C at_259 rfl rfl ?_
         refine oIconst C at_261 (z := 0) rfl rfl ?_
         refine oIload C at_262 rfl rfl ?_
         refine oLload C at_264 rfl rfl ?_
         refine oLload C at_266 rfl rfl ?_
         refine oLload C at_268 rfl rfl ?_
         refine oCallS C (w24 hw) (w25 hw) (w26 hw) (w27 hw) at_270 (by decide) pd_717522 rfl rfl (argsL := [.long c1, .long c0, .int 0, .int 3, .long s0, .long s1, .long s2]) (rest := [.int 1]) rfl (W := 1) rfl (q := 273) rfl (by decide) (by decide) (by decide) (by decide) (mt_fExp l Z a0 hw _ n0 z490 c1 c0 (0 : Int32) (3 : Int32) s0 s1 s2 ) (oPureK ?_)
         refine oIcmp_ne C at_273 (q := 322) (by decide) (by decide) (r := 276) rfl (fun hq => absurd hq (not_not_intro (oe3000 c1 c0 s0 s1 s2 rc1 r01 r12 q0c0 q0c1).symm)) (fun hc273 => ?_)
         refine oIload C at_276 rfl rfl ?_
         refine oLload C at_278 rfl rfl ?_
         refine oLload C at_280 rfl rfl ?_
         refine oIconst C at_282 (z := 0) rfl rfl ?_
         refine oIload C at_283 rfl rfl ?_
         refine oLload C at_285 rfl rfl ?_
         refine oLload C at_287 rfl rfl ?_
         refine oLload C at_289 rfl rfl ?_
         refine oCallS C (w24 hw) (w25 hw) (w26 hw) (w27 hw) at_291 (by decide) pd_717522 rfl rfl (argsL := [.long c2, .long c1, .int 0, .int 3, .long s0, .long s1, .long s2]) (rest := [.int 1]) rfl (W := 1) rfl (q := 294) rfl (by decide) (by decide) (by decide) (by decide) (mt_fExp l Z a0 hw _ n0 z490 c2 c1 (0 : Int32) (3 : Int32) s0 s1 s2 ) (oPureK ?_)
         refine oIcmp_ne C at_294 (q := 322) (by decide) (by decide) (r := 297) rfl (fun hq => absurd hq (not_not_intro (oe3000 c2 c1 s0 s1 s2 rc2 r01 r12 q0c1 q0c2).symm)) (fun hc294 => ?_)
         refine oIload C at_297 rfl rfl ?_
         refine oLload C at_299 rfl rfl ?_
         refine oLload C at_301 rfl rfl ?_
         refine oIconst C at_303 (z := 0) rfl rfl ?_
         refine oIload C at_304 rfl rfl ?_
         refine oLload C at_306 rfl rfl ?_
         refine oLload C at_308 rfl rfl ?_
         refine oLload C at_310 rfl rfl ?_
         refine oCallS C (w24 hw) (w25 hw) (w26 hw) (w27 hw) at_312 (by decide) pd_717522 rfl rfl (argsL := [.long c3, .long c2, .int 0, .int 3, .long s0, .long s1, .long s2]) (rest := [.int 1]) rfl (W := 1) rfl (q := 315) rfl (by decide) (by decide) (by decide) (by decide) (mt_fExp l Z a0 hw _ n0 z490 c3 c2 (0 : Int32) (3 : Int32) s0 s1 s2 ) (oPureK ?_)
         refine oIcmp_ne C at_315 (q := 322) (by decide) (by decide) (r := 318) rfl (fun hq => absurd hq (not_not_intro (oe3003 c3 c2 s0 s1 s2 rc3 r01 r12 q0c2 q0c3 q1c3 q2c3).symm)) (fun hc315 => ?_)
         refine oIconst C at_318 (z := 1) rfl rfl ?_
         refine oGoto C at_319 (q := 323) (by decide) (by decide) ?_
         refine oRetZ C at_323 (z' := (1 : Int32)) rfl (by decide) (by decide) ?_
         exact rfl
     ·
      by_cases q1c2 : s1 < c2
      ·
       have f495 := (K442.fld f439 nin0 oN0)
       have f496 := (K442.fld f440 nin0 oN0)
       have f497 := (K442.arr f441 nin0 oA0)
       have f498 := (K442.exa f443)
       have z500 := (Nat.le_trans z444 K442.1)
       refine oCallV C (w17 hw) (w18 hw) (w20 hw) (w19 hw) (w8 hw) (w21 hw) at_220 f498 (by decide) pd_692006 rfl rfl (a := a429) (argsL := [.long c2]) (rest := []) rfl (W := 0) rfl (q := 223) rfl (by decide) (by decide) (by decide) (by decide) (ac4_12 l Z a0 hw _ n0 z500 a429 c2 a425 s0 s1 s2 f495 f496 f497 q0c2 f498 ge_a429 ne434 q1c2) (oRQ ?_)
       rintro h499 ⟨K499, f499_0⟩
       refine oIstore C at_223 (Ls' := #[.val (.long x0), .second, .val (.int n9), .val (.int sg), .val (.int cg), .val (.long tt), .second, .val (.int 3), .val (.long s0), .second, .val (.long s1), .second, .val (.long s2), .second, .val (.long c0), .second, .val (.long c1), .second, .val (.long c2), .second, .val (.long c3), .second, .val (.ref a425), .val (.ref a429), .val (.int 1), .val (.int 1), .val (.int 1), .unset]) rfl (q := 225) rfl ?_
       refine oAload C at_225 rfl rfl rfl ?_
       refine oLload C at_227 rfl rfl ?_
       by_cases q1c3 : s1 < c3
       ·
        have f501 := (K499.fld f496 nin0 (oNF (Or.inr (oSn0 hw 0 1)) oN0))
        have f502 := (K499.arr f497 nin0 (oAS ne434 oA0))
        have f504 := (K499.exa f498)
        have z505 := (Nat.le_trans z500 K499.1)
        refine oCallV C (w17 hw) (w18 hw) (w20 hw) (w19 hw) (w8 hw) (w21 hw) at_229 f504 (by decide) pd_692006 rfl rfl (a := a429) (argsL := [.long c3]) (rest := []) rfl (W := 0) rfl (q := 232) rfl (by decide) (by decide) (by decide) (by decide) (ac4_15 l Z a0 hw _ n0 z505 a429 c3 a425 s0 s1 s2 f499_0 f501 f502 q1c3) (oRQ ?_)
        rintro h503 K503
        refine oIstore C at_232 (Ls' := #[.val (.long x0), .second, .val (.int n9), .val (.int sg), .val (.int cg), .val (.long tt), .second, .val (.int 3), .val (.long s0), .second, .val (.long s1), .second, .val (.long s2), .second, .val (.long c0), .second, .val (.long c1), .second, .val (.long c2), .second, .val (.long c3), .second, .val (.ref a425), .val (.ref a429), .val (.int 1), .val (.int 1), .val (.int 1), .val (.int 0)]) rfl (q := 234) rfl ?_
        refine oIload C at_234 rfl rfl ?_
        refine oLload C at_236 rfl rfl ?_
        refine oLload C at_238 rfl rfl ?_
        refine oIconst C at_240 (z := 1) rfl rfl ?_
        refine oIload C at_241 rfl rfl ?_
        refine oLload C at_243 rfl rfl ?_
        refine oLload C at_245 rfl rfl ?_
        refine oLload C at_247 rfl rfl ?_
        have z506 := (Nat.le_trans z505 K503.1)
        refine oCallS C (w24 hw) (w25 hw) (w26 hw) (w27 hw) at_249 (by decide) pd_717522 rfl rfl (argsL := [.long c0, .long c0, .int 1, .int 3, .long s0, .long s1, .long s2]) (rest := [.int 1]) rfl (W := 1) rfl (q := 252) rfl (by decide) (by decide) (by decide) (by decide) (mt_fExp l Z a0 hw _ n0 z506 c0 c0 (1 : Int32) (3 : Int32) s0 s1 s2 ) (oPureK ?_)
        refine oIcmp_ne C at_252 (q := 322) (by decide) (by decide) (r := 255) rfl (fun hq => absurd hq (not_not_intro (oe3100 c0 c0 s0 s1 s2 rfl r01 r12 q0c0).symm)) (fun hc252 => ?_)
        refine oIload C at_255 rfl rfl ?_
        refine oLload C at_257 rfl rfl ?_
        refine oLload C at_259 rfl rfl ?_
        refine oIconst C at_261 (z := 0) rfl rfl ?_
        refine oIload C at_262 rfl rfl ?_
        refine oLload C at_264 rfl rfl ?_
        refine oLload C at_266 rfl rfl ?_
        refine oLload C at_268 rfl rfl ?_
        refine oCallS C (w24 hw) (w25 hw) (w26 hw) (w27 hw) at_270 (by decide) pd_717522 rfl rfl (argsL := [.long c1, .long c0, .int 0, .int 3, .long s0, .long s1, .long s2]) (rest := [.int 1]) rfl (W := 1) rfl (q := 273) rfl (by decide) (by decide) (by decide) (by decide) (mt_fExp l Z a0 hw _ n0 z506 c1 c0 (0 : Int32) (3 : Int32) s0 s1 s2 ) (oPureK ?_)
        refine oIcmp_ne C at_273 (q := 322) (by decide) (by decide) (r := 276) rfl (fun hq => absurd hq (not_not_intro (oe3000 c1 c0 s0 s1 s2 rc1 r01 r12 q0c0 q0c1).symm)) (fun hc273 => ?_)
        refine oIload C at_276 rfl rfl ?_
        refine oLload C at_278 rfl rfl ?_
        refine oLload C at_280 rfl rfl ?_
        refine oIconst C at_282 (z := 0) rfl rfl ?_
        refine oIload C at_283 rfl rfl ?_
        refine oLload C at_285 rfl rfl ?_
        refine oLload C at_287 rfl rfl ?_
        refine oLload C at_289 rfl rfl ?_
        refine oCallS C (w24 hw) (w25 hw) (w26 hw) (w27 hw) at_291 (by decide) pd_717522 rfl rfl (argsL := [.long c2, .long c1, .int 0, .int 3, .long s0, .long s1, .long s2]) (rest := [.int 1]) rfl (W := 1) rfl (q := 294) rfl (by decide) (by decide) (by decide) (by decide) (mt_fExp l Z a0 hw _ n0 z506 c2 c1 (0 : Int32) (3 : Int32) s0 s1 s2 ) (oPureK ?_)
        refine oIcmp_ne C at_294 (q := 322) (by decide) (by decide) (r := 297) rfl (fun hq => absurd hq (not_not_intro (oe3001 c2 c1 s0 s1 s2 rc2 r01 r12 q0c1 q0c2 q1c2).symm)) (fun hc294 => ?_)
        refine oIload C at_297 rfl rfl ?_
        refine oLload C at_299 rfl rfl ?_
        refine oLload C at_301 rfl rfl ?_
        refine oIconst C at_303 (z := 0) rfl rfl ?_
        refine oIload C at_304 rfl rfl ?_
        refine oLload C at_306 rfl rfl ?_
        refine oLload C at_308 rfl rfl ?_
        refine oLload C at_310 rfl rfl ?_
        refine oCallS C (w24 hw) (w25 hw) (w26 hw) (w27 hw) at_312 (by decide) pd_717522 rfl rfl (argsL := [.long c3, .long c2, .int 0, .int 3, .long s0, .long s1, .long s2]) (rest := [.int 0]) rfl (W := 1) rfl (q := 315) rfl (by decide) (by decide) (by decide) (by decide) (mt_fExp l Z a0 hw _ n0 z506 c3 c2 (0 : Int32) (3 : Int32) s0 s1 s2 ) (oPureK ?_)
        refine oIcmp_ne C at_315 (q := 322) (by decide) (by decide) (r := 318) rfl (fun hq => absurd hq (not_not_intro (oe3011 c3 c2 s0 s1 s2 rc3 r01 r12 q0c2 q1c2 q1c3).symm)) (fun hc315 => ?_)
        refine oIconst C at_318 (z := 1) rfl rfl ?_
        refine oGoto C at_319 (q := 323) (by decide) (by decide) ?_
        refine oRetZ C at_323 (z' := (1 : Int32)) rfl (by decide) (by decide) ?_
        exact rfl
       ·
        by_cases q2c3 : s2 < c3
        ·
         have f511 := (K499.fld f496 nin0 (oNF (Or.inr (oSn0 hw 0 1)) oN0))
         have f512 := (K499.arr f497 nin0 (oAS ne434 oA0))
         have f513 := (K499.exa f498)
         have z515 := (Nat.le_trans z500 K499.1)
         refine oCallV C (w17 hw) (w18 hw) (w20 hw) (w19 hw) (w8 hw) (w21 hw) at_229 f513 (by decide) pd_692006 rfl rfl (a := a429) (argsL := [.long c3]) (rest := []) rfl (W := 0) rfl (q := 232) rfl (by decide) (by decide) (by decide) (by decide) (ac4_16 l Z a0 hw _ n0 z515 a429 c3 a425 s0 s1 s2 f499_0 f511 f512 q1c3 f513 ge_a429 ne434 q2c3) (oRQ ?_)
         rintro h514 ⟨K514, f514_0⟩
         refine oIstore C at_232 (Ls' := #[.val (.long x0), .second, .val (.int n9), .val (.int sg), .val (.int cg), .val (.long tt), .second, .val (.int 3), .val (.long s0), .second, .val (.long s1), .second, .val (.long s2), .second, .val (.long c0), .second, .val (.long c1), .second, .val (.long c2), .second, .val (.long c3), .second, .val (.ref a425), .val (.ref a429), .val (.int 1), .val (.int 1), .val (.int 1), .val (.int 1)]) rfl (q := 234) rfl ?_
         refine oIload C at_234 rfl rfl ?_
         refine oLload C at_236 rfl rfl ?_
         refine oLload C at_238 rfl rfl ?_
         refine oIconst C at_240 (z := 1) rfl rfl ?_
         refine oIload C at_241 rfl rfl ?_
         refine oLload C at_243 rfl rfl ?_
         refine oLload C at_245 rfl rfl ?_
         refine oLload C at_247 rfl rfl ?_
         have z516 := (Nat.le_trans z515 K514.1)
         refine oCallS C (w24 hw) (w25 hw) (w26 hw) (w27 hw) at_249 (by decide) pd_717522 rfl rfl (argsL := [.long c0, .long c0, .int 1, .int 3, .long s0, .long s1, .long s2]) (rest := [.int 1]) rfl (W := 1) rfl (q := 252) rfl (by decide) (by decide) (by decide) (by decide) (mt_fExp l Z a0 hw _ n0 z516 c0 c0 (1 : Int32) (3 : Int32) s0 s1 s2 ) (oPureK ?_)
         refine oIcmp_ne C at_252 (q := 322) (by decide) (by decide) (r := 255) rfl (fun hq => absurd hq (not_not_intro (oe3100 c0 c0 s0 s1 s2 rfl r01 r12 q0c0).symm)) (fun hc252 => ?_)
         refine oIload C at_255 rfl rfl ?_
         refine oLload C at_257 rfl rfl ?_
         refine oLload C at_259 rfl rfl ?_
         refine oIconst C at_261 (z := 0) rfl rfl ?_
         refine oIload C at_262 rfl rfl ?_
         refine oLload C at_264 rfl rfl ?_
         refine oLload C at_266 rfl rfl ?_
         refine oLload C at_268 rfl rfl ?_
         refine oCallS C (w24 hw) (w25 hw) (w26 hw) (w27 hw) at_270 (by decide) pd_717522 rfl rfl (argsL := [.long c1, .long c0, .int 0, .int 3, .long s0, .long s1, .long s2]) (rest := [.int 1]) rfl (W := 1) rfl (q := 273) rfl (by decide) (by decide) (by decide) (by decide) (mt_fExp l Z a0 hw _ n0 z516 c1 c0 (0 : Int32) (3 : Int32) s0 s1 s2 ) (oPureK ?_)
         refine oIcmp_ne C at_273 (q := 322) (by decide) (by decide) (r := 276) rfl (fun hq => absurd hq (not_not_intro (oe3000 c1 c0 s0 s1 s2 rc1 r01 r12 q0c0 q0c1).symm)) (fun hc273 => ?_)
         refine oIload C at_276 rfl rfl ?_
         refine oLload C at_278 rfl rfl ?_
         refine oLload C at_280 rfl rfl ?_
         refine oIconst C at_282 (z := 0) rfl rfl ?_
         refine oIload C at_283 rfl rfl ?_
         refine oLload C at_285 rfl rfl ?_
         refine oLload C at_287 rfl rfl ?_
         refine oLload C at_289 rfl rfl ?_
         refine oCallS C (w24 hw) (w25 hw) (w26 hw) (w27 hw) at_291 (by decide) pd_717522 rfl rfl (argsL := [.long c2, .long c1, .int 0, .int 3, .long s0, .long s1, .long s2]) (rest := [.int 1]) rfl (W := 1) rfl (q := 294) rfl (by decide) (by decide) (by decide) (by decide) (mt_fExp l Z a0 hw _ n0 z516 c2 c1 (0 : Int32) (3 : Int32) s0 s1 s2 ) (oPureK ?_)
         refine oIcmp_ne C at_294 (q := 322) (by decide) (by decide) (r := 297) rfl (fun hq => absurd hq (not_not_intro (oe3001 c2 c1 s0 s1 s2 rc2 r01 r12 q0c1 q0c2 q1c2).symm)) (fun hc294 => ?_)
         refine oIload C at_297 rfl rfl ?_
         refine oLload C at_299 rfl rfl ?_
         refine oLload C at_301 rfl rfl ?_
         refine oIconst C at_303 (z := 0) rfl rfl ?_
         refine oIload C at_304 rfl rfl ?_
         refine oLload C at_306 rfl rfl ?_
         refine oLload C at_308 rfl rfl ?_
         refine oLload C at_310 rfl rfl ?_
         refine oCallS C (w24 hw) (w25 hw) (w26 hw) (w27 hw) at_312 (by decide) pd_717522 rfl rfl (argsL := [.long c3, .long c2, .int 0, .int 3, .long s0, .long s1, .long s2]) (rest := [.int 1]) rfl (W := 1) rfl (q := 315) rfl (by decide) (by decide) (by decide) (by decide) (mt_fExp l Z a0 hw _ n0 z516 c3 c2 (0 : Int32) (3 : Int32) s0 s1 s2 ) (oPureK ?_)
         refine oIcmp_ne C at_315 (q := 322) (by decide) (by decide) (r := 318) rfl (fun hq => absurd hq (not_not_intro (oe3012 c3 c2 s0 s1 s2 rc3 r01 r12 q0c2 q1c2 q1c3 q2c3).symm)) (fun hc315 => ?_)
         refine oIconst C at_318 (z := 1) rfl rfl ?_
         refine oGoto C at_319 (q := 323) (by decide) (by decide) ?_
         refine oRetZ C at_323 (z' := (1 : Int32)) rfl (by decide) (by decide) ?_
         exact rfl
        ·
         have f521 := (K499.fld f496 nin0 (oNF (Or.inr (oSn0 hw 0 1)) oN0))
         have f522 := (K499.arr f497 nin0 (oAS ne434 oA0))
         have f523 := (K499.exa f498)
         have z525 := (Nat.le_trans z500 K499.1)
         refine oCallV C (w17 hw) (w18 hw) (w20 hw) (w19 hw) (w8 hw) (w21 hw) at_229 f523 (by decide) pd_692006 rfl rfl (a := a429) (argsL := [.long c3]) (rest := []) rfl (W := 0) rfl (q := 232) rfl (by decide) (by decide) (by decide) (by decide) (ac4_17 l Z a0 hw _ n0 z525 a429 c3 a425 s0 s1 s2 f499_0 f521 f522 q1c3 f523 ge_a429 ne434 q2c3) (oRQ ?_)
         rintro h524 ⟨K524, f524_0⟩
         refine oIstore C at_232 (Ls' := #[.val (.long x0), .second, .val (.int n9), .val (.int sg), .val (.int cg), .val (.long tt), .second, .val (.int 3), .val (.long s0), .second, .val (.long s1), .second, .val (.long s2), .second, .val (.long c0), .second, .val (.long c1), .second, .val (.long c2), .second, .val (.long c3), .second, .val (.ref a425), .val (.ref a429), .val (.int 1), .val (.int 1), .val (.int 1), .val (.int 1)]) rfl (q := 234) rfl ?_
         refine oIload C at_234 rfl rfl ?_
         refine oLload C at_236 rfl rfl ?_
         refine oLload C at_238 rfl rfl ?_
         refine oIconst C at_240 (z := 1) rfl rfl ?_
         refine oIload C at_241 rfl rfl ?_
         refine oLload C at_243 rfl rfl ?_
         refine oLload C at_245 rfl rfl ?_
         refine oLload C at_247 rfl rfl ?_
         have z526 := (Nat.le_trans z525 K524.1)
         refine oCallS C (w24 hw) (w25 hw) (w26 hw) (w27 hw) at_249 (by decide) pd_717522 rfl rfl (argsL := [.long c0, .long c0, .int 1, .int 3, .long s0, .long s1, .long s2]) (rest := [.int 1]) rfl (W := 1) rfl (q := 252) rfl (by decide) (by decide) (by decide) (by decide) (mt_fExp l Z a0 hw _ n0 z526 c0 c0 (1 : Int32) (3 : Int32) s0 s1 s2 ) (oPureK ?_)
         refine oIcmp_ne C at_252 (q := 322) (by decide) (by decide) (r := 255) rfl (fun hq => absurd hq (not_not_intro (oe3100 c0 c0 s0 s1 s2 rfl r01 r12 q0c0).symm)) (fun hc252 => ?_)
         refine oIload C at_255 rfl rfl ?_
         refine oLload C at_257 rfl rfl ?_
         refine oLload C at_259 rfl rfl ?_
         refine oIconst C at_261 (z := 0) rfl rfl ?_
         refine oIload C at_262 rfl rfl ?_
         refine oLload C at_264 rfl rfl ?_
         refine oLload C at_266 rfl rfl ?_
         refine oLload C at_268 rfl rfl ?_
         refine oCallS C (w24 hw) (w25 hw) (w26 hw) (w27 hw) at_270 (by decide) pd_717522 rfl rfl (argsL := [.long c1, .long c0, .int 0, .int 3, .long s0, .long s1, .long s2]) (rest := [.int 1]) rfl (W := 1) rfl (q := 273) rfl (by decide) (by decide) (by decide) (by decide) (mt_fExp l Z a0 hw _ n0 z526 c1 c0 (0 : Int32) (3 : Int32) s0 s1 s2 ) (oPureK ?_)
         refine oIcmp_ne C at_273 (q := 322) (by decide) (by decide) (r := 276) rfl (fun hq => absurd hq (not_not_intro (oe3000 c1 c0 s0 s1 s2 rc1 r01 r12 q0c0 q0c1).symm)) (fun hc273 => ?_)
         refine oIload C at_276 rfl rfl ?_
         refine oLload C at_278 rfl rfl ?_
         refine oLload C at_280 rfl rfl ?_
         refine oIconst C at_282 (z := 0) rfl rfl ?_
         refine oIload C at_283 rfl rfl ?_
         refine oLload C at_285 rfl rfl ?_
         refine oLload C at_287 rfl rfl ?_
         refine oLload C at_289 rfl rfl ?_
         refine oCallS C (w24 hw) (w25 hw) (w26 hw) (w27 hw) at_291 (by decide) pd_717522 rfl rfl (argsL := [.long c2, .long c1, .int 0, .int 3, .long s0, .long s1, .long s2]) (rest := [.int 1]) rfl (W := 1) rfl (q := 294) rfl (by decide) (by decide) (by decide) (by decide) (mt_fExp l Z a0 hw _ n0 z526 c2 c1 (0 : Int32) (3 : Int32) s0 s1 s2 ) (oPureK ?_)
         refine oIcmp_ne C at_294 (q := 322) (by decide) (by decide) (r := 297) rfl (fun hq => absurd hq (not_not_intro (oe3001 c2 c1 s0 s1 s2 rc2 r01 r12 q0c1 q0c2 q1c2).symm)) (fun hc294 => ?_)
         refine oIload C at_297 rfl rfl ?_
         refine oLload C at_299 rfl rfl ?_
         refine oLload C at_301 rfl rfl ?_
         refine oIconst C at_303 (z := 0) rfl rfl ?_
         refine oIload C at_304 rfl rfl ?_
         refine oLload C at_306 rfl rfl ?_
         refine oLload C at_308 rfl rfl ?_
         refine oLload C at_310 rfl rfl ?_
         refine oCallS C (w24 hw) (w25 hw) (w26 hw) (w27 hw) at_312 (by decide) pd_717522 rfl rfl (argsL := [.long c3, .long c2, .int 0, .int 3, .long s0, .long s1, .long s2]) (rest := [.int 1]) rfl (W := 1) rfl (q := 315) rfl (by decide) (by decide) (by decide) (by decide) (mt_fExp l Z a0 hw _ n0 z526 c3 c2 (0 : Int32) (3 : Int32) s0 s1 s2 ) (oPureK ?_)
         refine oIcmp_ne C at_315 (q := 322) (by decide) (by decide) (r := 318) rfl (fun hq => absurd hq (not_not_intro (oe3013 c3 c2 s0 s1 s2 rc3 r01 r12 q0c2 q1c2 q1c3 q2c3).symm)) (fun hc315 => ?_)
         refine oIconst C at_318 (z := 1) rfl rfl ?_
         refine oGoto C at_319 (q := 323) (by decide) (by decide) ?_
         refine oRetZ C at_323 (z' := (1 : Int32)) rfl (by decide) (by decide) ?_
         exact rfl
      ·
       by_cases q2c2 : s2 < c2
       ·
        have f531 := (K442.fld f439 nin0 oN0)
        have f532 := (K442.fld f440 nin0 oN0)
        have f533 := (K442.arr f441 nin0 oA0)
        have f534 := (K442.exa f443)
        have z536 := (Nat.le_trans z444 K442.1)
        refine oCallV C (w17 hw) (w18 hw) (w20 hw) (w19 hw) (w8 hw) (w21 hw) at_220 f534 (by decide) pd_692006 rfl rfl (a := a429) (argsL := [.long c2]) (rest := []) rfl (W := 0) rfl (q := 223) rfl (by decide) (by decide) (by decide) (by decide) (ac4_13 l Z a0 hw _ n0 z536 a429 c2 a425 s0 s1 s2 f531 f532 f533 q0c2 f534 ge_a429 ne434 q1c2 q2c2) (oRQ ?_)
        rintro h535 ⟨K535, f535_0⟩
        refine oIstore C at_223 (Ls' := #[.val (.long x0), .second, .val (.int n9), .val (.int sg), .val (.int cg), .val (.long tt), .second, .val (.int 3), .val (.long s0), .second, .val (.long s1), .second, .val (.long s2), .second, .val (.long c0), .second, .val (.long c1), .second, .val (.long c2), .second, .val (.long c3), .second, .val (.ref a425), .val (.ref a429), .val (.int 1), .val (.int 1), .val (.int 1), .unset]) rfl (q := 225) rfl ?_
        refine oAload C at_225 rfl rfl rfl ?_
        refine oLload C at_227 rfl rfl ?_
        by_cases q2c3 : s2 < c3
        ·
         have f537 := (K535.fld f532 nin0 (oNF (Or.inr (oSn0 hw 0 1)) oN0))
         have f538 := (K535.arr f533 nin0 (oAS ne434 oA0))
         have f540 := (K535.exa f534)
         have z541 := (Nat.le_trans z536 K535.1)
         refine oCallV C (w17 hw) (w18 hw) (w20 hw) (w19 hw) (w8 hw) (w21 hw) at_229 f540 (by decide) pd_692006 rfl rfl (a := a429) (argsL := [.long c3]) (rest := []) rfl (W := 0) rfl (q := 232) rfl (by decide) (by decide) (by decide) (by decide) (ac4_18 l Z a0 hw _ n0 z541 a429 c3 a425 s0 s1 s2 f535_0 f537 f538 q2c3) (oRQ ?_)
         rintro h539 K539
         refine oIstore C at_232 (Ls' := #[.val (.long x0), .second, .val (.int n9), .val (.int sg), .val (.int cg), .val (.long tt), .second, .val (.int 3), .val (.long s0), .second, .val (.long s1), .second, .val (.long s2), .second, .val (.long c0), .second, .val (.long c1), .second, .val (.long c2), .second, .val (.long c3), .second, .val (.ref a425), .val (.ref a429), .val (.int 1), .val (.int 1), .val (.int 1), .val (.int 0)]) rfl (q := 234) rfl ?_
         refine oIload C at_234 rfl rfl ?_
         refine oLload C at_236 rfl rfl ?_
         refine oLload C at_238 rfl rfl ?_
         refine oIconst C at_240 (z := 1) rfl rfl ?_
         refine oIload C at_241 rfl rfl ?_
         refine oLload C at_243 rfl rfl ?_
         refine oLload C at_245 rfl rfl ?_
         refine oLload C at_247 rfl rfl ?_
         have z542 := (Nat.le_trans z541 K539.1)
         refine oCallS C (w24 hw) (w25 hw) (w26 hw) (w27 hw) at_249 (by decide) pd_717522 rfl rfl (argsL := [.long c0, .long c0, .int 1, .int 3, .long s0, .long s1, .long s2]) (rest := [.int 1]) rfl (W := 1) rfl (q := 252) rfl (by decide) (by decide) (by decide) (by decide) (mt_fExp l Z a0 hw _ n0 z542 c0 c0 (1 : Int32) (3 : Int32) s0 s1 s2 ) (oPureK ?_)
         refine oIcmp_ne C at_252 (q := 322) (by decide) (by decide) (r := 255) rfl (fun hq => absurd hq (not_not_intro (oe3100 c0 c0 s0 s1 s2 rfl r01 r12 q0c0).symm)) (fun hc252 => ?_)
         refine oIload C at_255 rfl rfl ?_
         refine oLload C at_257 rfl rfl ?_
         refine oLload C at_259 rfl rfl ?_
         refine oIconst C at_261 (z := 0) rfl rfl ?_
         refine oIload C at_262 rfl rfl ?_
         refine oLload C at_264 rfl rfl ?_
         refine oLload C at_266 rfl rfl ?_
         refine oLload C at_268 rfl rfl ?_
         refine oCallS C (w24 hw) (w25 hw) (w26 hw) (w27 hw) at_270 (by decide) pd_717522 rfl rfl (argsL := [.long c1, .long c0, .int 0, .int 3, .long s0, .long s1, .long s2]) (rest := [.int 1]) rfl (W := 1) rfl (q := 273) rfl (by decide) (by decide) (by decide) (by decide) (mt_fExp l Z a0 hw _ n0 z542 c1 c0 (0 : Int32) (3 : Int32) s0 s1 s2 ) (oPureK ?_)
         refine oIcmp_ne C at_273 (q := 322) (by decide) (by decide) (r := 276) rfl (fun hq => absurd hq (not_not_intro (oe3000 c1 c0 s0 s1 s2 rc1 r01 r12 q0c0 q0c1).symm)) (fun hc273 => ?_)
         refine oIload C at_276 rfl rfl ?_
         refine oLload C at_278 rfl rfl ?_
         refine oLload C at_280 rfl rfl ?_
         refine oIconst C at_282 (z := 0) rfl rfl ?_
         refine oIload C at_283 rfl rfl ?_
         refine oLload C at_285 rfl rfl ?_
         refine oLload C at_287 rfl rfl ?_
         refine oLload C at_289 rfl rfl ?_
         refine oCallS C (w24 hw) (w25 hw) (w26 hw) (w27 hw) at_291 (by decide) pd_717522 rfl rfl (argsL := [.long c2, .long c1, .int 0, .int 3, .long s0, .long s1, .long s2]) (rest := [.int 1]) rfl (W := 1) rfl (q := 294) rfl (by decide) (by decide) (by decide) (by decide) (mt_fExp l Z a0 hw _ n0 z542 c2 c1 (0 : Int32) (3 : Int32) s0 s1 s2 ) (oPureK ?_)
         refine oIcmp_ne C at_294 (q := 322) (by decide) (by decide) (r := 297) rfl (fun hq => absurd hq (not_not_intro (oe3002 c2 c1 s0 s1 s2 rc2 r01 r12 q0c1 q0c2 q1c2 q2c2).symm)) (fun hc294 => ?_)
         refine oIload C at_297 rfl rfl ?_
         refine oLload C at_299 rfl rfl ?_
         refine oLload C at_301 rfl rfl ?_
         refine oIconst C at_303 (z := 0) rfl rfl ?_
         refine oIload C at_304 rfl rfl ?_
         refine oLload C at_306 rfl rfl ?_
         refine oLload C at_308 rfl rfl ?_
         refine oLload C at_310 rfl rfl ?_
         refine oCallS C (w24 hw) (w25 hw) (w26 hw) (w27 hw) at_312 (by decide) pd_717522 rfl rfl (argsL := [.long c3, .long c2, .int 0, .int 3, .long s0, .long s1, .long s2]) (rest := [.int 0]) rfl (W := 1) rfl (q := 315) rfl (by decide) (by decide) (by decide) (by decide) (mt_fExp l Z a0 hw _ n0 z542 c3 c2 (0 : Int32) (3 : Int32) s0 s1 s2 ) (oPureK ?_)
         refine oIcmp_ne C at_315 (q := 322) (by decide) (by decide) (r := 318) rfl (fun hq => absurd hq (not_not_intro (oe3022 c3 c2 s0 s1 s2 rc3 r01 r12 q0c2 q1c2 q2c2 q2c3).symm)) (fun hc315 => ?_)
         refine oIconst C at_318 (z := 1) rfl rfl ?_
         refine oGoto C at_319 (q := 323) (by decide) (by decide) ?_
         refine oRetZ C at_323 (z' := (1 : Int32)) rfl (by decide) (by decide) ?_
         exact rfl
        ·
         have f547 := (K535.fld f532 nin0 (oNF (Or.inr (oSn0 hw 0 1)) oN0))
         have f548 := (K535.arr f533 nin0 (oAS ne434 oA0))
         have f549 := (K535.exa f534)
         have z551 := (Nat.le_trans z536 K535.1)
         refine oCallV C (w17 hw) (w18 hw) (w20 hw) (w19 hw) (w8 hw) (w21 hw) at_229 f549 (by decide) pd_692006 rfl rfl (a := a429) (argsL := [.long c3]) (rest := []) rfl (W := 0) rfl (q := 232) rfl (by decide) (by decide) (by decide) (by decide) (ac4_19 l Z a0 hw _ n0 z551 a429 c3 a425 s0 s1 s2 f535_0 f547 f548 q2c3 f549 ge_a429 ne434) (oRQ ?_)
         rintro h550 ⟨K550, f550_0⟩
         refine oIstore C at_232 (Ls' := #[.val (.long x0), .second, .val (.int n9), .val (.int sg), .val (.int cg), .val (.long tt), .second, .val (.int 3), .val (.long s0), .second, .val (.long s1), .second, .val (.long s2), .second, .val (.long c0), .second, .val (.long c1), .second, .val (.long c2), .second, .val (.long c3), .second, .val (.ref a425), .val (.ref a429), .val (.int 1), .val (.int 1), .val (.int 1), .val (.int 1)]) rfl (q := 234) rfl ?_
         refine oIload C at_234 rfl rfl ?_
         refine oLload C at_236 rfl rfl ?_
         refine oLload C at_238 rfl rfl ?_
         refine oIconst C at_240 (z := 1) rfl rfl ?_
         refine oIload C at_241 rfl rfl ?_
         refine oLload C at_243 rfl rfl ?_
         refine oLload C at_245 rfl rfl ?_
         refine oLload C at_247 rfl rfl ?_
         have z552 := (Nat.le_trans z551 K550.1)
         refine oCallS C (w24 hw) (w25 hw) (w26 hw) (w27 hw) at_249 (by decide) pd_717522 rfl rfl (argsL := [.long c0, .long c0, .int 1, .int 3, .long s0, .long s1, .long s2]) (rest := [.int 1]) rfl (W := 1) rfl (q := 252) rfl (by decide) (by decide) (by decide) (by decide) (mt_fExp l Z a0 hw _ n0 z552 c0 c0 (1 : Int32) (3 : Int32) s0 s1 s2 ) (oPureK ?_)
         refine oIcmp_ne C at_252 (q := 322) (by decide) (by decide) (r := 255) rfl (fun hq => absurd hq (not_not_intro (oe3100 c0 c0 s0 s1 s2 rfl r01 r12 q0c0).symm)) (fun hc252 => ?_)
         refine oIload C at_255 rfl rfl ?_
         refine oLload C at_257 rfl rfl ?_
         refine oLload C at_259 rfl rfl ?_
         refine oIconst C at_261 (z := 0) rfl rfl ?_
         refine oIload C at_262 rfl rfl ?_
         refine oLload C at_264 rfl rfl ?_
         refine oLload C at_266 rfl rfl ?_
         refine oLload C at_268 rfl rfl ?_
         refine oCallS C (w24 hw) (w25 hw) (w26 hw) (w27 hw) at_270 (by decide) pd_717522 rfl rfl (argsL := [.long c1, .long c0, .int 0, .int 3, .long s0, .long s1, .long s2]) (rest := [.int 1]) rfl (W := 1) rfl (q := 273) rfl (by decide) (by decide) (by decide) (by decide) (mt_fExp l Z a0 hw _ n0 z552 c1 c0 (0 : Int32) (3 : Int32) s0 s1 s2 ) (oPureK ?_)
         refine oIcmp_ne C at_273 (q := 322) (by decide) (by decide) (r := 276) rfl (fun hq => absurd hq (not_not_intro (oe3000 c1 c0 s0 s1 s2 rc1 r01 r12 q0c0 q0c1).symm)) (fun hc273 => ?_)
         refine oIload C at_276 rfl rfl ?_
         refine oLload C at_278 rfl rfl ?_
         refine oLload C at_280 rfl rfl ?_
         refine oIconst C at_282 (z := 0) rfl rfl ?_
         refine oIload C at_283 rfl rfl ?_
         refine oLload C at_285 rfl rfl ?_
         refine oLload C at_287 rfl rfl ?_
         refine oLload C at_289 rfl rfl ?_
         refine oCallS C (w24 hw) (w25 hw) (w26 hw) (w27 hw) at_291 (by decide) pd_717522 rfl rfl (argsL := [.long c2, .long c1, .int 0, .int 3, .long s0, .long s1, .long s2]) (rest := [.int 1]) rfl (W := 1) rfl (q := 294) rfl (by decide) (by decide) (by decide) (by decide) (mt_fExp l Z a0 hw _ n0 z552 c2 c1 (0 : Int32) (3 : Int32) s0 s1 s2 ) (oPureK ?_)
         refine oIcmp_ne C at_294 (q := 322) (by decide) (by decide) (r := 297) rfl (fun hq => absurd hq (not_not_intro (oe3002 c2 c1 s0 s1 s2 rc2 r01 r12 q0c1 q0c2 q1c2 q2c2).symm)) (fun hc294 => ?_)
         refine oIload C at_297 rfl rfl ?_
         refine oLload C at_299 rfl rfl ?_
         refine oLload C at_301 rfl rfl ?_
         refine oIconst C at_303 (z := 0) rfl rfl ?_
         refine oIload C at_304 rfl rfl ?_
         refine oLload C at_306 rfl rfl ?_
         refine oLload C at_308 rfl rfl ?_
         refine oLload C at_310 rfl rfl ?_
         refine oCallS C (w24 hw) (w25 hw) (w26 hw) (w27 hw) at_312 (by decide) pd_717522 rfl rfl (argsL := [.long c3, .long c2, .int 0, .int 3, .long s0, .long s1, .long s2]) (rest := [.int 1]) rfl (W := 1) rfl (q := 315) rfl (by decide) (by decide) (by decide) (by decide) (mt_fExp l Z a0 hw _ n0 z552 c3 c2 (0 : Int32) (3 : Int32) s0 s1 s2 ) (oPureK ?_)
         refine oIcmp_ne C at_315 (q := 322) (by decide) (by decide) (r := 318) rfl (fun hq => absurd hq (not_not_intro (oe3023 c3 c2 s0 s1 s2 rc3 r01 r12 q0c2 q1c2 q2c2 q2c3).symm)) (fun hc315 => ?_)
         refine oIconst C at_318 (z := 1) rfl rfl ?_
         refine oGoto C at_319 (q := 323) (by decide) (by decide) ?_
         refine oRetZ C at_323 (z' := (1 : Int32)) rfl (by decide) (by decide) ?_
         exact rfl
       ·
        have f557 := (K442.fld f439 nin0 oN0)
        have f558 := (K442.fld f440 nin0 oN0)
        have f559 := (K442.arr f441 nin0 oA0)
        have f560 := (K442.exa f443)
        have z562 := (Nat.le_trans z444 K442.1)
        refine oCallV C (w17 hw) (w18 hw) (w20 hw) (w19 hw) (w8 hw) (w21 hw) at_220 f560 (by decide) pd_692006 rfl rfl (a := a429) (argsL := [.long c2]) (rest := []) rfl (W := 0) rfl (q := 223) rfl (by decide) (by decide) (by decide) (by decide) (ac4_14 l Z a0 hw _ n0 z562 a429 c2 a425 s0 s1 s2 f557 f558 f559 q0c2 f560 ge_a429 ne434 q1c2 q2c2) (oRQ ?_)
        rintro h561 ⟨K561, f561_0⟩
        refine oIstore C at_223 (Ls' := #[.val (.long x0), .second, .val (.int n9), .val (.int sg), .val (.int cg), .val (.long tt), .second, .val (.int 3), .val (.long s0), .second, .val (.long s1), .second, .val (.long s2), .second, .val (.long c0), .second, .val (.long c1), .second, .val (.long c2), .second, .val (.long c3), .second, .val (.ref a425), .val (.ref a429), .val (.int 1), .val (.int 1), .val (.int 1), .unset]) rfl (q := 225) rfl ?_
        refine oAload C at_225 rfl rfl rfl ?_
        refine oLload C at_227 rfl rfl ?_
        have f563 := (K561.fld f558 nin0 (oNF (Or.inr (oSn0 hw 0 1)) oN0))
        have f564 := (K561.arr f559 nin0 (oAS ne434 oA0))
        have f566 := (K561.exa f560)
        have z567 := (Nat.le_trans z562 K561.1)
        refine oCallV C (w17 hw) (w18 hw) (w20 hw) (w19 hw) (w8 hw) (w21 hw) at_229 f566 (by decide) pd_692006 rfl rfl (a := a429) (argsL := [.long c3]) (rest := []) rfl (W := 0) rfl (q := 232) rfl (by decide) (by decide) (by decide) (by decide) (ac4_20 l Z a0 hw _ n0 z567 a429 c3 a425 s0 s1 s2 f561_0 f563 f564) (oRQ ?_)
        rintro h565 K565
        refine oIstore C at_232 (Ls' := #[.val (.long x0), .second, .val (.int n9), .val (.int sg), .val (.int cg), .val (.long tt), .second, .val (.int 3), .val (.long s0), .second, .val (.long s1), .second, .val (.long s2), .second, .val (.long c0), .second, .val (.long c1), .second, .val (.long c2), .second, .val (.long c3), .second, .val (.ref a425), .val (.ref a429), .val (.int 1), .val (.int 1), .val (.int 1), .val (.int 0)]) rfl (q := 234) rfl ?_
        refine oIload C at_234 rfl rfl ?_
        refine oLload C at_236 rfl rfl ?_
        refine oLload C at_238 rfl rfl ?_
        refine oIconst C at_240 (z := 1) rfl rfl ?_
        refine oIload C at_241 rfl rfl ?_
        refine oLload C at_243 rfl rfl ?_
        refine oLload C at_245 rfl rfl ?_
        refine oLload C at_247 rfl rfl ?_
        have z568 := (Nat.le_trans z567 K565.1)
        refine oCallS C (w24 hw) (w25 hw) (w26 hw) (w27 hw) at_249 (by decide) pd_717522 rfl rfl (argsL := [.long c0, .long c0, .int 1, .int 3, .long s0, .long s1, .long s2]) (rest := [.int 1]) rfl (W := 1) rfl (q := 252) rfl (by decide) (by decide) (by decide) (by decide) (mt_fExp l Z a0 hw _ n0 z568 c0 c0 (1 : Int32) (3 : Int32) s0 s1 s2 ) (oPureK ?_)
        refine oIcmp_ne C at_252 (q := 322) (by decide) (by decide) (r := 255) rfl (fun hq => absurd hq (not_not_intro (oe3100 c0 c0 s0 s1 s2 rfl r01 r12 q0c0).symm)) (fun hc252 => ?_)
        refine oIload C at_255 rfl rfl ?_
        refine oLload C at_257 rfl rfl ?_
        refine oLload C at_259 rfl rfl ?_
        refine oIconst C at_261 (z := 0) rfl rfl ?_
        refine oIload C at_262 rfl rfl ?_
        refine oLload C at_264 rfl rfl ?_
        refine oLload C at_266 rfl rfl ?_
        refine oLload C at_268 rfl rfl ?_
        refine oCallS C (w24 hw) (w25 hw) (w26 hw) (w27 hw) at_270 (by decide) pd_717522 rfl rfl (argsL := [.long c1, .long c0, .int 0, .int 3, .long s0, .long s1, .long s2]) (rest := [.int 1]) rfl (W := 1) rfl (q := 273) rfl (by decide) (by decide) (by decide) (by decide) (mt_fExp l Z a0 hw _ n0 z568 c1 c0 (0 : Int32) (3 : Int32) s0 s1 s2 ) (oPureK ?_)
        refine oIcmp_ne C at_273 (q := 322) (by decide) (by decide) (r := 276) rfl (fun hq => absurd hq (not_not_intro (oe3000 c1 c0 s0 s1 s2 rc1 r01 r12 q0c0 q0c1).symm)) (fun hc273 => ?_)
        refine oIload C at_276 rfl rfl ?_
        refine oLload C at_278 rfl rfl ?_
        refine oLload C at_280 rfl rfl ?_
        refine oIconst C at_282 (z := 0) rfl rfl ?_
        refine oIload C at_283 rfl rfl ?_
        refine oLload C at_285 rfl rfl ?_
        refine oLload C at_287 rfl rfl ?_
        refine oLload C at_289 rfl rfl ?_
        refine oCallS C (w24 hw) (w25 hw) (w26 hw) (w27 hw) at_291 (by decide) pd_717522 rfl rfl (argsL := [.long c2, .long c1, .int 0, .int 3, .long s0, .long s1, .long s2]) (rest := [.int 1]) rfl (W := 1) rfl (q := 294) rfl (by decide) (by decide) (by decide) (by decide) (mt_fExp l Z a0 hw _ n0 z568 c2 c1 (0 : Int32) (3 : Int32) s0 s1 s2 ) (oPureK ?_)
        refine oIcmp_ne C at_294 (q := 322) (by decide) (by decide) (r := 297) rfl (fun hq => absurd hq (not_not_intro (oe3003 c2 c1 s0 s1 s2 rc2 r01 r12 q0c1 q0c2 q1c2 q2c2).symm)) (fun hc294 => ?_)
        refine oIload C at_297 rfl rfl ?_
        refine oLload C at_299 rfl rfl ?_
        refine oLload C at_301 rfl rfl ?_
        refine oIconst C at_303 (z := 0) rfl rfl ?_
        refine oIload C at_304 rfl rfl ?_
        refine oLload C at_306 rfl rfl ?_
        refine oLload C at_308 rfl rfl ?_
        refine oLload C at_310 rfl rfl ?_
        refine oCallS C (w24 hw) (w25 hw) (w26 hw) (w27 hw) at_312 (by decide) pd_717522 rfl rfl (argsL := [.long c3, .long c2, .int 0, .int 3, .long s0, .long s1, .long s2]) (rest := [.int 0]) rfl (W := 1) rfl (q := 315) rfl (by decide) (by decide) (by decide) (by decide) (mt_fExp l Z a0 hw _ n0 z568 c3 c2 (0 : Int32) (3 : Int32) s0 s1 s2 ) (oPureK ?_)
        refine oIcmp_ne C at_315 (q := 322) (by decide) (by decide) (r := 318) rfl (fun hq => absurd hq (not_not_intro (oe3033 c3 c2 s0 s1 s2 rc3 r01 r12 q0c2 q1c2 q2c2).symm)) (fun hc315 => ?_)
        refine oIconst C at_318 (z := 1) rfl rfl ?_
        refine oGoto C at_319 (q := 323) (by decide) (by decide) ?_
        refine oRetZ C at_323 (z' := (1 : Int32)) rfl (by decide) (by decide) ?_
        exact rfl
    ·
     by_cases q1c1 : s1 < c1
     ·
      have f573 := (K436.fld f433 nin0 oN0)
      have f574 := (K436.fld f431_0 nin0 oN0)
      have f575 := (K436.arr f435 nin0 oA0)
      have f576 := (K436.exa f437)
      have z578 := (Nat.le_trans z438 K436.1)
      refine oCallV C (w17 hw) (w18 hw) (w20 hw) (w19 hw) (w8 hw) (w21 hw) at_211 f576 (by decide) pd_692006 rfl rfl (a := a429) (argsL := [.long c1]) (rest := []) rfl (W := 0) rfl (q := 214) rfl (by decide) (by decide) (by decide) (by decide) (ac4_12 l Z a0 hw _ n0 z578 a429 c1 a425 s0 s1 s2 f573 f574 f575 q0c1 f576 ge_a429 ne434 q1c1) (oRQ ?_)
      rintro h577 ⟨K577, f577_0⟩
      refine oIstore C at_214 (Ls' := #[.val (.long x0), .second, .val (.int n9), .val (.int sg), .val (.int cg), .val (.long tt), .second, .val (.int 3), .val (.long s0), .second, .val (.long s1), .second, .val (.long s2), .second, .val (.long c0), .second, .val (.long c1), .second, .val (.long c2), .second, .val (.long c3), .second, .val (.ref a425), .val (.ref a429), .val (.int 1), .val (.int 1), .unset, .unset]) rfl (q := 216) rfl ?_
      refine oAload C at_216 rfl rfl rfl ?_
      refine oLload C at_218 rfl rfl ?_
      by_cases q1c2 : s1 < c2
      ·
       have f579 := (K577.fld f574 nin0 (oNF (Or.inr (oSn0 hw 0 1)) oN0))
       have f580 := (K577.arr f575 nin0 (oAS ne434 oA0))
       have f582 := (K577.exa f576)
       have z583 := (Nat.le_trans z578 K577.1)
       refine oCallV C (w17 hw) (w18 hw) (w20 hw) (w19 hw) (w8 hw) (w21 hw) at_220 f582 (by decide) pd_692006 rfl rfl (a := a429) (argsL := [.long c2]) (rest := []) rfl (W := 0) rfl (q := 223) rfl (by decide) (by decide) (by decide) (by decide) (ac4_15 l Z a0 hw _ n0 z583 a429 c2 a425 s0 s1 s2 f577_0 f579 f580 q1c2) (oRQ ?_)
       rintro h581 K581
       refine oIstore C at_223 (Ls' := #[.val (.long x0), .second, .val (.int n9), .val (.int sg), .val (.int cg), .val (.long tt), .second, .val (.int 3), .val (.long s0), .second, .val (.long s1), .second, .val (.long s2), .second, .val (.long c0), .second, .val (.long c1), .second, .val (.long c2), .second, .val (.long c3), .second, .val (.ref a425), .val (.ref a429), .val (.int 1), .val (.int 1), .val (.int 0), .unset]) rfl (q := 225) rfl ?_
       refine oAload C at_225 rfl rfl rfl ?_
       refine oLload C at_227 rfl rfl ?_
       by_cases q1c3 : s1 < c3
       ·
        have f584 := (K581.fld f577_0 nin0 oN0)
        have f585 := (K581.fld f579 nin0 oN0)
        have f586 := (K581.arr f580 nin0 oA0)
        have f588 := (K581.exa f582)
        have z589 := (Nat.le_trans z583 K581.1)
        refine oCallV C (w17 hw) (w18 hw) (w20 hw) (w19 hw) (w8 hw) (w21 hw) at_229 f588 (by decide) pd_692006 rfl rfl (a := a429) (argsL := [.long c3]) (rest := []) rfl (W := 0) rfl (q := 232) rfl (by decide) (by decide) (by decide) (by decide) (ac4_15 l Z a0 hw _ n0 z589 a429 c3 a425 s0 s1 s2 f584 f585 f586 q1c3) (oRQ ?_)
        rintro h587 K587
        refine oIstore C at_232 (Ls' := #[.val (.long x0), .second, .val (.int n9), .val (.int sg), .val (.int cg), .val (.long tt), .second, .val (.int 3), .val (.long s0), .second, .val (.long s1), .second, .val (.long s2), .second, .val (.long c0), .second, .val (.long c1), .second, .val (.long c2), .second, .val (.long c3), .second, .val (.ref a425), .val (.ref a429), .val (.int 1), .val (.int 1), .val (.int 0), .val (.int 0)]) rfl (q := 234) rfl ?_
        refine oIload C at_234 rfl rfl ?_
        refine oLload C at_236 rfl rfl ?_
        refine oLload C at_238 rfl rfl ?_
        refine oIconst C at_240 (z := 1) rfl rfl ?_
        refine oIload C at_241 rfl rfl ?_
        refine oLload C at_243 rfl rfl ?_
        refine oLload C at_245 rfl rfl ?_
        refine oLload C at_247 rfl rfl ?_
        have z590 := (Nat.le_trans z589 K587.1)
        refine oCallS C (w24 hw) (w25 hw) (w26 hw) (w27 hw) at_249 (by decide) pd_717522 rfl rfl (argsL := [.long c0, .long c0, .int 1, .int 3, .long s0, .long s1, .long s2]) (rest := [.int 1]) rfl (W := 1) rfl (q := 252) rfl (by decide) (by decide) (by decide) (by decide) (mt_fExp l Z a0 hw _ n0 z590 c0 c0 (1 : Int32) (3 : Int32) s0 s1 s2 ) (oPureK ?_)
        refine oIcmp_ne C at_252 (q := 322) (by decide) (by decide) (r := 255) rfl (fun hq => absurd hq (not_not_intro (oe3100 c0 c0 s0 s1 s2 rfl r01 r12 q0c0).symm)) (fun hc252 => ?_)
        refine oIload C at_255 rfl rfl ?_
        refine oLload C at_257 rfl rfl ?_
        refine oLload C at_259 rfl rfl ?_
        refine oIconst C at_261 (z := 0) rfl rfl ?_
        refine oIload C at_262 rfl rfl ?_
        refine oLload C at_264 rfl rfl ?_
        refine oLload C at_266 rfl rfl ?_
        refine oLload C at_268 rfl rfl ?_
        refine oCallS C (w24 hw) (w25 hw) (w26 hw) (w27 hw) at_270 (by decide) pd_717522 rfl rfl (argsL := [.long c1, .long c0, .int 0, .int 3, .long s0, .long s1, .long s2]) (rest := [.int 1]) rfl (W := 1) rfl (q := 273) rfl (by decide) (by decide) (by decide) (by decide) (mt_fExp l Z a0 hw _ n0 z590 c1 c0 (0 : Int32) (3 : Int32) s0 s1 s2 ) (oPureK ?_)
        refine oIcmp_ne C at_273 (q := 322) (by decide) (by decide) (r := 276) rfl (fun hq => absurd hq (not_not_intro (oe3001 c1 c0 s0 s1 s2 rc1 r01 r12 q0c0 q0c1 q1c1).symm)) (fun hc273 => ?_)
        refine oIload C at_276 rfl rfl ?_
        refine oLload C at_278 rfl rfl ?_
        refine oLload C at_280 rfl rfl ?_
        refine oIconst C at_282 (z := 0) rfl rfl ?_
        refine oIload C at_283 rfl rfl ?_
        refine oLload C at_285 rfl rfl ?_
        refine oLload C at_287 rfl rfl ?_
        refine oLload C at_289 rfl rfl ?_
        refine oCallS C (w24 hw) (w25 hw) (w26 hw) (w27 hw) at_291 (by decide) pd_717522 rfl rfl (argsL := [.long c2, .long c1, .int 0, .int 3, .long s0, .long s1, .long s2]) (rest := [.int 0]) rfl (W := 1) rfl (q := 294) rfl (by decide) (by decide) (by decide) (by decide) (mt_fExp l Z a0 hw _ n0 z590 c2 c1 (0 : Int32) (3 : Int32) s0 s1 s2 ) (oPureK ?_)
        refine oIcmp_ne C at_294 (q := 322) (by decide) (by decide) (r := 297) rfl (fun hq => absurd hq (not_not_intro (oe3011 c2 c1 s0 s1 s2 rc2 r01 r12 q0c1 q1c1 q1c2).symm)) (fun hc294 => ?_)
        refine oIload C at_297 rfl rfl ?_
        refine oLload C at_299 rfl rfl ?_
        refine oLload C at_301 rfl rfl ?_
        refine oIconst C at_303 (z := 0) rfl rfl ?_
        refine oIload C at_304 rfl rfl ?_
        refine oLload C at_306 rfl rfl ?_
        refine oLload C at_308 rfl rfl ?_
        refine oLload C at_310 rfl rfl ?_
        refine oCallS C (w24 hw) (w25 hw) (w26 hw) (w27 hw) at_312 (by decide) pd_717522 rfl rfl (argsL := [.long c3, .long c2, .int 0, .int 3, .long s0, .long s1, .long s2]) (rest := [.int 0]) rfl (W := 1) rfl (q := 315) rfl (by decide) (by decide) (by decide) (by decide) (mt_fExp l Z a0 hw _ n0 z590 c3 c2 (0 : Int32) (3 : Int32) s0 s1 s2 ) (oPureK ?_)
        refine oIcmp_ne C at_315 (q := 322) (by decide) (by decide) (r := 318) rfl (fun hq => absurd hq (not_not_intro (oe3011 c3 c2 s0 s1 s2 rc3 r01 r12 (own_mono q0c1 rc2) q1c2 q1c3).symm)) (fun hc315 => ?_)
        refine oIconst C at_318 (z := 1) rfl rfl ?_
        refine oGoto C at_319 (q := 323) (by decide) (by decide) ?_
        refine oRetZ C at_323 (z' := (1 : Int32)) rfl (by decide) (by decide) ?_
        exact rfl
       ·
        by_cases q2c3 : s2 < c3
        ·
         have f595 := (K581.fld f577_0 nin0 oN0)
         have f596 := (K581.fld f579 nin0 oN0)
         have f597 := (K581.arr f580 nin0 oA0)
         have f598 := (K581.exa f582)
         have z600 := (Nat.le_trans z583 K581.1)
         refine oCallV C (w17 hw) (w18 hw) (w20 hw) (w19 hw) (w8 hw) (w21 hw) at_229 f598 (by decide) pd_692006 rfl rfl (a := a429) (argsL := [.long c3]) (rest := []) rfl (W := 0) rfl (q := 232) rfl (by decide) (by decide) (by decide) (by decide) (ac4_16 l Z a0 hw _ n0 z600 a429 c3 a425 s0 s1 s2 f595 f596 f597 q1c3 f598 ge_a429 ne434 q2c3) (oRQ ?_)
         rintro h599 ⟨K599, f599_0⟩
         refine oIstore C at_232 (Ls' := #[.val (.long x0), .second, .val (.int n9), .val (.int sg), .val (.int cg), .val (.long tt), .second, .val (.int 3), .val (.long s0), .second, .val (.long s1), .second, .val (.long s2), .second, .val (.long c0), .second, .val (.long c1), .second, .val (.long c2), .second, .val (.long c3), .second, .val (.ref a425), .val (.ref a429), .val (.int 1), .val (.int 1), .val (.int 0), .val (.int 1)]) rfl (q := 234) rfl ?_
         refine oIload C at_234 rfl rfl ?_
         refine oLload C at_236 rfl rfl ?_
         refine oLload C at_238 rfl rfl ?_
         refine oIconst C at_240 (z := 1) rfl rfl ?_
         refine oIload C at_241 rfl rfl ?_
         refine oLload C at_243 rfl rfl ?_
         refine oLload C at_245 rfl rfl ?_
         refine oLload C at_247 rfl rfl ?_
         have z601 := (Nat.le_trans z600 K599.1)
         refine oCallS C (w24 hw) (w25 hw) (w26 hw) (w27 hw) at_249 (by decide) pd_717522 rfl rfl (argsL := [.long c0, .long c0, .int 1, .int 3, .long s0, .long s1, .long s2]) (rest := [.int 1]) rfl (W := 1) rfl (q := 252) rfl (by decide) (by decide) (by decide) (by decide) (mt_fExp l Z a0 hw _ n0 z601 c0 c0 (1 : Int32) (3 : Int32) s0 s1 s2 ) (oPureK ?_)
         refine oIcmp_ne C at_252 (q := 322) (by decide) (by decide) (r := 255) rfl (fun hq => absurd hq (not_not_intro (oe3100 c0 c0 s0 s1 s2 rfl r01 r12 q0c0).symm)) (fun hc252 => ?_)
         refine oIload C at_255 rfl rfl ?_
         refine oLload C at_257 rfl rfl ?_
         refine oLload C at_259 rfl rfl ?_
         refine oIconst C at_261 (z := 0) rfl rfl ?_
         refine oIload C at_262 rfl rfl ?_
         refine oLload C at_264 rfl rfl ?_
         refine oLload C at_266 rfl rfl ?_
         refine oLload C at_268 rfl rfl ?_
         refine oCallS C (w24 hw) (w25 hw) (w26 hw) (w27 hw) at_270 (by decide) pd_717522 rfl rfl (argsL := [.long c1, .long c0, .int 0, .int 3, .long s0, .long s1, .long s2]) (rest := [.int 1]) rfl (W := 1) rfl (q := 273) rfl (by decide) (by decide) (by decide) (by decide) (mt_fExp l Z a0 hw _ n0 z601 c1 c0 (0 : Int32) (3 : Int32) s0 s1 s2 ) (oPureK ?_)
         refine oIcmp_ne C at_273 (q := 322) (by decide) (by decide) (r := 276) rfl (fun hq => absurd hq (not_not_intro (oe3001 c1 c0 s0 s1 s2 rc1 r01 r12 q0c0 q0c1 q1c1).symm)) (fun hc273 => ?_)
         refine oIload C at_276 rfl rfl ?_
         refine oLload C at_278 rfl rfl ?_
         refine oLload C at_280 rfl rfl ?_
         refine oIconst C at_282 (z := 0) rfl rfl ?_
         refine oIload C at_283 rfl rfl ?_
         refine oLload C at_285 rfl rfl ?_
         refine oLload C at_287 rfl rfl ?_
         refine oLload C at_289 rfl rfl ?_
         refine oCallS C (w24 hw) (w25 hw) (w26 hw) (w27 hw) at_291 (by decide) pd_717522 rfl rfl (argsL := [.long c2, .long c1, .int 0, .int 3, .long s0, .long s1, .long s2]) (rest := [.int 0]) rfl (W := 1) rfl (q := 294) rfl (by decide) (by decide) (by decide) (by decide) (mt_fExp l Z a0 hw _ n0 z601 c2 c1 (0 : Int32) (3 : Int32) s0 s1 s2 ) (oPureK ?_)
         refine oIcmp_ne C at_294 (q := 322) (by decide) (by decide) (r := 297) rfl (fun hq => absurd hq (not_not_intro (oe3011 c2 c1 s0 s1 s2 rc2 r01 r12 q0c1 q1c1 q1c2).symm)) (fun hc294 => ?_)
         refine oIload C at_297 rfl rfl ?_
         refine oLload C at_299 rfl rfl ?_
         refine oLload C at_301 rfl rfl ?_
         refine oIconst C at_303 (z := 0) rfl rfl ?_
         refine oIload C at_304 rfl rfl ?_
         refine oLload C at_306 rfl rfl ?_
         refine oLload C at_308 rfl rfl ?_
         refine oLload C at_310 rfl rfl ?_
         refine oCallS C (w24 hw) (w25 hw) (w26 hw) (w27 hw) at_312 (by decide) pd_717522 rfl rfl (argsL := [.long c3, .long c2, .int 0, .int 3, .long s0, .long s1, .long s2]) (rest := [.int 1]) rfl (W := 1) rfl (q := 315) rfl (by decide) (by decide) (by decide) (by decide) (mt_fExp l Z a0 hw _ n0 z601 c3 c2 (0 : Int32) (3 : Int32) s0 s1 s2 ) (oPureK ?_)
         refine oIcmp_ne C at_315 (q := 322) (by decide) (by decide) (r := 318) rfl (fun hq => absurd hq (not_not_intro (oe3012 c3 c2 s0 s1 s2 rc3 r01 r12 (own_mono q0c1 rc2) q1c2 q1c3 q2c3).symm)) (fun hc315 => ?_)
         refine oIconst C at_318 (z := 1) rfl rfl ?_
         refine oGoto C at_319 (q := 323) (by decide) (by decide) ?_
         refine oRetZ C at_323 (z' := (1 : Int32)) rfl (by decide) (by decide) ?_
         exact rfl
        ·
         have f606 := (K581.fld f577_0 nin0 oN0)
         have f607 := (K581.fld f579 nin0 oN0)
         have f608 := (K581.arr f580 nin0 oA0)
         have f609 := (K581.exa f582)
         have z611 := (Nat.le_trans z583 K581.1)
         refine oCallV C (w17 hw) (w18 hw) (w20 hw) (w19 hw) (w8 hw) (w21 hw) at_229 f609 (by decide) pd_692006 rfl rfl (a := a429) (argsL := [.long c3]) (rest := []) rfl (W := 0) rfl (q := 232) rfl (by decide) (by decide) (by decide) (by decide) (ac4_17 l Z a0 hw _ n0 z611 a429 c3 a425 s0 s1 s2 f606 f607 f608 q1c3 f609 ge_a429 ne434 q2c3) (oRQ ?_)
         rintro h610 ⟨K610, f610_0⟩
         refine oIstore C at_232 (Ls' := #[.val (.long x0), .second, .val (.int n9), .val (.int sg), .val (.int cg), .val (.long tt), .second, .val (.int 3), .val (.long s0), .second, .val (.long s1), .second, .val (.long s2), .second, .val (.long c0), .second, .val (.long c1), .second, .val (.long c2), .second, .val (.long c3), .second, .val (.ref a425), .val (.ref a429), .val (.int 1), .val (.int 1), .val (.int 0), .val (.int 1)]) rfl (q := 234) rfl ?_
         refine oIload C at_234 rfl rfl ?_
         refine oLload C at_236 rfl rfl ?_
         refine oLload C at_238 rfl rfl ?_
         refine oIconst C at_240 (z := 1) rfl rfl ?_
         refine oIload C at_241 rfl rfl ?_
         refine oLload C at_243 rfl rfl ?_
         refine oLload C at_245 rfl rfl ?_
         refine oLload C at_247 rfl rfl ?_
         have z612 := (Nat.le_trans z611 K610.1)
         refine oCallS C (w24 hw) (w25 hw) (w26 hw) (w27 hw) at_249 (by decide) pd_717522 rfl rfl (argsL := [.long c0, .long c0, .int 1, .int 3, .long s0, .long s1, .long s2]) (rest := [.int 1]) rfl (W := 1) rfl (q := 252) rfl (by decide) (by decide) (by decide) (by decide) (mt_fExp l Z a0 hw _ n0 z612 c0 c0 (1 : Int32) (3 : Int32) s0 s1 s2 ) (oPureK ?_)
         refine oIcmp_ne C at_252 (q := 322) (by decide) (by decide) (r := 255) rfl (fun hq => absurd hq (not_not_intro (oe3100 c0 c0 s0 s1 s2 rfl r01 r12 q0c0).symm)) (fun hc252 => ?_)
         refine oIload C at_255 rfl rfl ?_
         refine oLload C at_257 rfl rfl ?_
         refine oLload C at_259 rfl rfl ?_
         refine oIconst C at_261 (z := 0) rfl rfl ?_
         refine oIload C at_262 rfl rfl ?_
         refine oLload C at_264 rfl rfl ?_
         refine oLload C at_266 rfl rfl ?_
         refine oLload C at_268 rfl rfl ?_
         refine oCallS C (w24 hw) (w25 hw) (w26 hw) (w27 hw) at_270 (by decide) pd_717522 rfl rfl (argsL := [.long c1, .long c0, .int 0, .int 3, .long s0, .long s1, .long s2]) (rest := [.int 1]) rfl (W := 1) rfl (q := 273) rfl (by decide) (by decide) (by decide) (by decide) (mt_fExp l Z a0 hw _ n0 z612 c1 c0 (0 : Int32) (3 : Int32) s0 s1 s2 ) (oPureK ?_)
         refine oIcmp_ne C at_273 (q := 322) (by decide) (by decide) (r := 276) rfl (fun hq => absurd hq (not_not_intro (oe3001 c1 c0 s0 s1 s2 rc1 r01 r12 q0c0 q0c1 q1c1).symm)) (fun hc273 => ?_)
         refine oIload C at_276 rfl rfl ?_
         refine oLload C at_278 rfl rfl ?_
         refine oLload C at_280 rfl rfl ?_
         refine oIconst C at_282 (z := 0) rfl rfl ?_
         refine oIload C at_283 rfl rfl ?_
         refine oLload C at_285 rfl rfl ?_
         refine oLload C at_287 rfl rfl ?_
         refine oLload C at_289 rfl rfl ?_
         refine oCallS C (w24 hw) (w25 hw) (w26 hw) (w27 hw) at_291 (by decide) pd_717522 rfl rfl (argsL := [.long c2, .long c1, .int 0, .int 3, .long s0, .long s1, .long s2]) (rest := [.int 0]) rfl (W := 1) rfl (q := 294) rfl (by decide) (by decide) (by decide) (by decide) (mt_fExp l Z a0 hw _ n0 z612 c2 c1 (0 : Int32) (3 : Int32) s0 s1 s2 ) (oPureK ?_)
         refine oIcmp_ne C at_294 (q := 322) (by decide) (by decide) (r := 297) rfl (fun hq => absurd hq (not_not_intro (oe3011 c2 c1 s0 s1 s2 rc2 r01 r12 q0c1 q1c1 q1c2).symm)) (fun hc294 => ?_)
         refine oIload C at_297 rfl rfl ?_
         refine oLload C at_299 rfl rfl ?_
         refine oLload C at_301 rfl rfl ?_
         refine oIconst C at_303 (z := 0) rfl rfl ?_
         refine oIload C at_304 rfl rfl ?_
         refine oLload C at_306 rfl rfl ?_
         refine oLload C at_308 rfl rfl ?_
         refine oLload C at_310 rfl rfl ?_
         refine oCallS C (w24 hw) (w25 hw) (w26 hw) (w27 hw) at_312 (by decide) pd_717522 rfl rfl (argsL := [.long c3, .long c2, .int 0, .int 3, .long s0, .long s1, .long s2]) (rest := [.int 1]) rfl (W := 1) rfl (q := 315) rfl (by decide) (by decide) (by decide) (by decide) (mt_fExp l Z a0 hw _ n0 z612 c3 c2 (0 : Int32) (3 : Int32) s0 s1 s2 ) (oPureK ?_)
         refine oIcmp_ne C at_315 (q := 322) (by decide) (by decide) (r := 318) rfl (fun hq => absurd hq (not_not_intro (oe3013 c3 c2 s0 s1 s2 rc3 r01 r12 (own_mono q0c1 rc2) q1c2 q1c3 q2c3).symm)) (fun hc315 => ?_)
         refine oIconst C at_318 (z := 1) rfl rfl ?_
         refine oGoto C at_319 (q := 323) (by decide) (by decide) ?_
         refine oRetZ C at_323 (z' := (1 : Int32)) rfl (by decide) (by decide) ?_
         exact rfl
      ·
       by_cases q2c2 : s2 < c2
       ·
        have f617 := (K577.fld f574 nin0 (oNF (Or.inr (oSn0 hw 0 1)) oN0))
        have f618 := (K577.arr f575 nin0 (oAS ne434 oA0))
        have f619 := (K577.exa f576)
        have z621 := (Nat.le_trans z578 K577.1)
        refine oCallV C (w17 hw) (w18 hw) (w20 hw) (w19 hw) (w8 hw) (w21 hw) at_220 f619 (by decide) pd_692006 rfl rfl (a := a429) (argsL := [.long c2]) (rest := []) rfl (W := 0) rfl (q := 223) rfl (by decide) (by decide) (by decide) (by decide) (ac4_16 l Z a0 hw _ n0 z621 a429 c2 a425 s0 s1 s2 f577_0 f617 f618 q1c2 f619 ge_a429 ne434 q2c2) (oRQ ?_)
        rintro h620 ⟨K620, f620_0⟩
        refine oIstore C at_223 (Ls' := #[.val (.long x0), .second, .val (.int n9), .val (.int sg), .val (.int cg), .val (.long tt), .second, .val (.int 3), .val (.long s0), .second, .val (.long s1), .second, .val (.long s2), .second, .val (.long c0), .second, .val (.long c1), .second, .val (.long c2), .second, .val (.long c3), .second, .val (.ref a425), .val (.ref a429), .val (.int 1), .val (.int 1), .val (.int 1), .unset]) rfl (q := 225) rfl ?_
        refine oAload C at_225 rfl rfl rfl ?_
        refine oLload C at_227 rfl rfl ?_
        by_cases q2c3 : s2 < c3
        ·
         have f622 := (K620.fld f617 nin0 (oNF (Or.inr (oSn0 hw 0 1)) oN0))
         have f623 := (K620.arr f618 nin0 (oAS ne434 oA0))
         have f625 := (K620.exa f619)
         have z626 := (Nat.le_trans z621 K620.1)
         refine oCallV C (w17 hw) (w18 hw) (w20 hw) (w19 hw) (w8 hw) (w21 hw) at_229 f625 (by decide) pd_692006 rfl rfl (a := a429) (argsL := [.long c3]) (rest := []) rfl (W := 0) rfl (q := 232) rfl (by decide) (by decide) (by decide) (by decide) (ac4_18 l Z a0 hw _ n0 z626 a429 c3 a425 s0 s1 s2 f620_0 f622 f623 q2c3) (oRQ ?_)
         rintro h624 K624
         refine oIstore C at_232 (Ls' := #[.val (.long x0), .second, .val (.int n9), .val (.int sg), .val (.int cg), .val (.long tt), .second, .val (.int 3), .val (.long s0), .second, .val (.long s1), .second, .val (.long s2), .second, .val (.long c0), .second, .val (.long c1), .second, .val (.long c2), .second, .val (.long c3), .second, .val (.ref a425), .val (.ref a429), .val (.int 1), .val (.int 1), .val (.int 1), .val (.int 0)]) rfl (q := 234) rfl ?_
         refine oIload C at_234 rfl rfl ?_
         refine oLload C at_236 rfl rfl ?_
         refine oLload C at_238 rfl rfl ?_
         refine oIconst C at_240 (z := 1) rfl rfl ?_
         refine oIload C at_241 rfl rfl ?_
         refine oLload C at_243 rfl rfl ?_
         refine oLload C at_245 rfl rfl ?_
         refine oLload C at_247 rfl rfl ?_
         have z627 := (Nat.le_trans z626 K624.1)
         refine oCallS C (w24 hw) (w25 hw) (w26 hw) (w27 hw) at_249 (by decide) pd_717522 rfl rfl (argsL := [.long c0, .long c0, .int 1, .int 3, .long s0, .long s1, .long s2]) (rest := [.int 1]) rfl (W := 1) rfl (q := 252) rfl (by decide) (by decide) (by decide) (by decide) (mt_fExp l Z a0 hw _ n0 z627 c0 c0 (1 : Int32) (3 : Int32) s0 s1 s2 ) (oPureK ?_)
         refine oIcmp_ne C at_252 (q := 322) (by decide) (by decide) (r := 255) rfl (fun hq => absurd hq (not_not_intro (oe3100 c0 c0 s0 s1 s2 rfl r01 r12 q0c0).symm)) (fun hc252 => ?_)
         refine oIload C at_255 rfl rfl ?_
         refine oLload C at_257 rfl rfl ?_
         refine oLload C at_259 rfl rfl ?_
         refine oIconst C at_261 (z := 0) rfl rfl ?_
         refine oIload C at_262 rfl rfl ?_
         refine oLload C at_264 rfl rfl ?_
         refine oLload C at_266 rfl rfl ?_
         refine oLload C at_268 rfl rfl ?_
         refine oCallS C (w24 hw) (w25 hw) (w26 hw) (w27 hw) at_270 (by decide) pd_717522 rfl rfl (argsL := [.long c1, .long c0, .int 0, .int 3, .long s0, .long s1, .long s2]) (rest := [.int 1]) rfl (W := 1) rfl (q := 273) rfl (by decide) (by decide) (by decide) (by decide) (mt_fExp l Z a0 hw _ n0 z627 c1 c0 (0 : Int32) (3 : Int32) s0 s1 s2 ) (oPureK ?_)
         refine oIcmp_ne C at_273 (q := 322) (by decide) (by decide) (r := 276) rfl (fun hq => absurd hq (not_not_intro (oe3001 c1 c0 s0 s1 s2 rc1 r01 r12 q0c0 q0c1 q1c1).symm)) (fun hc273 => ?_)
         refine oIload C at_276 rfl rfl ?_
         refine oLload C at_278 rfl rfl ?_
         refine oLload C at_280 rfl rfl ?_
         refine oIconst C at_282 (z := 0) rfl rfl ?_
         refine oIload C at_283 rfl rfl ?_
         refine oLload C at_285 rfl rfl ?_
         refine oLload C at_287 rfl rfl ?_
         refine oLload C at_289 rfl rfl ?_
         refine oCallS C (w24 hw) (w25 hw) (w26 hw) (w27 hw) at_291 (by decide) pd_717522 rfl rfl (argsL := [.long c2, .long c1, .int 0, .int 3, .long s0, .long s1, .long s2]) (rest := [.int 1]) rfl (W := 1) rfl (q := 294) rfl (by decide) (by decide) (by decide) (by decide) (mt_fExp l Z a0 hw _ n0 z627 c2 c1 (0 : Int32) (3 : Int32) s0 s1 s2 ) (oPureK ?_)
         refine oIcmp_ne C at_294 (q := 322) (by decide) (by decide) (r := 297) rfl (fun hq => absurd hq (not_not_intro (oe3012 c2 c1 s0 s1 s2 rc2 r01 r12 q0c1 q1c1 q1c2 q2c2).symm)) (fun hc294 => ?_)
         refine oIload C at_297 rfl rfl ?_
         refine oLload C at_299 rfl rfl ?_
         refine oLload C at_301 rfl rfl ?_
         refine oIconst C at_303 (z := 0) rfl rfl ?_
         refine oIload C at_304 rfl rfl ?_
         refine oLload C at_306 rfl rfl ?_
         refine oLload C at_308 rfl rfl ?_
         refine oLload C at_310 rfl rfl ?_
         refine oCallS C (w24 hw) (w25 hw) (w26 hw) (w27 hw) at_312 (by decide) pd_717522 rfl rfl (argsL := [.long c3, .long c2, .int 0, .int 3, .long s0, .long s1, .long s2]) (rest := [.int 0]) rfl (W := 1) rfl (q := 315) rfl (by decide) (by decide) (by decide) (by decide) (mt_fExp l Z a0 hw _ n0 z627 c3 c2 (0 : Int32) (3 : Int32) s0 s1 s2 ) (oPureK ?_)
         refine oIcmp_ne C at_315 (q := 322) (by decide) (by decide) (r := 318) rfl (fun hq => absurd hq (not_not_intro (oe3022 c3 c2 s0 s1 s2 rc3 r01 r12 (own_mono q0c1 rc2) q1c2 q2c2 q2c3).symm)) (fun hc315 => ?_)
         refine oIconst C at_318 (z := 1) rfl rfl ?_
         refine oGoto C at_319 (q := 323) (by decide) (by decide) ?_
         refine oRetZ C at_323 (z' := (1 : Int32)) rfl (by decide) (by decide) ?_
         exact rfl
        ·
         have f632 := (K620.fld f617 nin0 (oNF (Or.inr (oSn0 hw 0 1)) oN0))
         have f633 := (K620.arr f618 nin0 (oAS ne434 oA0))
         have f634 := (K620.exa f619)
         have z636 := (Nat.le_trans z621 K620.1)
         refine oCallV C (w17 hw) (w18 hw) (w20 hw) (w19 hw) (w8 hw) (w21 hw) at_229 f634 (by decide) pd_692006 rfl rfl (a := a429) (argsL := [.long c3]) (rest := []) rfl (W := 0) rfl (q := 232) rfl (by decide) (by decide) (by decide) (by decide) (ac4_19 l Z a0 hw _ n0 z636 a429 c3 a425 s0 s1 s2 f620_0 f632 f633 q2c3 f634 ge_a429 ne434) (oRQ ?_)
         rintro h635 ⟨K635, f635_0⟩
         refine oIstore C at_232 (Ls' := #[.val (.long x0), .second, .val (.int n9), .val (.int sg), .val (.int cg), .val (.long tt), .second, .val (.int 3), .val (.long s0), .second, .val (.long s1), .second, .val (.long s2), .second, .val (.long c0), .second, .val (.long c1), .second, .val (.long c2), .second, .val (.long c3), .second, .val (.ref a425), .val (.ref a429), .val (.int 1), .val (.int 1), .val (.int 1), .val (.int 1)]) rfl (q := 234) rfl ?_
         refine oIload C at_234 rfl rfl ?_
         refine oLload C at_236 rfl rfl ?_
         refine oLload C at_238 rfl rfl ?_
         refine oIconst C at_240 (z := 1) rfl rfl ?_
         refine oIload C at_241 rfl rfl ?_
         refine oLload C at_243 rfl rfl ?_
         refine oLload C at_245 rfl rfl ?_
         refine oLload C at_247 rfl rfl ?_
         have z637 := (Nat.le_trans z636 K635.1)
         refine oCallS C (w24 hw) (w25 hw) (w26 hw) (w27 hw) at_249 (by decide) pd_717522 rfl rfl (argsL := [.long c0, .long c0, .int 1, .int 3, .long s0, .long s1, .long s2]) (rest := [.int 1]) rfl (W := 1) rfl (q := 252) rfl (by decide) (by decide) (by decide) (by decide) (mt_fExp l Z a0 hw _ n0 z637 c0 c0 (1 : Int32) (3 : Int32) s0 s1 s2 ) (oPureK ?_)
         refine oIcmp_ne C at_252 (q := 322) (by decide) (by decide) (r := 255) rfl (fun hq => absurd hq (not_not_intro (oe3100 c0 c0 s0 s1 s2 rfl r01 r12 q0c0).symm)) (fun hc252 => ?_)
         refine oIload C at_255 rfl rfl ?_
         refine oLload C at_257 rfl rfl ?_
         refine oLload C at_259 rfl rfl ?_
         refine oIconst C at_261 (z := 0) rfl rfl ?_
         refine oIload C at_262 rfl rfl ?_
         refine oLload C at_264 rfl rfl ?_
         refine oLload C at_266 rfl rfl ?_
         refine oLload C at_268 rfl rfl ?_
         refine oCallS C (w24 hw) (w25 hw) (w26 hw) (w27 hw) at_270 (by decide) pd_717522 rfl rfl (argsL := [.long c1, .long c0, .int 0, .int 3, .long s0, .long s1, .long s2]) (rest := [.int 1]) rfl (W := 1) rfl (q := 273) rfl (by decide) (by decide) (by decide) (by decide) (mt_fExp l Z a0 hw _ n0 z637 c1 c0 (0 : Int32) (3 : Int32) s0 s1 s2 ) (oPureK ?_)
         refine oIcmp_ne C at_273 (q := 322) (by decide) (by decide) (r := 276) rfl (fun hq => absurd hq (not_not_intro (oe3001 c1 c0 s0 s1 s2 rc1 r01 r12 q0c0 q0c1 q1c1).symm)) (fun hc273 => ?_)
         refine oIload C at_276 rfl rfl ?_
         refine oLload C at_278 rfl rfl ?_
         refine oLload C at_280 rfl rfl ?_
         refine oIconst C at_282 (z := 0) rfl rfl ?_
         refine oIload C at_283 rfl rfl ?_
         refine oLload C at_285 rfl rfl ?_
         refine oLload C at_287 rfl rfl ?_
         refine oLload C at_289 rfl rfl ?_
         refine oCallS C (w24 hw) (w25 hw) (w26 hw) (w27 hw) at_291 (by decide) pd_717522 rfl rfl (argsL := [.long c2, .long c1, .int 0, .int 3, .long s0, .long s1, .long s2]) (rest := [.int 1]) rfl (W := 1) rfl (q := 294) rfl (by decide) (by decide) (by decide) (by decide) (mt_fExp l Z a0 hw _ n0 z637 c2 c1 (0 : Int32) (3 : Int32) s0 s1 s2 ) (oPureK ?_)
         refine oIcmp_ne C at_294 (q := 322) (by decide) (by decide) (r := 297) rfl (fun hq => absurd hq (not_not_intro (oe3012 c2 c1 s0 s1 s2 rc2 r01 r12 q0c1 q1c1 q1c2 q2c2).symm)) (fun hc294 => ?_)
         refine oIload C at_297 rfl rfl ?_
         refine oLload C at_299 rfl rfl ?_
         refine oLload C at_301 rfl rfl ?_
         refine oIconst C at_303 (z := 0) rfl rfl ?_
         refine oIload C at_304 rfl rfl ?_
         refine oLload C at_306 rfl rfl ?_
         refine oLload C at_308 rfl rfl ?_
         refine oLload C at_310 rfl rfl ?_
         refine oCallS C (w24 hw) (w25 hw) (w26 hw) (w27 hw) at_312 (by decide) pd_717522 rfl rfl (argsL := [.long c3, .long c2, .int 0, .int 3, .long s0, .long s1, .long s2]) (rest := [.int 1]) rfl (W := 1) rfl (q := 315) rfl (by decide) (by decide) (by decide) (by decide) (mt_fExp l Z a0 hw _ n0 z637 c3 c2 (0 : Int32) (3 : Int32) s0 s1 s2 ) (oPureK ?_)
         refine oIcmp_ne C at_315 (q := 322) (by decide) (by decide) (r := 318) rfl (fun hq => absurd hq (not_not_intro (oe3023 c3 c2 s0 s1 s2 rc3 r01 r12 (own_mono q0c1 rc2) q1c2 q2c2 q2c3).symm)) (fun hc315 => ?_)
         refine oIconst C at_318 (z := 1) rfl rfl ?_
         refine oGoto C at_319 (q := 323) (by decide) (by decide) ?_
         refine oRetZ C at_323 (z' := (1 : Int32)) rfl (by decide) (by decide) ?_
         exact rfl
       ·
        have f642 := (K577.fld f574 nin0 (oNF (Or.inr (oSn0 hw 0 1)) oN0))
        have f643 := (K577.arr f575 nin0 (oAS ne434 oA0))
        have f644 := (K577.exa f576)
        have z646 := (Nat.le_trans z578 K577.1)
        refine oCallV C (w17 hw) (w18 hw) (w20 hw) (w19 hw) (w8 hw) (w21 hw) at_220 f644 (by decide) pd_692006 rfl rfl (a := a429) (argsL := [.long c2]) (rest := []) rfl (W := 0) rfl (q := 223) rfl (by decide) (by decide) (by decide) (by decide) (ac4_17 l Z a0 hw _ n0 z646 a429 c2 a425 s0 s1 s2 f577_0 f642 f643 q1c2 f644 ge_a429 ne434 q2c2) (oRQ ?_)
        rintro h645 ⟨K645, f645_0⟩
        refine oIstore C at_223 (Ls' := #[.val (.long x0), .second, .val (.int n9), .val (.int sg), .val (.int cg), .val (.long tt), .second, .val (.int 3), .val (.long s0), .second, .val (.long s1), .second, .val (.long s2), .second, .val (.long c0), .second, .val (.long c1), .second, .val (.long c2), .second, .val (.long c3), .second, .val (.ref a425), .val (.ref a429), .val (.int 1), .val (.int 1), .val (.int 1), .unset]) rfl (q := 225) rfl ?_
        refine oAload C at_225 rfl rfl rfl ?_
        refine oLload C at_227 rfl rfl ?_
        have f647 := (K645.fld f642 nin0 (oNF (Or.inr (oSn0 hw 0 1)) oN0))
        have f648 := (K645.arr f643 nin0 (oAS ne434 oA0))
        have f650 := (K645.exa f644)
        have z651 := (Nat.le_trans z646 K645.1)
        refine oCallV C (w17 hw) (w18 hw) (w20 hw) (w19 hw) (w8 hw) (w21 hw) at_229 f650 (by decide) pd_692006 rfl rfl (a := a429) (argsL := [.long c3]) (rest := []) rfl (W := 0) rfl (q := 232) rfl (by decide) (by decide) (by decide) (by decide) (ac4_20 l Z a0 hw _ n0 z651 a429 c3 a425 s0 s1 s2 f645_0 f647 f648) (oRQ ?_)
        rintro h649 K649
        refine oIstore C at_232 (Ls' := #[.val (.long x0), .second, .val (.int n9), .val (.int sg), .val (.int cg), .val (.long tt), .second, .val (.int 3), .val (.long s0), .second, .val (.long s1), .second, .val (.long s2), .second, .val (.long c0), .second, .val (.long c1), .second, .val (.long c2), .second, .val (.long c3), .second, .val (.ref a425), .val (.ref a429), .val (.int 1), .val (.int 1), .val (.int 1), .val (.int 0)]) rfl (q := 234) rfl ?_
        refine oIload C at_234 rfl rfl ?_
        refine oLload C at_236 rfl rfl ?_
        refine oLload C at_238 rfl rfl ?_
        refine oIconst C at_240 (z := 1) rfl rfl ?_
        refine oIload C at_241 rfl rfl ?_
        refine oLload C at_243 rfl rfl ?_
        refine oLload C at_245 rfl rfl ?_
        refine oLload C at_247 rfl rfl ?_
        have z652 := (Nat.le_trans z651 K649.1)
        refine oCallS C (w24 hw) (w25 hw) (w26 hw) (w27 hw) at_249 (by decide) pd_717522 rfl rfl (argsL := [.long c0, .long c0, .int 1, .int 3, .long s0, .long s1, .long s2]) (rest := [.int 1]) rfl (W := 1) rfl (q := 252) rfl (by decide) (by decide) (by decide) (by decide) (mt_fExp l Z a0 hw _ n0 z652 c0 c0 (1 : Int32) (3 : Int32) s0 s1 s2 ) (oPureK ?_)
        refine oIcmp_ne C at_252 (q := 322) (by decide) (by decide) (r := 255) rfl (fun hq => absurd hq (not_not_intro (oe3100 c0 c0 s0 s1 s2 rfl r01 r12 q0c0).symm)) (fun hc252 => ?_)
        refine oIload C at_255 rfl rfl ?_
        refine oLload C at_257 rfl rfl ?_
        refine oLload C at_259 rfl rfl ?_
        refine oIconst C at_261 (z := 0) rfl rfl ?_
        refine oIload C at_262 rfl rfl ?_
        refine oLload C at_264 rfl rfl ?_
        refine oLload C at_266 rfl rfl ?_
        refine oLload C at_268 rfl rfl ?_
        refine oCallS C (w24 hw) (w25 hw) (w26 hw) (w27 hw) at_270 (by decide) pd_717522 rfl rfl (argsL := [.long c1, .long c0, .int 0, .int 3, .long s0, .long s1, .long s2]) (rest := [.int 1]) rfl (W := 1) rfl (q := 273) rfl (by decide) (by decide) (by decide) (by decide) (mt_fExp l Z a0 hw _ n0 z652 c1 c0 (0 : Int32) (3 : Int32) s0 s1 s2 ) (oPureK ?_)
        refine oIcmp_ne C at_273 (q := 322) (by decide) (by decide) (r := 276) rfl (fun hq => absurd hq (not_not_intro (oe3001 c1 c0 s0 s1 s2 rc1 r01 r12 q0c0 q0c1 q1c1).symm)) (fun hc273 => ?_)
        refine oIload C at_276 rfl rfl ?_
        refine oLload C at_278 rfl rfl ?_
        refine oLload C at_280 rfl rfl ?_
        refine oIconst C at_282 (z := 0) rfl rfl ?_
        refine oIload C at_283 rfl rfl ?_
        refine oLload C at_285 rfl rfl ?_
        refine oLload C at_287 rfl rfl ?_
        refine oLload C at_289 rfl rfl ?_
        refine oCallS C (w24 hw) (w25 hw) (w26 hw) (w27 hw) at_291 (by decide) pd_717522 rfl rfl (argsL := [.long c2, .long c1, .int 0, .int 3, .long s0, .long s1, .long s2]) (rest := [.int 1]) rfl (W := 1) rfl (q := 294) rfl (by decide) (by decide) (by decide) (by decide) (mt_fExp l Z a0 hw _ n0 z652 c2 c1 (0 : Int32) (3 : Int32) s0 s1 s2 ) (oPureK ?_)
        refine oIcmp_ne C at_294 (q := 322) (by decide) (by decide) (r := 297) rfl (fun hq => absurd hq (not_not_intro (oe3013 c2 c1 s0 s1 s2 rc2 r01 r12 q0c1 q1c1 q1c2 q2c2).symm)) (fun hc294 => ?_)
        refine oIload C at_297 rfl rfl ?_
        refine oLload C at_299 rfl rfl ?_
        refine oLload C at_301 rfl rfl ?_
        refine oIconst C at_303 (z := 0) rfl rfl ?_
        refine oIload C at_304 rfl rfl ?_
        refine oLload C at_306 rfl rfl ?_
        refine oLload C at_308 rfl rfl ?_
        refine oLload C at_310 rfl rfl ?_
        refine oCallS C (w24 hw) (w25 hw) (w26 hw) (w27 hw) at_312 (by decide) pd_717522 rfl rfl (argsL := [.long c3, .long c2, .int 0, .int 3, .long s0, .long s1, .long s2]) (rest := [.int 0]) rfl (W := 1) rfl (q := 315) rfl (by decide) (by decide) (by decide) (by decide) (mt_fExp l Z a0 hw _ n0 z652 c3 c2 (0 : Int32) (3 : Int32) s0 s1 s2 ) (oPureK ?_)
        refine oIcmp_ne C at_315 (q := 322) (by decide) (by decide) (r := 318) rfl (fun hq => absurd hq (not_not_intro (oe3033 c3 c2 s0 s1 s2 rc3 r01 r12 (own_mono q0c1 rc2) q1c2 q2c2).symm)) (fun hc315 => ?_)
        refine oIconst C at_318 (z := 1) rfl rfl ?_
        refine oGoto C at_319 (q := 323) (by decide) (by decide) ?_
        refine oRetZ C at_323 (z' := (1 : Int32)) rfl (by decide) (by decide) ?_
        exact rfl
     ·
      by_cases q2c1 : s2 < c1
      ·
       have f657 := (K436.fld f433 nin0 oN0)
       have f658 := (K436.fld f431_0 nin0 oN0)
       have f659 := (K436.arr f435 nin0 oA0)
       have f660 := (K436.exa f437)
       have z662 := (Nat.le_trans z438 K436.1)
       refine oCallV C (w17 hw) (w18 hw) (w20 hw) (w19 hw) (w8 hw) (w21 hw) at_211 f660 (by decide) pd_692006 rfl rfl (a := a429) (argsL := [.long c1]) (rest := []) rfl (W := 0) rfl (q := 214) rfl (by decide) (by decide) (by decide) (by decide) (ac4_13 l Z a0 hw _ n0 z662 a429 c1 a425 s0 s1 s2 f657 f658 f659 q0c1 f660 ge_a429 ne434 q1c1 q2c1) (oRQ ?_)
       rintro h661 ⟨K661, f661_0⟩
       refine oIstore C at_214 (Ls' := #[.val (.long x0), .second, .val (.int n9), .val (.int sg), .val (.int cg), .val (.long tt), .second, .val (.int 3), .val (.long s0), .second, .val (.long s1), .second, .val (.long s2), .second, .val (.long c0), .second, .val (.long c1), .second, .val (.long c2), .second, .val (.long c3), .second, .val (.ref a425), .val (.ref a429), .val (.int 1), .val (.int 1), .unset, .unset]) rfl (q := 216) rfl ?_
       refine oAload C at_216 rfl rfl rfl ?_
       refine oLload C at_218 rfl rfl ?_
       by_cases q2c2 : s2 < c2
       ·
        have f663 := (K661.fld f658 nin0 (oNF (Or.inr (oSn0 hw 0 1)) oN0))
        have f664 := (K661.arr f659 nin0 (oAS ne434 oA0))
        have f666 := (K661.exa f660)
        have z667 := (Nat.le_trans z662 K661.1)
        refine oCallV C (w17 hw) (w18 hw) (w20 hw) (w19 hw) (w8 hw) (w21 hw) at_220 f666 (by decide) pd_692006 rfl rfl (a := a429) (argsL := [.long c2]) (rest := []) rfl (W := 0) rfl (q := 223) rfl (by decide) (by decide) (by decide) (by decide) (ac4_18 l Z a0 hw _ n0 z667 a429 c2 a425 s0 s1 s2 f661_0 f663 f664 q2c2) (oRQ ?_)
        rintro h665 K665
        refine oIstore C at_223 (Ls' := #[.val (.long x0), .second, .val (.int n9), .val (.int sg), .val (.int cg), .val (.long tt), .second, .val (.int 3), .val (.long s0), .second, .val (.long s1), .second, .val (.long s2), .second, .val (.long c0), .second, .val (.long c1), .second, .val (.long c2), .second, .val (.long c3), .second, .val (.ref a425), .val (.ref a429), .val (.int 1), .val (.int 1), .val (.int 0), .unset]) rfl (q := 225) rfl ?_
        refine oAload C at_225 rfl rfl rfl ?_
        refine oLload C at_227 rfl rfl ?_
        by_cases q2c3 : s2 < c3
        ·
         have f668 := (K665.fld f661_0 nin0 oN0)
         have f669 := (K665.fld f663 nin0 oN0)
         have f670 := (K665.arr f664 nin0 oA0)
         have f672 := (K665.exa f666)
         have z673 := (Nat.le_trans z667 K665.1)
         refine oCallV C (w17 hw) (w18 hw) (w20 hw) (w19 hw) (w8 hw) (w21 hw) at_229 f672 (by decide) pd_692006 rfl rfl (a := a429) (argsL := [.long c3]) (rest := []) rfl (W := 0) rfl (q := 232) rfl (by decide) (by decide) (by decide) (by decide) (ac4_18 l Z a0 hw _ n0 z673 a429 c3 a425 s0 s1 s2 f668 f669 f670 q2c3) (oRQ ?_)
         rintro h671 K671
         refine oIstore C at_232 (Ls' := #[.val (.long x0), .second, .val (.int n9), .val (.int sg), .val (.int cg), .val (.long tt), .second, .val (.int 3), .val (.long s0), .second, .val (.long s1), .second, .val (.long s2), .second, .val (.long c0), .second, .val (.long c1), .second, .val (.long c2), .second, .val (.long c3), .second, .val (.ref a425), .val (.ref a429), .val (.int 1), .val (.int 1), .val (.int 0), .val (.int 0)]) rfl (q := 234) rfl ?_
         refine oIload C at_234 rfl rfl ?_
         refine oLload C at_236 rfl rfl ?_
         refine oLload C at_238 rfl rfl ?_
         refine oIconst C at_240 (z := 1) rfl rfl ?_
         refine oIload C at_241 rfl rfl ?_
         refine oLload C at_243 rfl rfl ?_
         refine oLload C at_245 rfl rfl ?_
         refine oLload C at_247 rfl rfl ?_
         have z674 := (Nat.le_trans z673 K671.1)
         refine oCallS C (w24 hw) (w25 hw) (w26 hw) (w27 hw) at_249 (by decide) pd_717522 rfl rfl (argsL := [.long c0, .long c0, .int 1, .int 3, .long s0, .long s1, .long s2]) (rest := [.int 1]) rfl (W := 1) rfl (q := 252) rfl (by decide) (by decide) (by decide) (by decide) (mt_fExp l Z a0 hw _ n0 z674 c0 c0 (1 : Int32) (3 : Int32) s0 s1 s2 ) (oPureK ?_)
         refine oIcmp_ne C at_252 (q := 322) (by decide) (by decide) (r := 255) rfl (fun hq => absurd hq (not_not_intro (oe3100 c0 c0 s0 s1 s2 rfl r01 r12 q0c0).symm)) (fun hc252 => ?_)
         refine oIload C at_255 rfl rfl ?_
         refine oLload C at_257 rfl rfl ?_
         refine oLload C at_259 rfl rfl ?_
         refine oIconst C at_261 (z := 0) rfl rfl ?_
         refine oIload C at_262 rfl rfl ?_
         refine oLload C at_264 rfl rfl ?_
         refine oLload C at_266 rfl rfl ?_
         refine oLload C at_268 rfl rfl ?_
         refine oCallS C (w24 hw) (w25 hw) (w26 hw) (w27 hw) at_270 (by decide) pd_717522 rfl rfl (argsL := [.long c1, .long c0, .int 0, .int 3, .long s0, .long s1, .long s2]) (rest := [.int 1]) rfl (W := 1) rfl (q := 273) rfl (by decide) (by decide) (by decide) (by decide) (mt_fExp l Z a0 hw _ n0 z674 c1 c0 (0 : Int32) (3 : Int32) s0 s1 s2 ) (oPureK ?_)
         refine oIcmp_ne C at_273 (q := 322) (by decide) (by decide) (r := 276) rfl (fun hq => absurd hq (not_not_intro (oe3002 c1 c0 s0 s1 s2 rc1 r01 r12 q0c0 q0c1 q1c1 q2c1).symm)) (fun hc273 => ?_)
         refine oIload C at_276 rfl rfl ?_
         refine oLload C at_278 rfl rfl ?_
         refine oLload C at_280 rfl rfl ?_
         refine oIconst C at_282 (z := 0) rfl rfl ?_
         refine oIload C at_283 rfl rfl ?_
         refine oLload C at_285 rfl rfl ?_
         refine oLload C at_287 rfl rfl ?_
         refine oLload C at_289 rfl rfl ?_
         refine oCallS C (w24 hw) (w25 hw) (w26 hw) (w27 hw) at_291 (by decide) pd_717522 rfl rfl (argsL := [.long c2, .long c1, .int 0, .int 3, .long s0, .long s1, .long s2]) (rest := [.int 0]) rfl (W := 1) rfl (q := 294) rfl (by decide) (by decide) (by decide) (by decide) (mt_fExp l Z a0 hw _ n0 z674 c2 c1 (0 : Int32) (3 : Int32) s0 s1 s2 ) (oPureK ?_)
         refine oIcmp_ne C at_294 (q := 322) (by decide) (by decide) (r := 297) rfl (fun hq => absurd hq (not_not_intro (oe3022 c2 c1 s0 s1 s2 rc2 r01 r12 q0c1 q1c1 q2c1 q2c2).symm)) (fun hc294 => ?_)
         refine oIload C at_297 rfl rfl ?_
         refine oLload C at_299 rfl rfl ?_
         refine oLload C at_301 rfl rfl ?_
         refine oIconst C at_303 (z := 0) rfl rfl ?_
         refine oIload C at_304 rfl rfl ?_
         refine oLload C at_306 rfl rfl ?_
         refine oLload C at_308 rfl rfl ?_
         refine oLload C at_310 rfl rfl ?_
         refine oCallS C (w24 hw) (w25 hw) (w26 hw) (w27 hw) at_312 (by decide) pd_717522 rfl rfl (argsL := [.long c3, .long c2, .int 0, .int 3, .long s0, .long s1, .long s2]) (rest := [.int 0]) rfl (W := 1) rfl (q := 315) rfl (by decide) (by decide) (by decide) (by decide) (mt_fExp l Z a0 hw _ n0 z674 c3 c2 (0 : Int32) (3 : Int32) s0 s1 s2 ) (oPureK ?_)
         refine oIcmp_ne C at_315 (q := 322) (by decide) (by decide) (r := 318) rfl (fun hq => absurd hq (not_not_intro (oe3022 c3 c2 s0 s1 s2 rc3 r01 r12 (own_mono q0c1 rc2) (own_mono q1c1 rc2) q2c2 q2c3).symm)) (fun hc315 => ?_)
         refine oIconst C at_318 (z := 1) rfl rfl ?_
         refine oGoto C at_319 (q := 323) (by decide) (by decide) ?_
         refine oRetZ C at_323 (z' := (1 : Int32)) rfl (by decide) (by decide) ?_
         exact rfl
        ·
         have f679 := (K665.fld f661_0 nin0 oN0)
         have f680 := (K665.fld f663 nin0 oN0)
         have f681 := (K665.arr f664 nin0 oA0)
         have f682 := (K665.exa f666)
         have z684 := (Nat.le_trans z667 K665.1)
         refine oCallV C (w17 hw) (w18 hw) (w20 hw) (w19 hw) (w8 hw) (w21 hw) at_229 f682 (by decide) pd_692006 rfl rfl (a := a429) (argsL := [.long c3]) (rest := []) rfl (W := 0) rfl (q := 232) rfl (by decide) (by decide) (by decide) (by decide) (ac4_19 l Z a0 hw _ n0 z684 a429 c3 a425 s0 s1 s2 f679 f680 f681 q2c3 f682 ge_a429 ne434) (oRQ ?_)
         rintro h683 ⟨K683, f683_0⟩
         refine oIstore C at_232 (Ls' := #[.val (.long x0), .second, .val (.int n9), .val (.int sg), .val (.int cg), .val (.long tt), .second, .val (.int 3), .val (.long s0), .second, .val (.long s1), .second, .val (.long s2), .second, .val (.long c0), .second, .val (.long c1), .second, .val (.long c2), .second, .val (.long c3), .second, .val (.ref a425), .val (.ref a429), .val (.int 1), .val (.int 1), .val (.int 0), .val (.int 1)]) rfl (q := 234) rfl ?_
         refine oIload C at_234 rfl rfl ?_
         refine oLload C at_236 rfl rfl ?_
         refine oLload C at_238 rfl rfl ?_
         refine oIconst C at_240 (z := 1) rfl rfl ?_
         refine oIload C at_241 rfl rfl ?_
         refine oLload C at_243 rfl rfl ?_
         refine oLload C at_245 rfl rfl ?_
         refine oLload C at_247 rfl rfl ?_
         have z685 := (Nat.le_trans z684 K683.1)
         refine oCallS C (w24 hw) (w25 hw) (w26 hw) (w27 hw) at_249 (by decide) pd_717522 rfl rfl (argsL := [.long c0, .long c0, .int 1, .int 3, .long s0, .long s1, .long s2]) (rest := [.int 1]) rfl (W := 1) rfl (q := 252) rfl (by decide) (by decide) (by decide) (by decide) (mt_fExp l Z a0 hw _ n0 z685 c0 c0 (1 : Int32) (3 : Int32) s0 s1 s2 ) (oPureK ?_)
         refine oIcmp_ne C at_252 (q := 322) (by decide) (by decide) (r := 255) rfl (fun hq => absurd hq (not_not_intro (oe3100 c0 c0 s0 s1 s2 rfl r01 r12 q0c0).symm)) (fun hc252 => ?_)
         refine oIload C at_255 rfl rfl ?_
         refine oLload C at_257 rfl rfl ?_
         refine oLload C at_259 rfl rfl ?_
         refine oIconst C at_261 (z := 0) rfl rfl ?_
         refine oIload C at_262 rfl rfl ?_
         refine oLload C at_264 rfl rfl ?_
         refine oLload C at_266 rfl rfl ?_
         refine oLload C at_268 rfl rfl ?_
         refine oCallS C (w24 hw) (w25 hw) (w26 hw) (w27 hw) at_270 (by decide) pd_717522 rfl rfl (argsL := [.long c1, .long c0, .int 0, .int 3, .long s0, .long s1, .long s2]) (rest := [.int 1]) rfl (W := 1) rfl (q := 273) rfl (by decide) (by decide) (by decide) (by decide) (mt_fExp l Z a0 hw _ n0 z685 c1 c0 (0 : Int32) (3 : Int32) s0 s1 s2 ) (oPureK ?_)
         refine oIcmp_ne C at_273 (q := 322) (by decide) (by decide) (r := 276) rfl (fun hq => absurd hq (not_not_intro (oe3002 c1 c0 s0 s1 s2 rc1 r01 r12 q0c0 q0c1 q1c1 q2c1).symm)) (fun hc273 => ?_)
         refine oIload C at_276 rfl rfl ?_
         refine oLload C at_278 rfl rfl ?_
         refine oLload C at_280 rfl rfl ?_
         refine oIconst C at_282 (z := 0) rfl rfl ?_
         refine oIload C at_283 rfl rfl ?_
         refine oLload C at_285 rfl rfl ?_
         refine oLload C at_287 rfl rfl ?_
         refine oLload C at_289 rfl rfl ?_
         refine oCallS C (w24 hw) (w25 hw) (w26 hw) (w27 hw) at_291 (by decide) pd_717522 rfl rfl (argsL := [.long c2, .long c1, .int 0, .int 3, .long s0, .long s1, .long s2]) (rest := [.int 0]) rfl (W := 1) rfl (q := 294) rfl (by decide) (by decide) (by decide) (by decide) (mt_fExp l Z a0 hw _ n0 z685 c2 c1 (0 : Int32) (3 : Int32) s0 s1 s2 ) (oPureK ?_)
         refine oIcmp_ne C at_294 (q := 322) (by decide) (by decide) (r := 297) rfl (fun hq => absurd hq (not_not_intro (oe3022 c2 c1 s0 s1 s2 rc2 r01 r12 q0c1 q1c1 q2c1 q2c2).symm)) (fun hc294 => ?_)
         refine oIload C at_297 rfl rfl ?_
         refine oLload C at_299 rfl rfl ?_
         refine oLload C at_301 rfl rfl ?_
         refine oIconst C at_303 (z := 0) rfl rfl ?_
         refine oIload C at_304 rfl rfl ?_
         refine oLload C at_306 rfl rfl ?_
         refine oLload C at_308 rfl rfl ?_
         refine oLload C at_310 rfl rfl ?_
         refine oCallS C (w24 hw) (w25 hw) (w26 hw) (w27 hw) at_312 (by decide) pd_717522 rfl rfl (argsL := [.long c3, .long c2, .int 0, .int 3, .long s0, .long s1, .long s2]) (rest := [.int 1]) rfl (W := 1) rfl (q := 315) rfl (by decide) (by decide) (by decide) (by decide) (mt_fExp l Z a0 hw _ n0 z685 c3 c2 (0 : Int32) (3 : Int32) s0 s1 s2 ) (oPureK ?_)
         refine oIcmp_ne C at_315 (q := 322) (by decide) (by decide) (r := 318) rfl (fun hq => absurd hq (not_not_intro (oe3023 c3 c2 s0 s1 s2 rc3 r01 r12 (own_mono q0c1 rc2) (own_mono q1c1 rc2) q2c2 q2c3).symm)) (fun hc315 => ?_)
         refine oIconst C at_318 (z := 1) rfl rfl ?_
         refine oGoto C at_319 (q := 323) (by decide) (by decide) ?_
         refine oRetZ C at_323 (z' := (1 : Int32)) rfl (by decide) (by decide) ?_
         exact rfl
       ·
        have f690 := (K661.fld f658 nin0 (oNF (Or.inr (oSn0 hw 0 1)) oN0))
        have f691 := (K661.arr f659 nin0 (oAS ne434 oA0))
        have f692 := (K661.exa f660)
        have z694 := (Nat.le_trans z662 K661.1)
        refine oCallV C (w17 hw) (w18 hw) (w20 hw) (w19 hw) (w8 hw) (w21 hw) at_220 f692 (by decide) pd_692006 rfl rfl (a := a429) (argsL := [.long c2]) (rest := []) rfl (W := 0) rfl (q := 223) rfl (by decide) (by decide) (by decide) (by decide) (ac4_19 l Z a0 hw _ n0 z694 a429 c2 a425 s0 s1 s2 f661_0 f690 f691 q2c2 f692 ge_a429 ne434) (oRQ ?_)
        rintro h693 ⟨K693, f693_0⟩
        refine oIstore C at_223 (Ls' := #[.val (.long x0), .second, .val (.int n9), .val (.int sg), .val (.int cg), .val (.long tt), .second, .val (.int 3), .val (.long s0), .second, .val (.long s1), .second, .val (.long s2), .second, .val (.long c0), .second, .val (.long c1), .second, .val (.long c2), .second, .val (.long c3), .second, .val (.ref a425), .val (.ref a429), .val (.int 1), .val (.int 1), .val (.int 1), .unset]) rfl (q := 225) rfl ?_
        refine oAload C at_225 rfl rfl rfl ?_
        refine oLload C at_227 rfl rfl ?_
        have f695 := (K693.fld f690 nin0 (oNF (Or.inr (oSn0 hw 0 1)) oN0))
        have f696 := (K693.arr f691 nin0 (oAS ne434 oA0))
        have f698 := (K693.exa f692)
        have z699 := (Nat.le_trans z694 K693.1)
        refine oCallV C (w17 hw) (w18 hw) (w20 hw) (w19 hw) (w8 hw) (w21 hw) at_229 f698 (by decide) pd_692006 rfl rfl (a := a429) (argsL := [.long c3]) (rest := []) rfl (W := 0) rfl (q := 232) rfl (by decide) (by decide) (by decide) (by decide) (ac4_20 l Z a0 hw _ n0 z699 a429 c3 a425 s0 s1 s2 f693_0 f695 f696) (oRQ ?_)
        rintro h697 K697
        refine oIstore C at_232 (Ls' := #[.val (.long x0), .second, .val (.int n9), .val (.int sg), .val (.int cg), .val (.long tt), .second, .val (.int 3), .val (.long s0), .second, .val (.long s1), .second, .val (.long s2), .second, .val (.long c0), .second, .val (.long c1), .second, .val (.long c2), .second, .val (.long c3), .second, .val (.ref a425), .val (.ref a429), .val (.int 1), .val (.int 1), .val (.int 1), .val (.int 0)]) rfl (q := 234) rfl ?_
        refine oIload C at_234 rfl rfl ?_
        refine oLload C at_236 rfl rfl ?_
        refine oLload C at_238 rfl rfl ?_
        refine oIconst C at_240 (z := 1) rfl rfl ?_
        refine oIload C at_241 rfl rfl ?_
        refine oLload C at_243 rfl rfl ?_
        refine oLload C at_245 rfl rfl ?_
        refine oLload C at_247 rfl rfl ?_
        have z700 := (Nat.le_trans z699 K697.1)
        refine oCallS C (w24 hw) (w25 hw) (w26 hw) (w27 hw) at_249 (by decide) pd_717522 rfl rfl (argsL := [.long c0, .long c0, .int 1, .int 3, .long s0, .long s1, .long s2]) (rest := [.int 1]) rfl (W := 1) rfl (q := 252) rfl (by decide) (by decide) (by decide) (by decide) (mt_fExp l Z a0 hw _ n0 z700 c0 c0 (1 : Int32) (3 : Int32) s0 s1 s2 ) (oPureK ?_)
        refine oIcmp_ne C at_252 (q := 322) (by decide) (by decide) (r := 255) rfl (fun hq => absurd hq (not_not_intro (oe3100 c0 c0 s0 s1 s2 rfl r01 r12 q0c0).symm)) (fun hc252 => ?_)
        refine oIload C at_255 rfl rfl ?_
        refine oLload C at_257 rfl rfl ?_
        refine oLload C at_259 rfl rfl ?_
        refine oIconst C at_261 (z := 0) rfl rfl ?_
        refine oIload C at_262 rfl rfl ?_
        refine oLload C at_264 rfl rfl ?_
        refine oLload C at_266 rfl rfl ?_
        refine oLload C at_268 rfl rfl ?_
        refine oCallS C (w24 hw) (w25 hw) (w26 hw) (w27 hw) at_270 (by decide) pd_717522 rfl rfl (argsL := [.long c1, .long c0, .int 0, .int 3, .long s0, .long s1, .long s2]) (rest := [.int 1]) rfl (W := 1) rfl (q := 273) rfl (by decide) (by decide) (by decide) (by decide) (mt_fExp l Z a0 hw _ n0 z700 c1 c0 (0 : Int32) (3 : Int32) s0 s1 s2 ) (oPureK ?_)
        refine oIcmp_ne C at_273 (q := 322) (by decide) (by decide) (r := 276) rfl (fun hq => absurd hq (not_not_intro (oe3002 c1 c0 s0 s1 s2 rc1 r01 r12 q0c0 q0c1 q1c1 q2c1).symm)) (fun hc273 => ?_)
        refine oIload C at_276 rfl rfl ?_
        refine oLload C at_278 rfl rfl ?_
        refine oLload C at_280 rfl rfl ?_
        refine oIconst C at_282 (z := 0) rfl rfl ?_
        refine oIload C at_283 rfl rfl ?_
        refine oLload C at_285 rfl rfl ?_
        refine oLload C at_287 rfl rfl ?_
        refine oLload C at_289 rfl rfl ?_
        refine oCallS C (w24 hw) (w25 hw) (w26 hw) (w27 hw) at_291 (by decide) pd_717522 rfl rfl (argsL := [.long c2, .long c1, .int 0, .int 3, .long s0, .long s1, .long s2]) (rest := [.int 1]) rfl (W := 1) rfl (q := 294) rfl (by decide) (by decide) (by decide) (by decide) (mt_fExp l Z a0 hw _ n0 z700 c2 c1 (0 : Int32) (3 : Int32) s0 s1 s2 ) (oPureK ?_)
        refine oIcmp_ne C at_294 (q := 322) (by decide) (by decide) (r := 297) rfl (fun hq => absurd hq (not_not_intro (oe3023 c2 c1 s0 s1 s2 rc2 r01 r12 q0c1 q1c1 q2c1 q2c2).symm)) (fun hc294 => ?_)
        refine oIload C at_297 rfl rfl ?_
        refine oLload C at_299 rfl rfl ?_
        refine oLload C at_301 rfl rfl ?_
        refine oIconst C at_303 (z := 0) rfl rfl ?_
        refine oIload C at_304 rfl rfl ?_
        refine oLload C at_306 rfl rfl ?_
        refine oLload C at_308 rfl rfl ?_
        refine oLload C at_310 rfl rfl ?_
        refine oCallS C (w24 hw) (w25 hw) (w26 hw) (w27 hw) at_312 (by decide) pd_717522 rfl rfl (argsL := [.long c3, .long c2, .int 0, .int 3, .long s0, .long s1, .long s2]) (rest := [.int 0]) rfl (W := 1) rfl (q := 315) rfl (by decide) (by decide) (by decide) (by decide) (mt_fExp l Z a0 hw _ n0 z700 c3 c2 (0 : Int32) (3 : Int32) s0 s1 s2 ) (oPureK ?_)
        refine oIcmp_ne C at_315 (q := 322) (by decide) (by decide) (r := 318) rfl (fun hq => absurd hq (not_not_intro (oe3033 c3 c2 s0 s1 s2 rc3 r01 r12 (own_mono q0c1 rc2) (own_mono q1c1 rc2) q2c2).symm)) (fun hc315 => ?_)
        refine oIconst C at_318 (z := 1) rfl rfl ?_
        refine oGoto C at_319 (q := 323) (by decide) (by decide) ?_
        refine oRetZ C at_323 (z' := (1 : Int32)) rfl (by decide) (by decide) ?_
        exact rfl
      ·
       have f705 := (K436.fld f433 nin0 oN0)
       have f706 := (K436.fld f431_0 nin0 oN0)
       have f707 := (K436.arr f435 nin0 oA0)
       have f708 := (K436.exa f437)
       have z710 := (Nat.le_trans z438 K436.1)
       refine oCallV C (w17 hw) (w18 hw) (w20 hw) (w19 hw) (w8 hw) (w21 hw) at_211 f708 (by decide) pd_692006 rfl rfl (a := a429) (argsL := [.long c1]) (rest := []) rfl (W := 0) rfl (q := 214) rfl (by decide) (by decide) (by decide) (by decide) (ac4_14 l Z a0 hw _ n0 z710 a429 c1 a425 s0 s1 s2 f705 f706 f707 q0c1 f708 ge_a429 ne434 q1c1 q2c1) (oRQ ?_)
       rintro h709 ⟨K709, f709_0⟩
       refine oIstore C at_214 (Ls' := #[.val (.long x0), .second, .val (.int n9), .val (.int sg), .val (.int cg), .val (.long tt), .second, .val (.int 3), .val (.long s0), .second, .val (.long s1), .second, .val (.long s2), .second, .val (.long c0), .second, .val (.long c1), .second, .val (.long c2), .second, .val (.long c3), .second, .val (.ref a425), .val (.ref a429), .val (.int 1), .val (.int 1), .unset, .unset]) rfl (q := 216) rfl ?_
       refine oAload C at_216 rfl rfl rfl ?_
       refine oLload C at_218 rfl rfl ?_
       have f711 := (K709.fld f706 nin0 (oNF (Or.inr (oSn0 hw 0 1)) oN0))
       have f712 := (K709.arr f707 nin0 (oAS ne434 oA0))
       have f714 := (K709.exa f708)
       have z715 := (Nat.le_trans z710 K709.1)
       refine oCallV C (w17 hw) (w18 hw) (w20 hw) (w19 hw) (w8 hw) (w21 hw) at_220 f714 (by decide) pd_692006 rfl rfl (a := a429) (argsL := [.long c2]) (rest := []) rfl (W := 0) rfl (q := 223) rfl (by decide) (by decide) (by decide) (by decide) (ac4_20 l Z a0 hw _ n0 z715 a429 c2 a425 s0 s1 s2 f709_0 f711 f712) (oRQ ?_)
       rintro h713 K713
       refine oIstore C at_223 (Ls' := #[.val (.long x0), .second, .val (.int n9), .val (.int sg), .val (.int cg), .val (.long tt), .second, .val (.int 3), .val (.long s0), .second, .val (.long s1), .second, .val (.long s2), .second, .val (.long c0), .second, .val (.long c1), .second, .val (.long c2), .second, .val (.long c3), .second, .val (.ref a425), .val (.ref a429), .val (.int 1), .val (.int 1), .val (.int 0), .unset]) rfl (q := 225) rfl ?_
       refine oAload C at_225 rfl rfl rfl ?_
       refine oLload C at_227 rfl rfl ?_
       have f716 := (K713.fld f709_0 nin0 oN0)
       have f717 := (K713.fld f711 nin0 oN0)
       have f718 := (K713.arr f712 nin0 oA0)
       have f720 := (K713.exa f714)
       have z721 := (Nat.le_trans z715 K713.1)
       refine oCallV C (w17 hw) (w18 hw) (w20 hw) (w19 hw) (w8 hw) (w21 hw) at_229 f720 (by decide) pd_692006 rfl rfl (a := a429) (argsL := [.long c3]) (rest := []) rfl (W := 0) rfl (q := 232) rfl (by decide) (by decide) (by decide) (by decide) (ac4_20 l Z a0 hw _ n0 z721 a429 c3 a425 s0 s1 s2 f716 f717 f718) (oRQ ?_)
       rintro h719 K719
       refine oIstore C at_232 (Ls' := #[.val (.long x0), .second, .val (.int n9), .val (.int sg), .val (.int cg), .val (.long tt), .second, .val (.int 3), .val (.long s0), .second, .val (.long s1), .second, .val (.long s2), .second, .val (.long c0), .second, .val (.long c1), .second, .val (.long c2), .second, .val (.long c3), .second, .val (.ref a425), .val (.ref a429), .val (.int 1), .val (.int 1), .val (.int 0), .val (.int 0)]) rfl (q := 234) rfl ?_
       refine oIload C at_234 rfl rfl ?_
       refine oLload C at_236 rfl rfl ?_
       refine oLload C at_238 rfl rfl ?_
       refine oIconst C at_240 (z := 1) rfl rfl ?_
       refine oIload C at_241 rfl rfl ?_
       refine oLload C at_243 rfl rfl ?_
       refine oLload C at_245 rfl rfl ?_
       refine oLload C at_247 rfl rfl ?_
       have z722 := (Nat.le_trans z721 K719.1)
       refine oCallS C (w24 hw) (w25 hw) (w26 hw) (w27 hw) at_249 (by decide) pd_717522 rfl rfl (argsL := [.long c0, .long c0, .int 1, .int 3, .long s0, .long s1, .long s2]) (rest := [.int 1]) rfl (W := 1) rfl (q := 252) rfl (by decide) (by decide) (by decide) (by decide) (mt_fExp l Z a0 hw _ n0 z722 c0 c0 (1 : Int32) (3 : Int32) s0 s1 s2 ) (oPureK ?_)
       refine oIcmp_ne C at_252 (q := 322) (by decide) (by decide) (r := 255) rfl (fun hq => absurd hq (not_not_intro (oe3100 c0 c0 s0 s1 s2 rfl r01 r12 q0c0).symm)) (fun hc252 => ?_)
       refine oIload C at_255 rfl rfl ?_
       refine oLload C at_257 rfl rfl ?_
       refine oLload C at_259 rfl rfl ?_
       refine oIconst C at_261 (z := 0) rfl rfl ?_
       refine oIload C at_262 rfl rfl ?_
       refine oLload C at_264 rfl rfl ?_
       refine oLload C at_266 rfl rfl ?_
       refine oLload C at_268 rfl rfl ?_
       refine oCallS C (w24 hw) (w25 hw) (w26 hw) (w27 hw) at_270 (by decide) pd_717522 rfl rfl (argsL := [.long c1, .long c0, .int 0, .int 3, .long s0, .long s1, .long s2]) (rest := [.int 1]) rfl (W := 1) rfl (q := 273) rfl (by decide) (by decide) (by decide) (by decide) (mt_fExp l Z a0 hw _ n0 z722 c1 c0 (0 : Int32) (3 : Int32) s0 s1 s2 ) (oPureK ?_)
       refine oIcmp_ne C at_273 (q := 322) (by decide) (by decide) (r := 276) rfl (fun hq => absurd hq (not_not_intro (oe3003 c1 c0 s0 s1 s2 rc1 r01 r12 q0c0 q0c1 q1c1 q2c1).symm)) (fun hc273 => ?_)
       refine oIload C at_276 rfl rfl ?_
       refine oLload C at_278 rfl rfl ?_
       refine oLload C at_280 rfl rfl ?_
       refine oIconst C at_282 (z := 0) rfl rfl ?_
       refine oIload C at_283 rfl rfl ?_
       refine oLload C at_285 rfl rfl ?_
       refine oLload C at_287 rfl rfl ?_
       refine oLload C at_289 rfl rfl ?_
       refine oCallS C (w24 hw) (w25 hw) (w26 hw) (w27 hw) at_291 (by decide) pd_717522 rfl rfl (argsL := [.long c2, .long c1, .int 0, .int 3, .long s0, .long s1, .long s2]) (rest := [.int 0]) rfl (W := 1) rfl (q := 294) rfl (by decide) (by decide) (by decide) (by decide) (mt_fExp l Z a0 hw _ n0 z722 c2 c1 (0 : Int32) (3 : Int32) s0 s1 s2 ) (oPureK ?_)
       refine oIcmp_ne C at_294 (q := 322) (by decide) (by decide) (r := 297) rfl (fun hq => absurd hq (not_not_intro (oe3033 c2 c1 s0 s1 s2 rc2 r01 r12 q0c1 q1c1 q2c1).symm)) (fun hc294 => ?_)
       refine oIload C at_297 rfl rfl ?_
       refine oLload C at_299 rfl rfl ?_
       refine oLload C at_301 rfl rfl ?_
       refine oIconst C at_303 (z := 0) rfl rfl ?_
       refine oIload C at_304 rfl rfl ?_
       refine oLload C at_306 rfl rfl ?_
       refine oLload C at_308 rfl rfl ?_
       refine oLload C at_310 rfl rfl ?_
       refine oCallS C (w24 hw) (w25 hw) (w26 hw) (w27 hw) at_312 (by decide) pd_717522 rfl rfl (argsL := [.long c3, .long c2, .int 0, .int 3, .long s0, .long s1, .long s2]) (rest := [.int 0]) rfl (W := 1) rfl (q := 315) rfl (by decide) (by decide) (by decide) (by decide) (mt_fExp l Z a0 hw _ n0 z722 c3 c2 (0 : Int32) (3 : Int32) s0 s1 s2 ) (oPureK ?_)
       refine oIcmp_ne C at_315 (q := 322) (by decide) (by decide) (r := 318) rfl (fun hq => absurd hq (not_not_intro (oe3033 c3 c2 s0 s1 s2 rc3 r01 r12 (own_mono q0c1 rc2) (own_mono q1c1 rc2) (own_mono q2c1 rc2)).symm)) (fun hc315 => ?_)
       refine oIconst C at_318 (z := 1) rfl rfl ?_
       refine oGoto C at_319 (q := 323) (by decide) (by decide) ?_
       refine oRetZ C at_323 (z' := (1 : Int32)) rfl (by decide) (by decide) ?_
       exact rfl
   ·
    by_cases q1c0 : s1 < c0
    ·
     have f727 := (K431.fld f429_next nin0 (oNF (Or.inr (oSn0 hw 1 0)) oN0))
     have ne728 : a425 ≠ a429 := oNe' A428l.lt (Nat.le_of_eq g_a429.symm)
     have f729 := (K431.arr (A428l.ext E429) nin0 (oAS ne728 oA0))
     have f730 := (K431.exa X429)
     have z732 := (Nat.le_trans z432 K431.1)
     refine oCallV C (w17 hw) (w18 hw) (w20 hw) (w19 hw) (w8 hw) (w21 hw) at_202 f730 (by decide) pd_692006 rfl rfl (a := a429) (argsL := [.long c0]) (rest := []) rfl (W := 0) rfl (q := 205) rfl (by decide) (by decide) (by decide) (by decide) (ac4_12 l Z a0 hw _ n0 z732 a429 c0 a425 s0 s1 s2 f727 f431_0 f729 q0c0 f730 ge_a429 ne728 q1c0) (oRQ ?_)
     rintro h731 ⟨K731, f731_0⟩
     refine oIstore C at_205 (Ls' := #[.val (.long x0), .second, .val (.int n9), .val (.int sg), .val (.int cg), .val (.long tt), .second, .val (.int 3), .val (.long s0), .second, .val (.long s1), .second, .val (.long s2), .second, .val (.long c0), .second, .val (.long c1), .second, .val (.long c2), .second, .val (.long c3), .second, .val (.ref a425), .val (.ref a429), .val (.int 1), .unset, .unset, .unset]) rfl (q := 207) rfl ?_
     refine oAload C at_207 rfl rfl rfl ?_
     refine oLload C at_209 rfl rfl ?_
     by_cases q1c1 : s1 < c1
     ·
      have f733 := (K731.fld f431_0 nin0 (oNF (Or.inr (oSn0 hw 0 1)) oN0))
      have f734 := (K731.arr f729 nin0 (oAS ne728 oA0))
      have f736 := (K731.exa f730)
      have z737 := (Nat.le_trans z732 K731.1)
      refine oCallV C (w17 hw) (w18 hw) (w20 hw) (w19 hw) (w8 hw) (w21 hw) at_211 f736 (by decide) pd_692006 rfl rfl (a := a429) (argsL := [.long c1]) (rest := []) rfl (W := 0) rfl (q := 214) rfl (by decide) (by decide) (by decide) (by decide) (ac4_15 l Z a0 hw _ n0 z737 a429 c1 a425 s0 s1 s2 f731_0 f733 f734 q1c1) (oRQ ?_)
      rintro h735 K735
      refine oIstore C at_214 (Ls' := #[.val (.long x0), .second, .val (.int n9), .val (.int sg), .val (.int cg), .val (.long tt), .second, .val (.int 3), .val (.long s0), .second, .val (.long s1), .second, .val (.long s2), .second, .val (.long c0), .second, .val (.long c1), .second, .val (.long c2), .second, .val (.long c3), .second, .val (.ref a425), .val (.ref a429), .val (.int 1), .val (.int 0), .unset, .unset]) rfl (q := 216) rfl ?_
      refine oAload C at_216 rfl rfl rfl ?_
      refine oLload C at_218 rfl rfl ?_
      by_cases q1c2 : s1 < c2
      ·
       have f738 := (K735.fld f731_0 nin0 oN0)
       have f739 := (K735.fld f733 nin0 oN0)
       have f740 := (K735.arr f734 nin0 oA0)
       have f742 := (K735.exa f736)
       have z743 := (Nat.le_trans z737 K735.1)
       refine oCallV C (w17 hw) (w18 hw) (w20 hw) (w19 hw) (w8 hw) (w21 hw) at_220 f742 (by decide) pd_692006 rfl rfl (a := a429) (argsL := [.long c2]) (rest := []) rfl (W := 0) rfl (q := 223) rfl (by decide) (by decide) (by decide) (by decide) (ac4_15 l Z a0 hw _ n0 z743 a429 c2 a425 s0 s1 s2 f738 f739 f740 q1c2) (oRQ ?_)
       rintro h741 K741
       refine oIstore C at_223 (Ls' := #[.val (.long x0), .second, .val (.int n9), .val (.int sg), .val (.int cg), .val (.long tt), .second, .val (.int 3), .val (.long s0), .second, .val (.long s1), .second, .val (.long s2), .second, .val (.long c0), .second, .val (.long c1), .second, .val (.long c2), .second, .val (.long c3), .second, .val (.ref a425), .val (.ref a429), .val (.int 1), .val (.int 0), .val (.int 0), .unset]) rfl (q := 225) rfl ?_
       refine oAload C at_225 rfl rfl rfl ?_
       refine oLload C at_227 rfl rfl ?_
       by_cases q1c3 : s1 < c3
       ·
        have f744 := (K741.fld f738 nin0 oN0)
        have f745 := (K741.fld f739 nin0 oN0)
        have f746 := (K741.arr f740 nin0 oA0)
        have f748 := (K741.exa f742)
        have z749 := (Nat.le_trans z743 K741.1)
        refine oCallV C (w17 hw) (w18 hw) (w20 hw) (w19 hw) (w8 hw) (w21 hw) at_229 f748 (by decide) pd_692006 rfl rfl (a := a429) (argsL := [.long c3]) (rest := []) rfl (W := 0) rfl (q := 232) rfl (by decide) (by decide) (by decide) (by decide) (ac4_15 l Z a0 hw _ n0 z749 a429 c3 a425 s0 s1 s2 f744 f745 f746 q1c3) (oRQ ?_)
        rintro h747 K747
        refine oIstore C at_232 (Ls' := #[.val (.long x0), .second, .val (.int n9), .val (.int sg), .val (.int cg), .val (.long tt), .second, .val (.int 3), .val (.long s0), .second, .val (.long s1), .second, .val (.long s2), .second, .val (.long c0), .second, .val (.long c1), .second, .val (.long c2), .second, .val (.long c3), .second, .val (.ref a425), .val (.ref a429), .val (.int 1), .val (.int 0), .val (.int 0), .val (.int 0)]) rfl (q := 234) rfl ?_
        refine oIload C at_234 rfl rfl ?_
        refine oLload C at_236 rfl rfl ?_
        refine oLload C at_238 rfl rfl ?_
        refine oIconst C at_240 (z := 1) rfl rfl ?_
        refine oIload C at_241 rfl rfl ?_
        refine oLload C at_243 rfl rfl ?_
        refine oLload C at_245 rfl rfl ?_
        refine oLload C at_247 rfl rfl ?_
        have z750 := (Nat.le_trans z749 K747.1)
        refine oCallS C (w24 hw) (w25 hw) (w26 hw) (w27 hw) at_249 (by decide) pd_717522 rfl rfl (argsL := [.long c0, .long c0, .int 1, .int 3, .long s0, .long s1, .long s2]) (rest := [.int 1]) rfl (W := 1) rfl (q := 252) rfl (by decide) (by decide) (by decide) (by decide) (mt_fExp l Z a0 hw _ n0 z750 c0 c0 (1 : Int32) (3 : Int32) s0 s1 s2 ) (oPureK ?_)
        refine oIcmp_ne C at_252 (q := 322) (by decide) (by decide) (r := 255) rfl (fun hq => absurd hq (not_not_intro (oe3101 c0 c0 s0 s1 s2 rfl r01 r12 q0c0 q1c0).symm)) (fun hc252 => ?_)
        refine oIload C at_255 rfl rfl ?_
        refine oLload C at_257 rfl rfl ?_
        refine oLload C at_259 rfl rfl ?_
        refine oIconst C at_261 (z := 0) rfl rfl ?_
        refine oIload C at_262 rfl rfl ?_
        refine oLload C at_264 rfl rfl ?_
        refine oLload C at_266 rfl rfl ?_
        refine oLload C at_268 rfl rfl ?_
        refine oCallS C (w24 hw) (w25 hw) (w26 hw) (w27 hw) at_270 (by decide) pd_717522 rfl rfl (argsL := [.long c1, .long c0, .int 0, .int 3, .long s0, .long s1, .long s2]) (rest := [.int 0]) rfl (W := 1) rfl (q := 273) rfl (by decide) (by decide) (by decide) (by decide) (mt_fExp l Z a0 hw _ n0 z750 c1 c0 (0 : Int32) (3 : Int32) s0 s1 s2 ) (oPureK ?_)
        refine oIcmp_ne C at_273 (q := 322) (by decide) (by decide) (r := 276) rfl (fun hq => absurd hq (not_not_intro (oe3011 c1 c0 s0 s1 s2 rc1 r01 r12 q0c0 q1c0 q1c1).symm)) (fun hc273 => ?_)
        refine oIload C at_276 rfl rfl ?_
        refine oLload C at_278 rfl rfl ?_
        refine oLload C at_280 rfl rfl ?_
        refine oIconst C at_282 (z := 0) rfl rfl ?_
        refine oIload C at_283 rfl rfl ?_
        refine oLload C at_285 rfl rfl ?_
        refine oLload C at_287 rfl rfl ?_
        refine oLload C at_289 rfl rfl ?_
        refine oCallS C (w24 hw) (w25 hw) (w26 hw) (w27 hw) at_291 (by decide) pd_717522 rfl rfl (argsL := [.long c2, .long c1, .int 0, .int 3, .long s0, .long s1, .long s2]) (rest := [.int 0]) rfl (W := 1) rfl (q := 294) rfl (by decide) (by decide) (by decide) (by decide) (mt_fExp l Z a0 hw _ n0 z750 c2 c1 (0 : Int32) (3 : Int32) s0 s1 s2 ) (oPureK ?_)
        refine oIcmp_ne C at_294 (q := 322) (by decide) (by decide) (r := 297) rfl (fun hq => absurd hq (not_not_intro (oe3011 c2 c1 s0 s1 s2 rc2 r01 r12 (own_mono q0c0 rc1) q1c1 q1c2).symm)) (fun hc294 => ?_)
        refine oIload C at_297 rfl rfl ?_
        refine oLload C at_299 rfl rfl ?_
        refine oLload C at_301 rfl rfl ?_
        refine oIconst C at_303 (z := 0) rfl rfl ?_
        refine oIload C at_304 rfl rfl ?_
        refine oLload C at_306 rfl rfl ?_
        refine oLload C at_308 rfl rfl ?_
        refine oLload C at_310 rfl rfl ?_
        refine oCallS C (w24 hw) (w25 hw) (w26 hw) (w27 hw) at_312 (by decide) pd_717522 rfl rfl (argsL := [.long c3, .long c2, .int 0, .int 3, .long s0, .long s1, .long s2]) (rest := [.int 0]) rfl (W := 1) rfl (q := 315) rfl (by decide) (by decide) (by decide) (by decide) (mt_fExp l Z a0 hw _ n0 z750 c3 c2 (0 : Int32) (3 : Int32) s0 s1 s2 ) (oPureK ?_)
        refine oIcmp_ne C at_315 (q := 322) (by decide) (by decide) (r := 318) rfl (fun hq => absurd hq (not_not_intro (oe3011 c3 c2 s0 s1 s2 rc3 r01 r12 (own_mono (own_mono q0c0 rc1) rc2) q1c2 q1c3).symm)) (fun hc315 => ?_)
        refine oIconst C at_318 (z := 1) rfl rfl ?_
        refine oGoto C at_319 (q := 323) (by decide) (by decide) ?_
        refine oRetZ C at_323 (z' := (1 : Int32)) rfl (by decide) (by decide) ?_
        exact rfl
       ·
        by_cases q2c3 : s2 < c3
        ·
         have f755 := (K741.fld f738 nin0 oN0)
         have f756 := (K741.fld f739 nin0 oN0)
         have f757 := (K741.arr f740 nin0 oA0)
         have f758 := (K741.exa f742)
         have z760 := (Nat.le_trans z743 K741.1)
         refine oCallV C (w17 hw) (w18 hw) (w20 hw) (w19 hw) (w8 hw) (w21 hw) at_229 f758 (by decide) pd_692006 rfl rfl (a := a429) (argsL := [.long c3]) (rest := []) rfl (W := 0) rfl (q := 232) rfl (by decide) (by decide) (by decide) (by decide) (ac4_16 l Z a0 hw _ n0 z760 a429 c3 a425 s0 s1 s2 f755 f756 f757 q1c3 f758 ge_a429 ne728 q2c3) (oRQ ?_)
         rintro h759 ⟨K759, f759_0⟩
         refine oIstore C at_232 (Ls' := #[.val (.long x0), .second, .val (.int n9), .val (.int sg), .val (.int cg), .val (.long tt), .second, .val (.int 3), .val (.long s0), .second, .val (.long s1), .second, .val (.long s2), .second, .val (.long c0), .second, .val (.long c1), .second, .val (.long c2), .second, .val (.long c3), .second, .val (.ref a425), .val (.ref a429), .val (.int 1), .val (.int 0), .val (.int 0), .val (.int 1)]) rfl (q := 234) rfl ?_
         refine oIload C at_234 rfl rfl ?_
         refine oLload C at_236 rfl rfl ?_
         refine oLload C at_238 rfl rfl ?_
         refine oIconst C at_240 (z := 1) rfl rfl ?_
         refine oIload C at_241 rfl rfl ?_
         refine oLload C at_243 rfl rfl ?_
         refine oLload C at_245 rfl rfl ?_
         refine oLload C at_247 rfl rfl ?_
         have z761 := (Nat.le_trans z760 K759.1)
         refine oCallS C (w24 hw) (w25 hw) (w26 hw) (w27 hw) at_249 (by decide) pd_717522 rfl rfl (argsL := [.long c0, .long c0, .int 1, .int 3, .long s0, .long s1, .long s2]) (rest := [.int 1]) rfl (W := 1) rfl (q := 252) rfl (by decide) (by decide) (by decide) (by decide) (mt_fExp l Z a0 hw _ n0 z761 c0 c0 (1 : Int32) (3 : Int32) s0 s1 s2 ) (oPureK ?_)
         refine oIcmp_ne C at_252 (q := 322) (by decide) (by decide) (r := 255) rfl (fun hq => absurd hq (not_not_intro (oe3101 c0 c0 s0 s1 s2 rfl r01 r12 q0c0 q1c0).symm)) (fun hc252 => ?_)
         refine oIload C at_255 rfl rfl ?_
         refine oLload C at_257 rfl rfl ?_
         refine oLload C at_259 rfl rfl ?_
         refine oIconst C at_261 (z := 0) rfl rfl ?_
         refine oIload C at_262 rfl rfl ?_
         refine oLload C at_264 rfl rfl ?_
         refine oLload C at_266 rfl rfl ?_
         refine oLload C at_268 rfl rfl ?_
         refine oCallS C (w24 hw) (w25 hw) (w26 hw) (w27 hw) at_270 (by decide) pd_717522 rfl rfl (argsL := [.long c1, .long c0, .int 0, .int 3, .long s0, .long s1, .long s2]) (rest := [.int 0]) rfl (W := 1) rfl (q := 273) rfl (by decide) (by decide) (by decide) (by decide) (mt_fExp l Z a0 hw _ n0 z761 c1 c0 (0 : Int32) (3 : Int32) s0 s1 s2 ) (oPureK ?_)
         refine oIcmp_ne C at_273 (q := 322) (by decide) (by decide) (r := 276) rfl (fun hq => absurd hq (not_not_intro (oe3011 c1 c0 s0 s1 s2 rc1 r01 r12 q0c0 q1c0 q1c1).symm)) (fun hc273 => ?_)
         refine oIload C at_276 rfl rfl ?_
         refine oLload C at_278 rfl rfl ?_
         refine oLload C at_280 rfl rfl ?_
         refine oIconst C at_282 (z := 0) rfl rfl ?_
         refine oIload C at_283 rfl rfl ?_
         refine oLload C at_285 rfl rfl ?_
         refine oLload C at_287 rfl rfl ?_
         refine oLload C at_289 rfl rfl ?_
         refine oCallS C (w24 hw) (w25 hw) (w26 hw) (w27 hw) at_291 (by decide) pd_717522 rfl rfl (argsL := [.long c2, .long c1, .int 0, .int 3, .long s0, .long s1, .long s2]) (rest := [.int 0]) rfl (W := 1) rfl (q := 294) rfl (by decide) (by decide) (by decide) (by decide) (mt_fExp l Z a0 hw _ n0 z761 c2 c1 (0 : Int32) (3 : Int32) s0 s1 s2 ) (oPureK ?_)
         refine oIcmp_ne C at_294 (q := 322) (by decide) (by decide) (r := 297) rfl (fun hq => absurd hq (not_not_intro (oe3011 c2 c1 s0 s1 s2 rc2 r01 r12 (own_mono q0c0 rc1) q1c1 q1c2).symm)) (fun hc294 => ?_)
         refine oIload C at_297 rfl rfl ?_
         refine oLload C at_299 rfl rfl ?_
         refine oLload C at_301 rfl rfl ?_
         refine oIconst C at_303 (z := 0) rfl rfl ?_
         refine oIload C at_304 rfl rfl ?_
         refine oLload C at_306 rfl rfl ?_
         refine oLload C at_308 rfl rfl ?_
         refine oLload C at_310 rfl rfl ?_
         refine oCallS C (w24 hw) (w25 hw) (w26 hw) (w27 hw) at_312 (by decide) pd_717522 rfl rfl (argsL := [.long c3, .long c2, .int 0, .int 3, .long s0, .long s1, .long s2]) (rest := [.int 1]) rfl (W := 1) rfl (q := 315) rfl (by decide) (by decide) (by decide) (by decide) (mt_fExp l Z a0 hw _ n0 z761 c3 c2 (0 : Int32) (3 : Int32) s0 s1 s2 ) (oPureK ?_)
         refine oIcmp_ne C at_315 (q := 322) (by decide) (by decide) (r := 318) rfl (fun hq => absurd hq (not_not_intro (oe3012 c3 c2 s0 s1 s2 rc3 r01 r12 (own_mono (own_mono q0c0 rc1) rc2) q1c2 q1c3 q2c3).symm)) (fun hc315 => ?_)
         refine oIconst C at_318 (z := 1) rfl rfl ?_
         refine oGoto C at_319 (q := 323) (by decide) (by decide) ?_
         refine oRetZ C at_323 (z' := (1 : Int32)) rfl (by decide) (by decide) ?_
         exact rfl
        ·
         have f766 := (K741.fld f738 nin0 oN0)
         have f767 := (K741.fld f739 nin0 oN0)
         have f768 := (K741.arr f740 nin0 oA0)
         have f769 := (K741.exa f742)
         have z771 := (Nat.le_trans z743 K741.1)
         refine oCallV C (w17 hw) (w18 hw) (w20 hw) (w19 hw) (w8 hw) (w21 hw) at_229 f769 (by decide) pd_692006 rfl rfl (a := a429) (argsL := [.long c3]) (rest := []) rfl (W := 0) rfl (q := 232) rfl (by decide) (by decide) (by decide) (by decide) (ac4_17 l Z a0 hw _ n0 z771 a429 c3 a425 s0 s1 s2 f766 f767 f768 q1c3 f769 ge_a429 ne728 q2c3) (oRQ ?_)
         rintro h770 ⟨K770, f770_0⟩
         refine oIstore C at_232 (Ls' := #[.val (.long x0), .second, .val (.int n9), .val (.int sg), .val (.int cg), .val (.long tt), .second, .val (.int 3), .val (.long s0), .second, .val (.long s1), .second, .val (.long s2), .second, .val (.long c0), .second, .val (.long c1), .second, .val (.long c2), .second, .val (.long c3), .second, .val (.ref a425), .val (.ref a429), .val (.int 1), .val (.int 0), .val (.int 0), .val (.int 1)]) rfl (q := 234) rfl ?_
         refine oIload C at_234 rfl rfl ?_
         refine oLload C at_236 rfl rfl ?_
         refine oLload C at_238 rfl rfl ?_
         refine oIconst C at_240 (z := 1) rfl rfl ?_
         refine oIload C at_241 rfl rfl ?_
         refine oLload C at_243 rfl rfl ?_
         refine oLload C at_245 rfl rfl ?_
         refine oLload C at_247 rfl rfl ?_
         have z772 := (Nat.le_trans z771 K770.1)
         refine oCallS C (w24 hw) (w25 hw) (w26 hw) (w27 hw) at_249 (by decide) pd_717522 rfl rfl (argsL := [.long c0, .long c0, .int 1, .int 3, .long s0, .long s1, .long s2]) (rest := [.int 1]) rfl (W := 1) rfl (q := 252) rfl (by decide) (by decide) (by decide) (by decide) (mt_fExp l Z a0 hw _ n0 z772 c0 c0 (1 : Int32) (3 : Int32) s0 s1 s2 ) (oPureK ?_)
         refine oIcmp_ne C at_252 (q := 322) (by decide) (by decide) (r := 255) rfl (fun hq => absurd hq (not_not_intro (oe3101 c0 c0 s0 s1 s2 rfl r01 r12 q0c0 q1c0).symm)) (fun hc252 => ?_)
         refine oIload C at_255 rfl rfl ?_
         refine oLload C at_257 rfl rfl ?_
         refine oLload C at_259 rfl rfl ?_
         refine oIconst C at_261 (z := 0) rfl rfl ?_
         refine oIload C at_262 rfl rfl ?_
         refine oLload C at_264 rfl rfl ?_
         refine oLload C at_266 rfl rfl ?_
         refine oLload C at_268 rfl rfl ?_
         refine oCallS C (w24 hw) (w25 hw) (w26 hw) (w27 hw) at_270 (by decide) pd_717522 rfl rfl (argsL := [.long c1, .long c0, .int 0, .int 3, .long s0, .long s1, .long s2]) (rest := [.int 0]) rfl (W := 1) rfl (q := 273) rfl (by decide) (by decide) (by decide) (by decide) (mt_fExp l Z a0 hw _ n0 z772 c1 c0 (0 : Int32) (3 : Int32) s0 s1 s2 ) (oPureK ?_)
         refine oIcmp_ne C at_273 (q := 322) (by decide) (by decide) (r := 276) rfl (fun hq => absurd hq (not_not_intro (oe3011 c1 c0 s0 s1 s2 rc1 r01 r12 q0c0 q1c0 q1c1).symm)) (fun hc273 => ?_)
         refine oIload C at_276 rfl rfl ?_
         refine oLload C at_278 rfl rfl ?_
         refine oLload C at_280 rfl rfl ?_
         refine oIconst C at_282 (z := 0) rfl rfl ?_
         refine oIload C at_283 rfl rfl ?_
         refine oLload C at_285 rfl rfl ?_
         refine oLload C at_287 rfl rfl ?_
         refine oLload C at_289 rfl rfl ?_
         refine oCallS C (w24 hw) (w25 hw) (w26 hw) (w27 hw) at_291 (by decide) pd_717522 rfl rfl (argsL := [.long c2, .long c1, .int 0, .int 3, .long s0, .long s1, .long s2]) (rest := [.int 0]) rfl (W := 1) rfl (q := 294) rfl (by decide) (by decide) (by decide) (by decide) (mt_fExp l Z a0 hw _ n0 z772 c2 c1 (0 : Int32) (3 : Int32) s0 s1 s2 ) (oPureK ?_)
         refine oIcmp_ne C at_294 (q := 322) (by decide) (by decide) (r := 297) rfl (fun hq => absurd hq (not_not_intro (oe3011 c2 c1 s0 s1 s2 rc2 r01 r12 (own_mono q0c0 rc1) q1c1 q1c2).symm)) (fun hc294 => ?_)
         refine oIload C at_297 rfl rfl ?_
         refine oLload C at_299 rfl rfl ?_
         refine oLload C at_301 rfl rfl ?_
         refine oIconst C at_303 (z := 0) rfl rfl ?_
         refine oIload C at_304 rfl rfl ?_
         refine oLload C at_306 rfl rfl ?_
         refine oLload C at_308 rfl rfl ?_
         refine oLload C at_310 rfl rfl ?_
         refine oCallS C (w24 hw) (w25 hw) (w26 hw) (w27 hw) at_312 (by decide) pd_717522 rfl rfl (argsL := [.long c3, .long c2, .int 0, .int 3, .long s0, .long s1, .long s2]) (rest := [.int 1]) rfl (W := 1) rfl (q := 315) rfl (by decide) (by decide) (by decide) (by decide) (mt_fExp l Z a0 hw _ n0 z772 c3 c2 (0 : Int32) (3 : Int32) s0 s1 s2 ) (oPureK ?_)
         refine oIcmp_ne C at_315 (q := 322) (by decide) (by decide) (r := 318) rfl (fun hq => absurd hq (not_not_intro (oe3013 c3 c2 s0 s1 s2 rc3 r01 r12 (own_mono (own_mono q0c0 rc1) rc2) q1c2 q1c3 q2c3).symm)) (fun hc315 => ?_)
         refine oIconst C at_318 (z := 1) rfl rfl ?_
         refine oGoto C at_319 (q := 323) (by decide) (by decide) ?_
         refine oRetZ C at_323 (z' := (1 : Int32)) rfl (by decide) (by decide) ?_
         exact rfl
      ·
       by_cases q2c2 : s2 < c2
       ·
        have f777 := (K735.fld f731_0 nin0 oN0)
        have f778 := (K735.fld f733 nin0 oN0)
        have f779 := (K735.arr f734 nin0 oA0)
        have f780 := (K735.exa f736)
        have z782 := (Nat.le_trans z737 K735.1)
        refine oCallV C (w17 hw) (w18 hw) (w20 hw) (w19 hw) (w8 hw) (w21 hw) at_220 f780 (by decide) pd_692006 rfl rfl (a := a429) (argsL := [.long c2]) (rest := []) rfl (W := 0) rfl (q := 223) rfl (by decide) (by decide) (by decide) (by decide) (ac4_16 l Z a0 hw _ n0 z782 a429 c2 a425 s0 s1 s2 f777 f778 f779 q1c2 f780 ge_a429 ne728 q2c2) (oRQ ?_)
        rintro h781 ⟨K781, f781_0⟩
        refine oIstore C at_223 (Ls' := #[.val (.long x0), .second, .val (.int n9), .val (.int sg), .val (.int cg), .val (.long tt), .second, .val (.int 3), .val (.long s0), .second, .val (.long s1), .second, .val (.long s2), .second, .val (.long c0), .second, .val (.long c1), .second, .val (.long c2), .second, .val (.long c3), .second, .val (.ref a425), .val (.ref a429), .val (.int 1), .val (.int 0), .val (.int 1), .unset]) rfl (q := 225) rfl ?_
        refine oAload C at_225 rfl rfl rfl ?_
        refine oLload C at_227 rfl rfl ?_
        by_cases q2c3 : s2 < c3
        ·
         have f783 := (K781.fld f778 nin0 (oNF (Or.inr (oSn0 hw 0 1)) oN0))
         have f784 := (K781.arr f779 nin0 (oAS ne728 oA0))
         have f786 := (K781.exa f780)
         have z787 := (Nat.le_trans z782 K781.1)
         refine oCallV C (w17 hw) (w18 hw) (w20 hw) (w19 hw) (w8 hw) (w21 hw) at_229 f786 (by decide) pd_692006 rfl rfl (a := a429) (argsL := [.long c3]) (rest := []) rfl (W := 0) rfl (q := 232) rfl (by decide) (by decide) (by decide) (by decide) (ac4_18 l Z a0 hw _ n0 z787 a429 c3 a425 s0 s1 s2 f781_0 f783 f784 q2c3) (oRQ ?_)
         rintro h785 K785
         refine oIstore C at_232 (Ls' := #[.val (.long x0), .second, .val (.int n9), .val (.int sg), .val (.int cg), .val (.long tt), .second, .val (.int 3), .val (.long s0), .second, .val (.long s1), .second, .val (.long s2), .second, .val (.long c0), .second, .val (.long c1), .second, .val (.long c2), .second, .val (.long c3), .second, .val (.ref a425), .val (.ref a429), .val (.int 1), .val (.int 0), .val (.int 1), .val (.int 0)]) rfl (q := 234) rfl ?_
         refine oIload C at_234 rfl rfl ?_
         refine oLload C at_236 rfl rfl ?_
         refine oLload C at_238 rfl rfl ?_
         refine oIconst C at_240 (z := 1) rfl rfl ?_
         refine oIload C at_241 rfl rfl ?_
         refine oLload C at_243 rfl rfl ?_
         refine oLload C at_245 rfl rfl ?_
         refine oLload C at_247 rfl rfl ?_
         have z788 := (Nat.le_trans z787 K785.1)
         refine oCallS C (w24 hw) (w25 hw) (w26 hw) (w27 hw) at_249 (by decide) pd_717522 rfl rfl (argsL := [.long c0, .long c0, .int 1, .int 3, .long s0, .long s1, .long s2]) (rest := [.int 1]) rfl (W := 1) rfl (q := 252) rfl (by decide) (by decide) (by decide) (by decide) (mt_fExp l Z a0 hw _ n0 z788 c0 c0 (1 : Int32) (3 : Int32) s0 s1 s2 ) (oPureK ?_)
         refine oIcmp_ne C at_252 (q := 322) (by decide) (by decide) (r := 255) rfl (fun hq => absurd hq (not_not_intro (oe3101 c0 c0 s0 s1 s2 rfl r01 r12 q0c0 q1c0).symm)) (fun hc252 => ?_)
         refine oIload C at_255 rfl rfl ?_
         refine oLload C at_257 rfl rfl ?_
         refine oLload C at_259 rfl rfl ?_
         refine oIconst C at_261 (z := 0) rfl rfl ?_
         refine oIload C at_262 rfl rfl ?_
         refine oLload C at_264 rfl rfl ?_
         refine oLload C at_266 rfl rfl ?_
         refine oLload C at_268 rfl rfl ?_
         refine oCallS C (w24 hw) (w25 hw) (w26 hw) (w27 hw) at_270 (by decide) pd_717522 rfl rfl (argsL := [.long c1, .long c0, .int 0, .int 3, .long s0, .long s1, .long s2]) (rest := [.int 0]) rfl (W := 1) rfl (q := 273) rfl (by decide) (by decide) (by decide) (by decide) (mt_fExp l Z a0 hw _ n0 z788 c1 c0 (0 : Int32) (3 : Int32) s0 s1 s2 ) (oPureK ?_)
         refine oIcmp_ne C at_273 (q := 322) (by decide) (by decide) (r := 276) rfl (fun hq => absurd hq (not_not_intro (oe3011 c1 c0 s0 s1 s2 rc1 r01 r12 q0c0 q1c0 q1c1).symm)) (fun hc273 => ?_)
         refine oIload C at_276 rfl rfl ?_
         refine oLload C at_278 rfl rfl ?_
         refine oLload C at_280 rfl rfl ?_
         refine oIconst C at_282 (z := 0) rfl rfl ?_
         refine oIload C at_283 rfl rfl ?_
         refine oLload C at_285 rfl rfl ?_
         refine oLload C at_287 rfl rfl ?_
         refine oLload C at_289 rfl rfl ?_
         refine oCallS C (w24 hw) (w25 hw) (w26 hw) (w27 hw) at_291 (by decide) pd_717522 rfl rfl (argsL := [.long c2, .long c1, .int 0, .int 3, .long s0, .long s1, .long s2]) (rest := [.int 1]) rfl (W := 1) rfl (q := 294) rfl (by decide) (by decide) (by decide) (by decide) (mt_fExp l Z a0 hw _ n0 z788 c2 c1 (0 : Int32) (3 : Int32) s0 s1 s2 ) (oPureK ?_)
         refine oIcmp_ne C at_294 (q := 322) (by decide) (by decide) (r := 297) rfl (fun hq => absurd hq (not_not_intro (oe3012 c2 c1 s0 s1 s2 rc2 r01 r12 (own_mono q0c0 rc1) q1c1 q1c2 q2c2).symm)) (fun hc294 => ?_)
         refine oIload C at_297 rfl rfl ?_
         refine oLload C at_299 rfl rfl ?_
         refine oLload C at_301 rfl rfl ?_
         refine oIconst C at_303 (z := 0) rfl rfl ?_
         refine oIload C at_304 rfl rfl ?_
         refine oLload C at_306 rfl rfl ?_
         refine oLload C at_308 rfl rfl ?_
         refine oLload C at_310 rfl rfl ?_
         refine oCallS C (w24 hw) (w25 hw) (w26 hw) (w27 hw) at_312 (by decide) pd_717522 rfl rfl (argsL := [.long c3, .long c2, .int 0, .int 3, .long s0, .long s1, .long s2]) (rest := [.int 0]) rfl (W := 1) rfl (q := 315) rfl (by decide) (by decide) (by decide) (by decide) (mt_fExp l Z a0 hw _ n0 z788 c3 c2 (0 : Int32) (3 : Int32) s0 s1 s2 ) (oPureK ?_)
         refine oIcmp_ne C at_315 (q := 322) (by decide) (by decide) (r := 318) rfl (fun hq => absurd hq (not_not_intro (oe3022 c3 c2 s0 s1 s2 rc3 r01 r12 (own_mono (own_mono q0c0 rc1) rc2) q1c2 q2c2 q2c3).symm)) (fun hc315 => ?_)
         refine oIconst C at_318 (z := 1) rfl rfl ?_
         refine oGoto C at_319 (q := 323) (by decide) (by decide) ?_
         refine oRetZ C at_323 (z' := (1 : Int32)) rfl (by decide) (by decide) ?_
         exact rfl
        ·
         have f793 := (K781.fld f778 nin0 (oNF (Or.inr (oSn0 hw 0 1)) oN0))
         have f794 := (K781.arr f779 nin0 (oAS ne728 oA0))
         have f795 := (K781.exa f780)
         have z797 := (Nat.le_trans z782 K781.1)
         refine oCallV C (w17 hw) (w18 hw) (w20 hw) (w19 hw) (w8 hw) (w21 hw) at_229 f795 (by decide) pd_692006 rfl rfl (a := a429) (argsL := [.long c3]) (rest := []) rfl (W := 0) rfl (q := 232) rfl (by decide) (by decide) (by decide) (by decide) (ac4_19 l Z a0 hw _ n0 z797 a429 c3 a425 s0 s1 s2 f781_0 f793 f794 q2c3 f795 ge_a429 ne728) (oRQ ?_)
         rintro h796 ⟨K796, f796_0⟩
         refine oIstore C at_232 (Ls' := #[.val (.long x0), .second, .val (.int n9), .val (.int sg), .val (.int cg), .val (.long tt), .second, .val (.int 3), .val (.long s0), .second, .val (.long s1), .second, .val (.long s2), .second, .val (.long c0), .second, .val (.long c1), .second, .val (.long c2), .second, .val (.long c3), .second, .val (.ref a425), .val (.ref a429), .val (.int 1), .val (.int 0), .val (.int 1), .val (.int 1)]) rfl (q := 234) rfl ?_
         refine oIload C at_234 rfl rfl ?_
         refine oLload C at_236 rfl rfl ?_
         refine oLload C at_238 rfl rfl ?_
         refine oIconst C at_240 (z := 1) rfl rfl ?_
         refine oIload C at_241 rfl rfl ?_
         refine oLload C at_243 rfl rfl ?_
         refine oLload C at_245 rfl rfl ?_
         refine oLload C at_247 rfl rfl ?_
         have z798 := (Nat.le_trans z797 K796.1)
         refine oCallS C (w24 hw) (w25 hw) (w26 hw) (w27 hw) at_249 (by decide) pd_717522 rfl rfl (argsL := [.long c0, .long c0, .int 1, .int 3, .long s0, .long s1, .long s2]) (rest := [.int 1]) rfl (W := 1) rfl (q := 252) rfl (by decide) (by decide) (by decide) (by decide) (mt_fExp l Z a0 hw _ n0 z798 c0 c0 (1 : Int32) (3 : Int32) s0 s1 s2 ) (oPureK ?_)
         refine oIcmp_ne C at_252 (q := 322) (by decide) (by decide) (r := 255) rfl (fun hq => absurd hq (not_not_intro (oe3101 c0 c0 s0 s1 s2 rfl r01 r12 q0c0 q1c0).symm)) (fun hc252 => ?_)
         refine oIload C at_255 rfl rfl ?_
         refine oLload C at_257 rfl rfl ?_
         refine oLload C at_259 rfl rfl ?_
         refine oIconst C at_261 (z := 0) rfl rfl ?_
         refine oIload C at_262 rfl rfl ?_
         refine oLload C at_264 rfl rfl ?_
         refine oLload C at_266 rfl rfl ?_
         refine oLload C at_268 rfl rfl ?_
         refine oCallS C (w24 hw) (w25 hw) (w26 hw) (w27 hw) at_270 (by decide) pd_717522 rfl rfl (argsL := [.long c1, .long c0, .int 0, .int 3, .long s0, .long s1, .long s2]) (rest := [.int 0]) rfl (W := 1) rfl (q := 273) rfl (by decide) (by decide) (by decide) (by decide) (mt_fExp l Z a0 hw _ n0 z798 c1 c0 (0 : Int32) (3 : Int32) s0 s1 s2 ) (oPureK ?_)
         refine oIcmp_ne C at_273 (q := 322) (by decide) (by decide) (r := 276) rfl (fun hq => absurd hq (not_not_intro (oe3011 c1 c0 s0 s1 s2 rc1 r01 r12 q0c0 q1c0 q1c1).symm)) (fun hc273 => ?_)
         refine oIload C at_276 rfl rfl ?_
         refine oLload C at_278 rfl rfl ?_
         refine oLload C at_280 rfl rfl ?_
         refine oIconst C at_282 (z := 0) rfl rfl ?_
         refine oIload C at_283 rfl rfl ?_
         refine oLload C at_285 rfl rfl ?_
         refine oLload C at_287 rfl rfl ?_
         refine oLload C at_289 rfl rfl ?_
         refine oCallS C (w24 hw) (w25 hw) (w26 hw) (w27 hw) at_291 (by decide) pd_717522 rfl rfl (argsL := [.long c2, .long c1, .int 0, .int 3, .long s0, .long s1, .long s2]) (rest := [.int 1]) rfl (W := 1) rfl (q := 294) rfl (by decide) (by decide) (by decide) (by decide) (mt_fExp l Z a0 hw _ n0 z798 c2 c1 (0 : Int32) (3 : Int32) s0 s1 s2 ) (oPureK ?_)
         refine oIcmp_ne C at_294 (q := 322) (by decide) (by decide) (r := 297) rfl (fun hq => absurd hq (not_not_intro (oe3012 c2 c1 s0 s1 s2 rc2 r01 r12 (own_mono q0c0 rc1) q1c1 q1c2 q2c2).symm)) (fun hc294 => ?_)
         refine oIload C at_297 rfl rfl ?_
         refine oLload C at_299 rfl rfl ?_
         refine oLload C at_301 rfl rfl ?_
         refine oIconst C at_303 (z := 0) rfl rfl ?_
         refine oIload C at_304 rfl rfl ?_
         refine oLload C at_306 rfl rfl ?_
         refine oLload C at_308 rfl rfl ?_
         refine oLload C at_310 rfl rfl ?_
         refine oCallS C (w24 hw) (w25 hw) (w26 hw) (w27 hw) at_312 (by decide) pd_717522 rfl rfl (argsL := [.long c3, .long c2, .int 0, .int 3, .long s0, .long s1, .long s2]) (rest := [.int 1]) rfl (W := 1) rfl (q := 315) rfl (by decide) (by decide) (by decide) (by decide) (mt_fExp l Z a0 hw _ n0 z798 c3 c2 (0 : Int32) (3 : Int32) s0 s1 s2 ) (oPureK ?_)
         refine oIcmp_ne C at_315 (q := 322) (by decide) (by decide) (r := 318) rfl (fun hq => absurd hq (not_not_intro (oe3023 c3 c2 s0 s1 s2 rc3 r01 r12 (own_mono (own_mono q0c0 rc1) rc2) q1c2 q2c2 q2c3).symm)) (fun hc315 => ?_)
         refine oIconst C at_318 (z := 1) rfl rfl ?_
         refine oGoto C at_319 (q := 323) (by decide) (by decide) ?_
         refine oRetZ C at_323 (z' := (1 : Int32)) rfl (by decide) (by decide) ?_
         exact rfl
       ·
        have f803 := (K735.fld f731_0 nin0 oN0)
        have f804 := (K735.fld f733 nin0 oN0)
        have f805 := (K735.arr f734 nin0 oA0)
        have f806 := (K735.exa f736)
        have z808 := (Nat.le_trans z737 K735.1)
        refine oCallV C (w17 hw) (w18 hw) (w20 hw) (w19 hw) (w8 hw) (w21 hw) at_220 f806 (by decide) pd_692006 rfl rfl (a := a429) (argsL := [.long c2]) (rest := []) rfl (W := 0) rfl (q := 223) rfl (by decide) (by decide) (by decide) (by decide) (ac4_17 l Z a0 hw _ n0 z808 a429 c2 a425 s0 s1 s2 f803 f804 f805 q1c2 f806 ge_a429 ne728 q2c2) (oRQ ?_)
        rintro h807 ⟨K807, f807_0⟩
        refine oIstore C at_223 (Ls' := #[.val (.long x0), .second, .val (.int n9), .val (.int sg), .val (.int cg), .val (.long tt), .second, .val (.int 3), .val (.long s0), .second, .val (.long s1), .second, .val (.long s2), .second, .val (.long c0), .second, .val (.long c1), .second, .val (.long c2), .second, .val (.long c3), .second, .val (.ref a425), .val (.ref a429), .val (.int 1), .val (.int 0), .val (.int 1), .unset]) rfl (q := 225) rfl ?_
        refine oAload C at_225 rfl rfl rfl ?_
        refine oLload C at_227 rfl rfl ?_
        have f809 := (K807.fld f804 nin0 (oNF (Or.inr (oSn0 hw 0 1)) oN0))
        have f810 := (K807.arr f805 nin0 (oAS ne728 oA0))
        have f812 := (K807.exa f806)
        have z813 := (Nat.le_trans z808 K807.1)
        refine oCallV C (w17 hw) (w18 hw) (w20 hw) (w19 hw) (w8 hw) (w21 hw) at_229 f812 (by decide) pd_692006 rfl rfl (a := a429) (argsL := [.long c3]) (rest := []) rfl (W := 0) rfl (q := 232) rfl (by decide) (by decide) (by decide) (by decide) (ac4_20 l Z a0 hw _ n0 z813 a429 c3 a425 s0 s1 s2 f807_0 f809 f810) (oRQ ?_)
        rintro h811 K811
        refine oIstore C at_232 (Ls' := #[.val (.long x0), .second, .val (.int n9), .val (.int sg), .val (.int cg), .val (.long tt), .second, .val (.int 3), .val (.long s0), .second, .val (.long s1), .second, .val (.long s2), .second, .val (.long c0), .second, .val (.long c1), .second, .val (.long c2), .second, .val (.long c3), .second, .val (.ref a425), .val (.ref a429), .val (.int 1), .val (.int 0), .val (.int 1), .val (.int 0)]) rfl (q := 234) rfl ?_
        refine oIload C at_234 rfl rfl ?_
        refine oLload C at_236 rfl rfl ?_
        refine oLload C at_238 rfl rfl ?_
        refine oIconst C at_240 (z := 1) rfl rfl ?_
        refine oIload C at_241 rfl rfl ?_
        refine oLload C at_243 rfl rfl ?_
        refine oLload C at_245 rfl rfl ?_
        refine oLload C at_247 rfl rfl ?_
        have z814 := (Nat.le_trans z813 K811.1)
        refine oCallS C (w24 hw) (w25 hw) (w26 hw) (w27 hw) at_249 (by decide) pd_717522 rfl rfl (argsL := [.long c0, .long c0, .int 1, .int 3, .long s0, .long s1, .long s2]) (rest := [.int 1]) rfl (W := 1) rfl (q := 252) rfl (by decide) (by decide) (by decide) (by decide) (mt_fExp l Z a0 hw _ n0 z814 c0 c0 (1 : Int32) (3 : Int32) s0 s1 s2 ) (oPureK ?_)
        refine oIcmp_ne C at_252 (q := 322) (by decide) (by decide) (r := 255) rfl (fun hq => absurd hq (not_not_intro (oe3101 c0 c0 s0 s1 s2 rfl r01 r12 q0c0 q1c0).symm)) (fun hc252 => ?_)
        refine oIload C at_255 rfl rfl ?_
        refine oLload C at_257 rfl rfl ?_
        refine oLload C at_259 rfl rfl ?_
        refine oIconst C at_261 (z := 0) rfl rfl ?_
        refine oIload C at_262 rfl rfl ?_
        refine oLload C at_264 rfl rfl ?_
        refine oLload C at_266 rfl rfl ?_
        refine oLload C at_268 rfl rfl ?_
        refine oCallS C (w24 hw) (w25 hw) (w26 hw) (w27 hw) at_270 (by decide) pd_717522 rfl rfl (argsL := [.long c1, .long c0, .int 0, .int 3, .long s0, .long s1, .long s2]) (rest := [.int 0]) rfl (W := 1) rfl (q := 273) rfl (by decide) (by decide) (by decide) (by decide) (mt_fExp l Z a0 hw _ n0 z814 c1 c0 (0 : Int32) (3 : Int32) s0 s1 s2 ) (oPureK ?_)
        refine oIcmp_ne C at_273 (q := 322) (by decide) (by decide) (r := 276) rfl (fun hq => absurd hq (not_not_intro (oe3011 c1 c0 s0 s1 s2 rc1 r01 r12 q0c0 q1c0 q1c1).symm)) (fun hc273 => ?_)
        refine oIload C at_276 rfl rfl ?_
        refine oLload C at_278 rfl rfl ?_
        refine oLload C at_280 rfl rfl ?_
        refine oIconst C at_282 (z := 0) rfl rfl ?_
        refine oIload C at_283 rfl rfl ?_
        refine oLload C at_285 rfl rfl ?_
        refine oLload C at_287 rfl rfl ?_
        refine oLload C at_289 rfl rfl ?_
        refine oCallS C (w24 hw) (w25 hw) (w26 hw) (w27 hw) at_291 (by decide) pd_717522 rfl rfl (argsL := [.long c2, .long c1, .int 0, .int 3, .long s0, .long s1, .long s2]) (rest := [.int 1]) rfl (W := 1) rfl (q := 294) rfl (by decide) (by decide) (by decide) (by decide) (mt_fExp l Z a0 hw _ n0 z814 c2 c1 (0 : Int32) (3 : Int32) s0 s1 s2 ) (oPureK ?_)
        refine oIcmp_ne C at_294 (q := 322) (by decide) (by decide) (r := 297) rfl (fun hq => absurd hq (not_not_intro (oe3013 c2 c1 s0 s1 s2 rc2 r01 r12 (own_mono q0c0 rc1) q1c1 q1c2 q2c2).symm)) (fun hc294 => ?_)
        refine oIload C at_297 rfl rfl ?_
        refine oLload C at_299 rfl rfl ?_
        refine oLload C at_301 rfl rfl ?_
        refine oIconst C at_303 (z := 0) rfl rfl ?_
        refine oIload C at_304 rfl rfl ?_
        refine oLload C at_306 rfl rfl ?_
        refine oLload C at_308 rfl rfl ?_
        refine oLload C at_310 rfl rfl ?_
        refine oCallS C (w24 hw) (w25 hw) (w26 hw) (w27 hw) at_312 (by decide) pd_717522 rfl rfl (argsL := [.long c3, .long c2, .int 0, .int 3, .long s0, .long s1, .long s2]) (rest := [.int 0]) rfl (W := 1) rfl (q := 315) rfl (by decide) (by decide) (by decide) (by decide) (mt_fExp l Z a0 hw _ n0 z814 c3 c2 (0 : Int32) (3 : Int32) s0 s1 s2 ) (oPureK ?_)
        refine oIcmp_ne C at_315 (q := 322) (by decide) (by decide) (r := 318) rfl (fun hq => absurd hq (not_not_intro (oe3033 c3 c2 s0 s1 s2 rc3 r01 r12 (own_mono (own_mono q0c0 rc1) rc2) q1c2 q2c2).symm)) (fun hc315 => ?_)
        refine oIconst C at_318 (z := 1) rfl rfl ?_
        refine oGoto C at_319 (q := 323) (by decide) (by decide) ?_
        refine oRetZ C at_323 (z' := (1 : Int32)) rfl (by decide) (by decide) ?_
        exact rfl
     ·
      by_cases q2c1 : s2 < c1
      ·
       have f819 := (K731.fld f431_0 nin0 (oNF (Or.inr (oSn0 hw 0 1)) oN0))
       have f820 := (K731.arr f729 nin0 (oAS ne728 oA0))
       have f821 := (K731.exa f730)
       have z823 := (Nat.le_trans z732 K731.1)
       refine oCallV C (w17 hw) (w18 hw) (w20 hw) (w19 hw) (w8 hw) (w21 hw) at_211 f821 (by decide) pd_692006 rfl rfl (a := a429) (argsL := [.long c1]) (rest := []) rfl (W := 0) rfl (q := 214) rfl (by decide) (by decide) (by decide) (by decide) (ac4_16 l Z a0 hw _ n0 z823 a429 c1 a425 s0 s1 s2 f731_0 f819 f820 q1c1 f821 ge_a429 ne728 q2c1) (oRQ ?_)
       rintro h822 ⟨K822, f822_0⟩
       refine oIstore C at_214 (Ls' := #[.val (.long x0), .second, .val (.int n9), .val (.int sg), .val (.int cg), .val (.long tt), .second, .val (.int 3), .val (.long s0), .second, .val (.long s1), .second, .val (.long s2), .second, .val (.long c0), .second, .val (.long c1), .second, .val (.long c2), .second, .val (.long c3), .second, .val (.ref a425), .val (.ref a429), .val (.int 1), .val (.int 1), .unset, .unset]) rfl (q := 216) rfl ?_
       refine oAload C at_216 rfl rfl rfl ?_
       refine oLload C at_218 rfl rfl ?_
       by_cases q2c2 : s2 < c2
       ·
        have f824 := (K822.fld f819 nin0 (oNF (Or.inr (oSn0 hw 0 1)) oN0))
        have f825 := (K822.arr f820 nin0 (oAS ne728 oA0))
        have f827 := (K822.exa f821)
        have z828 := (Nat.le_trans z823 K822.1)
        refine oCallV C (w17 hw) (w18 hw) (w20 hw) (w19 hw) (w8 hw) (w21 hw) at_220 f827 (by decide) pd_692006 rfl rfl (a := a429) (argsL := [.long c2]) (rest := []) rfl (W := 0) rfl (q := 223) rfl (by decide) (by decide) (by decide) (by decide) (ac4_18 l Z a0 hw _ n0 z828 a429 c2 a425 s0 s1 s2 f822_0 f824 f825 q2c2) (oRQ ?_)
        rintro h826 K826
        refine oIstore C at_223 (Ls' := #[.val (.long x0), .second, .val (.int n9), .val (.int sg), .val (.int cg), .val (.long tt), .second, .val (.int 3), .val (.long s0), .second, .val (.long s1), .second, .val (.long s2), .second, .val (.long c0), .second, .val (.long c1), .second, .val (.long c2), .second, .val (.long c3), .second, .val (.ref a425), .val (.ref a429), .val (.int 1), .val (.int 1), .val (.int 0), .unset]) rfl (q := 225) rfl ?_
        refine oAload C at_225 rfl rfl rfl ?_
        refine oLload C at_227 rfl rfl ?_
        by_cases q2c3 : s2 < c3
        ·
         have f829 := (K826.fld f822_0 nin0 oN0)
         have f830 := (K826.fld f824 nin0 oN0)
         have f831 := (K826.arr f825 nin0 oA0)
         have f833 := (K826.exa f827)
         have z834 := (Nat.le_trans z828 K826.1)
         refine oCallV C (w17 hw) (w18 hw) (w20 hw) (w19 hw) (w8 hw) (w21 hw) at_229 f833 (by decide) pd_692006 rfl rfl (a := a429) (argsL := [.long c3]) (rest := []) rfl (W := 0) rfl (q := 232) rfl (by decide) (by decide) (by decide) (by decide) (ac4_18 l Z a0 hw _ n0 z834 a429 c3 a425 s0 s1 s2 f829 f830 f831 q2c3) (oRQ ?_)
         rintro h832 K832
         refine oIstore C at_232 (Ls' := #[.val (.long x0), .second, .val (.int n9), .val (.int sg), .val (.int cg), .val (.long tt), .second, .val (.int 3), .val (.long s0), .second, .val (.long s1), .second, .val (.long s2), .second, .val (.long c0), .second, .val (.long c1), .second, .val (.long c2), .second, .val (.long c3), .second, .val (.ref a425), .val (.ref a429), .val (.int 1), .val (.int 1), .val (.int 0), .val (.int 0)]) rfl (q := 234) rfl ?_
         refine oIload C at_234 rfl rfl ?_
         refine oLload C at_236 rfl rfl ?_
         refine oLload C at_238 rfl rfl ?_
         refine oIconst C at_240 (z := 1) rfl rfl ?_
         refine oIload C at_241 rfl rfl ?_
         refine oLload C at_243 rfl rfl ?_
         refine oLload C at_245 rfl rfl ?_
         refine oLload C at_247 rfl rfl ?_
         have z835 := (Nat.le_trans z834 K832.1)
         refine oCallS C (w24 hw) (w25 hw) (w26 hw) (w27 hw) at_249 (by decide) pd_717522 rfl rfl (argsL := [.long c0, .long c0, .int 1, .int 3, .long s0, .long s1, .long s2]) (rest := [.int 1]) rfl (W := 1) rfl (q := 252) rfl (by decide) (by decide) (by decide) (by decide) (mt_fExp l Z a0 hw _ n0 z835 c0 c0 (1 : Int32) (3 : Int32) s0 s1 s2 ) (oPureK ?_)
         refine oIcmp_ne C at_252 (q := 322) (by decide) (by decide) (r := 255) rfl (fun hq => absurd hq (not_not_intro (oe3101 c0 c0 s0 s1 s2 rfl r01 r12 q0c0 q1c0).symm)) (fun hc252 => ?_)
         refine oIload C at_255 rfl rfl ?_
         refine oLload C at_257 rfl rfl ?_
         refine oLload C at_259 rfl rfl ?_
         refine oIconst C at_261 (z := 0) rfl rfl ?_
         refine oIload C at_262 rfl rfl ?_
         refine oLload C at_264 rfl rfl ?_
         refine oLload C at_266 rfl rfl ?_
         refine oLload C at_268 rfl rfl ?_
         refine oCallS C (w24 hw) (w25 hw) (w26 hw) (w27 hw) at_270 (by decide) pd_717522 rfl rfl (argsL := [.long c1, .long c0, .int 0, .int 3, .long s0, .long s1, .long s2]) (rest := [.int 1]) rfl (W := 1) rfl (q := 273) rfl (by decide) (by decide) (by decide) (by decide) (mt_fExp l Z a0 hw _ n0 z835 c1 c0 (0 : Int32) (3 : Int32) s0 s1 s2 ) (oPureK ?_)
         refine oIcmp_ne C at_273 (q := 322) (by decide) (by decide) (r := 276) rfl (fun hq => absurd hq (not_not_intro (oe3012 c1 c0 s0 s1 s2 rc1 r01 r12 q0c0 q1c0 q1c1 q2c1).symm)) (fun hc273 => ?_)
         refine oIload C at_276 rfl rfl ?_
         refine oLload C at_278 rfl rfl ?_
         refine oLload C at_280 rfl rfl ?_
         refine oIconst C at_282 (z := 0) rfl rfl ?_
         refine oIload C at_283 rfl rfl ?_
         refine oLload C at_285 rfl rfl ?_
         refine oLload C at_287 rfl rfl ?_
         refine oLload C at_289 rfl rfl ?_
         refine oCallS C (w24 hw) (w25 hw) (w26 hw) (w27 hw) at_291 (by decide) pd_717522 rfl rfl (argsL := [.long c2, .long c1, .int 0, .int 3, .long s0, .long s1, .long s2]) (rest := [.int 0]) rfl (W := 1) rfl (q := 294) rfl (by decide) (by decide) (by decide) (by decide) (mt_fExp l Z a0 hw _ n0 z835 c2 c1 (0 : Int32) (3 : Int32) s0 s1 s2 ) (oPureK ?_)
         refine oIcmp_ne C at_294 (q := 322) (by decide) (by decide) (r := 297) rfl (fun hq => absurd hq (not_not_intro (oe3022 c2 c1 s0 s1 s2 rc2 r01 r12 (own_mono q0c0 rc1) q1c1 q2c1 q2c2).symm)) (fun hc294 => ?_)
         refine oIload C at_297 rfl rfl ?_
         refine oLload C at_299 rfl rfl ?_
         refine oLload C at_301 rfl rfl ?_
         refine oIconst C at_303 (z := 0) rfl rfl ?_
         refine oIload C at_304 rfl rfl ?_
         refine oLload C at_306 rfl rfl ?_
         refine oLload C at_308 rfl rfl ?_
         refine oLload C at_310 rfl rfl ?_
         refine oCallS C (w24 hw) (w25 hw) (w26 hw) (w27 hw) at_312 (by decide) pd_717522 rfl rfl (argsL := [.long c3, .long c2, .int 0, .int 3, .long s0, .long s1, .long s2]) (rest := [.int 0]) rfl (W := 1) rfl (q := 315) rfl (by decide) (by decide) (by decide) (by decide) (mt_fExp l Z a0 hw _ n0 z835 c3 c2 (0 : Int32) (3 : Int32) s0 s1 s2 ) (oPureK ?_)
         refine oIcmp_ne C at_315 (q := 322) (by decide) (by decide) (r := 318) rfl (fun hq => absurd hq (not_not_intro (oe3022 c3 c2 s0 s1 s2 rc3 r01 r12 (own_mono (own_mono q0c0 rc1) rc2) (own_mono q1c1 rc2) q2c2 q2c3).symm)) (fun hc315 => ?_)
         refine oIconst C at_318 (z := 1) rfl rfl ?_
         refine oGoto C at_319 (q := 323) (by decide) (by decide) ?_
         refine oRetZ C at_323 (z' := (1 : Int32)) rfl (by decide) (by decide) ?_
         exact rfl
        ·
         have f840 := (K826.fld f822_0 nin0 oN0)
         have f841 := (K826.fld f824 nin0 oN0)
         have f842 := (K826.arr f825 nin0 oA0)
         have f843 := (K826.exa f827)
         have z845 := (Nat.le_trans z828 K826.1)
         refine oCallV C (w17 hw) (w18 hw) (w20 hw) (w19 hw) (w8 hw) (w21 hw) at_229 f843 (by decide) pd_692006 rfl rfl (a := a429) (argsL := [.long c3]) (rest := []) rfl (W := 0) rfl (q := 232) rfl (by decide) (by decide) (by decide) (by decide) (ac4_19 l Z a0 hw _ n0 z845 a429 c3 a425 s0 s1 s2 f840 f841 f842 q2c3 f843 ge_a429 ne728) (oRQ ?_)
         rintro h844 ⟨K844, f844_0⟩
         refine oIstore C at_232 (Ls' := #[.val (.long x0), .second, .val (.int n9), .val (.int sg), .val (.int cg), .val (.long tt), .second, .val (.int 3), .val (.long s0), .second, .val (.long s1), .second, .val (.long s2), .second, .val (.long c0), .second, .val (.long c1), .second, .val (.long c2), .second, .val (.long c3), .second, .val (.ref a425), .val (.ref a429), .val (.int 1), .val (.int 1), .val (.int 0), .val (.int 1)]) rfl (q := 234) rfl ?_
         refine oIload C at_234 rfl rfl ?_
         refine oLload C at_236 rfl rfl ?_
         refine oLload C at_238 rfl rfl ?_
         refine oIconst C at_240 (z := 1) rfl rfl ?_
         refine oIload C at_241 rfl rfl ?_
         refine oLload C at_243 rfl rfl ?_
         refine oLload C at_245 rfl rfl ?_
         refine oLload C at_247 rfl rfl ?_
         have z846 := (Nat.le_trans z845 K844.1)
         refine oCallS C (w24 hw) (w25 hw) (w26 hw) (w27 hw) at_249 (by decide) pd_717522 rfl rfl (argsL := [.long c0, .long c0, .int 1, .int 3, .long s0, .long s1, .long s2]) (rest := [.int 1]) rfl (W := 1) rfl (q := 252) rfl (by decide) (by decide) (by decide) (by decide) (mt_fExp l Z a0 hw _ n0 z846 c0 c0 (1 : Int32) (3 : Int32) s0 s1 s2 ) (oPureK ?_)
         refine oIcmp_ne C at_252 (q := 322) (by decide) (by decide) (r := 255) rfl (fun hq => absurd hq (not_not_intro (oe3101 c0 c0 s0 s1 s2 rfl r01 r12 q0c0 q1c0).symm)) (fun hc252 => ?_)
         refine oIload C at_255 rfl rfl ?_
         refine oLload C at_257 rfl rfl ?_
         refine oLload C at_259 rfl rfl ?_
         refine oIconst C at_261 (z := 0) rfl rfl ?_
         refine oIload C at_262 rfl rfl ?_
         refine oLload C at_264 rfl rfl ?_
         refine oLload C at_266 rfl rfl ?_
         refine oLload C at_268 rfl rfl ?_
         refine oCallS C (w24 hw) (w25 hw) (w26 hw) (w27 hw) at_270 (by decide) pd_717522 rfl rfl (argsL := [.long c1, .long c0, .int 0, .int 3, .long s0, .long s1, .long s2]) (rest := [.int 1]) rfl (W := 1) rfl (q := 273) rfl (by decide) (by decide) (by decide) (by decide) (mt_fExp l Z a0 hw _ n0 z846 c1 c0 (0 : Int32) (3 : Int32) s0 s1 s2 ) (oPureK ?_)
         refine oIcmp_ne C at_273 (q := 322) (by decide) (by decide) (r := 276) rfl (fun hq => absurd hq (not_not_intro (oe3012 c1 c0 s0 s1 s2 rc1 r01 r12 q0c0 q1c0 q1c1 q2c1).symm)) (fun hc273 => ?_)
         refine oIload C at_276 rfl rfl ?_
         refine oLload C at_278 rfl rfl ?_
         refine oLload C at_280 rfl rfl ?_
         refine oIconst C at_282 (z := 0) rfl rfl ?_
         refine oIload C at_283 rfl rfl ?_
         refine oLload C at_285 rfl rfl ?_
         refine oLload C at_287 rfl rfl ?_
         refine oLload C at_289 rfl rfl ?_
         refine oCallS C (w24 hw) (w25 hw) (w26 hw) (w27 hw) at_291 (by decide) pd_717522 rfl rfl (argsL := [.long c2, .long c1, .int 0, .int 3, .long s0, .long s1, .long s2]) (rest := [.int 0]) rfl (W := 1) rfl (q := 294) rfl (by decide) (by decide) (by decide) (by decide) (mt_fExp l Z a0 hw _ n0 z846 c2 c1 (0 : Int32) (3 : Int32) s0 s1 s2 ) (oPureK ?_)
         refine oIcmp_ne C at_294 (q := 322) (by decide) (by decide) (r := 297) rfl (fun hq => absurd hq (not_not_intro (oe3022 c2 c1 s0 s1 s2 rc2 r01 r12 (own_mono q0c0 rc1) q1c1 q2c1 q2c2).symm)) (fun hc294 => ?_)
         refine oIload C at_297 rfl rfl ?_
         refine oLload C at_299 rfl rfl ?_
         refine oLload C at_301 rfl rfl ?_
         refine oIconst C at_303 (z := 0) rfl rfl ?_
         refine oIload C at_304 rfl rfl ?_
         refine oLload C at_306 rfl rfl ?_
         refine oLload C at_308 rfl rfl ?_
         refine oLload C at_310 rfl rfl ?_
         refine oCallS C (w24 hw) (w25 hw) (w26 hw) (w27 hw) at_312 (by decide) pd_717522 rfl rfl (argsL := [.long c3, .long c2, .int 0, .int 3, .long s0, .long s1, .long s2]) (rest := [.int 1]) rfl (W := 1) rfl (q := 315) rfl (by decide) (by decide) (by decide) (by decide) (mt_fExp l Z a0 hw _ n0 z846 c3 c2 (0 : Int32) (3 : Int32) s0 s1 s2 ) (oPureK ?_)
         refine oIcmp_ne C at_315 (q := 322) (by decide) (by decide) (r := 318) rfl (fun hq => absurd hq (not_not_intro (oe3023 c3 c2 s0 s1 s2 rc3 r01 r12 (own_mono (own_mono q0c0 rc1) rc2) (own_mono q1c1 rc2) q2c2 q2c3).symm)) (fun hc315 => ?_)
         refine oIconst C at_318 (z := 1) rfl rfl ?_
         refine oGoto C at_319 (q := 323) (by decide) (by decide) ?_
         refine oRetZ C at_323 (z' := (1 : Int32)) rfl (by decide) (by decide) ?_
         exact rfl
       ·
        have f851 := (K822.fld f819 nin0 (oNF (Or.inr (oSn0 hw 0 1)) oN0))
        have f852 := (K822.arr f820 nin0 (oAS ne728 oA0))
        have f853 := (K822.exa f821)
        have z855 := (Nat.le_trans z823 K822.1)
        refine oCallV C (w17 hw) (w18 hw) (w20 hw) (w19 hw) (w8 hw) (w21 hw) at_220 f853 (by decide) pd_692006 rfl rfl (a := a429) (argsL := [.long c2]) (rest := []) rfl (W := 0) rfl (q := 223) rfl (by decide) (by decide) (by decide) (by decide) (ac4_19 l Z a0 hw _ n0 z855 a429 c2 a425 s0 s1 s2 f822_0 f851 f852 q2c2 f853 ge_a429 ne728) (oRQ ?_)
        rintro h854 ⟨K854, f854_0⟩
        refine oIstore C at_223 (Ls' := #[.val (.long x0), .second, .val (.int n9), .val (.int sg), .val (.int cg), .val (.long tt), .second, .val (.int 3), .val (.long s0), .second, .val (.long s1), .second, .val (.long s2), .second, .val (.long c0), .second, .val (.long c1), .second, .val (.long c2), .second, .val (.long c3), .second, .val (.ref a425), .val (.ref a429), .val (.int 1), .val (.int 1), .val (.int 1), .unset]) rfl (q := 225) rfl ?_
        refine oAload C at_225 rfl rfl rfl ?_
        refine oLload C at_227 rfl rfl ?_
        have f856 := (K854.fld f851 nin0 (oNF (Or.inr (oSn0 hw 0 1)) oN0))
        have f857 := (K854.arr f852 nin0 (oAS ne728 oA0))
        have f859 := (K854.exa f853)
        have z860 := (Nat.le_trans z855 K854.1)
        refine oCallV C (w17 hw) (w18 hw) (w20 hw) (w19 hw) (w8 hw) (w21 hw) at_229 f859 (by decide) pd_692006 rfl rfl (a := a429) (argsL := [.long c3]) (rest := []) rfl (W := 0) rfl (q := 232) rfl (by decide) (by decide) (by decide) (by decide) (ac4_20 l Z a0 hw _ n0 z860 a429 c3 a425 s0 s1 s2 f854_0 f856 f857) (oRQ ?_)
        rintro h858 K858
        refine oIstore C at_232 (Ls' := #[.val (.long x0), .second, .val (.int n9), .val (.int sg), .val (.int cg), .val (.long tt), .second, .val (.int 3), .val (.long s0), .second, .val (.long s1), .second, .val (.long s2), .second, .val (.long c0), .second, .val (.long c1), .second, .val (.long c2), .second, .val (.long c3), .second, .val (.ref a425), .val (.ref a429), .val (.int 1), .val (.int 1), .val (.int 1), .val (.int 0)]) rfl (q := 234) rfl ?_
        refine oIload C at_234 rfl rfl ?_
        refine oLload C at_236 rfl rfl ?_
        refine oLload C at_238 rfl rfl ?_
        refine oIconst C at_240 (z := 1) rfl rfl ?_
        refine oIload C at_241 rfl rfl ?_
        refine oLload C at_243 rfl rfl ?_
        refine oLload C at_245 rfl rfl ?_
        refine oLload C at_247 rfl rfl ?_
        have z861 := (Nat.le_trans z860 K858.1)
        refine oCallS C (w24 hw) (w25 hw) (w26 hw) (w27 hw) at_249 (by decide) pd_717522 rfl rfl (argsL := [.long c0, .long c0, .int 1, .int 3, .long s0, .long s1, .long s2]) (rest := [.int 1]) rfl (W := 1) rfl (q := 252) rfl (by decide) (by decide) (by decide) (by decide) (mt_fExp l Z a0 hw _ n0 z861 c0 c0 (1 : Int32) (3 : Int32) s0 s1 s2 ) (oPureK ?_)
        refine oIcmp_ne C at_252 (q := 322) (by decide) (by decide) (r := 255) rfl (fun hq => absurd hq (not_not_intro (oe3101 c0 c0 s0 s1 s2 rfl r01 r12 q0c0 q1c0).symm)) (fun hc252 => ?_)
        refine oIload C at_255 rfl rfl ?_
        refine oLload C at_257 rfl rfl ?_
        refine oLload C at_259 rfl rfl ?_
        refine oIconst C at_261 (z := 0) rfl rfl ?_
        refine oIload C at_262 rfl rfl ?_
        refine oLload C at_264 rfl rfl ?_
        refine oLload C at_266 rfl rfl ?_
        refine oLload C at_268 rfl rfl ?_
        refine oCallS C (w24 hw) (w25 hw) (w26 hw) (w27 hw) at_270 (by decide) pd_717522 rfl rfl (argsL := [.long c1, .long c0, .int 0, .int 3, .long s0, .long s1, .long s2]) (rest := [.int 1]) rfl (W := 1) rfl (q := 273) rfl (by decide) (by decide) (by decide) (by decide) (mt_fExp l Z a0 hw _ n0 z861 c1 c0 (0 : Int32) (3 : Int32) s0 s1 s2 ) (oPureK ?_)
        refine oIcmp_ne C at_273 (q := 322) (by decide) (by decide) (r := 276) rfl (fun hq => absurd hq (not_not_intro (oe3012 c1 c0 s0 s1 s2 rc1 r01 r12 q0c0 q1c0 q1c1 q2c1).symm)) (fun hc273 => ?_)
        refine oIload C at_276 rfl rfl ?_
        refine oLload C at_278 rfl rfl ?_
        refine oLload C at_280 rfl rfl ?_
        refine oIconst C at_282 (z := 0) rfl rfl ?_
        refine oIload C at_283 rfl rfl ?_
        refine oLload C at_285 rfl rfl ?_
        refine oLload C at_287 rfl rfl ?_
        refine oLload C at_289 rfl rfl ?_
        refine oCallS C (w24 hw) (w25 hw) (w26 hw) (w27 hw) at_291 (by decide) pd_717522 rfl rfl (argsL := [.long c2, .long c1, .int 0, .int 3, .long s0, .long s1, .long s2]) (rest := [.int 1]) rfl (W := 1) rfl (q := 294) rfl (by decide) (by decide) (by decide) (by decide) (mt_fExp l Z a0 hw _ n0 z861 c2 c1 (0 : Int32) (3 : Int32) s0 s1 s2 ) (oPureK ?_)
        refine oIcmp_ne C at_294 (q := 322) (by decide) (by decide) (r := 297) rfl (fun hq => absurd hq (not_not_intro (oe3023 c2 c1 s0 s1 s2 rc2 r01 r12 (own_mono q0c0 rc1) q1c1 q2c1 q2c2).symm)) (fun hc294 => ?_)
        refine oIload C at_297 rfl rfl ?_
        refine oLload C at_299 rfl rfl ?_
        refine oLload C at_301 rfl rfl ?_
        refine oIconst C at_303 (z := 0) rfl rfl ?_
        refine oIload C at_304 rfl rfl ?_
        refine oLload C at_306 rfl rfl ?_
        refine oLload C at_308 rfl rfl ?_
        refine oLload C at_310 rfl rfl ?_
        refine oCallS C (w24 hw) (w25 hw) (w26 hw) (w27 hw) at_312 (by decide) pd_717522 rfl rfl (argsL := [.long c3, .long c2, .int 0, .int 3, .long s0, .long s1, .long s2]) (rest := [.int 0]) rfl (W := 1) rfl (q := 315) rfl (by decide) (by decide) (by decide) (by decide) (mt_fExp l Z a0 hw _ n0 z861 c3 c2 (0 : Int32) (3 : Int32) s0 s1 s2 ) (oPureK ?_)
        refine oIcmp_ne C at_315 (q := 322) (by decide) (by decide) (r := 318) rfl (fun hq => absurd hq (not_not_intro (oe3033 c3 c2 s0 s1 s2 rc3 r01 r12 (own_mono (own_mono q0c0 rc1) rc2) (own_mono q1c1 rc2) q2c2).symm)) (fun hc315 => ?_)
        refine oIconst C at_318 (z := 1) rfl rfl ?_
        refine oGoto C at_319 (q := 323) (by decide) (by decide) ?_
        refine oRetZ C at_323 (z' := (1 : Int32)) rfl (by decide) (by decide) ?_
        exact rfl
      ·
       have f866 := (K731.fld f431_0 nin0 (oNF (Or.inr (oSn0 hw 0 1)) oN0))
       have f867 := (K731.arr f729 nin0 (oAS ne728 oA0))
       have f868 := (K731.exa f730)
       have z870 := (Nat.le_trans z732 K731.1)
       refine oCallV C (w17 hw) (w18 hw) (w20 hw) (w19 hw) (w8 hw) (w21 hw) at_211 f868 (by decide) pd_692006 rfl rfl (a := a429) (argsL := [.long c1]) (rest := []) rfl (W := 0) rfl (q := 214) rfl (by decide) (by decide) (by decide) (by decide) (ac4_17 l Z a0 hw _ n0 z870 a429 c1 a425 s0 s1 s2 f731_0 f866 f867 q1c1 f868 ge_a429 ne728 q2c1) (oRQ ?_)
       rintro h869 ⟨K869, f869_0⟩
       refine oIstore C at_214 (Ls' := #[.val (.long x0), .second, .val (.int n9), .val (.int sg), .val (.int cg), .val (.long tt), .second, .val (.int 3), .val (.long s0), .second, .val (.long s1), .second, .val (.long s2), .second, .val (.long c0), .second, .val (.long c1), .second, .val (.long c2), .second, .val (.long c3), .second, .val (.ref a425), .val (.ref a429), .val (.int 1), .val (.int 1), .unset, .unset]) rfl (q := 216) rfl ?_
       refine oAload C at_216 rfl rfl rfl ?_
       refine oLload C at_218 rfl rfl ?_
       have f871 := (K869.fld f866 nin0 (oNF (Or.inr (oSn0 hw 0 1)) oN0))
       have f872 := (K869.arr f867 nin0 (oAS ne728 oA0))
       have f874 := (K869.exa f868)
       have z875 := (Nat.le_trans z870 K869.1)
       refine oCallV C (w17 hw) (w18 hw) (w20 hw) (w19 hw) (w8 hw) (w21 hw) at_220 f874 (by decide) pd_692006 rfl rfl (a := a429) (argsL := [.long c2]) (rest := []) rfl (W := 0) rfl (q := 223) rfl (by decide) (by decide) (by decide) (by decide) (ac4_20 l Z a0 hw _ n0 z875 a429 c2 a425 s0 s1 s2 f869_0 f871 f872) (oRQ ?_)
       rintro h873 K873
       refine oIstore C at_223 (Ls' := #[.val (.long x0), .second, .val (.int n9), .val (.int sg), .val (.int cg), .val (.long tt), .second, .val (.int 3), .val (.long s0), .second, .val (.long s1), .second, .val (.long s2), .second, .val (.long c0), .second, .val (.long c1), .second, .val (.long c2), .second, .val (.long c3), .second, .val (.ref a425), .val (.ref a429), .val (.int 1), .val (.int 1), .val (.int 0), .unset]) rfl (q := 225) rfl ?_
       refine oAload C at_225 rfl rfl rfl ?_
       refine oLload C at_227 rfl rfl ?_
       have f876 := (K873.fld f869_0 nin0 oN0)
       have f877 := (K873.fld f871 nin0 oN0)
       have f878 := (K873.arr f872 nin0 oA0)
       have f880 := (K873.exa f874)
       have z881 := (Nat.le_trans z875 K873.1)
       refine oCallV C (w17 hw) (w18 hw) (w20 hw) (w19 hw) (w8 hw) (w21 hw) at_229 f880 (by decide) pd_692006 rfl rfl (a := a429) (argsL := [.long c3]) (rest := []) rfl (W := 0) rfl (q := 232) rfl (by decide) (by decide) (by decide) (by decide) (ac4_20 l Z a0 hw _ n0 z881 a429 c3 a425 s0 s1 s2 f876 f877 f878) (oRQ ?_)
       rintro h879 K879
       refine oIstore C at_232 (Ls' := #[.val (.long x0), .second, .val (.int n9), .val (.int sg), .val (.int cg), .val (.long tt), .second, .val (.int 3), .val (.long s0), .second, .val (.long s1), .second, .val (.long s2), .second, .val (.long c0), .second, .val (.long c1), .second, .val (.long c2), .second, .val (.long c3), .second, .val (.ref a425), .val (.ref a429), .val (.int 1), .val (.int 1), .val (.int 0), .val (.int 0)]) rfl (q := 234) rfl ?_
       refine oIload C at_234 rfl rfl ?_
       refine oLload C at_236 rfl rfl ?_
       refine oLload C at_238 rfl rfl ?_
       refine oIconst C at_240 (z := 1) rfl rfl ?_
       refine oIload C at_241 rfl rfl ?_
       refine oLload C at_243 rfl rfl ?_
       refine oLload C at_245 rfl rfl ?_
       refine oLload C at_247 rfl rfl ?_
       have z882 := (Nat.le_trans z881 K879.1)
       refine oCallS C (w24 hw) (w25 hw) (w26 hw) (w27 hw) at_249 (by decide) pd_717522 rfl rfl (argsL := [.long c0, .long c0, .int 1, .int 3, .long s0, .long s1, .long s2]) (rest := [.int 1]) rfl (W := 1) rfl (q := 252) rfl (by decide) (by decide) (by decide) (by decide) (mt_fExp l Z a0 hw _ n0 z882 c0 c0 (1 : Int32) (3 : Int32) s0 s1 s2 ) (oPureK ?_)
       refine oIcmp_ne C at_252 (q := 322) (by decide) (by decide) (r := 255) rfl (fun hq => absurd hq (not_not_intro (oe3101 c0 c0 s0 s1 s2 rfl r01 r12 q0c0 q1c0).symm)) (fun hc252 => ?_)
       refine oIload C at_255 rfl rfl ?_
       refine oLload C at_257 rfl rfl ?_
       refine oLload C at_259 rfl rfl ?_
       refine oIconst C at_261 (z := 0) rfl rfl ?_
       refine oIload C at_262 rfl rfl ?_
       refine oLload C at_264 rfl rfl ?_
       refine oLload C at_266 rfl rfl ?_
       refine oLload C at_268 rfl rfl ?_
       refine oCallS C (w24 hw) (w25 hw) (w26 hw) (w27 hw) at_270 (by decide) pd_717522 rfl rfl (argsL := [.long c1, .long c0, .int 0, .int 3, .long s0, .long s1, .long s2]) (rest := [.int 1]) rfl (W := 1) rfl (q := 273) rfl (by decide) (by decide) (by decide) (by decide) (mt_fExp l Z a0 hw _ n0 z882 c1 c0 (0 : Int32) (3 : Int32) s0 s1 s2 ) (oPureK ?_)
       refine oIcmp_ne C at_273 (q := 322) (by decide) (by decide) (r := 276) rfl (fun hq => absurd hq (not_not_intro (oe3013 c1 c0 s0 s1 s2 rc1 r01 r12 q0c0 q1c0 q1c1 q2c1).symm)) (fun hc273 => ?_)
       refine oIload C at_276 rfl rfl ?_
       refine oLload C at_278 rfl rfl ?_
       refine oLload C at_280 rfl rfl ?_
       refine oIconst C at_282 (z := 0) rfl rfl ?_
       refine oIload C at_283 rfl rfl ?_
       refine oLload C at_285 rfl rfl ?_
       refine oLload C at_287 rfl rfl ?_
       refine oLload C at_289 rfl rfl ?_
       refine oCallS C (w24 hw) (w25 hw) (w26 hw) (w27 hw) at_291 (by decide) pd_717522 rfl rfl (argsL := [.long c2, .long c1, .int 0, .int 3, .long s0, .long s1, .long s2]) (rest := [.int 0]) rfl (W := 1) rfl (q := 294) rfl (by decide) (by decide) (by decide) (by decide) (mt_fExp l Z a0 hw _ n0 z882 c2 c1 (0 : Int32) (3 : Int32) s0 s1 s2 ) (oPureK ?_)
       refine oIcmp_ne C at_294 (q := 322) (by decide) (by decide) (r := 297) rfl (fun hq => absurd hq (not_not_intro (oe3033 c2 c1 s0 s1 s2 rc2 r01 r12 (own_mono q0c0 rc1) q1c1 q2c1).symm)) (fun hc294 => ?_)
       refine oIload C at_297 rfl rfl ?_
       refine oLload C at_299 rfl rfl ?_
       refine oLload C at_301 rfl rfl ?_
       refine oIconst C at_303 (z := 0) rfl rfl ?_
       refine oIload C at_304 rfl rfl ?_
       refine oLload C at_306 rfl rfl ?_
       refine oLload C at_308 rfl rfl ?_
       refine oLload C at_310 rfl rfl ?_
       refine oCallS C (w24 hw) (w25 hw) (w26 hw) (w27 hw) at_312 (by decide) pd_717522 rfl rfl (argsL := [.long c3, .long c2, .int 0, .int 3, .long s0, .long s1, .long s2]) (rest := [.int 0]) rfl (W := 1) rfl (q := 315) rfl (by decide) (by decide) (by decide) (by decide) (mt_fExp l Z a0 hw _ n0 z882 c3 c2 (0 : Int32) (3 : Int32) s0 s1 s2 ) (oPureK ?_)
       refine oIcmp_ne C at_315 (q := 322) (by decide) (by decide) (r := 318) rfl (fun hq => absurd hq (not_not_intro (oe3033 c3 c2 s0 s1 s2 rc3 r01 r12 (own_mono (own_mono q0c0 rc1) rc2) (own_mono q1c1 rc2) (own_mono q2c1 rc2)).symm)) (fun hc315 => ?_)
       refine oIconst C at_318 (z := 1) rfl rfl ?_
       refine oGoto C at_319 (q := 323) (by decide) (by decide) ?_
       refine oRetZ C at_323 (z' := (1 : Int32)) rfl (by decide) (by decide) ?_
       exact rfl
    ·
     by_cases q2c0 : s2 < c0
     ·
      have f887 := (K431.fld f429_next nin0 (oNF (Or.inr (oSn0 hw 1 0)) oN0))
      have ne888 : a425 ≠ a429 := oNe' A428l.lt (Nat.le_of_eq g_a429.symm)
      have f889 := (K431.arr (A428l.ext E429) nin0 (oAS ne888 oA0))
      have f890 := (K431.exa X429)
      have z892 := (Nat.le_trans z432 K431.1)
      refine oCallV C (w17 hw) (w18 hw) (w20 hw) (w19 hw) (w8 hw) (w21 hw) at_202 f890 (by decide) pd_692006 rfl rfl (a := a429) (argsL := [.long c0]) (rest := []) rfl (W := 0) rfl (q := 205) rfl (by decide) (by decide) (by decide) (by decide) (ac4_13 l Z a0 hw _ n0 z892 a429 c0 a425 s0 s1 s2 f887 f431_0 f889 q0c0 f890 ge_a429 ne888 q1c0 q2c0) (oRQ ?_)
      rintro h891 ⟨K891, f891_0⟩
      refine oIstore C at_205 (Ls' := #[.val (.long x0), .second, .val (.int n9), .val (.int sg), .val (.int cg), .val (.long tt), .second, .val (.int 3), .val (.long s0), .second, .val (.long s1), .second, .val (.long s2), .second, .val (.long c0), .second, .val (.long c1), .second, .val (.long c2), .second, .val (.long c3), .second, .val (.ref a425), .val (.ref a429), .val (.int 1), .unset, .unset, .unset]) rfl (q := 207) rfl ?_
      refine oAload C at_207 rfl rfl rfl ?_
      refine oLload C at_209 rfl rfl ?_
      by_cases q2c1 : s2 < c1
      ·
       have f893 := (K891.fld f431_0 nin0 (oNF (Or.inr (oSn0 hw 0 1)) oN0))
       have f894 := (K891.arr f889 nin0 (oAS ne888 oA0))
       have f896 := (K891.exa f890)
       have z897 := (Nat.le_trans z892 K891.1)
       refine oCallV C (w17 hw) (w18 hw) (w20 hw) (w19 hw) (w8 hw) (w21 hw) at_211 f896 (by decide) pd_692006 rfl rfl (a := a429) (argsL := [.long c1]) (rest := []) rfl (W := 0) rfl (q := 214) rfl (by decide) (by decide) (by decide) (by decide) (ac4_18 l Z a0 hw _ n0 z897 a429 c1 a425 s0 s1 s2 f891_0 f893 f894 q2c1) (oRQ ?_)
       rintro h895 K895
       refine oIstore C at_214 (Ls' := #[.val (.long x0), .second, .val (.int n9), .val (.int sg), .val (.int cg), .val (.long tt), .second, .val (.int 3), .val (.long s0), .second, .val (.long s1), .second, .val (.long s2), .second, .val (.long c0), .second, .val (.long c1), .second, .val (.long c2), .second, .val (.long c3), .second, .val (.ref a425), .val (.ref a429), .val (.int 1), .val (.int 0), .unset, .unset]) rfl (q := 216) rfl ?_
       refine oAload C at_216 rfl rfl rfl ?_
       refine oLload C at_218 rfl rfl ?_
       by_cases q2c2 : s2 < c2
       ·
        have f898 := (K895.fld f891_0 nin0 oN0)
        have f899 := (K895.fld f893 nin0 oN0)
        have f900 := (K895.arr f894 nin0 oA0)
        have f902 := (K895.exa f896)
        have z903 := (Nat.le_trans z897 K895.1)
        refine oCallV C (w17 hw) (w18 hw) (w20 hw) (w19 hw) (w8 hw) (w21 hw) at_220 f902 (by decide) pd_692006 rfl rfl (a := a429) (argsL := [.long c2]) (rest := []) rfl (W := 0) rfl (q := 223) rfl (by decide) (by decide) (by decide) (by decide) (ac4_18 l Z a0 hw _ n0 z903 a429 c2 a425 s0 s1 s2 f898 f899 f900 q2c2) (oRQ ?_)
        rintro h901 K901
        refine oIstore C at_223 (Ls' := #[.val (.long x0), .second, .val (.int n9), .val (.int sg), .val (.int cg), .val (.long tt), .second, .val (.int 3), .val (.long s0), .second, .val (.long s1), .second, .val (.long s2), .second, .val (.long c0), .second, .val (.long c1), .second, .val (.long c2), .second, .val (.long c3), .second, .val (.ref a425), .val (.ref a429), .val (.int 1), .val (.int 0), .val (.int 0), .unset]) rfl (q := 225) rfl ?_
        refine oAload C at_225 rfl rfl rfl ?_
        refine oLload C at_227 rfl rfl ?_
        by_cases q2c3 : s2 < c3
        ·
         have f904 := (K901.fld f898 nin0 oN0)
         have f905 := (K901.fld f899 nin0 oN0)
         have f906 := (K901.arr f900 nin0 oA0)
         have f908 := (K901.exa f902)
         have z909 := (Nat.le_trans z903 K901.1)
         refine oCallV C (w17 hw) (w18 hw) (w20 hw) (w19 hw) (w8 hw) (w21 hw) at_229 f908 (by decide) pd_692006 rfl rfl (a := a429) (argsL := [.long c3]) (rest := []) rfl (W := 0) rfl (q := 232) rfl (by decide) (by decide) (by decide) (by decide) (ac4_18 l Z a0 hw _ n0 z909 a429 c3 a425 s0 s1 s2 f904 f905 f906 q2c3) (oRQ ?_)
         rintro h907 K907
         refine oIstore C at_232 (Ls' := #[.val (.long x0), .second, .val (.int n9), .val (.int sg), .val (.int cg), .val (.long tt), .second, .val (.int 3), .val (.long s0), .second, .val (.long s1), .second, .val (.long s2), .second, .val (.long c0), .second, .val (.long c1), .second, .val (.long c2), .second, .val (.long c3), .second, .val (.ref a425), .val (.ref a429), .val (.int 1), .val (.int 0), .val (.int 0), .val (.int 0)]) rfl (q := 234) rfl ?_
         refine oIload C at_234 rfl rfl ?_
         refine oLload C at_236 rfl rfl ?_
         refine oLload C at_238 rfl rfl ?_
         refine oIconst C at_240 (z := 1) rfl rfl ?_
         refine oIload C at_241 rfl rfl ?_
         refine oLload C at_243 rfl rfl ?_
         refine oLload C at_245 rfl rfl ?_
         refine oLload C at_247 rfl rfl ?_
         have z910 := (Nat.le_trans z909 K907.1)
         refine oCallS C (w24 hw) (w25 hw) (w26 hw) (w27 hw) at_249 (by decide) pd_717522 rfl rfl (argsL := [.long c0, .long c0, .int 1, .int 3, .long s0, .long s1, .long s2]) (rest := [.int 1]) rfl (W := 1) rfl (q := 252) rfl (by decide) (by decide) (by decide) (by decide) (mt_fExp l Z a0 hw _ n0 z910 c0 c0 (1 : Int32) (3 : Int32) s0 s1 s2 ) (oPureK ?_)
         refine oIcmp_ne C at_252 (q := 322) (by decide) (by decide) (r := 255) rfl (fun hq => absurd hq (not_not_intro (oe3102 c0 c0 s0 s1 s2 rfl r01 r12 q0c0 q1c0 q2c0).symm)) (fun hc252 => ?_)
         refine oIload C at_255 rfl rfl ?_
         refine oLload C at_257 rfl rfl ?_
         refine oLload C at_259 rfl rfl ?_
         refine oIconst C at_261 (z := 0) rfl rfl ?_
         refine oIload C at_262 rfl rfl ?_
         refine oLload C at_264 rfl rfl ?_
         refine oLload C at_266 rfl rfl ?_
         refine oLload C at_268 rfl rfl ?_
         refine oCallS C (w24 hw) (w25 hw) (w26 hw) (w27 hw) at_270 (by decide) pd_717522 rfl rfl (argsL := [.long c1, .long c0, .int 0, .int 3, .long s0, .long s1, .long s2]) (rest := [.int 0]) rfl (W := 1) rfl (q := 273) rfl (by decide) (by decide) (by decide) (by decide) (mt_fExp l Z a0 hw _ n0 z910 c1 c0 (0 : Int32) (3 : Int32) s0 s1 s2 ) (oPureK ?_)
         refine oIcmp_ne C at_273 (q := 322) (by decide) (by decide) (r := 276) rfl (fun hq => absurd hq (not_not_intro (oe3022 c1 c0 s0 s1 s2 rc1 r01 r12 q0c0 q1c0 q2c0 q2c1).symm)) (fun hc273 => ?_)
         refine oIload C at_276 rfl rfl ?_
         refine oLload C at_278 rfl rfl ?_
         refine oLload C at_280 rfl rfl ?_
         refine oIconst C at_282 (z := 0) rfl rfl ?_
         refine oIload C at_283 rfl rfl ?_
         refine oLload C at_285 rfl rfl ?_
         refine oLload C at_287 rfl rfl ?_
         refine oLload C at_289 rfl rfl ?_
         refine oCallS C (w24 hw) (w25 hw) (w26 hw) (w27 hw) at_291 (by decide) pd_717522 rfl rfl (argsL := [.long c2, .long c1, .int 0, .int 3, .long s0, .long s1, .long s2]) (rest := [.int 0]) rfl (W := 1) rfl (q := 294) rfl (by decide) (by decide) (by decide) (by decide) (mt_fExp l Z a0 hw _ n0 z910 c2 c1 (0 : Int32) (3 : Int32) s0 s1 s2 ) (oPureK ?_)
         refine oIcmp_ne C at_294 (q := 322) (by decide) (by decide) (r := 297) rfl (fun hq => absurd hq (not_not_intro (oe3022 c2 c1 s0 s1 s2 rc2 r01 r12 (own_mono q0c0 rc1) (own_mono q1c0 rc1) q2c1 q2c2).symm)) (fun hc294 => ?_)
         refine oIload C at_297 rfl rfl ?_
         refine oLload C at_299 rfl rfl ?_
         refine oLload C at_301 rfl rfl ?_
         refine oIconst C at_303 (z := 0) rfl rfl ?_
         refine oIload C at_304 rfl rfl ?_
         refine oLload C at_306 rfl rfl ?_
         refine oLload C at_308 rfl rfl ?_
         refine oLload C at_310 rfl rfl ?_
         refine oCallS C (w24 hw) (w25 hw) (w26 hw) (w27 hw) at_312 (by decide) pd_717522 rfl rfl (argsL := [.long c3, .long c2, .int 0, .int 3, .long s0, .long s1, .long s2]) (rest := [.int 0]) rfl (W := 1) rfl (q := 315) rfl (by decide) (by decide) (by decide) (by decide) (mt_fExp l Z a0 hw _ n0 z910 c3 c2 (0 : Int32) (3 : Int32) s0 s1 s2 ) (oPureK ?_)
         refine oIcmp_ne C at_315 (q := 322) (by decide) (by decide) (r := 318) rfl (fun hq => absurd hq (not_not_intro (oe3022 c3 c2 s0 s1 s2 rc3 r01 r12 (own_mono (own_mono q0c0 rc1) rc2) (own_mono (own_mono q1c0 rc1) rc2) q2c2 q2c3).symm)) (fun hc315 => ?_)
         refine oIconst C at_318 (z := 1) rfl rfl ?_
         refine oGoto C at_319 (q := 323) (by decide) (by decide) ?_
         refine oRetZ C at_323 (z' := (1 : Int32)) rfl (by decide) (by decide) ?_
         exact rfl
        ·
         have f915 := (K901.fld f898 nin0 oN0)
         have f916 := (K901.fld f899 nin0 oN0)
         have f917 := (K901.arr f900 nin0 oA0)
         have f918 := (K901.exa f902)
         have z920 := (Nat.le_trans z903 K901.1)
         refine oCallV C (w17 hw) (w18 hw) (w20 hw) (w19 hw) (w8 hw) (w21 hw) at_229 f918 (by decide) pd_692006 rfl rfl (a := a429) (argsL := [.long c3]) (rest := []) rfl (W := 0) rfl (q := 232) rfl (by decide) (by decide) (by decide) (by decide) (ac4_19 l Z a0 hw _ n0 z920 a429 c3 a425 s0 s1 s2 f915 f916 f917 q2c3 f918 ge_a429 ne888) (oRQ ?_)
         rintro h919 ⟨K919, f919_0⟩
         refine oIstore C at_232 (Ls' := #[.val (.long x0), .second, .val (.int n9), .val (.int sg), .val (.int cg), .val (.long tt), .second, .val (.int 3), .val (.long s0), .second, .val (.long s1), .second, .val (.long s2), .second, .val (.long c0), .second, .val (.long c1), .second, .val (.long c2), .second, .val (.long c3), .second, .val (.ref a425), .val (.ref a429), .val (.int 1), .val (.int 0), .val (.int 0), .val (.int 1)]) rfl (q := 234) rfl ?_
         refine oIload C at_234 rfl rfl ?_
         refine oLload C at_236 rfl rfl ?_
         refine oLload C at_238 rfl rfl ?_
         refine oIconst C at_240 (z := 1) rfl rfl ?_
         refine oIload C at_241 rfl rfl ?_
         refine oLload C at_243 rfl rfl ?_
         refine oLload C at_245 rfl rfl ?_
         refine oLload C at_247 rfl rfl ?_
         have z921 := (Nat.le_trans z920 K919.1)
         refine oCallS C (w24 hw) (w25 hw) (w26 hw) (w27 hw) at_249 (by decide) pd_717522 rfl rfl (argsL := [.long c0, .long c0, .int 1, .int 3, .long s0, .long s1, .long s2]) (rest := [.int 1]) rfl (W := 1) rfl (q := 252) rfl (by decide) (by decide) (by decide) (by decide) (mt_fExp l Z a0 hw _ n0 z921 c0 c0 (1 : Int32) (3 : Int32) s0 s1 s2 ) (oPureK ?_)
         refine oIcmp_ne C at_252 (q := 322) (by decide) (by decide) (r := 255) rfl (fun hq => absurd hq (not_not_intro (oe3102 c0 c0 s0 s1 s2 rfl r01 r12 q0c0 q1c0 q2c0).symm)) (fun hc252 => ?_)
         refine oIload C at_255 rfl rfl ?_
         refine oLload C at_257 rfl rfl ?_
         refine oLload C at_259 rfl rfl ?_
         refine oIconst C at_261 (z := 0) rfl rfl ?_
         refine oIload C at_262 rfl rfl ?_
         refine oLload C at_264 rfl rfl ?_
         refine oLload C at_266 rfl rfl ?_
         refine oLload C at_268 rfl rfl ?_
         refine oCallS C (w24 hw) (w25 hw) (w26 hw) (w27 hw) at_270 (by decide) pd_717522 rfl rfl (argsL := [.long c1, .long c0, .int 0, .int 3, .long s0, .long s1, .long s2]) (rest := [.int 0]) rfl (W := 1) rfl (q := 273) rfl (by decide) (by decide) (by decide) (by decide) (mt_fExp l Z a0 hw _ n0 z921 c1 c0 (0 : Int32) (3 : Int32) s0 s1 s2 ) (oPureK ?_)
         refine oIcmp_ne C at_273 (q := 322) (by decide) (by decide) (r := 276) rfl (fun hq => absurd hq (not_not_intro (oe3022 c1 c0 s0 s1 s2 rc1 r01 r12 q0c0 q1c0 q2c0 q2c1).symm)) (fun hc273 => ?_)
         refine oIload C at_276 rfl rfl ?_
         refine oLload C at_278 rfl rfl ?_
         refine oLload C at_280 rfl rfl ?_
         refine oIconst C at_282 (z := 0) rfl rfl ?_
         refine oIload C at_283 rfl rfl ?_
         refine oLload C at_285 rfl rfl ?_
         refine oLload C at_287 rfl rfl ?_
         refine oLload C at_289 rfl rfl ?_
         refine oCallS C (w24 hw) (w25 hw) (w26 hw) (w27 hw) at_291 (by decide) pd_717522 rfl rfl (argsL := [.long c2, .long c1, .int 0, .int 3, .long s0, .long s1, .long s2]) (rest := [.int 0]) rfl (W := 1) rfl (q := 294) rfl (by decide) (by decide) (by decide) (by decide) (mt_fExp l Z a0 hw _ n0 z921 c2 c1 (0 : Int32) (3 : Int32) s0 s1 s2 ) (oPureK ?_)
         refine oIcmp_ne C at_294 (q := 322) (by decide) (by decide) (r := 297) rfl (fun hq => absurd hq (not_not_intro (oe3022 c2 c1 s0 s1 s2 rc2 r01 r12 (own_mono q0c0 rc1) (own_mono q1c0 rc1) q2c1 q2c2).symm)) (fun hc294 => ?_)
         refine oIload C at_297 rfl rfl ?_
         refine oLload C at_299 rfl rfl ?_
         refine oLload C at_301 rfl rfl ?_
         refine oIconst C at_303 (z := 0) rfl rfl ?_
         refine oIload C at_304 rfl rfl ?_
         refine oLload C at_306 rfl rfl ?_
         refine oLload C at_308 rfl rfl ?_
         refine oLload C at_310 rfl rfl ?_
         refine oCallS C (w24 hw) (w25 hw) (w26 hw) (w27 hw) at_312 (by decide) pd_717522 rfl rfl (argsL := [.long c3, .long c2, .int 0, .int 3, .long s0, .long s1, .long s2]) (rest := [.int 1]) rfl (W := 1) rfl (q := 315) rfl (by decide) (by decide) (by decide) (by decide) (mt_fExp l Z a0 hw _ n0 z921 c3 c2 (0 : Int32) (3 : Int32) s0 s1 s2 ) (oPureK ?_)
         refine oIcmp_ne C at_315 (q := 322) (by decide) (by decide) (r := 318) rfl (fun hq => absurd hq (not_not_intro (oe3023 c3 c2 s0 s1 s2 rc3 r01 r12 (own_mono (own_mono q0c0 rc1) rc2) (own_mono (own_mono q1c0 rc1) rc2) q2c2 q2c3).symm)) (fun hc315 => ?_)
         refine oIconst C at_318 (z := 1) rfl rfl ?_
         refine oGoto C at_319 (q := 323) (by decide) (by decide) ?_
         refine oRetZ C at_323 (z' := (1 : Int32)) rfl (by decide) (by decide) ?_
         exact rfl
       ·
        have f926 := (K895.fld f891_0 nin0 oN0)
        have f927 := (K895.fld f893 nin0 oN0)
        have f928 := (K895.arr f894 nin0 oA0)
        have f929 := (K895.exa f896)
        have z931 := (Nat.le_trans z897 K895.1)
        refine oCallV C (w17 hw) (w18 hw) (w20 hw) (w19 hw) (w8 hw) (w21 hw) at_220 f929 (by decide) pd_692006 rfl rfl (a := a429) (argsL := [.long c2]) (rest := []) rfl (W := 0) rfl (q := 223) rfl (by decide) (by decide) (by decide) (by decide) (ac4_19 l Z a0 hw _ n0 z931 a429 c2 a425 s0 s1 s2 f926 f927 f928 q2c2 f929 ge_a429 ne888) (oRQ ?_)
        rintro h930 ⟨K930, f930_0⟩
        refine oIstore C at_223 (Ls' := #[.val (.long x0), .second, .val (.int n9), .val (.int sg), .val (.int cg), .val (.long tt), .second, .val (.int 3), .val (.long s0), .second, .val (.long s1), .second, .val (.long s2), .second, .val (.long c0), .second, .val (.long c1), .second, .val (.long c2), .second, .val (.long c3), .second, .val (.ref a425), .val (.ref a429), .val (.int 1), .val (.int 0), .val (.int 1), .unset]) rfl (q := 225) rfl ?_
        refine oAload C at_225 rfl rfl rfl ?_
        refine oLload C at_227 rfl rfl ?_
        have f932 := (K930.fld f927 nin0 (oNF (Or.inr (oSn0 hw 0 1)) oN0))
        have f933 := (K930.arr f928 nin0 (oAS ne888 oA0))
        have f935 := (K930.exa f929)
        have z936 := (Nat.le_trans z931 K930.1)
        refine oCallV C (w17 hw) (w18 hw) (w20 hw) (w19 hw) (w8 hw) (w21 hw) at_229 f935 (by decide) pd_692006 rfl rfl (a := a429) (argsL := [.long c3]) (rest := []) rfl (W := 0) rfl (q := 232) rfl (by decide) (by decide) (by decide) (by decide) (ac4_20 l Z a0 hw _ n0 z936 a429 c3 a425 s0 s1 s2 f930_0 f932 f933) (oRQ ?_)
        rintro h934 K934
        refine oIstore C at_232 (Ls' := #[.val (.long x0), .second, .val (.int n9), .val (.int sg), .val (.int cg), .val (.long tt), .second, .val (.int 3), .val (.long s0), .second, .val (.long s1), .second, .val (.long s2), .second, .val (.long c0), .second, .val (.long c1), .second, .val (.long c2), .second, .val (.long c3), .second, .val (.ref a425), .val (.ref a429), .val (.int 1), .val (.int 0), .val (.int 1), .val (.int 0)]) rfl (q := 234) rfl ?_
        refine oIload C at_234 rfl rfl ?_
        refine oLload C at_236 rfl rfl ?_
        refine oLload C at_238 rfl rfl ?_
        refine oIconst C at_240 (z := 1) rfl rfl ?_
        refine oIload C at_241 rfl rfl ?_
        refine oLload C at_243 rfl rfl ?_
        refine oLload C at_245 rfl rfl ?_
        refine oLload C at_247 rfl rfl ?_
        have z937 := (Nat.le_trans z936 K934.1)
        refine oCallS C (w24 hw) (w25 hw) (w26 hw) (w27 hw) at_249 (by decide) pd_717522 rfl rfl (argsL := [.long c0, .long c0, .int 1, .int 3, .long s0, .long s1, .long s2]) (rest := [.int 1]) rfl (W := 1) rfl (q := 252) rfl (by decide) (by decide) (by decide) (by decide) (mt_fExp l Z a0 hw _ n0 z937 c0 c0 (1 : Int32) (3 : Int32) s0 s1 s2 ) (oPureK ?_)
        refine oIcmp_ne C at_252 (q := 322) (by decide) (by decide) (r := 255) rfl (fun hq => absurd hq (not_not_intro (oe3102 c0 c0 s0 s1 s2 rfl r01 r12 q0c0 q1c0 q2c0).symm)) (fun hc252 => ?_)
        refine oIload C at_255 rfl rfl ?_
        refine oLload C at_257 rfl rfl ?_
        refine oLload C at_259 rfl rfl ?_
        refine oIconst C at_261 (z := 0) rfl rfl ?_
        refine oIload C at_262 rfl rfl ?_
        refine oLload C at_264 rfl rfl ?_
        refine oLload C at_266 rfl rfl ?_
        refine oLload C at_268 rfl rfl ?_
        refine oCallS C (w24 hw) (w25 hw) (w26 hw) (w27 hw) at_270 (by decide) pd_717522 rfl rfl (argsL := [.long c1, .long c0, .int 0, .int 3, .long s0, .long s1, .long s2]) (rest := [.int 0]) rfl (W := 1) rfl (q := 273) rfl (by decide) (by decide) (by decide) (by decide) (mt_fExp l Z a0 hw _ n0 z937 c1 c0 (0 : Int32) (3 : Int32) s0 s1 s2 ) (oPureK ?_)
        refine oIcmp_ne C at_273 (q := 322) (by decide) (by decide) (r := 276) rfl (fun hq => absurd hq (not_not_intro (oe3022 c1 c0 s0 s1 s2 rc1 r01 r12 q0c0 q1c0 q2c0 q2c1).symm)) (fun hc273 => ?_)
        refine oIload C at_276 rfl rfl ?_
        refine oLload C at_278 rfl rfl ?_
        refine oLload C at_280 rfl rfl ?_
        refine oIconst C at_282 (z := 0) rfl rfl ?_
        refine oIload C at_283 rfl rfl ?_
        refine oLload C at_285 rfl rfl ?_
        refine oLload C at_287 rfl rfl ?_
        refine oLload C at_289 rfl rfl ?_
        refine oCallS C (w24 hw) (w25 hw) (w26 hw) (w27 hw) at_291 (by decide) pd_717522 rfl rfl (argsL := [.long c2, .long c1, .int 0, .int 3, .long s0, .long s1, .long s2]) (rest := [.int 1]) rfl (W := 1) rfl (q := 294) rfl (by decide) (by decide) (by decide) (by decide) (mt_fExp l Z a0 hw _ n0 z937 c2 c1 (0 : Int32) (3 : Int32) s0 s1 s2 ) (oPureK ?_)
        refine oIcmp_ne C at_294 (q := 322) (by decide) (by decide) (r := 297) rfl (fun hq => absurd hq (not_not_intro (oe3023 c2 c1 s0 s1 s2 rc2 r01 r12 (own_mono q0c0 rc1) (own_mono q1c0 rc1) q2c1 q2c2).symm)) (fun hc294 => ?_)
        refine oIload C at_297 rfl rfl ?_
        refine oLload C at_299 rfl rfl ?_
        refine oLload C at_301 rfl rfl ?_
        refine oIconst C at_303 (z := 0) rfl rfl ?_
        refine oIload C at_304 rfl rfl ?_
        refine oLload C at_306 rfl rfl ?_
        refine oLload C at_308 rfl rfl ?_
        refine oLload C at_310 rfl rfl ?_
        refine oCallS C (w24 hw) (w25 hw) (w26 hw) (w27 hw) at_312 (by decide) pd_717522 rfl rfl (argsL := [.long c3, .long c2, .int 0, .int 3, .long s0, .long s1, .long s2]) (rest := [.int 0]) rfl (W := 1) rfl (q := 315) rfl (by decide) (by decide) (by decide) (by decide) (mt_fExp l Z a0 hw _ n0 z937 c3 c2 (0 : Int32) (3 : Int32) s0 s1 s2 ) (oPureK ?_)
        refine oIcmp_ne C at_315 (q := 322) (by decide) (by decide) (r := 318) rfl (fun hq => absurd hq (not_not_intro (oe3033 c3 c2 s0 s1 s2 rc3 r01 r12 (own_mono (own_mono q0c0 rc1) rc2) (own_mono (own_mono q1c0 rc1) rc2) q2c2).symm)) (fun hc315 => ?_)
        refine oIconst C at_318 (z := 1) rfl rfl ?_
        refine oGoto C at_319 (q := 323) (by decide) (by decide) ?_
        refine oRetZ C at_323 (z' := (1 : Int32)) rfl (by decide) (by decide) ?_
        exact rfl
      ·
       have f942 := (K891.fld f431_0 nin0 (oNF (Or.inr (oSn0 hw 0 1)) oN0))
       have f943 := (K891.arr f889 nin0 (oAS ne888 oA0))
       have f944 := (K891.exa f890)
       have z946 := (Nat.le_trans z892 K891.1)
       refine oCallV C (w17 hw) (w18 hw) (w20 hw) (w19 hw) (w8 hw) (w21 hw) at_211 f944 (by decide) pd_692006 rfl rfl (a := a429) (argsL := [.long c1]) (rest := []) rfl (W := 0) rfl (q := 214) rfl (by decide) (by decide) (by decide) (by decide) (ac4_19 l Z a0 hw _ n0 z946 a429 c1 a425 s0 s1 s2 f891_0 f942 f943 q2c1 f944 ge_a429 ne888) (oRQ ?_)
       rintro h945 ⟨K945, f945_0⟩
       refine oIstore C at_214 (Ls' := #[.val (.long x0), .second, .val (.int n9), .val (.int sg), .val (.int cg), .val (.long tt), .second, .val (.int 3), .val (.long s0), .second, .val (.long s1), .second, .val (.long s2), .second, .val (.long c0), .second, .val (.long c1), .second, .val (.long c2), .second, .val (.long c3), .second, .val (.ref a425), .val (.ref a429), .val (.int 1), .val (.int 1), .unset, .unset]) rfl (q := 216) rfl ?_
       refine oAload C at_216 rfl rfl rfl ?_
       refine oLload C at_218 rfl rfl ?_
       have f947 := (K945.fld f942 nin0 (oNF (Or.inr (oSn0 hw 0 1)) oN0))
       have f948 := (K945.arr f943 nin0 (oAS ne888 oA0))
       have f950 := (K945.exa f944)
       have z951 := (Nat.le_trans z946 K945.1)
       refine oCallV C (w17 hw) (w18 hw) (w20 hw) (w19 hw) (w8 hw) (w21 hw) at_220 f950 (by decide) pd_692006 rfl rfl (a := a429) (argsL := [.long c2]) (rest := []) rfl (W := 0) rfl (q := 223) rfl (by decide) (by decide) (by decide) (by decide) (ac4_20 l Z a0 hw _ n0 z951 a429 c2 a425 s0 s1 s2 f945_0 f947 f948) (oRQ ?_)
       rintro h949 K949
       refine oIstore C at_223 (Ls' := #[.val (.long x0), .second, .val (.int n9), .val (.int sg), .val (.int cg), .val (.long tt), .second, .val (.int 3), .val (.long s0), .second, .val (.long s1), .second, .val (.long s2), .second, .val (.long c0), .second, .val (.long c1), .second, .val (.long c2), .second, .val (.long c3), .second, .val (.ref a425), .val (.ref a429), .val (.int 1), .val (.int 1), .val (.int 0), .unset]) rfl (q := 225) rfl ?_
       refine oAload C at_225 rfl rfl rfl ?_
       refine oLload C at_227 rfl rfl ?_
       have f952 := (K949.fld f945_0 nin0 oN0)
       have f953 := (K949.fld f947 nin0 oN0)
       have f954 := (K949.arr f948 nin0 oA0)
       have f956 := (K949.exa f950)
       have z957 := (Nat.le_trans z951 K949.1)
       refine oCallV C (w17 hw) (w18 hw) (w20 hw) (w19 hw) (w8 hw) (w21 hw) at_229 f956 (by decide) pd_692006 rfl rfl (a := a429) (argsL := [.long c3]) (rest := []) rfl (W := 0) rfl (q := 232) rfl (by decide) (by decide) (by decide) (by decide) (ac4_20 l Z a0 hw _ n0 z957 a429 c3 a425 s0 s1 s2 f952 f953 f954) (oRQ ?_)
       rintro h955 K955
       refine oIstore C at_232 (Ls' := #[.val (.long x0), .second, .val (.int n9), .val (.int sg), .val (.int cg), .val (.long tt), .second, .val (.int 3), .val (.long s0), .second, .val (.long s1), .second, .val (.long s2), .second, .val (.long c0), .second, .val (.long c1), .second, .val (.long c2), .second, .val (.long c3), .second, .val (.ref a425), .val (.ref a429), .val (.int 1), .val (.int 1), .val (.int 0), .val (.int 0)]) rfl (q := 234) rfl ?_
       refine oIload C at_234 rfl rfl ?_
       refine oLload C at_236 rfl rfl ?_
       refine oLload C at_238 rfl rfl ?_
       refine oIconst C at_240 (z := 1) rfl rfl ?_
       refine oIload C at_241 rfl rfl ?_
       refine oLload C at_243 rfl rfl ?_
       refine oLload C at_245 rfl rfl ?_
       refine oLload C at_247 rfl rfl ?_
       have z958 := (Nat.le_trans z957 K955.1)
       refine oCallS C (w24 hw) (w25 hw) (w26 hw) (w27 hw) at_249 (by decide) pd_717522 rfl rfl (argsL := [.long c0, .long c0, .int 1, .int 3, .long s0, .long s1, .long s2]) (rest := [.int 1]) rfl (W := 1) rfl (q := 252) rfl (by decide) (by decide) (by decide) (by decide) (mt_fExp l Z a0 hw _ n0 z958 c0 c0 (1 : Int32) (3 : Int32) s0 s1 s2 ) (oPureK ?_)
       refine oIcmp_ne C at_252 (q := 322) (by decide) (by decide) (r := 255) rfl (fun hq => absurd hq (not_not_intro (oe3102 c0 c0 s0 s1 s2 rfl r01 r12 q0c0 q1c0 q2c0).symm)) (fun hc252 => ?_)
       refine oIload C at_255 rfl rfl ?_
       refine oLload C at_257 rfl rfl ?_
       refine oLload C at_259 rfl rfl ?_
       refine oIconst C at_261 (z := 0) rfl rfl ?_
       refine oIload C at_262 rfl rfl ?_
       refine oLload C at_264 rfl rfl ?_
       refine oLload C at_266 rfl rfl ?_
       refine oLload C at_268 rfl rfl ?_
       refine oCallS C (w24 hw) (w25 hw) (w26 hw) (w27 hw) at_270 (by decide) pd_717522 rfl rfl (argsL := [.long c1, .long c0, .int 0, .int 3, .long s0, .long s1, .long s2]) (rest := [.int 1]) rfl (W := 1) rfl (q := 273) rfl (by decide) (by decide) (by decide) (by decide) (mt_fExp l Z a0 hw _ n0 z958 c1 c0 (0 : Int32) (3 : Int32) s0 s1 s2 ) (oPureK ?_)
       refine oIcmp_ne C at_273 (q := 322) (by decide) (by decide) (r := 276) rfl (fun hq => absurd hq (not_not_intro (oe3023 c1 c0 s0 s1 s2 rc1 r01 r12 q0c0 q1c0 q2c0 q2c1).symm)) (fun hc273 => ?_)
       refine oIload C at_276 rfl rfl ?_
       refine oLload C at_278 rfl rfl ?_
       refine oLload C at_280 rfl rfl ?_
       refine oIconst C at_282 (z := 0) rfl rfl ?_
       refine oIload C at_283 rfl rfl ?_
       refine oLload C at_285 rfl rfl ?_
       refine oLload C at_287 rfl rfl ?_
       refine oLload C at_289 rfl rfl ?_
       refine oCallS C (w24 hw) (w25 hw) (w26 hw) (w27 hw) at_291 (by decide) pd_717522 rfl rfl (argsL := [.long c2, .long c1, .int 0, .int 3, .long s0, .long s1, .long s2]) (rest := [.int 0]) rfl (W := 1) rfl (q := 294) rfl (by decide) (by decide) (by decide) (by decide) (mt_fExp l Z a0 hw _ n0 z958 c2 c1 (0 : Int32) (3 : Int32) s0 s1 s2 ) (oPureK ?_)
       refine oIcmp_ne C at_294 (q := 322) (by decide) (by decide) (r := 297) rfl (fun hq => absurd hq (not_not_intro (oe3033 c2 c1 s0 s1 s2 rc2 r01 r12 (own_mono q0c0 rc1) (own_mono q1c0 rc1) q2c1).symm)) (fun hc294 => ?_)
       refine oIload C at_297 rfl rfl ?_
       refine oLload C at_299 rfl rfl ?_
       refine oLload C at_301 rfl rfl ?_
       refine oIconst C at_303 (z := 0) rfl rfl ?_
       refine oIload C at_304 rfl rfl ?_
       refine oLload C at_306 rfl rfl ?_
       refine oLload C at_308 rfl rfl ?_
       refine oLload C at_310 rfl rfl ?_
       refine oCallS C (w24 hw) (w25 hw) (w26 hw) (w27 hw) at_312 (by decide) pd_717522 rfl rfl (argsL := [.long c3, .long c2, .int 0, .int 3, .long s0, .long s1, .long s2]) (rest := [.int 0]) rfl (W := 1) rfl (q := 315) rfl (by decide) (by decide) (by decide) (by decide) (mt_fExp l Z a0 hw _ n0 z958 c3 c2 (0 : Int32) (3 : Int32) s0 s1 s2 ) (oPureK ?_)
       refine oIcmp_ne C at_315 (q := 322) (by decide) (by decide) (r := 318) rfl (fun hq => absurd hq (not_not_intro (oe3033 c3 c2 s0 s1 s2 rc3 r01 r12 (own_mono (own_mono q0c0 rc1) rc2) (own_mono (own_mono q1c0 rc1) rc2) (own_mono q2c1 rc2)).symm)) (fun hc315 => ?_)
       refine oIconst C at_318 (z := 1) rfl rfl ?_
       refine oGoto C at_319 (q := 323) (by decide) (by decide) ?_
       refine oRetZ C at_323 (z' := (1 : Int32)) rfl (by decide) (by decide) ?_
       exact rfl
     ·
      have f963 := (K431.fld f429_next nin0 (oNF (Or.inr (oSn0 hw 1 0)) oN0))
      have ne964 : a425 ≠ a429 := oNe' A428l.lt (Nat.le_of_eq g_a429.symm)
      have f965 := (K431.arr (A428l.ext E429) nin0 (oAS ne964 oA0))
      have f966 := (K431.exa X429)
      have z968 := (Nat.le_trans z432 K431.1)
      refine oCallV C (w17 hw) (w18 hw) (w20 hw) (w19 hw) (w8 hw) (w21 hw) at_202 f966 (by decide) pd_692006 rfl rfl (a := a429) (argsL := [.long c0]) (rest := []) rfl (W := 0) rfl (q := 205) rfl (by decide) (by decide) (by decide) (by decide) (ac4_14 l Z a0 hw _ n0 z968 a429 c0 a425 s0 s1 s2 f963 f431_0 f965 q0c0 f966 ge_a429 ne964 q1c0 q2c0) (oRQ ?_)
      rintro h967 ⟨K967, f967_0⟩
      refine oIstore C at_205 (Ls' := #[.val (.long x0), .second, .val (.int n9), .val (.int sg), .val (.int cg), .val (.long tt), .second, .val (.int 3), .val (.long s0), .second, .val (.long s1), .second, .val (.long s2), .second, .val (.long c0), .second, .val (.long c1), .second, .val (.long c2), .second, .val (.long c3), .second, .val (.ref a425), .val (.ref a429), .val (.int 1), .unset, .unset, .unset]) rfl (q := 207) rfl ?_
      refine oAload C at_207 rfl rfl rfl ?_
      refine oLload C at_209 rfl rfl ?_
      have f969 := (K967.fld f431_0 nin0 (oNF (Or.inr (oSn0 hw 0 1)) oN0))
      have f970 := (K967.arr f965 nin0 (oAS ne964 oA0))
      have f972 := (K967.exa f966)
      have z973 := (Nat.le_trans z968 K967.1)
      refine oCallV C (w17 hw) (w18 hw) (w20 hw) (w19 hw) (w8 hw) (w21 hw) at_211 f972 (by decide) pd_692006 rfl rfl (a := a429) (argsL := [.long c1]) (rest := []) rfl (W := 0) rfl (q := 214) rfl (by decide) (by decide) (by decide) (by decide) (ac4_20 l Z a0 hw _ n0 z973 a429 c1 a425 s0 s1 s2 f967_0 f969 f970) (oRQ ?_)
      rintro h971 K971
      refine oIstore C at_214 (Ls' := #[.val (.long x0), .second, .val (.int n9), .val (.int sg), .val (.int cg), .val (.long tt), .second, .val (.int 3), .val (.long s0), .second, .val (.long s1), .second, .val (.long s2), .second, .val (.long c0), .second, .val (.long c1), .second, .val (.long c2), .second, .val (.long c3), .second, .val (.ref a425), .val (.ref a429), .val (.int 1), .val (.int 0), .unset, .unset]) rfl (q := 216) rfl ?_
      refine oAload C at_216 rfl rfl rfl ?_
      refine oLload C at_218 rfl rfl ?_
      have f974 := (K971.fld f967_0 nin0 oN0)
      have f975 := (K971.fld f969 nin0 oN0)
      have f976 := (K971.arr f970 nin0 oA0)
      have f978 := (K971.exa f972)
      have z979 := (Nat.le_trans z973 K971.1)
      refine oCallV C (w17 hw) (w18 hw) (w20 hw) (w19 hw) (w8 hw) (w21 hw) at_220 f978 (by decide) pd_692006 rfl rfl (a := a429) (argsL := [.long c2]) (rest := []) rfl (W := 0) rfl (q := 223) rfl (by decide) (by decide) (by decide) (by decide) (ac4_20 l Z a0 hw _ n0 z979 a429 c2 a425 s0 s1 s2 f974 f975 f976) (oRQ ?_)
      rintro h977 K977
      refine oIstore C at_223 (Ls' := #[.val (.long x0), .second, .val (.int n9), .val (.int sg), .val (.int cg), .val (.long tt), .second, .val (.int 3), .val (.long s0), .second, .val (.long s1), .second, .val (.long s2), .second, .val (.long c0), .second, .val (.long c1), .second, .val (.long c2), .second, .val (.long c3), .second, .val (.ref a425), .val (.ref a429), .val (.int 1), .val (.int 0), .val (.int 0), .unset]) rfl (q := 225) rfl ?_
      refine oAload C at_225 rfl rfl rfl ?_
      refine oLload C at_227 rfl rfl ?_
      have f980 := (K977.fld f974 nin0 oN0)
      have f981 := (K977.fld f975 nin0 oN0)
      have f982 := (K977.arr f976 nin0 oA0)
      have f984 := (K977.exa f978)
      have z985 := (Nat.le_trans z979 K977.1)
      refine oCallV C (w17 hw) (w18 hw) (w20 hw) (w19 hw) (w8 hw) (w21 hw) at_229 f984 (by decide) pd_692006 rfl rfl (a := a429) (argsL := [.long c3]) (rest := []) rfl (W := 0) rfl (q := 232) rfl (by decide) (by decide) (by decide) (by decide) (ac4_20 l Z a0 hw _ n0 z985 a429 c3 a425 s0 s1 s2 f980 f981 f982) (oRQ ?_)
      rintro h983 K983
      refine oIstore C at_232 (Ls' := #[.val (.long x0), .second, .val (.int n9), .val (.int sg), .val (.int cg), .val (.long tt), .second, .val (.int 3), .val (.long s0), .second, .val (.long s1), .second, .val (.long s2), .second, .val (.long c0), .second, .val (.long c1), .second, .val (.long c2), .second, .val (.long c3), .second, .val (.ref a425), .val (.ref a429), .val (.int 1), .val (.int 0), .val (.int 0), .val (.int 0)]) rfl (q := 234) rfl ?_
      refine oIload C at_234 rfl rfl ?_
      refine oLload C at_236 rfl rfl ?_
      refine oLload C at_238 rfl rfl ?_
      refine oIconst C at_240 (z := 1) rfl rfl ?_
      refine oIload C at_241 rfl rfl ?_
      refine oLload C at_243 rfl rfl ?_
      refine oLload C at_245 rfl rfl ?_
      refine oLload C at_247 rfl rfl ?_
      have z986 := (Nat.le_trans z985 K983.1)
      refine oCallS C (w24 hw) (w25 hw) (w26 hw) (w27 hw) at_249 (by decide) pd_717522 rfl rfl (argsL := [.long c0, .long c0, .int 1, .int 3, .long s0, .long s1, .long s2]) (rest := [.int 1]) rfl (W := 1) rfl (q := 252) rfl (by decide) (by decide) (by decide) (by decide) (mt_fExp l Z a0 hw _ n0 z986 c0 c0 (1 : Int32) (3 : Int32) s0 s1 s2 ) (oPureK ?_)
      refine oIcmp_ne C at_252 (q := 322) (by decide) (by decide) (r := 255) rfl (fun hq => absurd hq (not_not_intro (oe3103 c0 c0 s0 s1 s2 rfl r01 r12 q0c0 q1c0 q2c0).symm)) (fun hc252 => ?_)
      refine oIload C at_255 rfl rfl ?_
      refine oLload C at_257 rfl rfl ?_
      refine oLload C at_259 rfl rfl ?_
      refine oIconst C at_261 (z := 0) rfl rfl ?_
      refine oIload C at_262 rfl rfl ?_
      refine oLload C at_264 rfl rfl ?_
      refine oLload C at_266 rfl rfl ?_
      refine oLload C at_268 rfl rfl ?_
      refine oCallS C (w24 hw) (w25 hw) (w26 hw) (w27 hw) at_270 (by decide) pd_717522 rfl rfl (argsL := [.long c1, .long c0, .int 0, .int 3, .long s0, .long s1, .long s2]) (rest := [.int 0]) rfl (W := 1) rfl (q := 273) rfl (by decide) (by decide) (by decide) (by decide) (mt_fExp l Z a0 hw _ n0 z986 c1 c0 (0 : Int32) (3 : Int32) s0 s1 s2 ) (oPureK ?_)
      refine oIcmp_ne C at_273 (q := 322) (by decide) (by decide) (r := 276) rfl (fun hq => absurd hq (not_not_intro (oe3033 c1 c0 s0 s1 s2 rc1 r01 r12 q0c0 q1c0 q2c0).symm)) (fun hc273 => ?_)
      refine oIload C at_276 rfl rfl ?_
      refine oLload C at_278 rfl rfl ?_
      refine oLload C at_280 rfl rfl ?_
      refine oIconst C at_282 (z := 0) rfl rfl ?_
      refine oIload C at_283 rfl rfl ?_
      refine oLload C at_285 rfl rfl ?_
      refine oLload C at_287 rfl rfl ?_
      refine oLload C at_289 rfl rfl ?_
      refine oCallS C (w24 hw) (w25 hw) (w26 hw) (w27 hw) at_291 (by decide) pd_717522 rfl rfl (argsL := [.long c2, .long c1, .int 0, .int 3, .long s0, .long s1, .long s2]) (rest := [.int 0]) rfl (W := 1) rfl (q := 294) rfl (by decide) (by decide) (by decide) (by decide) (mt_fExp l Z a0 hw _ n0 z986 c2 c1 (0 : Int32) (3 : Int32) s0 s1 s2 ) (oPureK ?_)
      refine oIcmp_ne C at_294 (q := 322) (by decide) (by decide) (r := 297) rfl (fun hq => absurd hq (not_not_intro (oe3033 c2 c1 s0 s1 s2 rc2 r01 r12 (own_mono q0c0 rc1) (own_mono q1c0 rc1) (own_mono q2c0 rc1)).symm)) (fun hc294 => ?_)
      refine oIload C at_297 rfl rfl ?_
      refine oLload C at_299 rfl rfl ?_
      refine oLload C at_301 rfl rfl ?_
      refine oIconst C at_303 (z := 0) rfl rfl ?_
      refine oIload C at_304 rfl rfl ?_
      refine oLload C at_306 rfl rfl ?_
      refine oLload C at_308 rfl rfl ?_
      refine oLload C at_310 rfl rfl ?_
      refine oCallS C (w24 hw) (w25 hw) (w26 hw) (w27 hw) at_312 (by decide) pd_717522 rfl rfl (argsL := [.long c3, .long c2, .int 0, .int 3, .long s0, .long s1, .long s2]) (rest := [.int 0]) rfl (W := 1) rfl (q := 315) rfl (by decide) (by decide) (by decide) (by decide) (mt_fExp l Z a0 hw _ n0 z986 c3 c2 (0 : Int32) (3 : Int32) s0 s1 s2 ) (oPureK ?_)
      refine oIcmp_ne C at_315 (q := 322) (by decide) (by decide) (r := 318) rfl (fun hq => absurd hq (not_not_intro (oe3033 c3 c2 s0 s1 s2 rc3 r01 r12 (own_mono (own_mono q0c0 rc1) rc2) (own_mono (own_mono q1c0 rc1) rc2) (own_mono (own_mono q2c0 rc1) rc2)).symm)) (fun hc315 => ?_)
      refine oIconst C at_318 (z := 1) rfl rfl ?_
      refine oGoto C at_319 (q := 323) (by decide) (by decide) ?_
      refine oRetZ C at_323 (z' := (1 : Int32)) rfl (by decide) (by decide) ?_
      exact rfl
set_option maxRecDepth 65536 in
set_option maxHeartbeats 40000000 in
theorem comes_1 {Post : Tables → Env → Array Value → State → Outcome → State → Prop} (hpost : ∀ tb e args s v u, (limb_1_1.after args s (.returned v) u = true ∧ limb_1_2.after args s (.returned v) u = true ∧ True) → FrameEnd s (.returned v) u (Jvm.fieldLocs frame_1_writes args s ++ Jvm.arrayLocs frame_1_arrays args s ++ Jvm.staticLocs frame_1_statics s) 16 128 → Post tb e args s (.returned v) u) :
    ArmFor flags0 classFile x code maxLocals ret World_1 tables_1 room_1 Calls_1 rest_1 Pre_1 Post := by
  intro l hfl _ _ p e ha hc hk s m args below hf hA hF happ hP
  obtain ⟨hcalls, hrest, hpre⟩ := hP
  obtain ⟨-, -, -, hnamed, -, -, -, hat⟩ := (Spec.applies_iff hf).mp happ
  obtain ⟨hg, hn⟩ := and_e (Cond.before_iff.mp (show (Jvm.Cond.and given_1 narrow_1).before args s = true from hpre))
  obtain ⟨h1, k0⟩ := and_e hg
  obtain ⟨c0, k1⟩ := and_e k0
  obtain ⟨c1, k2⟩ := and_e k1
  obtain ⟨c2, k3⟩ := and_e k2
  obtain ⟨v0, v1, v2, v3, rfl⟩ : ∃ v0 v1 v2 v3 : Value, args = #[v0, v1, v2, v3] := by
    have hs : args.size = 4 := by simpa [Cond.value, given_1] using h1
    obtain ⟨L⟩ := args
    match L, hs with
    | [v0, v1, v2, v3], _ => exact ⟨v0, v1, v2, v3, rfl⟩
  have hw := fun d (hd : d ∈ tables_1) => atoms_spec (ws := Jvm.Cond.code x code maxLocals ret :: tables_1) hat d (List.mem_cons_of_mem _ hd)
  have hfit : Fit s := fun {y c} hc i hi => by
    obtain ⟨ha, rfl⟩ := Array.getElem?_eq_some_iff.mp hc
    have q := List.all_eq_true.mp ((Array.all_eq_true_iff_forall_mem.mp hF) _ (Array.getElem_mem ha)) i (List.mem_range.mpr hi)
    simpa [Array.getElem?_eq_getElem hi] using q
  obtain ⟨i0, e0⟩ := isL_v c0
  obtain rfl : v0 = (.long i0) := Option.some.inj e0
  obtain ⟨i1, e1⟩ := is_v c1
  obtain rfl : v1 = (.int i1) := Option.some.inj e1
  obtain ⟨i2, e2⟩ := is_v c2
  obtain rfl : v2 = (.int i2) := Option.some.inj e2
  obtain ⟨i3, e3⟩ := is_v k3
  obtain rfl : v3 = (.int i3) := Option.some.inj e3
  obtain ⟨n, o, h1, h2, h3, _, L, rfl, ⟨N, rfl⟩, hq⟩ := mt_law l s _ hw s.heap s.heap.size (Nat.le_refl _) i0 i1 i2 i3  p e ha hc hk s m _ below hf ((Spec.applies_iff_loose hf).mp happ).1 ⟨rfl, State.Warmed39.refl s, rfl⟩ trivial
  refine ⟨n, _, h1, h2, h3, hpost _ _ _ _ _ _ ⟨Cond.after_iff.mpr rfl, Cond.after_iff.mpr (eq_i res_at (Term.int_eval (1)) rfl), trivial⟩ ⟨hq.1, hq.2.1, (hq.2.2.sift fun y hy => Or.inr (N y hy)).mono (by decide) (by decide)⟩⟩
theorem main_1_1 : Claimed_1_1 := comes_1 fun _ _ _ _ _ _ h hF => ⟨h.1, hF⟩
theorem main_1_2 : Claimed_1_2 := comes_1 fun _ _ _ _ _ _ h hF => ⟨h.2.1, hF⟩
end Jvm.Pilot.@@N@@
namespace Jvm.Pilot.@@N@@
open Jvm Jvm.ClassFile Sem Op Lib Jvm.Free Jvm.Stand Jvm.Pilot.@@N@@.Jvm.D
/-! MADE BY PROGRAM (witnessworld.py) out of the Statement's table words and the real class files: 12 classes; the members and pool entries that the words name. The judged class is class 1, her method 1. -/
namespace start1
open Jvm.ClassFile
def u (s : String) : CpInfo := .utf8 (stringToUtf16 s)
/-- a pool by its gaps: so many unusable entries, then the entry; so many at the end -/
def gap : Nat → List CpInfo → List CpInfo
  | 0, r => r
  | n + 1, r => .unusable :: gap n r
def poolList (es : List (Nat × CpInfo)) (last : Nat) : List CpInfo := es.foldr (fun e r => gap e.1 (e.2 :: r)) (gap last [])
def pool (es : List (Nat × CpInfo)) (last : Nat) : Array CpInfo := ⟨poolList es last⟩
def fileOf (pool : Array CpInfo) (this : Nat) (attrs : Array Attribute := #[]) (ms : Array MethodInfo := #[]) (fl : Nat := 33) (sup : Nat := 0) (ifs : Array Nat := #[]) (fds : Array FieldInfo := #[]) : ClassFile where
  minorVersion := 0
  majorVersion := 65
  constantPool := pool
  accessFlags := fl
  thisClass := this
  superClass := sup
  interfaces := ifs
  fields := fds
  methods := ms
  attributes := attrs
def plain (name : String) (sup : Option ClassId) : Class where
  name := name
  kind := .ordinary
  loader := none
  accessFlags := 33
  super := sup
  interfaces := #[]
  cf := none
  fields := #[]
  methods := #[]
  instanceTypes := #[]
  staticTypes := #[]
  resolved := #[]
  callSites := []
  init := .initialized
  statics := none
  mirror := none

def pool0 : Array CpInfo := pool [(5, u "<init>"), (0, u "()V"), (1, .class_ 10), (1, u "java/lang/Object")] 113

def k0c0 : Code := { maxStack := 0, maxLocals := 1, code := object_method_1_code, exceptionTable := #[], attributes := #[] }
def k0m0 : Method := { name := "<init>", desc := "()V", sig := { parameters := [], returnType := none }, accessFlags := 1, code := some k0c0 }
/-- java/lang/Object -/
def k0 : Class := { plain "java/lang/Object" none with
  accessFlags := 33
  interfaces := #[]
  cf := some (fileOf pool0 8 #[] #[{ accessFlags := 1, nameIndex := 5, descriptorIndex := 6, attributes := #[] }] 33 0 #[] #[])
  fields := #[]
  methods := #[k0m0]
  instanceTypes := #[]
  staticTypes := #[]
  resolved := Array.replicate 124 none
  statics := none }

def pool1 : Array CpInfo := pool [(2, .class_ 4), (1, u "java/lang/Object"), (0, u "<init>"), (0, u "()V"), (2, .long 9223372036854775872), (1, .methodref 12 13), (0, .class_ 14), (0, .nameAndType 15 16), (0, u "java/lang/Math"), (0, u "max"), (0, u "(JJ)J"), (0, .class_ 18), (0, u "com/example/tideline/tideline/Retention"), (0, .methodref 17 20), (0, .nameAndType 5 21), (0, u "([J)V"), (0, .methodref 17 23), (0, .nameAndType 24 25), (0, u "keeps"), (0, u "(J)Z"), (0, .methodref 27 28), (0, .class_ 29), (0, .nameAndType 30 31), (0, u "com/example/tideline/tideline/RetentionKeepsPinLaw"), (0, u "expected"), (0, u "(JJZIJJJ)Z"), (0, .methodref 27 33), (0, .nameAndType 34 35), (0, u "reads"), (0, u "(JJZJZ)Z"), (2, u "law"), (0, u "(JIII)Z")] 5

def k1m0 : Method := { name := "<init>", desc := "()V", sig := { parameters := [], returnType := none }, accessFlags := 1, code := none }
def k1c1 : Code := { maxStack := 13, maxLocals := 28, code := code, exceptionTable := #[], attributes := #[] }
def k1m1 : Method := { name := "law", desc := "(JIII)Z", sig := { parameters := [.long, .int, .int, .int], returnType := some .boolean }, accessFlags := 9, code := some k1c1 }
def k1c2 : Code := { maxStack := 9, maxLocals := 13, code := method_3_code, exceptionTable := #[], attributes := #[] }
def k1m2 : Method := { name := "expected", desc := "(JJZIJJJ)Z", sig := { parameters := [.long, .long, .boolean, .int, .long, .long, .long], returnType := some .boolean }, accessFlags := 10, code := some k1c2 }
def k1c3 : Code := { maxStack := 4, maxLocals := 8, code := method_4_code, exceptionTable := #[], attributes := #[] }
def k1m3 : Method := { name := "reads", desc := "(JJZJZ)Z", sig := { parameters := [.long, .long, .boolean, .long, .boolean], returnType := some .boolean }, accessFlags := 10, code := some k1c3 }
/-- com/example/tideline/tideline/RetentionKeepsPinLaw -/
def k1 : Class := { plain "com/example/tideline/tideline/RetentionKeepsPinLaw" (some 0) with
  accessFlags := 49
  interfaces := #[]
  cf := some (fileOf pool1 27 #[] #[{ accessFlags := 1, nameIndex := 5, descriptorIndex := 6, attributes := #[] }, { accessFlags := 9, nameIndex := 38, descriptorIndex := 39, attributes := #[] }, { accessFlags := 10, nameIndex := 30, descriptorIndex := 31, attributes := #[] }, { accessFlags := 10, nameIndex := 34, descriptorIndex := 35, attributes := #[] }] 49 2 #[] #[])
  fields := #[]
  methods := #[k1m0, k1m1, k1m2, k1m3]
  instanceTypes := #[]
  staticTypes := #[]
  resolved := Array.replicate 45 none
  statics := none }

def pool2 : Array CpInfo := pool [(1, .class_ 2), (0, u "java/lang/Math"), (1, .class_ 6), (1, u "java/lang/Object"), (0, u "<init>"), (0, u "()V"), (89, .class_ 100), (1, u "java/lang/Math$RandomNumberGeneratorHolder"), (20, u "(JJ)J"), (50, u "negativeZeroFloatBits"), (0, u "J"), (2, u "negativeZeroDoubleBits"), (21, u "max"), (46, u "$assertionsDisabled"), (0, u "Z"), (91, u "twoToTheDoubleScaleDown"), (0, u "D"), (4, u "twoToTheDoubleScaleUp"), (9, u "E"), (3, u "PI"), (2, u "TAU"), (2, u "DEGREES_TO_RADIANS"), (0, u "RADIANS_TO_DEGREES")] 94

def k2m0 : Method := { name := "<init>", desc := "()V", sig := { parameters := [], returnType := none }, accessFlags := 2, code := none }
def k2c1 : Code := { maxStack := 4, maxLocals := 4, code := jdk_29_method_66_code, exceptionTable := #[], attributes := #[] }
def k2m1 : Method := { name := "max", desc := "(JJ)J", sig := { parameters := [.long, .long], returnType := some .long }, accessFlags := 9, code := some k2c1 }
/-- java/lang/Math -/
def k2 : Class := { plain "java/lang/Math" (some 0) with
  accessFlags := 49
  interfaces := #[]
  cf := some (fileOf pool2 1 #[.nestMembers #[98]] #[{ accessFlags := 2, nameIndex := 7, descriptorIndex := 8, attributes := #[] }, { accessFlags := 9, nameIndex := 198, descriptorIndex := 121, attributes := #[] }] 49 4 #[] #[{ accessFlags := 25, nameIndex := 354, descriptorIndex := 339, attributes := #[] }, { accessFlags := 25, nameIndex := 358, descriptorIndex := 339, attributes := #[] }, { accessFlags := 25, nameIndex := 361, descriptorIndex := 339, attributes := #[] }, { accessFlags := 26, nameIndex := 364, descriptorIndex := 339, attributes := #[] }, { accessFlags := 26, nameIndex := 365, descriptorIndex := 339, attributes := #[] }, { accessFlags := 26, nameIndex := 172, descriptorIndex := 173, attributes := #[] }, { accessFlags := 26, nameIndex := 176, descriptorIndex := 173, attributes := #[] }, { accessFlags := 8, nameIndex := 344, descriptorIndex := 339, attributes := #[] }, { accessFlags := 8, nameIndex := 338, descriptorIndex := 339, attributes := #[] }, { accessFlags := 4120, nameIndex := 245, descriptorIndex := 246, attributes := #[] }])
  fields := #[{ name := "E", type := .double, accessFlags := 25, slot := 0, constantValue := 0 }, { name := "PI", type := .double, accessFlags := 25, slot := 1, constantValue := 0 }, { name := "TAU", type := .double, accessFlags := 25, slot := 2, constantValue := 0 }, { name := "DEGREES_TO_RADIANS", type := .double, accessFlags := 26, slot := 3, constantValue := 0 }, { name := "RADIANS_TO_DEGREES", type := .double, accessFlags := 26, slot := 4, constantValue := 0 }, { name := "negativeZeroFloatBits", type := .long, accessFlags := 26, slot := 5, constantValue := 0 }, { name := "negativeZeroDoubleBits", type := .long, accessFlags := 26, slot := 6, constantValue := 0 }, { name := "twoToTheDoubleScaleUp", type := .double, accessFlags := 8, slot := 7, constantValue := 0 }, { name := "twoToTheDoubleScaleDown", type := .double, accessFlags := 8, slot := 8, constantValue := 0 }, { name := "$assertionsDisabled", type := .boolean, accessFlags := 4120, slot := 9, constantValue := 0 }]
  methods := #[k2m0, k2m1]
  instanceTypes := #[]
  staticTypes := #[.double, .double, .double, .double, .double, .long, .long, .double, .double, .boolean]
  resolved := Array.replicate 460 none
  statics := none }

def pool3 : Array CpInfo := pool [(1, .methodref 2 3), (0, .class_ 4), (0, .nameAndType 5 6), (0, u "java/lang/Object"), (0, u "<init>"), (0, u "()V"), (0, .fieldref 8 9), (0, .class_ 10), (0, .nameAndType 11 12), (0, u "com/example/tideline/tideline/Retention"), (0, u "open"), (0, u "[J"), (0, .fieldref 8 14), (0, .nameAndType 15 16), (0, u "next"), (0, u "I"), (0, u "([J)V"), (3, u "keeps"), (0, u "(J)Z")] 7

def k3c0 : Code := { maxStack := 2, maxLocals := 2, code := prog_43_method_1_code, exceptionTable := #[], attributes := #[] }
def k3m0 : Method := { name := "<init>", desc := "([J)V", sig := { parameters := [(.array .long)], returnType := none }, accessFlags := 0, code := some k3c0 }
def k3c1 : Code := { maxStack := 4, maxLocals := 4, code := prog_43_method_3_code, exceptionTable := #[], attributes := #[] }
def k3m1 : Method := { name := "keeps", desc := "(J)Z", sig := { parameters := [.long], returnType := some .boolean }, accessFlags := 0, code := some k3c1 }
/-- com/example/tideline/tideline/Retention -/
def k3 : Class := { plain "com/example/tideline/tideline/Retention" (some 0) with
  accessFlags := 48
  interfaces := #[]
  cf := some (fileOf pool3 8 #[] #[{ accessFlags := 0, nameIndex := 5, descriptorIndex := 17, attributes := #[] }, { accessFlags := 0, nameIndex := 21, descriptorIndex := 22, attributes := #[] }] 48 2 #[] #[{ accessFlags := 18, nameIndex := 11, descriptorIndex := 12, attributes := #[] }, { accessFlags := 2, nameIndex := 15, descriptorIndex := 16, attributes := #[] }])
  fields := #[{ name := "open", type := (.array .long), accessFlags := 18, slot := 0, constantValue := 0 }, { name := "next", type := .int, accessFlags := 2, slot := 1, constantValue := 0 }]
  methods := #[k3m0, k3m1]
  instanceTypes := #[(.array .long), .int]
  staticTypes := #[]
  resolved := Array.replicate 30 none
  statics := none }

def pool4 : Array CpInfo := pool [(1, u "java/lang/Cloneable"), (0, .class_ 1), (0, u "java/lang/Object"), (0, .class_ 3)] 3

/-- java/lang/Cloneable -/
def k4 : Class := { plain "java/lang/Cloneable" (some 0) with
  accessFlags := 1537
  interfaces := #[]
  cf := some (fileOf pool4 2 #[] #[] 1537 4 #[] #[])
  fields := #[]
  methods := #[]
  instanceTypes := #[]
  staticTypes := #[]
  resolved := Array.replicate 8 none
  statics := none }

def pool5 : Array CpInfo := pool [(1, u "java/io/Serializable"), (0, .class_ 1), (0, u "java/lang/Object"), (0, .class_ 3)] 3

/-- java/io/Serializable -/
def k5 : Class := { plain "java/io/Serializable" (some 0) with
  accessFlags := 1537
  interfaces := #[]
  cf := some (fileOf pool5 2 #[] #[] 1537 4 #[] #[])
  fields := #[]
  methods := #[]
  instanceTypes := #[]
  staticTypes := #[]
  resolved := Array.replicate 8 none
  statics := none }

/-- the primitive byte -/
def k6 : Class := { plain "byte" none with kind := .primitive 'B', accessFlags := 0x411 }
/-- [B -/
def k7 : Class := { plain "[B" (some 0) with kind := .array 6 .byte, interfaces := #[4, 5], accessFlags := 1041 }

/-- the primitive int -/
def k8 : Class := { plain "int" none with kind := .primitive 'I', accessFlags := 0x411 }
/-- [I -/
def k9 : Class := { plain "[I" (some 0) with kind := .array 8 .int, interfaces := #[4, 5], accessFlags := 1041 }

/-- the primitive long -/
def k10 : Class := { plain "long" none with kind := .primitive 'J', accessFlags := 0x411 }
/-- [J -/
def k11 : Class := { plain "[J" (some 0) with kind := .array 10 .long, interfaces := #[4, 5], accessFlags := 1041 }

def heap : Heap := #[]
def classes : Array Class := #[k0, k1, k2, k3, k4, k5, k6, k7, k8, k9, k10, k11]
def interned : List (Array UInt16 × Addr) := []
def slotsUsed : Nat := 0
def theMethod : MethodId := ⟨1, 1⟩
def args0 : Array Value := #[.long 5, .int 7, .int 7, .int 7]
def aboutOver (below : List Frame) : State where
  vm := { classes := classes, interned := interned.toArray }
  heap := heap
  slotsUsed := slotsUsed
  threads := #[{ frames := .invoking theMethod args0 :: below }]
def below0 : List Frame := [.native { method := ⟨0, 0⟩, args := #[] }]
def about1 : State := aboutOver below0
def p0 : Program := .bare "" "" ""
def e0 : Env := launch0.env 0 0 0
theorem w_frames : about1.frames = Frame.invoking theMethod args0 :: below0 := rfl
set_option maxRecDepth 65536 in
theorem w_args : argsFit about1.vm theMethod args0 = true := by decide +kernel
set_option maxRecDepth 65536 in
theorem w_heap : heapFits about1 = true := by decide +kernel
set_option maxRecDepth 65536 in
theorem w_runnable : about1.curStatus? = some .runnable := by decide +kernel
set_option maxRecDepth 65536 in
theorem w_alone : about1.alone = true := by decide +kernel
set_option maxRecDepth 65536 in
theorem w_named : about1.methodNamed? x = some theMethod := by decide +kernel
set_option maxRecDepth 65536 in
theorem w_hears : about1.hears theMethod below0 = true := by decide +kernel
set_option maxRecDepth 65536 in
theorem w_ripe : about1.ripe theMethod args0 below0 = true := by decide +kernel
theorem w_running : about1.status = .running := rfl
set_option maxRecDepth 65536 in
theorem w_room : about1.hasRoom e0.platform room_1 = true :=
  launch0.hasRoom_least _ room_1 (by decide +kernel) (by decide +kernel) (by decide +kernel) (by decide +kernel) (by decide +kernel) (by decide +kernel)
theorem allAtoms_all (ts : List Jvm.Cond) (a : Array Jvm.Value) (st : Jvm.State) : (allAtoms ts).before a st = ts.all (fun c => c.before a st) := by
  induction ts with
  | nil => rfl
  | cons c t ih =>
    show (Jvm.Cond.and c (allAtoms t)).before a st = _
    rw [Jvm.Cond.before_and, ih, List.all_cons]
def words1 : List Jvm.Cond := Jvm.Cond.code x code maxLocals ret :: tables_1
/-- a 'code' word, met by the world's own term for the bytes: nothing is compared byte by byte -/
theorem code_word {y : MethodName} {bytes : ByteArray} {mx : Nat} {rt : Option FieldType} {a : Array Value} {s : State} {m : MethodId} {meth : Method} {c : Code} (h1 : s.methodNamed? y = some m) (h2 : s.vm.method? m = some meth) (h3 : meth.code = some c) (h4 : c.code = bytes)
    (h5 : (c.maxLocals == mx && c.exceptionTable.isEmpty && decide (c.maxStack ≤ mostOperands) && decide (meth.sig.returnType = rt) && !meth.locks && decide (parseMethodDescriptor y.desc = some meth.sig)) = true) : (Jvm.Cond.code y bytes mx rt).before a s = true := by
  simp only [Bool.and_eq_true, beq_iff_eq, Bool.not_eq_true', decide_eq_true_eq] at h5
  obtain ⟨⟨⟨⟨⟨g1, g2⟩, g3⟩, g4⟩, g5⟩, g6⟩ := h5
  simp [Cond.before, Cond.holds, Cond.value, h1, h2, h3, h4, g1, g2, g3, g4, g5, g6]
def isCode : Jvm.Cond → Bool
  | .code _ _ _ _ => true
  | _ => false
theorem all_split {L : List Jvm.Cond} {P : Jvm.Cond → Bool} (h1 : L.all (fun c => isCode c || P c) = true) (h2 : ∀ c ∈ L.filter isCode, P c = true) : L.all P = true := by
  refine List.all_eq_true.mpr fun c hc => ?_
  have h := List.all_eq_true.mp h1 c hc
  rcases Bool.eq_false_or_eq_true (isCode c) with hi | hi
  · exact h2 c (List.mem_filter.mpr ⟨hc, hi⟩)
  · simpa [hi] using h
set_option maxRecDepth 65536 in
theorem w_c0 : (Jvm.Cond.code x code maxLocals ret).before args0 about1 = true := code_word (m := ⟨1, 1⟩) (meth := k1m1) (c := k1c1) (by decide +kernel) rfl rfl rfl (by decide +kernel)
set_option maxRecDepth 65536 in
theorem w_c1 : (Jvm.Cond.code ({ cls := "java/lang/Math", name := "max", desc := "(JJ)J" } : Jvm.MethodName) jdk_29_method_66_code (4 : Nat) (Option.some Jvm.ClassFile.FieldType.long)).before args0 about1 = true := code_word (m := ⟨2, 1⟩) (meth := k2m1) (c := k2c1) (by decide +kernel) rfl rfl rfl (by decide +kernel)
set_option maxRecDepth 65536 in
theorem w_c2 : (Jvm.Cond.code ({ cls := "com/example/tideline/tideline/Retention", name := "<init>", desc := "([J)V" } : Jvm.MethodName) prog_43_method_1_code (2 : Nat) (Option.none : Option Jvm.ClassFile.FieldType)).before args0 about1 = true := code_word (m := ⟨3, 0⟩) (meth := k3m0) (c := k3c0) (by decide +kernel) rfl rfl rfl (by decide +kernel)
set_option maxRecDepth 65536 in
theorem w_c3 : (Jvm.Cond.code ({ cls := "java/lang/Object", name := "<init>", desc := "()V" } : Jvm.MethodName) object_method_1_code (1 : Nat) (Option.none : Option Jvm.ClassFile.FieldType)).before args0 about1 = true := code_word (m := ⟨0, 0⟩) (meth := k0m0) (c := k0c0) (by decide +kernel) rfl rfl rfl (by decide +kernel)
set_option maxRecDepth 65536 in
theorem w_c4 : (Jvm.Cond.code ({ cls := "com/example/tideline/tideline/Retention", name := "keeps", desc := "(J)Z" } : Jvm.MethodName) prog_43_method_3_code (4 : Nat) (Option.some Jvm.ClassFile.FieldType.boolean)).before args0 about1 = true := code_word (m := ⟨3, 1⟩) (meth := k3m1) (c := k3c1) (by decide +kernel) rfl rfl rfl (by decide +kernel)
set_option maxRecDepth 65536 in
theorem w_c5 : (Jvm.Cond.code ({ cls := "com/example/tideline/tideline/RetentionKeepsPinLaw", name := "expected", desc := "(JJZIJJJ)Z" } : Jvm.MethodName) method_3_code (13 : Nat) (Option.some Jvm.ClassFile.FieldType.boolean)).before args0 about1 = true := code_word (m := ⟨1, 2⟩) (meth := k1m2) (c := k1c2) (by decide +kernel) rfl rfl rfl (by decide +kernel)
set_option maxRecDepth 65536 in
theorem w_c6 : (Jvm.Cond.code ({ cls := "com/example/tideline/tideline/RetentionKeepsPinLaw", name := "reads", desc := "(JJZJZ)Z" } : Jvm.MethodName) method_4_code (8 : Nat) (Option.some Jvm.ClassFile.FieldType.boolean)).before args0 about1 = true := code_word (m := ⟨1, 3⟩) (meth := k1m3) (c := k1c3) (by decide +kernel) rfl rfl rfl (by decide +kernel)
def codes1 : List Jvm.Cond := [Jvm.Cond.code x code maxLocals ret, Jvm.Cond.code ({ cls := "java/lang/Math", name := "max", desc := "(JJ)J" } : Jvm.MethodName) jdk_29_method_66_code (4 : Nat) (Option.some Jvm.ClassFile.FieldType.long), Jvm.Cond.code ({ cls := "com/example/tideline/tideline/Retention", name := "<init>", desc := "([J)V" } : Jvm.MethodName) prog_43_method_1_code (2 : Nat) (Option.none : Option Jvm.ClassFile.FieldType), Jvm.Cond.code ({ cls := "java/lang/Object", name := "<init>", desc := "()V" } : Jvm.MethodName) object_method_1_code (1 : Nat) (Option.none : Option Jvm.ClassFile.FieldType), Jvm.Cond.code ({ cls := "com/example/tideline/tideline/Retention", name := "keeps", desc := "(J)Z" } : Jvm.MethodName) prog_43_method_3_code (4 : Nat) (Option.some Jvm.ClassFile.FieldType.boolean), Jvm.Cond.code ({ cls := "com/example/tideline/tideline/RetentionKeepsPinLaw", name := "expected", desc := "(JJZIJJJ)Z" } : Jvm.MethodName) method_3_code (13 : Nat) (Option.some Jvm.ClassFile.FieldType.boolean), Jvm.Cond.code ({ cls := "com/example/tideline/tideline/RetentionKeepsPinLaw", name := "reads", desc := "(JJZJZ)Z" } : Jvm.MethodName) method_4_code (8 : Nat) (Option.some Jvm.ClassFile.FieldType.boolean)]
set_option maxRecDepth 65536 in
theorem codes_eq : words1.filter isCode = codes1 := rfl
theorem w_codes : ∀ c ∈ words1.filter isCode, c.before args0 about1 = true := by
  rw [codes_eq]
  intro c hc
  simp only [codes1, List.mem_cons, List.not_mem_nil, or_false] at hc
  rcases hc with rfl | rfl | rfl | rfl | rfl | rfl | rfl
  · exact w_c0
  · exact w_c1
  · exact w_c2
  · exact w_c3
  · exact w_c4
  · exact w_c5
  · exact w_c6
set_option maxRecDepth 65536 in
theorem w_t1 : (words1.take 24).all (fun c => isCode c || c.before args0 about1) = true := by decide +kernel
set_option maxRecDepth 65536 in
theorem w_t2 : (words1.drop 24).all (fun c => isCode c || c.before args0 about1) = true := by decide +kernel
theorem w_tables : (allAtoms (Jvm.Cond.code x code maxLocals ret :: tables_1)).before args0 about1 = true := by
  rw [allAtoms_all]
  show words1.all (fun c => c.before args0 about1) = true
  refine all_split ?_ w_codes
  rw [← List.take_append_drop 24 words1, List.all_append, w_t1, w_t2]
  rfl
set_option maxRecDepth 65536 in
theorem w_case : (Jvm.Cond.and given_1 narrow_1).before args0 about1 = true := by decide +kernel
theorem w_applies : (headSpec (Jvm.Cond.code x code maxLocals ret :: tables_1) room_1).applies x e0.platform about1 = true :=
  (Spec.applies_iff w_frames).mpr ⟨w_running, w_runnable, w_alone, w_named, w_hears, w_ripe, w_room, w_tables⟩
theorem atStart : AtStart classFile x code maxLocals ret World_1 tables_1 room_1 Calls_1 rest_1 Pre_1 launch0 p0 e0 about1 theMethod args0 below0 :=
  ⟨lists_1, trivial, launch0.admits_env _ _ _, launch0.least_env, fairChoices_fair.cas, fairChoices_fair.clock, w_frames, w_args, w_heap, w_applies, trivial, trivial, w_case⟩
end start1
theorem witness_1 : WitnessClaimed_1 := ⟨start1.p0, start1.e0, start1.about1, start1.theMethod, start1.args0, start1.below0, start1.atStart⟩
end Jvm.Pilot.@@N@@
