import JvmDerived
import JvmDerived.Pilot.@@N@@Statement
import JvmDerived.Pilot.@@N@@Code
set_option linter.unusedVariables false
set_option linter.unusedSimpArgs false
namespace Jvm.RoadKit
open Sem ClassFile Op Lib Jvm.Stand Jvm.Free Jvm.LawKit
section New
variable {p : Program} {l : Launch} {e : Env} {R : Room} {s : State} {m : MethodId} {args : Array Value} {below : List Frame} {meth : Method} {c : Code} {T : State} {locs : List Loc} {cells slots : Nat}
end New
end Jvm.RoadKit
namespace Jvm.Pilot.@@N@@
open Jvm Jvm.ClassFile Sem Op Lib Jvm.Free Jvm.Stand Jvm.LawKit Jvm.RoadKit Bundle Jvm.Pilot.@@N@@.Jvm.D
section Own
variable {p : Program} {l : Launch} {e : Env} {R : Room} {s : State} {m : MethodId} {args : Array Value} {below : List Frame} {meth : Method} {c : Code} {bs : ByteArray} {ml : Nat} {own nm : String} {rt : Option FieldType} {Z : State} {F : State → Outcome → Prop} {n0 : Nat} {h h' : Heap} {cells slots : Nat} {pc q : Nat} {Ls Ls' : Array Slot} {st : List Value} {a0 : Array Value}
def oCx (p : Program) (s : State) (m : MethodId) (meth : Method) (c : Code) (bs : ByteArray) (ml : Nat) (own nm : String) (rt : Option FieldType) (Z : State) : Prop :=
  p.tables.exec = Jvm.exec ∧ c.code = bs ∧ c.maxLocals = ml ∧ s.vm.findClass own = some m.cls ∧ Z.Warmed39 s.vm ∧ meth.name = nm ∧ meth.sig.returnType = rt ∧ meth.locks = false
def oW (p : Program) (l : Launch) (e : Env) (R : Room) (s : State) (m : MethodId) (args : Array Value) (below : List Frame) (meth : Method) (c : Code) (F : State → Outcome → Prop) (n0 : Nat) (h : Heap) (cells slots : Nat) (f : JFrame) : Prop :=
  ∀ (T : State) (locs : List Loc), Stand p l e R s m args below meth c T locs cells slots → T.heap = h → Fr n0 locs → ∃ s₂ o, Steps p.tables e below (T.setTop f) s₂ ∧ s₂.status = .running ∧ Ended s₂ below o ∧ F s₂ o
def oFin (s : State) (n0 k n : Nat) (Q : Option Value → Heap → Prop) (s₂ : State) (o : Outcome) : Prop := ∃ v L, o = .returned v ∧ (Fr n0 L ∧ Q v s₂.heap) ∧ FrameEnd s o s₂ L k n
def oMet (l : Launch) (Z : State) (y : MethodName) (bs : ByteArray) (ml : Nat) (rt : Option FieldType) (ws : List Jvm.Cond) (R : Room) (k n n0 : Nat) (as' : Array Value) (h0 : Heap) (Q : Option Value → Heap → Prop) : Prop :=
  MetFree l y (head1 (Jvm.Cond.code y bs ml rt :: ws) R) (fun a U => a = as' ∧ Z.Warmed39 U.vm ∧ U.heap = h0) (fun _ _ _ _ _ => True) (fun _ U o U' => ∃ v L, o = .returned v ∧ (Fr n0 L ∧ Q v U'.heap) ∧ FrameEnd U o U' L k n)
theorem oMet.intro {y : MethodName} {ws : List Jvm.Cond} {k n : Nat} {as' : Array Value} {h0 : Heap} {Q : Option Value → Heap → Prop} (pn : plainFor y = true) (ef : ∀ m, entryFrame m as' ml = mkF m 0 Ls [])
    (body : ∀ (p : Program) (e : Env) (s : State) (m : MethodId) (below : List Frame) (meth : Method) (c : Code), oCx p s m meth c bs ml y.cls y.name rt Z → oW p l e R s m as' below meth c (oFin s n0 k n Q) n0 h0 0 0 (mkF m 0 Ls [])) :
    oMet l Z y bs ml rt ws R k n n0 as' h0 Q := by
  refine MetFree.of_bodySF pn hisR ?_
  intro p e s m args below meth c s₁ Bd hml0 hP hK
  obtain ⟨rfl, hZ, hh⟩ := hP
  have e0 : s₁.heap = h0 := by rw [← hh, Bd.state]; rfl
  have C : oCx p s m meth c bs ml y.cls y.name rt Z := ⟨Bd.exec, Bd.bytes, hml0, findClass_of_methodNamed Bd.named, hZ, (name_of_methodNamed Bd.named Bd.method).1, Bd.returns, Bd.notSynchronized⟩
  obtain ⟨s₂, o, h1, h2, h3, h4⟩ := body p e s m below meth c C s₁ [] (Stand.of_body Bd) e0 (Fr.nil n0)
  exact ⟨s₂, o, castTop (ef m) h1, h2, h3, h4⟩
theorem oMet.mono {y : MethodName} {ws : List Jvm.Cond} {k n : Nat} {as' : Array Value} {h0 : Heap} {Q Q' : Option Value → Heap → Prop} (M : oMet l Z y bs ml rt ws R k n n0 as' h0 Q) (hq : ∀ v h, Q v h → Q' v h) : oMet l Z y bs ml rt ws R k n n0 as' h0 Q' := by
  intro p e ha hc hk s m args below hf happ hP hK
  obtain ⟨n', o, h1, h2, h3, v, L, h4, ⟨h5, h6⟩, h7⟩ := M p e ha hc hk s m args below hf happ hP hK
  exact ⟨n', o, h1, h2, h3, v, L, h4, ⟨h5, hq _ _ h6⟩, h7⟩
theorem oW.of {f f' : JFrame} (k : ∀ (T : State) (locs : List Loc), Stand p l e R s m args below meth c T locs cells slots → ∀ t, Steps p.tables e below (T.setTop f') t → Steps p.tables e below (T.setTop f) t)
    (g : oW p l e R s m args below meth c F n0 h cells slots f') : oW p l e R s m args below meth c F n0 h cells slots f := fun T locs X eT N => by
  obtain ⟨s₂, o, h1, h2⟩ := g T locs X eT N
  exact ⟨s₂, o, k T locs X _ h1, h2⟩
theorem oIloadN (C : oCx p s m meth c bs ml own nm rt Z) {k : Fin 4} {v : Int32} (hd : decode bs pc = .ok (.iload_n k, 1)) (hl : Ls[k.val]? = some (.val (.int v))) (hq : pc + 1 = q) (g : oW p l e R s m args below meth c F n0 h cells slots (mkF m q Ls (.int v :: st))) : oW p l e R s m args below meth c F n0 h cells slots (mkF m pc Ls (st)) := by
  subst hq; exact oW.of (fun T locs X t k => XS.iloadN X.here C.1 rfl (hb C.2.1 hd) hl k) g
theorem oLload (C : oCx p s m meth c bs ml own nm rt Z) {k : Nat} {v : Int64} (hd : decode bs pc = .ok (.lload k, 2)) (hl : Ls[k]? = some (.val (.long v))) (hq : pc + 2 = q) (g : oW p l e R s m args below meth c F n0 h cells slots (mkF m q Ls (.long v :: st))) : oW p l e R s m args below meth c F n0 h cells slots (mkF m pc Ls (st)) := by
  subst hq; exact oW.of (fun T locs X t k => XS.lload X.here C.1 rfl (hb C.2.1 hd) hl k) g
theorem oAloadN (C : oCx p s m meth c bs ml own nm rt Z) {k : Fin 4} {v : Value} (hd : decode bs pc = .ok (.aload_n k, 1)) (hl : Ls[k.val]? = some (.val v)) (hv : v.isRef = true) (hq : pc + 1 = q) (g : oW p l e R s m args below meth c F n0 h cells slots (mkF m q Ls (v :: st))) : oW p l e R s m args below meth c F n0 h cells slots (mkF m pc Ls (st)) := by
  subst hq; exact oW.of (fun T locs X t k => XS.aloadN X.here C.1 rfl (hb C.2.1 hd) hl hv k) g
theorem oIstoreN (C : oCx p s m meth c bs ml own nm rt Z) {k : Fin 4} {v : Int32} (hd : decode bs pc = .ok (.istore_n k, 1)) (hl : storeLocals Ls k.val (.int v) = some Ls') (hq : pc + 1 = q) (g : oW p l e R s m args below meth c F n0 h cells slots (mkF m q Ls' (st))) : oW p l e R s m args below meth c F n0 h cells slots (mkF m pc Ls (.int v :: st)) := by
  subst hq; exact oW.of (fun T locs X t k => XS.istoreN X.here C.1 rfl (hb C.2.1 hd) rfl hl k) g
theorem oLstore (C : oCx p s m meth c bs ml own nm rt Z) {k : Nat} {v : Int64} (hd : decode bs pc = .ok (.lstore k, 2)) (hl : storeLocals Ls k (.long v) = some Ls') (hq : pc + 2 = q) (g : oW p l e R s m args below meth c F n0 h cells slots (mkF m q Ls' (st))) : oW p l e R s m args below meth c F n0 h cells slots (mkF m pc Ls (.long v :: st)) := by
  subst hq; exact oW.of (fun T locs X t k => XS.lstore X.here C.1 rfl (hb C.2.1 hd) rfl hl k) g
theorem oAstoreN (C : oCx p s m meth c bs ml own nm rt Z) {k : Fin 4} {v : Value} (hd : decode bs pc = .ok (.astore_n k, 1)) (hv : v.isRef = true) (hl : storeLocals Ls k.val v = some Ls') (hq : pc + 1 = q) (g : oW p l e R s m args below meth c F n0 h cells slots (mkF m q Ls' (st))) : oW p l e R s m args below meth c F n0 h cells slots (mkF m pc Ls (v :: st)) := by
  subst hq; exact oW.of (fun T locs X t k => XS.astoreN X.here C.1 rfl (hb C.2.1 hd) rfl hv hl k) g
theorem oIconst (C : oCx p s m meth c bs ml own nm rt Z) {i : Int} {z : Int32} (hd : decode bs pc = .ok (.iconst i, 1)) (hz : Int32.ofInt i = z) (hq : pc + 1 = q) (g : oW p l e R s m args below meth c F n0 h cells slots (mkF m q Ls (.int z :: st))) : oW p l e R s m args below meth c F n0 h cells slots (mkF m pc Ls (st)) := by
  subst hq; exact oW.of (fun T locs X t k => XS.iconst X.here C.1 rfl (hb C.2.1 hd) (hz ▸ k)) g
theorem oBipush (C : oCx p s m meth c bs ml own nm rt Z) {i : Int} {z : Int32} (hd : decode bs pc = .ok (.bipush i, 2)) (hz : (Int8.ofInt i).toInt32 = z) (hq : pc + 2 = q) (g : oW p l e R s m args below meth c F n0 h cells slots (mkF m q Ls (.int z :: st))) : oW p l e R s m args below meth c F n0 h cells slots (mkF m pc Ls (st)) := by
  subst hq; exact oW.of (fun T locs X t k => XS.bipush X.here C.1 rfl (hb C.2.1 hd) (hz ▸ k)) g
theorem oLconst (C : oCx p s m meth c bs ml own nm rt Z) {i : Fin 2} {z : Int64} (hd : decode bs pc = .ok (.lconst i, 1)) (hz : Int64.ofNat i = z) (hq : pc + 1 = q) (g : oW p l e R s m args below meth c F n0 h cells slots (mkF m q Ls (.long z :: st))) : oW p l e R s m args below meth c F n0 h cells slots (mkF m pc Ls (st)) := by
  subst hq; exact oW.of (fun T locs X t k => XS.lconst X.here C.1 rfl (hb C.2.1 hd) (hz ▸ k)) g
theorem oIadd (C : oCx p s m meth c bs ml own nm rt Z) {x y : Int32} (hd : decode bs pc = .ok (.iadd, 1)) (hq : pc + 1 = q) (g : oW p l e R s m args below meth c F n0 h cells slots (mkF m q Ls (.int (x + y) :: st))) : oW p l e R s m args below meth c F n0 h cells slots (mkF m pc Ls (.int y :: .int x :: st)) := by
  subst hq; exact oW.of (fun T locs X t k => XS.iadd X.here C.1 rfl (hb C.2.1 hd) rfl k) g
theorem oLadd (C : oCx p s m meth c bs ml own nm rt Z) {x y : Int64} (hd : decode bs pc = .ok (.ladd, 1)) (hq : pc + 1 = q) (g : oW p l e R s m args below meth c F n0 h cells slots (mkF m q Ls (.long (x + y) :: st))) : oW p l e R s m args below meth c F n0 h cells slots (mkF m pc Ls (.long y :: .long x :: st)) := by
  subst hq; exact oW.of (fun T locs X t k => XS.ladd X.here C.1 rfl (hb C.2.1 hd) rfl k) g
theorem oIsub (C : oCx p s m meth c bs ml own nm rt Z) {x y : Int32} (hd : decode bs pc = .ok (.isub, 1)) (hq : pc + 1 = q) (g : oW p l e R s m args below meth c F n0 h cells slots (mkF m q Ls (.int (x - y) :: st))) : oW p l e R s m args below meth c F n0 h cells slots (mkF m pc Ls (.int y :: .int x :: st)) := by
  subst hq; exact oW.of (fun T locs X t k => XS.isub X.here C.1 rfl (hb C.2.1 hd) rfl k) g
theorem oLmul (C : oCx p s m meth c bs ml own nm rt Z) {x y : Int64} (hd : decode bs pc = .ok (.lmul, 1)) (hq : pc + 1 = q) (g : oW p l e R s m args below meth c F n0 h cells slots (mkF m q Ls (.long (x * y) :: st))) : oW p l e R s m args below meth c F n0 h cells slots (mkF m pc Ls (.long y :: .long x :: st)) := by
  subst hq; exact oW.of (fun T locs X t k => XS.lmul X.here C.1 rfl (hb C.2.1 hd) rfl k) g
theorem oIand (C : oCx p s m meth c bs ml own nm rt Z) {x y : Int32} (hd : decode bs pc = .ok (.iand, 1)) (hq : pc + 1 = q) (g : oW p l e R s m args below meth c F n0 h cells slots (mkF m q Ls (.int (x &&& y) :: st))) : oW p l e R s m args below meth c F n0 h cells slots (mkF m pc Ls (.int y :: .int x :: st)) := by
  subst hq; exact oW.of (fun T locs X t k => XS.iand X.here C.1 rfl (hb C.2.1 hd) rfl k) g
theorem oIdiv (C : oCx p s m meth c bs ml own nm rt Z) {x y : Int32} (hd : decode bs pc = .ok (.idiv, 1)) (hy : y ≠ 0) (hq : pc + 1 = q) (g : oW p l e R s m args below meth c F n0 h cells slots (mkF m q Ls (.int (x / y) :: st))) : oW p l e R s m args below meth c F n0 h cells slots (mkF m pc Ls (.int y :: .int x :: st)) := by
  subst hq; exact oW.of (fun T locs X t k => XS.idiv X.here C.1 rfl (hb C.2.1 hd) rfl hy k) g
theorem oIrem (C : oCx p s m meth c bs ml own nm rt Z) {x y : Int32} (hd : decode bs pc = .ok (.irem, 1)) (hy : y ≠ 0) (hq : pc + 1 = q) (g : oW p l e R s m args below meth c F n0 h cells slots (mkF m q Ls (.int (x % y) :: st))) : oW p l e R s m args below meth c F n0 h cells slots (mkF m pc Ls (.int y :: .int x :: st)) := by
  subst hq; exact oW.of (fun T locs X t k => iremM X C.1 rfl (hb C.2.1 hd) rfl hy k) g
theorem oI2L (C : oCx p s m meth c bs ml own nm rt Z) {x : Int32} (hd : decode bs pc = .ok (.i2l, 1)) (hq : pc + 1 = q) (g : oW p l e R s m args below meth c F n0 h cells slots (mkF m q Ls (.long (x.toInt64) :: st))) : oW p l e R s m args below meth c F n0 h cells slots (mkF m pc Ls (.int x :: st)) := by
  subst hq; exact oW.of (fun T locs X t k => XS.i2l X.here C.1 rfl (hb C.2.1 hd) rfl k) g
theorem oI2B (C : oCx p s m meth c bs ml own nm rt Z) {x : Int32} (hd : decode bs pc = .ok (.i2b, 1)) (hq : pc + 1 = q) (g : oW p l e R s m args below meth c F n0 h cells slots (mkF m q Ls (.int (x.toInt8.toInt32) :: st))) : oW p l e R s m args below meth c F n0 h cells slots (mkF m pc Ls (.int x :: st)) := by
  subst hq; exact oW.of (fun T locs X t k => XS.i2b X.here C.1 rfl (hb C.2.1 hd) rfl k) g
theorem oIinc (C : oCx p s m meth c bs ml own nm rt Z) {k : Nat} {i : Int} {x z w : Int32} (hd : decode bs pc = .ok (.iinc k i, 3)) (hl : Ls[k]? = some (.val (.int x))) (hz : Int32.ofInt i = z) (hw : x + z = w) (hl' : storeLocals Ls k (.int w) = some Ls') (hq : pc + 3 = q) (g : oW p l e R s m args below meth c F n0 h cells slots (mkF m q Ls' (st))) : oW p l e R s m args below meth c F n0 h cells slots (mkF m pc Ls (st)) := by
  subst hq; exact oW.of (fun T locs X t k => XS.iinc X.here C.1 rfl (hb C.2.1 hd) hl (hz ▸ hw ▸ hl') k) g
theorem oGoto (C : oCx p s m meth c bs ml own nm rt Z) {o : Int} (hd : decode bs pc = .ok (.goto o, 3)) (ho : 0 ≤ (pc : Int) + o) (hp : ((pc : Int) + o).toNat = q) (g : oW p l e R s m args below meth c F n0 h cells slots (mkF m q Ls (st))) : oW p l e R s m args below meth c F n0 h cells slots (mkF m pc Ls (st)) :=
  oW.of (fun T locs X t k => XS.goto X.here C.1 rfl (pc0 := pc) rfl (hb C.2.1 hd) ho hp k) g
theorem oIcmp_eq (C : oCx p s m meth c bs ml own nm rt Z) {x y : Int32} {o : Int} {r : Nat} (hd : decode bs pc = .ok (.if_icmp .eq o, 3)) (ho : 0 ≤ (pc : Int) + o) (hp : ((pc : Int) + o).toNat = q) (hr : pc + 3 = r) (gy : x = y → oW p l e R s m args below meth c F n0 h cells slots (mkF m q Ls (st))) (gn : ¬ x = y → oW p l e R s m args below meth c F n0 h cells slots (mkF m r Ls (st))) : oW p l e R s m args below meth c F n0 h cells slots (mkF m pc Ls (.int y :: .int x :: st)) := by
  subst hr
  by_cases hc : x = y
  · exact oW.of (fun T locs X t k => XS.icmpYes X.here C.1 rfl (pc0 := pc) rfl (hb C.2.1 hd) rfl (teq hc).1 ho hp k) (gy hc)
  · exact oW.of (fun T locs X t k => XS.icmpNo X.here C.1 rfl (hb C.2.1 hd) rfl (feq hc).1 k) (gn hc)
theorem oIf_eq (C : oCx p s m meth c bs ml own nm rt Z) {x : Int32} {o : Int} {r : Nat} (hd : decode bs pc = .ok (.ifCond .eq o, 3)) (ho : 0 ≤ (pc : Int) + o) (hp : ((pc : Int) + o).toNat = q) (hr : pc + 3 = r) (gy : x = 0 → oW p l e R s m args below meth c F n0 h cells slots (mkF m q Ls (st))) (gn : ¬ x = 0 → oW p l e R s m args below meth c F n0 h cells slots (mkF m r Ls (st))) : oW p l e R s m args below meth c F n0 h cells slots (mkF m pc Ls (.int x :: st)) := by
  subst hr
  by_cases hc : x = 0
  · exact oW.of (fun T locs X t k => XS.ifYes X.here C.1 rfl (pc0 := pc) rfl (hb C.2.1 hd) rfl ((if0 _ _).trans (teq hc).1) ho hp k) (gy hc)
  · exact oW.of (fun T locs X t k => XS.ifNo X.here C.1 rfl (hb C.2.1 hd) rfl ((if0 _ _).trans (feq hc).1) k) (gn hc)
theorem oIf_ne (C : oCx p s m meth c bs ml own nm rt Z) {x : Int32} {o : Int} {r : Nat} (hd : decode bs pc = .ok (.ifCond .ne o, 3)) (ho : 0 ≤ (pc : Int) + o) (hp : ((pc : Int) + o).toNat = q) (hr : pc + 3 = r) (gy : ¬ x = 0 → oW p l e R s m args below meth c F n0 h cells slots (mkF m q Ls (st))) (gn : x = 0 → oW p l e R s m args below meth c F n0 h cells slots (mkF m r Ls (st))) : oW p l e R s m args below meth c F n0 h cells slots (mkF m pc Ls (.int x :: st)) := by
  subst hr
  by_cases hc : x = 0
  · exact oW.of (fun T locs X t k => XS.ifNo X.here C.1 rfl (hb C.2.1 hd) rfl ((if0 _ _).trans (teq hc).2) k) (gn hc)
  · exact oW.of (fun T locs X t k => XS.ifYes X.here C.1 rfl (pc0 := pc) rfl (hb C.2.1 hd) rfl ((if0 _ _).trans (feq hc).2) ho hp k) (gy hc)
theorem oLcmp_ne (C : oCx p s m meth c bs ml own nm rt Z) {x y : Int64} {o : Int} {pd r : Nat} (hd0 : decode bs pc = .ok (.lcmp, 1)) (hq0 : pc + 1 = pd) (hd : decode bs pd = .ok (.ifCond .ne o, 3)) (ho : 0 ≤ (pd : Int) + o) (hp : ((pd : Int) + o).toNat = q) (hr : pd + 3 = r) (gy : ¬ x = y → oW p l e R s m args below meth c F n0 h cells slots (mkF m q Ls (st))) (gn : x = y → oW p l e R s m args below meth c F n0 h cells slots (mkF m r Ls (st))) : oW p l e R s m args below meth c F n0 h cells slots (mkF m pc Ls (.long y :: .long x :: st)) := by
  subst hq0
  refine oW.of (fun T locs X t k => XS.lcmp X.here C.1 rfl (hb C.2.1 hd0) rfl k) ?_
  exact oIf_ne C hd ho hp hr (fun w => gy (fun u => w ((lw_eq x y).mpr u))) (fun w => gn ((lw_eq x y).mp w))
theorem oIcmp_lt (C : oCx p s m meth c bs ml own nm rt Z) {x y : Int32} {o : Int} {r : Nat} (hd : decode bs pc = .ok (.if_icmp .lt o, 3)) (ho : 0 ≤ (pc : Int) + o) (hp : ((pc : Int) + o).toNat = q) (hr : pc + 3 = r) (gy : x < y → oW p l e R s m args below meth c F n0 h cells slots (mkF m q Ls (st))) (gn : ¬ x < y → oW p l e R s m args below meth c F n0 h cells slots (mkF m r Ls (st))) : oW p l e R s m args below meth c F n0 h cells slots (mkF m pc Ls (.int y :: .int x :: st)) := by
  subst hr
  by_cases hc : x < y
  · exact oW.of (fun T locs X t k => XS.icmpYes X.here C.1 rfl (pc0 := pc) rfl (hb C.2.1 hd) rfl (tlt hc).1 ho hp k) (gy hc)
  · exact oW.of (fun T locs X t k => XS.icmpNo X.here C.1 rfl (hb C.2.1 hd) rfl (flt hc).1 k) (gn hc)
theorem oIcmp_gt (C : oCx p s m meth c bs ml own nm rt Z) {x y : Int32} {o : Int} {r : Nat} (hd : decode bs pc = .ok (.if_icmp .gt o, 3)) (ho : 0 ≤ (pc : Int) + o) (hp : ((pc : Int) + o).toNat = q) (hr : pc + 3 = r) (gy : y < x → oW p l e R s m args below meth c F n0 h cells slots (mkF m q Ls (st))) (gn : ¬ y < x → oW p l e R s m args below meth c F n0 h cells slots (mkF m r Ls (st))) : oW p l e R s m args below meth c F n0 h cells slots (mkF m pc Ls (.int y :: .int x :: st)) := by
  subst hr
  by_cases hc : y < x
  · exact oW.of (fun T locs X t k => XS.icmpYes X.here C.1 rfl (pc0 := pc) rfl (hb C.2.1 hd) rfl (tlt hc).2.2.1 ho hp k) (gy hc)
  · exact oW.of (fun T locs X t k => XS.icmpNo X.here C.1 rfl (hb C.2.1 hd) rfl (flt hc).2.2.1 k) (gn hc)
theorem oIf_le (C : oCx p s m meth c bs ml own nm rt Z) {x : Int32} {o : Int} {r : Nat} (hd : decode bs pc = .ok (.ifCond .le o, 3)) (ho : 0 ≤ (pc : Int) + o) (hp : ((pc : Int) + o).toNat = q) (hr : pc + 3 = r) (gy : ¬ 0 < x → oW p l e R s m args below meth c F n0 h cells slots (mkF m q Ls (st))) (gn : 0 < x → oW p l e R s m args below meth c F n0 h cells slots (mkF m r Ls (st))) : oW p l e R s m args below meth c F n0 h cells slots (mkF m pc Ls (.int x :: st)) := by
  subst hr
  by_cases hc : 0 < x
  · exact oW.of (fun T locs X t k => XS.ifNo X.here C.1 rfl (hb C.2.1 hd) rfl ((if0 _ _).trans (tlt hc).2.2.2) k) (gn hc)
  · exact oW.of (fun T locs X t k => XS.ifYes X.here C.1 rfl (pc0 := pc) rfl (hb C.2.1 hd) rfl ((if0 _ _).trans (flt hc).2.2.2) ho hp k) (gy hc)
theorem oIfnullN (C : oCx p s m meth c bs ml own nm rt Z) {o : Int} {a : Addr} (hd : decode bs pc = .ok (.ifnull o, 3)) (hq : pc + 3 = q) (g : oW p l e R s m args below meth c F n0 h cells slots (mkF m q Ls (st))) : oW p l e R s m args below meth c F n0 h cells slots (mkF m pc Ls (.ref a :: st)) := by
  subst hq; exact oW.of (fun T locs X t k => XS.ifnullNo X.here C.1 rfl (hb C.2.1 hd) rfl k) g
theorem oLdc (C : oCx p s m meth c bs ml own nm rt Z) {i : Nat} {v : Int32} (w : (Jvm.Cond.constant own i v).before a0 Z = true) (hd : decode bs pc = .ok (.ldc i, 2)) (hq : pc + 2 = q) (g : oW p l e R s m args below meth c F n0 h cells slots (mkF m q Ls (.int v :: st))) : oW p l e R s m args below meth c F n0 h cells slots (mkF m pc Ls st) := by
  subst hq; exact oW.of (fun T locs X t k => X.ldcInt C.1 C.2.2.2.1 (mvT C.2.2.2.2.1 w) (g := mkF m pc Ls st) rfl (hb C.2.1 hd) t k) g
theorem oLdc2 (C : oCx p s m meth c bs ml own nm rt Z) {i : Nat} {v : Int64} (w : (Jvm.Cond.constantLong own i v).before a0 Z = true) (hd : decode bs pc = .ok (.ldc2_w i, 3)) (hq : pc + 3 = q) (g : oW p l e R s m args below meth c F n0 h cells slots (mkF m q Ls (.long v :: st))) : oW p l e R s m args below meth c F n0 h cells slots (mkF m pc Ls st) := by
  subst hq; exact oW.of (fun T locs X t k => X.ldc2Long C.1 C.2.2.2.1 (mvT C.2.2.2.2.1 w) (g := mkF m pc Ls st) rfl (hb C.2.1 hd) t k) g
section Rets
variable {k n : Nat} {Q : Option Value → Heap → Prop} {rt' : FieldType}
theorem oRetN (C : oCx p s m meth c bs ml own nm (some rt') Z) (ht : rt' = .boolean ∨ rt' = .byte ∨ rt' = .char ∨ rt' = .short) {z z' : Int32} (hd : decode bs pc = .ok (.ireturn, 1)) (hz : nar rt' z = z') (hk : cells ≤ k) (hn : slots ≤ n) (hQ : Q (some (.int z')) h) :
    oW p l e R s m args below meth c (oFin s n0 k n Q) n0 h cells slots (mkF m pc Ls (.int z :: st)) := fun T locs X eT N => by
  subst hz eT
  obtain ⟨fs, hr, hrun, hended, hW, hsame⟩ := X.leave (v := some (.int (nar rt' z))) (fun hh => by rw [C.2.2.2.2.2.2.1] at hh; cases hh) C.2.2.2.2.2.2.2
  exact ⟨_, _, retN X C.1 C.2.2.2.2.2.2.1 ht (hb C.2.1 hd) hr, hrun, hended, _, _, rfl, ⟨N, hQ⟩, ⟨_, rfl⟩, hW, hsame.mono hk hn⟩
theorem oRetZ (C : oCx p s m meth c bs ml own nm (some .boolean) Z) {z z' : Int32} (hd : decode bs pc = .ok (.ireturn, 1)) (hz : nar .boolean z = z') (hk : cells ≤ k) (hn : slots ≤ n) (hQ : Q (some (.int z')) h) :
    oW p l e R s m args below meth c (oFin s n0 k n Q) n0 h cells slots (mkF m pc Ls (.int z :: st)) := oRetN C (Or.inl rfl) hd hz hk hn hQ
theorem oRetA (C : oCx p s m meth c bs ml own nm (some rt') Z) (ht : rt'.isReference = true) {v : Value} (hv : v.isRef = true) (hd : decode bs pc = .ok (.areturn, 1)) (hk : cells ≤ k) (hn : slots ≤ n) (hQ : Q (some v) h) :
    oW p l e R s m args below meth c (oFin s n0 k n Q) n0 h cells slots (mkF m pc Ls [v]) := fun T locs X eT N => by
  subst eT
  obtain ⟨fs, hr, hrun, hended, hW, hsame⟩ := X.leave (v := some v) (fun hh => by rw [C.2.2.2.2.2.2.1] at hh; cases hh) C.2.2.2.2.2.2.2
  exact ⟨_, _, X.areturnOut C.1 hv C.2.2.2.2.2.2.1 ht (hb C.2.1 hd) hr, hrun, hended, _, _, rfl, ⟨N, hQ⟩, ⟨_, rfl⟩, hW, hsame.mono hk hn⟩
end Rets
section Calls
variable {i : Nat} {y : MethodName} {bs' : ByteArray} {ml' : Nat} {rt' : Option FieldType} {R' : Room} {Q : Option Value → Heap → Prop} {argsL rest : List Value} {ps : List FieldType} {r' : Option FieldType} {W : Nat} {a : Addr}
theorem oCallS (C : oCx p s m meth c bs ml own nm rt Z) (w1 : (Jvm.Cond.methodLink own i y).before a0 Z = true) (w2 : (Jvm.Cond.static y).before a0 Z = true) (w3 : (Jvm.Cond.initialized y.cls).before a0 Z = true) (w4 : (Jvm.Cond.code y bs' ml' rt').before a0 Z = true) (hd : decode bs pc = .ok (.invokestatic i, 3))
    (hy : y.cls ≠ "java/lang/invoke/MethodHandle" ∧ y.cls ≠ "java/lang/invoke/VarHandle") (hpd : parseMethodDescriptor y.desc = some ⟨ps, r'⟩) (hlen : argsL.length = ps.length) (hsz : Ls.size = ml) (hst : argsL.reverse ++ rest = st) (hW : (rest.map fun v => v.category).sum = W) (hq : pc + 3 = q)
    (hf : R'.frames + 1 ≤ R.frames) (hl : W + (ml' + 11) + R'.locals ≤ R.locals) (hc : cells + R'.cells ≤ R.cells) (hs : slots + R'.slots ≤ R.slots)
    (M : oMet l Z y bs' ml' rt' [] R' R'.cells R'.slots n0 argsL.toArray h Q)
    (g : ∀ v h', Q v h' → oW p l e R s m args below meth c F n0 h' (cells + R'.cells) (slots + R'.slots) (mkF m q Ls (v.toList ++ rest))) :
    oW p l e R s m args below meth c F n0 h cells slots (mkF m pc Ls st) := fun T locs X eT N => by
  subst hq hst
  have hZ := C.2.2.2.2.1
  obtain ⟨v, _, ⟨T', L', k', n'⟩, -, X', ⟨Lc, ⟨hN, hQ⟩, l', y', z'⟩, st'⟩ := Jvm.LawKit.callS X C.1 (y := y) C.2.2.2.1 (mvT hZ w1) (mvT hZ w2) (mvT hZ w3) (mvT hZ w4) hy (backOf (W := W) (Q := fun v h L => Fr n0 L ∧ Q v h) M hZ w4 w3 hf hl) (g := mkF m pc Ls (argsL.reverse ++ rest)) rfl (hsz.trans C.2.2.1.symm) (argsL := argsL) (rest := rest) (lenOf hpd hlen) rfl (by show 2 * 0 + _ ≤ _; omega) (hb C.2.1 hd) (fun _ _ => ⟨rfl, eT, hc, hs⟩)
  dsimp only [Pt.U, Pt.locs, Pt.cells, Pt.slots] at X' l' y' z' st' hQ
  subst l' y' z'
  obtain ⟨s₂, o, h1, h2⟩ := g v T'.heap hQ T' _ X' rfl (Fr.app N hN)
  exact ⟨s₂, o, st' _ h1, h2⟩
def oMetH (l : Launch) (Z : State) (y : MethodName) (bs : ByteArray) (ml : Nat) (rt : Option FieldType) (tr : List (Nat × Nat × Nat × Nat)) (R : Room) (k n n0 : Nat) (as' : Array Value) (h0 : Heap) (Q : Option Value → Heap → Prop) : Prop :=
  MetFree l y (head1 [Jvm.Cond.codeWith y bs ml rt tr] R) (fun a U => a = as' ∧ Z.Warmed39 U.vm ∧ U.heap = h0) (fun _ _ _ _ _ => True) (fun _ U o U' => ∃ v L, o = .returned v ∧ (Fr n0 L ∧ Q v U'.heap) ∧ FrameEnd U o U' L k n)
theorem oMetH.intro {tr : List (Nat × Nat × Nat × Nat)} {k n : Nat} {as' : Array Value} {h0 : Heap} (pn : plainFor y = true) (ef : ∀ m, entryFrame m as' ml = mkF m 0 Ls [])
    (body : ∀ (p : Program) (e : Env) (s : State) (m : MethodId) (below : List Frame) (meth : Method) (c : Code), oCx p s m meth c bs ml y.cls y.name rt Z → oW p l e R s m as' below meth c (oFin s n0 k n Q) n0 h0 0 0 (mkF m 0 Ls [])) :
    oMetH l Z y bs ml rt tr R k n n0 as' h0 Q := by
  refine MetFree.of_bodySF pn hisWith ?_
  intro p e s m args below meth c s₁ Bd hml0 hP hK
  obtain ⟨rfl, hZ, hh⟩ := hP
  have e0 : s₁.heap = h0 := by rw [← hh, Bd.state]; rfl
  have C : oCx p s m meth c bs ml y.cls y.name rt Z := ⟨Bd.exec, Bd.bytes, hml0, findClass_of_methodNamed Bd.named, hZ, (name_of_methodNamed Bd.named Bd.method).1, Bd.returns, Bd.notSynchronized⟩
  obtain ⟨s₂, o, h1, h2, h3, h4⟩ := body p e s m below meth c C s₁ [] (Stand.of_body Bd) e0 (Fr.nil n0)
  exact ⟨s₂, o, castTop (ef m) h1, h2, h3, h4⟩
theorem oPureK {w : Value} {hc : Heap} (g : oW p l e R s m args below meth c F n0 hc cells slots (mkF m q Ls (w :: rest))) : ∀ (v : Option Value) (h' : Heap), (v = some w ∧ h' = hc) → oW p l e R s m args below meth c F n0 h' cells slots (mkF m q Ls (v.toList ++ rest)) := by
  rintro _ _ ⟨rfl, rfl⟩; exact g
end Calls
theorem oCastI {z z' : Int32} (hz : z = z') (g : oW p l e R s m args below meth c F n0 h cells slots (mkF m pc Ls (.int z' :: st))) : oW p l e R s m args below meth c F n0 h cells slots (mkF m pc Ls (.int z :: st)) := hz ▸ g
theorem oCastL {z z' : Int64} (hz : z = z') (g : oW p l e R s m args below meth c F n0 h cells slots (mkF m pc Ls (.long z' :: st))) : oW p l e R s m args below meth c F n0 h cells slots (mkF m pc Ls (.long z :: st)) := hz ▸ g
def oAr (Z : State) (h : Heap) (a : Addr) (ty : FieldType) (vs : List Value) : Prop := ∃ c : Cell, Arr Z h a c ty ∧ c.slots.toList = vs
section Arrays
variable {a b : Addr} {ty : FieldType} {vs : List Value} {v : Value} {sl : Nat}
theorem oAr.lt (A : oAr Z h a ty vs) : a < h.size := by obtain ⟨c, A, -⟩ := A; exact A.lt
theorem oAr.ext (A : oAr Z h a ty vs) (E : Ext h h') : oAr Z h' a ty vs := by obtain ⟨c, A, r⟩ := A; exact ⟨c, A.ext E, r⟩
theorem oAr.same (A : oAr Z h a ty vs) (W : Wr h h' a sl v) : oAr Z h' a ty (vs.set sl v) := by
  obtain ⟨c, A, r⟩ := A
  exact ⟨_, A.same W, by subst r; simp [Cell.setSlot]⟩
theorem oInb {cl : Cell} {j : Int32} {k : Nat} (r : cl.slots.toList = vs) (hj : ¬ j < 0) (hk : j.toNatClampNeg = k) (hv : vs[k]? = some v) : ¬ (j < 0 ∨ cl.slots.size ≤ j.toNatClampNeg) ∧ cl.slots[j.toNatClampNeg]? = some v := by
  subst hk r
  have hlt : j.toNatClampNeg < cl.slots.toList.length := (List.getElem?_eq_some_iff.mp hv).1
  refine ⟨fun q => q.elim hj fun u => ?_, by rw [← hv]; simp⟩
  simp at hlt; omega
end Arrays
def oKe (h0 h : Heap) (ws : List Addr) (fs : List (Addr × Nat)) : Prop := h0.size ≤ h.size ∧ ∀ (x : Addr) (c : Cell), h0[x]? = some c → ∃ c' : Cell, h[x]? = some c' ∧ c'.cls = c.cls ∧ c'.vm = c.vm ∧ c'.slots.size = c.slots.size ∧ (x ∉ ws → ∀ j, (x, j) ∉ fs → c'.slots[j]? = c.slots[j]?)
section Ke
variable {h0 : Heap} {ws ws' : List Addr} {fs fs' : List (Addr × Nat)} {a b : Addr} {sl : Nat} {v : Value} {ty : FieldType} {vs : List Value} {K O n d : String}
theorem oKe.refl (h : Heap) (ws : List Addr) (fs : List (Addr × Nat)) : oKe h h ws fs := ⟨Nat.le_refl _, fun x c q => ⟨c, q, rfl, rfl, rfl, fun _ _ _ => rfl⟩⟩
theorem oKe.trans (A : oKe h0 h ws fs) (B : oKe h h' ws' fs') (q1 : ∀ x ∈ ws', x ∈ ws ∨ h0.size ≤ x) (q2 : ∀ x ∈ fs', x ∈ fs ∨ h0.size ≤ x.1) : oKe h0 h' ws fs := by
  refine ⟨Nat.le_trans A.1 B.1, fun x c hx => ?_⟩
  obtain ⟨c1, e1, e2, e3, e4, e5⟩ := A.2 x c hx
  obtain ⟨c2, g1, g2, g3, g4, g5⟩ := B.2 x c1 e1
  have lt := (Array.getElem?_eq_some_iff.mp hx).1
  refine ⟨c2, g1, g2.trans e2, g3.trans e3, g4.trans e4, fun hn j hj => ?_⟩
  rw [g5 (fun z => (q1 x z).elim hn (fun y => absurd lt (Nat.not_lt.mpr y))) j (fun z => (q2 _ z).elim hj (fun y => absurd lt (Nat.not_lt.mpr y)))]
  exact e5 hn j hj
theorem oKe.of_ext (E : Ext h h') : oKe h h' [] [] := ⟨E.1, fun x c q => ⟨c, E.2 x c q, rfl, rfl, rfl, fun _ _ _ => rfl⟩⟩
theorem oKe.ext (A : oKe h0 h ws fs) (E : Ext h h') : oKe h0 h' ws fs := A.trans (oKe.of_ext E) (fun _ q => nomatch q) (fun _ q => nomatch q)
end Ke
theorem oNewA (C : oCx p s m meth c bs ml own nm rt Z) {aty : ArrayType} {ty : FieldType} {z : Int32} {k : Nat} (w : (Jvm.Cond.arrayClass ty).before a0 Z = true) (hty : newarray.typeOf aty = ty) (hd : decode bs pc = .ok (.newarray aty, 2)) (hq : pc + 2 = q) (hz : ¬ z < 0) (hk : z.toNatClampNeg = k) (hb' : k * 8 ≤ 536870912) (hc : cells + 1 ≤ R.cells) {cap : Nat} (hcap : k ≤ cap) (hcb : cap * 8 ≤ 536870912) (hs : slots + cap ≤ R.slots)
    (g : ∀ (a : Addr) (h' : Heap), a = h.size → Ext h h' → oAr Z h' a ty (List.replicate k (defaultValue ty)) → oW p l e R s m args below meth c F n0 h' (cells + 1) (slots + cap) (mkF m q Ls (.ref a :: st))) :
    oW p l e R s m args below meth c F n0 h cells slots (mkF m pc Ls (.int z :: st)) := fun T locs X eT N => by
  subst hq hty hk
  obtain ⟨T', h', cA, X', e', E', A', st'⟩ := newP X C.1 C.2.2.2.2.1 w eT (g := mkF m pc Ls (.int z :: st)) rfl (hb C.2.1 hd) rfl hz (cap := cap) hcap hcb hc hs
  obtain ⟨s₂, o, h1, h2⟩ := g _ h' rfl E' ⟨_, A', by simp [newA]⟩ T' _ X' e' N
  exact ⟨s₂, o, st' _ h1, h2⟩
theorem oLen (C : oCx p s m meth c bs ml own nm rt Z) {a : Addr} {ty : FieldType} {vs : List Value} {z : Int32} (A : oAr Z h a ty vs) (hz : vs.length.toInt32 = z) (hd : decode bs pc = .ok (.arraylength, 1)) (hq : pc + 1 = q) (g : oW p l e R s m args below meth c F n0 h cells slots (mkF m q Ls (.int z :: st))) :
    oW p l e R s m args below meth c F n0 h cells slots (mkF m pc Ls (.ref a :: st)) := fun T locs X eT N => by
  subst hq hz
  obtain ⟨cl, A, r⟩ := A
  obtain ⟨s₂, o, h1, h2⟩ := g T locs X eT N
  exact ⟨s₂, o, X.arraylength C.1 (by rw [eT]; exact A.1) (State.isArrayOf_alike C.2.2.2.2.1.alike A.2.1) (g := mkF m pc Ls (.ref a :: st)) rfl rfl (hb C.2.1 hd) _ (by subst r; simpa using h1), h2⟩
theorem oBaload (C : oCx p s m meth c bs ml own nm rt Z) {a : Addr} {vs : List Value} {j : Int32} {k : Nat} {v : Value} (A : oAr Z h a .byte vs) (hj : ¬ j < 0) (hk : j.toNatClampNeg = k) (hv : vs[k]? = some v) (hd : decode bs pc = .ok (.baload, 1)) (hq : pc + 1 = q) (g : oW p l e R s m args below meth c F n0 h cells slots (mkF m q Ls (v :: st))) :
    oW p l e R s m args below meth c F n0 h cells slots (mkF m pc Ls (.int j :: .ref a :: st)) := fun T locs X eT N => by
  subst hq
  obtain ⟨cl, A, r⟩ := A
  obtain ⟨i1, i2⟩ := oInb r hj hk hv
  obtain ⟨s₂, o, h1, h2⟩ := g T locs X eT N
  exact ⟨s₂, o, X.baloadBytes C.1 (j := j) (v := v) (by rw [eT]; exact A.1) (State.isArrayOf_alike C.2.2.2.2.1.alike A.2.1) A.2.2 i1 i2 (g := mkF m pc Ls (.int j :: .ref a :: st)) rfl rfl (hb C.2.1 hd) _ h1, h2⟩
theorem oBastore (C : oCx p s m meth c bs ml own nm rt Z) {a : Addr} {vs : List Value} {j : Int32} {k : Nat} {v v' : Value} {x : Int32} (A : oAr Z h a .byte vs) (hj : ¬ j < 0) (hk : j.toNatClampNeg = k) (hv : vs[k]? = some v) (hx : (.int (nar .byte x) : Value) = v') (hd : decode bs pc = .ok (.bastore, 1)) (hq : pc + 1 = q) (ha : n0 ≤ a)
    (g : ∀ h', Wr h h' a k v' → oAr Z h' a .byte (vs.set k v') → oW p l e R s m args below meth c F n0 h' cells slots (mkF m q Ls (st))) :
    oW p l e R s m args below meth c F n0 h cells slots (mkF m pc Ls (.int x :: .int j :: .ref a :: st)) := fun T locs X eT N => by
  subst hq hx
  obtain ⟨cl, A, r⟩ := A
  obtain ⟨i1, -⟩ := oInb r hj hk hv
  obtain ⟨T', h', X', e', W', st'⟩ := stB X C.1 C.2.2.2.2.1 eT A (j := j) i1 (g := mkF m pc Ls (.int x :: .int j :: .ref a :: st)) rfl rfl (hb C.2.1 hd)
  have W2 : Wr h h' a k (.int (nar .byte x)) := hk ▸ W'
  obtain ⟨s₂, o, h1, h2⟩ := g h' W2 (oAr.same ⟨cl, A, r⟩ W2) T' _ X' e' (Fr.snoc X' N ha)
  exact ⟨s₂, o, st' _ h1, h2⟩
end Own
section Own2
variable {p : Program} {l : Launch} {e : Env} {R : Room} {s : State} {m : MethodId} {args : Array Value} {below : List Frame} {meth : Method} {c : Code} {bs : ByteArray} {ml : Nat} {own nm : String} {rt : Option FieldType} {Z : State} {F : State → Outcome → Prop} {n0 : Nat} {h h' : Heap} {cells slots : Nat} {pc q : Nat} {Ls Ls' : Array Slot} {st : List Value} {a0 : Array Value}
section ArraysO
variable {a b : Addr} {K : String} {vs : List Value} {v : Value} {sl : Nat}
end ArraysO
section Stas
variable {K n d : String} {v w : Value} {a : Addr} {sl : Nat}
end Stas
end Own2
abbrev oHw (a0 : Array Value) (Z : State) : Prop := ∀ d ∈ tables_1, d.before a0 Z = true
theorem w0 {a0 : Array Value} {Z : State} (hw : oHw a0 Z) : (Jvm.Cond.constant "com/example/tideline/tideline/compare/LoadedKeysKeyPinLaw" (7 : Nat) (2147483647 : Int32)).before a0 Z = true := hw _ (List.mem_of_getElem? (i := 0) rfl)
theorem w1 {a0 : Array Value} {Z : State} (hw : oHw a0 Z) : (Jvm.Cond.methodLink "com/example/tideline/tideline/compare/LoadedKeysKeyPinLaw" (8 : Nat) ({ cls := "com/example/tideline/tideline/compare/LoadedKeys", name := "key", desc := "(I)[B" } : Jvm.MethodName)).before a0 Z = true := hw _ (List.mem_of_getElem? (i := 1) rfl)
theorem w2 {a0 : Array Value} {Z : State} (hw : oHw a0 Z) : (Jvm.Cond.static ({ cls := "com/example/tideline/tideline/compare/LoadedKeys", name := "key", desc := "(I)[B" } : Jvm.MethodName)).before a0 Z = true := hw _ (List.mem_of_getElem? (i := 2) rfl)
theorem w3 {a0 : Array Value} {Z : State} (hw : oHw a0 Z) : (Jvm.Cond.initialized "com/example/tideline/tideline/compare/LoadedKeys").before a0 Z = true := hw _ (List.mem_of_getElem? (i := 3) rfl)
theorem w4 {a0 : Array Value} {Z : State} (hw : oHw a0 Z) : (Jvm.Cond.code ({ cls := "com/example/tideline/tideline/compare/LoadedKeys", name := "key", desc := "(I)[B" } : Jvm.MethodName) prog_114_method_4_code (4 : Nat) (Option.some (Jvm.ClassFile.FieldType.array Jvm.ClassFile.FieldType.byte))).before a0 Z = true := hw _ (List.mem_of_getElem? (i := 4) rfl)
theorem w5 {a0 : Array Value} {Z : State} (hw : oHw a0 Z) : (Jvm.Cond.arrayClass Jvm.ClassFile.FieldType.byte).before a0 Z = true := hw _ (List.mem_of_getElem? (i := 5) rfl)
theorem w6 {a0 : Array Value} {Z : State} (hw : oHw a0 Z) : (Jvm.Cond.methodLink "com/example/tideline/tideline/compare/LoadedKeysKeyPinLaw" (14 : Nat) ({ cls := "com/example/tideline/tideline/compare/LoadedKeysKeyPinLaw", name := "isDigit", desc := "(B)Z" } : Jvm.MethodName)).before a0 Z = true := hw _ (List.mem_of_getElem? (i := 6) rfl)
theorem w7 {a0 : Array Value} {Z : State} (hw : oHw a0 Z) : (Jvm.Cond.static ({ cls := "com/example/tideline/tideline/compare/LoadedKeysKeyPinLaw", name := "isDigit", desc := "(B)Z" } : Jvm.MethodName)).before a0 Z = true := hw _ (List.mem_of_getElem? (i := 7) rfl)
theorem w8 {a0 : Array Value} {Z : State} (hw : oHw a0 Z) : (Jvm.Cond.initialized "com/example/tideline/tideline/compare/LoadedKeysKeyPinLaw").before a0 Z = true := hw _ (List.mem_of_getElem? (i := 8) rfl)
theorem w9 {a0 : Array Value} {Z : State} (hw : oHw a0 Z) : (Jvm.Cond.code ({ cls := "com/example/tideline/tideline/compare/LoadedKeysKeyPinLaw", name := "isDigit", desc := "(B)Z" } : Jvm.MethodName) method_2_code (1 : Nat) (Option.some Jvm.ClassFile.FieldType.boolean)).before a0 Z = true := hw _ (List.mem_of_getElem? (i := 9) rfl)
theorem w10 {a0 : Array Value} {Z : State} (hw : oHw a0 Z) : (Jvm.Cond.constantLong "com/example/tideline/tideline/compare/LoadedKeysKeyPinLaw" (20 : Nat) (10 : Int64)).before a0 Z = true := hw _ (List.mem_of_getElem? (i := 10) rfl)
theorem ef_2 (m : MethodId) (x0 : Int32) : entryFrame m #[.int x0] 1 = mkF m 0 #[.val (.int x0)] [] := by first | (simp [entryFrame, mkF, argsToLocals, Value.category]; done) | rfl
theorem pn_354589 : plainName "com/example/tideline/tideline/compare/LoadedKeysKeyPinLaw" = true := by first | (simp [plainName, overriddenIn]; done) | decide +kernel
def fDig (b1 : Int32) : Int32 := (if b1 < (48 : Int32) then (0 : Int32) else (if (57 : Int32) < b1 then (0 : Int32) else (1 : Int32)))
theorem fDig_def (b1 : Int32) : fDig b1 = (if b1 < (48 : Int32) then (0 : Int32) else (if (57 : Int32) < b1 then (0 : Int32) else (1 : Int32))) := rfl
theorem d2_0 : decode method_2_code 0 = .ok (.iload_n 0, 1) := by decide +kernel
theorem d2_1 : decode method_2_code 1 = .ok (.bipush 48, 2) := by decide +kernel
theorem d2_3 : decode method_2_code 3 = .ok (.if_icmp .lt 13, 3) := by decide +kernel
theorem d2_6 : decode method_2_code 6 = .ok (.iload_n 0, 1) := by decide +kernel
theorem d2_7 : decode method_2_code 7 = .ok (.bipush 57, 2) := by decide +kernel
theorem d2_9 : decode method_2_code 9 = .ok (.if_icmp .gt 7, 3) := by decide +kernel
theorem d2_12 : decode method_2_code 12 = .ok (.iconst 1, 1) := by decide +kernel
theorem d2_13 : decode method_2_code 13 = .ok (.goto 4, 3) := by decide +kernel
theorem d2_16 : decode method_2_code 16 = .ok (.iconst 0, 1) := by decide +kernel
theorem d2_17 : decode method_2_code 17 = .ok (.ireturn, 1) := by decide +kernel
set_option maxRecDepth 65536 in
set_option maxHeartbeats 40000000 in
theorem mt_fDig (l : Launch) (Z : State) (a0 : Array Value) (hw : oHw a0 Z) (h0 : Heap) (n0 : Nat) (Z0 : n0 ≤ h0.size) (b1 : Int32)  :
    oMet l Z (⟨"com/example/tideline/tideline/compare/LoadedKeysKeyPinLaw", "isDigit", "(B)Z"⟩ : MethodName) method_2_code 1 (some .boolean) [] ({ frames := 0, cells := 0, slots := 0, locals := 0 } : Room) 0 0 n0 #[.int b1] h0 (fun v h => v = some (.int (fDig b1)) ∧ h = h0) := by
  refine oMet.intro (plainFor_of_name pn_354589) (fun m => ef_2 m b1) ?_
  intro op oe os m obl omt ocd C
  refine oIloadN C d2_0 rfl rfl ?_
  refine oBipush C d2_1 (z := 48) rfl rfl ?_
  refine oIcmp_lt C d2_3 (q := 16) (by decide) (by decide) (r := 6) rfl (fun hc3 => ?_) (fun hc3 => ?_)
  ·
   refine oIconst C d2_16 (z := 0) rfl rfl ?_
   refine oRetZ C d2_17 (z' := (0 : Int32)) rfl (by decide) (by decide) ?_
   exact ⟨by rw [fDig_def, if_pos hc3], rfl⟩
  ·
   refine oIloadN C d2_6 rfl rfl ?_
   refine oBipush C d2_7 (z := 57) rfl rfl ?_
   refine oIcmp_gt C d2_9 (q := 16) (by decide) (by decide) (r := 12) rfl (fun hc9 => ?_) (fun hc9 => ?_)
   ·
    refine oIconst C d2_16 (z := 0) rfl rfl ?_
    refine oRetZ C d2_17 (z' := (0 : Int32)) rfl (by decide) (by decide) ?_
    exact ⟨by rw [fDig_def, if_neg hc3, if_pos hc9], rfl⟩
   ·
    refine oIconst C d2_12 (z := 1) rfl rfl ?_
    refine oGoto C d2_13 (q := 17) (by decide) (by decide) ?_
    refine oRetZ C d2_17 (z' := (1 : Int32)) rfl (by decide) (by decide) ?_
    exact ⟨by rw [fDig_def, if_neg hc3, if_neg hc9], rfl⟩
def oq : Nat → Int32 → Int32
  | 0, i => i
  | k + 1, i => oq k i / 10
def dg (k : Nat) (i : Int32) : Int32 := (48 : Int32) + (oq k i) % (10 : Int32)
theorem own_q0 {i : Int32} (h : 0 ≤ i.toInt) : ∀ k, 0 ≤ (oq k i).toInt
  | 0 => h
  | k + 1 => by
    have ih := own_q0 h k
    show 0 ≤ (oq k i / 10).toInt
    rw [Int32.toInt_div_of_ne_right _ _ (by decide), show (10 : Int32).toInt = 10 from rfl, Int.tdiv_eq_ediv_of_nonneg ih]; omega
theorem own_qs {i : Int32} (h : 0 ≤ i.toInt) (k : Nat) : (oq (k + 1) i).toInt = (oq k i).toInt / 10 := by
  show (oq k i / 10).toInt = _
  rw [Int32.toInt_div_of_ne_right _ _ (by decide), show (10 : Int32).toInt = 10 from rfl, Int.tdiv_eq_ediv_of_nonneg (own_q0 h k)]
theorem own_dg {i : Int32} (h : 0 ≤ i.toInt) (k : Nat) : (dg k i).toInt = 48 + (oq k i).toInt % 10 := by
  have e1 : (oq k i % 10).toInt = (oq k i).toInt % 10 := by rw [Int32.toInt_mod, show (10 : Int32).toInt = 10 from rfl, Int.tmod_eq_emod_of_nonneg (own_q0 h k)]
  have e2 := c_iadd 48 (oq k i % 10)
  have e3 := rng32 (48 + oq k i % 10)
  rw [show (48 : Int32).toInt = 48 from rfl] at e2
  show (48 + oq k i % 10).toInt = _
  omega
theorem own_nar {i : Int32} (h : 0 ≤ i.toInt) (k : Nat) : nar .byte (((48 : Int32) + ((oq k i) % (10 : Int32))).toInt8.toInt32) = dg k i := by
  have e1 := own_dg h k
  show (((48 : Int32) + ((oq k i) % (10 : Int32))).toInt8.toInt32).toInt8.toInt32 = dg k i
  have e2 := c_i2b (dg k i)
  have e3 := c_i2b ((dg k i).toInt8.toInt32)
  rw [← Int32.toInt_inj]
  show ((dg k i).toInt8.toInt32).toInt8.toInt32.toInt = _
  omega
theorem own_isd {i : Int32} (h : 0 ≤ i.toInt) (k : Nat) : fDig (dg k i) = 1 := by
  have e1 := own_dg h k
  rw [fDig_def, if_neg (by rw [Int32.lt_iff_toInt_lt, show (48 : Int32).toInt = 48 from rfl]; omega), if_neg (by rw [Int32.lt_iff_toInt_lt, show (57 : Int32).toInt = 57 from rfl]; omega)]
theorem own_step {i : Int32} (h : 0 ≤ i.toInt) (k : Nat) {v w : Int64} (hv : v.toInt = (oq (k + 1) i).toInt) (hw : w = v * (10 : Int64) + ((dg k i - (48 : Int32)).toInt64)) : w.toInt = (oq k i).toInt := by
  have e1 := own_dg h k
  have e2 := own_qs h k
  have e3 := own_q0 h k
  have e4 := c_isub (dg k i) 48
  have e5 := rng32 (dg k i - 48)
  rw [show (48 : Int32).toInt = 48 from rfl] at e4
  have e6 := c_i2l (dg k i - 48)
  have e7 := c_lmul v 10
  have e8 := rng64 (v * 10)
  rw [show (10 : Int64).toInt = 10 from rfl] at e7
  have e9 := c_ladd (v * 10) ((dg k i - 48).toInt64)
  have e10 := rng64 (v * 10 + (dg k i - 48).toInt64)
  have e11 := rng32 (oq k i)
  rw [hw]; omega
theorem own_top {i : Int32} (h : 0 ≤ i.toInt) : (0 : Int64).toInt = (oq 10 i).toInt := by
  have e := rng32 i
  have e0 : (oq 0 i).toInt = i.toInt := rfl
  have := own_qs h 0; have := own_qs h 1; have := own_qs h 2; have := own_qs h 3; have := own_qs h 4; have := own_qs h 5; have := own_qs h 6; have := own_qs h 7; have := own_qs h 8; have := own_qs h 9
  rw [show (0 : Int64).toInt = 0 from rfl]
  simp only [Nat.zero_add, Nat.reduceAdd] at *
  omega
theorem own_ge (x : Int32) : 0 ≤ (x &&& (2147483647 : Int32)).toInt := by
  rw [c_mask x 2147483647 31 (by decide) (by decide)]; omega
theorem ef_1 (m : MethodId) (x0 : Int32) : entryFrame m #[.int x0] 4 = mkF m 0 #[.val (.int x0), .unset, .unset, .unset] [] := by first | (simp [entryFrame, mkF, argsToLocals, Value.category]; done) | rfl
theorem pn_623976 : plainName "com/example/tideline/tideline/compare/LoadedKeys" = true := by first | (simp [plainName, overriddenIn]; done) | decide +kernel
theorem d1_0 : decode prog_114_method_4_code 0 = .ok (.bipush 11, 2) := by decide +kernel
theorem d1_2 : decode prog_114_method_4_code 2 = .ok (.newarray .byte, 2) := by decide +kernel
theorem d1_4 : decode prog_114_method_4_code 4 = .ok (.astore_n 1, 1) := by decide +kernel
theorem d1_5 : decode prog_114_method_4_code 5 = .ok (.aload_n 1, 1) := by decide +kernel
theorem d1_6 : decode prog_114_method_4_code 6 = .ok (.iconst 0, 1) := by decide +kernel
theorem d1_7 : decode prog_114_method_4_code 7 = .ok (.bipush 107, 2) := by decide +kernel
theorem d1_9 : decode prog_114_method_4_code 9 = .ok (.bastore, 1) := by decide +kernel
theorem d1_10 : decode prog_114_method_4_code 10 = .ok (.iload_n 0, 1) := by decide +kernel
theorem d1_11 : decode prog_114_method_4_code 11 = .ok (.istore_n 2, 1) := by decide +kernel
theorem d1_12 : decode prog_114_method_4_code 12 = .ok (.bipush 10, 2) := by decide +kernel
theorem d1_14 : decode prog_114_method_4_code 14 = .ok (.istore_n 3, 1) := by decide +kernel
theorem d1_15 : decode prog_114_method_4_code 15 = .ok (.iload_n 3, 1) := by decide +kernel
theorem d1_16 : decode prog_114_method_4_code 16 = .ok (.ifCond .le 25, 3) := by decide +kernel
theorem d1_19 : decode prog_114_method_4_code 19 = .ok (.aload_n 1, 1) := by decide +kernel
theorem d1_20 : decode prog_114_method_4_code 20 = .ok (.iload_n 3, 1) := by decide +kernel
theorem d1_21 : decode prog_114_method_4_code 21 = .ok (.bipush 48, 2) := by decide +kernel
theorem d1_23 : decode prog_114_method_4_code 23 = .ok (.iload_n 2, 1) := by decide +kernel
theorem d1_24 : decode prog_114_method_4_code 24 = .ok (.bipush 10, 2) := by decide +kernel
theorem d1_26 : decode prog_114_method_4_code 26 = .ok (.irem, 1) := by decide +kernel
theorem d1_27 : decode prog_114_method_4_code 27 = .ok (.iadd, 1) := by decide +kernel
theorem d1_28 : decode prog_114_method_4_code 28 = .ok (.i2b, 1) := by decide +kernel
theorem d1_29 : decode prog_114_method_4_code 29 = .ok (.bastore, 1) := by decide +kernel
theorem d1_30 : decode prog_114_method_4_code 30 = .ok (.iload_n 2, 1) := by decide +kernel
theorem d1_31 : decode prog_114_method_4_code 31 = .ok (.bipush 10, 2) := by decide +kernel
theorem d1_33 : decode prog_114_method_4_code 33 = .ok (.idiv, 1) := by decide +kernel
theorem d1_34 : decode prog_114_method_4_code 34 = .ok (.istore_n 2, 1) := by decide +kernel
theorem d1_35 : decode prog_114_method_4_code 35 = .ok (.iinc 3 (-1), 3) := by decide +kernel
theorem d1_38 : decode prog_114_method_4_code 38 = .ok (.goto (-23), 3) := by decide +kernel
theorem d1_41 : decode prog_114_method_4_code 41 = .ok (.aload_n 1, 1) := by decide +kernel
theorem d1_42 : decode prog_114_method_4_code 42 = .ok (.areturn, 1) := by decide +kernel
set_option maxRecDepth 65536 in
set_option maxHeartbeats 40000000 in
theorem mt_key (l : Launch) (Z : State) (a0 : Array Value) (hw : oHw a0 Z) (h0 : Heap) (n0 : Nat) (Z0 : n0 ≤ h0.size) (ii : Int32) (hi : 0 ≤ ii.toInt) :
    oMet l Z (⟨"com/example/tideline/tideline/compare/LoadedKeys", "key", "(I)[B"⟩ : MethodName) prog_114_method_4_code 4 (some (.array .byte)) [] ({ frames := 0, cells := 1, slots := 11, locals := 0 } : Room) 1 11 n0 #[.int ii] h0 (fun v h => ∃ b, v = some (.ref b) ∧ Keep h0 h [] ∧ oAr Z h b .byte [.int (107 : Int32), .int (dg 9 ii), .int (dg 8 ii), .int (dg 7 ii), .int (dg 6 ii), .int (dg 5 ii), .int (dg 4 ii), .int (dg 3 ii), .int (dg 2 ii), .int (dg 1 ii), .int (dg 0 ii)]) := by
  refine oMet.intro (plainFor_of_name pn_623976) (fun m => ef_1 m ii) ?_
  intro op oe os m obl omt ocd C
  refine oBipush C d1_0 (z := 11) rfl rfl ?_
  refine oNewA C (w5 hw) rfl d1_2 rfl (by decide) (k := 11) rfl (by decide) (by decide) (cap := 11) (Nat.le_refl _) (by decide) (by decide) fun a1 h1 g_a1 E1 A1 => ?_
  have ge_a1 : n0 ≤ a1 := g_a1 ▸ Z0
  have A1l : oAr Z h1 a1 .byte [.int 0, .int 0, .int 0, .int 0, .int 0, .int 0, .int 0, .int 0, .int 0, .int 0, .int 0] := A1
  refine oAstoreN C d1_4 rfl (Ls' := #[.val (.int ii), .val (.ref a1), .unset, .unset]) rfl (q := 5) rfl ?_
  refine oAloadN C d1_5 rfl rfl rfl ?_
  refine oIconst C d1_6 (z := 0) rfl rfl ?_
  refine oBipush C d1_7 (z := 107) rfl rfl ?_
  refine oBastore C A1l (by decide) (k := 0) rfl (v := .int 0) rfl (v' := .int 107) rfl d1_9 rfl ge_a1 fun h2 W2 A2 => ?_
  have A2l : oAr Z h2 a1 .byte [.int 107, .int 0, .int 0, .int 0, .int 0, .int 0, .int 0, .int 0, .int 0, .int 0, .int 0] := A2
  refine oIloadN C d1_10 rfl rfl ?_
  refine oCastI (z' := (oq 0 ii)) rfl ?_
  refine oIstoreN C d1_11 (Ls' := #[.val (.int ii), .val (.ref a1), .val (.int (oq 0 ii)), .unset]) rfl (q := 12) rfl ?_
  refine oBipush C d1_12 (z := 10) rfl rfl ?_
  refine oIstoreN C d1_14 (Ls' := #[.val (.int ii), .val (.ref a1), .val (.int (oq 0 ii)), .val (.int 10)]) rfl (q := 15) rfl ?_
  refine oIloadN C d1_15 rfl rfl ?_
  refine oIf_le C d1_16 (q := 41) (by decide) (by decide) (r := 19) rfl (fun hq => absurd hq ((by decide))) (fun hc16 => ?_)
  refine oAloadN C d1_19 rfl rfl rfl ?_
  refine oIloadN C d1_20 rfl rfl ?_
  refine oBipush C d1_21 (z := 48) rfl rfl ?_
  refine oIloadN C d1_23 rfl rfl ?_
  refine oBipush C d1_24 (z := 10) rfl rfl ?_
  refine oIrem C d1_26 (by decide) rfl ?_
  refine oIadd C d1_27 rfl ?_
  refine oI2B C d1_28 rfl ?_
  refine oBastore C A2l (by decide) (k := 10) rfl (v := .int 0) rfl (v' := .int (dg 0 ii)) (congrArg Value.int (own_nar hi 0)) d1_29 rfl ge_a1 fun h3 W3 A3 => ?_
  have A3l : oAr Z h3 a1 .byte [.int 107, .int 0, .int 0, .int 0, .int 0, .int 0, .int 0, .int 0, .int 0, .int 0, .int (dg 0 ii)] := A3
  refine oIloadN C d1_30 rfl rfl ?_
  refine oBipush C d1_31 (z := 10) rfl rfl ?_
  refine oIdiv C d1_33 (by decide) rfl ?_
  refine oCastI (z' := (oq 1 ii)) rfl ?_
  refine oIstoreN C d1_34 (Ls' := #[.val (.int ii), .val (.ref a1), .val (.int (oq 1 ii)), .val (.int 10)]) rfl (q := 35) rfl ?_
  refine oIinc C d1_35 rfl (z := (-1)) rfl (w := (9 : Int32)) (by decide) (Ls' := #[.val (.int ii), .val (.ref a1), .val (.int (oq 1 ii)), .val (.int 9)]) rfl rfl ?_
  refine oGoto C d1_38 (q := 15) (by decide) (by decide) ?_
  refine oIloadN C d1_15 rfl rfl ?_
  refine oIf_le C d1_16 (q := 41) (by decide) (by decide) (r := 19) rfl (fun hq => absurd hq ((by decide))) (fun hc16_1 => ?_)
  refine oAloadN C d1_19 rfl rfl rfl ?_
  refine oIloadN C d1_20 rfl rfl ?_
  refine oBipush C d1_21 (z := 48) rfl rfl ?_
  refine oIloadN C d1_23 rfl rfl ?_
  refine oBipush C d1_24 (z := 10) rfl rfl ?_
  refine oIrem C d1_26 (by decide) rfl ?_
  refine oIadd C d1_27 rfl ?_
  refine oI2B C d1_28 rfl ?_
  refine oBastore C A3l (by decide) (k := 9) rfl (v := .int 0) rfl (v' := .int (dg 1 ii)) (congrArg Value.int (own_nar hi 1)) d1_29 rfl ge_a1 fun h4 W4 A4 => ?_
  have A4l : oAr Z h4 a1 .byte [.int 107, .int 0, .int 0, .int 0, .int 0, .int 0, .int 0, .int 0, .int 0, .int (dg 1 ii), .int (dg 0 ii)] := A4
  refine oIloadN C d1_30 rfl rfl ?_
  refine oBipush C d1_31 (z := 10) rfl rfl ?_
  refine oIdiv C d1_33 (by decide) rfl ?_
  refine oCastI (z' := (oq 2 ii)) rfl ?_
  refine oIstoreN C d1_34 (Ls' := #[.val (.int ii), .val (.ref a1), .val (.int (oq 2 ii)), .val (.int 9)]) rfl (q := 35) rfl ?_
  refine oIinc C d1_35 rfl (z := (-1)) rfl (w := (8 : Int32)) (by decide) (Ls' := #[.val (.int ii), .val (.ref a1), .val (.int (oq 2 ii)), .val (.int 8)]) rfl rfl ?_
  refine oGoto C d1_38 (q := 15) (by decide) (by decide) ?_
  refine oIloadN C d1_15 rfl rfl ?_
  refine oIf_le C d1_16 (q := 41) (by decide) (by decide) (r := 19) rfl (fun hq => absurd hq ((by decide))) (fun hc16_2 => ?_)
  refine oAloadN C d1_19 rfl rfl rfl ?_
  refine oIloadN C d1_20 rfl rfl ?_
  refine oBipush C d1_21 (z := 48) rfl rfl ?_
  refine oIloadN C d1_23 rfl rfl ?_
  refine oBipush C d1_24 (z := 10) rfl rfl ?_
  refine oIrem C d1_26 (by decide) rfl ?_
  refine oIadd C d1_27 rfl ?_
  refine oI2B C d1_28 rfl ?_
  refine oBastore C A4l (by decide) (k := 8) rfl (v := .int 0) rfl (v' := .int (dg 2 ii)) (congrArg Value.int (own_nar hi 2)) d1_29 rfl ge_a1 fun h5 W5 A5 => ?_
  have A5l : oAr Z h5 a1 .byte [.int 107, .int 0, .int 0, .int 0, .int 0, .int 0, .int 0, .int 0, .int (dg 2 ii), .int (dg 1 ii), .int (dg 0 ii)] := A5
  refine oIloadN C d1_30 rfl rfl ?_
  refine oBipush C d1_31 (z := 10) rfl rfl ?_
  refine oIdiv C d1_33 (by decide) rfl ?_
  refine oCastI (z' := (oq 3 ii)) rfl ?_
  refine oIstoreN C d1_34 (Ls' := #[.val (.int ii), .val (.ref a1), .val (.int (oq 3 ii)), .val (.int 8)]) rfl (q := 35) rfl ?_
  refine oIinc C d1_35 rfl (z := (-1)) rfl (w := (7 : Int32)) (by decide) (Ls' := #[.val (.int ii), .val (.ref a1), .val (.int (oq 3 ii)), .val (.int 7)]) rfl rfl ?_
  refine oGoto C d1_38 (q := 15) (by decide) (by decide) ?_
  refine oIloadN C d1_15 rfl rfl ?_
  refine oIf_le C d1_16 (q := 41) (by decide) (by decide) (r := 19) rfl (fun hq => absurd hq ((by decide))) (fun hc16_3 => ?_)
  refine oAloadN C d1_19 rfl rfl rfl ?_
  refine oIloadN C d1_20 rfl rfl ?_
  refine oBipush C d1_21 (z := 48) rfl rfl ?_
  refine oIloadN C d1_23 rfl rfl ?_
  refine oBipush C d1_24 (z := 10) rfl rfl ?_
  refine oIrem C d1_26 (by decide) rfl ?_
  refine oIadd C d1_27 rfl ?_
  refine oI2B C d1_28 rfl ?_
  refine oBastore C A5l (by decide) (k := 7) rfl (v := .int 0) rfl (v' := .int (dg 3 ii)) (congrArg Value.int (own_nar hi 3)) d1_29 rfl ge_a1 fun h6 W6 A6 => ?_
  have A6l : oAr Z h6 a1 .byte [.int 107, .int 0, .int 0, .int 0, .int 0, .int 0, .int 0, .int (dg 3 ii), .int (dg 2 ii), .int (dg 1 ii), .int (dg 0 ii)] := A6
  refine oIloadN C d1_30 rfl rfl ?_
  refine oBipush C d1_31 (z := 10) rfl rfl ?_
  refine oIdiv C d1_33 (by decide) rfl ?_
  refine oCastI (z' := (oq 4 ii)) rfl ?_
  refine oIstoreN C d1_34 (Ls' := #[.val (.int ii), .val (.ref a1), .val (.int (oq 4 ii)), .val (.int 7)]) rfl (q := 35) rfl ?_
  refine oIinc C d1_35 rfl (z := (-1)) rfl (w := (6 : Int32)) (by decide) (Ls' := #[.val (.int ii), .val (.ref a1), .val (.int (oq 4 ii)), .val (.int 6)]) rfl rfl ?_
  refine oGoto C d1_38 (q := 15) (by decide) (by decide) ?_
  refine oIloadN C d1_15 rfl rfl ?_
  refine oIf_le C d1_16 (q := 41) (by decide) (by decide) (r := 19) rfl (fun hq => absurd hq ((by decide))) (fun hc16_4 => ?_)
  refine oAloadN C d1_19 rfl rfl rfl ?_
  refine oIloadN C d1_20 rfl rfl ?_
  refine oBipush C d1_21 (z := 48) rfl rfl ?_
  refine oIloadN C d1_23 rfl rfl ?_
  refine oBipush C d1_24 (z := 10) rfl rfl ?_
  refine oIrem C d1_26 (by decide) rfl ?_
  refine oIadd C d1_27 rfl ?_
  refine oI2B C d1_28 rfl ?_
  refine oBastore C A6l (by decide) (k := 6) rfl (v := .int 0) rfl (v' := .int (dg 4 ii)) (congrArg Value.int (own_nar hi 4)) d1_29 rfl ge_a1 fun h7 W7 A7 => ?_
  have A7l : oAr Z h7 a1 .byte [.int 107, .int 0, .int 0, .int 0, .int 0, .int 0, .int (dg 4 ii), .int (dg 3 ii), .int (dg 2 ii), .int (dg 1 ii), .int (dg 0 ii)] := A7
  refine oIloadN C d1_30 rfl rfl ?_
  refine oBipush C d1_31 (z := 10) rfl rfl ?_
  refine oIdiv C d1_33 (by decide) rfl ?_
  refine oCastI (z' := (oq 5 ii)) rfl ?_
  refine oIstoreN C d1_34 (Ls' := #[.val (.int ii), .val (.ref a1), .val (.int (oq 5 ii)), .val (.int 6)]) rfl (q := 35) rfl ?_
  refine oIinc C d1_35 rfl (z := (-1)) rfl (w := (5 : Int32)) (by decide) (Ls' := #[.val (.int ii), .val (.ref a1), .val (.int (oq 5 ii)), .val (.int 5)]) rfl rfl ?_
  refine oGoto C d1_38 (q := 15) (by decide) (by decide) ?_
  refine oIloadN C d1_15 rfl rfl ?_
  refine oIf_le C d1_16 (q := 41) (by decide) (by decide) (r := 19) rfl (fun hq => absurd hq ((by decide))) (fun hc16_5 => ?_)
  refine oAloadN C d1_19 rfl rfl rfl ?_
  refine oIloadN C d1_20 rfl rfl ?_
  refine oBipush C d1_21 (z := 48) rfl rfl ?_
  refine oIloadN C d1_23 rfl rfl ?_
  refine oBipush C d1_24 (z := 10) rfl rfl ?_
  refine oIrem C d1_26 (by decide) rfl ?_
  refine oIadd C d1_27 rfl ?_
  refine oI2B C d1_28 rfl ?_
  refine oBastore C A7l (by decide) (k := 5) rfl (v := .int 0) rfl (v' := .int (dg 5 ii)) (congrArg Value.int (own_nar hi 5)) d1_29 rfl ge_a1 fun h8 W8 A8 => ?_
  have A8l : oAr Z h8 a1 .byte [.int 107, .int 0, .int 0, .int 0, .int 0, .int (dg 5 ii), .int (dg 4 ii), .int (dg 3 ii), .int (dg 2 ii), .int (dg 1 ii), .int (dg 0 ii)] := A8
  refine oIloadN C d1_30 rfl rfl ?_
  refine oBipush C d1_31 (z := 10) rfl rfl ?_
  refine oIdiv C d1_33 (by decide) rfl ?_
  refine oCastI (z' := (oq 6 ii)) rfl ?_
  refine oIstoreN C d1_34 (Ls' := #[.val (.int ii), .val (.ref a1), .val (.int (oq 6 ii)), .val (.int 5)]) rfl (q := 35) rfl ?_
  refine oIinc C d1_35 rfl (z := (-1)) rfl (w := (4 : Int32)) (by decide) (Ls' := #[.val (.int ii), .val (.ref a1), .val (.int (oq 6 ii)), .val (.int 4)]) rfl rfl ?_
  refine oGoto C d1_38 (q := 15) (by decide) (by decide) ?_
  refine oIloadN C d1_15 rfl rfl ?_
  refine oIf_le C d1_16 (q := 41) (by decide) (by decide) (r := 19) rfl (fun hq => absurd hq ((by decide))) (fun hc16_6 => ?_)
  refine oAloadN C d1_19 rfl rfl rfl ?_
  refine oIloadN C d1_20 rfl rfl ?_
  refine oBipush C d1_21 (z := 48) rfl rfl ?_
  refine oIloadN C d1_23 rfl rfl ?_
  refine oBipush C d1_24 (z := 10) rfl rfl ?_
  refine oIrem C d1_26 (by decide) rfl ?_
  refine oIadd C d1_27 rfl ?_
  refine oI2B C d1_28 rfl ?_
  refine oBastore C A8l (by decide) (k := 4) rfl (v := .int 0) rfl (v' := .int (dg 6 ii)) (congrArg Value.int (own_nar hi 6)) d1_29 rfl ge_a1 fun h9 W9 A9 => ?_
  have A9l : oAr Z h9 a1 .byte [.int 107, .int 0, .int 0, .int 0, .int (dg 6 ii), .int (dg 5 ii), .int (dg 4 ii), .int (dg 3 ii), .int (dg 2 ii), .int (dg 1 ii), .int (dg 0 ii)] := A9
  refine oIloadN C d1_30 rfl rfl ?_
  refine oBipush C d1_31 (z := 10) rfl rfl ?_
  refine oIdiv C d1_33 (by decide) rfl ?_
  refine oCastI (z' := (oq 7 ii)) rfl ?_
  refine oIstoreN C d1_34 (Ls' := #[.val (.int ii), .val (.ref a1), .val (.int (oq 7 ii)), .val (.int 4)]) rfl (q := 35) rfl ?_
  refine oIinc C d1_35 rfl (z := (-1)) rfl (w := (3 : Int32)) (by decide) (Ls' := #[.val (.int ii), .val (.ref a1), .val (.int (oq 7 ii)), .val (.int 3)]) rfl rfl ?_
  refine oGoto C d1_38 (q := 15) (by decide) (by decide) ?_
  refine oIloadN C d1_15 rfl rfl ?_
  refine oIf_le C d1_16 (q := 41) (by decide) (by decide) (r := 19) rfl (fun hq => absurd hq ((by decide))) (fun hc16_7 => ?_)
  refine oAloadN C d1_19 rfl rfl rfl ?_
  refine oIloadN C d1_20 rfl rfl ?_
  refine oBipush C d1_21 (z := 48) rfl rfl ?_
  refine oIloadN C d1_23 rfl rfl ?_
  refine oBipush C d1_24 (z := 10) rfl rfl ?_
  refine oIrem C d1_26 (by decide) rfl ?_
  refine oIadd C d1_27 rfl ?_
  refine oI2B C d1_28 rfl ?_
  refine oBastore C A9l (by decide) (k := 3) rfl (v := .int 0) rfl (v' := .int (dg 7 ii)) (congrArg Value.int (own_nar hi 7)) d1_29 rfl ge_a1 fun h10 W10 A10 => ?_
  have A10l : oAr Z h10 a1 .byte [.int 107, .int 0, .int 0, .int (dg 7 ii), .int (dg 6 ii), .int (dg 5 ii), .int (dg 4 ii), .int (dg 3 ii), .int (dg 2 ii), .int (dg 1 ii), .int (dg 0 ii)] := A10
  refine oIloadN C d1_30 rfl rfl ?_
  refine oBipush C d1_31 (z := 10) rfl rfl ?_
  refine oIdiv C d1_33 (by decide) rfl ?_
  refine oCastI (z' := (oq 8 ii)) rfl ?_
  refine oIstoreN C d1_34 (Ls' := #[.val (.int ii), .val (.ref a1), .val (.int (oq 8 ii)), .val (.int 3)]) rfl (q := 35) rfl ?_
  refine oIinc C d1_35 rfl (z := (-1)) rfl (w := (2 : Int32)) (by decide) (Ls' := #[.val (.int ii), .val (.ref a1), .val (.int (oq 8 ii)), .val (.int 2)]) rfl rfl ?_
  refine oGoto C d1_38 (q := 15) (by decide) (by decide) ?_
  refine oIloadN C d1_15 rfl rfl ?_
  refine oIf_le C d1_16 (q := 41) (by decide) (by decide) (r := 19) rfl (fun hq => absurd hq ((by decide))) (fun hc16_8 => ?_)
  refine oAloadN C d1_19 rfl rfl rfl ?_
  refine oIloadN C d1_20 rfl rfl ?_
  refine oBipush C d1_21 (z := 48) rfl rfl ?_
  refine oIloadN C d1_23 rfl rfl ?_
  refine oBipush C d1_24 (z := 10) rfl rfl ?_
  refine oIrem C d1_26 (by decide) rfl ?_
  refine oIadd C d1_27 rfl ?_
  refine oI2B C d1_28 rfl ?_
  refine oBastore C A10l (by decide) (k := 2) rfl (v := .int 0) rfl (v' := .int (dg 8 ii)) (congrArg Value.int (own_nar hi 8)) d1_29 rfl ge_a1 fun h11 W11 A11 => ?_
  have A11l : oAr Z h11 a1 .byte [.int 107, .int 0, .int (dg 8 ii), .int (dg 7 ii), .int (dg 6 ii), .int (dg 5 ii), .int (dg 4 ii), .int (dg 3 ii), .int (dg 2 ii), .int (dg 1 ii), .int (dg 0 ii)] := A11
  refine oIloadN C d1_30 rfl rfl ?_
  refine oBipush C d1_31 (z := 10) rfl rfl ?_
  refine oIdiv C d1_33 (by decide) rfl ?_
  refine oCastI (z' := (oq 9 ii)) rfl ?_
  refine oIstoreN C d1_34 (Ls' := #[.val (.int ii), .val (.ref a1), .val (.int (oq 9 ii)), .val (.int 2)]) rfl (q := 35) rfl ?_
  refine oIinc C d1_35 rfl (z := (-1)) rfl (w := (1 : Int32)) (by decide) (Ls' := #[.val (.int ii), .val (.ref a1), .val (.int (oq 9 ii)), .val (.int 1)]) rfl rfl ?_
  refine oGoto C d1_38 (q := 15) (by decide) (by decide) ?_
  refine oIloadN C d1_15 rfl rfl ?_
  refine oIf_le C d1_16 (q := 41) (by decide) (by decide) (r := 19) rfl (fun hq => absurd hq ((by decide))) (fun hc16_9 => ?_)
  refine oAloadN C d1_19 rfl rfl rfl ?_
  refine oIloadN C d1_20 rfl rfl ?_
  refine oBipush C d1_21 (z := 48) rfl rfl ?_
  refine oIloadN C d1_23 rfl rfl ?_
  refine oBipush C d1_24 (z := 10) rfl rfl ?_
  refine oIrem C d1_26 (by decide) rfl ?_
  refine oIadd C d1_27 rfl ?_
  refine oI2B C d1_28 rfl ?_
  refine oBastore C A11l (by decide) (k := 1) rfl (v := .int 0) rfl (v' := .int (dg 9 ii)) (congrArg Value.int (own_nar hi 9)) d1_29 rfl ge_a1 fun h12 W12 A12 => ?_
  have A12l : oAr Z h12 a1 .byte [.int 107, .int (dg 9 ii), .int (dg 8 ii), .int (dg 7 ii), .int (dg 6 ii), .int (dg 5 ii), .int (dg 4 ii), .int (dg 3 ii), .int (dg 2 ii), .int (dg 1 ii), .int (dg 0 ii)] := A12
  refine oIloadN C d1_30 rfl rfl ?_
  refine oBipush C d1_31 (z := 10) rfl rfl ?_
  refine oIdiv C d1_33 (by decide) rfl ?_
  refine oCastI (z' := (oq 10 ii)) rfl ?_
  refine oIstoreN C d1_34 (Ls' := #[.val (.int ii), .val (.ref a1), .val (.int (oq 10 ii)), .val (.int 1)]) rfl (q := 35) rfl ?_
  refine oIinc C d1_35 rfl (z := (-1)) rfl (w := (0 : Int32)) (by decide) (Ls' := #[.val (.int ii), .val (.ref a1), .val (.int (oq 10 ii)), .val (.int 0)]) rfl rfl ?_
  refine oGoto C d1_38 (q := 15) (by decide) (by decide) ?_
  refine oIloadN C d1_15 rfl rfl ?_
  refine oIf_le C d1_16 (q := 41) (by decide) (by decide) (r := 19) rfl (fun hc16_10 => ?_) (fun hq => absurd hq ((by decide)))
  refine oAloadN C d1_41 rfl rfl rfl ?_
  refine oRetA C rfl rfl d1_42 (by decide) (by decide) ?_
  exact ⟨_, rfl, (((((((((((((Keep.refl h0 []).ext E1).wr W2 (Or.inr (Nat.le_trans (Keep.refl h0 []).1 (Nat.le_of_eq g_a1.symm)))).wr W3 (Or.inr (Nat.le_trans (Keep.refl h0 []).1 (Nat.le_of_eq g_a1.symm)))).wr W4 (Or.inr (Nat.le_trans (Keep.refl h0 []).1 (Nat.le_of_eq g_a1.symm)))).wr W5 (Or.inr (Nat.le_trans (Keep.refl h0 []).1 (Nat.le_of_eq g_a1.symm)))).wr W6 (Or.inr (Nat.le_trans (Keep.refl h0 []).1 (Nat.le_of_eq g_a1.symm)))).wr W7 (Or.inr (Nat.le_trans (Keep.refl h0 []).1 (Nat.le_of_eq g_a1.symm)))).wr W8 (Or.inr (Nat.le_trans (Keep.refl h0 []).1 (Nat.le_of_eq g_a1.symm)))).wr W9 (Or.inr (Nat.le_trans (Keep.refl h0 []).1 (Nat.le_of_eq g_a1.symm)))).wr W10 (Or.inr (Nat.le_trans (Keep.refl h0 []).1 (Nat.le_of_eq g_a1.symm)))).wr W11 (Or.inr (Nat.le_trans (Keep.refl h0 []).1 (Nat.le_of_eq g_a1.symm)))).wr W12 (Or.inr (Nat.le_trans (Keep.refl h0 []).1 (Nat.le_of_eq g_a1.symm)))), A12l⟩
theorem ef_0 (m : MethodId) (x0 : Int32) : entryFrame m #[.int x0] maxLocals = mkF m 0 #[.val (.int x0), .unset, .unset, .unset, .unset, .unset] [] := by first | (simp [entryFrame, mkF, argsToLocals, Value.category, maxLocals]; done) | rfl
theorem pd_404628 : parseMethodDescriptor "(I)[B" = some ⟨[.int], some (.array .byte)⟩ := by decide +kernel
theorem pd_554718 : parseMethodDescriptor "(B)Z" = some ⟨[.byte], some .boolean⟩ := by decide +kernel
set_option maxRecDepth 65536 in
set_option maxHeartbeats 40000000 in
theorem mt_law (l : Launch) (Z : State) (a0 : Array Value) (hw : oHw a0 Z) (h0 : Heap) (n0 : Nat) (Z0 : n0 ≤ h0.size) (x0 : Int32)  :
    oMet l Z x code maxLocals ret tables_1 room_1 16 128 n0 #[.int x0] h0 (fun v h => v = some (.int 1)) := by
  refine oMet.intro (plainFor_of_name pn_354589) (fun m => ef_0 m x0) ?_
  intro op oe os m obl omt ocd C
  refine oIloadN C at_0 rfl rfl ?_
  refine oLdc C (w0 hw) at_1 rfl ?_
  refine oIand C at_3 rfl ?_
  obtain ⟨ii, e_ii⟩ : ∃ z, z = (x0 &&& (2147483647 : Int32)) := ⟨_, rfl⟩
  refine oCastI e_ii.symm ?_
  have r_ii := own_ge x0
  rw [← e_ii] at r_ii
  have r_v0 := own_top r_ii
  refine oIstoreN C at_4 (Ls' := #[.val (.int x0), .val (.int ii), .unset, .unset, .unset, .unset]) rfl (q := 5) rfl ?_
  refine oIloadN C at_5 rfl rfl ?_
  refine oCallS C (w1 hw) (w2 hw) (w3 hw) (w4 hw) at_6 (by decide) pd_404628 rfl rfl (argsL := [.int ii]) (rest := []) rfl (W := 0) rfl (q := 9) rfl (by decide) (by decide) (by decide) (by decide) (mt_key l Z a0 hw _ n0 Z0 ii r_ii) ?_
  rintro _ hk ⟨bb, rfl, Kk, Ab⟩
  show oW _ _ _ _ _ _ _ _ _ _ _ _ _ _ _ (mkF m 9 #[.val (.int x0), .val (.int ii), .unset, .unset, .unset, .unset] [.ref bb])
  refine oAstoreN C at_9 rfl (Ls' := #[.val (.int x0), .val (.int ii), .val (.ref bb), .unset, .unset, .unset]) rfl (q := 10) rfl ?_
  refine oAloadN C at_10 rfl rfl rfl ?_
  refine oIfnullN C at_11 rfl ?_
  refine oAloadN C at_14 rfl rfl rfl ?_
  refine oLen C Ab (z := (11 : Int32)) rfl at_15 rfl ?_
  refine oBipush C at_16 (z := 11) rfl rfl ?_
  refine oIcmp_eq C at_18 (q := 23) (by decide) (by decide) (r := 21) rfl (fun hc18 => ?_) (fun hq => absurd hq ((by decide)))
  refine oAloadN C at_23 rfl rfl rfl ?_
  refine oIconst C at_24 (z := 0) rfl rfl ?_
  refine oBaload C Ab (by decide) (k := 0) rfl (v := .int 107) rfl at_25 rfl ?_
  refine oBipush C at_26 (z := 107) rfl rfl ?_
  refine oIcmp_eq C at_28 (q := 33) (by decide) (by decide) (r := 31) rfl (fun hc28 => ?_) (fun hq => absurd hq ((by decide)))
  refine oIconst C at_33 (z := 1) rfl rfl ?_
  refine oIstoreN C at_34 (Ls' := #[.val (.int x0), .val (.int ii), .val (.ref bb), .val (.int 1), .unset, .unset]) rfl (q := 35) rfl ?_
  refine oLconst C at_35 (z := 0) rfl rfl ?_
  refine oLstore C at_36 (Ls' := #[.val (.int x0), .val (.int ii), .val (.ref bb), .val (.int 1), .val (.long 0), .second]) rfl (q := 38) rfl ?_
  refine oIloadN C at_38 rfl rfl ?_
  refine oIf_eq C at_39 (q := 55) (by decide) (by decide) (r := 42) rfl (fun hq => absurd hq ((by decide))) (fun hc39 => ?_)
  refine oAloadN C at_42 rfl rfl rfl ?_
  refine oIconst C at_43 (z := 1) rfl rfl ?_
  refine oBaload C Ab (by decide) (k := 1) rfl (v := .int (dg 9 ii)) rfl at_44 rfl ?_
  have z13 := (Nat.le_trans Z0 Kk.1)
  refine oCallS C (w6 hw) (w7 hw) (w8 hw) (w9 hw) at_45 (by decide) pd_554718 rfl rfl (argsL := [.int (dg 9 ii)]) (rest := []) rfl (W := 0) rfl (q := 48) rfl (by decide) (by decide) (by decide) (by decide) (mt_fDig l Z a0 hw _ n0 z13 (dg 9 ii) ) (oPureK ?_)
  refine oIf_eq C at_48 (q := 55) (by decide) (by decide) (r := 51) rfl (fun hq => absurd hq (fun q => absurd ((own_isd r_ii 9).symm.trans q) (by decide))) (fun hc48 => ?_)
  refine oIconst C at_51 (z := 1) rfl rfl ?_
  refine oGoto C at_52 (q := 56) (by decide) (by decide) ?_
  refine oIstoreN C at_56 (Ls' := #[.val (.int x0), .val (.int ii), .val (.ref bb), .val (.int 1), .val (.long 0), .second]) rfl (q := 57) rfl ?_
  refine oLload C at_57 rfl rfl ?_
  refine oLdc2 C (w10 hw) at_59 rfl ?_
  refine oLmul C at_62 rfl ?_
  refine oCastL (z' := (0 : Int64)) (by decide) ?_
  refine oAloadN C at_63 rfl rfl rfl ?_
  refine oIconst C at_64 (z := 1) rfl rfl ?_
  refine oBaload C Ab (by decide) (k := 1) rfl (v := .int (dg 9 ii)) rfl at_65 rfl ?_
  refine oBipush C at_66 (z := 48) rfl rfl ?_
  refine oIsub C at_68 rfl ?_
  refine oI2L C at_69 rfl ?_
  refine oLadd C at_70 rfl ?_
  obtain ⟨v1, e_v1⟩ : ∃ z, z = ((0 : Int64) + (((dg 9 ii) - (48 : Int32)).toInt64)) := ⟨_, rfl⟩
  refine oCastL e_v1.symm ?_
  have r_v1 := own_step r_ii 9 r_v0 e_v1
  refine oLstore C at_71 (Ls' := #[.val (.int x0), .val (.int ii), .val (.ref bb), .val (.int 1), .val (.long v1), .second]) rfl (q := 73) rfl ?_
  refine oIloadN C at_73 rfl rfl ?_
  refine oIf_eq C at_74 (q := 90) (by decide) (by decide) (r := 77) rfl (fun hq => absurd hq ((by decide))) (fun hc74 => ?_)
  refine oAloadN C at_77 rfl rfl rfl ?_
  refine oIconst C at_78 (z := 2) rfl rfl ?_
  refine oBaload C Ab (by decide) (k := 2) rfl (v := .int (dg 8 ii)) rfl at_79 rfl ?_
  refine oCallS C (w6 hw) (w7 hw) (w8 hw) (w9 hw) at_80 (by decide) pd_554718 rfl rfl (argsL := [.int (dg 8 ii)]) (rest := []) rfl (W := 0) rfl (q := 83) rfl (by decide) (by decide) (by decide) (by decide) (mt_fDig l Z a0 hw _ n0 z13 (dg 8 ii) ) (oPureK ?_)
  refine oIf_eq C at_83 (q := 90) (by decide) (by decide) (r := 86) rfl (fun hq => absurd hq (fun q => absurd ((own_isd r_ii 8).symm.trans q) (by decide))) (fun hc83 => ?_)
  refine oIconst C at_86 (z := 1) rfl rfl ?_
  refine oGoto C at_87 (q := 91) (by decide) (by decide) ?_
  refine oIstoreN C at_91 (Ls' := #[.val (.int x0), .val (.int ii), .val (.ref bb), .val (.int 1), .val (.long v1), .second]) rfl (q := 92) rfl ?_
  refine oLload C at_92 rfl rfl ?_
  refine oLdc2 C (w10 hw) at_94 rfl ?_
  refine oLmul C at_97 rfl ?_
  refine oAloadN C at_98 rfl rfl rfl ?_
  refine oIconst C at_99 (z := 2) rfl rfl ?_
  refine oBaload C Ab (by decide) (k := 2) rfl (v := .int (dg 8 ii)) rfl at_100 rfl ?_
  refine oBipush C at_101 (z := 48) rfl rfl ?_
  refine oIsub C at_103 rfl ?_
  refine oI2L C at_104 rfl ?_
  refine oLadd C at_105 rfl ?_
  obtain ⟨v2, e_v2⟩ : ∃ z, z = ((v1 * (10 : Int64)) + (((dg 8 ii) - (48 : Int32)).toInt64)) := ⟨_, rfl⟩
  refine oCastL e_v2.symm ?_
  have r_v2 := own_step r_ii 8 r_v1 e_v2
  refine oLstore C at_106 (Ls' := #[.val (.int x0), .val (.int ii), .val (.ref bb), .val (.int 1), .val (.long v2), .second]) rfl (q := 108) rfl ?_
  refine oIloadN C at_108 rfl rfl ?_
  refine oIf_eq C at_109 (q := 125) (by decide) (by decide) (r := 112) rfl (fun hq => absurd hq ((by decide))) (fun hc109 => ?_)
  refine oAloadN C at_112 rfl rfl rfl ?_
  refine oIconst C at_113 (z := 3) rfl rfl ?_
  refine oBaload C Ab (by decide) (k := 3) rfl (v := .int (dg 7 ii)) rfl at_114 rfl ?_
  refine oCallS C (w6 hw) (w7 hw) (w8 hw) (w9 hw) at_115 (by decide) pd_554718 rfl rfl (argsL := [.int (dg 7 ii)]) (rest := []) rfl (W := 0) rfl (q := 118) rfl (by decide) (by decide) (by decide) (by decide) (mt_fDig l Z a0 hw _ n0 z13 (dg 7 ii) ) (oPureK ?_)
  refine oIf_eq C at_118 (q := 125) (by decide) (by decide) (r := 121) rfl (fun hq => absurd hq (fun q => absurd ((own_isd r_ii 7).symm.trans q) (by decide))) (fun hc118 => ?_)
  refine oIconst C at_121 (z := 1) rfl rfl ?_
  refine oGoto C at_122 (q := 126) (by decide) (by decide) ?_
  refine oIstoreN C at_126 (Ls' := #[.val (.int x0), .val (.int ii), .val (.ref bb), .val (.int 1), .val (.long v2), .second]) rfl (q := 127) rfl ?_
  refine oLload C at_127 rfl rfl ?_
  refine oLdc2 C (w10 hw) at_129 rfl ?_
  refine oLmul C at_132 rfl ?_
  refine oAloadN C at_133 rfl rfl rfl ?_
  refine oIconst C at_134 (z := 3) rfl rfl ?_
  refine oBaload C Ab (by decide) (k := 3) rfl (v := .int (dg 7 ii)) rfl at_135 rfl ?_
  refine oBipush C at_136 (z := 48) rfl rfl ?_
  refine oIsub C at_138 rfl ?_
  refine oI2L C at_139 rfl ?_
  refine oLadd C at_140 rfl ?_
  obtain ⟨v3, e_v3⟩ : ∃ z, z = ((v2 * (10 : Int64)) + (((dg 7 ii) - (48 : Int32)).toInt64)) := ⟨_, rfl⟩
  refine oCastL e_v3.symm ?_
  have r_v3 := own_step r_ii 7 r_v2 e_v3
  refine oLstore C at_141 (Ls' := #[.val (.int x0), .val (.int ii), .val (.ref bb), .val (.int 1), .val (.long v3), .second]) rfl (q := 143) rfl ?_
  refine oIloadN C at_143 rfl rfl ?_
  refine oIf_eq C at_144 (q := 160) (by decide) (by decide) (r := 147) rfl (fun hq => absurd hq ((by decide))) (fun hc144 => ?_)
  refine oAloadN C at_147 rfl rfl rfl ?_
  refine oIconst C at_148 (z := 4) rfl rfl ?_
  refine oBaload C Ab (by decide) (k := 4) rfl (v := .int (dg 6 ii)) rfl at_149 rfl ?_
  refine oCallS C (w6 hw) (w7 hw) (w8 hw) (w9 hw) at_150 (by decide) pd_554718 rfl rfl (argsL := [.int (dg 6 ii)]) (rest := []) rfl (W := 0) rfl (q := 153) rfl (by decide) (by decide) (by decide) (by decide) (mt_fDig l Z a0 hw _ n0 z13 (dg 6 ii) ) (oPureK ?_)
  refine oIf_eq C at_153 (q := 160) (by decide) (by decide) (r := 156) rfl (fun hq => absurd hq (fun q => absurd ((own_isd r_ii 6).symm.trans q) (by decide))) (fun hc153 => ?_)
  refine oIconst C at_156 (z := 1) rfl rfl ?_
  refine oGoto C at_157 (q := 161) (by decide) (by decide) ?_
  refine oIstoreN C at_161 (Ls' := #[.val (.int x0), .val (.int ii), .val (.ref bb), .val (.int 1), .val (.long v3), .second]) rfl (q := 162) rfl ?_
  refine oLload C at_162 rfl rfl ?_
  refine oLdc2 C (w10 hw) at_164 rfl ?_
  refine oLmul C at_167 rfl ?_
  refine oAloadN C at_168 rfl rfl rfl ?_
  refine oIconst C at_169 (z := 4) rfl rfl ?_
  refine oBaload C Ab (by decide) (k := 4) rfl (v := .int (dg 6 ii)) rfl at_170 rfl ?_
  refine oBipush C at_171 (z := 48) rfl rfl ?_
  refine oIsub C at_173 rfl ?_
  refine oI2L C at_174 rfl ?_
  refine oLadd C at_175 rfl ?_
  obtain ⟨v4, e_v4⟩ : ∃ z, z = ((v3 * (10 : Int64)) + (((dg 6 ii) - (48 : Int32)).toInt64)) := ⟨_, rfl⟩
  refine oCastL e_v4.symm ?_
  have r_v4 := own_step r_ii 6 r_v3 e_v4
  refine oLstore C at_176 (Ls' := #[.val (.int x0), .val (.int ii), .val (.ref bb), .val (.int 1), .val (.long v4), .second]) rfl (q := 178) rfl ?_
  refine oIloadN C at_178 rfl rfl ?_
  refine oIf_eq C at_179 (q := 195) (by decide) (by decide) (r := 182) rfl (fun hq => absurd hq ((by decide))) (fun hc179 => ?_)
  refine oAloadN C at_182 rfl rfl rfl ?_
  refine oIconst C at_183 (z := 5) rfl rfl ?_
  refine oBaload C Ab (by decide) (k := 5) rfl (v := .int (dg 5 ii)) rfl at_184 rfl ?_
  refine oCallS C (w6 hw) (w7 hw) (w8 hw) (w9 hw) at_185 (by decide) pd_554718 rfl rfl (argsL := [.int (dg 5 ii)]) (rest := []) rfl (W := 0) rfl (q := 188) rfl (by decide) (by decide) (by decide) (by decide) (mt_fDig l Z a0 hw _ n0 z13 (dg 5 ii) ) (oPureK ?_)
  refine oIf_eq C at_188 (q := 195) (by decide) (by decide) (r := 191) rfl (fun hq => absurd hq (fun q => absurd ((own_isd r_ii 5).symm.trans q) (by decide))) (fun hc188 => ?_)
  refine oIconst C at_191 (z := 1) rfl rfl ?_
  refine oGoto C at_192 (q := 196) (by decide) (by decide) ?_
  refine oIstoreN C at_196 (Ls' := #[.val (.int x0), .val (.int ii), .val (.ref bb), .val (.int 1), .val (.long v4), .second]) rfl (q := 197) rfl ?_
  refine oLload C at_197 rfl rfl ?_
  refine oLdc2 C (w10 hw) at_199 rfl ?_
  refine oLmul C at_202 rfl ?_
  refine oAloadN C at_203 rfl rfl rfl ?_
  refine oIconst C at_204 (z := 5) rfl rfl ?_
  refine oBaload C Ab (by decide) (k := 5) rfl (v := .int (dg 5 ii)) rfl at_205 rfl ?_
  refine oBipush C at_206 (z := 48) rfl rfl ?_
  refine oIsub C at_208 rfl ?_
  refine oI2L C at_209 rfl ?_
  refine oLadd C at_210 rfl ?_
  obtain ⟨v5, e_v5⟩ : ∃ z, z = ((v4 * (10 : Int64)) + (((dg 5 ii) - (48 : Int32)).toInt64)) := ⟨_, rfl⟩
  refine oCastL e_v5.symm ?_
  have r_v5 := own_step r_ii 5 r_v4 e_v5
  refine oLstore C at_211 (Ls' := #[.val (.int x0), .val (.int ii), .val (.ref bb), .val (.int 1), .val (.long v5), .second]) rfl (q := 213) rfl ?_
  refine oIloadN C at_213 rfl rfl ?_
  refine oIf_eq C at_214 (q := 231) (by decide) (by decide) (r := 217) rfl (fun hq => absurd hq ((by decide))) (fun hc214 => ?_)
  refine oAloadN C at_217 rfl rfl rfl ?_
  refine oBipush C at_218 (z := 6) rfl rfl ?_
  refine oBaload C Ab (by decide) (k := 6) rfl (v := .int (dg 4 ii)) rfl at_220 rfl ?_
  refine oCallS C (w6 hw) (w7 hw) (w8 hw) (w9 hw) at_221 (by decide) pd_554718 rfl rfl (argsL := [.int (dg 4 ii)]) (rest := []) rfl (W := 0) rfl (q := 224) rfl (by decide) (by decide) (by decide) (by decide) (mt_fDig l Z a0 hw _ n0 z13 (dg 4 ii) ) (oPureK ?_)
  refine oIf_eq C at_224 (q := 231) (by decide) (by decide) (r := 227) rfl (fun hq => absurd hq (fun q => absurd ((own_isd r_ii 4).symm.trans q) (by decide))) (fun hc224 => ?_)
  refine oIconst C at_227 (z := 1) rfl rfl ?_
  refine oGoto C at_228 (q := 232) (by decide) (by decide) ?_
  refine oIstoreN C at_232 (Ls' := #[.val (.int x0), .val (.int ii), .val (.ref bb), .val (.int 1), .val (.long v5), .second]) rfl (q := 233) rfl ?_
  refine oLload C at_233 rfl rfl ?_
  refine oLdc2 C (w10 hw) at_235 rfl ?_
  refine oLmul C at_238 rfl ?_
  refine oAloadN C at_239 rfl rfl rfl ?_
  refine oBipush C at_240 (z := 6) rfl rfl ?_
  refine oBaload C Ab (by decide) (k := 6) rfl (v := .int (dg 4 ii)) rfl at_242 rfl ?_
  refine oBipush C at_243 (z := 48) rfl rfl ?_
  refine oIsub C at_245 rfl ?_
  refine oI2L C at_246 rfl ?_
  refine oLadd C at_247 rfl ?_
  obtain ⟨v6, e_v6⟩ : ∃ z, z = ((v5 * (10 : Int64)) + (((dg 4 ii) - (48 : Int32)).toInt64)) := ⟨_, rfl⟩
  refine oCastL e_v6.symm ?_
  have r_v6 := own_step r_ii 4 r_v5 e_v6
  refine oLstore C at_248 (Ls' := #[.val (.int x0), .val (.int ii), .val (.ref bb), .val (.int 1), .val (.long v6), .second]) rfl (q := 250) rfl ?_
  refine oIloadN C at_250 rfl rfl ?_
  refine oIf_eq C at_251 (q := 268) (by decide) (by decide) (r := 254) rfl (fun hq => absurd hq ((by decide))) (fun hc251 => ?_)
  refine oAloadN C at_254 rfl rfl rfl ?_
  refine oBipush C at_255 (z := 7) rfl rfl ?_
  refine oBaload C Ab (by decide) (k := 7) rfl (v := .int (dg 3 ii)) rfl at_257 rfl ?_
  refine oCallS C (w6 hw) (w7 hw) (w8 hw) (w9 hw) at_258 (by decide) pd_554718 rfl rfl (argsL := [.int (dg 3 ii)]) (rest := []) rfl (W := 0) rfl (q := 261) rfl (by decide) (by decide) (by decide) (by decide) (mt_fDig l Z a0 hw _ n0 z13 (dg 3 ii) ) (oPureK ?_)
  refine oIf_eq C at_261 (q := 268) (by decide) (by decide) (r := 264) rfl (fun hq => absurd hq (fun q => absurd ((own_isd r_ii 3).symm.trans q) (by decide))) (fun hc261 => ?_)
  refine oIconst C at_264 (z := 1) rfl rfl ?_
  refine oGoto C at_265 (q := 269) (by decide) (by decide) ?_
  refine oIstoreN C at_269 (Ls' := #[.val (.int x0), .val (.int ii), .val (.ref bb), .val (.int 1), .val (.long v6), .second]) rfl (q := 270) rfl ?_
  refine oLload C at_270 rfl rfl ?_
  refine oLdc2 C (w10 hw) at_272 rfl ?_
  refine oLmul C at_275 rfl ?_
  refine oAloadN C at_276 rfl rfl rfl ?_
  refine oBipush C at_277 (z := 7) rfl rfl ?_
  refine oBaload C Ab (by decide) (k := 7) rfl (v := .int (dg 3 ii)) rfl at_279 rfl ?_
  refine oBipush C at_280 (z := 48) rfl rfl ?_
  refine oIsub C at_282 rfl ?_
  refine oI2L C at_283 rfl ?_
  refine oLadd C at_284 rfl ?_
  obtain ⟨v7, e_v7⟩ : ∃ z, z = ((v6 * (10 : Int64)) + (((dg 3 ii) - (48 : Int32)).toInt64)) := ⟨_, rfl⟩
  refine oCastL e_v7.symm ?_
  have r_v7 := own_step r_ii 3 r_v6 e_v7
  refine oLstore C at_285 (Ls' := #[.val (.int x0), .val (.int ii), .val (.ref bb), .val (.int 1), .val (.long v7), .second]) rfl (q := 287) rfl ?_
  refine oIloadN C at_287 rfl rfl ?_
  refine oIf_eq C at_288 (q := 305) (by decide) (by decide) (r := 291) rfl (fun hq => absurd hq ((by decide))) (fun hc288 => ?_)
  refine oAloadN C at_291 rfl rfl rfl ?_
  refine oBipush C at_292 (z := 8) rfl rfl ?_
  refine oBaload C Ab (by decide) (k := 8) rfl (v := .int (dg 2 ii)) rfl at_294 rfl ?_
  refine oCallS C (w6 hw) (w7 hw) (w8 hw) (w9 hw) at_295 (by decide) pd_554718 rfl rfl (argsL := [.int (dg 2 ii)]) (rest := []) rfl (W := 0) rfl (q := 298) rfl (by decide) (by decide) (by decide) (by decide) (mt_fDig l Z a0 hw _ n0 z13 (dg 2 ii) ) (oPureK ?_)
  refine oIf_eq C at_298 (q := 305) (by decide) (by decide) (r := 301) rfl (fun hq => absurd hq (fun q => absurd ((own_isd r_ii 2).symm.trans q) (by decide))) (fun hc298 => ?_)
  refine oIconst C at_301 (z := 1) rfl rfl ?_
  refine oGoto C at_302 (q := 306) (by decide) (by decide) ?_
  refine oIstoreN C at_306 (Ls' := #[.val (.int x0), .val (.int ii), .val (.ref bb), .val (.int 1), .val (.long v7), .second]) rfl (q := 307) rfl ?_
  refine oLload C at_307 rfl rfl ?_
  refine oLdc2 C (w10 hw) at_309 rfl ?_
  refine oLmul C at_312 rfl ?_
  refine oAloadN C at_313 rfl rfl rfl ?_
  refine oBipush C at_314 (z := 8) rfl rfl ?_
  refine oBaload C Ab (by decide) (k := 8) rfl (v := .int (dg 2 ii)) rfl at_316 rfl ?_
  refine oBipush C at_317 (z := 48) rfl rfl ?_
  refine oIsub C at_319 rfl ?_
  refine oI2L C at_320 rfl ?_
  refine oLadd C at_321 rfl ?_
  obtain ⟨v8, e_v8⟩ : ∃ z, z = ((v7 * (10 : Int64)) + (((dg 2 ii) - (48 : Int32)).toInt64)) := ⟨_, rfl⟩
  refine oCastL e_v8.symm ?_
  have r_v8 := own_step r_ii 2 r_v7 e_v8
  refine oLstore C at_322 (Ls' := #[.val (.int x0), .val (.int ii), .val (.ref bb), .val (.int 1), .val (.long v8), .second]) rfl (q := 324) rfl ?_
  refine oIloadN C at_324 rfl rfl ?_
  refine oIf_eq C at_325 (q := 342) (by decide) (by decide) (r := 328) rfl (fun hq => absurd hq ((by decide))) (fun hc325 => ?_)
  refine oAloadN C at_328 rfl rfl rfl ?_
  refine oBipush C at_329 (z := 9) rfl rfl ?_
  refine oBaload C Ab (by decide) (k := 9) rfl (v := .int (dg 1 ii)) rfl at_331 rfl ?_
  refine oCallS C (w6 hw) (w7 hw) (w8 hw) (w9 hw) at_332 (by decide) pd_554718 rfl rfl (argsL := [.int (dg 1 ii)]) (rest := []) rfl (W := 0) rfl (q := 335) rfl (by decide) (by decide) (by decide) (by decide) (mt_fDig l Z a0 hw _ n0 z13 (dg 1 ii) ) (oPureK ?_)
  refine oIf_eq C at_335 (q := 342) (by decide) (by decide) (r := 338) rfl (fun hq => absurd hq (fun q => absurd ((own_isd r_ii 1).symm.trans q) (by decide))) (fun hc335 => ?_)
  refine oIconst C at_338 (z := 1) rfl rfl ?_
  refine oGoto C at_339 (q := 343) (by decide) (by decide) ?_
  refine oIstoreN C at_343 (Ls' := #[.val (.int x0), .val (.int ii), .val (.ref bb), .val (.int 1), .val (.long v8), .second]) rfl (q := 344) rfl ?_
  refine oLload C at_344 rfl rfl ?_
  refine oLdc2 C (w10 hw) at_346 rfl ?_
  refine oLmul C at_349 rfl ?_
  refine oAloadN C at_350 rfl rfl rfl ?_
  refine oBipush C at_351 (z := 9) rfl rfl ?_
  refine oBaload C Ab (by decide) (k := 9) rfl (v := .int (dg 1 ii)) rfl at_353 rfl ?_
  refine oBipush C at_354 (z := 48) rfl rfl ?_
  refine oIsub C at_356 rfl ?_
  refine oI2L C at_357 rfl ?_
  refine oLadd C at_358 rfl ?_
  obtain ⟨v9, e_v9⟩ : ∃ z, z = ((v8 * (10 : Int64)) + (((dg 1 ii) - (48 : Int32)).toInt64)) := ⟨_, rfl⟩
  refine oCastL e_v9.symm ?_
  have r_v9 := own_step r_ii 1 r_v8 e_v9
  refine oLstore C at_359 (Ls' := #[.val (.int x0), .val (.int ii), .val (.ref bb), .val (.int 1), .val (.long v9), .second]) rfl (q := 361) rfl ?_
  refine oIloadN C at_361 rfl rfl ?_
  refine oIf_eq C at_362 (q := 379) (by decide) (by decide) (r := 365) rfl (fun hq => absurd hq ((by decide))) (fun hc362 => ?_)
  refine oAloadN C at_365 rfl rfl rfl ?_
  refine oBipush C at_366 (z := 10) rfl rfl ?_
  refine oBaload C Ab (by decide) (k := 10) rfl (v := .int (dg 0 ii)) rfl at_368 rfl ?_
  refine oCallS C (w6 hw) (w7 hw) (w8 hw) (w9 hw) at_369 (by decide) pd_554718 rfl rfl (argsL := [.int (dg 0 ii)]) (rest := []) rfl (W := 0) rfl (q := 372) rfl (by decide) (by decide) (by decide) (by decide) (mt_fDig l Z a0 hw _ n0 z13 (dg 0 ii) ) (oPureK ?_)
  refine oIf_eq C at_372 (q := 379) (by decide) (by decide) (r := 375) rfl (fun hq => absurd hq (fun q => absurd ((own_isd r_ii 0).symm.trans q) (by decide))) (fun hc372 => ?_)
  refine oIconst C at_375 (z := 1) rfl rfl ?_
  refine oGoto C at_376 (q := 380) (by decide) (by decide) ?_
  refine oIstoreN C at_380 (Ls' := #[.val (.int x0), .val (.int ii), .val (.ref bb), .val (.int 1), .val (.long v9), .second]) rfl (q := 381) rfl ?_
  refine oLload C at_381 rfl rfl ?_
  refine oLdc2 C (w10 hw) at_383 rfl ?_
  refine oLmul C at_386 rfl ?_
  refine oAloadN C at_387 rfl rfl rfl ?_
  refine oBipush C at_388 (z := 10) rfl rfl ?_
  refine oBaload C Ab (by decide) (k := 10) rfl (v := .int (dg 0 ii)) rfl at_390 rfl ?_
  refine oBipush C at_391 (z := 48) rfl rfl ?_
  refine oIsub C at_393 rfl ?_
  refine oI2L C at_394 rfl ?_
  refine oLadd C at_395 rfl ?_
  obtain ⟨v10, e_v10⟩ : ∃ z, z = ((v9 * (10 : Int64)) + (((dg 0 ii) - (48 : Int32)).toInt64)) := ⟨_, rfl⟩
  refine oCastL e_v10.symm ?_
  have r_v10 := own_step r_ii 0 r_v9 e_v10
  refine oLstore C at_396 (Ls' := #[.val (.int x0), .val (.int ii), .val (.ref bb), .val (.int 1), .val (.long v10), .second]) rfl (q := 398) rfl ?_
  refine oIloadN C at_398 rfl rfl ?_
  refine oIf_eq C at_399 (q := 414) (by decide) (by decide) (r := 402) rfl (fun hq => absurd hq ((by decide))) (fun hc399 => ?_)
  refine oLload C at_402 rfl rfl ?_
  refine oIloadN C at_404 rfl rfl ?_
  refine oI2L C at_405 rfl ?_
  refine oLcmp_ne C at_406 rfl at_407 (q := 414) (by decide) (by decide) (r := 410) rfl (fun hq => absurd hq (not_not_intro (by rw [← Int64.toInt_inj, c_i2l]; exact r_v10))) (fun hc406 => ?_)
  refine oIconst C at_410 (z := 1) rfl rfl ?_
  refine oGoto C at_411 (q := 415) (by decide) (by decide) ?_
  refine oRetZ C at_415 (z' := (1 : Int32)) rfl (by decide) (by decide) ?_
  exact rfl
set_option maxRecDepth 65536 in
set_option maxHeartbeats 40000000 in
theorem comes_1 {Post : Tables → Env → Array Value → State → Outcome → State → Prop} (hpost : ∀ tb e args s v u, (limb_1_1.after args s (.returned v) u = true ∧ limb_1_2.after args s (.returned v) u = true ∧ True) → FrameEnd s (.returned v) u (Jvm.fieldLocs frame_1_writes args s ++ Jvm.arrayLocs frame_1_arrays args s ++ Jvm.staticLocs frame_1_statics s) 16 128 → Post tb e args s (.returned v) u) :
    ArmFor flags0 classFile x code maxLocals ret World_1 tables_1 room_1 Calls_1 rest_1 Pre_1 Post := by
  intro l hfl _ _ p e ha hc hk s m args below hf hA hF happ hP
  obtain ⟨hcalls, hrest, hpre⟩ := hP
  obtain ⟨-, -, -, hnamed, -, -, -, hat⟩ := (Spec.applies_iff hf).mp happ
  obtain ⟨hg, hn⟩ := and_e (Cond.before_iff.mp (show (Jvm.Cond.and given_1 narrow_1).before args s = true from hpre))
  obtain ⟨h1, k0⟩ := and_e hg
  obtain ⟨v0, rfl⟩ : ∃ v0 : Value, args = #[v0] := by
    have hs : args.size = 1 := by simpa [Cond.value, given_1] using h1
    obtain ⟨L⟩ := args
    match L, hs with
    | [v0], _ => exact ⟨v0, rfl⟩
  have hw := fun d (hd : d ∈ tables_1) => atoms_spec (ws := Jvm.Cond.code x code maxLocals ret :: tables_1) hat d (List.mem_cons_of_mem _ hd)
  have hfit : Fit s := fun {y c} hc i hi => by
    obtain ⟨ha, rfl⟩ := Array.getElem?_eq_some_iff.mp hc
    have q := List.all_eq_true.mp ((Array.all_eq_true_iff_forall_mem.mp hF) _ (Array.getElem_mem ha)) i (List.mem_range.mpr hi)
    simpa [Array.getElem?_eq_getElem hi] using q
  obtain ⟨i0, e0⟩ := is_v k0
  obtain rfl : v0 = (.int i0) := Option.some.inj e0
  obtain ⟨n, o, h1, h2, h3, _, L, rfl, ⟨N, rfl⟩, hq⟩ := mt_law l s _ hw s.heap s.heap.size (Nat.le_refl _) i0  p e ha hc hk s m _ below hf ((Spec.applies_iff_loose hf).mp happ).1 ⟨rfl, State.Warmed39.refl s, rfl⟩ trivial
  refine ⟨n, _, h1, h2, h3, hpost _ _ _ _ _ _ ⟨Cond.after_iff.mpr rfl, Cond.after_iff.mpr (eq_i res_at (Term.int_eval (1)) rfl), trivial⟩ ⟨hq.1, hq.2.1, (hq.2.2.sift fun y hy => Or.inr (N y hy)).mono (by decide) (by decide)⟩⟩
theorem main_1_1 : Claimed_1_1 := comes_1 fun _ _ _ _ _ _ h hF => ⟨h.1, hF⟩
theorem main_1_2 : Claimed_1_2 := comes_1 fun _ _ _ _ _ _ h hF => ⟨h.2.1, hF⟩
end Jvm.Pilot.@@N@@
namespace Jvm.Pilot.@@N@@
open Jvm Jvm.ClassFile Sem Op Lib Jvm.Free Jvm.Stand Jvm.Pilot.@@N@@.Jvm.D
/-! MADE BY PROGRAM (witnessworld.py) out of the Statement's table words and the real class files: 9 classes; the members and pool entries that the words name. The judged class is class 1, her method 2. -/
namespace start1
open Jvm.ClassFile
def u (s : String) : CpInfo := .utf8 (stringToUtf16 s)
/-- a pool by its gaps: so many unusable entries, then the entry; so many at the end -/
def gap : Nat → List CpInfo → List CpInfo
  | 0, r => r
  | n + 1, r => .unusable :: gap n r
def poolList (es : List (Nat × CpInfo)) (last : Nat) : List CpInfo := es.foldr (fun e r => gap e.1 (e.2 :: r)) (gap last [])
def pool (es : List (Nat × CpInfo)) (last : Nat) : Array CpInfo := ⟨poolList es last⟩
def fileOf (pool : Array CpInfo) (this : Nat) (attrs : Array Attribute := #[]) (ms : Array MethodInfo := #[]) (fl : Nat := 33) (sup : Nat := 0) (ifs : Array Nat := #[]) (fds : Array FieldInfo := #[]) : ClassFile where
  minorVersion := 0
  majorVersion := 65
  constantPool := pool
  accessFlags := fl
  thisClass := this
  superClass := sup
  interfaces := ifs
  fields := fds
  methods := ms
  attributes := attrs
def plain (name : String) (sup : Option ClassId) : Class where
  name := name
  kind := .ordinary
  loader := none
  accessFlags := 33
  super := sup
  interfaces := #[]
  cf := none
  fields := #[]
  methods := #[]
  instanceTypes := #[]
  staticTypes := #[]
  resolved := #[]
  callSites := []
  init := .initialized
  statics := none
  mirror := none

def pool0 : Array CpInfo := pool [(5, u "<init>"), (0, u "()V"), (1, .class_ 10), (1, u "java/lang/Object")] 113

def k0m0 : Method := { name := "<init>", desc := "()V", sig := { parameters := [], returnType := none }, accessFlags := 1, code := none }
/-- java/lang/Object -/
def k0 : Class := { plain "java/lang/Object" none with
  accessFlags := 33
  interfaces := #[]
  cf := some (fileOf pool0 8 #[] #[{ accessFlags := 1, nameIndex := 5, descriptorIndex := 6, attributes := #[] }] 33 0 #[] #[])
  fields := #[]
  methods := #[k0m0]
  instanceTypes := #[]
  staticTypes := #[]
  resolved := Array.replicate 124 none
  statics := none }

def pool1 : Array CpInfo := pool [(2, .class_ 4), (1, u "java/lang/Object"), (0, u "<init>"), (0, u "()V"), (0, .integer 2147483647), (0, .methodref 9 10), (0, .class_ 11), (0, .nameAndType 12 13), (0, u "com/example/tideline/tideline/compare/LoadedKeys"), (0, u "key"), (0, u "(I)[B"), (0, .methodref 15 16), (0, .class_ 17), (0, .nameAndType 18 19), (0, u "com/example/tideline/tideline/compare/LoadedKeysKeyPinLaw"), (0, u "isDigit"), (0, u "(B)Z"), (0, .long 10), (4, u "law"), (0, u "(I)Z")] 4

def k1m0 : Method := { name := "<init>", desc := "()V", sig := { parameters := [], returnType := none }, accessFlags := 2, code := none }
def k1c1 : Code := { maxStack := 2, maxLocals := 1, code := method_2_code, exceptionTable := #[], attributes := #[] }
def k1m1 : Method := { name := "isDigit", desc := "(B)Z", sig := { parameters := [.byte], returnType := some .boolean }, accessFlags := 10, code := some k1c1 }
def k1c2 : Code := { maxStack := 4, maxLocals := 6, code := code, exceptionTable := #[], attributes := #[] }
def k1m2 : Method := { name := "law", desc := "(I)Z", sig := { parameters := [.int], returnType := some .boolean }, accessFlags := 9, code := some k1c2 }
/-- com/example/tideline/tideline/compare/LoadedKeysKeyPinLaw -/
def k1 : Class := { plain "com/example/tideline/tideline/compare/LoadedKeysKeyPinLaw" (some 0) with
  accessFlags := 49
  interfaces := #[]
  cf := some (fileOf pool1 15 #[] #[{ accessFlags := 2, nameIndex := 5, descriptorIndex := 6, attributes := #[] }, { accessFlags := 10, nameIndex := 18, descriptorIndex := 19, attributes := #[] }, { accessFlags := 9, nameIndex := 25, descriptorIndex := 26, attributes := #[] }] 49 2 #[] #[])
  fields := #[]
  methods := #[k1m0, k1m1, k1m2]
  instanceTypes := #[]
  staticTypes := #[]
  resolved := Array.replicate 31 none
  statics := none }

def pool2 : Array CpInfo := pool [(1, .class_ 2), (0, u "com/example/tideline/tideline/compare/LoadedKeys"), (1, .class_ 6), (1, u "java/lang/Object"), (0, u "<init>"), (0, u "()V"), (10, u "key"), (0, u "(I)[B"), (16, .class_ 38), (0, u "com/example/tideline/tideline/compare/LoadedKeys$Puts"), (14, u "KEY_BYTES"), (0, u "I"), (2, u "VALUE_BYTES"), (1, u "UPDATE_PUTS"), (1, u "LOAD_BATCH"), (1, u "KEY_DIGITS")] 16

def k2m0 : Method := { name := "<init>", desc := "()V", sig := { parameters := [], returnType := none }, accessFlags := 2, code := none }
def k2c1 : Code := { maxStack := 5, maxLocals := 4, code := prog_114_method_4_code, exceptionTable := #[], attributes := #[] }
def k2m1 : Method := { name := "key", desc := "(I)[B", sig := { parameters := [.int], returnType := some (.array .byte) }, accessFlags := 8, code := some k2c1 }
/-- com/example/tideline/tideline/compare/LoadedKeys -/
def k2 : Class := { plain "com/example/tideline/tideline/compare/LoadedKeys" (some 0) with
  accessFlags := 48
  interfaces := #[]
  cf := some (fileOf pool2 1 #[.nestMembers #[37]] #[{ accessFlags := 2, nameIndex := 7, descriptorIndex := 8, attributes := #[] }, { accessFlags := 8, nameIndex := 19, descriptorIndex := 20, attributes := #[] }] 48 4 #[] #[{ accessFlags := 24, nameIndex := 53, descriptorIndex := 54, attributes := #[] }, { accessFlags := 24, nameIndex := 57, descriptorIndex := 54, attributes := #[] }, { accessFlags := 24, nameIndex := 59, descriptorIndex := 54, attributes := #[] }, { accessFlags := 24, nameIndex := 61, descriptorIndex := 54, attributes := #[] }, { accessFlags := 26, nameIndex := 63, descriptorIndex := 54, attributes := #[] }])
  fields := #[{ name := "KEY_BYTES", type := .int, accessFlags := 24, slot := 0, constantValue := 0 }, { name := "VALUE_BYTES", type := .int, accessFlags := 24, slot := 1, constantValue := 0 }, { name := "UPDATE_PUTS", type := .int, accessFlags := 24, slot := 2, constantValue := 0 }, { name := "LOAD_BATCH", type := .int, accessFlags := 24, slot := 3, constantValue := 0 }, { name := "KEY_DIGITS", type := .int, accessFlags := 26, slot := 4, constantValue := 0 }]
  methods := #[k2m0, k2m1]
  instanceTypes := #[]
  staticTypes := #[.int, .int, .int, .int, .int]
  resolved := Array.replicate 80 none
  statics := none }

def pool3 : Array CpInfo := pool [(1, u "java/lang/Cloneable"), (0, .class_ 1), (0, u "java/lang/Object"), (0, .class_ 3)] 3

/-- java/lang/Cloneable -/
def k3 : Class := { plain "java/lang/Cloneable" (some 0) with
  accessFlags := 1537
  interfaces := #[]
  cf := some (fileOf pool3 2 #[] #[] 1537 4 #[] #[])
  fields := #[]
  methods := #[]
  instanceTypes := #[]
  staticTypes := #[]
  resolved := Array.replicate 8 none
  statics := none }

def pool4 : Array CpInfo := pool [(1, u "java/io/Serializable"), (0, .class_ 1), (0, u "java/lang/Object"), (0, .class_ 3)] 3

/-- java/io/Serializable -/
def k4 : Class := { plain "java/io/Serializable" (some 0) with
  accessFlags := 1537
  interfaces := #[]
  cf := some (fileOf pool4 2 #[] #[] 1537 4 #[] #[])
  fields := #[]
  methods := #[]
  instanceTypes := #[]
  staticTypes := #[]
  resolved := Array.replicate 8 none
  statics := none }

/-- the primitive byte -/
def k5 : Class := { plain "byte" none with kind := .primitive 'B', accessFlags := 0x411 }
/-- [B -/
def k6 : Class := { plain "[B" (some 0) with kind := .array 5 .byte, interfaces := #[3, 4], accessFlags := 1041 }

/-- the primitive int -/
def k7 : Class := { plain "int" none with kind := .primitive 'I', accessFlags := 0x411 }
/-- [I -/
def k8 : Class := { plain "[I" (some 0) with kind := .array 7 .int, interfaces := #[3, 4], accessFlags := 1041 }

def heap : Heap := #[]
def classes : Array Class := #[k0, k1, k2, k3, k4, k5, k6, k7, k8]
def interned : List (Array UInt16 × Addr) := []
def slotsUsed : Nat := 0
def theMethod : MethodId := ⟨1, 2⟩
def args0 : Array Value := #[.int 5]
def aboutOver (below : List Frame) : State where
  vm := { classes := classes, interned := interned.toArray }
  heap := heap
  slotsUsed := slotsUsed
  threads := #[{ frames := .invoking theMethod args0 :: below }]
def below0 : List Frame := [.native { method := ⟨0, 0⟩, args := #[] }]
def about1 : State := aboutOver below0
def p0 : Program := .bare "" "" ""
def e0 : Env := launch0.env 0 0 0
theorem w_frames : about1.frames = Frame.invoking theMethod args0 :: below0 := rfl
set_option maxRecDepth 65536 in
theorem w_args : argsFit about1.vm theMethod args0 = true := by decide +kernel
set_option maxRecDepth 65536 in
theorem w_heap : heapFits about1 = true := by decide +kernel
set_option maxRecDepth 65536 in
theorem w_runnable : about1.curStatus? = some .runnable := by decide +kernel
set_option maxRecDepth 65536 in
theorem w_alone : about1.alone = true := by decide +kernel
set_option maxRecDepth 65536 in
theorem w_named : about1.methodNamed? x = some theMethod := by decide +kernel
set_option maxRecDepth 65536 in
theorem w_hears : about1.hears theMethod below0 = true := by decide +kernel
set_option maxRecDepth 65536 in
theorem w_ripe : about1.ripe theMethod args0 below0 = true := by decide +kernel
theorem w_running : about1.status = .running := rfl
set_option maxRecDepth 65536 in
theorem w_room : about1.hasRoom e0.platform room_1 = true :=
  launch0.hasRoom_least _ room_1 (by decide +kernel) (by decide +kernel) (by decide +kernel) (by decide +kernel) (by decide +kernel) (by decide +kernel)
theorem allAtoms_all (ts : List Jvm.Cond) (a : Array Jvm.Value) (st : Jvm.State) : (allAtoms ts).before a st = ts.all (fun c => c.before a st) := by
  induction ts with
  | nil => rfl
  | cons c t ih =>
    show (Jvm.Cond.and c (allAtoms t)).before a st = _
    rw [Jvm.Cond.before_and, ih, List.all_cons]
def words1 : List Jvm.Cond := Jvm.Cond.code x code maxLocals ret :: tables_1
/-- a 'code' word, met by the world's own term for the bytes: nothing is compared byte by byte -/
theorem code_word {y : MethodName} {bytes : ByteArray} {mx : Nat} {rt : Option FieldType} {a : Array Value} {s : State} {m : MethodId} {meth : Method} {c : Code} (h1 : s.methodNamed? y = some m) (h2 : s.vm.method? m = some meth) (h3 : meth.code = some c) (h4 : c.code = bytes)
    (h5 : (c.maxLocals == mx && c.exceptionTable.isEmpty && decide (c.maxStack ≤ mostOperands) && decide (meth.sig.returnType = rt) && !meth.locks && decide (parseMethodDescriptor y.desc = some meth.sig)) = true) : (Jvm.Cond.code y bytes mx rt).before a s = true := by
  simp only [Bool.and_eq_true, beq_iff_eq, Bool.not_eq_true', decide_eq_true_eq] at h5
  obtain ⟨⟨⟨⟨⟨g1, g2⟩, g3⟩, g4⟩, g5⟩, g6⟩ := h5
  simp [Cond.before, Cond.holds, Cond.value, h1, h2, h3, h4, g1, g2, g3, g4, g5, g6]
def isCode : Jvm.Cond → Bool
  | .code _ _ _ _ => true
  | _ => false
theorem all_split {L : List Jvm.Cond} {P : Jvm.Cond → Bool} (h1 : L.all (fun c => isCode c || P c) = true) (h2 : ∀ c ∈ L.filter isCode, P c = true) : L.all P = true := by
  refine List.all_eq_true.mpr fun c hc => ?_
  have h := List.all_eq_true.mp h1 c hc
  rcases Bool.eq_false_or_eq_true (isCode c) with hi | hi
  · exact h2 c (List.mem_filter.mpr ⟨hc, hi⟩)
  · simpa [hi] using h
set_option maxRecDepth 65536 in
theorem w_c0 : (Jvm.Cond.code x code maxLocals ret).before args0 about1 = true := code_word (m := ⟨1, 2⟩) (meth := k1m2) (c := k1c2) (by decide +kernel) rfl rfl rfl (by decide +kernel)
set_option maxRecDepth 65536 in
theorem w_c1 : (Jvm.Cond.code ({ cls := "com/example/tideline/tideline/compare/LoadedKeys", name := "key", desc := "(I)[B" } : Jvm.MethodName) prog_114_method_4_code (4 : Nat) (Option.some (Jvm.ClassFile.FieldType.array Jvm.ClassFile.FieldType.byte))).before args0 about1 = true := code_word (m := ⟨2, 1⟩) (meth := k2m1) (c := k2c1) (by decide +kernel) rfl rfl rfl (by decide +kernel)
set_option maxRecDepth 65536 in
theorem w_c2 : (Jvm.Cond.code ({ cls := "com/example/tideline/tideline/compare/LoadedKeysKeyPinLaw", name := "isDigit", desc := "(B)Z" } : Jvm.MethodName) method_2_code (1 : Nat) (Option.some Jvm.ClassFile.FieldType.boolean)).before args0 about1 = true := code_word (m := ⟨1, 1⟩) (meth := k1m1) (c := k1c1) (by decide +kernel) rfl rfl rfl (by decide +kernel)
def codes1 : List Jvm.Cond := [Jvm.Cond.code x code maxLocals ret, Jvm.Cond.code ({ cls := "com/example/tideline/tideline/compare/LoadedKeys", name := "key", desc := "(I)[B" } : Jvm.MethodName) prog_114_method_4_code (4 : Nat) (Option.some (Jvm.ClassFile.FieldType.array Jvm.ClassFile.FieldType.byte)), Jvm.Cond.code ({ cls := "com/example/tideline/tideline/compare/LoadedKeysKeyPinLaw", name := "isDigit", desc := "(B)Z" } : Jvm.MethodName) method_2_code (1 : Nat) (Option.some Jvm.ClassFile.FieldType.boolean)]
set_option maxRecDepth 65536 in
theorem codes_eq : words1.filter isCode = codes1 := rfl
theorem w_codes : ∀ c ∈ words1.filter isCode, c.before args0 about1 = true := by
  rw [codes_eq]
  intro c hc
  simp only [codes1, List.mem_cons, List.not_mem_nil, or_false] at hc
  rcases hc with rfl | rfl | rfl
  · exact w_c0
  · exact w_c1
  · exact w_c2
set_option maxRecDepth 65536 in
theorem w_t1 : words1.all (fun c => isCode c || c.before args0 about1) = true := by decide +kernel
theorem w_tables : (allAtoms (Jvm.Cond.code x code maxLocals ret :: tables_1)).before args0 about1 = true := by
  rw [allAtoms_all]
  show words1.all (fun c => c.before args0 about1) = true
  refine all_split ?_ w_codes
  rw [w_t1]
set_option maxRecDepth 65536 in
theorem w_case : (Jvm.Cond.and given_1 narrow_1).before args0 about1 = true := by decide +kernel
theorem w_applies : (headSpec (Jvm.Cond.code x code maxLocals ret :: tables_1) room_1).applies x e0.platform about1 = true :=
  (Spec.applies_iff w_frames).mpr ⟨w_running, w_runnable, w_alone, w_named, w_hears, w_ripe, w_room, w_tables⟩
theorem atStart : AtStart classFile x code maxLocals ret World_1 tables_1 room_1 Calls_1 rest_1 Pre_1 launch0 p0 e0 about1 theMethod args0 below0 :=
  ⟨lists_1, trivial, launch0.admits_env _ _ _, launch0.least_env, fairChoices_fair.cas, fairChoices_fair.clock, w_frames, w_args, w_heap, w_applies, trivial, trivial, w_case⟩
end start1
theorem witness_1 : WitnessClaimed_1 := ⟨start1.p0, start1.e0, start1.about1, start1.theMethod, start1.args0, start1.below0, start1.atStart⟩
end Jvm.Pilot.@@N@@
