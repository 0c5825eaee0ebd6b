import JvmDerived
import JvmDerived.Pilot.@@N@@Statement
import JvmDerived.Pilot.@@N@@Code
set_option linter.unusedVariables false
set_option linter.unusedSimpArgs false
namespace Jvm.RoadKit
open Sem ClassFile Op Lib Jvm.Stand Jvm.Free Jvm.LawKit
section New
variable {p : Program} {l : Launch} {e : Env} {R : Room} {s : State} {m : MethodId} {args : Array Value} {below : List Frame} {meth : Method} {c : Code} {T : State} {locs : List Loc} {cells slots : Nat}
end New
end Jvm.RoadKit
namespace Jvm.Pilot.@@N@@
open Jvm Jvm.ClassFile Sem Op Lib Jvm.Free Jvm.Stand Jvm.LawKit Jvm.RoadKit Bundle Jvm.Pilot.@@N@@.Jvm.D
section Own
variable {p : Program} {l : Launch} {e : Env} {R : Room} {s : State} {m : MethodId} {args : Array Value} {below : List Frame} {meth : Method} {c : Code} {bs : ByteArray} {ml : Nat} {own nm : String} {rt : Option FieldType} {Z : State} {F : State → Outcome → Prop} {n0 : Nat} {h h' : Heap} {cells slots : Nat} {pc q : Nat} {Ls Ls' : Array Slot} {st : List Value} {a0 : Array Value}
def oCx (p : Program) (s : State) (m : MethodId) (meth : Method) (c : Code) (bs : ByteArray) (ml : Nat) (own nm : String) (rt : Option FieldType) (Z : State) : Prop :=
  p.tables.exec = Jvm.exec ∧ c.code = bs ∧ c.maxLocals = ml ∧ s.vm.findClass own = some m.cls ∧ Z.Warmed39 s.vm ∧ meth.name = nm ∧ meth.sig.returnType = rt ∧ meth.locks = false
def oW (p : Program) (l : Launch) (e : Env) (R : Room) (s : State) (m : MethodId) (args : Array Value) (below : List Frame) (meth : Method) (c : Code) (F : State → Outcome → Prop) (n0 : Nat) (h : Heap) (cells slots : Nat) (f : JFrame) : Prop :=
  ∀ (T : State) (locs : List Loc), Stand p l e R s m args below meth c T locs cells slots → T.heap = h → Fr n0 locs → ∃ s₂ o, Steps p.tables e below (T.setTop f) s₂ ∧ s₂.status = .running ∧ Ended s₂ below o ∧ F s₂ o
def oFin (s : State) (n0 k n : Nat) (Q : Option Value → Heap → Prop) (s₂ : State) (o : Outcome) : Prop := ∃ v L, o = .returned v ∧ (Fr n0 L ∧ Q v s₂.heap) ∧ FrameEnd s o s₂ L k n
def oMet (l : Launch) (Z : State) (y : MethodName) (bs : ByteArray) (ml : Nat) (rt : Option FieldType) (ws : List Jvm.Cond) (R : Room) (k n n0 : Nat) (as' : Array Value) (h0 : Heap) (Q : Option Value → Heap → Prop) : Prop :=
  MetFree l y (head1 (Jvm.Cond.code y bs ml rt :: ws) R) (fun a U => a = as' ∧ Z.Warmed39 U.vm ∧ U.heap = h0) (fun _ _ _ _ _ => True) (fun _ U o U' => ∃ v L, o = .returned v ∧ (Fr n0 L ∧ Q v U'.heap) ∧ FrameEnd U o U' L k n)
theorem oMet.intro {y : MethodName} {ws : List Jvm.Cond} {k n : Nat} {as' : Array Value} {h0 : Heap} {Q : Option Value → Heap → Prop} (pn : plainFor y = true) (ef : ∀ m, entryFrame m as' ml = mkF m 0 Ls [])
    (body : ∀ (p : Program) (e : Env) (s : State) (m : MethodId) (below : List Frame) (meth : Method) (c : Code), oCx p s m meth c bs ml y.cls y.name rt Z → oW p l e R s m as' below meth c (oFin s n0 k n Q) n0 h0 0 0 (mkF m 0 Ls [])) :
    oMet l Z y bs ml rt ws R k n n0 as' h0 Q := by
  refine MetFree.of_bodySF pn hisR ?_
  intro p e s m args below meth c s₁ Bd hml0 hP hK
  obtain ⟨rfl, hZ, hh⟩ := hP
  have e0 : s₁.heap = h0 := by rw [← hh, Bd.state]; rfl
  have C : oCx p s m meth c bs ml y.cls y.name rt Z := ⟨Bd.exec, Bd.bytes, hml0, findClass_of_methodNamed Bd.named, hZ, (name_of_methodNamed Bd.named Bd.method).1, Bd.returns, Bd.notSynchronized⟩
  obtain ⟨s₂, o, h1, h2, h3, h4⟩ := body p e s m below meth c C s₁ [] (Stand.of_body Bd) e0 (Fr.nil n0)
  exact ⟨s₂, o, castTop (ef m) h1, h2, h3, h4⟩
theorem oMet.mono {y : MethodName} {ws : List Jvm.Cond} {k n : Nat} {as' : Array Value} {h0 : Heap} {Q Q' : Option Value → Heap → Prop} (M : oMet l Z y bs ml rt ws R k n n0 as' h0 Q) (hq : ∀ v h, Q v h → Q' v h) : oMet l Z y bs ml rt ws R k n n0 as' h0 Q' := by
  intro p e ha hc hk s m args below hf happ hP hK
  obtain ⟨n', o, h1, h2, h3, v, L, h4, ⟨h5, h6⟩, h7⟩ := M p e ha hc hk s m args below hf happ hP hK
  exact ⟨n', o, h1, h2, h3, v, L, h4, ⟨h5, hq _ _ h6⟩, h7⟩
theorem oW.of {f f' : JFrame} (k : ∀ (T : State) (locs : List Loc), Stand p l e R s m args below meth c T locs cells slots → ∀ t, Steps p.tables e below (T.setTop f') t → Steps p.tables e below (T.setTop f) t)
    (g : oW p l e R s m args below meth c F n0 h cells slots f') : oW p l e R s m args below meth c F n0 h cells slots f := fun T locs X eT N => by
  obtain ⟨s₂, o, h1, h2⟩ := g T locs X eT N
  exact ⟨s₂, o, k T locs X _ h1, h2⟩
theorem oW.to {f f' : JFrame} (k : ∀ (T : State) (locs : List Loc), Stand p l e R s m args below meth c T locs cells slots → T.heap = h → ∃ T', Stand p l e R s m args below meth c T' locs cells slots ∧ T'.heap = h ∧ ∀ t, Steps p.tables e below (T'.setTop f') t → Steps p.tables e below (T.setTop f) t)
    (g : oW p l e R s m args below meth c F n0 h cells slots f') : oW p l e R s m args below meth c F n0 h cells slots f := fun T locs X eT N => by
  obtain ⟨T', X', eT', k'⟩ := k T locs X eT
  obtain ⟨s₂, o, h1, h2⟩ := g T' locs X' eT' N
  exact ⟨s₂, o, k' _ h1, h2⟩
theorem oIloadN (C : oCx p s m meth c bs ml own nm rt Z) {k : Fin 4} {v : Int32} (hd : decode bs pc = .ok (.iload_n k, 1)) (hl : Ls[k.val]? = some (.val (.int v))) (hq : pc + 1 = q) (g : oW p l e R s m args below meth c F n0 h cells slots (mkF m q Ls (.int v :: st))) : oW p l e R s m args below meth c F n0 h cells slots (mkF m pc Ls (st)) := by
  subst hq; exact oW.of (fun T locs X t k => XS.iloadN X.here C.1 rfl (hb C.2.1 hd) hl k) g
theorem oIload (C : oCx p s m meth c bs ml own nm rt Z) {k : Nat} {v : Int32} (hd : decode bs pc = .ok (.iload k, 2)) (hl : Ls[k]? = some (.val (.int v))) (hq : pc + 2 = q) (g : oW p l e R s m args below meth c F n0 h cells slots (mkF m q Ls (.int v :: st))) : oW p l e R s m args below meth c F n0 h cells slots (mkF m pc Ls (st)) := by
  subst hq; exact oW.of (fun T locs X t k => XS.iload X.here C.1 rfl (hb C.2.1 hd) hl k) g
theorem oLloadN (C : oCx p s m meth c bs ml own nm rt Z) {k : Fin 4} {v : Int64} (hd : decode bs pc = .ok (.lload_n k, 1)) (hl : Ls[k.val]? = some (.val (.long v))) (hq : pc + 1 = q) (g : oW p l e R s m args below meth c F n0 h cells slots (mkF m q Ls (.long v :: st))) : oW p l e R s m args below meth c F n0 h cells slots (mkF m pc Ls (st)) := by
  subst hq; exact oW.of (fun T locs X t k => XS.lloadN X.here C.1 rfl (hb C.2.1 hd) hl k) g
theorem oLload (C : oCx p s m meth c bs ml own nm rt Z) {k : Nat} {v : Int64} (hd : decode bs pc = .ok (.lload k, 2)) (hl : Ls[k]? = some (.val (.long v))) (hq : pc + 2 = q) (g : oW p l e R s m args below meth c F n0 h cells slots (mkF m q Ls (.long v :: st))) : oW p l e R s m args below meth c F n0 h cells slots (mkF m pc Ls (st)) := by
  subst hq; exact oW.of (fun T locs X t k => XS.lload X.here C.1 rfl (hb C.2.1 hd) hl k) g
theorem oAloadN (C : oCx p s m meth c bs ml own nm rt Z) {k : Fin 4} {v : Value} (hd : decode bs pc = .ok (.aload_n k, 1)) (hl : Ls[k.val]? = some (.val v)) (hv : v.isRef = true) (hq : pc + 1 = q) (g : oW p l e R s m args below meth c F n0 h cells slots (mkF m q Ls (v :: st))) : oW p l e R s m args below meth c F n0 h cells slots (mkF m pc Ls (st)) := by
  subst hq; exact oW.of (fun T locs X t k => XS.aloadN X.here C.1 rfl (hb C.2.1 hd) hl hv k) g
theorem oAload (C : oCx p s m meth c bs ml own nm rt Z) {k : Nat} {v : Value} (hd : decode bs pc = .ok (.aload k, 2)) (hl : Ls[k]? = some (.val v)) (hv : v.isRef = true) (hq : pc + 2 = q) (g : oW p l e R s m args below meth c F n0 h cells slots (mkF m q Ls (v :: st))) : oW p l e R s m args below meth c F n0 h cells slots (mkF m pc Ls (st)) := by
  subst hq; exact oW.of (fun T locs X t k => XS.aload X.here C.1 rfl (hb C.2.1 hd) hl hv k) g
theorem oIstore (C : oCx p s m meth c bs ml own nm rt Z) {k : Nat} {v : Int32} (hd : decode bs pc = .ok (.istore k, 2)) (hl : storeLocals Ls k (.int v) = some Ls') (hq : pc + 2 = q) (g : oW p l e R s m args below meth c F n0 h cells slots (mkF m q Ls' (st))) : oW p l e R s m args below meth c F n0 h cells slots (mkF m pc Ls (.int v :: st)) := by
  subst hq; exact oW.of (fun T locs X t k => XS.istore X.here C.1 rfl (hb C.2.1 hd) rfl hl k) g
theorem oLstore (C : oCx p s m meth c bs ml own nm rt Z) {k : Nat} {v : Int64} (hd : decode bs pc = .ok (.lstore k, 2)) (hl : storeLocals Ls k (.long v) = some Ls') (hq : pc + 2 = q) (g : oW p l e R s m args below meth c F n0 h cells slots (mkF m q Ls' (st))) : oW p l e R s m args below meth c F n0 h cells slots (mkF m pc Ls (.long v :: st)) := by
  subst hq; exact oW.of (fun T locs X t k => XS.lstore X.here C.1 rfl (hb C.2.1 hd) rfl hl k) g
theorem oAstore (C : oCx p s m meth c bs ml own nm rt Z) {k : Nat} {v : Value} (hd : decode bs pc = .ok (.astore k, 2)) (hv : v.isRef = true) (hl : storeLocals Ls k v = some Ls') (hq : pc + 2 = q) (g : oW p l e R s m args below meth c F n0 h cells slots (mkF m q Ls' (st))) : oW p l e R s m args below meth c F n0 h cells slots (mkF m pc Ls (v :: st)) := by
  subst hq; exact oW.of (fun T locs X t k => XS.astore X.here C.1 rfl (hb C.2.1 hd) rfl hv hl k) g
theorem oIconst (C : oCx p s m meth c bs ml own nm rt Z) {i : Int} {z : Int32} (hd : decode bs pc = .ok (.iconst i, 1)) (hz : Int32.ofInt i = z) (hq : pc + 1 = q) (g : oW p l e R s m args below meth c F n0 h cells slots (mkF m q Ls (.int z :: st))) : oW p l e R s m args below meth c F n0 h cells slots (mkF m pc Ls (st)) := by
  subst hq; exact oW.of (fun T locs X t k => XS.iconst X.here C.1 rfl (hb C.2.1 hd) (hz ▸ k)) g
theorem oIadd (C : oCx p s m meth c bs ml own nm rt Z) {x y : Int32} (hd : decode bs pc = .ok (.iadd, 1)) (hq : pc + 1 = q) (g : oW p l e R s m args below meth c F n0 h cells slots (mkF m q Ls (.int (x + y) :: st))) : oW p l e R s m args below meth c F n0 h cells slots (mkF m pc Ls (.int y :: .int x :: st)) := by
  subst hq; exact oW.of (fun T locs X t k => XS.iadd X.here C.1 rfl (hb C.2.1 hd) rfl k) g
theorem oIsub (C : oCx p s m meth c bs ml own nm rt Z) {x y : Int32} (hd : decode bs pc = .ok (.isub, 1)) (hq : pc + 1 = q) (g : oW p l e R s m args below meth c F n0 h cells slots (mkF m q Ls (.int (x - y) :: st))) : oW p l e R s m args below meth c F n0 h cells slots (mkF m pc Ls (.int y :: .int x :: st)) := by
  subst hq; exact oW.of (fun T locs X t k => XS.isub X.here C.1 rfl (hb C.2.1 hd) rfl k) g
theorem oIand (C : oCx p s m meth c bs ml own nm rt Z) {x y : Int32} (hd : decode bs pc = .ok (.iand, 1)) (hq : pc + 1 = q) (g : oW p l e R s m args below meth c F n0 h cells slots (mkF m q Ls (.int (x &&& y) :: st))) : oW p l e R s m args below meth c F n0 h cells slots (mkF m pc Ls (.int y :: .int x :: st)) := by
  subst hq; exact oW.of (fun T locs X t k => XS.iand X.here C.1 rfl (hb C.2.1 hd) rfl k) g
theorem oIrem (C : oCx p s m meth c bs ml own nm rt Z) {x y : Int32} (hd : decode bs pc = .ok (.irem, 1)) (hy : y ≠ 0) (hq : pc + 1 = q) (g : oW p l e R s m args below meth c F n0 h cells slots (mkF m q Ls (.int (x % y) :: st))) : oW p l e R s m args below meth c F n0 h cells slots (mkF m pc Ls (.int y :: .int x :: st)) := by
  subst hq; exact oW.of (fun T locs X t k => iremM X C.1 rfl (hb C.2.1 hd) rfl hy k) g
theorem oIushr (C : oCx p s m meth c bs ml own nm rt Z) {x y : Int32} (hd : decode bs pc = .ok (.iushr, 1)) (hq : pc + 1 = q) (g : oW p l e R s m args below meth c F n0 h cells slots (mkF m q Ls (.int ((x.toUInt32 >>> (y &&& 31).toUInt32).toInt32) :: st))) : oW p l e R s m args below meth c F n0 h cells slots (mkF m pc Ls (.int y :: .int x :: st)) := by
  subst hq; exact oW.of (fun T locs X t k => XS.iushr X.here C.1 rfl (hb C.2.1 hd) rfl k) g
theorem oDup (C : oCx p s m meth c bs ml own nm rt Z) {x : Value} (hd : decode bs pc = .ok (.dup, 1)) (hc : x.category = 1) (hq : pc + 1 = q) (g : oW p l e R s m args below meth c F n0 h cells slots (mkF m q Ls (x :: x :: st))) : oW p l e R s m args below meth c F n0 h cells slots (mkF m pc Ls (x :: st)) := by
  subst hq; exact oW.of (fun T locs X t k => XS.dup X.here C.1 rfl (hb C.2.1 hd) rfl hc k) g
theorem oGoto (C : oCx p s m meth c bs ml own nm rt Z) {o : Int} (hd : decode bs pc = .ok (.goto o, 3)) (ho : 0 ≤ (pc : Int) + o) (hp : ((pc : Int) + o).toNat = q) (g : oW p l e R s m args below meth c F n0 h cells slots (mkF m q Ls (st))) : oW p l e R s m args below meth c F n0 h cells slots (mkF m pc Ls (st)) :=
  oW.of (fun T locs X t k => XS.goto X.here C.1 rfl (pc0 := pc) rfl (hb C.2.1 hd) ho hp k) g
theorem oIf_eq (C : oCx p s m meth c bs ml own nm rt Z) {x : Int32} {o : Int} {r : Nat} (hd : decode bs pc = .ok (.ifCond .eq o, 3)) (ho : 0 ≤ (pc : Int) + o) (hp : ((pc : Int) + o).toNat = q) (hr : pc + 3 = r) (gy : x = 0 → oW p l e R s m args below meth c F n0 h cells slots (mkF m q Ls (st))) (gn : ¬ x = 0 → oW p l e R s m args below meth c F n0 h cells slots (mkF m r Ls (st))) : oW p l e R s m args below meth c F n0 h cells slots (mkF m pc Ls (.int x :: st)) := by
  subst hr
  by_cases hc : x = 0
  · exact oW.of (fun T locs X t k => XS.ifYes X.here C.1 rfl (pc0 := pc) rfl (hb C.2.1 hd) rfl ((if0 _ _).trans (teq hc).1) ho hp k) (gy hc)
  · exact oW.of (fun T locs X t k => XS.ifNo X.here C.1 rfl (hb C.2.1 hd) rfl ((if0 _ _).trans (feq hc).1) k) (gn hc)
theorem oIcmp_ne (C : oCx p s m meth c bs ml own nm rt Z) {x y : Int32} {o : Int} {r : Nat} (hd : decode bs pc = .ok (.if_icmp .ne o, 3)) (ho : 0 ≤ (pc : Int) + o) (hp : ((pc : Int) + o).toNat = q) (hr : pc + 3 = r) (gy : ¬ x = y → oW p l e R s m args below meth c F n0 h cells slots (mkF m q Ls (st))) (gn : x = y → oW p l e R s m args below meth c F n0 h cells slots (mkF m r Ls (st))) : oW p l e R s m args below meth c F n0 h cells slots (mkF m pc Ls (.int y :: .int x :: st)) := by
  subst hr
  by_cases hc : x = y
  · exact oW.of (fun T locs X t k => XS.icmpNo X.here C.1 rfl (hb C.2.1 hd) rfl (teq hc).2 k) (gn hc)
  · exact oW.of (fun T locs X t k => XS.icmpYes X.here C.1 rfl (pc0 := pc) rfl (hb C.2.1 hd) rfl (feq hc).2 ho hp k) (gy hc)
theorem oIf_ne (C : oCx p s m meth c bs ml own nm rt Z) {x : Int32} {o : Int} {r : Nat} (hd : decode bs pc = .ok (.ifCond .ne o, 3)) (ho : 0 ≤ (pc : Int) + o) (hp : ((pc : Int) + o).toNat = q) (hr : pc + 3 = r) (gy : ¬ x = 0 → oW p l e R s m args below meth c F n0 h cells slots (mkF m q Ls (st))) (gn : x = 0 → oW p l e R s m args below meth c F n0 h cells slots (mkF m r Ls (st))) : oW p l e R s m args below meth c F n0 h cells slots (mkF m pc Ls (.int x :: st)) := by
  subst hr
  by_cases hc : x = 0
  · exact oW.of (fun T locs X t k => XS.ifNo X.here C.1 rfl (hb C.2.1 hd) rfl ((if0 _ _).trans (teq hc).2) k) (gn hc)
  · exact oW.of (fun T locs X t k => XS.ifYes X.here C.1 rfl (pc0 := pc) rfl (hb C.2.1 hd) rfl ((if0 _ _).trans (feq hc).2) ho hp k) (gy hc)
theorem oIcmp_lt (C : oCx p s m meth c bs ml own nm rt Z) {x y : Int32} {o : Int} {r : Nat} (hd : decode bs pc = .ok (.if_icmp .lt o, 3)) (ho : 0 ≤ (pc : Int) + o) (hp : ((pc : Int) + o).toNat = q) (hr : pc + 3 = r) (gy : x < y → oW p l e R s m args below meth c F n0 h cells slots (mkF m q Ls (st))) (gn : ¬ x < y → oW p l e R s m args below meth c F n0 h cells slots (mkF m r Ls (st))) : oW p l e R s m args below meth c F n0 h cells slots (mkF m pc Ls (.int y :: .int x :: st)) := by
  subst hr
  by_cases hc : x < y
  · exact oW.of (fun T locs X t k => XS.icmpYes X.here C.1 rfl (pc0 := pc) rfl (hb C.2.1 hd) rfl (tlt hc).1 ho hp k) (gy hc)
  · exact oW.of (fun T locs X t k => XS.icmpNo X.here C.1 rfl (hb C.2.1 hd) rfl (flt hc).1 k) (gn hc)
theorem oIf_lt (C : oCx p s m meth c bs ml own nm rt Z) {x : Int32} {o : Int} {r : Nat} (hd : decode bs pc = .ok (.ifCond .lt o, 3)) (ho : 0 ≤ (pc : Int) + o) (hp : ((pc : Int) + o).toNat = q) (hr : pc + 3 = r) (gy : x < 0 → oW p l e R s m args below meth c F n0 h cells slots (mkF m q Ls (st))) (gn : ¬ x < 0 → oW p l e R s m args below meth c F n0 h cells slots (mkF m r Ls (st))) : oW p l e R s m args below meth c F n0 h cells slots (mkF m pc Ls (.int x :: st)) := by
  subst hr
  by_cases hc : x < 0
  · exact oW.of (fun T locs X t k => XS.ifYes X.here C.1 rfl (pc0 := pc) rfl (hb C.2.1 hd) rfl ((if0 _ _).trans (tlt hc).1) ho hp k) (gy hc)
  · exact oW.of (fun T locs X t k => XS.ifNo X.here C.1 rfl (hb C.2.1 hd) rfl ((if0 _ _).trans (flt hc).1) k) (gn hc)
theorem oLcmp_lt (C : oCx p s m meth c bs ml own nm rt Z) {x y : Int64} {o : Int} {pd r : Nat} (hd0 : decode bs pc = .ok (.lcmp, 1)) (hq0 : pc + 1 = pd) (hd : decode bs pd = .ok (.ifCond .lt o, 3)) (ho : 0 ≤ (pd : Int) + o) (hp : ((pd : Int) + o).toNat = q) (hr : pd + 3 = r) (gy : x < y → oW p l e R s m args below meth c F n0 h cells slots (mkF m q Ls (st))) (gn : ¬ x < y → oW p l e R s m args below meth c F n0 h cells slots (mkF m r Ls (st))) : oW p l e R s m args below meth c F n0 h cells slots (mkF m pc Ls (.long y :: .long x :: st)) := by
  subst hq0
  refine oW.of (fun T locs X t k => XS.lcmp X.here C.1 rfl (hb C.2.1 hd0) rfl k) ?_
  exact oIf_lt C hd ho hp hr (fun w => gy ((lw_lt x y).mp w)) (fun w => gn (fun u => w ((lw_lt x y).mpr u)))
theorem oIf_ge (C : oCx p s m meth c bs ml own nm rt Z) {x : Int32} {o : Int} {r : Nat} (hd : decode bs pc = .ok (.ifCond .ge o, 3)) (ho : 0 ≤ (pc : Int) + o) (hp : ((pc : Int) + o).toNat = q) (hr : pc + 3 = r) (gy : ¬ x < 0 → oW p l e R s m args below meth c F n0 h cells slots (mkF m q Ls (st))) (gn : x < 0 → oW p l e R s m args below meth c F n0 h cells slots (mkF m r Ls (st))) : oW p l e R s m args below meth c F n0 h cells slots (mkF m pc Ls (.int x :: st)) := by
  subst hr
  by_cases hc : x < 0
  · exact oW.of (fun T locs X t k => XS.ifNo X.here C.1 rfl (hb C.2.1 hd) rfl ((if0 _ _).trans (tlt hc).2.1) k) (gn hc)
  · exact oW.of (fun T locs X t k => XS.ifYes X.here C.1 rfl (pc0 := pc) rfl (hb C.2.1 hd) rfl ((if0 _ _).trans (flt hc).2.1) ho hp k) (gy hc)
theorem oLcmp_ge (C : oCx p s m meth c bs ml own nm rt Z) {x y : Int64} {o : Int} {pd r : Nat} (hd0 : decode bs pc = .ok (.lcmp, 1)) (hq0 : pc + 1 = pd) (hd : decode bs pd = .ok (.ifCond .ge o, 3)) (ho : 0 ≤ (pd : Int) + o) (hp : ((pd : Int) + o).toNat = q) (hr : pd + 3 = r) (gy : ¬ x < y → oW p l e R s m args below meth c F n0 h cells slots (mkF m q Ls (st))) (gn : x < y → oW p l e R s m args below meth c F n0 h cells slots (mkF m r Ls (st))) : oW p l e R s m args below meth c F n0 h cells slots (mkF m pc Ls (.long y :: .long x :: st)) := by
  subst hq0
  refine oW.of (fun T locs X t k => XS.lcmp X.here C.1 rfl (hb C.2.1 hd0) rfl k) ?_
  exact oIf_ge C hd ho hp hr (fun w => gy (fun u => w ((lw_lt x y).mpr u))) (fun w => gn ((lw_lt x y).mp w))
theorem oIf_gt (C : oCx p s m meth c bs ml own nm rt Z) {x : Int32} {o : Int} {r : Nat} (hd : decode bs pc = .ok (.ifCond .gt o, 3)) (ho : 0 ≤ (pc : Int) + o) (hp : ((pc : Int) + o).toNat = q) (hr : pc + 3 = r) (gy : 0 < x → oW p l e R s m args below meth c F n0 h cells slots (mkF m q Ls (st))) (gn : ¬ 0 < x → oW p l e R s m args below meth c F n0 h cells slots (mkF m r Ls (st))) : oW p l e R s m args below meth c F n0 h cells slots (mkF m pc Ls (.int x :: st)) := by
  subst hr
  by_cases hc : 0 < x
  · exact oW.of (fun T locs X t k => XS.ifYes X.here C.1 rfl (pc0 := pc) rfl (hb C.2.1 hd) rfl ((if0 _ _).trans (tlt hc).2.2.1) ho hp k) (gy hc)
  · exact oW.of (fun T locs X t k => XS.ifNo X.here C.1 rfl (hb C.2.1 hd) rfl ((if0 _ _).trans (flt hc).2.2.1) k) (gn hc)
theorem oLcmp_gt (C : oCx p s m meth c bs ml own nm rt Z) {x y : Int64} {o : Int} {pd r : Nat} (hd0 : decode bs pc = .ok (.lcmp, 1)) (hq0 : pc + 1 = pd) (hd : decode bs pd = .ok (.ifCond .gt o, 3)) (ho : 0 ≤ (pd : Int) + o) (hp : ((pd : Int) + o).toNat = q) (hr : pd + 3 = r) (gy : y < x → oW p l e R s m args below meth c F n0 h cells slots (mkF m q Ls (st))) (gn : ¬ y < x → oW p l e R s m args below meth c F n0 h cells slots (mkF m r Ls (st))) : oW p l e R s m args below meth c F n0 h cells slots (mkF m pc Ls (.long y :: .long x :: st)) := by
  subst hq0
  refine oW.of (fun T locs X t k => XS.lcmp X.here C.1 rfl (hb C.2.1 hd0) rfl k) ?_
  exact oIf_gt C hd ho hp hr (fun w => gy ((lw_gt x y).mp w)) (fun w => gn (fun u => w ((lw_gt x y).mpr u)))
theorem oIf_le (C : oCx p s m meth c bs ml own nm rt Z) {x : Int32} {o : Int} {r : Nat} (hd : decode bs pc = .ok (.ifCond .le o, 3)) (ho : 0 ≤ (pc : Int) + o) (hp : ((pc : Int) + o).toNat = q) (hr : pc + 3 = r) (gy : ¬ 0 < x → oW p l e R s m args below meth c F n0 h cells slots (mkF m q Ls (st))) (gn : 0 < x → oW p l e R s m args below meth c F n0 h cells slots (mkF m r Ls (st))) : oW p l e R s m args below meth c F n0 h cells slots (mkF m pc Ls (.int x :: st)) := by
  subst hr
  by_cases hc : 0 < x
  · exact oW.of (fun T locs X t k => XS.ifNo X.here C.1 rfl (hb C.2.1 hd) rfl ((if0 _ _).trans (tlt hc).2.2.2) k) (gn hc)
  · exact oW.of (fun T locs X t k => XS.ifYes X.here C.1 rfl (pc0 := pc) rfl (hb C.2.1 hd) rfl ((if0 _ _).trans (flt hc).2.2.2) ho hp k) (gy hc)
theorem oLcmp_le (C : oCx p s m meth c bs ml own nm rt Z) {x y : Int64} {o : Int} {pd r : Nat} (hd0 : decode bs pc = .ok (.lcmp, 1)) (hq0 : pc + 1 = pd) (hd : decode bs pd = .ok (.ifCond .le o, 3)) (ho : 0 ≤ (pd : Int) + o) (hp : ((pd : Int) + o).toNat = q) (hr : pd + 3 = r) (gy : ¬ y < x → oW p l e R s m args below meth c F n0 h cells slots (mkF m q Ls (st))) (gn : y < x → oW p l e R s m args below meth c F n0 h cells slots (mkF m r Ls (st))) : oW p l e R s m args below meth c F n0 h cells slots (mkF m pc Ls (.long y :: .long x :: st)) := by
  subst hq0
  refine oW.of (fun T locs X t k => XS.lcmp X.here C.1 rfl (hb C.2.1 hd0) rfl k) ?_
  exact oIf_le C hd ho hp hr (fun w => gy (fun u => w ((lw_gt x y).mpr u))) (fun w => gn ((lw_gt x y).mp w))
section Rets
variable {k n : Nat} {Q : Option Value → Heap → Prop} {rt' : FieldType}
theorem oRetN (C : oCx p s m meth c bs ml own nm (some rt') Z) (ht : rt' = .boolean ∨ rt' = .byte ∨ rt' = .char ∨ rt' = .short) {z z' : Int32} (hd : decode bs pc = .ok (.ireturn, 1)) (hz : nar rt' z = z') (hk : cells ≤ k) (hn : slots ≤ n) (hQ : Q (some (.int z')) h) :
    oW p l e R s m args below meth c (oFin s n0 k n Q) n0 h cells slots (mkF m pc Ls (.int z :: st)) := fun T locs X eT N => by
  subst hz eT
  obtain ⟨fs, hr, hrun, hended, hW, hsame⟩ := X.leave (v := some (.int (nar rt' z))) (fun hh => by rw [C.2.2.2.2.2.2.1] at hh; cases hh) C.2.2.2.2.2.2.2
  exact ⟨_, _, retN X C.1 C.2.2.2.2.2.2.1 ht (hb C.2.1 hd) hr, hrun, hended, _, _, rfl, ⟨N, hQ⟩, ⟨_, rfl⟩, hW, hsame.mono hk hn⟩
theorem oRetZ (C : oCx p s m meth c bs ml own nm (some .boolean) Z) {z z' : Int32} (hd : decode bs pc = .ok (.ireturn, 1)) (hz : nar .boolean z = z') (hk : cells ≤ k) (hn : slots ≤ n) (hQ : Q (some (.int z')) h) :
    oW p l e R s m args below meth c (oFin s n0 k n Q) n0 h cells slots (mkF m pc Ls (.int z :: st)) := oRetN C (Or.inl rfl) hd hz hk hn hQ
theorem oRetL (C : oCx p s m meth c bs ml own nm (some .long) Z) {z : Int64} (hd : decode bs pc = .ok (.lreturn, 1)) (hk : cells ≤ k) (hn : slots ≤ n) (hQ : Q (some (.long z)) h) :
    oW p l e R s m args below meth c (oFin s n0 k n Q) n0 h cells slots (mkF m pc Ls [.long z]) := fun T locs X eT N => by
  subst eT
  obtain ⟨fs, hr, hrun, hended, hW, hsame⟩ := X.leave (v := some (.long z)) (fun hh => by rw [C.2.2.2.2.2.2.1] at hh; cases hh) C.2.2.2.2.2.2.2
  exact ⟨_, _, X.lreturnOut C.1 C.2.2.2.2.2.2.1 (hb C.2.1 hd) hr, hrun, hended, _, _, rfl, ⟨N, hQ⟩, ⟨_, rfl⟩, hW, hsame.mono hk hn⟩
theorem oRetV (C : oCx p s m meth c bs ml own nm none Z) (hd : decode bs pc = .ok (.return_, 1)) (hk : cells ≤ k) (hn : slots ≤ n) (hQ : Q none h) :
    oW p l e R s m args below meth c (oFin s n0 k n Q) n0 h cells slots (mkF m pc Ls []) := fun T locs X eT N => by
  subst eT
  obtain ⟨fs, hr, hrun, hended, hW, hsame⟩ := X.leave (v := none) (fun _ => rfl) C.2.2.2.2.2.2.2
  exact ⟨_, _, X.returnOut C.1 C.2.2.2.2.2.2.1 (hb C.2.1 hd) hr, hrun, hended, _, _, rfl, ⟨N, hQ⟩, ⟨_, rfl⟩, hW, hsame.mono hk hn⟩
end Rets
section Calls
variable {i : Nat} {y : MethodName} {bs' : ByteArray} {ml' : Nat} {rt' : Option FieldType} {R' : Room} {Q : Option Value → Heap → Prop} {argsL rest : List Value} {ps : List FieldType} {r' : Option FieldType} {W : Nat} {a : Addr}
theorem oCallS (C : oCx p s m meth c bs ml own nm rt Z) (w1 : (Jvm.Cond.methodLink own i y).before a0 Z = true) (w2 : (Jvm.Cond.static y).before a0 Z = true) (w3 : (Jvm.Cond.initialized y.cls).before a0 Z = true) (w4 : (Jvm.Cond.code y bs' ml' rt').before a0 Z = true) (hd : decode bs pc = .ok (.invokestatic i, 3))
    (hy : y.cls ≠ "java/lang/invoke/MethodHandle" ∧ y.cls ≠ "java/lang/invoke/VarHandle") (hpd : parseMethodDescriptor y.desc = some ⟨ps, r'⟩) (hlen : argsL.length = ps.length) (hsz : Ls.size = ml) (hst : argsL.reverse ++ rest = st) (hW : (rest.map fun v => v.category).sum = W) (hq : pc + 3 = q)
    (hf : R'.frames + 1 ≤ R.frames) (hl : W + (ml' + 11) + R'.locals ≤ R.locals) (hc : cells + R'.cells ≤ R.cells) (hs : slots + R'.slots ≤ R.slots)
    (M : oMet l Z y bs' ml' rt' [] R' R'.cells R'.slots n0 argsL.toArray h Q)
    (g : ∀ v h', Q v h' → oW p l e R s m args below meth c F n0 h' (cells + R'.cells) (slots + R'.slots) (mkF m q Ls (v.toList ++ rest))) :
    oW p l e R s m args below meth c F n0 h cells slots (mkF m pc Ls st) := fun T locs X eT N => by
  subst hq hst
  have hZ := C.2.2.2.2.1
  obtain ⟨v, _, ⟨T', L', k', n'⟩, -, X', ⟨Lc, ⟨hN, hQ⟩, l', y', z'⟩, st'⟩ := Jvm.LawKit.callS X C.1 (y := y) C.2.2.2.1 (mvT hZ w1) (mvT hZ w2) (mvT hZ w3) (mvT hZ w4) hy (backOf (W := W) (Q := fun v h L => Fr n0 L ∧ Q v h) M hZ w4 w3 hf hl) (g := mkF m pc Ls (argsL.reverse ++ rest)) rfl (hsz.trans C.2.2.1.symm) (argsL := argsL) (rest := rest) (lenOf hpd hlen) rfl (by show 2 * 0 + _ ≤ _; omega) (hb C.2.1 hd) (fun _ _ => ⟨rfl, eT, hc, hs⟩)
  dsimp only [Pt.U, Pt.locs, Pt.cells, Pt.slots] at X' l' y' z' st' hQ
  subst l' y' z'
  obtain ⟨s₂, o, h1, h2⟩ := g v T'.heap hQ T' _ X' rfl (Fr.app N hN)
  exact ⟨s₂, o, st' _ h1, h2⟩
theorem oCallC (C : oCx p s m meth c bs ml own nm rt Z) (w1 : (Jvm.Cond.methodLink own i y).before a0 Z = true) (w2 : (Jvm.Cond.instanceMethod y).before a0 Z = true) (w3 : (Jvm.Cond.initialized y.cls).before a0 Z = true) (w4 : (Jvm.Cond.code y bs' ml' none).before a0 Z = true) (hd : decode bs pc = .ok (.invokespecial i, 3))
    (hn : y.name = "<init>") (hy : y.cls ≠ "java/lang/invoke/MethodHandle" ∧ y.cls ≠ "java/lang/invoke/VarHandle") (hpd : parseMethodDescriptor y.desc = some ⟨ps, r'⟩) (hlen : argsL.length = ps.length) (hsz : Ls.size = ml) (hst : argsL.reverse ++ .ref a :: rest = st) (hW : (rest.map fun v => v.category).sum = W) (hq : pc + 3 = q)
    (hf : R'.frames + 1 ≤ R.frames) (hl : W + (ml' + 11) + R'.locals ≤ R.locals) (hc : cells + R'.cells ≤ R.cells) (hs : slots + R'.slots ≤ R.slots)
    (M : oMet l Z y bs' ml' none [] R' R'.cells R'.slots n0 (.ref a :: argsL).toArray h Q)
    (g : ∀ v h', Q v h' → oW p l e R s m args below meth c F n0 h' (cells + R'.cells) (slots + R'.slots) (mkF m q Ls (v.toList ++ rest))) :
    oW p l e R s m args below meth c F n0 h cells slots (mkF m pc Ls st) := fun T locs X eT N => by
  subst hq hst
  have hZ := C.2.2.2.2.1
  obtain ⟨v, _, ⟨T', L', k', n'⟩, -, X', ⟨Lc, ⟨hN, hQ⟩, l', y', z'⟩, st'⟩ := X.specialBack C.1 (y := y) hn C.2.2.2.1 (mvT hZ w1) (mvT hZ w2) (mvT hZ w4) hy (backOf (W := W) (Q := fun v h L => Fr n0 L ∧ Q v h) M hZ w4 w3 hf hl) (g := mkF m pc Ls (argsL.reverse ++ .ref a :: rest)) rfl (hsz.trans C.2.2.1.symm) (Steps.refl _) (a := a) (argsL := argsL) (rest := rest) (lenOf hpd hlen) rfl (by show 2 * 0 + _ ≤ _; omega) (hb C.2.1 hd) (fun _ _ => ⟨rfl, eT, hc, hs⟩)
  dsimp only [Pt.U, Pt.locs, Pt.cells, Pt.slots] at X' l' y' z' st' hQ
  subst l' y' z'
  obtain ⟨s₂, o, h1, h2⟩ := g v T'.heap hQ T' _ X' rfl (Fr.app N hN)
  exact ⟨s₂, o, st'.trans h1, h2⟩
theorem oCallV (C : oCx p s m meth c bs ml own nm rt Z) (w1 : (Jvm.Cond.methodLink own i y).before a0 Z = true) (w5 : (Jvm.Cond.declares y).before a0 Z = true) (w6 : (Jvm.Cond.selects y.cls y y).before a0 Z = true) (w2 : (Jvm.Cond.instanceMethod y).before a0 Z = true) (w3 : (Jvm.Cond.initialized y.cls).before a0 Z = true) (w4 : (Jvm.Cond.code y bs' ml' rt').before a0 Z = true) (hd : decode bs pc = .ok (.invokevirtual i, 3))
    (E : Exa Z h a y.cls) (hy : y.cls ≠ "java/lang/invoke/MethodHandle" ∧ y.cls ≠ "java/lang/invoke/VarHandle") (hpd : parseMethodDescriptor y.desc = some ⟨ps, r'⟩) (hlen : argsL.length = ps.length) (hsz : Ls.size = ml) (hst : argsL.reverse ++ .ref a :: rest = st) (hW : (rest.map fun v => v.category).sum = W) (hq : pc + 3 = q)
    (hf : R'.frames + 1 ≤ R.frames) (hl : W + (ml' + 11) + R'.locals ≤ R.locals) (hc : cells + R'.cells ≤ R.cells) (hs : slots + R'.slots ≤ R.slots)
    (M : oMet l Z y bs' ml' rt' [] R' R'.cells R'.slots n0 (.ref a :: argsL).toArray h Q)
    (g : ∀ v h', Q v h' → oW p l e R s m args below meth c F n0 h' (cells + R'.cells) (slots + R'.slots) (mkF m q Ls (v.toList ++ rest))) :
    oW p l e R s m args below meth c F n0 h cells slots (mkF m pc Ls st) := fun T locs X eT N => by
  subst hq hst
  have hZ := C.2.2.2.2.1
  obtain ⟨cq, kq, qa, qb, qc⟩ := isOf hZ eT E
  obtain ⟨v, _, ⟨T', L', k', n'⟩, -, X', ⟨Lc, ⟨hN, hQ⟩, l', y', z'⟩, st'⟩ := X.virtualBack C.1 (y := y) (z := y) C.2.2.2.1 (mvT hZ w1) (mvT hZ w5) (notFace_of_selects (args := #[]) (mvT hZ w6)) (mvT hZ w6) (mvT hZ w2) hy (backOf (W := W) (Q := fun v h L => Fr n0 L ∧ Q v h) M hZ w4 w3 hf hl) qa qc (g := mkF m pc Ls (argsL.reverse ++ .ref a :: rest)) rfl (hsz.trans C.2.2.1.symm) (Steps.refl _) (argsL := argsL) (rest := rest) (lenOf hpd hlen) rfl (by show 2 * 0 + _ ≤ _; omega) (hb C.2.1 hd) (fun _ _ => ⟨rfl, eT, hc, hs⟩)
  dsimp only [Pt.U, Pt.locs, Pt.cells, Pt.slots] at X' l' y' z' st' hQ
  subst l' y' z'
  obtain ⟨s₂, o, h1, h2⟩ := g v T'.heap hQ T' _ X' rfl (Fr.app N hN)
  exact ⟨s₂, o, st'.trans h1, h2⟩
def oMetH (l : Launch) (Z : State) (y : MethodName) (bs : ByteArray) (ml : Nat) (rt : Option FieldType) (tr : List (Nat × Nat × Nat × Nat)) (R : Room) (k n n0 : Nat) (as' : Array Value) (h0 : Heap) (Q : Option Value → Heap → Prop) : Prop :=
  MetFree l y (head1 [Jvm.Cond.codeWith y bs ml rt tr] R) (fun a U => a = as' ∧ Z.Warmed39 U.vm ∧ U.heap = h0) (fun _ _ _ _ _ => True) (fun _ U o U' => ∃ v L, o = .returned v ∧ (Fr n0 L ∧ Q v U'.heap) ∧ FrameEnd U o U' L k n)
theorem oMetH.intro {tr : List (Nat × Nat × Nat × Nat)} {k n : Nat} {as' : Array Value} {h0 : Heap} (pn : plainFor y = true) (ef : ∀ m, entryFrame m as' ml = mkF m 0 Ls [])
    (body : ∀ (p : Program) (e : Env) (s : State) (m : MethodId) (below : List Frame) (meth : Method) (c : Code), oCx p s m meth c bs ml y.cls y.name rt Z → oW p l e R s m as' below meth c (oFin s n0 k n Q) n0 h0 0 0 (mkF m 0 Ls [])) :
    oMetH l Z y bs ml rt tr R k n n0 as' h0 Q := by
  refine MetFree.of_bodySF pn hisWith ?_
  intro p e s m args below meth c s₁ Bd hml0 hP hK
  obtain ⟨rfl, hZ, hh⟩ := hP
  have e0 : s₁.heap = h0 := by rw [← hh, Bd.state]; rfl
  have C : oCx p s m meth c bs ml y.cls y.name rt Z := ⟨Bd.exec, Bd.bytes, hml0, findClass_of_methodNamed Bd.named, hZ, (name_of_methodNamed Bd.named Bd.method).1, Bd.returns, Bd.notSynchronized⟩
  obtain ⟨s₂, o, h1, h2, h3, h4⟩ := body p e s m below meth c C s₁ [] (Stand.of_body Bd) e0 (Fr.nil n0)
  exact ⟨s₂, o, castTop (ef m) h1, h2, h3, h4⟩
theorem oPureK {w : Value} {hc : Heap} (g : oW p l e R s m args below meth c F n0 hc cells slots (mkF m q Ls (w :: rest))) : ∀ (v : Option Value) (h' : Heap), (v = some w ∧ h' = hc) → oW p l e R s m args below meth c F n0 h' cells slots (mkF m q Ls (v.toList ++ rest)) := by
  rintro _ _ ⟨rfl, rfl⟩; exact g
end Calls
theorem oInitO (C : oCx p s m meth c bs ml own nm rt Z) {i W : Nat} {a : Addr} (w1 : (Jvm.Cond.methodLink own i Lib.objectInit).before a0 Z = true) (w2 : (Jvm.Cond.instanceMethod Lib.objectInit).before a0 Z = true) (w3 : (Jvm.Cond.code Lib.objectInit ⟨#[0xb1]⟩ 1 none).before a0 Z = true) (hd : decode bs pc = .ok (.invokespecial i, 3)) (hsz : Ls.size = ml) (hW : (st.map fun v => v.category).sum = W) (hq : pc + 3 = q) (hf : 1 ≤ R.frames) (hl : W + 12 ≤ R.locals)
    (g : oW p l e R s m args below meth c F n0 h cells slots (mkF m q Ls st)) : oW p l e R s m args below meth c F n0 h cells slots (mkF m pc Ls (.ref a :: st)) := by
  subst hq
  exact oW.to (fun T locs X eT => initO X C.1 C.2.2.2.2.1 C.2.2.2.1 w1 w2 w3 eT (g := mkF m pc Ls (.ref a :: st)) rfl (hsz.trans C.2.2.1.symm) rfl (hb C.2.1 hd) hf (W := W) (by show 2 * 0 + _ ≤ _; omega) hl) g
theorem oCastI {z z' : Int32} (hz : z = z') (g : oW p l e R s m args below meth c F n0 h cells slots (mkF m pc Ls (.int z' :: st))) : oW p l e R s m args below meth c F n0 h cells slots (mkF m pc Ls (.int z :: st)) := hz ▸ g
theorem oCastLs (hz : Ls = Ls') (g : oW p l e R s m args below meth c F n0 h cells slots (mkF m pc Ls' st)) : oW p l e R s m args below meth c F n0 h cells slots (mkF m pc Ls st) := hz ▸ g
theorem oJoin {α : Type} {f : JFrame} (P : α → Prop) (hh : α → Heap) (fr : α → JFrame) {k n : Nat} (j : ∀ w, P w → oW p l e R s m args below meth c F n0 (hh w) k n (fr w)) (g : (∀ w, P w → oW p l e R s m args below meth c F n0 (hh w) k n (fr w)) → oW p l e R s m args below meth c F n0 h cells slots f) : oW p l e R s m args below meth c F n0 h cells slots f := g j
theorem oNew (C : oCx p s m meth c bs ml own nm rt Z) {i n : Nat} {K : String} (w : (Jvm.Cond.classLink own i K).before a0 Z = true) (wi : (Jvm.Cond.instantiable K n).before a0 Z = true) (wz : (Jvm.Cond.initialized K).before a0 Z = true) (hd : decode bs pc = .ok (.new i, 3)) (hq : pc + 3 = q) (hc : cells + 1 ≤ R.cells) (hs : slots + n ≤ R.slots)
    (g : ∀ (a : Addr) (h' : Heap), a = h.size → Ext h h' → Exa Z h' a K → (∀ {O nm d : String} {ty : FieldType}, Laid Z a0 K O nm d → parseFieldDescriptor d = some ty → Fld Z h' a O nm d (defaultValue ty)) → oW p l e R s m args below meth c F n0 h' (cells + 1) (slots + n) (mkF m q Ls (.ref a :: st))) :
    oW p l e R s m args below meth c F n0 h cells slots (mkF m pc Ls st) := fun T locs X eT N => by
  subst hq
  obtain ⟨T', h', X', e', E', A', D', -, st'⟩ := newO X C.1 C.2.2.2.2.1 C.2.2.2.1 w wi wz eT (g := mkF m pc Ls st) rfl (hb C.2.1 hd) hc hs
  obtain ⟨s₂, o, h1, h2⟩ := g _ h' rfl E' A' D' T' _ X' e' N
  exact ⟨s₂, o, st' _ h1, h2⟩
theorem oGetF (C : oCx p s m meth c bs ml own nm rt Z) {i : Nat} {R0 O n d : String} {a : Addr} {v : Value} (w : (Jvm.Cond.fieldLink own i R0 n d).before a0 Z = true) (via : Via Z R0 O n d) (Fd : Fld Z h a O n d v) (hd : decode bs pc = .ok (.getfield i, 3)) (hq : pc + 3 = q)
    (g : oW p l e R s m args below meth c F n0 h cells slots (mkF m q Ls (v :: st))) : oW p l e R s m args below meth c F n0 h cells slots (mkF m pc Ls (.ref a :: st)) := by
  subst hq
  exact oW.to (fun T locs X eT => getF X C.1 C.2.2.2.2.1 C.2.2.2.1 (host := "") (Or.inl w) via eT Fd (g := mkF m pc Ls (.ref a :: st)) rfl rfl (hb C.2.1 hd)) g
theorem oPutF (C : oCx p s m meth c bs ml own nm rt Z) {i kk : Nat} {R0 O n d K : String} {ty : FieldType} {a : Addr} {v old : Value} (w : (Jvm.Cond.fieldLink own i R0 n d).before a0 Z = true) (via : Via Z R0 O n d) (Fd : Fld Z h a O n d old) (E : Exa Z h a K) (L : (Jvm.Cond.lays K O n d).before a0 Z = true ∨ ((Jvm.Cond.laysFinal K O n d).before a0 Z = true ∧ own = O ∧ nm = "<init>")) (wi : (Jvm.Cond.instantiable K kk).before a0 Z = true)
    (hty : parseFieldDescriptor d = some ty) (hn : narrow ty v = v) (hf : fits ty v = true) (hd : decode bs pc = .ok (.putfield i, 3)) (hq : pc + 3 = q) (ha : n0 ≤ a)
    (g : ∀ h', Wr h h' a (Jvm.RoadKit.slotOf Z O n d) v → oW p l e R s m args below meth c F n0 h' cells slots (mkF m q Ls st)) : oW p l e R s m args below meth c F n0 h cells slots (mkF m pc Ls (v :: .ref a :: st)) := fun T locs X eT N => by
  subst hq
  obtain ⟨T', h', X', e', W', st'⟩ := putF X C.1 C.2.2.2.2.1 C.2.2.2.1 (host := "") (Or.inl w) via eT Fd E (L.imp id fun z => ⟨z.1, z.2.1, C.2.2.2.2.2.1.trans z.2.2⟩) wi hty hn hf (g := mkF m pc Ls (v :: .ref a :: st)) rfl rfl (hb C.2.1 hd)
  obtain ⟨s₂, o, h1, h2⟩ := g h' W' T' _ X' e' (Fr.snoc X' N ha)
  exact ⟨s₂, o, st' _ h1, h2⟩
def oAr (Z : State) (h : Heap) (a : Addr) (ty : FieldType) (vs : List Value) : Prop := ∃ c : Cell, Arr Z h a c ty ∧ c.slots.toList = vs
section Arrays
variable {a b : Addr} {ty : FieldType} {vs : List Value} {v : Value} {sl : Nat}
theorem oAr.lt (A : oAr Z h a ty vs) : a < h.size := by obtain ⟨c, A, -⟩ := A; exact A.lt
theorem oAr.ext (A : oAr Z h a ty vs) (E : Ext h h') : oAr Z h' a ty vs := by obtain ⟨c, A, r⟩ := A; exact ⟨c, A.ext E, r⟩
theorem oAr.same (A : oAr Z h a ty vs) (W : Wr h h' a sl v) : oAr Z h' a ty (vs.set sl v) := by
  obtain ⟨c, A, r⟩ := A
  exact ⟨_, A.same W, by subst r; simp [Cell.setSlot]⟩
theorem oAr.keep {ws : List Addr} (A : oAr Z h a ty vs) (K : Keep h h' ws) (ne : a ∉ ws) : oAr Z h' a ty vs := by obtain ⟨c, A, r⟩ := A; exact ⟨c, ⟨K.2.1 a c A.1 ne, A.2⟩, r⟩
theorem oNe' (h1 : a < h.size) (h2 : h.size ≤ b) : a ≠ b := Nat.ne_of_lt (Nat.lt_of_lt_of_le h1 h2)
theorem oInb {cl : Cell} {j : Int32} {k : Nat} (r : cl.slots.toList = vs) (hj : ¬ j < 0) (hk : j.toNatClampNeg = k) (hv : vs[k]? = some v) : ¬ (j < 0 ∨ cl.slots.size ≤ j.toNatClampNeg) ∧ cl.slots[j.toNatClampNeg]? = some v := by
  subst hk r
  have hlt : j.toNatClampNeg < cl.slots.toList.length := (List.getElem?_eq_some_iff.mp hv).1
  refine ⟨fun q => q.elim hj fun u => ?_, by rw [← hv]; simp⟩
  simp at hlt; omega
end Arrays
def oKe (h0 h : Heap) (ws : List Addr) (fs : List (Addr × Nat)) : Prop := h0.size ≤ h.size ∧ ∀ (x : Addr) (c : Cell), h0[x]? = some c → ∃ c' : Cell, h[x]? = some c' ∧ c'.cls = c.cls ∧ c'.vm = c.vm ∧ c'.slots.size = c.slots.size ∧ (x ∉ ws → ∀ j, (x, j) ∉ fs → c'.slots[j]? = c.slots[j]?)
section Ke
variable {h0 : Heap} {ws ws' : List Addr} {fs fs' : List (Addr × Nat)} {a b : Addr} {sl : Nat} {v : Value} {ty : FieldType} {vs : List Value} {K O n d : String}
theorem oKe.refl (h : Heap) (ws : List Addr) (fs : List (Addr × Nat)) : oKe h h ws fs := ⟨Nat.le_refl _, fun x c q => ⟨c, q, rfl, rfl, rfl, fun _ _ _ => rfl⟩⟩
theorem oKe.trans (A : oKe h0 h ws fs) (B : oKe h h' ws' fs') (q1 : ∀ x ∈ ws', x ∈ ws ∨ h0.size ≤ x) (q2 : ∀ x ∈ fs', x ∈ fs ∨ h0.size ≤ x.1) : oKe h0 h' ws fs := by
  refine ⟨Nat.le_trans A.1 B.1, fun x c hx => ?_⟩
  obtain ⟨c1, e1, e2, e3, e4, e5⟩ := A.2 x c hx
  obtain ⟨c2, g1, g2, g3, g4, g5⟩ := B.2 x c1 e1
  have lt := (Array.getElem?_eq_some_iff.mp hx).1
  refine ⟨c2, g1, g2.trans e2, g3.trans e3, g4.trans e4, fun hn j hj => ?_⟩
  rw [g5 (fun z => (q1 x z).elim hn (fun y => absurd lt (Nat.not_lt.mpr y))) j (fun z => (q2 _ z).elim hj (fun y => absurd lt (Nat.not_lt.mpr y)))]
  exact e5 hn j hj
theorem oKe.of_ext (E : Ext h h') : oKe h h' [] [] := ⟨E.1, fun x c q => ⟨c, E.2 x c q, rfl, rfl, rfl, fun _ _ _ => rfl⟩⟩
theorem oKe.ext (A : oKe h0 h ws fs) (E : Ext h h') : oKe h0 h' ws fs := A.trans (oKe.of_ext E) (fun _ q => nomatch q) (fun _ q => nomatch q)
end Ke
theorem oNewA (C : oCx p s m meth c bs ml own nm rt Z) {aty : ArrayType} {ty : FieldType} {z : Int32} {k : Nat} (w : (Jvm.Cond.arrayClass ty).before a0 Z = true) (hty : newarray.typeOf aty = ty) (hd : decode bs pc = .ok (.newarray aty, 2)) (hq : pc + 2 = q) (hz : ¬ z < 0) (hk : z.toNatClampNeg = k) (hb' : k * 8 ≤ 536870912) (hc : cells + 1 ≤ R.cells) {cap : Nat} (hcap : k ≤ cap) (hcb : cap * 8 ≤ 536870912) (hs : slots + cap ≤ R.slots)
    (g : ∀ (a : Addr) (h' : Heap), a = h.size → Ext h h' → oAr Z h' a ty (List.replicate k (defaultValue ty)) → oW p l e R s m args below meth c F n0 h' (cells + 1) (slots + cap) (mkF m q Ls (.ref a :: st))) :
    oW p l e R s m args below meth c F n0 h cells slots (mkF m pc Ls (.int z :: st)) := fun T locs X eT N => by
  subst hq hty hk
  obtain ⟨T', h', cA, X', e', E', A', st'⟩ := newP X C.1 C.2.2.2.2.1 w eT (g := mkF m pc Ls (.int z :: st)) rfl (hb C.2.1 hd) rfl hz (cap := cap) hcap hcb hc hs
  obtain ⟨s₂, o, h1, h2⟩ := g _ h' rfl E' ⟨_, A', by simp [newA]⟩ T' _ X' e' N
  exact ⟨s₂, o, st' _ h1, h2⟩
theorem oLen (C : oCx p s m meth c bs ml own nm rt Z) {a : Addr} {ty : FieldType} {vs : List Value} {z : Int32} (A : oAr Z h a ty vs) (hz : vs.length.toInt32 = z) (hd : decode bs pc = .ok (.arraylength, 1)) (hq : pc + 1 = q) (g : oW p l e R s m args below meth c F n0 h cells slots (mkF m q Ls (.int z :: st))) :
    oW p l e R s m args below meth c F n0 h cells slots (mkF m pc Ls (.ref a :: st)) := fun T locs X eT N => by
  subst hq hz
  obtain ⟨cl, A, r⟩ := A
  obtain ⟨s₂, o, h1, h2⟩ := g T locs X eT N
  exact ⟨s₂, o, X.arraylength C.1 (by rw [eT]; exact A.1) (State.isArrayOf_alike C.2.2.2.2.1.alike A.2.1) (g := mkF m pc Ls (.ref a :: st)) rfl rfl (hb C.2.1 hd) _ (by subst r; simpa using h1), h2⟩
theorem oLaload (C : oCx p s m meth c bs ml own nm rt Z) {a : Addr} {vs : List Value} {j : Int32} {k : Nat} {v : Value} (A : oAr Z h a .long vs) (hj : ¬ j < 0) (hk : j.toNatClampNeg = k) (hv : vs[k]? = some v) (hd : decode bs pc = .ok (.laload, 1)) (hq : pc + 1 = q) (g : oW p l e R s m args below meth c F n0 h cells slots (mkF m q Ls (v :: st))) :
    oW p l e R s m args below meth c F n0 h cells slots (mkF m pc Ls (.int j :: .ref a :: st)) := fun T locs X eT N => by
  subst hq
  obtain ⟨cl, A, r⟩ := A
  obtain ⟨i1, i2⟩ := oInb r hj hk hv
  obtain ⟨s₂, o, h1, h2⟩ := g T locs X eT N
  exact ⟨s₂, o, X.laload C.1 (j := j) (v := v) (by rw [eT]; exact A.1) (State.isArrayOf_alike C.2.2.2.2.1.alike A.2.1) A.2.2 i1 i2 (g := mkF m pc Ls (.int j :: .ref a :: st)) rfl rfl (hb C.2.1 hd) _ h1, h2⟩
theorem oLastore (C : oCx p s m meth c bs ml own nm rt Z) {a : Addr} {vs : List Value} {j : Int32} {k : Nat} {v v' : Value} {x : Int64} (A : oAr Z h a .long vs) (hj : ¬ j < 0) (hk : j.toNatClampNeg = k) (hv : vs[k]? = some v) (hx : (.long x : Value) = v') (hd : decode bs pc = .ok (.lastore, 1)) (hq : pc + 1 = q) (ha : n0 ≤ a)
    (g : ∀ h', Wr h h' a k v' → oAr Z h' a .long (vs.set k v') → oW p l e R s m args below meth c F n0 h' cells slots (mkF m q Ls (st))) :
    oW p l e R s m args below meth c F n0 h cells slots (mkF m pc Ls (.long x :: .int j :: .ref a :: st)) := fun T locs X eT N => by
  subst hq hx
  obtain ⟨cl, A, r⟩ := A
  obtain ⟨i1, -⟩ := oInb r hj hk hv
  obtain ⟨T', h', X', e', W', st'⟩ := stJ X C.1 C.2.2.2.2.1 eT A (j := j) i1 (g := mkF m pc Ls (.long x :: .int j :: .ref a :: st)) rfl rfl (hb C.2.1 hd)
  have W2 : Wr h h' a k (.long x) := hk ▸ W'
  obtain ⟨s₂, o, h1, h2⟩ := g h' W2 (oAr.same ⟨cl, A, r⟩ W2) T' _ X' e' (Fr.snoc X' N ha)
  exact ⟨s₂, o, st' _ h1, h2⟩
end Own
section Own2
variable {p : Program} {l : Launch} {e : Env} {R : Room} {s : State} {m : MethodId} {args : Array Value} {below : List Frame} {meth : Method} {c : Code} {bs : ByteArray} {ml : Nat} {own nm : String} {rt : Option FieldType} {Z : State} {F : State → Outcome → Prop} {n0 : Nat} {h h' : Heap} {cells slots : Nat} {pc q : Nat} {Ls Ls' : Array Slot} {st : List Value} {a0 : Array Value}
section ArraysO
variable {a b : Addr} {K : String} {vs : List Value} {v : Value} {sl : Nat}
end ArraysO
section Stas
variable {K n d : String} {v w : Value} {a : Addr} {sl : Nat}
end Stas
end Own2
abbrev oHw (a0 : Array Value) (Z : State) : Prop := ∀ d ∈ tables_1, d.before a0 Z = true
theorem w0 {a0 : Array Value} {Z : State} (hw : oHw a0 Z) : (Jvm.Cond.arrayClass Jvm.ClassFile.FieldType.long).before a0 Z = true := hw _ (List.mem_of_getElem? (i := 0) rfl)
theorem w1 {a0 : Array Value} {Z : State} (hw : oHw a0 Z) : (Jvm.Cond.classLink "com/example/tideline/tideline/RetentionDropsOldestPinLaw" (16 : Nat) "com/example/tideline/tideline/Retention").before a0 Z = true := hw _ (List.mem_of_getElem? (i := 1) rfl)
theorem w2 {a0 : Array Value} {Z : State} (hw : oHw a0 Z) : (Jvm.Cond.instantiable "com/example/tideline/tideline/Retention" (2 : Nat)).before a0 Z = true := hw _ (List.mem_of_getElem? (i := 2) rfl)
theorem w3 {a0 : Array Value} {Z : State} (hw : oHw a0 Z) : (Jvm.Cond.initialized "com/example/tideline/tideline/Retention").before a0 Z = true := hw _ (List.mem_of_getElem? (i := 3) rfl)
theorem w4 {a0 : Array Value} {Z : State} (hw : oHw a0 Z) : (Jvm.Cond.methodLink "com/example/tideline/tideline/RetentionDropsOldestPinLaw" (18 : Nat) ({ cls := "com/example/tideline/tideline/Retention", name := "<init>", desc := "([J)V" } : Jvm.MethodName)).before a0 Z = true := hw _ (List.mem_of_getElem? (i := 4) rfl)
theorem w5 {a0 : Array Value} {Z : State} (hw : oHw a0 Z) : (Jvm.Cond.instanceMethod ({ cls := "com/example/tideline/tideline/Retention", name := "<init>", desc := "([J)V" } : Jvm.MethodName)).before a0 Z = true := hw _ (List.mem_of_getElem? (i := 5) rfl)
theorem w6 {a0 : Array Value} {Z : State} (hw : oHw a0 Z) : (Jvm.Cond.code ({ cls := "com/example/tideline/tideline/Retention", name := "<init>", desc := "([J)V" } : Jvm.MethodName) prog_43_method_1_code (2 : Nat) (Option.none : Option Jvm.ClassFile.FieldType)).before a0 Z = true := hw _ (List.mem_of_getElem? (i := 6) rfl)
theorem w7 {a0 : Array Value} {Z : State} (hw : oHw a0 Z) : (Jvm.Cond.methodLink "com/example/tideline/tideline/Retention" (1 : Nat) ({ cls := "java/lang/Object", name := "<init>", desc := "()V" } : Jvm.MethodName)).before a0 Z = true := hw _ (List.mem_of_getElem? (i := 7) rfl)
theorem w8 {a0 : Array Value} {Z : State} (hw : oHw a0 Z) : (Jvm.Cond.instanceMethod ({ cls := "java/lang/Object", name := "<init>", desc := "()V" } : Jvm.MethodName)).before a0 Z = true := hw _ (List.mem_of_getElem? (i := 8) rfl)
theorem w9 {a0 : Array Value} {Z : State} (hw : oHw a0 Z) : (Jvm.Cond.code ({ cls := "java/lang/Object", name := "<init>", desc := "()V" } : Jvm.MethodName) object_method_1_code (1 : Nat) (Option.none : Option Jvm.ClassFile.FieldType)).before a0 Z = true := hw _ (List.mem_of_getElem? (i := 9) rfl)
theorem w10 {a0 : Array Value} {Z : State} (hw : oHw a0 Z) : (Jvm.Cond.fieldLink "com/example/tideline/tideline/Retention" (7 : Nat) "com/example/tideline/tideline/Retention" "open" "[J").before a0 Z = true := hw _ (List.mem_of_getElem? (i := 10) rfl)
theorem w11 {a0 : Array Value} {Z : State} (hw : oHw a0 Z) : (Jvm.Cond.laysFinal "com/example/tideline/tideline/Retention" "com/example/tideline/tideline/Retention" "open" "[J").before a0 Z = true := hw _ (List.mem_of_getElem? (i := 11) rfl)
theorem w12 {a0 : Array Value} {Z : State} (hw : oHw a0 Z) : (Jvm.Cond.methodLink "com/example/tideline/tideline/RetentionDropsOldestPinLaw" (21 : Nat) ({ cls := "com/example/tideline/tideline/Retention", name := "dropsOldest", desc := "(IJZZ)Z" } : Jvm.MethodName)).before a0 Z = true := hw _ (List.mem_of_getElem? (i := 12) rfl)
theorem w13 {a0 : Array Value} {Z : State} (hw : oHw a0 Z) : (Jvm.Cond.declares ({ cls := "com/example/tideline/tideline/Retention", name := "dropsOldest", desc := "(IJZZ)Z" } : Jvm.MethodName)).before a0 Z = true := hw _ (List.mem_of_getElem? (i := 13) rfl)
theorem w14 {a0 : Array Value} {Z : State} (hw : oHw a0 Z) : (Jvm.Cond.instanceMethod ({ cls := "com/example/tideline/tideline/Retention", name := "dropsOldest", desc := "(IJZZ)Z" } : Jvm.MethodName)).before a0 Z = true := hw _ (List.mem_of_getElem? (i := 14) rfl)
theorem w15 {a0 : Array Value} {Z : State} (hw : oHw a0 Z) : (Jvm.Cond.selects "com/example/tideline/tideline/Retention" ({ cls := "com/example/tideline/tideline/Retention", name := "dropsOldest", desc := "(IJZZ)Z" } : Jvm.MethodName) ({ cls := "com/example/tideline/tideline/Retention", name := "dropsOldest", desc := "(IJZZ)Z" } : Jvm.MethodName)).before a0 Z = true := hw _ (List.mem_of_getElem? (i := 15) rfl)
theorem w16 {a0 : Array Value} {Z : State} (hw : oHw a0 Z) : (Jvm.Cond.code ({ cls := "com/example/tideline/tideline/Retention", name := "dropsOldest", desc := "(IJZZ)Z" } : Jvm.MethodName) prog_43_method_5_code (7 : Nat) (Option.some Jvm.ClassFile.FieldType.boolean)).before a0 Z = true := hw _ (List.mem_of_getElem? (i := 16) rfl)
theorem w17 {a0 : Array Value} {Z : State} (hw : oHw a0 Z) : (Jvm.Cond.methodLink "com/example/tideline/tideline/RetentionDropsOldestPinLaw" (7 : Nat) ({ cls := "java/lang/Math", name := "max", desc := "(JJ)J" } : Jvm.MethodName)).before a0 Z = true := hw _ (List.mem_of_getElem? (i := 17) rfl)
theorem w18 {a0 : Array Value} {Z : State} (hw : oHw a0 Z) : (Jvm.Cond.static ({ cls := "java/lang/Math", name := "max", desc := "(JJ)J" } : Jvm.MethodName)).before a0 Z = true := hw _ (List.mem_of_getElem? (i := 18) rfl)
theorem w19 {a0 : Array Value} {Z : State} (hw : oHw a0 Z) : (Jvm.Cond.initialized "java/lang/Math").before a0 Z = true := hw _ (List.mem_of_getElem? (i := 19) rfl)
theorem w20 {a0 : Array Value} {Z : State} (hw : oHw a0 Z) : (Jvm.Cond.code ({ cls := "java/lang/Math", name := "max", desc := "(JJ)J" } : Jvm.MethodName) jdk_29_method_66_code (4 : Nat) (Option.some Jvm.ClassFile.FieldType.long)).before a0 Z = true := hw _ (List.mem_of_getElem? (i := 20) rfl)
theorem w21 {a0 : Array Value} {Z : State} (hw : oHw a0 Z) : (Jvm.Cond.methodLink "com/example/tideline/tideline/RetentionDropsOldestPinLaw" (13 : Nat) ({ cls := "java/lang/Math", name := "min", desc := "(JJ)J" } : Jvm.MethodName)).before a0 Z = true := hw _ (List.mem_of_getElem? (i := 21) rfl)
theorem w22 {a0 : Array Value} {Z : State} (hw : oHw a0 Z) : (Jvm.Cond.static ({ cls := "java/lang/Math", name := "min", desc := "(JJ)J" } : Jvm.MethodName)).before a0 Z = true := hw _ (List.mem_of_getElem? (i := 22) rfl)
theorem w23 {a0 : Array Value} {Z : State} (hw : oHw a0 Z) : (Jvm.Cond.code ({ cls := "java/lang/Math", name := "min", desc := "(JJ)J" } : Jvm.MethodName) jdk_29_method_70_code (4 : Nat) (Option.some Jvm.ClassFile.FieldType.long)).before a0 Z = true := hw _ (List.mem_of_getElem? (i := 23) rfl)
theorem ef_4 (m : MethodId) (x0 : Int64) (x1 : Int64) : entryFrame m #[.long x0, .long x1] 4 = mkF m 0 #[.val (.long x0), .second, .val (.long x1), .second] [] := by first | (simp [entryFrame, mkF, argsToLocals, Value.category]; done) | rfl
def fMax (q1 : Int64) (q2 : Int64) : Int64 := (if q1 < q2 then q2 else q1)
theorem fMax_def (q1 : Int64) (q2 : Int64) : fMax q1 q2 = (if q1 < q2 then q2 else q1) := rfl
theorem d4_0 : decode jdk_29_method_66_code 0 = .ok (.lload_n 0, 1) := by decide +kernel
theorem d4_1 : decode jdk_29_method_66_code 1 = .ok (.lload_n 2, 1) := by decide +kernel
theorem d4_2 : decode jdk_29_method_66_code 2 = .ok (.lcmp, 1) := by decide +kernel
theorem d4_3 : decode jdk_29_method_66_code 3 = .ok (.ifCond .lt 7, 3) := by decide +kernel
theorem d4_6 : decode jdk_29_method_66_code 6 = .ok (.lload_n 0, 1) := by decide +kernel
theorem d4_7 : decode jdk_29_method_66_code 7 = .ok (.goto 4, 3) := by decide +kernel
theorem d4_10 : decode jdk_29_method_66_code 10 = .ok (.lload_n 2, 1) := by decide +kernel
theorem d4_11 : decode jdk_29_method_66_code 11 = .ok (.lreturn, 1) := by decide +kernel
set_option maxRecDepth 65536 in
set_option maxHeartbeats 40000000 in
theorem mt_fMax (l : Launch) (Z : State) (a0 : Array Value) (hw : oHw a0 Z) (h0 : Heap) (n0 : Nat) (Z0 : n0 ≤ h0.size) (q1 : Int64) (q2 : Int64)  :
    oMet l Z (⟨"java/lang/Math", "max", "(JJ)J"⟩ : MethodName) jdk_29_method_66_code 4 (some .long) [] ({ frames := 0, cells := 0, slots := 0, locals := 0 } : Room) 0 0 n0 #[.long q1, .long q2] h0 (fun v h => v = some (.long (fMax q1 q2)) ∧ h = h0) := by
  refine oMet.intro (Jvm.Free.JP.mathPlain rfl (by decide +kernel)) (fun m => ef_4 m q1 q2) ?_
  intro op oe os m obl omt ocd C
  refine oLloadN C d4_0 rfl rfl ?_
  refine oLloadN C d4_1 rfl rfl ?_
  refine oLcmp_lt C d4_2 rfl d4_3 (q := 10) (by decide) (by decide) (r := 6) rfl (fun hc2 => ?_) (fun hc2 => ?_)
  ·
   refine oLloadN C d4_10 rfl rfl ?_
   refine oRetL C d4_11 (by decide) (by decide) ?_
   exact ⟨by rw [fMax_def, if_pos hc2], rfl⟩
  ·
   refine oLloadN C d4_6 rfl rfl ?_
   refine oGoto C d4_7 (q := 11) (by decide) (by decide) ?_
   refine oRetL C d4_11 (by decide) (by decide) ?_
   exact ⟨by rw [fMax_def, if_neg hc2], rfl⟩
theorem ef_5 (m : MethodId) (x0 : Int64) (x1 : Int64) : entryFrame m #[.long x0, .long x1] 4 = mkF m 0 #[.val (.long x0), .second, .val (.long x1), .second] [] := by first | (simp [entryFrame, mkF, argsToLocals, Value.category]; done) | rfl
def fMin (q1 : Int64) (q2 : Int64) : Int64 := (if q2 < q1 then q2 else q1)
theorem fMin_def (q1 : Int64) (q2 : Int64) : fMin q1 q2 = (if q2 < q1 then q2 else q1) := rfl
theorem d5_0 : decode jdk_29_method_70_code 0 = .ok (.lload_n 0, 1) := by decide +kernel
theorem d5_1 : decode jdk_29_method_70_code 1 = .ok (.lload_n 2, 1) := by decide +kernel
theorem d5_2 : decode jdk_29_method_70_code 2 = .ok (.lcmp, 1) := by decide +kernel
theorem d5_3 : decode jdk_29_method_70_code 3 = .ok (.ifCond .gt 7, 3) := by decide +kernel
theorem d5_6 : decode jdk_29_method_70_code 6 = .ok (.lload_n 0, 1) := by decide +kernel
theorem d5_7 : decode jdk_29_method_70_code 7 = .ok (.goto 4, 3) := by decide +kernel
theorem d5_10 : decode jdk_29_method_70_code 10 = .ok (.lload_n 2, 1) := by decide +kernel
theorem d5_11 : decode jdk_29_method_70_code 11 = .ok (.lreturn, 1) := by decide +kernel
set_option maxRecDepth 65536 in
set_option maxHeartbeats 40000000 in
theorem mt_fMin (l : Launch) (Z : State) (a0 : Array Value) (hw : oHw a0 Z) (h0 : Heap) (n0 : Nat) (Z0 : n0 ≤ h0.size) (q1 : Int64) (q2 : Int64)  :
    oMet l Z (⟨"java/lang/Math", "min", "(JJ)J"⟩ : MethodName) jdk_29_method_70_code 4 (some .long) [] ({ frames := 0, cells := 0, slots := 0, locals := 0 } : Room) 0 0 n0 #[.long q1, .long q2] h0 (fun v h => v = some (.long (fMin q1 q2)) ∧ h = h0) := by
  refine oMet.intro (Jvm.Free.JP.mathPlain rfl (by decide +kernel)) (fun m => ef_5 m q1 q2) ?_
  intro op oe os m obl omt ocd C
  refine oLloadN C d5_0 rfl rfl ?_
  refine oLloadN C d5_1 rfl rfl ?_
  refine oLcmp_gt C d5_2 rfl d5_3 (q := 10) (by decide) (by decide) (r := 6) rfl (fun hc2 => ?_) (fun hc2 => ?_)
  ·
   refine oLloadN C d5_10 rfl rfl ?_
   refine oRetL C d5_11 (by decide) (by decide) ?_
   exact ⟨by rw [fMin_def, if_pos hc2], rfl⟩
  ·
   refine oLloadN C d5_6 rfl rfl ?_
   refine oGoto C d5_7 (q := 11) (by decide) (by decide) ?_
   refine oRetL C d5_11 (by decide) (by decide) ?_
   exact ⟨by rw [fMin_def, if_neg hc2], rfl⟩
theorem ef_1 (m : MethodId) (x0 : Addr) (x1 : Addr) : entryFrame m #[.ref x0, .ref x1] 2 = mkF m 0 #[.val (.ref x0), .val (.ref x1)] [] := by first | (simp [entryFrame, mkF, argsToLocals, Value.category]; done) | rfl
theorem pn_593216 : plainName "com/example/tideline/tideline/Retention" = true := by first | (simp [plainName, overriddenIn]; done) | decide +kernel
theorem d1_0 : decode prog_43_method_1_code 0 = .ok (.aload_n 0, 1) := by decide +kernel
theorem d1_1 : decode prog_43_method_1_code 1 = .ok (.invokespecial 1, 3) := by decide +kernel
theorem d1_4 : decode prog_43_method_1_code 4 = .ok (.aload_n 0, 1) := by decide +kernel
theorem d1_5 : decode prog_43_method_1_code 5 = .ok (.aload_n 1, 1) := by decide +kernel
theorem d1_6 : decode prog_43_method_1_code 6 = .ok (.putfield 7, 3) := by decide +kernel
theorem d1_9 : decode prog_43_method_1_code 9 = .ok (.return_, 1) := by decide +kernel
set_option maxRecDepth 65536 in
set_option maxHeartbeats 40000000 in
theorem mt_ret (l : Launch) (Z : State) (a0 : Array Value) (hw : oHw a0 Z) (h0 : Heap) (n0 : Nat) (Z0 : n0 ≤ h0.size) (a : Addr) (b : Addr) (E_a : Exa Z h0 a "com/example/tideline/tideline/Retention") (g_a : n0 ≤ a) (F_open : Fld Z h0 a "com/example/tideline/tideline/Retention" "open" "[J" (.null))  :
    oMet l Z (⟨"com/example/tideline/tideline/Retention", "<init>", "([J)V"⟩ : MethodName) prog_43_method_1_code 2 none [] ({ frames := 1, cells := 0, slots := 0, locals := 12 } : Room) 0 0 n0 #[.ref a, .ref b] h0 (fun v h => v = none ∧ Keep h0 h [a] ∧ Fld Z h a "com/example/tideline/tideline/Retention" "open" "[J" (.ref b)) := by
  refine oMet.intro (plainFor_of_name pn_593216) (fun m => ef_1 m a b) ?_
  intro op oe os m obl omt ocd C
  refine oAloadN C d1_0 rfl rfl rfl ?_
  refine oInitO C (w7 hw) (w8 hw) (w9 hw) d1_1 rfl (W := 0) rfl rfl (by decide) (by decide) ?_
  refine oAloadN C d1_4 rfl rfl rfl ?_
  refine oAloadN C d1_5 rfl rfl rfl ?_
  refine oPutF C (w10 hw) Via.refl F_open E_a (Or.inr ⟨(w11 hw), rfl, rfl⟩) (w2 hw) (ty := (.array .long)) (by decide) rfl rfl d1_6 rfl g_a fun h1 W1 => ?_
  have f1w := Fld.same W1 F_open
  refine oRetV C d1_9 (by decide) (by decide) ?_
  exact ⟨rfl, ((Keep.refl h0 [a]).wr W1 (Or.inl (List.mem_of_getElem? (i := 0) rfl))), f1w⟩
theorem ef_3 (m : MethodId) (x0 : Addr) (x1 : Int32) (x2 : Int64) (x3 : Int32) (x4 : Int32) : entryFrame m #[.ref x0, .int x1, .long x2, .int x3, .int x4] 7 = mkF m 0 #[.val (.ref x0), .val (.int x1), .val (.long x2), .second, .val (.int x3), .val (.int x4), .unset] [] := by first | (simp [entryFrame, mkF, argsToLocals, Value.category]; done) | rfl
def fDr1 (ke : Int32) (cm : Int64) (de : Int32) (ol : Int32) (u0 : Int64) : Int32 := (if ke = (1 : Int32) then (if u0 < cm then (if de = 0 then (0 : Int32) else (if ol = 0 then (0 : Int32) else (0 : Int32))) else (if de = 0 then (0 : Int32) else (if ol = 0 then (0 : Int32) else (1 : Int32)))) else (if de = 0 then (0 : Int32) else (if ol = 0 then (0 : Int32) else (1 : Int32))))
theorem fDr1_def (ke : Int32) (cm : Int64) (de : Int32) (ol : Int32) (u0 : Int64) : fDr1 ke cm de ol u0 = (if ke = (1 : Int32) then (if u0 < cm then (if de = 0 then (0 : Int32) else (if ol = 0 then (0 : Int32) else (0 : Int32))) else (if de = 0 then (0 : Int32) else (if ol = 0 then (0 : Int32) else (1 : Int32)))) else (if de = 0 then (0 : Int32) else (if ol = 0 then (0 : Int32) else (1 : Int32)))) := rfl
theorem d3_0 : decode prog_43_method_5_code 0 = .ok (.iload_n 1, 1) := by decide +kernel
theorem d3_1 : decode prog_43_method_5_code 1 = .ok (.iconst 1, 1) := by decide +kernel
theorem d3_2 : decode prog_43_method_5_code 2 = .ok (.if_icmp .ne 24, 3) := by decide +kernel
theorem d3_5 : decode prog_43_method_5_code 5 = .ok (.lload_n 2, 1) := by decide +kernel
theorem d3_6 : decode prog_43_method_5_code 6 = .ok (.aload_n 0, 1) := by decide +kernel
theorem d3_7 : decode prog_43_method_5_code 7 = .ok (.getfield 7, 3) := by decide +kernel
theorem d3_10 : decode prog_43_method_5_code 10 = .ok (.aload_n 0, 1) := by decide +kernel
theorem d3_11 : decode prog_43_method_5_code 11 = .ok (.getfield 7, 3) := by decide +kernel
theorem d3_14 : decode prog_43_method_5_code 14 = .ok (.arraylength, 1) := by decide +kernel
theorem d3_15 : decode prog_43_method_5_code 15 = .ok (.iconst 1, 1) := by decide +kernel
theorem d3_16 : decode prog_43_method_5_code 16 = .ok (.isub, 1) := by decide +kernel
theorem d3_17 : decode prog_43_method_5_code 17 = .ok (.laload, 1) := by decide +kernel
theorem d3_18 : decode prog_43_method_5_code 18 = .ok (.lcmp, 1) := by decide +kernel
theorem d3_19 : decode prog_43_method_5_code 19 = .ok (.ifCond .le 7, 3) := by decide +kernel
theorem d3_22 : decode prog_43_method_5_code 22 = .ok (.iconst 1, 1) := by decide +kernel
theorem d3_23 : decode prog_43_method_5_code 23 = .ok (.goto 4, 3) := by decide +kernel
theorem d3_26 : decode prog_43_method_5_code 26 = .ok (.iconst 0, 1) := by decide +kernel
theorem d3_27 : decode prog_43_method_5_code 27 = .ok (.istore 6, 2) := by decide +kernel
theorem d3_29 : decode prog_43_method_5_code 29 = .ok (.iload 4, 2) := by decide +kernel
theorem d3_31 : decode prog_43_method_5_code 31 = .ok (.ifCond .eq 17, 3) := by decide +kernel
theorem d3_34 : decode prog_43_method_5_code 34 = .ok (.iload 5, 2) := by decide +kernel
theorem d3_36 : decode prog_43_method_5_code 36 = .ok (.ifCond .eq 12, 3) := by decide +kernel
theorem d3_39 : decode prog_43_method_5_code 39 = .ok (.iload 6, 2) := by decide +kernel
theorem d3_41 : decode prog_43_method_5_code 41 = .ok (.ifCond .ne 7, 3) := by decide +kernel
theorem d3_44 : decode prog_43_method_5_code 44 = .ok (.iconst 1, 1) := by decide +kernel
theorem d3_45 : decode prog_43_method_5_code 45 = .ok (.goto 4, 3) := by decide +kernel
theorem d3_48 : decode prog_43_method_5_code 48 = .ok (.iconst 0, 1) := by decide +kernel
theorem d3_49 : decode prog_43_method_5_code 49 = .ok (.ireturn, 1) := by decide +kernel
set_option maxRecDepth 65536 in
set_option maxHeartbeats 40000000 in
theorem mt_fDr1 (l : Launch) (Z : State) (a0 : Array Value) (hw : oHw a0 Z) (h0 : Heap) (n0 : Nat) (Z0 : n0 ≤ h0.size) (a : Addr) (b : Addr) (ke : Int32) (cm : Int64) (de : Int32) (ol : Int32) (u0 : Int64) (F_open : Fld Z h0 a "com/example/tideline/tideline/Retention" "open" "[J" (.ref b)) (A_b : oAr Z h0 b .long [.long u0]) :
    oMet l Z (⟨"com/example/tideline/tideline/Retention", "dropsOldest", "(IJZZ)Z"⟩ : MethodName) prog_43_method_5_code 7 (some .boolean) [] ({ frames := 0, cells := 0, slots := 0, locals := 0 } : Room) 0 0 n0 #[.ref a, .int ke, .long cm, .int de, .int ol] h0 (fun v h => v = some (.int (fDr1 ke cm de ol u0)) ∧ h = h0) := by
  refine oMet.intro (plainFor_of_name pn_593216) (fun m => ef_3 m a ke cm de ol) ?_
  intro op oe os m obl omt ocd C
  refine oIloadN C d3_0 rfl rfl ?_
  refine oIconst C d3_1 (z := 1) rfl rfl ?_
  refine oIcmp_ne C d3_2 (q := 26) (by decide) (by decide) (r := 5) rfl (fun hc2 => ?_) (fun hc2 => ?_)
  ·
   refine oIconst C d3_26 (z := 0) rfl rfl ?_
   refine oIstore C d3_27 (Ls' := #[.val (.ref a), .val (.int ke), .val (.long cm), .second, .val (.int de), .val (.int ol), .val (.int 0)]) rfl (q := 29) rfl ?_
   refine oIload C d3_29 rfl rfl ?_
   refine oIf_eq C d3_31 (q := 48) (by decide) (by decide) (r := 34) rfl (fun hc31 => ?_) (fun hc31 => ?_)
   ·
    refine oIconst C d3_48 (z := 0) rfl rfl ?_
    refine oRetZ C d3_49 (z' := (0 : Int32)) rfl (by decide) (by decide) ?_
    exact ⟨by rw [fDr1_def, if_neg hc2, if_pos hc31], rfl⟩
   ·
    refine oIload C d3_34 rfl rfl ?_
    refine oIf_eq C d3_36 (q := 48) (by decide) (by decide) (r := 39) rfl (fun hc36 => ?_) (fun hc36 => ?_)
    ·
     refine oIconst C d3_48 (z := 0) rfl rfl ?_
     refine oRetZ C d3_49 (z' := (0 : Int32)) rfl (by decide) (by decide) ?_
     exact ⟨by rw [fDr1_def, if_neg hc2, if_neg hc31, if_pos hc36], rfl⟩
    ·
     refine oIload C d3_39 rfl rfl ?_
     refine oIf_ne C d3_41 (q := 48) (by decide) (by decide) (r := 44) rfl (fun hq => absurd hq ((by decide))) (fun hc41 => ?_)
     refine oIconst C d3_44 (z := 1) rfl rfl ?_
     refine oGoto C d3_45 (q := 49) (by decide) (by decide) ?_
     refine oRetZ C d3_49 (z' := (1 : Int32)) rfl (by decide) (by decide) ?_
     exact ⟨by rw [fDr1_def, if_neg hc2, if_neg hc31, if_neg hc36], rfl⟩
  ·
   refine oLloadN C d3_5 rfl rfl ?_
   refine oAloadN C d3_6 rfl rfl rfl ?_
   refine oGetF C (w10 hw) Via.refl F_open d3_7 rfl ?_
   refine oAloadN C d3_10 rfl rfl rfl ?_
   refine oGetF C (w10 hw) Via.refl F_open d3_11 rfl ?_
   refine oLen C A_b (z := (1 : Int32)) rfl d3_14 rfl ?_
   refine oIconst C d3_15 (z := 1) rfl rfl ?_
   refine oIsub C d3_16 rfl ?_
   refine oCastI (z' := (0 : Int32)) (by decide) ?_
   refine oLaload C A_b (by decide) (k := 0) rfl (v := .long u0) rfl d3_17 rfl ?_
   refine oLcmp_le C d3_18 rfl d3_19 (q := 26) (by decide) (by decide) (r := 22) rfl (fun hc18 => ?_) (fun hc18 => ?_)
   ·
    refine oIconst C d3_26 (z := 0) rfl rfl ?_
    refine oIstore C d3_27 (Ls' := #[.val (.ref a), .val (.int ke), .val (.long cm), .second, .val (.int de), .val (.int ol), .val (.int 0)]) rfl (q := 29) rfl ?_
    refine oIload C d3_29 rfl rfl ?_
    refine oIf_eq C d3_31 (q := 48) (by decide) (by decide) (r := 34) rfl (fun hc31 => ?_) (fun hc31 => ?_)
    ·
     refine oIconst C d3_48 (z := 0) rfl rfl ?_
     refine oRetZ C d3_49 (z' := (0 : Int32)) rfl (by decide) (by decide) ?_
     exact ⟨by rw [fDr1_def, if_pos hc2, if_neg hc18, if_pos hc31], rfl⟩
    ·
     refine oIload C d3_34 rfl rfl ?_
     refine oIf_eq C d3_36 (q := 48) (by decide) (by decide) (r := 39) rfl (fun hc36 => ?_) (fun hc36 => ?_)
     ·
      refine oIconst C d3_48 (z := 0) rfl rfl ?_
      refine oRetZ C d3_49 (z' := (0 : Int32)) rfl (by decide) (by decide) ?_
      exact ⟨by rw [fDr1_def, if_pos hc2, if_neg hc18, if_neg hc31, if_pos hc36], rfl⟩
     ·
      refine oIload C d3_39 rfl rfl ?_
      refine oIf_ne C d3_41 (q := 48) (by decide) (by decide) (r := 44) rfl (fun hq => absurd hq ((by decide))) (fun hc41 => ?_)
      refine oIconst C d3_44 (z := 1) rfl rfl ?_
      refine oGoto C d3_45 (q := 49) (by decide) (by decide) ?_
      refine oRetZ C d3_49 (z' := (1 : Int32)) rfl (by decide) (by decide) ?_
      exact ⟨by rw [fDr1_def, if_pos hc2, if_neg hc18, if_neg hc31, if_neg hc36], rfl⟩
   ·
    refine oIconst C d3_22 (z := 1) rfl rfl ?_
    refine oGoto C d3_23 (q := 27) (by decide) (by decide) ?_
    refine oIstore C d3_27 (Ls' := #[.val (.ref a), .val (.int ke), .val (.long cm), .second, .val (.int de), .val (.int ol), .val (.int 1)]) rfl (q := 29) rfl ?_
    refine oIload C d3_29 rfl rfl ?_
    refine oIf_eq C d3_31 (q := 48) (by decide) (by decide) (r := 34) rfl (fun hc31 => ?_) (fun hc31 => ?_)
    ·
     refine oIconst C d3_48 (z := 0) rfl rfl ?_
     refine oRetZ C d3_49 (z' := (0 : Int32)) rfl (by decide) (by decide) ?_
     exact ⟨by rw [fDr1_def, if_pos hc2, if_pos hc18, if_pos hc31], rfl⟩
    ·
     refine oIload C d3_34 rfl rfl ?_
     refine oIf_eq C d3_36 (q := 48) (by decide) (by decide) (r := 39) rfl (fun hc36 => ?_) (fun hc36 => ?_)
     ·
      refine oIconst C d3_48 (z := 0) rfl rfl ?_
      refine oRetZ C d3_49 (z' := (0 : Int32)) rfl (by decide) (by decide) ?_
      exact ⟨by rw [fDr1_def, if_pos hc2, if_pos hc18, if_neg hc31, if_pos hc36], rfl⟩
     ·
      refine oIload C d3_39 rfl rfl ?_
      refine oIf_ne C d3_41 (q := 48) (by decide) (by decide) (r := 44) rfl (fun hc41 => ?_) (fun hq => absurd hq ((by decide)))
      refine oIconst C d3_48 (z := 0) rfl rfl ?_
      refine oRetZ C d3_49 (z' := (0 : Int32)) rfl (by decide) (by decide) ?_
      exact ⟨by rw [fDr1_def, if_pos hc2, if_pos hc18, if_neg hc31, if_neg hc36], rfl⟩
def fDr2 (ke : Int32) (cm : Int64) (de : Int32) (ol : Int32) (u0 : Int64) (u1 : Int64) : Int32 := (if ke = (1 : Int32) then (if u1 < cm then (if de = 0 then (0 : Int32) else (if ol = 0 then (0 : Int32) else (0 : Int32))) else (if de = 0 then (0 : Int32) else (if ol = 0 then (0 : Int32) else (1 : Int32)))) else (if de = 0 then (0 : Int32) else (if ol = 0 then (0 : Int32) else (1 : Int32))))
theorem fDr2_def (ke : Int32) (cm : Int64) (de : Int32) (ol : Int32) (u0 : Int64) (u1 : Int64) : fDr2 ke cm de ol u0 u1 = (if ke = (1 : Int32) then (if u1 < cm then (if de = 0 then (0 : Int32) else (if ol = 0 then (0 : Int32) else (0 : Int32))) else (if de = 0 then (0 : Int32) else (if ol = 0 then (0 : Int32) else (1 : Int32)))) else (if de = 0 then (0 : Int32) else (if ol = 0 then (0 : Int32) else (1 : Int32)))) := rfl
set_option maxRecDepth 65536 in
set_option maxHeartbeats 40000000 in
theorem mt_fDr2 (l : Launch) (Z : State) (a0 : Array Value) (hw : oHw a0 Z) (h0 : Heap) (n0 : Nat) (Z0 : n0 ≤ h0.size) (a : Addr) (b : Addr) (ke : Int32) (cm : Int64) (de : Int32) (ol : Int32) (u0 : Int64) (u1 : Int64) (F_open : Fld Z h0 a "com/example/tideline/tideline/Retention" "open" "[J" (.ref b)) (A_b : oAr Z h0 b .long [.long u0, .long u1]) :
    oMet l Z (⟨"com/example/tideline/tideline/Retention", "dropsOldest", "(IJZZ)Z"⟩ : MethodName) prog_43_method_5_code 7 (some .boolean) [] ({ frames := 0, cells := 0, slots := 0, locals := 0 } : Room) 0 0 n0 #[.ref a, .int ke, .long cm, .int de, .int ol] h0 (fun v h => v = some (.int (fDr2 ke cm de ol u0 u1)) ∧ h = h0) := by
  refine oMet.intro (plainFor_of_name pn_593216) (fun m => ef_3 m a ke cm de ol) ?_
  intro op oe os m obl omt ocd C
  refine oIloadN C d3_0 rfl rfl ?_
  refine oIconst C d3_1 (z := 1) rfl rfl ?_
  refine oIcmp_ne C d3_2 (q := 26) (by decide) (by decide) (r := 5) rfl (fun hc2 => ?_) (fun hc2 => ?_)
  ·
   refine oIconst C d3_26 (z := 0) rfl rfl ?_
   refine oIstore C d3_27 (Ls' := #[.val (.ref a), .val (.int ke), .val (.long cm), .second, .val (.int de), .val (.int ol), .val (.int 0)]) rfl (q := 29) rfl ?_
   refine oIload C d3_29 rfl rfl ?_
   refine oIf_eq C d3_31 (q := 48) (by decide) (by decide) (r := 34) rfl (fun hc31 => ?_) (fun hc31 => ?_)
   ·
    refine oIconst C d3_48 (z := 0) rfl rfl ?_
    refine oRetZ C d3_49 (z' := (0 : Int32)) rfl (by decide) (by decide) ?_
    exact ⟨by rw [fDr2_def, if_neg hc2, if_pos hc31], rfl⟩
   ·
    refine oIload C d3_34 rfl rfl ?_
    refine oIf_eq C d3_36 (q := 48) (by decide) (by decide) (r := 39) rfl (fun hc36 => ?_) (fun hc36 => ?_)
    ·
     refine oIconst C d3_48 (z := 0) rfl rfl ?_
     refine oRetZ C d3_49 (z' := (0 : Int32)) rfl (by decide) (by decide) ?_
     exact ⟨by rw [fDr2_def, if_neg hc2, if_neg hc31, if_pos hc36], rfl⟩
    ·
     refine oIload C d3_39 rfl rfl ?_
     refine oIf_ne C d3_41 (q := 48) (by decide) (by decide) (r := 44) rfl (fun hq => absurd hq ((by decide))) (fun hc41 => ?_)
     refine oIconst C d3_44 (z := 1) rfl rfl ?_
     refine oGoto C d3_45 (q := 49) (by decide) (by decide) ?_
     refine oRetZ C d3_49 (z' := (1 : Int32)) rfl (by decide) (by decide) ?_
     exact ⟨by rw [fDr2_def, if_neg hc2, if_neg hc31, if_neg hc36], rfl⟩
  ·
   refine oLloadN C d3_5 rfl rfl ?_
   refine oAloadN C d3_6 rfl rfl rfl ?_
   refine oGetF C (w10 hw) Via.refl F_open d3_7 rfl ?_
   refine oAloadN C d3_10 rfl rfl rfl ?_
   refine oGetF C (w10 hw) Via.refl F_open d3_11 rfl ?_
   refine oLen C A_b (z := (2 : Int32)) rfl d3_14 rfl ?_
   refine oIconst C d3_15 (z := 1) rfl rfl ?_
   refine oIsub C d3_16 rfl ?_
   refine oCastI (z' := (1 : Int32)) (by decide) ?_
   refine oLaload C A_b (by decide) (k := 1) rfl (v := .long u1) rfl d3_17 rfl ?_
   refine oLcmp_le C d3_18 rfl d3_19 (q := 26) (by decide) (by decide) (r := 22) rfl (fun hc18 => ?_) (fun hc18 => ?_)
   ·
    refine oIconst C d3_26 (z := 0) rfl rfl ?_
    refine oIstore C d3_27 (Ls' := #[.val (.ref a), .val (.int ke), .val (.long cm), .second, .val (.int de), .val (.int ol), .val (.int 0)]) rfl (q := 29) rfl ?_
    refine oIload C d3_29 rfl rfl ?_
    refine oIf_eq C d3_31 (q := 48) (by decide) (by decide) (r := 34) rfl (fun hc31 => ?_) (fun hc31 => ?_)
    ·
     refine oIconst C d3_48 (z := 0) rfl rfl ?_
     refine oRetZ C d3_49 (z' := (0 : Int32)) rfl (by decide) (by decide) ?_
     exact ⟨by rw [fDr2_def, if_pos hc2, if_neg hc18, if_pos hc31], rfl⟩
    ·
     refine oIload C d3_34 rfl rfl ?_
     refine oIf_eq C d3_36 (q := 48) (by decide) (by decide) (r := 39) rfl (fun hc36 => ?_) (fun hc36 => ?_)
     ·
      refine oIconst C d3_48 (z := 0) rfl rfl ?_
      refine oRetZ C d3_49 (z' := (0 : Int32)) rfl (by decide) (by decide) ?_
      exact ⟨by rw [fDr2_def, if_pos hc2, if_neg hc18, if_neg hc31, if_pos hc36], rfl⟩
     ·
      refine oIload C d3_39 rfl rfl ?_
      refine oIf_ne C d3_41 (q := 48) (by decide) (by decide) (r := 44) rfl (fun hq => absurd hq ((by decide))) (fun hc41 => ?_)
      refine oIconst C d3_44 (z := 1) rfl rfl ?_
      refine oGoto C d3_45 (q := 49) (by decide) (by decide) ?_
      refine oRetZ C d3_49 (z' := (1 : Int32)) rfl (by decide) (by decide) ?_
      exact ⟨by rw [fDr2_def, if_pos hc2, if_neg hc18, if_neg hc31, if_neg hc36], rfl⟩
   ·
    refine oIconst C d3_22 (z := 1) rfl rfl ?_
    refine oGoto C d3_23 (q := 27) (by decide) (by decide) ?_
    refine oIstore C d3_27 (Ls' := #[.val (.ref a), .val (.int ke), .val (.long cm), .second, .val (.int de), .val (.int ol), .val (.int 1)]) rfl (q := 29) rfl ?_
    refine oIload C d3_29 rfl rfl ?_
    refine oIf_eq C d3_31 (q := 48) (by decide) (by decide) (r := 34) rfl (fun hc31 => ?_) (fun hc31 => ?_)
    ·
     refine oIconst C d3_48 (z := 0) rfl rfl ?_
     refine oRetZ C d3_49 (z' := (0 : Int32)) rfl (by decide) (by decide) ?_
     exact ⟨by rw [fDr2_def, if_pos hc2, if_pos hc18, if_pos hc31], rfl⟩
    ·
     refine oIload C d3_34 rfl rfl ?_
     refine oIf_eq C d3_36 (q := 48) (by decide) (by decide) (r := 39) rfl (fun hc36 => ?_) (fun hc36 => ?_)
     ·
      refine oIconst C d3_48 (z := 0) rfl rfl ?_
      refine oRetZ C d3_49 (z' := (0 : Int32)) rfl (by decide) (by decide) ?_
      exact ⟨by rw [fDr2_def, if_pos hc2, if_pos hc18, if_neg hc31, if_pos hc36], rfl⟩
     ·
      refine oIload C d3_39 rfl rfl ?_
      refine oIf_ne C d3_41 (q := 48) (by decide) (by decide) (r := 44) rfl (fun hc41 => ?_) (fun hq => absurd hq ((by decide)))
      refine oIconst C d3_48 (z := 0) rfl rfl ?_
      refine oRetZ C d3_49 (z' := (0 : Int32)) rfl (by decide) (by decide) ?_
      exact ⟨by rw [fDr2_def, if_pos hc2, if_pos hc18, if_neg hc31, if_neg hc36], rfl⟩
def fDr3 (ke : Int32) (cm : Int64) (de : Int32) (ol : Int32) (u0 : Int64) (u1 : Int64) (u2 : Int64) : Int32 := (if ke = (1 : Int32) then (if u2 < cm then (if de = 0 then (0 : Int32) else (if ol = 0 then (0 : Int32) else (0 : Int32))) else (if de = 0 then (0 : Int32) else (if ol = 0 then (0 : Int32) else (1 : Int32)))) else (if de = 0 then (0 : Int32) else (if ol = 0 then (0 : Int32) else (1 : Int32))))
theorem fDr3_def (ke : Int32) (cm : Int64) (de : Int32) (ol : Int32) (u0 : Int64) (u1 : Int64) (u2 : Int64) : fDr3 ke cm de ol u0 u1 u2 = (if ke = (1 : Int32) then (if u2 < cm then (if de = 0 then (0 : Int32) else (if ol = 0 then (0 : Int32) else (0 : Int32))) else (if de = 0 then (0 : Int32) else (if ol = 0 then (0 : Int32) else (1 : Int32)))) else (if de = 0 then (0 : Int32) else (if ol = 0 then (0 : Int32) else (1 : Int32)))) := rfl
set_option maxRecDepth 65536 in
set_option maxHeartbeats 40000000 in
theorem mt_fDr3 (l : Launch) (Z : State) (a0 : Array Value) (hw : oHw a0 Z) (h0 : Heap) (n0 : Nat) (Z0 : n0 ≤ h0.size) (a : Addr) (b : Addr) (ke : Int32) (cm : Int64) (de : Int32) (ol : Int32) (u0 : Int64) (u1 : Int64) (u2 : Int64) (F_open : Fld Z h0 a "com/example/tideline/tideline/Retention" "open" "[J" (.ref b)) (A_b : oAr Z h0 b .long [.long u0, .long u1, .long u2]) :
    oMet l Z (⟨"com/example/tideline/tideline/Retention", "dropsOldest", "(IJZZ)Z"⟩ : MethodName) prog_43_method_5_code 7 (some .boolean) [] ({ frames := 0, cells := 0, slots := 0, locals := 0 } : Room) 0 0 n0 #[.ref a, .int ke, .long cm, .int de, .int ol] h0 (fun v h => v = some (.int (fDr3 ke cm de ol u0 u1 u2)) ∧ h = h0) := by
  refine oMet.intro (plainFor_of_name pn_593216) (fun m => ef_3 m a ke cm de ol) ?_
  intro op oe os m obl omt ocd C
  refine oIloadN C d3_0 rfl rfl ?_
  refine oIconst C d3_1 (z := 1) rfl rfl ?_
  refine oIcmp_ne C d3_2 (q := 26) (by decide) (by decide) (r := 5) rfl (fun hc2 => ?_) (fun hc2 => ?_)
  ·
   refine oIconst C d3_26 (z := 0) rfl rfl ?_
   refine oIstore C d3_27 (Ls' := #[.val (.ref a), .val (.int ke), .val (.long cm), .second, .val (.int de), .val (.int ol), .val (.int 0)]) rfl (q := 29) rfl ?_
   refine oIload C d3_29 rfl rfl ?_
   refine oIf_eq C d3_31 (q := 48) (by decide) (by decide) (r := 34) rfl (fun hc31 => ?_) (fun hc31 => ?_)
   ·
    refine oIconst C d3_48 (z := 0) rfl rfl ?_
    refine oRetZ C d3_49 (z' := (0 : Int32)) rfl (by decide) (by decide) ?_
    exact ⟨by rw [fDr3_def, if_neg hc2, if_pos hc31], rfl⟩
   ·
    refine oIload C d3_34 rfl rfl ?_
    refine oIf_eq C d3_36 (q := 48) (by decide) (by decide) (r := 39) rfl (fun hc36 => ?_) (fun hc36 => ?_)
    ·
     refine oIconst C d3_48 (z := 0) rfl rfl ?_
     refine oRetZ C d3_49 (z' := (0 : Int32)) rfl (by decide) (by decide) ?_
     exact ⟨by rw [fDr3_def, if_neg hc2, if_neg hc31, if_pos hc36], rfl⟩
    ·
     refine oIload C d3_39 rfl rfl ?_
     refine oIf_ne C d3_41 (q := 48) (by decide) (by decide) (r := 44) rfl (fun hq => absurd hq ((by decide))) (fun hc41 => ?_)
     refine oIconst C d3_44 (z := 1) rfl rfl ?_
     refine oGoto C d3_45 (q := 49) (by decide) (by decide) ?_
     refine oRetZ C d3_49 (z' := (1 : Int32)) rfl (by decide) (by decide) ?_
     exact ⟨by rw [fDr3_def, if_neg hc2, if_neg hc31, if_neg hc36], rfl⟩
  ·
   refine oLloadN C d3_5 rfl rfl ?_
   refine oAloadN C d3_6 rfl rfl rfl ?_
   refine oGetF C (w10 hw) Via.refl F_open d3_7 rfl ?_
   refine oAloadN C d3_10 rfl rfl rfl ?_
   refine oGetF C (w10 hw) Via.refl F_open d3_11 rfl ?_
   refine oLen C A_b (z := (3 : Int32)) rfl d3_14 rfl ?_
   refine oIconst C d3_15 (z := 1) rfl rfl ?_
   refine oIsub C d3_16 rfl ?_
   refine oCastI (z' := (2 : Int32)) (by decide) ?_
   refine oLaload C A_b (by decide) (k := 2) rfl (v := .long u2) rfl d3_17 rfl ?_
   refine oLcmp_le C d3_18 rfl d3_19 (q := 26) (by decide) (by decide) (r := 22) rfl (fun hc18 => ?_) (fun hc18 => ?_)
   ·
    refine oIconst C d3_26 (z := 0) rfl rfl ?_
    refine oIstore C d3_27 (Ls' := #[.val (.ref a), .val (.int ke), .val (.long cm), .second, .val (.int de), .val (.int ol), .val (.int 0)]) rfl (q := 29) rfl ?_
    refine oIload C d3_29 rfl rfl ?_
    refine oIf_eq C d3_31 (q := 48) (by decide) (by decide) (r := 34) rfl (fun hc31 => ?_) (fun hc31 => ?_)
    ·
     refine oIconst C d3_48 (z := 0) rfl rfl ?_
     refine oRetZ C d3_49 (z' := (0 : Int32)) rfl (by decide) (by decide) ?_
     exact ⟨by rw [fDr3_def, if_pos hc2, if_neg hc18, if_pos hc31], rfl⟩
    ·
     refine oIload C d3_34 rfl rfl ?_
     refine oIf_eq C d3_36 (q := 48) (by decide) (by decide) (r := 39) rfl (fun hc36 => ?_) (fun hc36 => ?_)
     ·
      refine oIconst C d3_48 (z := 0) rfl rfl ?_
      refine oRetZ C d3_49 (z' := (0 : Int32)) rfl (by decide) (by decide) ?_
      exact ⟨by rw [fDr3_def, if_pos hc2, if_neg hc18, if_neg hc31, if_pos hc36], rfl⟩
     ·
      refine oIload C d3_39 rfl rfl ?_
      refine oIf_ne C d3_41 (q := 48) (by decide) (by decide) (r := 44) rfl (fun hq => absurd hq ((by decide))) (fun hc41 => ?_)
      refine oIconst C d3_44 (z := 1) rfl rfl ?_
      refine oGoto C d3_45 (q := 49) (by decide) (by decide) ?_
      refine oRetZ C d3_49 (z' := (1 : Int32)) rfl (by decide) (by decide) ?_
      exact ⟨by rw [fDr3_def, if_pos hc2, if_neg hc18, if_neg hc31, if_neg hc36], rfl⟩
   ·
    refine oIconst C d3_22 (z := 1) rfl rfl ?_
    refine oGoto C d3_23 (q := 27) (by decide) (by decide) ?_
    refine oIstore C d3_27 (Ls' := #[.val (.ref a), .val (.int ke), .val (.long cm), .second, .val (.int de), .val (.int ol), .val (.int 1)]) rfl (q := 29) rfl ?_
    refine oIload C d3_29 rfl rfl ?_
    refine oIf_eq C d3_31 (q := 48) (by decide) (by decide) (r := 34) rfl (fun hc31 => ?_) (fun hc31 => ?_)
    ·
     refine oIconst C d3_48 (z := 0) rfl rfl ?_
     refine oRetZ C d3_49 (z' := (0 : Int32)) rfl (by decide) (by decide) ?_
     exact ⟨by rw [fDr3_def, if_pos hc2, if_pos hc18, if_pos hc31], rfl⟩
    ·
     refine oIload C d3_34 rfl rfl ?_
     refine oIf_eq C d3_36 (q := 48) (by decide) (by decide) (r := 39) rfl (fun hc36 => ?_) (fun hc36 => ?_)
     ·
      refine oIconst C d3_48 (z := 0) rfl rfl ?_
      refine oRetZ C d3_49 (z' := (0 : Int32)) rfl (by decide) (by decide) ?_
      exact ⟨by rw [fDr3_def, if_pos hc2, if_pos hc18, if_neg hc31, if_pos hc36], rfl⟩
     ·
      refine oIload C d3_39 rfl rfl ?_
      refine oIf_ne C d3_41 (q := 48) (by decide) (by decide) (r := 44) rfl (fun hc41 => ?_) (fun hq => absurd hq ((by decide)))
      refine oIconst C d3_48 (z := 0) rfl rfl ?_
      refine oRetZ C d3_49 (z' := (0 : Int32)) rfl (by decide) (by decide) ?_
      exact ⟨by rw [fDr3_def, if_pos hc2, if_pos hc18, if_neg hc31, if_neg hc36], rfl⟩
theorem own_min (x y c : Int64) : fMin x y < c ↔ (x < c ∨ y < c) := by
  rw [fMin_def]; simp only [Int64.lt_iff_toInt_lt]; split <;> omega
theorem own_nn (x : Int32) : 1 ≤ ((x.toUInt32 >>> ((2 : Int32) &&& 31).toUInt32).toInt32 % (3 : Int32) + (1 : Int32)).toInt ∧ ((x.toUInt32 >>> ((2 : Int32) &&& 31).toUInt32).toInt32 % (3 : Int32) + (1 : Int32)).toInt ≤ 3 := by
  have h1 : (x.toUInt32 >>> ((2 : Int32) &&& 31).toUInt32).toInt32.toInt = ((x.toUInt32.toNat / 4 : Nat) : Int) := by
    have e : (x.toUInt32 >>> ((2 : Int32) &&& 31).toUInt32).toNat = x.toUInt32.toNat / 4 := by
      rw [show ((2 : Int32) &&& 31).toUInt32 = 2 from by decide, UInt32.toNat_shiftRight, show (2 : UInt32).toNat % 32 = 2 from by decide, Nat.shiftRight_eq_div_pow]
    have lt := x.toUInt32.toNat_lt
    show ((x.toUInt32 >>> ((2 : Int32) &&& 31).toUInt32).toBitVec).toInt = _
    rw [BitVec.toInt_eq_toNat_of_lt, show (x.toUInt32 >>> ((2 : Int32) &&& 31).toUInt32).toBitVec.toNat = (x.toUInt32 >>> ((2 : Int32) &&& 31).toUInt32).toNat from rfl, e]
    rw [show (x.toUInt32 >>> ((2 : Int32) &&& 31).toUInt32).toBitVec.toNat = (x.toUInt32 >>> ((2 : Int32) &&& 31).toUInt32).toNat from rfl, e]; omega
  generalize (x.toUInt32 >>> ((2 : Int32) &&& 31).toUInt32).toInt32 = w at *
  have e7 := c_iadd (w % 3) 1
  have e8 := rng32 (w % 3 + 1)
  have e9 : (w % 3).toInt = w.toInt % 3 := by rw [Int32.toInt_mod, show (3 : Int32).toInt = 3 from rfl, Int.tmod_eq_emod_of_nonneg (by omega)]
  rw [show (1 : Int32).toInt = 1 from rfl] at e7
  omega
theorem own_n3 {n : Int32} (h1 : ¬ n = (1 : Int32)) (h2 : ¬ n = (2 : Int32)) (r : 1 ≤ n.toInt ∧ n.toInt ≤ 3) : n = 3 := by
  simp only [← Int32.toInt_inj, Int32.reduceToInt] at *; omega
theorem ef_0 (m : MethodId) (x0 : Int32) (x1 : Int32) (x2 : Int64) (x3 : Int64) (x4 : Int64) (x5 : Int64) : entryFrame m #[.int x0, .int x1, .long x2, .long x3, .long x4, .long x5] maxLocals = mkF m 0 #[.val (.int x0), .val (.int x1), .val (.long x2), .second, .val (.long x3), .second, .val (.long x4), .second, .val (.long x5), .second, .unset, .unset, .unset, .unset, .unset, .unset, .unset, .unset, .unset, .unset] [] := by first | (simp [entryFrame, mkF, argsToLocals, Value.category, maxLocals]; done) | rfl
theorem pn_84831 : plainName "com/example/tideline/tideline/RetentionDropsOldestPinLaw" = true := by first | (simp [plainName, overriddenIn]; done) | decide +kernel
def fD (fl : Int32) : Int32 := (if (fl &&& (1 : Int32)) = 0 then (0 : Int32) else (1 : Int32))
theorem fD_def (fl : Int32) : fD fl = (if (fl &&& (1 : Int32)) = 0 then (0 : Int32) else (1 : Int32)) := rfl
def fO (fl : Int32) : Int32 := (if (fl &&& (2 : Int32)) = 0 then (0 : Int32) else (1 : Int32))
theorem fO_def (fl : Int32) : fO fl = (if (fl &&& (2 : Int32)) = 0 then (0 : Int32) else (1 : Int32)) := rfl
theorem pd_212481 : parseMethodDescriptor "(JJ)J" = some ⟨[.long, .long], some .long⟩ := by decide +kernel
theorem pd_429926 : parseMethodDescriptor "([J)V" = some ⟨[(.array .long)], none⟩ := by decide +kernel
theorem pd_437755 : parseMethodDescriptor "(IJZZ)Z" = some ⟨[.int, .long, .boolean, .boolean], some .boolean⟩ := by decide +kernel
def fSa3 (s0 : Int64) (cm : Int64) : Int32 := (if s0 < cm then (1 : Int32) else (0 : Int32))
theorem fSa3_def (s0 : Int64) (cm : Int64) : fSa3 s0 cm = (if s0 < cm then (1 : Int32) else (0 : Int32)) := rfl
def fSb3 (s0 : Int64) (s1 : Int64) (cm : Int64) : Int32 := (if s1 < cm then (1 : Int32) else (fSa3 s0 cm))
theorem fSb3_def (s0 : Int64) (s1 : Int64) (cm : Int64) : fSb3 s0 s1 cm = (if s1 < cm then (1 : Int32) else (fSa3 s0 cm)) := rfl
def fSc3 (s0 : Int64) (s1 : Int64) (s2 : Int64) (cm : Int64) : Int32 := (if s2 < cm then (1 : Int32) else (fSb3 s0 s1 cm))
theorem fSc3_def (s0 : Int64) (s1 : Int64) (s2 : Int64) (cm : Int64) : fSc3 s0 s1 s2 cm = (if s2 < cm then (1 : Int32) else (fSb3 s0 s1 cm)) := rfl
def fEx3 (fl : Int32) (ke : Int32) (cm : Int64) (s0 : Int64) (s1 : Int64) (s2 : Int64) : Int32 := (if (fD fl) = 0 then (0 : Int32) else (if (fO fl) = 0 then (0 : Int32) else (if ke = (1 : Int32) then (if (fSc3 s0 s1 s2 cm) = 0 then (1 : Int32) else (0 : Int32)) else (1 : Int32))))
theorem fEx3_def (fl : Int32) (ke : Int32) (cm : Int64) (s0 : Int64) (s1 : Int64) (s2 : Int64) : fEx3 fl ke cm s0 s1 s2 = (if (fD fl) = 0 then (0 : Int32) else (if (fO fl) = 0 then (0 : Int32) else (if ke = (1 : Int32) then (if (fSc3 s0 s1 s2 cm) = 0 then (1 : Int32) else (0 : Int32)) else (1 : Int32)))) := rfl
def fSa2 (s0 : Int64) (cm : Int64) : Int32 := (if s0 < cm then (1 : Int32) else (0 : Int32))
theorem fSa2_def (s0 : Int64) (cm : Int64) : fSa2 s0 cm = (if s0 < cm then (1 : Int32) else (0 : Int32)) := rfl
def fSb2 (s0 : Int64) (s1 : Int64) (cm : Int64) : Int32 := (if s1 < cm then (1 : Int32) else (fSa2 s0 cm))
theorem fSb2_def (s0 : Int64) (s1 : Int64) (cm : Int64) : fSb2 s0 s1 cm = (if s1 < cm then (1 : Int32) else (fSa2 s0 cm)) := rfl
def fSc2 (s0 : Int64) (s1 : Int64) (s2 : Int64) (cm : Int64) : Int32 := (fSb2 s0 s1 cm)
theorem fSc2_def (s0 : Int64) (s1 : Int64) (s2 : Int64) (cm : Int64) : fSc2 s0 s1 s2 cm = (fSb2 s0 s1 cm) := rfl
def fEx2 (fl : Int32) (ke : Int32) (cm : Int64) (s0 : Int64) (s1 : Int64) (s2 : Int64) : Int32 := (if (fD fl) = 0 then (0 : Int32) else (if (fO fl) = 0 then (0 : Int32) else (if ke = (1 : Int32) then (if (fSc2 s0 s1 s2 cm) = 0 then (1 : Int32) else (0 : Int32)) else (1 : Int32))))
theorem fEx2_def (fl : Int32) (ke : Int32) (cm : Int64) (s0 : Int64) (s1 : Int64) (s2 : Int64) : fEx2 fl ke cm s0 s1 s2 = (if (fD fl) = 0 then (0 : Int32) else (if (fO fl) = 0 then (0 : Int32) else (if ke = (1 : Int32) then (if (fSc2 s0 s1 s2 cm) = 0 then (1 : Int32) else (0 : Int32)) else (1 : Int32)))) := rfl
def fSa1 (s0 : Int64) (cm : Int64) : Int32 := (if s0 < cm then (1 : Int32) else (0 : Int32))
theorem fSa1_def (s0 : Int64) (cm : Int64) : fSa1 s0 cm = (if s0 < cm then (1 : Int32) else (0 : Int32)) := rfl
def fSb1 (s0 : Int64) (s1 : Int64) (cm : Int64) : Int32 := (fSa1 s0 cm)
theorem fSb1_def (s0 : Int64) (s1 : Int64) (cm : Int64) : fSb1 s0 s1 cm = (fSa1 s0 cm) := rfl
def fSc1 (s0 : Int64) (s1 : Int64) (s2 : Int64) (cm : Int64) : Int32 := (fSb1 s0 s1 cm)
theorem fSc1_def (s0 : Int64) (s1 : Int64) (s2 : Int64) (cm : Int64) : fSc1 s0 s1 s2 cm = (fSb1 s0 s1 cm) := rfl
def fEx1 (fl : Int32) (ke : Int32) (cm : Int64) (s0 : Int64) (s1 : Int64) (s2 : Int64) : Int32 := (if (fD fl) = 0 then (0 : Int32) else (if (fO fl) = 0 then (0 : Int32) else (if ke = (1 : Int32) then (if (fSc1 s0 s1 s2 cm) = 0 then (1 : Int32) else (0 : Int32)) else (1 : Int32))))
theorem fEx1_def (fl : Int32) (ke : Int32) (cm : Int64) (s0 : Int64) (s1 : Int64) (s2 : Int64) : fEx1 fl ke cm s0 s1 s2 = (if (fD fl) = 0 then (0 : Int32) else (if (fO fl) = 0 then (0 : Int32) else (if ke = (1 : Int32) then (if (fSc1 s0 s1 s2 cm) = 0 then (1 : Int32) else (0 : Int32)) else (1 : Int32)))) := rfl
theorem own_fin1 (fl ke : Int32) (cm s0 s1 s2 : Int64) : fDr1 ke cm (fD fl) (fO fl) s0 = fEx1 fl ke cm s0 s1 s2 := by
  rw [fDr1_def, fEx1_def]; simp only [fSc1_def, fSb1_def, fSa1_def, own_min]
  by_cases g1 : ke = 1 <;> by_cases g2 : fD fl = 0 <;> by_cases g3 : fO fl = 0 <;> by_cases g4 : s0 < cm <;> by_cases g5 : s1 < cm <;> by_cases g6 : s2 < cm <;> simp [g1, g2, g3, g4, g5, g6]
theorem own_fin2 (fl ke : Int32) (cm s0 s1 s2 : Int64) : fDr2 ke cm (fD fl) (fO fl) (fMax s0 s1) (fMin s0 s1) = fEx2 fl ke cm s0 s1 s2 := by
  rw [fDr2_def, fEx2_def]; simp only [fSc2_def, fSb2_def, fSa2_def, own_min]
  by_cases g1 : ke = 1 <;> by_cases g2 : fD fl = 0 <;> by_cases g3 : fO fl = 0 <;> by_cases g4 : s0 < cm <;> by_cases g5 : s1 < cm <;> by_cases g6 : s2 < cm <;> simp [g1, g2, g3, g4, g5, g6]
theorem own_fin3 (fl ke : Int32) (cm s0 s1 s2 : Int64) : fDr3 ke cm (fD fl) (fO fl) (fMax (fMax s0 s1) s2) (fMax (fMin s0 s1) (fMin (fMax s0 s1) s2)) (fMin (fMin s0 s1) s2) = fEx3 fl ke cm s0 s1 s2 := by
  rw [fDr3_def, fEx3_def]; simp only [fSc3_def, fSb3_def, fSa3_def, own_min]
  by_cases g1 : ke = 1 <;> by_cases g2 : fD fl = 0 <;> by_cases g3 : fO fl = 0 <;> by_cases g4 : s0 < cm <;> by_cases g5 : s1 < cm <;> by_cases g6 : s2 < cm <;> simp [g1, g2, g3, g4, g5, g6]
set_option maxRecDepth 65536 in
set_option maxHeartbeats 40000000 in
theorem mt_law (l : Launch) (Z : State) (a0 : Array Value) (hw : oHw a0 Z) (h0 : Heap) (n0 : Nat) (Z0 : n0 ≤ h0.size) (fl : Int32) (ke : Int32) (cm : Int64) (s0 : Int64) (s1 : Int64) (s2 : Int64)  :
    oMet l Z x code maxLocals ret tables_1 room_1 16 128 n0 #[.int fl, .int ke, .long cm, .long s0, .long s1, .long s2] h0 (fun v h => v = some (.int 1)) := by
  refine oMet.intro (plainFor_of_name pn_84831) (fun m => ef_0 m fl ke cm s0 s1 s2) ?_
  intro op oe os m obl omt ocd C
  refine oJoin (α := Unit) (fun _ => True) (fun _ => h0) (fun _ => (mkF m 11 #[.val (.int fl), .val (.int ke), .val (.long cm), .second, .val (.long s0), .second, .val (.long s1), .second, .val (.long s2), .second, .unset, .unset, .unset, .unset, .unset, .unset, .unset, .unset, .unset, .unset] [.int (fD fl)])) (k := 0) (n := 0) (fun _ _ => ?_) (fun J11 => ?_)
  ·
   show oW _ _ _ _ _ _ _ _ _ _ _ _ _ _ _ (mkF m 11 #[.val (.int fl), .val (.int ke), .val (.long cm), .second, .val (.long s0), .second, .val (.long s1), .second, .val (.long s2), .second, .unset, .unset, .unset, .unset, .unset, .unset, .unset, .unset, .unset, .unset] [.int (fD fl)])
   refine oIstore C at_11 (Ls' := #[.val (.int fl), .val (.int ke), .val (.long cm), .second, .val (.long s0), .second, .val (.long s1), .second, .val (.long s2), .second, .val (.int (fD fl)), .unset, .unset, .unset, .unset, .unset, .unset, .unset, .unset, .unset]) rfl (q := 13) rfl ?_
   refine oJoin (α := Unit) (fun _ => True) (fun _ => h0) (fun _ => (mkF m 24 #[.val (.int fl), .val (.int ke), .val (.long cm), .second, .val (.long s0), .second, .val (.long s1), .second, .val (.long s2), .second, .val (.int (fD fl)), .unset, .unset, .unset, .unset, .unset, .unset, .unset, .unset, .unset] [.int (fO fl)])) (k := 0) (n := 0) (fun _ _ => ?_) (fun J24 => ?_)
   ·
    show oW _ _ _ _ _ _ _ _ _ _ _ _ _ _ _ (mkF m 24 #[.val (.int fl), .val (.int ke), .val (.long cm), .second, .val (.long s0), .second, .val (.long s1), .second, .val (.long s2), .second, .val (.int (fD fl)), .unset, .unset, .unset, .unset, .unset, .unset, .unset, .unset, .unset] [.int (fO fl)])
    refine oIstore C at_24 (Ls' := #[.val (.int fl), .val (.int ke), .val (.long cm), .second, .val (.long s0), .second, .val (.long s1), .second, .val (.long s2), .second, .val (.int (fD fl)), .val (.int (fO fl)), .unset, .unset, .unset, .unset, .unset, .unset, .unset, .unset]) rfl (q := 26) rfl ?_
    refine oIloadN C at_26 rfl rfl ?_
    refine oIconst C at_27 (z := 2) rfl rfl ?_
    refine oIushr C at_28 rfl ?_
    refine oIconst C at_29 (z := 3) rfl rfl ?_
    refine oIrem C at_30 (by decide) rfl ?_
    refine oIconst C at_31 (z := 1) rfl rfl ?_
    refine oIadd C at_32 rfl ?_
    obtain ⟨nn, e_nn⟩ : ∃ z, z = ((((fl.toUInt32 >>> ((2 : Int32) &&& 31).toUInt32).toInt32) % (3 : Int32)) + (1 : Int32)) := ⟨_, rfl⟩
    refine oCastI e_nn.symm ?_
    have r_nn := own_nn fl
    rw [← e_nn] at r_nn
    refine oIstore C at_33 (Ls' := #[.val (.int fl), .val (.int ke), .val (.long cm), .second, .val (.long s0), .second, .val (.long s1), .second, .val (.long s2), .second, .val (.int (fD fl)), .val (.int (fO fl)), .val (.int nn), .unset, .unset, .unset, .unset, .unset, .unset, .unset]) rfl (q := 35) rfl ?_
    refine oIload C at_35 rfl rfl ?_
    refine oIconst C at_37 (z := 1) rfl rfl ?_
    refine oIcmp_ne C at_38 (q := 54) (by decide) (by decide) (r := 41) rfl (fun hc38 => ?_) (fun hc38 => ?_)
    ·
     refine oIload C at_54 rfl rfl ?_
     refine oIconst C at_56 (z := 2) rfl rfl ?_
     refine oIcmp_ne C at_57 (q := 88) (by decide) (by decide) (r := 60) rfl (fun hc57 => ?_) (fun hc57 => ?_)
     ·
      refine oLload C at_88 rfl rfl ?_
      refine oLload C at_90 rfl rfl ?_
      refine oCallS C (w17 hw) (w18 hw) (w19 hw) (w20 hw) at_92 (by decide) pd_212481 rfl rfl (argsL := [.long s0, .long s1]) (rest := []) rfl (W := 0) rfl (q := 95) rfl (by decide) (by decide) (by decide) (by decide) (mt_fMax l Z a0 hw _ n0 Z0 s0 s1 ) (oPureK ?_)
      refine oLload C at_95 rfl rfl ?_
      refine oCallS C (w17 hw) (w18 hw) (w19 hw) (w20 hw) at_97 (by decide) pd_212481 rfl rfl (argsL := [.long (fMax s0 s1), .long s2]) (rest := []) rfl (W := 0) rfl (q := 100) rfl (by decide) (by decide) (by decide) (by decide) (mt_fMax l Z a0 hw _ n0 Z0 (fMax s0 s1) s2 ) (oPureK ?_)
      refine oLstore C at_100 (Ls' := #[.val (.int fl), .val (.int ke), .val (.long cm), .second, .val (.long s0), .second, .val (.long s1), .second, .val (.long s2), .second, .val (.int (fD fl)), .val (.int (fO fl)), .val (.int nn), .unset, .val (.long (fMax (fMax s0 s1) s2)), .second, .unset, .unset, .unset, .unset]) rfl (q := 102) rfl ?_
      refine oLload C at_102 rfl rfl ?_
      refine oLload C at_104 rfl rfl ?_
      refine oCallS C (w21 hw) (w22 hw) (w19 hw) (w23 hw) at_106 (by decide) pd_212481 rfl rfl (argsL := [.long s0, .long s1]) (rest := []) rfl (W := 0) rfl (q := 109) rfl (by decide) (by decide) (by decide) (by decide) (mt_fMin l Z a0 hw _ n0 Z0 s0 s1 ) (oPureK ?_)
      refine oLload C at_109 rfl rfl ?_
      refine oCallS C (w21 hw) (w22 hw) (w19 hw) (w23 hw) at_111 (by decide) pd_212481 rfl rfl (argsL := [.long (fMin s0 s1), .long s2]) (rest := []) rfl (W := 0) rfl (q := 114) rfl (by decide) (by decide) (by decide) (by decide) (mt_fMin l Z a0 hw _ n0 Z0 (fMin s0 s1) s2 ) (oPureK ?_)
      refine oLstore C at_114 (Ls' := #[.val (.int fl), .val (.int ke), .val (.long cm), .second, .val (.long s0), .second, .val (.long s1), .second, .val (.long s2), .second, .val (.int (fD fl)), .val (.int (fO fl)), .val (.int nn), .unset, .val (.long (fMax (fMax s0 s1) s2)), .second, .val (.long (fMin (fMin s0 s1) s2)), .second, .unset, .unset]) rfl (q := 116) rfl ?_
      refine oLload C at_116 rfl rfl ?_
      refine oLload C at_118 rfl rfl ?_
      refine oCallS C (w21 hw) (w22 hw) (w19 hw) (w23 hw) at_120 (by decide) pd_212481 rfl rfl (argsL := [.long s0, .long s1]) (rest := []) rfl (W := 0) rfl (q := 123) rfl (by decide) (by decide) (by decide) (by decide) (mt_fMin l Z a0 hw _ n0 Z0 s0 s1 ) (oPureK ?_)
      refine oLload C at_123 rfl rfl ?_
      refine oLload C at_125 rfl rfl ?_
      refine oCallS C (w17 hw) (w18 hw) (w19 hw) (w20 hw) at_127 (by decide) pd_212481 rfl rfl (argsL := [.long s0, .long s1]) (rest := [.long (fMin s0 s1)]) rfl (W := 2) rfl (q := 130) rfl (by decide) (by decide) (by decide) (by decide) (mt_fMax l Z a0 hw _ n0 Z0 s0 s1 ) (oPureK ?_)
      refine oLload C at_130 rfl rfl ?_
      refine oCallS C (w21 hw) (w22 hw) (w19 hw) (w23 hw) at_132 (by decide) pd_212481 rfl rfl (argsL := [.long (fMax s0 s1), .long s2]) (rest := [.long (fMin s0 s1)]) rfl (W := 2) rfl (q := 135) rfl (by decide) (by decide) (by decide) (by decide) (mt_fMin l Z a0 hw _ n0 Z0 (fMax s0 s1) s2 ) (oPureK ?_)
      refine oCallS C (w17 hw) (w18 hw) (w19 hw) (w20 hw) at_135 (by decide) pd_212481 rfl rfl (argsL := [.long (fMin s0 s1), .long (fMin (fMax s0 s1) s2)]) (rest := []) rfl (W := 0) rfl (q := 138) rfl (by decide) (by decide) (by decide) (by decide) (mt_fMax l Z a0 hw _ n0 Z0 (fMin s0 s1) (fMin (fMax s0 s1) s2) ) (oPureK ?_)
      refine oLstore C at_138 (Ls' := #[.val (.int fl), .val (.int ke), .val (.long cm), .second, .val (.long s0), .second, .val (.long s1), .second, .val (.long s2), .second, .val (.int (fD fl)), .val (.int (fO fl)), .val (.int nn), .unset, .val (.long (fMax (fMax s0 s1) s2)), .second, .val (.long (fMin (fMin s0 s1) s2)), .second, .val (.long (fMax (fMin s0 s1) (fMin (fMax s0 s1) s2))), .second]) rfl (q := 140) rfl ?_
      refine oIconst C at_140 (z := 3) rfl rfl ?_
      refine oNewA C (w0 hw) rfl at_141 rfl (by decide) (k := 3) rfl (by decide) (by decide) (cap := 3) (Nat.le_refl _) (by decide) (by decide) fun a10 h10 g_a10 E10 A10 => ?_
      have ge_a10 : n0 ≤ a10 := g_a10 ▸ Z0
      have A10l : oAr Z h10 a10 .long [.long 0, .long 0, .long 0] := A10
      refine oDup C at_143 rfl rfl ?_
      refine oIconst C at_144 (z := 0) rfl rfl ?_
      refine oLload C at_145 rfl rfl ?_
      refine oLastore C A10l (by decide) (k := 0) rfl (v := .long 0) rfl (v' := .long (fMax (fMax s0 s1) s2)) rfl at_147 rfl ge_a10 fun h11 W11 A11 => ?_
      have A11l : oAr Z h11 a10 .long [.long (fMax (fMax s0 s1) s2), .long 0, .long 0] := A11
      refine oDup C at_148 rfl rfl ?_
      refine oIconst C at_149 (z := 1) rfl rfl ?_
      refine oLload C at_150 rfl rfl ?_
      refine oLastore C A11l (by decide) (k := 1) rfl (v := .long 0) rfl (v' := .long (fMax (fMin s0 s1) (fMin (fMax s0 s1) s2))) rfl at_152 rfl ge_a10 fun h12 W12 A12 => ?_
      have A12l : oAr Z h12 a10 .long [.long (fMax (fMax s0 s1) s2), .long (fMax (fMin s0 s1) (fMin (fMax s0 s1) s2)), .long 0] := A12
      refine oDup C at_153 rfl rfl ?_
      refine oIconst C at_154 (z := 2) rfl rfl ?_
      refine oLload C at_155 rfl rfl ?_
      refine oLastore C A12l (by decide) (k := 2) rfl (v := .long 0) rfl (v' := .long (fMin (fMin s0 s1) s2)) rfl at_157 rfl ge_a10 fun h13 W13 A13 => ?_
      have A13l : oAr Z h13 a10 .long [.long (fMax (fMax s0 s1) s2), .long (fMax (fMin s0 s1) (fMin (fMax s0 s1) s2)), .long (fMin (fMin s0 s1) s2)] := A13
      refine oAstore C at_158 rfl (Ls' := #[.val (.int fl), .val (.int ke), .val (.long cm), .second, .val (.long s0), .second, .val (.long s1), .second, .val (.long s2), .second, .val (.int (fD fl)), .val (.int (fO fl)), .val (.int nn), .val (.ref a10), .val (.long (fMax (fMax s0 s1) s2)), .second, .val (.long (fMin (fMin s0 s1) s2)), .second, .val (.long (fMax (fMin s0 s1) (fMin (fMax s0 s1) s2))), .second]) rfl (q := 160) rfl ?_
      refine oNew C (w1 hw) (w2 hw) (w3 hw) at_160 rfl (by decide) (by decide) fun a14 h14 g_a14 E14 X14 D14 => ?_
      have z15 := (Nat.le_trans (Nat.le_trans (Nat.le_trans (Nat.le_trans Z0 E10.1) (Nat.le_of_eq W11.size.symm)) (Nat.le_of_eq W12.size.symm)) (Nat.le_of_eq W13.size.symm))
      have ge_a14 : n0 ≤ a14 := g_a14 ▸ z15
      have f14_open : Fld Z h14 a14 "com/example/tideline/tideline/Retention" "open" "[J" (.null) := D14 (Or.inr (w11 hw)) (ty := (.array .long)) (by decide)
      refine oDup C at_163 rfl rfl ?_
      refine oAload C at_164 rfl rfl rfl ?_
      have z17 := (Nat.le_trans z15 E14.1)
      refine oCallC C (w4 hw) (w5 hw) (w3 hw) (w6 hw) at_166 rfl (by decide) pd_429926 rfl rfl (a := a14) (argsL := [.ref a10]) (rest := [.ref a14]) rfl (W := 1) rfl (q := 169) rfl (by decide) (by decide) (by decide) (by decide) (mt_ret l Z a0 hw _ n0 z17 a14 a10 X14 ge_a14 f14_open ) ?_
      rintro _ h16 ⟨rfl, K16, f16_open⟩
      show oW _ _ _ _ _ _ _ _ _ _ _ _ _ _ _ (mkF m 169 #[.val (.int fl), .val (.int ke), .val (.long cm), .second, .val (.long s0), .second, .val (.long s1), .second, .val (.long s2), .second, .val (.int (fD fl)), .val (.int (fO fl)), .val (.int nn), .val (.ref a10), .val (.long (fMax (fMax s0 s1) s2)), .second, .val (.long (fMin (fMin s0 s1) s2)), .second, .val (.long (fMax (fMin s0 s1) (fMin (fMax s0 s1) s2))), .second] [.ref a14])
      refine oAstore C at_169 rfl (Ls' := #[.val (.int fl), .val (.int ke), .val (.long cm), .second, .val (.long s0), .second, .val (.long s1), .second, .val (.long s2), .second, .val (.int (fD fl)), .val (.int (fO fl)), .val (.int nn), .val (.ref a10), .val (.ref a14), .unset, .val (.long (fMin (fMin s0 s1) s2)), .second, .val (.long (fMax (fMin s0 s1) (fMin (fMax s0 s1) s2))), .second]) rfl (q := 171) rfl ?_
      refine oAload C at_171 rfl rfl rfl ?_
      refine oIloadN C at_173 rfl rfl ?_
      refine oLloadN C at_174 rfl rfl ?_
      refine oIload C at_175 rfl rfl ?_
      refine oIload C at_177 rfl rfl ?_
      have f18 := (X14.keep K16)
      have ne19 : a10 ≠ a14 := oNe' A13l.lt (Nat.le_of_eq g_a14.symm)
      have f20 := ((A13l.ext E14).keep K16 (ninS ne19 nin0))
      have z21 := (Nat.le_trans z17 K16.1)
      refine oCallV C (w12 hw) (w13 hw) (w15 hw) (w14 hw) (w3 hw) (w16 hw) at_179 f18 (by decide) pd_437755 rfl rfl (a := a14) (argsL := [.int ke, .long cm, .int (fD fl), .int (fO fl)]) (rest := []) rfl (W := 0) rfl (q := 182) rfl (by decide) (by decide) (by decide) (by decide) (mt_fDr3 l Z a0 hw _ n0 z21 a14 a10 ke cm (fD fl) (fO fl) (fMax (fMax s0 s1) s2) (fMax (fMin s0 s1) (fMin (fMax s0 s1) s2)) (fMin (fMin s0 s1) s2) f16_open f20) (oPureK ?_)
      refine oIstore C at_182 (Ls' := #[.val (.int fl), .val (.int ke), .val (.long cm), .second, .val (.long s0), .second, .val (.long s1), .second, .val (.long s2), .second, .val (.int (fD fl)), .val (.int (fO fl)), .val (.int nn), .val (.ref a10), .val (.ref a14), .val (.int (fDr3 ke cm (fD fl) (fO fl) (fMax (fMax s0 s1) s2) (fMax (fMin s0 s1) (fMin (fMax s0 s1) s2)) (fMin (fMin s0 s1) s2))), .val (.long (fMin (fMin s0 s1) s2)), .second, .val (.long (fMax (fMin s0 s1) (fMin (fMax s0 s1) s2))), .second]) rfl (q := 184) rfl ?_
      refine oJoin (α := Unit) (fun _ => True) (fun _ => h16) (fun _ => (mkF m 196 #[.val (.int fl), .val (.int ke), .val (.long cm), .second, .val (.long s0), .second, .val (.long s1), .second, .val (.long s2), .second, .val (.int (fD fl)), .val (.int (fO fl)), .val (.int nn), .val (.ref a10), .val (.ref a14), .val (.int (fDr3 ke cm (fD fl) (fO fl) (fMax (fMax s0 s1) s2) (fMax (fMin s0 s1) (fMin (fMax s0 s1) s2)) (fMin (fMin s0 s1) s2))), .val (.long (fMin (fMin s0 s1) s2)), .second, .val (.long (fMax (fMin s0 s1) (fMin (fMax s0 s1) s2))), .second] [.int (fSa3 s0 cm)])) (k := 2) (n := 5) (fun _ _ => ?_) (fun J196 => ?_)
      ·
       show oW _ _ _ _ _ _ _ _ _ _ _ _ _ _ _ (mkF m 196 #[.val (.int fl), .val (.int ke), .val (.long cm), .second, .val (.long s0), .second, .val (.long s1), .second, .val (.long s2), .second, .val (.int (fD fl)), .val (.int (fO fl)), .val (.int nn), .val (.ref a10), .val (.ref a14), .val (.int (fDr3 ke cm (fD fl) (fO fl) (fMax (fMax s0 s1) s2) (fMax (fMin s0 s1) (fMin (fMax s0 s1) s2)) (fMin (fMin s0 s1) s2))), .val (.long (fMin (fMin s0 s1) s2)), .second, .val (.long (fMax (fMin s0 s1) (fMin (fMax s0 s1) s2))), .second] [.int (fSa3 s0 cm)])
       refine oIstore C at_196 (Ls' := #[.val (.int fl), .val (.int ke), .val (.long cm), .second, .val (.long s0), .second, .val (.long s1), .second, .val (.long s2), .second, .val (.int (fD fl)), .val (.int (fO fl)), .val (.int nn), .val (.ref a10), .val (.ref a14), .val (.int (fDr3 ke cm (fD fl) (fO fl) (fMax (fMax s0 s1) s2) (fMax (fMin s0 s1) (fMin (fMax s0 s1) s2)) (fMin (fMin s0 s1) s2))), .val (.int (fSa3 s0 cm)), .unset, .val (.long (fMax (fMin s0 s1) (fMin (fMax s0 s1) s2))), .second]) rfl (q := 198) rfl ?_
       refine oJoin (α := Unit) (fun _ => True) (fun _ => h16) (fun _ => (mkF m 214 #[.val (.int fl), .val (.int ke), .val (.long cm), .second, .val (.long s0), .second, .val (.long s1), .second, .val (.long s2), .second, .val (.int (fD fl)), .val (.int (fO fl)), .val (.int nn), .val (.ref a10), .val (.ref a14), .val (.int (fDr3 ke cm (fD fl) (fO fl) (fMax (fMax s0 s1) s2) (fMax (fMin s0 s1) (fMin (fMax s0 s1) s2)) (fMin (fMin s0 s1) s2))), .val (.int (fSb3 s0 s1 cm)), .unset, .val (.long (fMax (fMin s0 s1) (fMin (fMax s0 s1) s2))), .second] [])) (k := 2) (n := 5) (fun _ _ => ?_) (fun J214 => ?_)
       ·
        show oW _ _ _ _ _ _ _ _ _ _ _ _ _ _ _ (mkF m 214 #[.val (.int fl), .val (.int ke), .val (.long cm), .second, .val (.long s0), .second, .val (.long s1), .second, .val (.long s2), .second, .val (.int (fD fl)), .val (.int (fO fl)), .val (.int nn), .val (.ref a10), .val (.ref a14), .val (.int (fDr3 ke cm (fD fl) (fO fl) (fMax (fMax s0 s1) s2) (fMax (fMin s0 s1) (fMin (fMax s0 s1) s2)) (fMin (fMin s0 s1) s2))), .val (.int (fSb3 s0 s1 cm)), .unset, .val (.long (fMax (fMin s0 s1) (fMin (fMax s0 s1) s2))), .second] [])
        refine oJoin (α := Unit) (fun _ => True) (fun _ => h16) (fun _ => (mkF m 230 #[.val (.int fl), .val (.int ke), .val (.long cm), .second, .val (.long s0), .second, .val (.long s1), .second, .val (.long s2), .second, .val (.int (fD fl)), .val (.int (fO fl)), .val (.int nn), .val (.ref a10), .val (.ref a14), .val (.int (fDr3 ke cm (fD fl) (fO fl) (fMax (fMax s0 s1) s2) (fMax (fMin s0 s1) (fMin (fMax s0 s1) s2)) (fMin (fMin s0 s1) s2))), .val (.int (fSc3 s0 s1 s2 cm)), .unset, .val (.long (fMax (fMin s0 s1) (fMin (fMax s0 s1) s2))), .second] [])) (k := 2) (n := 5) (fun _ _ => ?_) (fun J230 => ?_)
        ·
         show oW _ _ _ _ _ _ _ _ _ _ _ _ _ _ _ (mkF m 230 #[.val (.int fl), .val (.int ke), .val (.long cm), .second, .val (.long s0), .second, .val (.long s1), .second, .val (.long s2), .second, .val (.int (fD fl)), .val (.int (fO fl)), .val (.int nn), .val (.ref a10), .val (.ref a14), .val (.int (fDr3 ke cm (fD fl) (fO fl) (fMax (fMax s0 s1) s2) (fMax (fMin s0 s1) (fMin (fMax s0 s1) s2)) (fMin (fMin s0 s1) s2))), .val (.int (fSc3 s0 s1 s2 cm)), .unset, .val (.long (fMax (fMin s0 s1) (fMin (fMax s0 s1) s2))), .second] [])
         refine oJoin (α := Unit) (fun _ => True) (fun _ => h16) (fun _ => (mkF m 271 #[.val (.int fl), .val (.int ke), .val (.long cm), .second, .val (.long s0), .second, .val (.long s1), .second, .val (.long s2), .second, .val (.int (fD fl)), .val (.int (fO fl)), .val (.int nn), .val (.ref a10), .val (.ref a14), .val (.int (fDr3 ke cm (fD fl) (fO fl) (fMax (fMax s0 s1) s2) (fMax (fMin s0 s1) (fMin (fMax s0 s1) s2)) (fMin (fMin s0 s1) s2))), .val (.int (fSc3 s0 s1 s2 cm)), .val (.int (fEx3 fl ke cm s0 s1 s2)), .val (.long (fMax (fMin s0 s1) (fMin (fMax s0 s1) s2))), .second] [])) (k := 2) (n := 5) (fun _ _ => ?_) (fun J271 => ?_)
         ·
          show oW _ _ _ _ _ _ _ _ _ _ _ _ _ _ _ (mkF m 271 #[.val (.int fl), .val (.int ke), .val (.long cm), .second, .val (.long s0), .second, .val (.long s1), .second, .val (.long s2), .second, .val (.int (fD fl)), .val (.int (fO fl)), .val (.int nn), .val (.ref a10), .val (.ref a14), .val (.int (fDr3 ke cm (fD fl) (fO fl) (fMax (fMax s0 s1) s2) (fMax (fMin s0 s1) (fMin (fMax s0 s1) s2)) (fMin (fMin s0 s1) s2))), .val (.int (fSc3 s0 s1 s2 cm)), .val (.int (fEx3 fl ke cm s0 s1 s2)), .val (.long (fMax (fMin s0 s1) (fMin (fMax s0 s1) s2))), .second] [])
          refine oIload C at_271 rfl rfl ?_
          refine oIload C at_273 rfl rfl ?_
          refine oIcmp_ne C at_275 (q := 282) (by decide) (by decide) (r := 278) rfl (fun hq => absurd hq (not_not_intro (own_fin3 fl ke cm s0 s1 s2))) (fun hc275 => ?_)
          refine oIconst C at_278 (z := 1) rfl rfl ?_
          refine oGoto C at_279 (q := 283) (by decide) (by decide) ?_
          refine oRetZ C at_283 (z' := (1 : Int32)) rfl (by decide) (by decide) ?_
          exact rfl
         ·
          refine oIload C at_230 rfl rfl ?_
          refine oIf_ne C at_232 (q := 241) (by decide) (by decide) (r := 235) rfl (fun hc232 => ?_) (fun hc232 => ?_)
          ·
           refine oIload C at_241 rfl rfl ?_
           refine oIf_ne C at_243 (q := 252) (by decide) (by decide) (r := 246) rfl (fun hc243 => ?_) (fun hc243 => ?_)
           ·
            refine oIloadN C at_252 rfl rfl ?_
            refine oIconst C at_253 (z := 1) rfl rfl ?_
            refine oIcmp_ne C at_254 (q := 268) (by decide) (by decide) (r := 257) rfl (fun hc254 => ?_) (fun hc254 => ?_)
            ·
             refine oIconst C at_268 (z := 1) rfl rfl ?_
             refine oIstore C at_269 (Ls' := #[.val (.int fl), .val (.int ke), .val (.long cm), .second, .val (.long s0), .second, .val (.long s1), .second, .val (.long s2), .second, .val (.int (fD fl)), .val (.int (fO fl)), .val (.int nn), .val (.ref a10), .val (.ref a14), .val (.int (fDr3 ke cm (fD fl) (fO fl) (fMax (fMax s0 s1) s2) (fMax (fMin s0 s1) (fMin (fMax s0 s1) s2)) (fMin (fMin s0 s1) s2))), .val (.int (fSc3 s0 s1 s2 cm)), .val (.int 1), .val (.long (fMax (fMin s0 s1) (fMin (fMax s0 s1) s2))), .second]) rfl (q := 271) rfl ?_
             refine oCastLs (Ls' := #[.val (.int fl), .val (.int ke), .val (.long cm), .second, .val (.long s0), .second, .val (.long s1), .second, .val (.long s2), .second, .val (.int (fD fl)), .val (.int (fO fl)), .val (.int nn), .val (.ref a10), .val (.ref a14), .val (.int (fDr3 ke cm (fD fl) (fO fl) (fMax (fMax s0 s1) s2) (fMax (fMin s0 s1) (fMin (fMax s0 s1) s2)) (fMin (fMin s0 s1) s2))), .val (.int (fSc3 s0 s1 s2 cm)), .val (.int (fEx3 fl ke cm s0 s1 s2)), .val (.long (fMax (fMin s0 s1) (fMin (fMax s0 s1) s2))), .second]) (by rw [fEx3_def, if_neg hc232, if_neg hc243, if_neg hc254]) ?_
             exact J271 () trivial
            ·
             refine oIload C at_257 rfl rfl ?_
             refine oIf_eq C at_259 (q := 268) (by decide) (by decide) (r := 262) rfl (fun hc259 => ?_) (fun hc259 => ?_)
             ·
              refine oIconst C at_268 (z := 1) rfl rfl ?_
              refine oIstore C at_269 (Ls' := #[.val (.int fl), .val (.int ke), .val (.long cm), .second, .val (.long s0), .second, .val (.long s1), .second, .val (.long s2), .second, .val (.int (fD fl)), .val (.int (fO fl)), .val (.int nn), .val (.ref a10), .val (.ref a14), .val (.int (fDr3 ke cm (fD fl) (fO fl) (fMax (fMax s0 s1) s2) (fMax (fMin s0 s1) (fMin (fMax s0 s1) s2)) (fMin (fMin s0 s1) s2))), .val (.int (fSc3 s0 s1 s2 cm)), .val (.int 1), .val (.long (fMax (fMin s0 s1) (fMin (fMax s0 s1) s2))), .second]) rfl (q := 271) rfl ?_
              refine oCastLs (Ls' := #[.val (.int fl), .val (.int ke), .val (.long cm), .second, .val (.long s0), .second, .val (.long s1), .second, .val (.long s2), .second, .val (.int (fD fl)), .val (.int (fO fl)), .val (.int nn), .val (.ref a10), .val (.ref a14), .val (.int (fDr3 ke cm (fD fl) (fO fl) (fMax (fMax s0 s1) s2) (fMax (fMin s0 s1) (fMin (fMax s0 s1) s2)) (fMin (fMin s0 s1) s2))), .val (.int (fSc3 s0 s1 s2 cm)), .val (.int (fEx3 fl ke cm s0 s1 s2)), .val (.long (fMax (fMin s0 s1) (fMin (fMax s0 s1) s2))), .second]) (by rw [fEx3_def, if_neg hc232, if_neg hc243, if_pos hc254, if_pos hc259]) ?_
              exact J271 () trivial
             ·
              refine oIconst C at_262 (z := 0) rfl rfl ?_
              refine oIstore C at_263 (Ls' := #[.val (.int fl), .val (.int ke), .val (.long cm), .second, .val (.long s0), .second, .val (.long s1), .second, .val (.long s2), .second, .val (.int (fD fl)), .val (.int (fO fl)), .val (.int nn), .val (.ref a10), .val (.ref a14), .val (.int (fDr3 ke cm (fD fl) (fO fl) (fMax (fMax s0 s1) s2) (fMax (fMin s0 s1) (fMin (fMax s0 s1) s2)) (fMin (fMin s0 s1) s2))), .val (.int (fSc3 s0 s1 s2 cm)), .val (.int 0), .val (.long (fMax (fMin s0 s1) (fMin (fMax s0 s1) s2))), .second]) rfl (q := 265) rfl ?_
              refine oGoto C at_265 (q := 271) (by decide) (by decide) ?_
              refine oCastLs (Ls' := #[.val (.int fl), .val (.int ke), .val (.long cm), .second, .val (.long s0), .second, .val (.long s1), .second, .val (.long s2), .second, .val (.int (fD fl)), .val (.int (fO fl)), .val (.int nn), .val (.ref a10), .val (.ref a14), .val (.int (fDr3 ke cm (fD fl) (fO fl) (fMax (fMax s0 s1) s2) (fMax (fMin s0 s1) (fMin (fMax s0 s1) s2)) (fMin (fMin s0 s1) s2))), .val (.int (fSc3 s0 s1 s2 cm)), .val (.int (fEx3 fl ke cm s0 s1 s2)), .val (.long (fMax (fMin s0 s1) (fMin (fMax s0 s1) s2))), .second]) (by rw [fEx3_def, if_neg hc232, if_neg hc243, if_pos hc254, if_neg hc259]) ?_
              exact J271 () trivial
           ·
            refine oIconst C at_246 (z := 0) rfl rfl ?_
            refine oIstore C at_247 (Ls' := #[.val (.int fl), .val (.int ke), .val (.long cm), .second, .val (.long s0), .second, .val (.long s1), .second, .val (.long s2), .second, .val (.int (fD fl)), .val (.int (fO fl)), .val (.int nn), .val (.ref a10), .val (.ref a14), .val (.int (fDr3 ke cm (fD fl) (fO fl) (fMax (fMax s0 s1) s2) (fMax (fMin s0 s1) (fMin (fMax s0 s1) s2)) (fMin (fMin s0 s1) s2))), .val (.int (fSc3 s0 s1 s2 cm)), .val (.int 0), .val (.long (fMax (fMin s0 s1) (fMin (fMax s0 s1) s2))), .second]) rfl (q := 249) rfl ?_
            refine oGoto C at_249 (q := 271) (by decide) (by decide) ?_
            refine oCastLs (Ls' := #[.val (.int fl), .val (.int ke), .val (.long cm), .second, .val (.long s0), .second, .val (.long s1), .second, .val (.long s2), .second, .val (.int (fD fl)), .val (.int (fO fl)), .val (.int nn), .val (.ref a10), .val (.ref a14), .val (.int (fDr3 ke cm (fD fl) (fO fl) (fMax (fMax s0 s1) s2) (fMax (fMin s0 s1) (fMin (fMax s0 s1) s2)) (fMin (fMin s0 s1) s2))), .val (.int (fSc3 s0 s1 s2 cm)), .val (.int (fEx3 fl ke cm s0 s1 s2)), .val (.long (fMax (fMin s0 s1) (fMin (fMax s0 s1) s2))), .second]) (by rw [fEx3_def, if_neg hc232, if_pos hc243]) ?_
            exact J271 () trivial
          ·
           refine oIconst C at_235 (z := 0) rfl rfl ?_
           refine oIstore C at_236 (Ls' := #[.val (.int fl), .val (.int ke), .val (.long cm), .second, .val (.long s0), .second, .val (.long s1), .second, .val (.long s2), .second, .val (.int (fD fl)), .val (.int (fO fl)), .val (.int nn), .val (.ref a10), .val (.ref a14), .val (.int (fDr3 ke cm (fD fl) (fO fl) (fMax (fMax s0 s1) s2) (fMax (fMin s0 s1) (fMin (fMax s0 s1) s2)) (fMin (fMin s0 s1) s2))), .val (.int (fSc3 s0 s1 s2 cm)), .val (.int 0), .val (.long (fMax (fMin s0 s1) (fMin (fMax s0 s1) s2))), .second]) rfl (q := 238) rfl ?_
           refine oGoto C at_238 (q := 271) (by decide) (by decide) ?_
           refine oCastLs (Ls' := #[.val (.int fl), .val (.int ke), .val (.long cm), .second, .val (.long s0), .second, .val (.long s1), .second, .val (.long s2), .second, .val (.int (fD fl)), .val (.int (fO fl)), .val (.int nn), .val (.ref a10), .val (.ref a14), .val (.int (fDr3 ke cm (fD fl) (fO fl) (fMax (fMax s0 s1) s2) (fMax (fMin s0 s1) (fMin (fMax s0 s1) s2)) (fMin (fMin s0 s1) s2))), .val (.int (fSc3 s0 s1 s2 cm)), .val (.int (fEx3 fl ke cm s0 s1 s2)), .val (.long (fMax (fMin s0 s1) (fMin (fMax s0 s1) s2))), .second]) (by rw [fEx3_def, if_pos hc232]) ?_
           exact J271 () trivial
        ·
         refine oIload C at_214 rfl rfl ?_
         refine oIconst C at_216 (z := 3) rfl rfl ?_
         refine oIcmp_lt C at_217 (q := 230) (by decide) (by decide) (r := 220) rfl (fun hq => absurd hq (by rw [own_n3 hc38 hc57 r_nn]; decide)) (fun hc217 => ?_)
         refine oLload C at_220 rfl rfl ?_
         refine oLloadN C at_222 rfl rfl ?_
         refine oLcmp_ge C at_223 rfl at_224 (q := 230) (by decide) (by decide) (r := 227) rfl (fun hc223 => ?_) (fun hc223 => ?_)
         ·
          refine oCastLs (Ls' := #[.val (.int fl), .val (.int ke), .val (.long cm), .second, .val (.long s0), .second, .val (.long s1), .second, .val (.long s2), .second, .val (.int (fD fl)), .val (.int (fO fl)), .val (.int nn), .val (.ref a10), .val (.ref a14), .val (.int (fDr3 ke cm (fD fl) (fO fl) (fMax (fMax s0 s1) s2) (fMax (fMin s0 s1) (fMin (fMax s0 s1) s2)) (fMin (fMin s0 s1) s2))), .val (.int (fSc3 s0 s1 s2 cm)), .unset, .val (.long (fMax (fMin s0 s1) (fMin (fMax s0 s1) s2))), .second]) (by rw [fSc3_def, if_neg hc223]) ?_
          exact J230 () trivial
         ·
          refine oIconst C at_227 (z := 1) rfl rfl ?_
          refine oIstore C at_228 (Ls' := #[.val (.int fl), .val (.int ke), .val (.long cm), .second, .val (.long s0), .second, .val (.long s1), .second, .val (.long s2), .second, .val (.int (fD fl)), .val (.int (fO fl)), .val (.int nn), .val (.ref a10), .val (.ref a14), .val (.int (fDr3 ke cm (fD fl) (fO fl) (fMax (fMax s0 s1) s2) (fMax (fMin s0 s1) (fMin (fMax s0 s1) s2)) (fMin (fMin s0 s1) s2))), .val (.int 1), .unset, .val (.long (fMax (fMin s0 s1) (fMin (fMax s0 s1) s2))), .second]) rfl (q := 230) rfl ?_
          refine oCastLs (Ls' := #[.val (.int fl), .val (.int ke), .val (.long cm), .second, .val (.long s0), .second, .val (.long s1), .second, .val (.long s2), .second, .val (.int (fD fl)), .val (.int (fO fl)), .val (.int nn), .val (.ref a10), .val (.ref a14), .val (.int (fDr3 ke cm (fD fl) (fO fl) (fMax (fMax s0 s1) s2) (fMax (fMin s0 s1) (fMin (fMax s0 s1) s2)) (fMin (fMin s0 s1) s2))), .val (.int (fSc3 s0 s1 s2 cm)), .unset, .val (.long (fMax (fMin s0 s1) (fMin (fMax s0 s1) s2))), .second]) (by rw [fSc3_def, if_pos hc223]) ?_
          exact J230 () trivial
       ·
        refine oIload C at_198 rfl rfl ?_
        refine oIconst C at_200 (z := 2) rfl rfl ?_
        refine oIcmp_lt C at_201 (q := 214) (by decide) (by decide) (r := 204) rfl (fun hq => absurd hq (by rw [own_n3 hc38 hc57 r_nn]; decide)) (fun hc201 => ?_)
        refine oLload C at_204 rfl rfl ?_
        refine oLloadN C at_206 rfl rfl ?_
        refine oLcmp_ge C at_207 rfl at_208 (q := 214) (by decide) (by decide) (r := 211) rfl (fun hc207 => ?_) (fun hc207 => ?_)
        ·
         refine oCastLs (Ls' := #[.val (.int fl), .val (.int ke), .val (.long cm), .second, .val (.long s0), .second, .val (.long s1), .second, .val (.long s2), .second, .val (.int (fD fl)), .val (.int (fO fl)), .val (.int nn), .val (.ref a10), .val (.ref a14), .val (.int (fDr3 ke cm (fD fl) (fO fl) (fMax (fMax s0 s1) s2) (fMax (fMin s0 s1) (fMin (fMax s0 s1) s2)) (fMin (fMin s0 s1) s2))), .val (.int (fSb3 s0 s1 cm)), .unset, .val (.long (fMax (fMin s0 s1) (fMin (fMax s0 s1) s2))), .second]) (by rw [fSb3_def, if_neg hc207]) ?_
         exact J214 () trivial
        ·
         refine oIconst C at_211 (z := 1) rfl rfl ?_
         refine oIstore C at_212 (Ls' := #[.val (.int fl), .val (.int ke), .val (.long cm), .second, .val (.long s0), .second, .val (.long s1), .second, .val (.long s2), .second, .val (.int (fD fl)), .val (.int (fO fl)), .val (.int nn), .val (.ref a10), .val (.ref a14), .val (.int (fDr3 ke cm (fD fl) (fO fl) (fMax (fMax s0 s1) s2) (fMax (fMin s0 s1) (fMin (fMax s0 s1) s2)) (fMin (fMin s0 s1) s2))), .val (.int 1), .unset, .val (.long (fMax (fMin s0 s1) (fMin (fMax s0 s1) s2))), .second]) rfl (q := 214) rfl ?_
         refine oCastLs (Ls' := #[.val (.int fl), .val (.int ke), .val (.long cm), .second, .val (.long s0), .second, .val (.long s1), .second, .val (.long s2), .second, .val (.int (fD fl)), .val (.int (fO fl)), .val (.int nn), .val (.ref a10), .val (.ref a14), .val (.int (fDr3 ke cm (fD fl) (fO fl) (fMax (fMax s0 s1) s2) (fMax (fMin s0 s1) (fMin (fMax s0 s1) s2)) (fMin (fMin s0 s1) s2))), .val (.int (fSb3 s0 s1 cm)), .unset, .val (.long (fMax (fMin s0 s1) (fMin (fMax s0 s1) s2))), .second]) (by rw [fSb3_def, if_pos hc207]) ?_
         exact J214 () trivial
      ·
       refine oLload C at_184 rfl rfl ?_
       refine oLloadN C at_186 rfl rfl ?_
       refine oLcmp_ge C at_187 rfl at_188 (q := 195) (by decide) (by decide) (r := 191) rfl (fun hc187 => ?_) (fun hc187 => ?_)
       ·
        refine oIconst C at_195 (z := 0) rfl rfl ?_
        refine oCastI (z' := (fSa3 s0 cm)) (by rw [fSa3_def, if_neg hc187]) ?_
        exact J196 () trivial
       ·
        refine oIconst C at_191 (z := 1) rfl rfl ?_
        refine oGoto C at_192 (q := 196) (by decide) (by decide) ?_
        refine oCastI (z' := (fSa3 s0 cm)) (by rw [fSa3_def, if_pos hc187]) ?_
        exact J196 () trivial
     ·
      refine oIconst C at_60 (z := 2) rfl rfl ?_
      refine oNewA C (w0 hw) rfl at_61 rfl (by decide) (k := 2) rfl (by decide) (by decide) (cap := 2) (Nat.le_refl _) (by decide) (by decide) fun a22 h22 g_a22 E22 A22 => ?_
      have ge_a22 : n0 ≤ a22 := g_a22 ▸ Z0
      have A22l : oAr Z h22 a22 .long [.long 0, .long 0] := A22
      refine oDup C at_63 rfl rfl ?_
      refine oIconst C at_64 (z := 0) rfl rfl ?_
      refine oLload C at_65 rfl rfl ?_
      refine oLload C at_67 rfl rfl ?_
      have z23 := (Nat.le_trans Z0 E22.1)
      refine oCallS C (w17 hw) (w18 hw) (w19 hw) (w20 hw) at_69 (by decide) pd_212481 rfl rfl (argsL := [.long s0, .long s1]) (rest := [.int 0, .ref a22, .ref a22]) rfl (W := 3) rfl (q := 72) rfl (by decide) (by decide) (by decide) (by decide) (mt_fMax l Z a0 hw _ n0 z23 s0 s1 ) (oPureK ?_)
      refine oLastore C A22l (by decide) (k := 0) rfl (v := .long 0) rfl (v' := .long (fMax s0 s1)) rfl at_72 rfl ge_a22 fun h25 W25 A25 => ?_
      have A25l : oAr Z h25 a22 .long [.long (fMax s0 s1), .long 0] := A25
      refine oDup C at_73 rfl rfl ?_
      refine oIconst C at_74 (z := 1) rfl rfl ?_
      refine oLload C at_75 rfl rfl ?_
      refine oLload C at_77 rfl rfl ?_
      have z26 := (Nat.le_trans z23 (Nat.le_of_eq W25.size.symm))
      refine oCallS C (w21 hw) (w22 hw) (w19 hw) (w23 hw) at_79 (by decide) pd_212481 rfl rfl (argsL := [.long s0, .long s1]) (rest := [.int 1, .ref a22, .ref a22]) rfl (W := 3) rfl (q := 82) rfl (by decide) (by decide) (by decide) (by decide) (mt_fMin l Z a0 hw _ n0 z26 s0 s1 ) (oPureK ?_)
      refine oLastore C A25l (by decide) (k := 1) rfl (v := .long 0) rfl (v' := .long (fMin s0 s1)) rfl at_82 rfl ge_a22 fun h28 W28 A28 => ?_
      have A28l : oAr Z h28 a22 .long [.long (fMax s0 s1), .long (fMin s0 s1)] := A28
      refine oAstore C at_83 rfl (Ls' := #[.val (.int fl), .val (.int ke), .val (.long cm), .second, .val (.long s0), .second, .val (.long s1), .second, .val (.long s2), .second, .val (.int (fD fl)), .val (.int (fO fl)), .val (.int nn), .val (.ref a22), .unset, .unset, .unset, .unset, .unset, .unset]) rfl (q := 85) rfl ?_
      refine oGoto C at_85 (q := 160) (by decide) (by decide) ?_
      refine oNew C (w1 hw) (w2 hw) (w3 hw) at_160 rfl (by decide) (by decide) fun a29 h29 g_a29 E29 X29 D29 => ?_
      have z30 := (Nat.le_trans z26 (Nat.le_of_eq W28.size.symm))
      have ge_a29 : n0 ≤ a29 := g_a29 ▸ z30
      have f29_open : Fld Z h29 a29 "com/example/tideline/tideline/Retention" "open" "[J" (.null) := D29 (Or.inr (w11 hw)) (ty := (.array .long)) (by decide)
      refine oDup C at_163 rfl rfl ?_
      refine oAload C at_164 rfl rfl rfl ?_
      have z32 := (Nat.le_trans z30 E29.1)
      refine oCallC C (w4 hw) (w5 hw) (w3 hw) (w6 hw) at_166 rfl (by decide) pd_429926 rfl rfl (a := a29) (argsL := [.ref a22]) (rest := [.ref a29]) rfl (W := 1) rfl (q := 169) rfl (by decide) (by decide) (by decide) (by decide) (mt_ret l Z a0 hw _ n0 z32 a29 a22 X29 ge_a29 f29_open ) ?_
      rintro _ h31 ⟨rfl, K31, f31_open⟩
      show oW _ _ _ _ _ _ _ _ _ _ _ _ _ _ _ (mkF m 169 #[.val (.int fl), .val (.int ke), .val (.long cm), .second, .val (.long s0), .second, .val (.long s1), .second, .val (.long s2), .second, .val (.int (fD fl)), .val (.int (fO fl)), .val (.int nn), .val (.ref a22), .unset, .unset, .unset, .unset, .unset, .unset] [.ref a29])
      refine oAstore C at_169 rfl (Ls' := #[.val (.int fl), .val (.int ke), .val (.long cm), .second, .val (.long s0), .second, .val (.long s1), .second, .val (.long s2), .second, .val (.int (fD fl)), .val (.int (fO fl)), .val (.int nn), .val (.ref a22), .val (.ref a29), .unset, .unset, .unset, .unset, .unset]) rfl (q := 171) rfl ?_
      refine oAload C at_171 rfl rfl rfl ?_
      refine oIloadN C at_173 rfl rfl ?_
      refine oLloadN C at_174 rfl rfl ?_
      refine oIload C at_175 rfl rfl ?_
      refine oIload C at_177 rfl rfl ?_
      have f33 := (X29.keep K31)
      have ne34 : a22 ≠ a29 := oNe' A28l.lt (Nat.le_of_eq g_a29.symm)
      have f35 := ((A28l.ext E29).keep K31 (ninS ne34 nin0))
      have z36 := (Nat.le_trans z32 K31.1)
      refine oCallV C (w12 hw) (w13 hw) (w15 hw) (w14 hw) (w3 hw) (w16 hw) at_179 f33 (by decide) pd_437755 rfl rfl (a := a29) (argsL := [.int ke, .long cm, .int (fD fl), .int (fO fl)]) (rest := []) rfl (W := 0) rfl (q := 182) rfl (by decide) (by decide) (by decide) (by decide) (mt_fDr2 l Z a0 hw _ n0 z36 a29 a22 ke cm (fD fl) (fO fl) (fMax s0 s1) (fMin s0 s1) f31_open f35) (oPureK ?_)
      refine oIstore C at_182 (Ls' := #[.val (.int fl), .val (.int ke), .val (.long cm), .second, .val (.long s0), .second, .val (.long s1), .second, .val (.long s2), .second, .val (.int (fD fl)), .val (.int (fO fl)), .val (.int nn), .val (.ref a22), .val (.ref a29), .val (.int (fDr2 ke cm (fD fl) (fO fl) (fMax s0 s1) (fMin s0 s1))), .unset, .unset, .unset, .unset]) rfl (q := 184) rfl ?_
      refine oJoin (α := Unit) (fun _ => True) (fun _ => h31) (fun _ => (mkF m 196 #[.val (.int fl), .val (.int ke), .val (.long cm), .second, .val (.long s0), .second, .val (.long s1), .second, .val (.long s2), .second, .val (.int (fD fl)), .val (.int (fO fl)), .val (.int nn), .val (.ref a22), .val (.ref a29), .val (.int (fDr2 ke cm (fD fl) (fO fl) (fMax s0 s1) (fMin s0 s1))), .unset, .unset, .unset, .unset] [.int (fSa2 s0 cm)])) (k := 2) (n := 4) (fun _ _ => ?_) (fun J196 => ?_)
      ·
       show oW _ _ _ _ _ _ _ _ _ _ _ _ _ _ _ (mkF m 196 #[.val (.int fl), .val (.int ke), .val (.long cm), .second, .val (.long s0), .second, .val (.long s1), .second, .val (.long s2), .second, .val (.int (fD fl)), .val (.int (fO fl)), .val (.int nn), .val (.ref a22), .val (.ref a29), .val (.int (fDr2 ke cm (fD fl) (fO fl) (fMax s0 s1) (fMin s0 s1))), .unset, .unset, .unset, .unset] [.int (fSa2 s0 cm)])
       refine oIstore C at_196 (Ls' := #[.val (.int fl), .val (.int ke), .val (.long cm), .second, .val (.long s0), .second, .val (.long s1), .second, .val (.long s2), .second, .val (.int (fD fl)), .val (.int (fO fl)), .val (.int nn), .val (.ref a22), .val (.ref a29), .val (.int (fDr2 ke cm (fD fl) (fO fl) (fMax s0 s1) (fMin s0 s1))), .val (.int (fSa2 s0 cm)), .unset, .unset, .unset]) rfl (q := 198) rfl ?_
       refine oJoin (α := Unit) (fun _ => True) (fun _ => h31) (fun _ => (mkF m 214 #[.val (.int fl), .val (.int ke), .val (.long cm), .second, .val (.long s0), .second, .val (.long s1), .second, .val (.long s2), .second, .val (.int (fD fl)), .val (.int (fO fl)), .val (.int nn), .val (.ref a22), .val (.ref a29), .val (.int (fDr2 ke cm (fD fl) (fO fl) (fMax s0 s1) (fMin s0 s1))), .val (.int (fSb2 s0 s1 cm)), .unset, .unset, .unset] [])) (k := 2) (n := 4) (fun _ _ => ?_) (fun J214 => ?_)
       ·
        show oW _ _ _ _ _ _ _ _ _ _ _ _ _ _ _ (mkF m 214 #[.val (.int fl), .val (.int ke), .val (.long cm), .second, .val (.long s0), .second, .val (.long s1), .second, .val (.long s2), .second, .val (.int (fD fl)), .val (.int (fO fl)), .val (.int nn), .val (.ref a22), .val (.ref a29), .val (.int (fDr2 ke cm (fD fl) (fO fl) (fMax s0 s1) (fMin s0 s1))), .val (.int (fSb2 s0 s1 cm)), .unset, .unset, .unset] [])
        refine oJoin (α := Unit) (fun _ => True) (fun _ => h31) (fun _ => (mkF m 230 #[.val (.int fl), .val (.int ke), .val (.long cm), .second, .val (.long s0), .second, .val (.long s1), .second, .val (.long s2), .second, .val (.int (fD fl)), .val (.int (fO fl)), .val (.int nn), .val (.ref a22), .val (.ref a29), .val (.int (fDr2 ke cm (fD fl) (fO fl) (fMax s0 s1) (fMin s0 s1))), .val (.int (fSc2 s0 s1 s2 cm)), .unset, .unset, .unset] [])) (k := 2) (n := 4) (fun _ _ => ?_) (fun J230 => ?_)
        ·
         show oW _ _ _ _ _ _ _ _ _ _ _ _ _ _ _ (mkF m 230 #[.val (.int fl), .val (.int ke), .val (.long cm), .second, .val (.long s0), .second, .val (.long s1), .second, .val (.long s2), .second, .val (.int (fD fl)), .val (.int (fO fl)), .val (.int nn), .val (.ref a22), .val (.ref a29), .val (.int (fDr2 ke cm (fD fl) (fO fl) (fMax s0 s1) (fMin s0 s1))), .val (.int (fSc2 s0 s1 s2 cm)), .unset, .unset, .unset] [])
         refine oJoin (α := Unit) (fun _ => True) (fun _ => h31) (fun _ => (mkF m 271 #[.val (.int fl), .val (.int ke), .val (.long cm), .second, .val (.long s0), .second, .val (.long s1), .second, .val (.long s2), .second, .val (.int (fD fl)), .val (.int (fO fl)), .val (.int nn), .val (.ref a22), .val (.ref a29), .val (.int (fDr2 ke cm (fD fl) (fO fl) (fMax s0 s1) (fMin s0 s1))), .val (.int (fSc2 s0 s1 s2 cm)), .val (.int (fEx2 fl ke cm s0 s1 s2)), .unset, .unset] [])) (k := 2) (n := 4) (fun _ _ => ?_) (fun J271 => ?_)
         ·
          show oW _ _ _ _ _ _ _ _ _ _ _ _ _ _ _ (mkF m 271 #[.val (.int fl), .val (.int ke), .val (.long cm), .second, .val (.long s0), .second, .val (.long s1), .second, .val (.long s2), .second, .val (.int (fD fl)), .val (.int (fO fl)), .val (.int nn), .val (.ref a22), .val (.ref a29), .val (.int (fDr2 ke cm (fD fl) (fO fl) (fMax s0 s1) (fMin s0 s1))), .val (.int (fSc2 s0 s1 s2 cm)), .val (.int (fEx2 fl ke cm s0 s1 s2)), .unset, .unset] [])
          refine oIload C at_271 rfl rfl ?_
          refine oIload C at_273 rfl rfl ?_
          refine oIcmp_ne C at_275 (q := 282) (by decide) (by decide) (r := 278) rfl (fun hq => absurd hq (not_not_intro (own_fin2 fl ke cm s0 s1 s2))) (fun hc275 => ?_)
          refine oIconst C at_278 (z := 1) rfl rfl ?_
          refine oGoto C at_279 (q := 283) (by decide) (by decide) ?_
          refine oRetZ C at_283 (z' := (1 : Int32)) rfl (by decide) (by decide) ?_
          exact rfl
         ·
          refine oIload C at_230 rfl rfl ?_
          refine oIf_ne C at_232 (q := 241) (by decide) (by decide) (r := 235) rfl (fun hc232 => ?_) (fun hc232 => ?_)
          ·
           refine oIload C at_241 rfl rfl ?_
           refine oIf_ne C at_243 (q := 252) (by decide) (by decide) (r := 246) rfl (fun hc243 => ?_) (fun hc243 => ?_)
           ·
            refine oIloadN C at_252 rfl rfl ?_
            refine oIconst C at_253 (z := 1) rfl rfl ?_
            refine oIcmp_ne C at_254 (q := 268) (by decide) (by decide) (r := 257) rfl (fun hc254 => ?_) (fun hc254 => ?_)
            ·
             refine oIconst C at_268 (z := 1) rfl rfl ?_
             refine oIstore C at_269 (Ls' := #[.val (.int fl), .val (.int ke), .val (.long cm), .second, .val (.long s0), .second, .val (.long s1), .second, .val (.long s2), .second, .val (.int (fD fl)), .val (.int (fO fl)), .val (.int nn), .val (.ref a22), .val (.ref a29), .val (.int (fDr2 ke cm (fD fl) (fO fl) (fMax s0 s1) (fMin s0 s1))), .val (.int (fSc2 s0 s1 s2 cm)), .val (.int 1), .unset, .unset]) rfl (q := 271) rfl ?_
             refine oCastLs (Ls' := #[.val (.int fl), .val (.int ke), .val (.long cm), .second, .val (.long s0), .second, .val (.long s1), .second, .val (.long s2), .second, .val (.int (fD fl)), .val (.int (fO fl)), .val (.int nn), .val (.ref a22), .val (.ref a29), .val (.int (fDr2 ke cm (fD fl) (fO fl) (fMax s0 s1) (fMin s0 s1))), .val (.int (fSc2 s0 s1 s2 cm)), .val (.int (fEx2 fl ke cm s0 s1 s2)), .unset, .unset]) (by rw [fEx2_def, if_neg hc232, if_neg hc243, if_neg hc254]) ?_
             exact J271 () trivial
            ·
             refine oIload C at_257 rfl rfl ?_
             refine oIf_eq C at_259 (q := 268) (by decide) (by decide) (r := 262) rfl (fun hc259 => ?_) (fun hc259 => ?_)
             ·
              refine oIconst C at_268 (z := 1) rfl rfl ?_
              refine oIstore C at_269 (Ls' := #[.val (.int fl), .val (.int ke), .val (.long cm), .second, .val (.long s0), .second, .val (.long s1), .second, .val (.long s2), .second, .val (.int (fD fl)), .val (.int (fO fl)), .val (.int nn), .val (.ref a22), .val (.ref a29), .val (.int (fDr2 ke cm (fD fl) (fO fl) (fMax s0 s1) (fMin s0 s1))), .val (.int (fSc2 s0 s1 s2 cm)), .val (.int 1), .unset, .unset]) rfl (q := 271) rfl ?_
              refine oCastLs (Ls' := #[.val (.int fl), .val (.int ke), .val (.long cm), .second, .val (.long s0), .second, .val (.long s1), .second, .val (.long s2), .second, .val (.int (fD fl)), .val (.int (fO fl)), .val (.int nn), .val (.ref a22), .val (.ref a29), .val (.int (fDr2 ke cm (fD fl) (fO fl) (fMax s0 s1) (fMin s0 s1))), .val (.int (fSc2 s0 s1 s2 cm)), .val (.int (fEx2 fl ke cm s0 s1 s2)), .unset, .unset]) (by rw [fEx2_def, if_neg hc232, if_neg hc243, if_pos hc254, if_pos hc259]) ?_
              exact J271 () trivial
             ·
              refine oIconst C at_262 (z := 0) rfl rfl ?_
              refine oIstore C at_263 (Ls' := #[.val (.int fl), .val (.int ke), .val (.long cm), .second, .val (.long s0), .second, .val (.long s1), .second, .val (.long s2), .second, .val (.int (fD fl)), .val (.int (fO fl)), .val (.int nn), .val (.ref a22), .val (.ref a29), .val (.int (fDr2 ke cm (fD fl) (fO fl) (fMax s0 s1) (fMin s0 s1))), .val (.int (fSc2 s0 s1 s2 cm)), .val (.int 0), .unset, .unset]) rfl (q := 265) rfl ?_
              refine oGoto C at_265 (q := 271) (by decide) (by decide) ?_
              refine oCastLs (Ls' := #[.val (.int fl), .val (.int ke), .val (.long cm), .second, .val (.long s0), .second, .val (.long s1), .second, .val (.long s2), .second, .val (.int (fD fl)), .val (.int (fO fl)), .val (.int nn), .val (.ref a22), .val (.ref a29), .val (.int (fDr2 ke cm (fD fl) (fO fl) (fMax s0 s1) (fMin s0 s1))), .val (.int (fSc2 s0 s1 s2 cm)), .val (.int (fEx2 fl ke cm s0 s1 s2)), .unset, .unset]) (by rw [fEx2_def, if_neg hc232, if_neg hc243, if_pos hc254, if_neg hc259]) ?_
              exact J271 () trivial
           ·
            refine oIconst C at_246 (z := 0) rfl rfl ?_
            refine oIstore C at_247 (Ls' := #[.val (.int fl), .val (.int ke), .val (.long cm), .second, .val (.long s0), .second, .val (.long s1), .second, .val (.long s2), .second, .val (.int (fD fl)), .val (.int (fO fl)), .val (.int nn), .val (.ref a22), .val (.ref a29), .val (.int (fDr2 ke cm (fD fl) (fO fl) (fMax s0 s1) (fMin s0 s1))), .val (.int (fSc2 s0 s1 s2 cm)), .val (.int 0), .unset, .unset]) rfl (q := 249) rfl ?_
            refine oGoto C at_249 (q := 271) (by decide) (by decide) ?_
            refine oCastLs (Ls' := #[.val (.int fl), .val (.int ke), .val (.long cm), .second, .val (.long s0), .second, .val (.long s1), .second, .val (.long s2), .second, .val (.int (fD fl)), .val (.int (fO fl)), .val (.int nn), .val (.ref a22), .val (.ref a29), .val (.int (fDr2 ke cm (fD fl) (fO fl) (fMax s0 s1) (fMin s0 s1))), .val (.int (fSc2 s0 s1 s2 cm)), .val (.int (fEx2 fl ke cm s0 s1 s2)), .unset, .unset]) (by rw [fEx2_def, if_neg hc232, if_pos hc243]) ?_
            exact J271 () trivial
          ·
           refine oIconst C at_235 (z := 0) rfl rfl ?_
           refine oIstore C at_236 (Ls' := #[.val (.int fl), .val (.int ke), .val (.long cm), .second, .val (.long s0), .second, .val (.long s1), .second, .val (.long s2), .second, .val (.int (fD fl)), .val (.int (fO fl)), .val (.int nn), .val (.ref a22), .val (.ref a29), .val (.int (fDr2 ke cm (fD fl) (fO fl) (fMax s0 s1) (fMin s0 s1))), .val (.int (fSc2 s0 s1 s2 cm)), .val (.int 0), .unset, .unset]) rfl (q := 238) rfl ?_
           refine oGoto C at_238 (q := 271) (by decide) (by decide) ?_
           refine oCastLs (Ls' := #[.val (.int fl), .val (.int ke), .val (.long cm), .second, .val (.long s0), .second, .val (.long s1), .second, .val (.long s2), .second, .val (.int (fD fl)), .val (.int (fO fl)), .val (.int nn), .val (.ref a22), .val (.ref a29), .val (.int (fDr2 ke cm (fD fl) (fO fl) (fMax s0 s1) (fMin s0 s1))), .val (.int (fSc2 s0 s1 s2 cm)), .val (.int (fEx2 fl ke cm s0 s1 s2)), .unset, .unset]) (by rw [fEx2_def, if_pos hc232]) ?_
           exact J271 () trivial
        ·
         refine oIload C at_214 rfl rfl ?_
         refine oIconst C at_216 (z := 3) rfl rfl ?_
         refine oIcmp_lt C at_217 (q := 230) (by decide) (by decide) (r := 220) rfl (fun hc217 => ?_) (fun hq => absurd hq (not_not_intro (by rw [hc57]; decide)))
         refine oCastLs (Ls' := #[.val (.int fl), .val (.int ke), .val (.long cm), .second, .val (.long s0), .second, .val (.long s1), .second, .val (.long s2), .second, .val (.int (fD fl)), .val (.int (fO fl)), .val (.int nn), .val (.ref a22), .val (.ref a29), .val (.int (fDr2 ke cm (fD fl) (fO fl) (fMax s0 s1) (fMin s0 s1))), .val (.int (fSc2 s0 s1 s2 cm)), .unset, .unset, .unset]) (by rw [fSc2_def]) ?_
         exact J230 () trivial
       ·
        refine oIload C at_198 rfl rfl ?_
        refine oIconst C at_200 (z := 2) rfl rfl ?_
        refine oIcmp_lt C at_201 (q := 214) (by decide) (by decide) (r := 204) rfl (fun hq => absurd hq (by rw [hc57]; decide)) (fun hc201 => ?_)
        refine oLload C at_204 rfl rfl ?_
        refine oLloadN C at_206 rfl rfl ?_
        refine oLcmp_ge C at_207 rfl at_208 (q := 214) (by decide) (by decide) (r := 211) rfl (fun hc207 => ?_) (fun hc207 => ?_)
        ·
         refine oCastLs (Ls' := #[.val (.int fl), .val (.int ke), .val (.long cm), .second, .val (.long s0), .second, .val (.long s1), .second, .val (.long s2), .second, .val (.int (fD fl)), .val (.int (fO fl)), .val (.int nn), .val (.ref a22), .val (.ref a29), .val (.int (fDr2 ke cm (fD fl) (fO fl) (fMax s0 s1) (fMin s0 s1))), .val (.int (fSb2 s0 s1 cm)), .unset, .unset, .unset]) (by rw [fSb2_def, if_neg hc207]) ?_
         exact J214 () trivial
        ·
         refine oIconst C at_211 (z := 1) rfl rfl ?_
         refine oIstore C at_212 (Ls' := #[.val (.int fl), .val (.int ke), .val (.long cm), .second, .val (.long s0), .second, .val (.long s1), .second, .val (.long s2), .second, .val (.int (fD fl)), .val (.int (fO fl)), .val (.int nn), .val (.ref a22), .val (.ref a29), .val (.int (fDr2 ke cm (fD fl) (fO fl) (fMax s0 s1) (fMin s0 s1))), .val (.int 1), .unset, .unset, .unset]) rfl (q := 214) rfl ?_
         refine oCastLs (Ls' := #[.val (.int fl), .val (.int ke), .val (.long cm), .second, .val (.long s0), .second, .val (.long s1), .second, .val (.long s2), .second, .val (.int (fD fl)), .val (.int (fO fl)), .val (.int nn), .val (.ref a22), .val (.ref a29), .val (.int (fDr2 ke cm (fD fl) (fO fl) (fMax s0 s1) (fMin s0 s1))), .val (.int (fSb2 s0 s1 cm)), .unset, .unset, .unset]) (by rw [fSb2_def, if_pos hc207]) ?_
         exact J214 () trivial
      ·
       refine oLload C at_184 rfl rfl ?_
       refine oLloadN C at_186 rfl rfl ?_
       refine oLcmp_ge C at_187 rfl at_188 (q := 195) (by decide) (by decide) (r := 191) rfl (fun hc187 => ?_) (fun hc187 => ?_)
       ·
        refine oIconst C at_195 (z := 0) rfl rfl ?_
        refine oCastI (z' := (fSa2 s0 cm)) (by rw [fSa2_def, if_neg hc187]) ?_
        exact J196 () trivial
       ·
        refine oIconst C at_191 (z := 1) rfl rfl ?_
        refine oGoto C at_192 (q := 196) (by decide) (by decide) ?_
        refine oCastI (z' := (fSa2 s0 cm)) (by rw [fSa2_def, if_pos hc187]) ?_
        exact J196 () trivial
    ·
     refine oIconst C at_41 (z := 1) rfl rfl ?_
     refine oNewA C (w0 hw) rfl at_42 rfl (by decide) (k := 1) rfl (by decide) (by decide) (cap := 1) (Nat.le_refl _) (by decide) (by decide) fun a37 h37 g_a37 E37 A37 => ?_
     have ge_a37 : n0 ≤ a37 := g_a37 ▸ Z0
     have A37l : oAr Z h37 a37 .long [.long 0] := A37
     refine oDup C at_44 rfl rfl ?_
     refine oIconst C at_45 (z := 0) rfl rfl ?_
     refine oLload C at_46 rfl rfl ?_
     refine oLastore C A37l (by decide) (k := 0) rfl (v := .long 0) rfl (v' := .long s0) rfl at_48 rfl ge_a37 fun h38 W38 A38 => ?_
     have A38l : oAr Z h38 a37 .long [.long s0] := A38
     refine oAstore C at_49 rfl (Ls' := #[.val (.int fl), .val (.int ke), .val (.long cm), .second, .val (.long s0), .second, .val (.long s1), .second, .val (.long s2), .second, .val (.int (fD fl)), .val (.int (fO fl)), .val (.int nn), .val (.ref a37), .unset, .unset, .unset, .unset, .unset, .unset]) rfl (q := 51) rfl ?_
     refine oGoto C at_51 (q := 160) (by decide) (by decide) ?_
     refine oNew C (w1 hw) (w2 hw) (w3 hw) at_160 rfl (by decide) (by decide) fun a39 h39 g_a39 E39 X39 D39 => ?_
     have z40 := (Nat.le_trans (Nat.le_trans Z0 E37.1) (Nat.le_of_eq W38.size.symm))
     have ge_a39 : n0 ≤ a39 := g_a39 ▸ z40
     have f39_open : Fld Z h39 a39 "com/example/tideline/tideline/Retention" "open" "[J" (.null) := D39 (Or.inr (w11 hw)) (ty := (.array .long)) (by decide)
     refine oDup C at_163 rfl rfl ?_
     refine oAload C at_164 rfl rfl rfl ?_
     have z42 := (Nat.le_trans z40 E39.1)
     refine oCallC C (w4 hw) (w5 hw) (w3 hw) (w6 hw) at_166 rfl (by decide) pd_429926 rfl rfl (a := a39) (argsL := [.ref a37]) (rest := [.ref a39]) rfl (W := 1) rfl (q := 169) rfl (by decide) (by decide) (by decide) (by decide) (mt_ret l Z a0 hw _ n0 z42 a39 a37 X39 ge_a39 f39_open ) ?_
     rintro _ h41 ⟨rfl, K41, f41_open⟩
     show oW _ _ _ _ _ _ _ _ _ _ _ _ _ _ _ (mkF m 169 #[.val (.int fl), .val (.int ke), .val (.long cm), .second, .val (.long s0), .second, .val (.long s1), .second, .val (.long s2), .second, .val (.int (fD fl)), .val (.int (fO fl)), .val (.int nn), .val (.ref a37), .unset, .unset, .unset, .unset, .unset, .unset] [.ref a39])
     refine oAstore C at_169 rfl (Ls' := #[.val (.int fl), .val (.int ke), .val (.long cm), .second, .val (.long s0), .second, .val (.long s1), .second, .val (.long s2), .second, .val (.int (fD fl)), .val (.int (fO fl)), .val (.int nn), .val (.ref a37), .val (.ref a39), .unset, .unset, .unset, .unset, .unset]) rfl (q := 171) rfl ?_
     refine oAload C at_171 rfl rfl rfl ?_
     refine oIloadN C at_173 rfl rfl ?_
     refine oLloadN C at_174 rfl rfl ?_
     refine oIload C at_175 rfl rfl ?_
     refine oIload C at_177 rfl rfl ?_
     have f43 := (X39.keep K41)
     have ne44 : a37 ≠ a39 := oNe' A38l.lt (Nat.le_of_eq g_a39.symm)
     have f45 := ((A38l.ext E39).keep K41 (ninS ne44 nin0))
     have z46 := (Nat.le_trans z42 K41.1)
     refine oCallV C (w12 hw) (w13 hw) (w15 hw) (w14 hw) (w3 hw) (w16 hw) at_179 f43 (by decide) pd_437755 rfl rfl (a := a39) (argsL := [.int ke, .long cm, .int (fD fl), .int (fO fl)]) (rest := []) rfl (W := 0) rfl (q := 182) rfl (by decide) (by decide) (by decide) (by decide) (mt_fDr1 l Z a0 hw _ n0 z46 a39 a37 ke cm (fD fl) (fO fl) s0 f41_open f45) (oPureK ?_)
     refine oIstore C at_182 (Ls' := #[.val (.int fl), .val (.int ke), .val (.long cm), .second, .val (.long s0), .second, .val (.long s1), .second, .val (.long s2), .second, .val (.int (fD fl)), .val (.int (fO fl)), .val (.int nn), .val (.ref a37), .val (.ref a39), .val (.int (fDr1 ke cm (fD fl) (fO fl) s0)), .unset, .unset, .unset, .unset]) rfl (q := 184) rfl ?_
     refine oJoin (α := Unit) (fun _ => True) (fun _ => h41) (fun _ => (mkF m 196 #[.val (.int fl), .val (.int ke), .val (.long cm), .second, .val (.long s0), .second, .val (.long s1), .second, .val (.long s2), .second, .val (.int (fD fl)), .val (.int (fO fl)), .val (.int nn), .val (.ref a37), .val (.ref a39), .val (.int (fDr1 ke cm (fD fl) (fO fl) s0)), .unset, .unset, .unset, .unset] [.int (fSa1 s0 cm)])) (k := 2) (n := 3) (fun _ _ => ?_) (fun J196 => ?_)
     ·
      show oW _ _ _ _ _ _ _ _ _ _ _ _ _ _ _ (mkF m 196 #[.val (.int fl), .val (.int ke), .val (.long cm), .second, .val (.long s0), .second, .val (.long s1), .second, .val (.long s2), .second, .val (.int (fD fl)), .val (.int (fO fl)), .val (.int nn), .val (.ref a37), .val (.ref a39), .val (.int (fDr1 ke cm (fD fl) (fO fl) s0)), .unset, .unset, .unset, .unset] [.int (fSa1 s0 cm)])
      refine oIstore C at_196 (Ls' := #[.val (.int fl), .val (.int ke), .val (.long cm), .second, .val (.long s0), .second, .val (.long s1), .second, .val (.long s2), .second, .val (.int (fD fl)), .val (.int (fO fl)), .val (.int nn), .val (.ref a37), .val (.ref a39), .val (.int (fDr1 ke cm (fD fl) (fO fl) s0)), .val (.int (fSa1 s0 cm)), .unset, .unset, .unset]) rfl (q := 198) rfl ?_
      refine oJoin (α := Unit) (fun _ => True) (fun _ => h41) (fun _ => (mkF m 214 #[.val (.int fl), .val (.int ke), .val (.long cm), .second, .val (.long s0), .second, .val (.long s1), .second, .val (.long s2), .second, .val (.int (fD fl)), .val (.int (fO fl)), .val (.int nn), .val (.ref a37), .val (.ref a39), .val (.int (fDr1 ke cm (fD fl) (fO fl) s0)), .val (.int (fSb1 s0 s1 cm)), .unset, .unset, .unset] [])) (k := 2) (n := 3) (fun _ _ => ?_) (fun J214 => ?_)
      ·
       show oW _ _ _ _ _ _ _ _ _ _ _ _ _ _ _ (mkF m 214 #[.val (.int fl), .val (.int ke), .val (.long cm), .second, .val (.long s0), .second, .val (.long s1), .second, .val (.long s2), .second, .val (.int (fD fl)), .val (.int (fO fl)), .val (.int nn), .val (.ref a37), .val (.ref a39), .val (.int (fDr1 ke cm (fD fl) (fO fl) s0)), .val (.int (fSb1 s0 s1 cm)), .unset, .unset, .unset] [])
       refine oJoin (α := Unit) (fun _ => True) (fun _ => h41) (fun _ => (mkF m 230 #[.val (.int fl), .val (.int ke), .val (.long cm), .second, .val (.long s0), .second, .val (.long s1), .second, .val (.long s2), .second, .val (.int (fD fl)), .val (.int (fO fl)), .val (.int nn), .val (.ref a37), .val (.ref a39), .val (.int (fDr1 ke cm (fD fl) (fO fl) s0)), .val (.int (fSc1 s0 s1 s2 cm)), .unset, .unset, .unset] [])) (k := 2) (n := 3) (fun _ _ => ?_) (fun J230 => ?_)
       ·
        show oW _ _ _ _ _ _ _ _ _ _ _ _ _ _ _ (mkF m 230 #[.val (.int fl), .val (.int ke), .val (.long cm), .second, .val (.long s0), .second, .val (.long s1), .second, .val (.long s2), .second, .val (.int (fD fl)), .val (.int (fO fl)), .val (.int nn), .val (.ref a37), .val (.ref a39), .val (.int (fDr1 ke cm (fD fl) (fO fl) s0)), .val (.int (fSc1 s0 s1 s2 cm)), .unset, .unset, .unset] [])
        refine oJoin (α := Unit) (fun _ => True) (fun _ => h41) (fun _ => (mkF m 271 #[.val (.int fl), .val (.int ke), .val (.long cm), .second, .val (.long s0), .second, .val (.long s1), .second, .val (.long s2), .second, .val (.int (fD fl)), .val (.int (fO fl)), .val (.int nn), .val (.ref a37), .val (.ref a39), .val (.int (fDr1 ke cm (fD fl) (fO fl) s0)), .val (.int (fSc1 s0 s1 s2 cm)), .val (.int (fEx1 fl ke cm s0 s1 s2)), .unset, .unset] [])) (k := 2) (n := 3) (fun _ _ => ?_) (fun J271 => ?_)
        ·
         show oW _ _ _ _ _ _ _ _ _ _ _ _ _ _ _ (mkF m 271 #[.val (.int fl), .val (.int ke), .val (.long cm), .second, .val (.long s0), .second, .val (.long s1), .second, .val (.long s2), .second, .val (.int (fD fl)), .val (.int (fO fl)), .val (.int nn), .val (.ref a37), .val (.ref a39), .val (.int (fDr1 ke cm (fD fl) (fO fl) s0)), .val (.int (fSc1 s0 s1 s2 cm)), .val (.int (fEx1 fl ke cm s0 s1 s2)), .unset, .unset] [])
         refine oIload C at_271 rfl rfl ?_
         refine oIload C at_273 rfl rfl ?_
         refine oIcmp_ne C at_275 (q := 282) (by decide) (by decide) (r := 278) rfl (fun hq => absurd hq (not_not_intro (own_fin1 fl ke cm s0 s1 s2))) (fun hc275 => ?_)
         refine oIconst C at_278 (z := 1) rfl rfl ?_
         refine oGoto C at_279 (q := 283) (by decide) (by decide) ?_
         refine oRetZ C at_283 (z' := (1 : Int32)) rfl (by decide) (by decide) ?_
         exact rfl
        ·
         refine oIload C at_230 rfl rfl ?_
         refine oIf_ne C at_232 (q := 241) (by decide) (by decide) (r := 235) rfl (fun hc232 => ?_) (fun hc232 => ?_)
         ·
          refine oIload C at_241 rfl rfl ?_
          refine oIf_ne C at_243 (q := 252) (by decide) (by decide) (r := 246) rfl (fun hc243 => ?_) (fun hc243 => ?_)
          ·
           refine oIloadN C at_252 rfl rfl ?_
           refine oIconst C at_253 (z := 1) rfl rfl ?_
           refine oIcmp_ne C at_254 (q := 268) (by decide) (by decide) (r := 257) rfl (fun hc254 => ?_) (fun hc254 => ?_)
           ·
            refine oIconst C at_268 (z := 1) rfl rfl ?_
            refine oIstore C at_269 (Ls' := #[.val (.int fl), .val (.int ke), .val (.long cm), .second, .val (.long s0), .second, .val (.long s1), .second, .val (.long s2), .second, .val (.int (fD fl)), .val (.int (fO fl)), .val (.int nn), .val (.ref a37), .val (.ref a39), .val (.int (fDr1 ke cm (fD fl) (fO fl) s0)), .val (.int (fSc1 s0 s1 s2 cm)), .val (.int 1), .unset, .unset]) rfl (q := 271) rfl ?_
            refine oCastLs (Ls' := #[.val (.int fl), .val (.int ke), .val (.long cm), .second, .val (.long s0), .second, .val (.long s1), .second, .val (.long s2), .second, .val (.int (fD fl)), .val (.int (fO fl)), .val (.int nn), .val (.ref a37), .val (.ref a39), .val (.int (fDr1 ke cm (fD fl) (fO fl) s0)), .val (.int (fSc1 s0 s1 s2 cm)), .val (.int (fEx1 fl ke cm s0 s1 s2)), .unset, .unset]) (by rw [fEx1_def, if_neg hc232, if_neg hc243, if_neg hc254]) ?_
            exact J271 () trivial
           ·
            refine oIload C at_257 rfl rfl ?_
            refine oIf_eq C at_259 (q := 268) (by decide) (by decide) (r := 262) rfl (fun hc259 => ?_) (fun hc259 => ?_)
            ·
             refine oIconst C at_268 (z := 1) rfl rfl ?_
             refine oIstore C at_269 (Ls' := #[.val (.int fl), .val (.int ke), .val (.long cm), .second, .val (.long s0), .second, .val (.long s1), .second, .val (.long s2), .second, .val (.int (fD fl)), .val (.int (fO fl)), .val (.int nn), .val (.ref a37), .val (.ref a39), .val (.int (fDr1 ke cm (fD fl) (fO fl) s0)), .val (.int (fSc1 s0 s1 s2 cm)), .val (.int 1), .unset, .unset]) rfl (q := 271) rfl ?_
             refine oCastLs (Ls' := #[.val (.int fl), .val (.int ke), .val (.long cm), .second, .val (.long s0), .second, .val (.long s1), .second, .val (.long s2), .second, .val (.int (fD fl)), .val (.int (fO fl)), .val (.int nn), .val (.ref a37), .val (.ref a39), .val (.int (fDr1 ke cm (fD fl) (fO fl) s0)), .val (.int (fSc1 s0 s1 s2 cm)), .val (.int (fEx1 fl ke cm s0 s1 s2)), .unset, .unset]) (by rw [fEx1_def, if_neg hc232, if_neg hc243, if_pos hc254, if_pos hc259]) ?_
             exact J271 () trivial
            ·
             refine oIconst C at_262 (z := 0) rfl rfl ?_
             refine oIstore C at_263 (Ls' := #[.val (.int fl), .val (.int ke), .val (.long cm), .second, .val (.long s0), .second, .val (.long s1), .second, .val (.long s2), .second, .val (.int (fD fl)), .val (.int (fO fl)), .val (.int nn), .val (.ref a37), .val (.ref a39), .val (.int (fDr1 ke cm (fD fl) (fO fl) s0)), .val (.int (fSc1 s0 s1 s2 cm)), .val (.int 0), .unset, .unset]) rfl (q := 265) rfl ?_
             refine oGoto C at_265 (q := 271) (by decide) (by decide) ?_
             refine oCastLs (Ls' := #[.val (.int fl), .val (.int ke), .val (.long cm), .second, .val (.long s0), .second, .val (.long s1), .second, .val (.long s2), .second, .val (.int (fD fl)), .val (.int (fO fl)), .val (.int nn), .val (.ref a37), .val (.ref a39), .val (.int (fDr1 ke cm (fD fl) (fO fl) s0)), .val (.int (fSc1 s0 s1 s2 cm)), .val (.int (fEx1 fl ke cm s0 s1 s2)), .unset, .unset]) (by rw [fEx1_def, if_neg hc232, if_neg hc243, if_pos hc254, if_neg hc259]) ?_
             exact J271 () trivial
          ·
           refine oIconst C at_246 (z := 0) rfl rfl ?_
           refine oIstore C at_247 (Ls' := #[.val (.int fl), .val (.int ke), .val (.long cm), .second, .val (.long s0), .second, .val (.long s1), .second, .val (.long s2), .second, .val (.int (fD fl)), .val (.int (fO fl)), .val (.int nn), .val (.ref a37), .val (.ref a39), .val (.int (fDr1 ke cm (fD fl) (fO fl) s0)), .val (.int (fSc1 s0 s1 s2 cm)), .val (.int 0), .unset, .unset]) rfl (q := 249) rfl ?_
           refine oGoto C at_249 (q := 271) (by decide) (by decide) ?_
           refine oCastLs (Ls' := #[.val (.int fl), .val (.int ke), .val (.long cm), .second, .val (.long s0), .second, .val (.long s1), .second, .val (.long s2), .second, .val (.int (fD fl)), .val (.int (fO fl)), .val (.int nn), .val (.ref a37), .val (.ref a39), .val (.int (fDr1 ke cm (fD fl) (fO fl) s0)), .val (.int (fSc1 s0 s1 s2 cm)), .val (.int (fEx1 fl ke cm s0 s1 s2)), .unset, .unset]) (by rw [fEx1_def, if_neg hc232, if_pos hc243]) ?_
           exact J271 () trivial
         ·
          refine oIconst C at_235 (z := 0) rfl rfl ?_
          refine oIstore C at_236 (Ls' := #[.val (.int fl), .val (.int ke), .val (.long cm), .second, .val (.long s0), .second, .val (.long s1), .second, .val (.long s2), .second, .val (.int (fD fl)), .val (.int (fO fl)), .val (.int nn), .val (.ref a37), .val (.ref a39), .val (.int (fDr1 ke cm (fD fl) (fO fl) s0)), .val (.int (fSc1 s0 s1 s2 cm)), .val (.int 0), .unset, .unset]) rfl (q := 238) rfl ?_
          refine oGoto C at_238 (q := 271) (by decide) (by decide) ?_
          refine oCastLs (Ls' := #[.val (.int fl), .val (.int ke), .val (.long cm), .second, .val (.long s0), .second, .val (.long s1), .second, .val (.long s2), .second, .val (.int (fD fl)), .val (.int (fO fl)), .val (.int nn), .val (.ref a37), .val (.ref a39), .val (.int (fDr1 ke cm (fD fl) (fO fl) s0)), .val (.int (fSc1 s0 s1 s2 cm)), .val (.int (fEx1 fl ke cm s0 s1 s2)), .unset, .unset]) (by rw [fEx1_def, if_pos hc232]) ?_
          exact J271 () trivial
       ·
        refine oIload C at_214 rfl rfl ?_
        refine oIconst C at_216 (z := 3) rfl rfl ?_
        refine oIcmp_lt C at_217 (q := 230) (by decide) (by decide) (r := 220) rfl (fun hc217 => ?_) (fun hq => absurd hq (not_not_intro (by rw [hc38]; decide)))
        refine oCastLs (Ls' := #[.val (.int fl), .val (.int ke), .val (.long cm), .second, .val (.long s0), .second, .val (.long s1), .second, .val (.long s2), .second, .val (.int (fD fl)), .val (.int (fO fl)), .val (.int nn), .val (.ref a37), .val (.ref a39), .val (.int (fDr1 ke cm (fD fl) (fO fl) s0)), .val (.int (fSc1 s0 s1 s2 cm)), .unset, .unset, .unset]) (by rw [fSc1_def]) ?_
        exact J230 () trivial
      ·
       refine oIload C at_198 rfl rfl ?_
       refine oIconst C at_200 (z := 2) rfl rfl ?_
       refine oIcmp_lt C at_201 (q := 214) (by decide) (by decide) (r := 204) rfl (fun hc201 => ?_) (fun hq => absurd hq (not_not_intro (by rw [hc38]; decide)))
       refine oCastLs (Ls' := #[.val (.int fl), .val (.int ke), .val (.long cm), .second, .val (.long s0), .second, .val (.long s1), .second, .val (.long s2), .second, .val (.int (fD fl)), .val (.int (fO fl)), .val (.int nn), .val (.ref a37), .val (.ref a39), .val (.int (fDr1 ke cm (fD fl) (fO fl) s0)), .val (.int (fSb1 s0 s1 cm)), .unset, .unset, .unset]) (by rw [fSb1_def]) ?_
       exact J214 () trivial
     ·
      refine oLload C at_184 rfl rfl ?_
      refine oLloadN C at_186 rfl rfl ?_
      refine oLcmp_ge C at_187 rfl at_188 (q := 195) (by decide) (by decide) (r := 191) rfl (fun hc187 => ?_) (fun hc187 => ?_)
      ·
       refine oIconst C at_195 (z := 0) rfl rfl ?_
       refine oCastI (z' := (fSa1 s0 cm)) (by rw [fSa1_def, if_neg hc187]) ?_
       exact J196 () trivial
      ·
       refine oIconst C at_191 (z := 1) rfl rfl ?_
       refine oGoto C at_192 (q := 196) (by decide) (by decide) ?_
       refine oCastI (z' := (fSa1 s0 cm)) (by rw [fSa1_def, if_pos hc187]) ?_
       exact J196 () trivial
   ·
    refine oIloadN C at_13 rfl rfl ?_
    refine oIconst C at_14 (z := 2) rfl rfl ?_
    refine oIand C at_15 rfl ?_
    refine oIf_eq C at_16 (q := 23) (by decide) (by decide) (r := 19) rfl (fun hc16 => ?_) (fun hc16 => ?_)
    ·
     refine oIconst C at_23 (z := 0) rfl rfl ?_
     refine oCastI (z' := (fO fl)) (by rw [fO_def, if_pos hc16]) ?_
     exact J24 () trivial
    ·
     refine oIconst C at_19 (z := 1) rfl rfl ?_
     refine oGoto C at_20 (q := 24) (by decide) (by decide) ?_
     refine oCastI (z' := (fO fl)) (by rw [fO_def, if_neg hc16]) ?_
     exact J24 () trivial
  ·
   refine oIloadN C at_0 rfl rfl ?_
   refine oIconst C at_1 (z := 1) rfl rfl ?_
   refine oIand C at_2 rfl ?_
   refine oIf_eq C at_3 (q := 10) (by decide) (by decide) (r := 6) rfl (fun hc3 => ?_) (fun hc3 => ?_)
   ·
    refine oIconst C at_10 (z := 0) rfl rfl ?_
    refine oCastI (z' := (fD fl)) (by rw [fD_def, if_pos hc3]) ?_
    exact J11 () trivial
   ·
    refine oIconst C at_6 (z := 1) rfl rfl ?_
    refine oGoto C at_7 (q := 11) (by decide) (by decide) ?_
    refine oCastI (z' := (fD fl)) (by rw [fD_def, if_neg hc3]) ?_
    exact J11 () trivial
set_option maxRecDepth 65536 in
set_option maxHeartbeats 40000000 in
theorem comes_1 {Post : Tables → Env → Array Value → State → Outcome → State → Prop} (hpost : ∀ tb e args s v u, (limb_1_1.after args s (.returned v) u = true ∧ limb_1_2.after args s (.returned v) u = true ∧ True) → FrameEnd s (.returned v) u (Jvm.fieldLocs frame_1_writes args s ++ Jvm.arrayLocs frame_1_arrays args s ++ Jvm.staticLocs frame_1_statics s) 16 128 → Post tb e args s (.returned v) u) :
    ArmFor flags0 classFile x code maxLocals ret World_1 tables_1 room_1 Calls_1 rest_1 Pre_1 Post := by
  intro l hfl _ _ p e ha hc hk s m args below hf hA hF happ hP
  obtain ⟨hcalls, hrest, hpre⟩ := hP
  obtain ⟨-, -, -, hnamed, -, -, -, hat⟩ := (Spec.applies_iff hf).mp happ
  obtain ⟨hg, hn⟩ := and_e (Cond.before_iff.mp (show (Jvm.Cond.and given_1 narrow_1).before args s = true from hpre))
  obtain ⟨h1, k0⟩ := and_e hg
  obtain ⟨c0, k1⟩ := and_e k0
  obtain ⟨c1, k2⟩ := and_e k1
  obtain ⟨c2, k3⟩ := and_e k2
  obtain ⟨c3, k4⟩ := and_e k3
  obtain ⟨c4, k5⟩ := and_e k4
  obtain ⟨v0, v1, v2, v3, v4, v5, rfl⟩ : ∃ v0 v1 v2 v3 v4 v5 : Value, args = #[v0, v1, v2, v3, v4, v5] := by
    have hs : args.size = 6 := by simpa [Cond.value, given_1] using h1
    obtain ⟨L⟩ := args
    match L, hs with
    | [v0, v1, v2, v3, v4, v5], _ => exact ⟨v0, v1, v2, v3, v4, v5, rfl⟩
  have hw := fun d (hd : d ∈ tables_1) => atoms_spec (ws := Jvm.Cond.code x code maxLocals ret :: tables_1) hat d (List.mem_cons_of_mem _ hd)
  have hfit : Fit s := fun {y c} hc i hi => by
    obtain ⟨ha, rfl⟩ := Array.getElem?_eq_some_iff.mp hc
    have q := List.all_eq_true.mp ((Array.all_eq_true_iff_forall_mem.mp hF) _ (Array.getElem_mem ha)) i (List.mem_range.mpr hi)
    simpa [Array.getElem?_eq_getElem hi] using q
  obtain ⟨i0, e0⟩ := is_v c0
  obtain rfl : v0 = (.int i0) := Option.some.inj e0
  obtain ⟨i1, e1⟩ := is_v c1
  obtain rfl : v1 = (.int i1) := Option.some.inj e1
  obtain ⟨i2, e2⟩ := isL_v c2
  obtain rfl : v2 = (.long i2) := Option.some.inj e2
  obtain ⟨i3, e3⟩ := isL_v c3
  obtain rfl : v3 = (.long i3) := Option.some.inj e3
  obtain ⟨i4, e4⟩ := isL_v c4
  obtain rfl : v4 = (.long i4) := Option.some.inj e4
  obtain ⟨i5, e5⟩ := isL_v k5
  obtain rfl : v5 = (.long i5) := Option.some.inj e5
  obtain ⟨n, o, h1, h2, h3, _, L, rfl, ⟨N, rfl⟩, hq⟩ := mt_law l s _ hw s.heap s.heap.size (Nat.le_refl _) i0 i1 i2 i3 i4 i5  p e ha hc hk s m _ below hf ((Spec.applies_iff_loose hf).mp happ).1 ⟨rfl, State.Warmed39.refl s, rfl⟩ trivial
  refine ⟨n, _, h1, h2, h3, hpost _ _ _ _ _ _ ⟨Cond.after_iff.mpr rfl, Cond.after_iff.mpr (eq_i res_at (Term.int_eval (1)) rfl), trivial⟩ ⟨hq.1, hq.2.1, (hq.2.2.sift fun y hy => Or.inr (N y hy)).mono (by decide) (by decide)⟩⟩
theorem main_1_1 : Claimed_1_1 := comes_1 fun _ _ _ _ _ _ h hF => ⟨h.1, hF⟩
theorem main_1_2 : Claimed_1_2 := comes_1 fun _ _ _ _ _ _ h hF => ⟨h.2.1, hF⟩
end Jvm.Pilot.@@N@@
namespace Jvm.Pilot.@@N@@
open Jvm Jvm.ClassFile Sem Op Lib Jvm.Free Jvm.Stand Jvm.Pilot.@@N@@.Jvm.D
/-! MADE BY PROGRAM (witnessworld.py) out of the Statement's table words and the real class files: 12 classes; the members and pool entries that the words name. The judged class is class 1, her method 1. -/
namespace start1
open Jvm.ClassFile
def u (s : String) : CpInfo := .utf8 (stringToUtf16 s)
/-- a pool by its gaps: so many unusable entries, then the entry; so many at the end -/
def gap : Nat → List CpInfo → List CpInfo
  | 0, r => r
  | n + 1, r => .unusable :: gap n r
def poolList (es : List (Nat × CpInfo)) (last : Nat) : List CpInfo := es.foldr (fun e r => gap e.1 (e.2 :: r)) (gap last [])
def pool (es : List (Nat × CpInfo)) (last : Nat) : Array CpInfo := ⟨poolList es last⟩
def fileOf (pool : Array CpInfo) (this : Nat) (attrs : Array Attribute := #[]) (ms : Array MethodInfo := #[]) (fl : Nat := 33) (sup : Nat := 0) (ifs : Array Nat := #[]) (fds : Array FieldInfo := #[]) : ClassFile where
  minorVersion := 0
  majorVersion := 65
  constantPool := pool
  accessFlags := fl
  thisClass := this
  superClass := sup
  interfaces := ifs
  fields := fds
  methods := ms
  attributes := attrs
def plain (name : String) (sup : Option ClassId) : Class where
  name := name
  kind := .ordinary
  loader := none
  accessFlags := 33
  super := sup
  interfaces := #[]
  cf := none
  fields := #[]
  methods := #[]
  instanceTypes := #[]
  staticTypes := #[]
  resolved := #[]
  callSites := []
  init := .initialized
  statics := none
  mirror := none

def pool0 : Array CpInfo := pool [(5, u "<init>"), (0, u "()V"), (1, .class_ 10), (1, u "java/lang/Object")] 113

def k0c0 : Code := { maxStack := 0, maxLocals := 1, code := object_method_1_code, exceptionTable := #[], attributes := #[] }
def k0m0 : Method := { name := "<init>", desc := "()V", sig := { parameters := [], returnType := none }, accessFlags := 1, code := some k0c0 }
/-- java/lang/Object -/
def k0 : Class := { plain "java/lang/Object" none with
  accessFlags := 33
  interfaces := #[]
  cf := some (fileOf pool0 8 #[] #[{ accessFlags := 1, nameIndex := 5, descriptorIndex := 6, attributes := #[] }] 33 0 #[] #[])
  fields := #[]
  methods := #[k0m0]
  instanceTypes := #[]
  staticTypes := #[]
  resolved := Array.replicate 124 none
  statics := none }

def pool1 : Array CpInfo := pool [(2, .class_ 4), (1, u "java/lang/Object"), (0, u "<init>"), (0, u "()V"), (0, .methodref 8 9), (0, .class_ 10), (0, .nameAndType 11 12), (0, u "java/lang/Math"), (0, u "max"), (0, u "(JJ)J"), (0, .methodref 8 14), (0, .nameAndType 15 12), (0, u "min"), (0, .class_ 17), (0, u "com/example/tideline/tideline/Retention"), (0, .methodref 16 19), (0, .nameAndType 5 20), (0, u "([J)V"), (0, .methodref 16 22), (0, .nameAndType 23 24), (0, u "dropsOldest"), (0, u "(IJZZ)Z"), (0, .class_ 26), (0, u "com/example/tideline/tideline/RetentionDropsOldestPinLaw"), (2, u "law"), (0, u "(IIJJJJ)Z")] 5

def k1m0 : Method := { name := "<init>", desc := "()V", sig := { parameters := [], returnType := none }, accessFlags := 1, code := none }
def k1c1 : Code := { maxStack := 7, maxLocals := 20, code := code, exceptionTable := #[], attributes := #[] }
def k1m1 : Method := { name := "law", desc := "(IIJJJJ)Z", sig := { parameters := [.int, .int, .long, .long, .long, .long], returnType := some .boolean }, accessFlags := 9, code := some k1c1 }
/-- com/example/tideline/tideline/RetentionDropsOldestPinLaw -/
def k1 : Class := { plain "com/example/tideline/tideline/RetentionDropsOldestPinLaw" (some 0) with
  accessFlags := 49
  interfaces := #[]
  cf := some (fileOf pool1 25 #[] #[{ accessFlags := 1, nameIndex := 5, descriptorIndex := 6, attributes := #[] }, { accessFlags := 9, nameIndex := 29, descriptorIndex := 30, attributes := #[] }] 49 2 #[] #[])
  fields := #[]
  methods := #[k1m0, k1m1]
  instanceTypes := #[]
  staticTypes := #[]
  resolved := Array.replicate 36 none
  statics := none }

def pool2 : Array CpInfo := pool [(1, .methodref 2 3), (0, .class_ 4), (0, .nameAndType 5 6), (0, u "java/lang/Object"), (0, u "<init>"), (0, u "()V"), (0, .fieldref 8 9), (0, .class_ 10), (0, .nameAndType 11 12), (0, u "com/example/tideline/tideline/Retention"), (0, u "open"), (0, u "[J"), (2, u "next"), (0, u "I"), (0, u "([J)V"), (8, u "dropsOldest"), (0, u "(IJZZ)Z")] 2

def k2c0 : Code := { maxStack := 2, maxLocals := 2, code := prog_43_method_1_code, exceptionTable := #[], attributes := #[] }
def k2m0 : Method := { name := "<init>", desc := "([J)V", sig := { parameters := [(.array .long)], returnType := none }, accessFlags := 0, code := some k2c0 }
def k2c1 : Code := { maxStack := 5, maxLocals := 7, code := prog_43_method_5_code, exceptionTable := #[], attributes := #[] }
def k2m1 : Method := { name := "dropsOldest", desc := "(IJZZ)Z", sig := { parameters := [.int, .long, .boolean, .boolean], returnType := some .boolean }, accessFlags := 0, code := some k2c1 }
/-- com/example/tideline/tideline/Retention -/
def k2 : Class := { plain "com/example/tideline/tideline/Retention" (some 0) with
  accessFlags := 48
  interfaces := #[]
  cf := some (fileOf pool2 8 #[] #[{ accessFlags := 0, nameIndex := 5, descriptorIndex := 17, attributes := #[] }, { accessFlags := 0, nameIndex := 26, descriptorIndex := 27, attributes := #[] }] 48 2 #[] #[{ accessFlags := 18, nameIndex := 11, descriptorIndex := 12, attributes := #[] }, { accessFlags := 2, nameIndex := 15, descriptorIndex := 16, attributes := #[] }])
  fields := #[{ name := "open", type := (.array .long), accessFlags := 18, slot := 0, constantValue := 0 }, { name := "next", type := .int, accessFlags := 2, slot := 1, constantValue := 0 }]
  methods := #[k2m0, k2m1]
  instanceTypes := #[(.array .long), .int]
  staticTypes := #[]
  resolved := Array.replicate 30 none
  statics := none }

def pool3 : Array CpInfo := pool [(1, .class_ 2), (0, u "java/lang/Math"), (1, .class_ 6), (1, u "java/lang/Object"), (0, u "<init>"), (0, u "()V"), (89, .class_ 100), (1, u "java/lang/Math$RandomNumberGeneratorHolder"), (20, u "(JJ)J"), (50, u "negativeZeroFloatBits"), (0, u "J"), (2, u "negativeZeroDoubleBits"), (21, u "max"), (2, u "min"), (43, u "$assertionsDisabled"), (0, u "Z"), (91, u "twoToTheDoubleScaleDown"), (0, u "D"), (4, u "twoToTheDoubleScaleUp"), (9, u "E"), (3, u "PI"), (2, u "TAU"), (2, u "DEGREES_TO_RADIANS"), (0, u "RADIANS_TO_DEGREES")] 94

def k3m0 : Method := { name := "<init>", desc := "()V", sig := { parameters := [], returnType := none }, accessFlags := 2, code := none }
def k3c1 : Code := { maxStack := 4, maxLocals := 4, code := jdk_29_method_66_code, exceptionTable := #[], attributes := #[] }
def k3m1 : Method := { name := "max", desc := "(JJ)J", sig := { parameters := [.long, .long], returnType := some .long }, accessFlags := 9, code := some k3c1 }
def k3c2 : Code := { maxStack := 4, maxLocals := 4, code := jdk_29_method_70_code, exceptionTable := #[], attributes := #[] }
def k3m2 : Method := { name := "min", desc := "(JJ)J", sig := { parameters := [.long, .long], returnType := some .long }, accessFlags := 9, code := some k3c2 }
/-- java/lang/Math -/
def k3 : Class := { plain "java/lang/Math" (some 0) with
  accessFlags := 49
  interfaces := #[]
  cf := some (fileOf pool3 1 #[.nestMembers #[98]] #[{ accessFlags := 2, nameIndex := 7, descriptorIndex := 8, attributes := #[] }, { accessFlags := 9, nameIndex := 198, descriptorIndex := 121, attributes := #[] }, { accessFlags := 9, nameIndex := 201, descriptorIndex := 121, attributes := #[] }] 49 4 #[] #[{ accessFlags := 25, nameIndex := 354, descriptorIndex := 339, attributes := #[] }, { accessFlags := 25, nameIndex := 358, descriptorIndex := 339, attributes := #[] }, { accessFlags := 25, nameIndex := 361, descriptorIndex := 339, attributes := #[] }, { accessFlags := 26, nameIndex := 364, descriptorIndex := 339, attributes := #[] }, { accessFlags := 26, nameIndex := 365, descriptorIndex := 339, attributes := #[] }, { accessFlags := 26, nameIndex := 172, descriptorIndex := 173, attributes := #[] }, { accessFlags := 26, nameIndex := 176, descriptorIndex := 173, attributes := #[] }, { accessFlags := 8, nameIndex := 344, descriptorIndex := 339, attributes := #[] }, { accessFlags := 8, nameIndex := 338, descriptorIndex := 339, attributes := #[] }, { accessFlags := 4120, nameIndex := 245, descriptorIndex := 246, attributes := #[] }])
  fields := #[{ name := "E", type := .double, accessFlags := 25, slot := 0, constantValue := 0 }, { name := "PI", type := .double, accessFlags := 25, slot := 1, constantValue := 0 }, { name := "TAU", type := .double, accessFlags := 25, slot := 2, constantValue := 0 }, { name := "DEGREES_TO_RADIANS", type := .double, accessFlags := 26, slot := 3, constantValue := 0 }, { name := "RADIANS_TO_DEGREES", type := .double, accessFlags := 26, slot := 4, constantValue := 0 }, { name := "negativeZeroFloatBits", type := .long, accessFlags := 26, slot := 5, constantValue := 0 }, { name := "negativeZeroDoubleBits", type := .long, accessFlags := 26, slot := 6, constantValue := 0 }, { name := "twoToTheDoubleScaleUp", type := .double, accessFlags := 8, slot := 7, constantValue := 0 }, { name := "twoToTheDoubleScaleDown", type := .double, accessFlags := 8, slot := 8, constantValue := 0 }, { name := "$assertionsDisabled", type := .boolean, accessFlags := 4120, slot := 9, constantValue := 0 }]
  methods := #[k3m0, k3m1, k3m2]
  instanceTypes := #[]
  staticTypes := #[.double, .double, .double, .double, .double, .long, .long, .double, .double, .boolean]
  resolved := Array.replicate 460 none
  statics := none }

def pool4 : Array CpInfo := pool [(1, u "java/lang/Cloneable"), (0, .class_ 1), (0, u "java/lang/Object"), (0, .class_ 3)] 3

/-- java/lang/Cloneable -/
def k4 : Class := { plain "java/lang/Cloneable" (some 0) with
  accessFlags := 1537
  interfaces := #[]
  cf := some (fileOf pool4 2 #[] #[] 1537 4 #[] #[])
  fields := #[]
  methods := #[]
  instanceTypes := #[]
  staticTypes := #[]
  resolved := Array.replicate 8 none
  statics := none }

def pool5 : Array CpInfo := pool [(1, u "java/io/Serializable"), (0, .class_ 1), (0, u "java/lang/Object"), (0, .class_ 3)] 3

/-- java/io/Serializable -/
def k5 : Class := { plain "java/io/Serializable" (some 0) with
  accessFlags := 1537
  interfaces := #[]
  cf := some (fileOf pool5 2 #[] #[] 1537 4 #[] #[])
  fields := #[]
  methods := #[]
  instanceTypes := #[]
  staticTypes := #[]
  resolved := Array.replicate 8 none
  statics := none }

/-- the primitive byte -/
def k6 : Class := { plain "byte" none with kind := .primitive 'B', accessFlags := 0x411 }
/-- [B -/
def k7 : Class := { plain "[B" (some 0) with kind := .array 6 .byte, interfaces := #[4, 5], accessFlags := 1041 }

/-- the primitive int -/
def k8 : Class := { plain "int" none with kind := .primitive 'I', accessFlags := 0x411 }
/-- [I -/
def k9 : Class := { plain "[I" (some 0) with kind := .array 8 .int, interfaces := #[4, 5], accessFlags := 1041 }

/-- the primitive long -/
def k10 : Class := { plain "long" none with kind := .primitive 'J', accessFlags := 0x411 }
/-- [J -/
def k11 : Class := { plain "[J" (some 0) with kind := .array 10 .long, interfaces := #[4, 5], accessFlags := 1041 }

def heap : Heap := #[]
def classes : Array Class := #[k0, k1, k2, k3, k4, k5, k6, k7, k8, k9, k10, k11]
def interned : List (Array UInt16 × Addr) := []
def slotsUsed : Nat := 0
def theMethod : MethodId := ⟨1, 1⟩
def args0 : Array Value := #[.int 5, .int 5, .long 9, .long 9, .long 9, .long 9]
def aboutOver (below : List Frame) : State where
  vm := { classes := classes, interned := interned.toArray }
  heap := heap
  slotsUsed := slotsUsed
  threads := #[{ frames := .invoking theMethod args0 :: below }]
def below0 : List Frame := [.native { method := ⟨0, 0⟩, args := #[] }]
def about1 : State := aboutOver below0
def p0 : Program := .bare "" "" ""
def e0 : Env := launch0.env 0 0 0
theorem w_frames : about1.frames = Frame.invoking theMethod args0 :: below0 := rfl
set_option maxRecDepth 65536 in
theorem w_args : argsFit about1.vm theMethod args0 = true := by decide +kernel
set_option maxRecDepth 65536 in
theorem w_heap : heapFits about1 = true := by decide +kernel
set_option maxRecDepth 65536 in
theorem w_runnable : about1.curStatus? = some .runnable := by decide +kernel
set_option maxRecDepth 65536 in
theorem w_alone : about1.alone = true := by decide +kernel
set_option maxRecDepth 65536 in
theorem w_named : about1.methodNamed? x = some theMethod := by decide +kernel
set_option maxRecDepth 65536 in
theorem w_hears : about1.hears theMethod below0 = true := by decide +kernel
set_option maxRecDepth 65536 in
theorem w_ripe : about1.ripe theMethod args0 below0 = true := by decide +kernel
theorem w_running : about1.status = .running := rfl
set_option maxRecDepth 65536 in
theorem w_room : about1.hasRoom e0.platform room_1 = true :=
  launch0.hasRoom_least _ room_1 (by decide +kernel) (by decide +kernel) (by decide +kernel) (by decide +kernel) (by decide +kernel) (by decide +kernel)
theorem allAtoms_all (ts : List Jvm.Cond) (a : Array Jvm.Value) (st : Jvm.State) : (allAtoms ts).before a st = ts.all (fun c => c.before a st) := by
  induction ts with
  | nil => rfl
  | cons c t ih =>
    show (Jvm.Cond.and c (allAtoms t)).before a st = _
    rw [Jvm.Cond.before_and, ih, List.all_cons]
def words1 : List Jvm.Cond := Jvm.Cond.code x code maxLocals ret :: tables_1
/-- a 'code' word, met by the world's own term for the bytes: nothing is compared byte by byte -/
theorem code_word {y : MethodName} {bytes : ByteArray} {mx : Nat} {rt : Option FieldType} {a : Array Value} {s : State} {m : MethodId} {meth : Method} {c : Code} (h1 : s.methodNamed? y = some m) (h2 : s.vm.method? m = some meth) (h3 : meth.code = some c) (h4 : c.code = bytes)
    (h5 : (c.maxLocals == mx && c.exceptionTable.isEmpty && decide (c.maxStack ≤ mostOperands) && decide (meth.sig.returnType = rt) && !meth.locks && decide (parseMethodDescriptor y.desc = some meth.sig)) = true) : (Jvm.Cond.code y bytes mx rt).before a s = true := by
  simp only [Bool.and_eq_true, beq_iff_eq, Bool.not_eq_true', decide_eq_true_eq] at h5
  obtain ⟨⟨⟨⟨⟨g1, g2⟩, g3⟩, g4⟩, g5⟩, g6⟩ := h5
  simp [Cond.before, Cond.holds, Cond.value, h1, h2, h3, h4, g1, g2, g3, g4, g5, g6]
def isCode : Jvm.Cond → Bool
  | .code _ _ _ _ => true
  | _ => false
theorem all_split {L : List Jvm.Cond} {P : Jvm.Cond → Bool} (h1 : L.all (fun c => isCode c || P c) = true) (h2 : ∀ c ∈ L.filter isCode, P c = true) : L.all P = true := by
  refine List.all_eq_true.mpr fun c hc => ?_
  have h := List.all_eq_true.mp h1 c hc
  rcases Bool.eq_false_or_eq_true (isCode c) with hi | hi
  · exact h2 c (List.mem_filter.mpr ⟨hc, hi⟩)
  · simpa [hi] using h
set_option maxRecDepth 65536 in
theorem w_c0 : (Jvm.Cond.code x code maxLocals ret).before args0 about1 = true := code_word (m := ⟨1, 1⟩) (meth := k1m1) (c := k1c1) (by decide +kernel) rfl rfl rfl (by decide +kernel)
set_option maxRecDepth 65536 in
theorem w_c1 : (Jvm.Cond.code ({ cls := "com/example/tideline/tideline/Retention", name := "<init>", desc := "([J)V" } : Jvm.MethodName) prog_43_method_1_code (2 : Nat) (Option.none : Option Jvm.ClassFile.FieldType)).before args0 about1 = true := code_word (m := ⟨2, 0⟩) (meth := k2m0) (c := k2c0) (by decide +kernel) rfl rfl rfl (by decide +kernel)
set_option maxRecDepth 65536 in
theorem w_c2 : (Jvm.Cond.code ({ cls := "java/lang/Object", name := "<init>", desc := "()V" } : Jvm.MethodName) object_method_1_code (1 : Nat) (Option.none : Option Jvm.ClassFile.FieldType)).before args0 about1 = true := code_word (m := ⟨0, 0⟩) (meth := k0m0) (c := k0c0) (by decide +kernel) rfl rfl rfl (by decide +kernel)
set_option maxRecDepth 65536 in
theorem w_c3 : (Jvm.Cond.code ({ cls := "com/example/tideline/tideline/Retention", name := "dropsOldest", desc := "(IJZZ)Z" } : Jvm.MethodName) prog_43_method_5_code (7 : Nat) (Option.some Jvm.ClassFile.FieldType.boolean)).before args0 about1 = true := code_word (m := ⟨2, 1⟩) (meth := k2m1) (c := k2c1) (by decide +kernel) rfl rfl rfl (by decide +kernel)
set_option maxRecDepth 65536 in
theorem w_c4 : (Jvm.Cond.code ({ cls := "java/lang/Math", name := "max", desc := "(JJ)J" } : Jvm.MethodName) jdk_29_method_66_code (4 : Nat) (Option.some Jvm.ClassFile.FieldType.long)).before args0 about1 = true := code_word (m := ⟨3, 1⟩) (meth := k3m1) (c := k3c1) (by decide +kernel) rfl rfl rfl (by decide +kernel)
set_option maxRecDepth 65536 in
theorem w_c5 : (Jvm.Cond.code ({ cls := "java/lang/Math", name := "min", desc := "(JJ)J" } : Jvm.MethodName) jdk_29_method_70_code (4 : Nat) (Option.some Jvm.ClassFile.FieldType.long)).before args0 about1 = true := code_word (m := ⟨3, 2⟩) (meth := k3m2) (c := k3c2) (by decide +kernel) rfl rfl rfl (by decide +kernel)
def codes1 : List Jvm.Cond := [Jvm.Cond.code x code maxLocals ret, Jvm.Cond.code ({ cls := "com/example/tideline/tideline/Retention", name := "<init>", desc := "([J)V" } : Jvm.MethodName) prog_43_method_1_code (2 : Nat) (Option.none : Option Jvm.ClassFile.FieldType), Jvm.Cond.code ({ cls := "java/lang/Object", name := "<init>", desc := "()V" } : Jvm.MethodName) object_method_1_code (1 : Nat) (Option.none : Option Jvm.ClassFile.FieldType), Jvm.Cond.code ({ cls := "com/example/tideline/tideline/Retention", name := "dropsOldest", desc := "(IJZZ)Z" } : Jvm.MethodName) prog_43_method_5_code (7 : Nat) (Option.some Jvm.ClassFile.FieldType.boolean), Jvm.Cond.code ({ cls := "java/lang/Math", name := "max", desc := "(JJ)J" } : Jvm.MethodName) jdk_29_method_66_code (4 : Nat) (Option.some Jvm.ClassFile.FieldType.long), Jvm.Cond.code ({ cls := "java/lang/Math", name := "min", desc := "(JJ)J" } : Jvm.MethodName) jdk_29_method_70_code (4 : Nat) (Option.some Jvm.ClassFile.FieldType.long)]
set_option maxRecDepth 65536 in
theorem codes_eq : words1.filter isCode = codes1 := rfl
theorem w_codes : ∀ c ∈ words1.filter isCode, c.before args0 about1 = true := by
  rw [codes_eq]
  intro c hc
  simp only [codes1, List.mem_cons, List.not_mem_nil, or_false] at hc
  rcases hc with rfl | rfl | rfl | rfl | rfl | rfl
  · exact w_c0
  · exact w_c1
  · exact w_c2
  · exact w_c3
  · exact w_c4
  · exact w_c5
set_option maxRecDepth 65536 in
theorem w_t1 : (words1.take 24).all (fun c => isCode c || c.before args0 about1) = true := by decide +kernel
set_option maxRecDepth 65536 in
theorem w_t2 : (words1.drop 24).all (fun c => isCode c || c.before args0 about1) = true := by decide +kernel
theorem w_tables : (allAtoms (Jvm.Cond.code x code maxLocals ret :: tables_1)).before args0 about1 = true := by
  rw [allAtoms_all]
  show words1.all (fun c => c.before args0 about1) = true
  refine all_split ?_ w_codes
  rw [← List.take_append_drop 24 words1, List.all_append, w_t1, w_t2]
  rfl
set_option maxRecDepth 65536 in
theorem w_case : (Jvm.Cond.and given_1 narrow_1).before args0 about1 = true := by decide +kernel
theorem w_applies : (headSpec (Jvm.Cond.code x code maxLocals ret :: tables_1) room_1).applies x e0.platform about1 = true :=
  (Spec.applies_iff w_frames).mpr ⟨w_running, w_runnable, w_alone, w_named, w_hears, w_ripe, w_room, w_tables⟩
theorem atStart : AtStart classFile x code maxLocals ret World_1 tables_1 room_1 Calls_1 rest_1 Pre_1 launch0 p0 e0 about1 theMethod args0 below0 :=
  ⟨lists_1, trivial, launch0.admits_env _ _ _, launch0.least_env, fairChoices_fair.cas, fairChoices_fair.clock, w_frames, w_args, w_heap, w_applies, trivial, trivial, w_case⟩
end start1
theorem witness_1 : WitnessClaimed_1 := ⟨start1.p0, start1.e0, start1.about1, start1.theMethod, start1.args0, start1.below0, start1.atStart⟩
end Jvm.Pilot.@@N@@
