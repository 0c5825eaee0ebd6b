import JvmDerived
import JvmDerived.Pilot.@@N@@Statement
import JvmDerived.Pilot.@@N@@Code
set_option linter.unusedVariables false
set_option linter.unusedSimpArgs false
namespace Jvm.RoadKit
open Sem ClassFile Op Lib Jvm.Stand Jvm.Free Jvm.LawKit
section New
variable {p : Program} {l : Launch} {e : Env} {R : Room} {s : State} {m : MethodId} {args : Array Value} {below : List Frame} {meth : Method} {c : Code} {T : State} {locs : List Loc} {cells slots : Nat}
end New
end Jvm.RoadKit
namespace Jvm.Pilot.@@N@@
open Jvm Jvm.ClassFile Sem Op Lib Jvm.Free Jvm.Stand Jvm.LawKit Jvm.RoadKit Bundle Jvm.Pilot.@@N@@.Jvm.D
section Own
variable {p : Program} {l : Launch} {e : Env} {R : Room} {s : State} {m : MethodId} {args : Array Value} {below : List Frame} {meth : Method} {c : Code} {bs : ByteArray} {ml : Nat} {own nm : String} {rt : Option FieldType} {Z : State} {F : State → Outcome → Prop} {n0 : Nat} {h h' : Heap} {cells slots : Nat} {pc q : Nat} {Ls Ls' : Array Slot} {st : List Value} {a0 : Array Value}
def oCx (p : Program) (s : State) (m : MethodId) (meth : Method) (c : Code) (bs : ByteArray) (ml : Nat) (own nm : String) (rt : Option FieldType) (Z : State) : Prop :=
  p.tables.exec = Jvm.exec ∧ c.code = bs ∧ c.maxLocals = ml ∧ s.vm.findClass own = some m.cls ∧ Z.Warmed39 s.vm ∧ meth.name = nm ∧ meth.sig.returnType = rt ∧ meth.locks = false
def oW (p : Program) (l : Launch) (e : Env) (R : Room) (s : State) (m : MethodId) (args : Array Value) (below : List Frame) (meth : Method) (c : Code) (F : State → Outcome → Prop) (n0 : Nat) (h : Heap) (cells slots : Nat) (f : JFrame) : Prop :=
  ∀ (T : State) (locs : List Loc), Stand p l e R s m args below meth c T locs cells slots → T.heap = h → Fr n0 locs → ∃ s₂ o, Steps p.tables e below (T.setTop f) s₂ ∧ s₂.status = .running ∧ Ended s₂ below o ∧ F s₂ o
def oFin (s : State) (n0 k n : Nat) (Q : Option Value → Heap → Prop) (s₂ : State) (o : Outcome) : Prop := ∃ v L, o = .returned v ∧ (Fr n0 L ∧ Q v s₂.heap) ∧ FrameEnd s o s₂ L k n
def oMet (l : Launch) (Z : State) (y : MethodName) (bs : ByteArray) (ml : Nat) (rt : Option FieldType) (ws : List Jvm.Cond) (R : Room) (k n n0 : Nat) (as' : Array Value) (h0 : Heap) (Q : Option Value → Heap → Prop) : Prop :=
  MetFree l y (head1 (Jvm.Cond.code y bs ml rt :: ws) R) (fun a U => a = as' ∧ Z.Warmed39 U.vm ∧ U.heap = h0) (fun _ _ _ _ _ => True) (fun _ U o U' => ∃ v L, o = .returned v ∧ (Fr n0 L ∧ Q v U'.heap) ∧ FrameEnd U o U' L k n)
theorem oMet.intro {y : MethodName} {ws : List Jvm.Cond} {k n : Nat} {as' : Array Value} {h0 : Heap} {Q : Option Value → Heap → Prop} (pn : plainFor y = true) (ef : ∀ m, entryFrame m as' ml = mkF m 0 Ls [])
    (body : ∀ (p : Program) (e : Env) (s : State) (m : MethodId) (below : List Frame) (meth : Method) (c : Code), oCx p s m meth c bs ml y.cls y.name rt Z → oW p l e R s m as' below meth c (oFin s n0 k n Q) n0 h0 0 0 (mkF m 0 Ls [])) :
    oMet l Z y bs ml rt ws R k n n0 as' h0 Q := by
  refine MetFree.of_bodySF pn hisR ?_
  intro p e s m args below meth c s₁ Bd hml0 hP hK
  obtain ⟨rfl, hZ, hh⟩ := hP
  have e0 : s₁.heap = h0 := by rw [← hh, Bd.state]; rfl
  have C : oCx p s m meth c bs ml y.cls y.name rt Z := ⟨Bd.exec, Bd.bytes, hml0, findClass_of_methodNamed Bd.named, hZ, (name_of_methodNamed Bd.named Bd.method).1, Bd.returns, Bd.notSynchronized⟩
  obtain ⟨s₂, o, h1, h2, h3, h4⟩ := body p e s m below meth c C s₁ [] (Stand.of_body Bd) e0 (Fr.nil n0)
  exact ⟨s₂, o, castTop (ef m) h1, h2, h3, h4⟩
theorem oMet.mono {y : MethodName} {ws : List Jvm.Cond} {k n : Nat} {as' : Array Value} {h0 : Heap} {Q Q' : Option Value → Heap → Prop} (M : oMet l Z y bs ml rt ws R k n n0 as' h0 Q) (hq : ∀ v h, Q v h → Q' v h) : oMet l Z y bs ml rt ws R k n n0 as' h0 Q' := by
  intro p e ha hc hk s m args below hf happ hP hK
  obtain ⟨n', o, h1, h2, h3, v, L, h4, ⟨h5, h6⟩, h7⟩ := M p e ha hc hk s m args below hf happ hP hK
  exact ⟨n', o, h1, h2, h3, v, L, h4, ⟨h5, hq _ _ h6⟩, h7⟩
theorem oW.of {f f' : JFrame} (k : ∀ (T : State) (locs : List Loc), Stand p l e R s m args below meth c T locs cells slots → ∀ t, Steps p.tables e below (T.setTop f') t → Steps p.tables e below (T.setTop f) t)
    (g : oW p l e R s m args below meth c F n0 h cells slots f') : oW p l e R s m args below meth c F n0 h cells slots f := fun T locs X eT N => by
  obtain ⟨s₂, o, h1, h2⟩ := g T locs X eT N
  exact ⟨s₂, o, k T locs X _ h1, h2⟩
theorem oW.to {f f' : JFrame} (k : ∀ (T : State) (locs : List Loc), Stand p l e R s m args below meth c T locs cells slots → T.heap = h → ∃ T', Stand p l e R s m args below meth c T' locs cells slots ∧ T'.heap = h ∧ ∀ t, Steps p.tables e below (T'.setTop f') t → Steps p.tables e below (T.setTop f) t)
    (g : oW p l e R s m args below meth c F n0 h cells slots f') : oW p l e R s m args below meth c F n0 h cells slots f := fun T locs X eT N => by
  obtain ⟨T', X', eT', k'⟩ := k T locs X eT
  obtain ⟨s₂, o, h1, h2⟩ := g T' locs X' eT' N
  exact ⟨s₂, o, k' _ h1, h2⟩
theorem oIloadN (C : oCx p s m meth c bs ml own nm rt Z) {k : Fin 4} {v : Int32} (hd : decode bs pc = .ok (.iload_n k, 1)) (hl : Ls[k.val]? = some (.val (.int v))) (hq : pc + 1 = q) (g : oW p l e R s m args below meth c F n0 h cells slots (mkF m q Ls (.int v :: st))) : oW p l e R s m args below meth c F n0 h cells slots (mkF m pc Ls (st)) := by
  subst hq; exact oW.of (fun T locs X t k => XS.iloadN X.here C.1 rfl (hb C.2.1 hd) hl k) g
theorem oIload (C : oCx p s m meth c bs ml own nm rt Z) {k : Nat} {v : Int32} (hd : decode bs pc = .ok (.iload k, 2)) (hl : Ls[k]? = some (.val (.int v))) (hq : pc + 2 = q) (g : oW p l e R s m args below meth c F n0 h cells slots (mkF m q Ls (.int v :: st))) : oW p l e R s m args below meth c F n0 h cells slots (mkF m pc Ls (st)) := by
  subst hq; exact oW.of (fun T locs X t k => XS.iload X.here C.1 rfl (hb C.2.1 hd) hl k) g
theorem oAloadN (C : oCx p s m meth c bs ml own nm rt Z) {k : Fin 4} {v : Value} (hd : decode bs pc = .ok (.aload_n k, 1)) (hl : Ls[k.val]? = some (.val v)) (hv : v.isRef = true) (hq : pc + 1 = q) (g : oW p l e R s m args below meth c F n0 h cells slots (mkF m q Ls (v :: st))) : oW p l e R s m args below meth c F n0 h cells slots (mkF m pc Ls (st)) := by
  subst hq; exact oW.of (fun T locs X t k => XS.aloadN X.here C.1 rfl (hb C.2.1 hd) hl hv k) g
theorem oIstoreN (C : oCx p s m meth c bs ml own nm rt Z) {k : Fin 4} {v : Int32} (hd : decode bs pc = .ok (.istore_n k, 1)) (hl : storeLocals Ls k.val (.int v) = some Ls') (hq : pc + 1 = q) (g : oW p l e R s m args below meth c F n0 h cells slots (mkF m q Ls' (st))) : oW p l e R s m args below meth c F n0 h cells slots (mkF m pc Ls (.int v :: st)) := by
  subst hq; exact oW.of (fun T locs X t k => XS.istoreN X.here C.1 rfl (hb C.2.1 hd) rfl hl k) g
theorem oIstore (C : oCx p s m meth c bs ml own nm rt Z) {k : Nat} {v : Int32} (hd : decode bs pc = .ok (.istore k, 2)) (hl : storeLocals Ls k (.int v) = some Ls') (hq : pc + 2 = q) (g : oW p l e R s m args below meth c F n0 h cells slots (mkF m q Ls' (st))) : oW p l e R s m args below meth c F n0 h cells slots (mkF m pc Ls (.int v :: st)) := by
  subst hq; exact oW.of (fun T locs X t k => XS.istore X.here C.1 rfl (hb C.2.1 hd) rfl hl k) g
theorem oIconst (C : oCx p s m meth c bs ml own nm rt Z) {i : Int} {z : Int32} (hd : decode bs pc = .ok (.iconst i, 1)) (hz : Int32.ofInt i = z) (hq : pc + 1 = q) (g : oW p l e R s m args below meth c F n0 h cells slots (mkF m q Ls (.int z :: st))) : oW p l e R s m args below meth c F n0 h cells slots (mkF m pc Ls (st)) := by
  subst hq; exact oW.of (fun T locs X t k => XS.iconst X.here C.1 rfl (hb C.2.1 hd) (hz ▸ k)) g
theorem oBipush (C : oCx p s m meth c bs ml own nm rt Z) {i : Int} {z : Int32} (hd : decode bs pc = .ok (.bipush i, 2)) (hz : (Int8.ofInt i).toInt32 = z) (hq : pc + 2 = q) (g : oW p l e R s m args below meth c F n0 h cells slots (mkF m q Ls (.int z :: st))) : oW p l e R s m args below meth c F n0 h cells slots (mkF m pc Ls (st)) := by
  subst hq; exact oW.of (fun T locs X t k => XS.bipush X.here C.1 rfl (hb C.2.1 hd) (hz ▸ k)) g
theorem oSipush (C : oCx p s m meth c bs ml own nm rt Z) {i : Int} {z : Int32} (hd : decode bs pc = .ok (.sipush i, 3)) (hz : (Int16.ofInt i).toInt32 = z) (hq : pc + 3 = q) (g : oW p l e R s m args below meth c F n0 h cells slots (mkF m q Ls (.int z :: st))) : oW p l e R s m args below meth c F n0 h cells slots (mkF m pc Ls (st)) := by
  subst hq; exact oW.of (fun T locs X t k => XS.sipush X.here C.1 rfl (hb C.2.1 hd) (hz ▸ k)) g
theorem oImul (C : oCx p s m meth c bs ml own nm rt Z) {x y : Int32} (hd : decode bs pc = .ok (.imul, 1)) (hq : pc + 1 = q) (g : oW p l e R s m args below meth c F n0 h cells slots (mkF m q Ls (.int (x * y) :: st))) : oW p l e R s m args below meth c F n0 h cells slots (mkF m pc Ls (.int y :: .int x :: st)) := by
  subst hq; exact oW.of (fun T locs X t k => XS.imul X.here C.1 rfl (hb C.2.1 hd) rfl k) g
theorem oIand (C : oCx p s m meth c bs ml own nm rt Z) {x y : Int32} (hd : decode bs pc = .ok (.iand, 1)) (hq : pc + 1 = q) (g : oW p l e R s m args below meth c F n0 h cells slots (mkF m q Ls (.int (x &&& y) :: st))) : oW p l e R s m args below meth c F n0 h cells slots (mkF m pc Ls (.int y :: .int x :: st)) := by
  subst hq; exact oW.of (fun T locs X t k => XS.iand X.here C.1 rfl (hb C.2.1 hd) rfl k) g
theorem oIdiv (C : oCx p s m meth c bs ml own nm rt Z) {x y : Int32} (hd : decode bs pc = .ok (.idiv, 1)) (hy : y ≠ 0) (hq : pc + 1 = q) (g : oW p l e R s m args below meth c F n0 h cells slots (mkF m q Ls (.int (x / y) :: st))) : oW p l e R s m args below meth c F n0 h cells slots (mkF m pc Ls (.int y :: .int x :: st)) := by
  subst hq; exact oW.of (fun T locs X t k => XS.idiv X.here C.1 rfl (hb C.2.1 hd) rfl hy k) g
theorem oIrem (C : oCx p s m meth c bs ml own nm rt Z) {x y : Int32} (hd : decode bs pc = .ok (.irem, 1)) (hy : y ≠ 0) (hq : pc + 1 = q) (g : oW p l e R s m args below meth c F n0 h cells slots (mkF m q Ls (.int (x % y) :: st))) : oW p l e R s m args below meth c F n0 h cells slots (mkF m pc Ls (.int y :: .int x :: st)) := by
  subst hq; exact oW.of (fun T locs X t k => iremM X C.1 rfl (hb C.2.1 hd) rfl hy k) g
theorem oGoto (C : oCx p s m meth c bs ml own nm rt Z) {o : Int} (hd : decode bs pc = .ok (.goto o, 3)) (ho : 0 ≤ (pc : Int) + o) (hp : ((pc : Int) + o).toNat = q) (g : oW p l e R s m args below meth c F n0 h cells slots (mkF m q Ls (st))) : oW p l e R s m args below meth c F n0 h cells slots (mkF m pc Ls (st)) :=
  oW.of (fun T locs X t k => XS.goto X.here C.1 rfl (pc0 := pc) rfl (hb C.2.1 hd) ho hp k) g
theorem oIf_eq (C : oCx p s m meth c bs ml own nm rt Z) {x : Int32} {o : Int} {r : Nat} (hd : decode bs pc = .ok (.ifCond .eq o, 3)) (ho : 0 ≤ (pc : Int) + o) (hp : ((pc : Int) + o).toNat = q) (hr : pc + 3 = r) (gy : x = 0 → oW p l e R s m args below meth c F n0 h cells slots (mkF m q Ls (st))) (gn : ¬ x = 0 → oW p l e R s m args below meth c F n0 h cells slots (mkF m r Ls (st))) : oW p l e R s m args below meth c F n0 h cells slots (mkF m pc Ls (.int x :: st)) := by
  subst hr
  by_cases hc : x = 0
  · exact oW.of (fun T locs X t k => XS.ifYes X.here C.1 rfl (pc0 := pc) rfl (hb C.2.1 hd) rfl ((if0 _ _).trans (teq hc).1) ho hp k) (gy hc)
  · exact oW.of (fun T locs X t k => XS.ifNo X.here C.1 rfl (hb C.2.1 hd) rfl ((if0 _ _).trans (feq hc).1) k) (gn hc)
theorem oIcmp_ne (C : oCx p s m meth c bs ml own nm rt Z) {x y : Int32} {o : Int} {r : Nat} (hd : decode bs pc = .ok (.if_icmp .ne o, 3)) (ho : 0 ≤ (pc : Int) + o) (hp : ((pc : Int) + o).toNat = q) (hr : pc + 3 = r) (gy : ¬ x = y → oW p l e R s m args below meth c F n0 h cells slots (mkF m q Ls (st))) (gn : x = y → oW p l e R s m args below meth c F n0 h cells slots (mkF m r Ls (st))) : oW p l e R s m args below meth c F n0 h cells slots (mkF m pc Ls (.int y :: .int x :: st)) := by
  subst hr
  by_cases hc : x = y
  · exact oW.of (fun T locs X t k => XS.icmpNo X.here C.1 rfl (hb C.2.1 hd) rfl (teq hc).2 k) (gn hc)
  · exact oW.of (fun T locs X t k => XS.icmpYes X.here C.1 rfl (pc0 := pc) rfl (hb C.2.1 hd) rfl (feq hc).2 ho hp k) (gy hc)
theorem oIf_ne (C : oCx p s m meth c bs ml own nm rt Z) {x : Int32} {o : Int} {r : Nat} (hd : decode bs pc = .ok (.ifCond .ne o, 3)) (ho : 0 ≤ (pc : Int) + o) (hp : ((pc : Int) + o).toNat = q) (hr : pc + 3 = r) (gy : ¬ x = 0 → oW p l e R s m args below meth c F n0 h cells slots (mkF m q Ls (st))) (gn : x = 0 → oW p l e R s m args below meth c F n0 h cells slots (mkF m r Ls (st))) : oW p l e R s m args below meth c F n0 h cells slots (mkF m pc Ls (.int x :: st)) := by
  subst hr
  by_cases hc : x = 0
  · exact oW.of (fun T locs X t k => XS.ifNo X.here C.1 rfl (hb C.2.1 hd) rfl ((if0 _ _).trans (teq hc).2) k) (gn hc)
  · exact oW.of (fun T locs X t k => XS.ifYes X.here C.1 rfl (pc0 := pc) rfl (hb C.2.1 hd) rfl ((if0 _ _).trans (feq hc).2) ho hp k) (gy hc)
section Rets
variable {k n : Nat} {Q : Option Value → Heap → Prop} {rt' : FieldType}
theorem oRetN (C : oCx p s m meth c bs ml own nm (some rt') Z) (ht : rt' = .boolean ∨ rt' = .byte ∨ rt' = .char ∨ rt' = .short) {z z' : Int32} (hd : decode bs pc = .ok (.ireturn, 1)) (hz : nar rt' z = z') (hk : cells ≤ k) (hn : slots ≤ n) (hQ : Q (some (.int z')) h) :
    oW p l e R s m args below meth c (oFin s n0 k n Q) n0 h cells slots (mkF m pc Ls (.int z :: st)) := fun T locs X eT N => by
  subst hz eT
  obtain ⟨fs, hr, hrun, hended, hW, hsame⟩ := X.leave (v := some (.int (nar rt' z))) (fun hh => by rw [C.2.2.2.2.2.2.1] at hh; cases hh) C.2.2.2.2.2.2.2
  exact ⟨_, _, retN X C.1 C.2.2.2.2.2.2.1 ht (hb C.2.1 hd) hr, hrun, hended, _, _, rfl, ⟨N, hQ⟩, ⟨_, rfl⟩, hW, hsame.mono hk hn⟩
theorem oRetZ (C : oCx p s m meth c bs ml own nm (some .boolean) Z) {z z' : Int32} (hd : decode bs pc = .ok (.ireturn, 1)) (hz : nar .boolean z = z') (hk : cells ≤ k) (hn : slots ≤ n) (hQ : Q (some (.int z')) h) :
    oW p l e R s m args below meth c (oFin s n0 k n Q) n0 h cells slots (mkF m pc Ls (.int z :: st)) := oRetN C (Or.inl rfl) hd hz hk hn hQ
end Rets
section Calls
variable {i : Nat} {y : MethodName} {bs' : ByteArray} {ml' : Nat} {rt' : Option FieldType} {R' : Room} {Q : Option Value → Heap → Prop} {argsL rest : List Value} {ps : List FieldType} {r' : Option FieldType} {W : Nat} {a : Addr}
theorem oCallS (C : oCx p s m meth c bs ml own nm rt Z) (w1 : (Jvm.Cond.methodLink own i y).before a0 Z = true) (w2 : (Jvm.Cond.static y).before a0 Z = true) (w3 : (Jvm.Cond.initialized y.cls).before a0 Z = true) (w4 : (Jvm.Cond.code y bs' ml' rt').before a0 Z = true) (hd : decode bs pc = .ok (.invokestatic i, 3))
    (hy : y.cls ≠ "java/lang/invoke/MethodHandle" ∧ y.cls ≠ "java/lang/invoke/VarHandle") (hpd : parseMethodDescriptor y.desc = some ⟨ps, r'⟩) (hlen : argsL.length = ps.length) (hsz : Ls.size = ml) (hst : argsL.reverse ++ rest = st) (hW : (rest.map fun v => v.category).sum = W) (hq : pc + 3 = q)
    (hf : R'.frames + 1 ≤ R.frames) (hl : W + (ml' + 11) + R'.locals ≤ R.locals) (hc : cells + R'.cells ≤ R.cells) (hs : slots + R'.slots ≤ R.slots)
    (M : oMet l Z y bs' ml' rt' [] R' R'.cells R'.slots n0 argsL.toArray h Q)
    (g : ∀ v h', Q v h' → oW p l e R s m args below meth c F n0 h' (cells + R'.cells) (slots + R'.slots) (mkF m q Ls (v.toList ++ rest))) :
    oW p l e R s m args below meth c F n0 h cells slots (mkF m pc Ls st) := fun T locs X eT N => by
  subst hq hst
  have hZ := C.2.2.2.2.1
  obtain ⟨v, _, ⟨T', L', k', n'⟩, -, X', ⟨Lc, ⟨hN, hQ⟩, l', y', z'⟩, st'⟩ := Jvm.LawKit.callS X C.1 (y := y) C.2.2.2.1 (mvT hZ w1) (mvT hZ w2) (mvT hZ w3) (mvT hZ w4) hy (backOf (W := W) (Q := fun v h L => Fr n0 L ∧ Q v h) M hZ w4 w3 hf hl) (g := mkF m pc Ls (argsL.reverse ++ rest)) rfl (hsz.trans C.2.2.1.symm) (argsL := argsL) (rest := rest) (lenOf hpd hlen) rfl (by show 2 * 0 + _ ≤ _; omega) (hb C.2.1 hd) (fun _ _ => ⟨rfl, eT, hc, hs⟩)
  dsimp only [Pt.U, Pt.locs, Pt.cells, Pt.slots] at X' l' y' z' st' hQ
  subst l' y' z'
  obtain ⟨s₂, o, h1, h2⟩ := g v T'.heap hQ T' _ X' rfl (Fr.app N hN)
  exact ⟨s₂, o, st' _ h1, h2⟩
theorem oCallV (C : oCx p s m meth c bs ml own nm rt Z) (w1 : (Jvm.Cond.methodLink own i y).before a0 Z = true) (w5 : (Jvm.Cond.declares y).before a0 Z = true) (w6 : (Jvm.Cond.selects y.cls y y).before a0 Z = true) (w2 : (Jvm.Cond.instanceMethod y).before a0 Z = true) (w3 : (Jvm.Cond.initialized y.cls).before a0 Z = true) (w4 : (Jvm.Cond.code y bs' ml' rt').before a0 Z = true) (hd : decode bs pc = .ok (.invokevirtual i, 3))
    (E : Exa Z h a y.cls) (hy : y.cls ≠ "java/lang/invoke/MethodHandle" ∧ y.cls ≠ "java/lang/invoke/VarHandle") (hpd : parseMethodDescriptor y.desc = some ⟨ps, r'⟩) (hlen : argsL.length = ps.length) (hsz : Ls.size = ml) (hst : argsL.reverse ++ .ref a :: rest = st) (hW : (rest.map fun v => v.category).sum = W) (hq : pc + 3 = q)
    (hf : R'.frames + 1 ≤ R.frames) (hl : W + (ml' + 11) + R'.locals ≤ R.locals) (hc : cells + R'.cells ≤ R.cells) (hs : slots + R'.slots ≤ R.slots)
    (M : oMet l Z y bs' ml' rt' [] R' R'.cells R'.slots n0 (.ref a :: argsL).toArray h Q)
    (g : ∀ v h', Q v h' → oW p l e R s m args below meth c F n0 h' (cells + R'.cells) (slots + R'.slots) (mkF m q Ls (v.toList ++ rest))) :
    oW p l e R s m args below meth c F n0 h cells slots (mkF m pc Ls st) := fun T locs X eT N => by
  subst hq hst
  have hZ := C.2.2.2.2.1
  obtain ⟨cq, kq, qa, qb, qc⟩ := isOf hZ eT E
  obtain ⟨v, _, ⟨T', L', k', n'⟩, -, X', ⟨Lc, ⟨hN, hQ⟩, l', y', z'⟩, st'⟩ := X.virtualBack C.1 (y := y) (z := y) C.2.2.2.1 (mvT hZ w1) (mvT hZ w5) (notFace_of_selects (args := #[]) (mvT hZ w6)) (mvT hZ w6) (mvT hZ w2) hy (backOf (W := W) (Q := fun v h L => Fr n0 L ∧ Q v h) M hZ w4 w3 hf hl) qa qc (g := mkF m pc Ls (argsL.reverse ++ .ref a :: rest)) rfl (hsz.trans C.2.2.1.symm) (Steps.refl _) (argsL := argsL) (rest := rest) (lenOf hpd hlen) rfl (by show 2 * 0 + _ ≤ _; omega) (hb C.2.1 hd) (fun _ _ => ⟨rfl, eT, hc, hs⟩)
  dsimp only [Pt.U, Pt.locs, Pt.cells, Pt.slots] at X' l' y' z' st' hQ
  subst l' y' z'
  obtain ⟨s₂, o, h1, h2⟩ := g v T'.heap hQ T' _ X' rfl (Fr.app N hN)
  exact ⟨s₂, o, st'.trans h1, h2⟩
def oMetH (l : Launch) (Z : State) (y : MethodName) (bs : ByteArray) (ml : Nat) (rt : Option FieldType) (tr : List (Nat × Nat × Nat × Nat)) (R : Room) (k n n0 : Nat) (as' : Array Value) (h0 : Heap) (Q : Option Value → Heap → Prop) : Prop :=
  MetFree l y (head1 [Jvm.Cond.codeWith y bs ml rt tr] R) (fun a U => a = as' ∧ Z.Warmed39 U.vm ∧ U.heap = h0) (fun _ _ _ _ _ => True) (fun _ U o U' => ∃ v L, o = .returned v ∧ (Fr n0 L ∧ Q v U'.heap) ∧ FrameEnd U o U' L k n)
theorem oMetH.intro {tr : List (Nat × Nat × Nat × Nat)} {k n : Nat} {as' : Array Value} {h0 : Heap} (pn : plainFor y = true) (ef : ∀ m, entryFrame m as' ml = mkF m 0 Ls [])
    (body : ∀ (p : Program) (e : Env) (s : State) (m : MethodId) (below : List Frame) (meth : Method) (c : Code), oCx p s m meth c bs ml y.cls y.name rt Z → oW p l e R s m as' below meth c (oFin s n0 k n Q) n0 h0 0 0 (mkF m 0 Ls [])) :
    oMetH l Z y bs ml rt tr R k n n0 as' h0 Q := by
  refine MetFree.of_bodySF pn hisWith ?_
  intro p e s m args below meth c s₁ Bd hml0 hP hK
  obtain ⟨rfl, hZ, hh⟩ := hP
  have e0 : s₁.heap = h0 := by rw [← hh, Bd.state]; rfl
  have C : oCx p s m meth c bs ml y.cls y.name rt Z := ⟨Bd.exec, Bd.bytes, hml0, findClass_of_methodNamed Bd.named, hZ, (name_of_methodNamed Bd.named Bd.method).1, Bd.returns, Bd.notSynchronized⟩
  obtain ⟨s₂, o, h1, h2, h3, h4⟩ := body p e s m below meth c C s₁ [] (Stand.of_body Bd) e0 (Fr.nil n0)
  exact ⟨s₂, o, castTop (ef m) h1, h2, h3, h4⟩
theorem oPureK {w : Value} {hc : Heap} (g : oW p l e R s m args below meth c F n0 hc cells slots (mkF m q Ls (w :: rest))) : ∀ (v : Option Value) (h' : Heap), (v = some w ∧ h' = hc) → oW p l e R s m args below meth c F n0 h' cells slots (mkF m q Ls (v.toList ++ rest)) := by
  rintro _ _ ⟨rfl, rfl⟩; exact g
end Calls
theorem oCastI {z z' : Int32} (hz : z = z') (g : oW p l e R s m args below meth c F n0 h cells slots (mkF m pc Ls (.int z' :: st))) : oW p l e R s m args below meth c F n0 h cells slots (mkF m pc Ls (.int z :: st)) := hz ▸ g
theorem oCastLs (hz : Ls = Ls') (g : oW p l e R s m args below meth c F n0 h cells slots (mkF m pc Ls' st)) : oW p l e R s m args below meth c F n0 h cells slots (mkF m pc Ls st) := hz ▸ g
theorem oJoin {α : Type} {f : JFrame} (P : α → Prop) (hh : α → Heap) (fr : α → JFrame) {k n : Nat} (j : ∀ w, P w → oW p l e R s m args below meth c F n0 (hh w) k n (fr w)) (g : (∀ w, P w → oW p l e R s m args below meth c F n0 (hh w) k n (fr w)) → oW p l e R s m args below meth c F n0 h cells slots f) : oW p l e R s m args below meth c F n0 h cells slots f := g j
theorem oGetF (C : oCx p s m meth c bs ml own nm rt Z) {i : Nat} {R0 O n d : String} {a : Addr} {v : Value} (w : (Jvm.Cond.fieldLink own i R0 n d).before a0 Z = true) (via : Via Z R0 O n d) (Fd : Fld Z h a O n d v) (hd : decode bs pc = .ok (.getfield i, 3)) (hq : pc + 3 = q)
    (g : oW p l e R s m args below meth c F n0 h cells slots (mkF m q Ls (v :: st))) : oW p l e R s m args below meth c F n0 h cells slots (mkF m pc Ls (.ref a :: st)) := by
  subst hq
  exact oW.to (fun T locs X eT => getF X C.1 C.2.2.2.2.1 C.2.2.2.1 (host := "") (Or.inl w) via eT Fd (g := mkF m pc Ls (.ref a :: st)) rfl rfl (hb C.2.1 hd)) g
theorem oGetS (C : oCx p s m meth c bs ml own nm rt Z) {i : Nat} {R0 O n d : String} {v : Value} (w : (Jvm.Cond.fieldLink own i R0 n d).before a0 Z = true) (via : Via Z R0 O n d) (Fd : Sta Z h O n d v) (hd : decode bs pc = .ok (.getstatic i, 3)) (hq : pc + 3 = q)
    (g : oW p l e R s m args below meth c F n0 h cells slots (mkF m q Ls (v :: st))) : oW p l e R s m args below meth c F n0 h cells slots (mkF m pc Ls st) := by
  subst hq
  exact oW.to (fun T locs X eT => getS (host := "") X C.1 C.2.2.2.2.1 C.2.2.2.1 w via eT Fd (g := mkF m pc Ls st) rfl (hb C.2.1 hd)) g
def oAr (Z : State) (h : Heap) (a : Addr) (ty : FieldType) (vs : List Value) : Prop := ∃ c : Cell, Arr Z h a c ty ∧ c.slots.toList = vs
section Arrays
variable {a b : Addr} {ty : FieldType} {vs : List Value} {v : Value} {sl : Nat}
theorem oAr.lt (A : oAr Z h a ty vs) : a < h.size := by obtain ⟨c, A, -⟩ := A; exact A.lt
end Arrays
def oKe (h0 h : Heap) (ws : List Addr) (fs : List (Addr × Nat)) : Prop := h0.size ≤ h.size ∧ ∀ (x : Addr) (c : Cell), h0[x]? = some c → ∃ c' : Cell, h[x]? = some c' ∧ c'.cls = c.cls ∧ c'.vm = c.vm ∧ c'.slots.size = c.slots.size ∧ (x ∉ ws → ∀ j, (x, j) ∉ fs → c'.slots[j]? = c.slots[j]?)
section Ke
variable {h0 : Heap} {ws ws' : List Addr} {fs fs' : List (Addr × Nat)} {a b : Addr} {sl : Nat} {v : Value} {ty : FieldType} {vs : List Value} {K O n d : String}
theorem oKe.refl (h : Heap) (ws : List Addr) (fs : List (Addr × Nat)) : oKe h h ws fs := ⟨Nat.le_refl _, fun x c q => ⟨c, q, rfl, rfl, rfl, fun _ _ _ => rfl⟩⟩
theorem oKe.trans (A : oKe h0 h ws fs) (B : oKe h h' ws' fs') (q1 : ∀ x ∈ ws', x ∈ ws ∨ h0.size ≤ x) (q2 : ∀ x ∈ fs', x ∈ fs ∨ h0.size ≤ x.1) : oKe h0 h' ws fs := by
  refine ⟨Nat.le_trans A.1 B.1, fun x c hx => ?_⟩
  obtain ⟨c1, e1, e2, e3, e4, e5⟩ := A.2 x c hx
  obtain ⟨c2, g1, g2, g3, g4, g5⟩ := B.2 x c1 e1
  have lt := (Array.getElem?_eq_some_iff.mp hx).1
  refine ⟨c2, g1, g2.trans e2, g3.trans e3, g4.trans e4, fun hn j hj => ?_⟩
  rw [g5 (fun z => (q1 x z).elim hn (fun y => absurd lt (Nat.not_lt.mpr y))) j (fun z => (q2 _ z).elim hj (fun y => absurd lt (Nat.not_lt.mpr y)))]
  exact e5 hn j hj
end Ke
end Own
section Own2
variable {p : Program} {l : Launch} {e : Env} {R : Room} {s : State} {m : MethodId} {args : Array Value} {below : List Frame} {meth : Method} {c : Code} {bs : ByteArray} {ml : Nat} {own nm : String} {rt : Option FieldType} {Z : State} {F : State → Outcome → Prop} {n0 : Nat} {h h' : Heap} {cells slots : Nat} {pc q : Nat} {Ls Ls' : Array Slot} {st : List Value} {a0 : Array Value}
section ArraysO
variable {a b : Addr} {K : String} {vs : List Value} {v : Value} {sl : Nat}
end ArraysO
section Stas
variable {K n d : String} {v w : Value} {a : Addr} {sl : Nat}
end Stas
end Own2
abbrev oHw (a0 : Array Value) (Z : State) : Prop := ∀ d ∈ tables_1, d.before a0 Z = true
theorem w0 {a0 : Array Value} {Z : State} (hw : oHw a0 Z) : (Jvm.Cond.methodLink "com/example/ferial/ferial/ProlepticCalendarIsLeapYearPinLaw" (7 : Nat) ({ cls := "com/example/ferial/ferial/ProlepticCalendarIsLeapYearPinLaw", name := "divides", desc := "(II)Z" } : Jvm.MethodName)).before a0 Z = true := hw _ (List.mem_of_getElem? (i := 0) rfl)
theorem w1 {a0 : Array Value} {Z : State} (hw : oHw a0 Z) : (Jvm.Cond.static ({ cls := "com/example/ferial/ferial/ProlepticCalendarIsLeapYearPinLaw", name := "divides", desc := "(II)Z" } : Jvm.MethodName)).before a0 Z = true := hw _ (List.mem_of_getElem? (i := 1) rfl)
theorem w2 {a0 : Array Value} {Z : State} (hw : oHw a0 Z) : (Jvm.Cond.initialized "com/example/ferial/ferial/ProlepticCalendarIsLeapYearPinLaw").before a0 Z = true := hw _ (List.mem_of_getElem? (i := 2) rfl)
theorem w3 {a0 : Array Value} {Z : State} (hw : oHw a0 Z) : (Jvm.Cond.code ({ cls := "com/example/ferial/ferial/ProlepticCalendarIsLeapYearPinLaw", name := "divides", desc := "(II)Z" } : Jvm.MethodName) method_2_code (2 : Nat) (Option.some Jvm.ClassFile.FieldType.boolean)).before a0 Z = true := hw _ (List.mem_of_getElem? (i := 3) rfl)
theorem w4 {a0 : Array Value} {Z : State} (hw : oHw a0 Z) : (Jvm.Cond.fieldLink "com/example/ferial/ferial/ProlepticCalendarIsLeapYearPinLaw" (13 : Nat) "com/example/ferial/ferial/ProlepticCalendar" "JULIAN" "Lcom/example/ferial/ferial/ProlepticCalendar;").before a0 Z = true := hw _ (List.mem_of_getElem? (i := 4) rfl)
theorem w5 {a0 : Array Value} {Z : State} (hw : oHw a0 Z) : (Jvm.Cond.initialized "com/example/ferial/ferial/ProlepticCalendar").before a0 Z = true := hw _ (List.mem_of_getElem? (i := 5) rfl)
theorem w6 {a0 : Array Value} {Z : State} (hw : oHw a0 Z) : (Jvm.Cond.laysStatic "com/example/ferial/ferial/ProlepticCalendar" "JULIAN" "Lcom/example/ferial/ferial/ProlepticCalendar;").before a0 Z = true := hw _ (List.mem_of_getElem? (i := 6) rfl)
theorem w7 {a0 : Array Value} {Z : State} (hw : oHw a0 Z) : (Jvm.Cond.methodLink "com/example/ferial/ferial/ProlepticCalendarIsLeapYearPinLaw" (19 : Nat) ({ cls := "com/example/ferial/ferial/ProlepticCalendar", name := "isLeapYear", desc := "(I)Z" } : Jvm.MethodName)).before a0 Z = true := hw _ (List.mem_of_getElem? (i := 7) rfl)
theorem w8 {a0 : Array Value} {Z : State} (hw : oHw a0 Z) : (Jvm.Cond.declares ({ cls := "com/example/ferial/ferial/ProlepticCalendar", name := "isLeapYear", desc := "(I)Z" } : Jvm.MethodName)).before a0 Z = true := hw _ (List.mem_of_getElem? (i := 8) rfl)
theorem w9 {a0 : Array Value} {Z : State} (hw : oHw a0 Z) : (Jvm.Cond.instanceMethod ({ cls := "com/example/ferial/ferial/ProlepticCalendar", name := "isLeapYear", desc := "(I)Z" } : Jvm.MethodName)).before a0 Z = true := hw _ (List.mem_of_getElem? (i := 9) rfl)
theorem w10 {a0 : Array Value} {Z : State} (hw : oHw a0 Z) : (Jvm.Cond.selects "com/example/ferial/ferial/ProlepticCalendar" ({ cls := "com/example/ferial/ferial/ProlepticCalendar", name := "isLeapYear", desc := "(I)Z" } : Jvm.MethodName) ({ cls := "com/example/ferial/ferial/ProlepticCalendar", name := "isLeapYear", desc := "(I)Z" } : Jvm.MethodName)).before a0 Z = true := hw _ (List.mem_of_getElem? (i := 10) rfl)
theorem w11 {a0 : Array Value} {Z : State} (hw : oHw a0 Z) : (Jvm.Cond.code ({ cls := "com/example/ferial/ferial/ProlepticCalendar", name := "isLeapYear", desc := "(I)Z" } : Jvm.MethodName) prog_20_method_4_code (2 : Nat) (Option.some Jvm.ClassFile.FieldType.boolean)).before a0 Z = true := hw _ (List.mem_of_getElem? (i := 11) rfl)
theorem w12 {a0 : Array Value} {Z : State} (hw : oHw a0 Z) : (Jvm.Cond.fieldLink "com/example/ferial/ferial/ProlepticCalendar" (33 : Nat) "com/example/ferial/ferial/ProlepticCalendar" "centuryLeapsBy400" "Z").before a0 Z = true := hw _ (List.mem_of_getElem? (i := 12) rfl)
theorem w14 {a0 : Array Value} {Z : State} (hw : oHw a0 Z) : (Jvm.Cond.fieldLink "com/example/ferial/ferial/ProlepticCalendarIsLeapYearPinLaw" (23 : Nat) "com/example/ferial/ferial/ProlepticCalendar" "GREGORIAN" "Lcom/example/ferial/ferial/ProlepticCalendar;").before a0 Z = true := hw _ (List.mem_of_getElem? (i := 14) rfl)
theorem w15 {a0 : Array Value} {Z : State} (hw : oHw a0 Z) : (Jvm.Cond.laysStatic "com/example/ferial/ferial/ProlepticCalendar" "GREGORIAN" "Lcom/example/ferial/ferial/ProlepticCalendar;").before a0 Z = true := hw _ (List.mem_of_getElem? (i := 15) rfl)
theorem ef_1 (m : MethodId) (x0 : Int32) (x1 : Int32) : entryFrame m #[.int x0, .int x1] 2 = mkF m 0 #[.val (.int x0), .val (.int x1)] [] := by first | (simp [entryFrame, mkF, argsToLocals, Value.category]; done) | rfl
theorem pn_602953 : plainName "com/example/ferial/ferial/ProlepticCalendarIsLeapYearPinLaw" = true := by first | (simp [plainName, overriddenIn]; done) | decide +kernel
def fDiv (d1 : Int32) (y1 : Int32) : Int32 := (if ((y1 / d1) * d1) = y1 then (1 : Int32) else (0 : Int32))
theorem fDiv_def (d1 : Int32) (y1 : Int32) : fDiv d1 y1 = (if ((y1 / d1) * d1) = y1 then (1 : Int32) else (0 : Int32)) := rfl
theorem d1_0 : decode method_2_code 0 = .ok (.iload_n 1, 1) := by decide +kernel
theorem d1_1 : decode method_2_code 1 = .ok (.iload_n 0, 1) := by decide +kernel
theorem d1_2 : decode method_2_code 2 = .ok (.idiv, 1) := by decide +kernel
theorem d1_3 : decode method_2_code 3 = .ok (.iload_n 0, 1) := by decide +kernel
theorem d1_4 : decode method_2_code 4 = .ok (.imul, 1) := by decide +kernel
theorem d1_5 : decode method_2_code 5 = .ok (.iload_n 1, 1) := by decide +kernel
theorem d1_6 : decode method_2_code 6 = .ok (.if_icmp .ne 7, 3) := by decide +kernel
theorem d1_9 : decode method_2_code 9 = .ok (.iconst 1, 1) := by decide +kernel
theorem d1_10 : decode method_2_code 10 = .ok (.goto 4, 3) := by decide +kernel
theorem d1_13 : decode method_2_code 13 = .ok (.iconst 0, 1) := by decide +kernel
theorem d1_14 : decode method_2_code 14 = .ok (.ireturn, 1) := by decide +kernel
set_option maxRecDepth 65536 in
set_option maxHeartbeats 40000000 in
theorem mt_fDiv (l : Launch) (Z : State) (a0 : Array Value) (hw : oHw a0 Z) (h0 : Heap) (n0 : Nat) (Z0 : n0 ≤ h0.size) (d1 : Int32) (y1 : Int32) (hnz : d1 ≠ 0) :
    oMet l Z (⟨"com/example/ferial/ferial/ProlepticCalendarIsLeapYearPinLaw", "divides", "(II)Z"⟩ : MethodName) method_2_code 2 (some .boolean) [] ({ frames := 0, cells := 0, slots := 0, locals := 0 } : Room) 0 0 n0 #[.int d1, .int y1] h0 (fun v h => v = some (.int (fDiv d1 y1)) ∧ h = h0) := by
  refine oMet.intro (plainFor_of_name pn_602953) (fun m => ef_1 m d1 y1) ?_
  intro op oe os m obl omt ocd C
  refine oIloadN C d1_0 rfl rfl ?_
  refine oIloadN C d1_1 rfl rfl ?_
  refine oIdiv C d1_2 hnz rfl ?_
  refine oIloadN C d1_3 rfl rfl ?_
  refine oImul C d1_4 rfl ?_
  refine oIloadN C d1_5 rfl rfl ?_
  refine oIcmp_ne C d1_6 (q := 13) (by decide) (by decide) (r := 9) rfl (fun hc6 => ?_) (fun hc6 => ?_)
  ·
   refine oIconst C d1_13 (z := 0) rfl rfl ?_
   refine oRetZ C d1_14 (z' := (0 : Int32)) rfl (by decide) (by decide) ?_
   exact ⟨by rw [fDiv_def, if_neg hc6], rfl⟩
  ·
   refine oIconst C d1_9 (z := 1) rfl rfl ?_
   refine oGoto C d1_10 (q := 14) (by decide) (by decide) ?_
   refine oRetZ C d1_14 (z' := (1 : Int32)) rfl (by decide) (by decide) ?_
   exact ⟨by rw [fDiv_def, if_pos hc6], rfl⟩
theorem ef_2 (m : MethodId) (x0 : Addr) (x1 : Int32) : entryFrame m #[.ref x0, .int x1] 2 = mkF m 0 #[.val (.ref x0), .val (.int x1)] [] := by first | (simp [entryFrame, mkF, argsToLocals, Value.category]; done) | rfl
theorem pn_791546 : plainName "com/example/ferial/ferial/ProlepticCalendar" = true := by first | (simp [plainName, overriddenIn]; done) | decide +kernel
def fLeap (y1 : Int32) (ce : Int32) : Int32 := (if (y1 % (4 : Int32)) = 0 then (if ce = 0 then (1 : Int32) else (if (y1 % (100 : Int32)) = 0 then (if (y1 % (400 : Int32)) = 0 then (1 : Int32) else (0 : Int32)) else (1 : Int32))) else (0 : Int32))
theorem fLeap_def (y1 : Int32) (ce : Int32) : fLeap y1 ce = (if (y1 % (4 : Int32)) = 0 then (if ce = 0 then (1 : Int32) else (if (y1 % (100 : Int32)) = 0 then (if (y1 % (400 : Int32)) = 0 then (1 : Int32) else (0 : Int32)) else (1 : Int32))) else (0 : Int32)) := rfl
theorem d2_0 : decode prog_20_method_4_code 0 = .ok (.iload_n 1, 1) := by decide +kernel
theorem d2_1 : decode prog_20_method_4_code 1 = .ok (.iconst 4, 1) := by decide +kernel
theorem d2_2 : decode prog_20_method_4_code 2 = .ok (.irem, 1) := by decide +kernel
theorem d2_3 : decode prog_20_method_4_code 3 = .ok (.ifCond .eq 5, 3) := by decide +kernel
theorem d2_6 : decode prog_20_method_4_code 6 = .ok (.iconst 0, 1) := by decide +kernel
theorem d2_7 : decode prog_20_method_4_code 7 = .ok (.ireturn, 1) := by decide +kernel
theorem d2_8 : decode prog_20_method_4_code 8 = .ok (.aload_n 0, 1) := by decide +kernel
theorem d2_9 : decode prog_20_method_4_code 9 = .ok (.getfield 33, 3) := by decide +kernel
theorem d2_12 : decode prog_20_method_4_code 12 = .ok (.ifCond .eq 18, 3) := by decide +kernel
theorem d2_15 : decode prog_20_method_4_code 15 = .ok (.iload_n 1, 1) := by decide +kernel
theorem d2_16 : decode prog_20_method_4_code 16 = .ok (.bipush 100, 2) := by decide +kernel
theorem d2_18 : decode prog_20_method_4_code 18 = .ok (.irem, 1) := by decide +kernel
theorem d2_19 : decode prog_20_method_4_code 19 = .ok (.ifCond .ne 11, 3) := by decide +kernel
theorem d2_22 : decode prog_20_method_4_code 22 = .ok (.iload_n 1, 1) := by decide +kernel
theorem d2_23 : decode prog_20_method_4_code 23 = .ok (.sipush 400, 3) := by decide +kernel
theorem d2_26 : decode prog_20_method_4_code 26 = .ok (.irem, 1) := by decide +kernel
theorem d2_27 : decode prog_20_method_4_code 27 = .ok (.ifCond .ne 7, 3) := by decide +kernel
theorem d2_30 : decode prog_20_method_4_code 30 = .ok (.iconst 1, 1) := by decide +kernel
theorem d2_31 : decode prog_20_method_4_code 31 = .ok (.goto 4, 3) := by decide +kernel
theorem d2_34 : decode prog_20_method_4_code 34 = .ok (.iconst 0, 1) := by decide +kernel
theorem d2_35 : decode prog_20_method_4_code 35 = .ok (.ireturn, 1) := by decide +kernel
set_option maxRecDepth 65536 in
set_option maxHeartbeats 40000000 in
theorem mt_fLeap (l : Launch) (Z : State) (a0 : Array Value) (hw : oHw a0 Z) (h0 : Heap) (n0 : Nat) (Z0 : n0 ≤ h0.size) (a : Addr) (y1 : Int32) (ce : Int32) (F_centuryLeapsBy400 : Fld Z h0 a "com/example/ferial/ferial/ProlepticCalendar" "centuryLeapsBy400" "Z" (.int ce)) :
    oMet l Z (⟨"com/example/ferial/ferial/ProlepticCalendar", "isLeapYear", "(I)Z"⟩ : MethodName) prog_20_method_4_code 2 (some .boolean) [] ({ frames := 0, cells := 0, slots := 0, locals := 0 } : Room) 0 0 n0 #[.ref a, .int y1] h0 (fun v h => v = some (.int (fLeap y1 ce)) ∧ h = h0) := by
  refine oMet.intro (plainFor_of_name pn_791546) (fun m => ef_2 m a y1) ?_
  intro op oe os m obl omt ocd C
  refine oIloadN C d2_0 rfl rfl ?_
  refine oIconst C d2_1 (z := 4) rfl rfl ?_
  refine oIrem C d2_2 (by decide) rfl ?_
  refine oIf_eq C d2_3 (q := 8) (by decide) (by decide) (r := 6) rfl (fun hc3 => ?_) (fun hc3 => ?_)
  ·
   refine oAloadN C d2_8 rfl rfl rfl ?_
   refine oGetF C (w12 hw) Via.refl F_centuryLeapsBy400 d2_9 rfl ?_
   refine oIf_eq C d2_12 (q := 30) (by decide) (by decide) (r := 15) rfl (fun hc12 => ?_) (fun hc12 => ?_)
   ·
    refine oIconst C d2_30 (z := 1) rfl rfl ?_
    refine oGoto C d2_31 (q := 35) (by decide) (by decide) ?_
    refine oRetZ C d2_35 (z' := (1 : Int32)) rfl (by decide) (by decide) ?_
    exact ⟨by rw [fLeap_def, if_pos hc3, if_pos hc12], rfl⟩
   ·
    refine oIloadN C d2_15 rfl rfl ?_
    refine oBipush C d2_16 (z := 100) rfl rfl ?_
    refine oIrem C d2_18 (by decide) rfl ?_
    refine oIf_ne C d2_19 (q := 30) (by decide) (by decide) (r := 22) rfl (fun hc19 => ?_) (fun hc19 => ?_)
    ·
     refine oIconst C d2_30 (z := 1) rfl rfl ?_
     refine oGoto C d2_31 (q := 35) (by decide) (by decide) ?_
     refine oRetZ C d2_35 (z' := (1 : Int32)) rfl (by decide) (by decide) ?_
     exact ⟨by rw [fLeap_def, if_pos hc3, if_neg hc12, if_neg hc19], rfl⟩
    ·
     refine oIloadN C d2_22 rfl rfl ?_
     refine oSipush C d2_23 (z := 400) rfl rfl ?_
     refine oIrem C d2_26 (by decide) rfl ?_
     refine oIf_ne C d2_27 (q := 34) (by decide) (by decide) (r := 30) rfl (fun hc27 => ?_) (fun hc27 => ?_)
     ·
      refine oIconst C d2_34 (z := 0) rfl rfl ?_
      refine oRetZ C d2_35 (z' := (0 : Int32)) rfl (by decide) (by decide) ?_
      exact ⟨by rw [fLeap_def, if_pos hc3, if_neg hc12, if_pos hc19, if_neg hc27], rfl⟩
     ·
      refine oIconst C d2_30 (z := 1) rfl rfl ?_
      refine oGoto C d2_31 (q := 35) (by decide) (by decide) ?_
      refine oRetZ C d2_35 (z' := (1 : Int32)) rfl (by decide) (by decide) ?_
      exact ⟨by rw [fLeap_def, if_pos hc3, if_neg hc12, if_pos hc19, if_pos hc27], rfl⟩
  ·
   refine oIconst C d2_6 (z := 0) rfl rfl ?_
   refine oRetZ C d2_7 (z' := (0 : Int32)) rfl (by decide) (by decide) ?_
   exact ⟨by rw [fLeap_def, if_neg hc3], rfl⟩
theorem own_div (d y : Int32) : ((y / d) * d) = y ↔ y % d = 0 := by
  have e := Jvm.irem_eq_mod y d
  rw [← e, ← Int32.toInt_inj, ← Int32.toInt_inj]
  have e1 := c_isub y (y / d * d)
  have r1 := rng32 y
  have r2 := rng32 (y / d * d)
  have r3 := rng32 (y - y / d * d)
  rw [show (0 : Int32).toInt = 0 from rfl]
  omega
theorem own_mod (y k : Int32) (K : Int) (hk : k.toInt = K) (h0 : 0 < K) : y % k = 0 ↔ y.toInt % K = 0 := by
  rw [← Int32.toInt_inj, Int32.toInt_mod, hk, show (0 : Int32).toInt = 0 from rfl]
  constructor
  · intro h; exact Int.emod_eq_zero_of_dvd (Int.dvd_of_tmod_eq_zero h)
  · intro h; exact Int.tmod_eq_zero_of_dvd (Int.dvd_of_emod_eq_zero h)
theorem own_j (y : Int32) : fLeap y 0 = fDiv 4 y := by
  rw [fLeap_def, fDiv_def]; simp only [own_div]; split <;> simp
theorem ef_0 (m : MethodId) (x0 : Int32) (x1 : Int32) : entryFrame m #[.int x0, .int x1] maxLocals = mkF m 0 #[.val (.int x0), .val (.int x1), .unset, .unset, .unset, .unset, .unset, .unset] [] := by first | (simp [entryFrame, mkF, argsToLocals, Value.category, maxLocals]; done) | rfl
def fY (yr : Int32) (md : Int32) : Int32 := (if md = 0 then yr else (if md = (1 : Int32) then ((yr / (4 : Int32)) * (4 : Int32)) else (if md = (2 : Int32) then ((yr / (100 : Int32)) * (100 : Int32)) else ((yr / (400 : Int32)) * (400 : Int32)))))
theorem fY_def (yr : Int32) (md : Int32) : fY yr md = (if md = 0 then yr else (if md = (1 : Int32) then ((yr / (4 : Int32)) * (4 : Int32)) else (if md = (2 : Int32) then ((yr / (100 : Int32)) * (100 : Int32)) else ((yr / (400 : Int32)) * (400 : Int32))))) := rfl
theorem pd_947254 : parseMethodDescriptor "(II)Z" = some ⟨[.int, .int], some .boolean⟩ := by decide +kernel
def fGr (yy : Int32) : Int32 := (if (fDiv (400 : Int32) yy) = 0 then (if (fDiv (4 : Int32) yy) = 0 then (0 : Int32) else (if (fDiv (100 : Int32) yy) = 0 then (1 : Int32) else (0 : Int32))) else (1 : Int32))
theorem fGr_def (yy : Int32) : fGr yy = (if (fDiv (400 : Int32) yy) = 0 then (if (fDiv (4 : Int32) yy) = 0 then (0 : Int32) else (if (fDiv (100 : Int32) yy) = 0 then (1 : Int32) else (0 : Int32))) else (1 : Int32)) := rfl
theorem pd_674845 : parseMethodDescriptor "(I)Z" = some ⟨[.int], some .boolean⟩ := by decide +kernel
theorem own_g (y : Int32) : fLeap y 1 = fGr y := by
  rw [fLeap_def, fGr_def]; simp only [fDiv_def, own_div, own_mod y 4 4 rfl (by decide), own_mod y 100 100 rfl (by decide), own_mod y 400 400 rfl (by decide)]
  by_cases h1 : y.toInt % 4 = 0 <;> by_cases h2 : y.toInt % 100 = 0 <;> by_cases h3 : y.toInt % 400 = 0 <;> simp [h1, h2, h3] <;> omega
set_option maxRecDepth 65536 in
set_option maxHeartbeats 40000000 in
theorem mt_law (l : Launch) (Z : State) (a0 : Array Value) (hw : oHw a0 Z) (h0 : Heap) (n0 : Nat) (Z0 : n0 ≤ h0.size) (yr : Int32) (mo : Int32) (jj gg : Addr) (S_jj : Sta Z h0 "com/example/ferial/ferial/ProlepticCalendar" "JULIAN" "Lcom/example/ferial/ferial/ProlepticCalendar;" (.ref jj)) (E_jj : Exa Z h0 jj "com/example/ferial/ferial/ProlepticCalendar") (F_jj : Fld Z h0 jj "com/example/ferial/ferial/ProlepticCalendar" "centuryLeapsBy400" "Z" (.int 0)) (S_gg : Sta Z h0 "com/example/ferial/ferial/ProlepticCalendar" "GREGORIAN" "Lcom/example/ferial/ferial/ProlepticCalendar;" (.ref gg)) (E_gg : Exa Z h0 gg "com/example/ferial/ferial/ProlepticCalendar") (F_gg : Fld Z h0 gg "com/example/ferial/ferial/ProlepticCalendar" "centuryLeapsBy400" "Z" (.int 1)) :
    oMet l Z x code maxLocals ret tables_1 room_1 0 0 n0 #[.int yr, .int mo] h0 (fun v h => v = some (.int 1)) := by
  refine oMet.intro (plainFor_of_name pn_602953) (fun m => ef_0 m yr mo) ?_
  intro op oe os m obl omt ocd C
  refine oIloadN C at_0 rfl rfl ?_
  refine oIconst C at_1 (z := 3) rfl rfl ?_
  refine oIand C at_2 rfl ?_
  obtain ⟨md, e_md⟩ : ∃ z, z = (mo &&& (3 : Int32)) := ⟨_, rfl⟩
  refine oCastI e_md.symm ?_
  refine oIstoreN C at_3 (Ls' := #[.val (.int yr), .val (.int mo), .val (.int md), .unset, .unset, .unset, .unset, .unset]) rfl (q := 4) rfl ?_
  refine oJoin (α := Unit) (fun _ => True) (fun _ => h0) (fun _ => (mkF m 53 #[.val (.int yr), .val (.int mo), .val (.int md), .val (.int (fY yr md)), .unset, .unset, .unset, .unset] [])) (k := 0) (n := 0) (fun _ _ => ?_) (fun J53 => ?_)
  ·
   show oW _ _ _ _ _ _ _ _ _ _ _ _ _ _ _ (mkF m 53 #[.val (.int yr), .val (.int mo), .val (.int md), .val (.int (fY yr md)), .unset, .unset, .unset, .unset] [])
   obtain ⟨yy, e_yy⟩ : ∃ z, z = (fY yr md) := ⟨_, rfl⟩
   refine oCastLs (Ls' := #[.val (.int yr), .val (.int mo), .val (.int md), .val (.int yy), .unset, .unset, .unset, .unset]) (by rw [e_yy]) ?_
   refine oIconst C at_53 (z := 4) rfl rfl ?_
   refine oIloadN C at_54 rfl rfl ?_
   refine oCallS C (w0 hw) (w1 hw) (w2 hw) (w3 hw) at_55 (by decide) pd_947254 rfl rfl (argsL := [.int 4, .int yy]) (rest := []) rfl (W := 0) rfl (q := 58) rfl (by decide) (by decide) (by decide) (by decide) (mt_fDiv l Z a0 hw _ n0 Z0 (4 : Int32) yy (by decide)) (oPureK ?_)
   refine oIstore C at_58 (Ls' := #[.val (.int yr), .val (.int mo), .val (.int md), .val (.int yy), .val (.int (fDiv (4 : Int32) yy)), .unset, .unset, .unset]) rfl (q := 60) rfl ?_
   refine oJoin (α := Unit) (fun _ => True) (fun _ => h0) (fun _ => (mkF m 92 #[.val (.int yr), .val (.int mo), .val (.int md), .val (.int yy), .val (.int (fDiv (4 : Int32) yy)), .unset, .unset, .unset] [.int (fGr yy)])) (k := 0) (n := 0) (fun _ _ => ?_) (fun J92 => ?_)
   ·
    show oW _ _ _ _ _ _ _ _ _ _ _ _ _ _ _ (mkF m 92 #[.val (.int yr), .val (.int mo), .val (.int md), .val (.int yy), .val (.int (fDiv (4 : Int32) yy)), .unset, .unset, .unset] [.int (fGr yy)])
    refine oIstore C at_92 (Ls' := #[.val (.int yr), .val (.int mo), .val (.int md), .val (.int yy), .val (.int (fDiv (4 : Int32) yy)), .val (.int (fGr yy)), .unset, .unset]) rfl (q := 94) rfl ?_
    refine oGetS C (w4 hw) Via.refl S_jj at_94 rfl ?_
    refine oIloadN C at_97 rfl rfl ?_
    refine oCallV C (w7 hw) (w8 hw) (w10 hw) (w9 hw) (w5 hw) (w11 hw) at_98 E_jj (by decide) pd_674845 rfl rfl (a := jj) (argsL := [.int yy]) (rest := []) rfl (W := 0) rfl (q := 101) rfl (by decide) (by decide) (by decide) (by decide) (mt_fLeap l Z a0 hw _ n0 Z0 jj yy (0 : Int32) F_jj) (oPureK ?_)
    refine oIstore C at_101 (Ls' := #[.val (.int yr), .val (.int mo), .val (.int md), .val (.int yy), .val (.int (fDiv (4 : Int32) yy)), .val (.int (fGr yy)), .val (.int (fLeap yy (0 : Int32))), .unset]) rfl (q := 103) rfl ?_
    refine oGetS C (w14 hw) Via.refl S_gg at_103 rfl ?_
    refine oIloadN C at_106 rfl rfl ?_
    refine oCallV C (w7 hw) (w8 hw) (w10 hw) (w9 hw) (w5 hw) (w11 hw) at_107 E_gg (by decide) pd_674845 rfl rfl (a := gg) (argsL := [.int yy]) (rest := []) rfl (W := 0) rfl (q := 110) rfl (by decide) (by decide) (by decide) (by decide) (mt_fLeap l Z a0 hw _ n0 Z0 gg yy (1 : Int32) F_gg) (oPureK ?_)
    refine oIstore C at_110 (Ls' := #[.val (.int yr), .val (.int mo), .val (.int md), .val (.int yy), .val (.int (fDiv (4 : Int32) yy)), .val (.int (fGr yy)), .val (.int (fLeap yy (0 : Int32))), .val (.int (fLeap yy (1 : Int32)))]) rfl (q := 112) rfl ?_
    refine oIload C at_112 rfl rfl ?_
    refine oIload C at_114 rfl rfl ?_
    refine oIcmp_ne C at_116 (q := 130) (by decide) (by decide) (r := 119) rfl (fun hq => absurd hq (not_not_intro (own_j yy))) (fun hc116 => ?_)
    refine oIload C at_119 rfl rfl ?_
    refine oIload C at_121 rfl rfl ?_
    refine oIcmp_ne C at_123 (q := 130) (by decide) (by decide) (r := 126) rfl (fun hq => absurd hq (not_not_intro (own_g yy))) (fun hc123 => ?_)
    refine oIconst C at_126 (z := 1) rfl rfl ?_
    refine oGoto C at_127 (q := 131) (by decide) (by decide) ?_
    refine oRetZ C at_131 (z' := (1 : Int32)) rfl (by decide) (by decide) ?_
    exact rfl
   ·
    refine oSipush C at_60 (z := 400) rfl rfl ?_
    refine oIloadN C at_63 rfl rfl ?_
    refine oCallS C (w0 hw) (w1 hw) (w2 hw) (w3 hw) at_64 (by decide) pd_947254 rfl rfl (argsL := [.int 400, .int yy]) (rest := []) rfl (W := 0) rfl (q := 67) rfl (by decide) (by decide) (by decide) (by decide) (mt_fDiv l Z a0 hw _ n0 Z0 (400 : Int32) yy (by decide)) (oPureK ?_)
    refine oIf_ne C at_67 (q := 87) (by decide) (by decide) (r := 70) rfl (fun hc67 => ?_) (fun hc67 => ?_)
    ·
     refine oIconst C at_87 (z := 1) rfl rfl ?_
     refine oGoto C at_88 (q := 92) (by decide) (by decide) ?_
     refine oCastI (z' := (fGr yy)) (by rw [fGr_def, if_neg hc67]) ?_
     exact J92 () trivial
    ·
     refine oIconst C at_70 (z := 4) rfl rfl ?_
     refine oIloadN C at_71 rfl rfl ?_
     refine oCallS C (w0 hw) (w1 hw) (w2 hw) (w3 hw) at_72 (by decide) pd_947254 rfl rfl (argsL := [.int 4, .int yy]) (rest := []) rfl (W := 0) rfl (q := 75) rfl (by decide) (by decide) (by decide) (by decide) (mt_fDiv l Z a0 hw _ n0 Z0 (4 : Int32) yy (by decide)) (oPureK ?_)
     refine oIf_eq C at_75 (q := 91) (by decide) (by decide) (r := 78) rfl (fun hc75 => ?_) (fun hc75 => ?_)
     ·
      refine oIconst C at_91 (z := 0) rfl rfl ?_
      refine oCastI (z' := (fGr yy)) (by rw [fGr_def, if_pos hc67, if_pos hc75]) ?_
      exact J92 () trivial
     ·
      refine oBipush C at_78 (z := 100) rfl rfl ?_
      refine oIloadN C at_80 rfl rfl ?_
      refine oCallS C (w0 hw) (w1 hw) (w2 hw) (w3 hw) at_81 (by decide) pd_947254 rfl rfl (argsL := [.int 100, .int yy]) (rest := []) rfl (W := 0) rfl (q := 84) rfl (by decide) (by decide) (by decide) (by decide) (mt_fDiv l Z a0 hw _ n0 Z0 (100 : Int32) yy (by decide)) (oPureK ?_)
      refine oIf_ne C at_84 (q := 91) (by decide) (by decide) (r := 87) rfl (fun hc84 => ?_) (fun hc84 => ?_)
      ·
       refine oIconst C at_91 (z := 0) rfl rfl ?_
       refine oCastI (z' := (fGr yy)) (by rw [fGr_def, if_pos hc67, if_neg hc75, if_neg hc84]) ?_
       exact J92 () trivial
      ·
       refine oIconst C at_87 (z := 1) rfl rfl ?_
       refine oGoto C at_88 (q := 92) (by decide) (by decide) ?_
       refine oCastI (z' := (fGr yy)) (by rw [fGr_def, if_pos hc67, if_neg hc75, if_pos hc84]) ?_
       exact J92 () trivial
  ·
   refine oIloadN C at_4 rfl rfl ?_
   refine oIf_ne C at_5 (q := 13) (by decide) (by decide) (r := 8) rfl (fun hc5 => ?_) (fun hc5 => ?_)
   ·
    refine oIloadN C at_13 rfl rfl ?_
    refine oIconst C at_14 (z := 1) rfl rfl ?_
    refine oIcmp_ne C at_15 (q := 27) (by decide) (by decide) (r := 18) rfl (fun hc15 => ?_) (fun hc15 => ?_)
    ·
     refine oIloadN C at_27 rfl rfl ?_
     refine oIconst C at_28 (z := 2) rfl rfl ?_
     refine oIcmp_ne C at_29 (q := 43) (by decide) (by decide) (r := 32) rfl (fun hc29 => ?_) (fun hc29 => ?_)
     ·
      refine oIloadN C at_43 rfl rfl ?_
      refine oSipush C at_44 (z := 400) rfl rfl ?_
      refine oIdiv C at_47 (by decide) rfl ?_
      refine oSipush C at_48 (z := 400) rfl rfl ?_
      refine oImul C at_51 rfl ?_
      refine oIstoreN C at_52 (Ls' := #[.val (.int yr), .val (.int mo), .val (.int md), .val (.int ((yr / (400 : Int32)) * (400 : Int32))), .unset, .unset, .unset, .unset]) rfl (q := 53) rfl ?_
      refine oCastLs (Ls' := #[.val (.int yr), .val (.int mo), .val (.int md), .val (.int (fY yr md)), .unset, .unset, .unset, .unset]) (by rw [fY_def, if_neg hc5, if_neg hc15, if_neg hc29]) ?_
      exact J53 () trivial
     ·
      refine oIloadN C at_32 rfl rfl ?_
      refine oBipush C at_33 (z := 100) rfl rfl ?_
      refine oIdiv C at_35 (by decide) rfl ?_
      refine oBipush C at_36 (z := 100) rfl rfl ?_
      refine oImul C at_38 rfl ?_
      refine oIstoreN C at_39 (Ls' := #[.val (.int yr), .val (.int mo), .val (.int md), .val (.int ((yr / (100 : Int32)) * (100 : Int32))), .unset, .unset, .unset, .unset]) rfl (q := 40) rfl ?_
      refine oGoto C at_40 (q := 53) (by decide) (by decide) ?_
      refine oCastLs (Ls' := #[.val (.int yr), .val (.int mo), .val (.int md), .val (.int (fY yr md)), .unset, .unset, .unset, .unset]) (by rw [fY_def, if_neg hc5, if_neg hc15, if_pos hc29]) ?_
      exact J53 () trivial
    ·
     refine oIloadN C at_18 rfl rfl ?_
     refine oIconst C at_19 (z := 4) rfl rfl ?_
     refine oIdiv C at_20 (by decide) rfl ?_
     refine oIconst C at_21 (z := 4) rfl rfl ?_
     refine oImul C at_22 rfl ?_
     refine oIstoreN C at_23 (Ls' := #[.val (.int yr), .val (.int mo), .val (.int md), .val (.int ((yr / (4 : Int32)) * (4 : Int32))), .unset, .unset, .unset, .unset]) rfl (q := 24) rfl ?_
     refine oGoto C at_24 (q := 53) (by decide) (by decide) ?_
     refine oCastLs (Ls' := #[.val (.int yr), .val (.int mo), .val (.int md), .val (.int (fY yr md)), .unset, .unset, .unset, .unset]) (by rw [fY_def, if_neg hc5, if_pos hc15]) ?_
     exact J53 () trivial
   ·
    refine oIloadN C at_8 rfl rfl ?_
    refine oIstoreN C at_9 (Ls' := #[.val (.int yr), .val (.int mo), .val (.int md), .val (.int yr), .unset, .unset, .unset, .unset]) rfl (q := 10) rfl ?_
    refine oGoto C at_10 (q := 53) (by decide) (by decide) ?_
    refine oCastLs (Ls' := #[.val (.int yr), .val (.int mo), .val (.int md), .val (.int (fY yr md)), .unset, .unset, .unset, .unset]) (by rw [fY_def, if_pos hc5]) ?_
    exact J53 () trivial
set_option maxRecDepth 65536 in
set_option maxHeartbeats 40000000 in
theorem comes_1 {Post : Tables → Env → Array Value → State → Outcome → State → Prop} (hpost : ∀ tb e args s v u, (limb_1_1.after args s (.returned v) u = true ∧ limb_1_2.after args s (.returned v) u = true ∧ True) → FrameEnd s (.returned v) u (Jvm.fieldLocs frame_1_writes args s ++ Jvm.arrayLocs frame_1_arrays args s ++ Jvm.staticLocs frame_1_statics s) 0 0 → Post tb e args s (.returned v) u) :
    ArmFor flags0 classFile x code maxLocals ret World_1 tables_1 room_1 Calls_1 rest_1 Pre_1 Post := by
  intro l hfl _ _ p e ha hc hk s m args below hf hA hF happ hP
  obtain ⟨hcalls, hrest, hpre⟩ := hP
  obtain ⟨-, -, -, hnamed, -, -, -, hat⟩ := (Spec.applies_iff hf).mp happ
  obtain ⟨hg, hn⟩ := and_e (Cond.before_iff.mp (show (Jvm.Cond.and given_1 narrow_1).before args s = true from hpre))
  obtain ⟨h1, k0⟩ := and_e hg
  obtain ⟨c0, k1⟩ := and_e k0
  obtain ⟨v0, v1, rfl⟩ : ∃ v0 v1 : Value, args = #[v0, v1] := by
    have hs : args.size = 2 := by simpa [Cond.value, given_1] using h1
    obtain ⟨L⟩ := args
    match L, hs with
    | [v0, v1], _ => exact ⟨v0, v1, rfl⟩
  have hw := fun d (hd : d ∈ tables_1) => atoms_spec (ws := Jvm.Cond.code x code maxLocals ret :: tables_1) hat d (List.mem_cons_of_mem _ hd)
  have hfit : Fit s := fun {y c} hc i hi => by
    obtain ⟨ha, rfl⟩ := Array.getElem?_eq_some_iff.mp hc
    have q := List.all_eq_true.mp ((Array.all_eq_true_iff_forall_mem.mp hF) _ (Array.getElem_mem ha)) i (List.mem_range.mpr hi)
    simpa [Array.getElem?_eq_getElem hi] using q
  obtain ⟨i0, e0⟩ := is_v c0
  obtain rfl : v0 = (.int i0) := Option.some.inj e0
  obtain ⟨i1, e1⟩ := is_v k1
  obtain rfl : v1 = (.int i1) := Option.some.inj e1
  obtain ⟨n1, m1⟩ := and_e hn
  obtain ⟨n2, m2⟩ := and_e m1
  obtain ⟨n3, n4⟩ := and_e m2
  obtain ⟨jj, e_jj⟩ := exa_v n1
  have E_jj := exa_at e_jj n1
  have S_jj := Sta.start e_jj (Or.inr ⟨(w5 hw), (w6 hw)⟩)
  obtain ⟨x_jj, y_jj, ex_jj, ey_jj, -, kx_jj⟩ := cmp_v (Or.inl n2)
  obtain rfl : y_jj = .int 0 := Option.some.inj (ey_jj.symm.trans (Term.int_eval _))
  obtain ⟨c_jj, rfl⟩ := kx_jj
  obtain rfl : c_jj = 0 := gotT (Cond.eq_ints ex_jj (Term.int_eval _)) n2
  have F_jj := Fld.start ((fld_at e_jj).symm.trans ex_jj)
  obtain ⟨gg, e_gg⟩ := exa_v n3
  have E_gg := exa_at e_gg n3
  have S_gg := Sta.start e_gg (Or.inr ⟨(w5 hw), (w15 hw)⟩)
  obtain ⟨x_gg, y_gg, ex_gg, ey_gg, -, kx_gg⟩ := cmp_v (Or.inl n4)
  obtain rfl : y_gg = .int 1 := Option.some.inj (ey_gg.symm.trans (Term.int_eval _))
  obtain ⟨c_gg, rfl⟩ := kx_gg
  obtain rfl : c_gg = 1 := gotT (Cond.eq_ints ex_gg (Term.int_eval _)) n4
  have F_gg := Fld.start ((fld_at e_gg).symm.trans ex_gg)
  obtain ⟨n, o, h1, h2, h3, _, L, rfl, ⟨N, rfl⟩, hq⟩ := mt_law l s _ hw s.heap s.heap.size (Nat.le_refl _) i0 i1 jj gg S_jj E_jj F_jj S_gg E_gg F_gg p e ha hc hk s m _ below hf ((Spec.applies_iff_loose hf).mp happ).1 ⟨rfl, State.Warmed39.refl s, rfl⟩ trivial
  refine ⟨n, _, h1, h2, h3, hpost _ _ _ _ _ _ ⟨Cond.after_iff.mpr rfl, Cond.after_iff.mpr (eq_i res_at (Term.int_eval (1)) rfl), trivial⟩ ⟨hq.1, hq.2.1, (hq.2.2.sift fun y hy => Or.inr (N y hy)).mono (by decide) (by decide)⟩⟩
theorem main_1_1 : Claimed_1_1 := comes_1 fun _ _ _ _ _ _ h hF => ⟨h.1, hF⟩
theorem main_1_2 : Claimed_1_2 := comes_1 fun _ _ _ _ _ _ h hF => ⟨h.2.1, hF⟩
end Jvm.Pilot.@@N@@
namespace Jvm.Pilot.@@N@@
open Jvm Jvm.ClassFile Sem Op Lib Jvm.Free Jvm.Stand Jvm.Pilot.@@N@@.Jvm.D
/-! MADE BY PROGRAM (witnessworld.py) out of the Statement's table words and the real class files: 12 classes; the members and pool entries that the words name. The judged class is class 1, her method 2. -/
namespace start1
open Jvm.ClassFile
def u (s : String) : CpInfo := .utf8 (stringToUtf16 s)
/-- a pool by its gaps: so many unusable entries, then the entry; so many at the end -/
def gap : Nat → List CpInfo → List CpInfo
  | 0, r => r
  | n + 1, r => .unusable :: gap n r
def poolList (es : List (Nat × CpInfo)) (last : Nat) : List CpInfo := es.foldr (fun e r => gap e.1 (e.2 :: r)) (gap last [])
def pool (es : List (Nat × CpInfo)) (last : Nat) : Array CpInfo := ⟨poolList es last⟩
def fileOf (pool : Array CpInfo) (this : Nat) (attrs : Array Attribute := #[]) (ms : Array MethodInfo := #[]) (fl : Nat := 33) (sup : Nat := 0) (ifs : Array Nat := #[]) (fds : Array FieldInfo := #[]) : ClassFile where
  minorVersion := 0
  majorVersion := 65
  constantPool := pool
  accessFlags := fl
  thisClass := this
  superClass := sup
  interfaces := ifs
  fields := fds
  methods := ms
  attributes := attrs
def plain (name : String) (sup : Option ClassId) : Class where
  name := name
  kind := .ordinary
  loader := none
  accessFlags := 33
  super := sup
  interfaces := #[]
  cf := none
  fields := #[]
  methods := #[]
  instanceTypes := #[]
  staticTypes := #[]
  resolved := #[]
  callSites := []
  init := .initialized
  statics := none
  mirror := none

def pool0 : Array CpInfo := pool [(5, u "<init>"), (0, u "()V"), (1, .class_ 10), (1, u "java/lang/Object")] 113

def k0m0 : Method := { name := "<init>", desc := "()V", sig := { parameters := [], returnType := none }, accessFlags := 1, code := none }
/-- java/lang/Object -/
def k0 : Class := { plain "java/lang/Object" none with
  accessFlags := 33
  interfaces := #[]
  cf := some (fileOf pool0 8 #[] #[{ accessFlags := 1, nameIndex := 5, descriptorIndex := 6, attributes := #[] }] 33 0 #[] #[])
  fields := #[]
  methods := #[k0m0]
  instanceTypes := #[]
  staticTypes := #[]
  resolved := Array.replicate 124 none
  statics := none }

def pool1 : Array CpInfo := pool [(2, .class_ 4), (1, u "java/lang/Object"), (0, u "<init>"), (0, u "()V"), (0, .methodref 8 9), (0, .class_ 10), (0, .nameAndType 11 12), (0, u "com/example/ferial/ferial/ProlepticCalendarIsLeapYearPinLaw"), (0, u "divides"), (0, u "(II)Z"), (0, .fieldref 14 15), (0, .class_ 16), (0, .nameAndType 17 18), (0, u "com/example/ferial/ferial/ProlepticCalendar"), (0, u "JULIAN"), (0, u "Lcom/example/ferial/ferial/ProlepticCalendar;"), (0, .methodref 14 20), (0, .nameAndType 21 22), (0, u "isLeapYear"), (0, u "(I)Z"), (0, .fieldref 14 24), (0, .nameAndType 25 18), (0, u "GREGORIAN"), (3, u "law")] 2

def k1m0 : Method := { name := "<init>", desc := "()V", sig := { parameters := [], returnType := none }, accessFlags := 2, code := none }
def k1c1 : Code := { maxStack := 2, maxLocals := 2, code := method_2_code, exceptionTable := #[], attributes := #[] }
def k1m1 : Method := { name := "divides", desc := "(II)Z", sig := { parameters := [.int, .int], returnType := some .boolean }, accessFlags := 10, code := some k1c1 }
def k1c2 : Code := { maxStack := 2, maxLocals := 8, code := code, exceptionTable := #[], attributes := #[] }
def k1m2 : Method := { name := "law", desc := "(II)Z", sig := { parameters := [.int, .int], returnType := some .boolean }, accessFlags := 9, code := some k1c2 }
/-- com/example/ferial/ferial/ProlepticCalendarIsLeapYearPinLaw -/
def k1 : Class := { plain "com/example/ferial/ferial/ProlepticCalendarIsLeapYearPinLaw" (some 0) with
  accessFlags := 49
  interfaces := #[]
  cf := some (fileOf pool1 8 #[] #[{ accessFlags := 2, nameIndex := 5, descriptorIndex := 6, attributes := #[] }, { accessFlags := 10, nameIndex := 11, descriptorIndex := 12, attributes := #[] }, { accessFlags := 9, nameIndex := 29, descriptorIndex := 12, attributes := #[] }] 49 2 #[] #[])
  fields := #[]
  methods := #[k1m0, k1m1, k1m2]
  instanceTypes := #[]
  staticTypes := #[]
  resolved := Array.replicate 32 none
  statics := none }

def pool2 : Array CpInfo := pool [(1, .class_ 2), (0, u "java/lang/constant/Constable"), (0, .class_ 4), (0, u "java/lang/Object")] 6

/-- java/lang/constant/Constable -/
def k2 : Class := { plain "java/lang/constant/Constable" (some 0) with
  accessFlags := 1537
  interfaces := #[]
  cf := some (fileOf pool2 1 #[] #[] 1537 3 #[] #[])
  fields := #[]
  methods := #[]
  instanceTypes := #[]
  staticTypes := #[]
  resolved := Array.replicate 11 none
  statics := none }

def pool3 : Array CpInfo := pool [(1, .class_ 2), (0, u "java/lang/Comparable"), (0, .class_ 4), (0, u "java/lang/Object")] 7

/-- java/lang/Comparable -/
def k3 : Class := { plain "java/lang/Comparable" (some 0) with
  accessFlags := 1537
  interfaces := #[]
  cf := some (fileOf pool3 1 #[] #[] 1537 3 #[] #[])
  fields := #[]
  methods := #[]
  instanceTypes := #[]
  staticTypes := #[]
  resolved := Array.replicate 12 none
  statics := none }

def pool4 : Array CpInfo := pool [(1, .class_ 2), (0, u "java/io/Serializable"), (0, .class_ 4), (0, u "java/lang/Object")] 2

/-- java/io/Serializable -/
def k4 : Class := { plain "java/io/Serializable" (some 0) with
  accessFlags := 1537
  interfaces := #[]
  cf := some (fileOf pool4 1 #[] #[] 1537 3 #[] #[])
  fields := #[]
  methods := #[]
  instanceTypes := #[]
  staticTypes := #[]
  resolved := Array.replicate 7 none
  statics := none }

def pool5 : Array CpInfo := pool [(2, .class_ 4), (1, u "java/lang/Enum"), (0, u "name"), (0, u "Ljava/lang/String;"), (2, u "ordinal"), (0, u "I"), (1, .class_ 14), (1, u "java/lang/Object"), (4, u "hash"), (86, .class_ 108), (1, u "java/lang/Enum$EnumDesc"), (2, .class_ 112), (0, u "java/lang/constant/Constable"), (0, .class_ 114), (0, u "java/lang/Comparable"), (0, .class_ 116), (0, u "java/io/Serializable")] 87

/-- java/lang/Enum -/
def k5 : Class := { plain "java/lang/Enum" (some 0) with
  accessFlags := 1057
  interfaces := #[2, 3, 4]
  cf := some (fileOf pool5 2 #[.nestMembers #[106]] #[] 1057 12 #[111, 113, 115] #[{ accessFlags := 18, nameIndex := 5, descriptorIndex := 6, attributes := #[] }, { accessFlags := 18, nameIndex := 9, descriptorIndex := 10, attributes := #[] }, { accessFlags := 2, nameIndex := 19, descriptorIndex := 10, attributes := #[] }])
  fields := #[{ name := "name", type := (.object "java/lang/String"), accessFlags := 18, slot := 0, constantValue := 0 }, { name := "ordinal", type := .int, accessFlags := 18, slot := 1, constantValue := 0 }, { name := "hash", type := .int, accessFlags := 2, slot := 2, constantValue := 0 }]
  methods := #[]
  instanceTypes := #[(.object "java/lang/String"), .int, .int]
  staticTypes := #[]
  resolved := Array.replicate 204 none
  statics := none }

def pool6 : Array CpInfo := pool [(1, .class_ 2), (0, u "com/example/ferial/ferial/ProlepticCalendar"), (2, u "JULIAN"), (0, u "Lcom/example/ferial/ferial/ProlepticCalendar;"), (2, u "GREGORIAN"), (2, u "$VALUES"), (0, u "[Lcom/example/ferial/ferial/ProlepticCalendar;"), (6, .class_ 22), (1, u "java/lang/Enum"), (8, u "name"), (0, u "Ljava/lang/String;"), (0, .fieldref 1 34), (0, .nameAndType 35 36), (0, u "centuryLeapsBy400"), (0, u "Z"), (11, u "dayZero"), (0, u "J"), (2, u "isLeapYear"), (0, u "(I)Z")] 104

def k6c0 : Code := { maxStack := 2, maxLocals := 2, code := prog_20_method_4_code, exceptionTable := #[], attributes := #[] }
def k6m0 : Method := { name := "isLeapYear", desc := "(I)Z", sig := { parameters := [.int], returnType := some .boolean }, accessFlags := 0, code := some k6c0 }
/-- com/example/ferial/ferial/ProlepticCalendar -/
def k6 : Class := { plain "com/example/ferial/ferial/ProlepticCalendar" (some 5) with
  accessFlags := 16432
  interfaces := #[]
  cf := some (fileOf pool6 1 #[] #[{ accessFlags := 0, nameIndex := 52, descriptorIndex := 53, attributes := #[] }] 16432 20 #[] #[{ accessFlags := 16409, nameIndex := 5, descriptorIndex := 6, attributes := #[] }, { accessFlags := 16409, nameIndex := 9, descriptorIndex := 6, attributes := #[] }, { accessFlags := 18, nameIndex := 31, descriptorIndex := 32, attributes := #[] }, { accessFlags := 18, nameIndex := 35, descriptorIndex := 36, attributes := #[] }, { accessFlags := 18, nameIndex := 48, descriptorIndex := 49, attributes := #[] }, { accessFlags := 4122, nameIndex := 12, descriptorIndex := 13, attributes := #[] }])
  fields := #[{ name := "JULIAN", type := (.object "com/example/ferial/ferial/ProlepticCalendar"), accessFlags := 16409, slot := 0, constantValue := 0 }, { name := "GREGORIAN", type := (.object "com/example/ferial/ferial/ProlepticCalendar"), accessFlags := 16409, slot := 1, constantValue := 0 }, { name := "name", type := (.object "java/lang/String"), accessFlags := 18, slot := 3, constantValue := 0 }, { name := "centuryLeapsBy400", type := .boolean, accessFlags := 18, slot := 4, constantValue := 0 }, { name := "dayZero", type := .long, accessFlags := 18, slot := 5, constantValue := 0 }, { name := "$VALUES", type := (.array (.object "com/example/ferial/ferial/ProlepticCalendar")), accessFlags := 4122, slot := 2, constantValue := 0 }]
  methods := #[k6m0]
  instanceTypes := #[(.object "java/lang/String"), .int, .int, (.object "java/lang/String"), .boolean, .long]
  staticTypes := #[(.object "com/example/ferial/ferial/ProlepticCalendar"), (.object "com/example/ferial/ferial/ProlepticCalendar"), (.array (.object "com/example/ferial/ferial/ProlepticCalendar"))]
  resolved := Array.replicate 158 none
  statics := some 0 }

def pool7 : Array CpInfo := pool [(1, u "java/lang/Cloneable"), (0, .class_ 1), (0, u "java/lang/Object"), (0, .class_ 3)] 3

/-- java/lang/Cloneable -/
def k7 : Class := { plain "java/lang/Cloneable" (some 0) with
  accessFlags := 1537
  interfaces := #[]
  cf := some (fileOf pool7 2 #[] #[] 1537 4 #[] #[])
  fields := #[]
  methods := #[]
  instanceTypes := #[]
  staticTypes := #[]
  resolved := Array.replicate 8 none
  statics := none }

/-- the primitive byte -/
def k8 : Class := { plain "byte" none with kind := .primitive 'B', accessFlags := 0x411 }
/-- [B -/
def k9 : Class := { plain "[B" (some 0) with kind := .array 8 .byte, interfaces := #[7, 4], accessFlags := 1041 }

/-- the primitive int -/
def k10 : Class := { plain "int" none with kind := .primitive 'I', accessFlags := 0x411 }
/-- [I -/
def k11 : Class := { plain "[I" (some 0) with kind := .array 10 .int, interfaces := #[7, 4], accessFlags := 1041 }

def heap : Heap := #[{ cls := 6, slots := #[.ref 1, .ref 2, .null], vm := .statics 6 },
  { cls := 6, slots := #[.null, .int 0, .int 0, .null, .int 0, .long 0], vm := .none },
  { cls := 6, slots := #[.null, .int 0, .int 0, .null, .int 1, .long 0], vm := .none }]
def classes : Array Class := #[k0, k1, k2, k3, k4, k5, k6, k7, k8, k9, k10, k11]
def interned : List (Array UInt16 × Addr) := []
def slotsUsed : Nat := 15
def theMethod : MethodId := ⟨1, 2⟩
def args0 : Array Value := #[.int 5, .int 7]
def aboutOver (below : List Frame) : State where
  vm := { classes := classes, interned := interned.toArray }
  heap := heap
  slotsUsed := slotsUsed
  threads := #[{ frames := .invoking theMethod args0 :: below }]
def below0 : List Frame := [.native { method := ⟨0, 0⟩, args := #[] }]
def about1 : State := aboutOver below0
def p0 : Program := .bare "" "" ""
def e0 : Env := launch0.env 0 0 0
theorem w_frames : about1.frames = Frame.invoking theMethod args0 :: below0 := rfl
set_option maxRecDepth 65536 in
theorem w_args : argsFit about1.vm theMethod args0 = true := by decide +kernel
set_option maxRecDepth 65536 in
theorem w_heap : heapFits about1 = true := by decide +kernel
set_option maxRecDepth 65536 in
theorem w_runnable : about1.curStatus? = some .runnable := by decide +kernel
set_option maxRecDepth 65536 in
theorem w_alone : about1.alone = true := by decide +kernel
set_option maxRecDepth 65536 in
theorem w_named : about1.methodNamed? x = some theMethod := by decide +kernel
set_option maxRecDepth 65536 in
theorem w_hears : about1.hears theMethod below0 = true := by decide +kernel
set_option maxRecDepth 65536 in
theorem w_ripe : about1.ripe theMethod args0 below0 = true := by decide +kernel
theorem w_running : about1.status = .running := rfl
set_option maxRecDepth 65536 in
theorem w_room : about1.hasRoom e0.platform room_1 = true :=
  launch0.hasRoom_least _ room_1 (by decide +kernel) (by decide +kernel) (by decide +kernel) (by decide +kernel) (by decide +kernel) (by decide +kernel)
theorem allAtoms_all (ts : List Jvm.Cond) (a : Array Jvm.Value) (st : Jvm.State) : (allAtoms ts).before a st = ts.all (fun c => c.before a st) := by
  induction ts with
  | nil => rfl
  | cons c t ih =>
    show (Jvm.Cond.and c (allAtoms t)).before a st = _
    rw [Jvm.Cond.before_and, ih, List.all_cons]
def words1 : List Jvm.Cond := Jvm.Cond.code x code maxLocals ret :: tables_1
/-- a 'code' word, met by the world's own term for the bytes: nothing is compared byte by byte -/
theorem code_word {y : MethodName} {bytes : ByteArray} {mx : Nat} {rt : Option FieldType} {a : Array Value} {s : State} {m : MethodId} {meth : Method} {c : Code} (h1 : s.methodNamed? y = some m) (h2 : s.vm.method? m = some meth) (h3 : meth.code = some c) (h4 : c.code = bytes)
    (h5 : (c.maxLocals == mx && c.exceptionTable.isEmpty && decide (c.maxStack ≤ mostOperands) && decide (meth.sig.returnType = rt) && !meth.locks && decide (parseMethodDescriptor y.desc = some meth.sig)) = true) : (Jvm.Cond.code y bytes mx rt).before a s = true := by
  simp only [Bool.and_eq_true, beq_iff_eq, Bool.not_eq_true', decide_eq_true_eq] at h5
  obtain ⟨⟨⟨⟨⟨g1, g2⟩, g3⟩, g4⟩, g5⟩, g6⟩ := h5
  simp [Cond.before, Cond.holds, Cond.value, h1, h2, h3, h4, g1, g2, g3, g4, g5, g6]
def isCode : Jvm.Cond → Bool
  | .code _ _ _ _ => true
  | _ => false
theorem all_split {L : List Jvm.Cond} {P : Jvm.Cond → Bool} (h1 : L.all (fun c => isCode c || P c) = true) (h2 : ∀ c ∈ L.filter isCode, P c = true) : L.all P = true := by
  refine List.all_eq_true.mpr fun c hc => ?_
  have h := List.all_eq_true.mp h1 c hc
  rcases Bool.eq_false_or_eq_true (isCode c) with hi | hi
  · exact h2 c (List.mem_filter.mpr ⟨hc, hi⟩)
  · simpa [hi] using h
set_option maxRecDepth 65536 in
theorem w_c0 : (Jvm.Cond.code x code maxLocals ret).before args0 about1 = true := code_word (m := ⟨1, 2⟩) (meth := k1m2) (c := k1c2) (by decide +kernel) rfl rfl rfl (by decide +kernel)
set_option maxRecDepth 65536 in
theorem w_c1 : (Jvm.Cond.code ({ cls := "com/example/ferial/ferial/ProlepticCalendarIsLeapYearPinLaw", name := "divides", desc := "(II)Z" } : Jvm.MethodName) method_2_code (2 : Nat) (Option.some Jvm.ClassFile.FieldType.boolean)).before args0 about1 = true := code_word (m := ⟨1, 1⟩) (meth := k1m1) (c := k1c1) (by decide +kernel) rfl rfl rfl (by decide +kernel)
set_option maxRecDepth 65536 in
theorem w_c2 : (Jvm.Cond.code ({ cls := "com/example/ferial/ferial/ProlepticCalendar", name := "isLeapYear", desc := "(I)Z" } : Jvm.MethodName) prog_20_method_4_code (2 : Nat) (Option.some Jvm.ClassFile.FieldType.boolean)).before args0 about1 = true := code_word (m := ⟨6, 0⟩) (meth := k6m0) (c := k6c0) (by decide +kernel) rfl rfl rfl (by decide +kernel)
def codes1 : List Jvm.Cond := [Jvm.Cond.code x code maxLocals ret, Jvm.Cond.code ({ cls := "com/example/ferial/ferial/ProlepticCalendarIsLeapYearPinLaw", name := "divides", desc := "(II)Z" } : Jvm.MethodName) method_2_code (2 : Nat) (Option.some Jvm.ClassFile.FieldType.boolean), Jvm.Cond.code ({ cls := "com/example/ferial/ferial/ProlepticCalendar", name := "isLeapYear", desc := "(I)Z" } : Jvm.MethodName) prog_20_method_4_code (2 : Nat) (Option.some Jvm.ClassFile.FieldType.boolean)]
set_option maxRecDepth 65536 in
theorem codes_eq : words1.filter isCode = codes1 := rfl
theorem w_codes : ∀ c ∈ words1.filter isCode, c.before args0 about1 = true := by
  rw [codes_eq]
  intro c hc
  simp only [codes1, List.mem_cons, List.not_mem_nil, or_false] at hc
  rcases hc with rfl | rfl | rfl
  · exact w_c0
  · exact w_c1
  · exact w_c2
set_option maxRecDepth 65536 in
theorem w_t1 : words1.all (fun c => isCode c || c.before args0 about1) = true := by decide +kernel
theorem w_tables : (allAtoms (Jvm.Cond.code x code maxLocals ret :: tables_1)).before args0 about1 = true := by
  rw [allAtoms_all]
  show words1.all (fun c => c.before args0 about1) = true
  refine all_split ?_ w_codes
  rw [w_t1]
set_option maxRecDepth 65536 in
theorem w_case : (Jvm.Cond.and given_1 narrow_1).before args0 about1 = true := by decide +kernel
theorem w_applies : (headSpec (Jvm.Cond.code x code maxLocals ret :: tables_1) room_1).applies x e0.platform about1 = true :=
  (Spec.applies_iff w_frames).mpr ⟨w_running, w_runnable, w_alone, w_named, w_hears, w_ripe, w_room, w_tables⟩
theorem atStart : AtStart classFile x code maxLocals ret World_1 tables_1 room_1 Calls_1 rest_1 Pre_1 launch0 p0 e0 about1 theMethod args0 below0 :=
  ⟨lists_1, trivial, launch0.admits_env _ _ _, launch0.least_env, fairChoices_fair.cas, fairChoices_fair.clock, w_frames, w_args, w_heap, w_applies, trivial, trivial, w_case⟩
end start1
theorem witness_1 : WitnessClaimed_1 := ⟨start1.p0, start1.e0, start1.about1, start1.theMethod, start1.args0, start1.below0, start1.atStart⟩
end Jvm.Pilot.@@N@@
