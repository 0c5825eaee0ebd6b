import JvmDerived
import JvmDerived.Pilot.@@N@@Statement
import JvmDerived.Pilot.@@N@@Code
set_option linter.unusedVariables false
set_option linter.unusedSimpArgs false
namespace Jvm.RoadKit
open Sem ClassFile Op Lib Jvm.Stand Jvm.Free Jvm.LawKit
section New
variable {p : Program} {l : Launch} {e : Env} {R : Room} {s : State} {m : MethodId} {args : Array Value} {below : List Frame} {meth : Method} {c : Code} {T : State} {locs : List Loc} {cells slots : Nat}
end New
end Jvm.RoadKit
namespace Jvm.Pilot.@@N@@
open Jvm Jvm.ClassFile Sem Op Lib Jvm.Free Jvm.Stand Jvm.LawKit Jvm.RoadKit Bundle Jvm.Pilot.@@N@@.Jvm.D
section Own
variable {p : Program} {l : Launch} {e : Env} {R : Room} {s : State} {m : MethodId} {args : Array Value} {below : List Frame} {meth : Method} {c : Code} {bs : ByteArray} {ml : Nat} {own nm : String} {rt : Option FieldType} {Z : State} {F : State → Outcome → Prop} {n0 : Nat} {h h' : Heap} {cells slots : Nat} {pc q : Nat} {Ls Ls' : Array Slot} {st : List Value} {a0 : Array Value}
def oCx (p : Program) (s : State) (m : MethodId) (meth : Method) (c : Code) (bs : ByteArray) (ml : Nat) (own nm : String) (rt : Option FieldType) (Z : State) : Prop :=
  p.tables.exec = Jvm.exec ∧ c.code = bs ∧ c.maxLocals = ml ∧ s.vm.findClass own = some m.cls ∧ Z.Warmed39 s.vm ∧ meth.name = nm ∧ meth.sig.returnType = rt ∧ meth.locks = false
def oW (p : Program) (l : Launch) (e : Env) (R : Room) (s : State) (m : MethodId) (args : Array Value) (below : List Frame) (meth : Method) (c : Code) (F : State → Outcome → Prop) (n0 : Nat) (h : Heap) (cells slots : Nat) (f : JFrame) : Prop :=
  ∀ (T : State) (locs : List Loc), Stand p l e R s m args below meth c T locs cells slots → T.heap = h → Fr n0 locs → ∃ s₂ o, Steps p.tables e below (T.setTop f) s₂ ∧ s₂.status = .running ∧ Ended s₂ below o ∧ F s₂ o
def oFin (s : State) (n0 k n : Nat) (Q : Option Value → Heap → Prop) (s₂ : State) (o : Outcome) : Prop := ∃ v L, o = .returned v ∧ (Fr n0 L ∧ Q v s₂.heap) ∧ FrameEnd s o s₂ L k n
def oMet (l : Launch) (Z : State) (y : MethodName) (bs : ByteArray) (ml : Nat) (rt : Option FieldType) (ws : List Jvm.Cond) (R : Room) (k n n0 : Nat) (as' : Array Value) (h0 : Heap) (Q : Option Value → Heap → Prop) : Prop :=
  MetFree l y (head1 (Jvm.Cond.code y bs ml rt :: ws) R) (fun a U => a = as' ∧ Z.Warmed39 U.vm ∧ U.heap = h0) (fun _ _ _ _ _ => True) (fun _ U o U' => ∃ v L, o = .returned v ∧ (Fr n0 L ∧ Q v U'.heap) ∧ FrameEnd U o U' L k n)
theorem oMet.intro {y : MethodName} {ws : List Jvm.Cond} {k n : Nat} {as' : Array Value} {h0 : Heap} {Q : Option Value → Heap → Prop} (pn : plainFor y = true) (ef : ∀ m, entryFrame m as' ml = mkF m 0 Ls [])
    (body : ∀ (p : Program) (e : Env) (s : State) (m : MethodId) (below : List Frame) (meth : Method) (c : Code), oCx p s m meth c bs ml y.cls y.name rt Z → oW p l e R s m as' below meth c (oFin s n0 k n Q) n0 h0 0 0 (mkF m 0 Ls [])) :
    oMet l Z y bs ml rt ws R k n n0 as' h0 Q := by
  refine MetFree.of_bodySF pn hisR ?_
  intro p e s m args below meth c s₁ Bd hml0 hP hK
  obtain ⟨rfl, hZ, hh⟩ := hP
  have e0 : s₁.heap = h0 := by rw [← hh, Bd.state]; rfl
  have C : oCx p s m meth c bs ml y.cls y.name rt Z := ⟨Bd.exec, Bd.bytes, hml0, findClass_of_methodNamed Bd.named, hZ, (name_of_methodNamed Bd.named Bd.method).1, Bd.returns, Bd.notSynchronized⟩
  obtain ⟨s₂, o, h1, h2, h3, h4⟩ := body p e s m below meth c C s₁ [] (Stand.of_body Bd) e0 (Fr.nil n0)
  exact ⟨s₂, o, castTop (ef m) h1, h2, h3, h4⟩
theorem oMet.mono {y : MethodName} {ws : List Jvm.Cond} {k n : Nat} {as' : Array Value} {h0 : Heap} {Q Q' : Option Value → Heap → Prop} (M : oMet l Z y bs ml rt ws R k n n0 as' h0 Q) (hq : ∀ v h, Q v h → Q' v h) : oMet l Z y bs ml rt ws R k n n0 as' h0 Q' := by
  intro p e ha hc hk s m args below hf happ hP hK
  obtain ⟨n', o, h1, h2, h3, v, L, h4, ⟨h5, h6⟩, h7⟩ := M p e ha hc hk s m args below hf happ hP hK
  exact ⟨n', o, h1, h2, h3, v, L, h4, ⟨h5, hq _ _ h6⟩, h7⟩
theorem oW.of {f f' : JFrame} (k : ∀ (T : State) (locs : List Loc), Stand p l e R s m args below meth c T locs cells slots → ∀ t, Steps p.tables e below (T.setTop f') t → Steps p.tables e below (T.setTop f) t)
    (g : oW p l e R s m args below meth c F n0 h cells slots f') : oW p l e R s m args below meth c F n0 h cells slots f := fun T locs X eT N => by
  obtain ⟨s₂, o, h1, h2⟩ := g T locs X eT N
  exact ⟨s₂, o, k T locs X _ h1, h2⟩
theorem oIloadN (C : oCx p s m meth c bs ml own nm rt Z) {k : Fin 4} {v : Int32} (hd : decode bs pc = .ok (.iload_n k, 1)) (hl : Ls[k.val]? = some (.val (.int v))) (hq : pc + 1 = q) (g : oW p l e R s m args below meth c F n0 h cells slots (mkF m q Ls (.int v :: st))) : oW p l e R s m args below meth c F n0 h cells slots (mkF m pc Ls (st)) := by
  subst hq; exact oW.of (fun T locs X t k => XS.iloadN X.here C.1 rfl (hb C.2.1 hd) hl k) g
theorem oIstoreN (C : oCx p s m meth c bs ml own nm rt Z) {k : Fin 4} {v : Int32} (hd : decode bs pc = .ok (.istore_n k, 1)) (hl : storeLocals Ls k.val (.int v) = some Ls') (hq : pc + 1 = q) (g : oW p l e R s m args below meth c F n0 h cells slots (mkF m q Ls' (st))) : oW p l e R s m args below meth c F n0 h cells slots (mkF m pc Ls (.int v :: st)) := by
  subst hq; exact oW.of (fun T locs X t k => XS.istoreN X.here C.1 rfl (hb C.2.1 hd) rfl hl k) g
theorem oIconst (C : oCx p s m meth c bs ml own nm rt Z) {i : Int} {z : Int32} (hd : decode bs pc = .ok (.iconst i, 1)) (hz : Int32.ofInt i = z) (hq : pc + 1 = q) (g : oW p l e R s m args below meth c F n0 h cells slots (mkF m q Ls (.int z :: st))) : oW p l e R s m args below meth c F n0 h cells slots (mkF m pc Ls (st)) := by
  subst hq; exact oW.of (fun T locs X t k => XS.iconst X.here C.1 rfl (hb C.2.1 hd) (hz ▸ k)) g
theorem oBipush (C : oCx p s m meth c bs ml own nm rt Z) {i : Int} {z : Int32} (hd : decode bs pc = .ok (.bipush i, 2)) (hz : (Int8.ofInt i).toInt32 = z) (hq : pc + 2 = q) (g : oW p l e R s m args below meth c F n0 h cells slots (mkF m q Ls (.int z :: st))) : oW p l e R s m args below meth c F n0 h cells slots (mkF m pc Ls (st)) := by
  subst hq; exact oW.of (fun T locs X t k => XS.bipush X.here C.1 rfl (hb C.2.1 hd) (hz ▸ k)) g
theorem oSipush (C : oCx p s m meth c bs ml own nm rt Z) {i : Int} {z : Int32} (hd : decode bs pc = .ok (.sipush i, 3)) (hz : (Int16.ofInt i).toInt32 = z) (hq : pc + 3 = q) (g : oW p l e R s m args below meth c F n0 h cells slots (mkF m q Ls (.int z :: st))) : oW p l e R s m args below meth c F n0 h cells slots (mkF m pc Ls (st)) := by
  subst hq; exact oW.of (fun T locs X t k => XS.sipush X.here C.1 rfl (hb C.2.1 hd) (hz ▸ k)) g
theorem oIor (C : oCx p s m meth c bs ml own nm rt Z) {x y : Int32} (hd : decode bs pc = .ok (.ior, 1)) (hq : pc + 1 = q) (g : oW p l e R s m args below meth c F n0 h cells slots (mkF m q Ls (.int (x ||| y) :: st))) : oW p l e R s m args below meth c F n0 h cells slots (mkF m pc Ls (.int y :: .int x :: st)) := by
  subst hq; exact oW.of (fun T locs X t k => XS.ior X.here C.1 rfl (hb C.2.1 hd) rfl k) g
theorem oI2C (C : oCx p s m meth c bs ml own nm rt Z) {x : Int32} (hd : decode bs pc = .ok (.i2c, 1)) (hq : pc + 1 = q) (g : oW p l e R s m args below meth c F n0 h cells slots (mkF m q Ls (.int (x.toUInt32.toUInt16.toUInt32.toInt32) :: st))) : oW p l e R s m args below meth c F n0 h cells slots (mkF m pc Ls (.int x :: st)) := by
  subst hq; exact oW.of (fun T locs X t k => XS.i2c X.here C.1 rfl (hb C.2.1 hd) rfl k) g
theorem oGoto (C : oCx p s m meth c bs ml own nm rt Z) {o : Int} (hd : decode bs pc = .ok (.goto o, 3)) (ho : 0 ≤ (pc : Int) + o) (hp : ((pc : Int) + o).toNat = q) (g : oW p l e R s m args below meth c F n0 h cells slots (mkF m q Ls (st))) : oW p l e R s m args below meth c F n0 h cells slots (mkF m pc Ls (st)) :=
  oW.of (fun T locs X t k => XS.goto X.here C.1 rfl (pc0 := pc) rfl (hb C.2.1 hd) ho hp k) g
theorem oIcmp_ne (C : oCx p s m meth c bs ml own nm rt Z) {x y : Int32} {o : Int} {r : Nat} (hd : decode bs pc = .ok (.if_icmp .ne o, 3)) (ho : 0 ≤ (pc : Int) + o) (hp : ((pc : Int) + o).toNat = q) (hr : pc + 3 = r) (gy : ¬ x = y → oW p l e R s m args below meth c F n0 h cells slots (mkF m q Ls (st))) (gn : x = y → oW p l e R s m args below meth c F n0 h cells slots (mkF m r Ls (st))) : oW p l e R s m args below meth c F n0 h cells slots (mkF m pc Ls (.int y :: .int x :: st)) := by
  subst hr
  by_cases hc : x = y
  · exact oW.of (fun T locs X t k => XS.icmpNo X.here C.1 rfl (hb C.2.1 hd) rfl (teq hc).2 k) (gn hc)
  · exact oW.of (fun T locs X t k => XS.icmpYes X.here C.1 rfl (pc0 := pc) rfl (hb C.2.1 hd) rfl (feq hc).2 ho hp k) (gy hc)
theorem oIcmp_lt (C : oCx p s m meth c bs ml own nm rt Z) {x y : Int32} {o : Int} {r : Nat} (hd : decode bs pc = .ok (.if_icmp .lt o, 3)) (ho : 0 ≤ (pc : Int) + o) (hp : ((pc : Int) + o).toNat = q) (hr : pc + 3 = r) (gy : x < y → oW p l e R s m args below meth c F n0 h cells slots (mkF m q Ls (st))) (gn : ¬ x < y → oW p l e R s m args below meth c F n0 h cells slots (mkF m r Ls (st))) : oW p l e R s m args below meth c F n0 h cells slots (mkF m pc Ls (.int y :: .int x :: st)) := by
  subst hr
  by_cases hc : x < y
  · exact oW.of (fun T locs X t k => XS.icmpYes X.here C.1 rfl (pc0 := pc) rfl (hb C.2.1 hd) rfl (tlt hc).1 ho hp k) (gy hc)
  · exact oW.of (fun T locs X t k => XS.icmpNo X.here C.1 rfl (hb C.2.1 hd) rfl (flt hc).1 k) (gn hc)
theorem oIcmp_gt (C : oCx p s m meth c bs ml own nm rt Z) {x y : Int32} {o : Int} {r : Nat} (hd : decode bs pc = .ok (.if_icmp .gt o, 3)) (ho : 0 ≤ (pc : Int) + o) (hp : ((pc : Int) + o).toNat = q) (hr : pc + 3 = r) (gy : y < x → oW p l e R s m args below meth c F n0 h cells slots (mkF m q Ls (st))) (gn : ¬ y < x → oW p l e R s m args below meth c F n0 h cells slots (mkF m r Ls (st))) : oW p l e R s m args below meth c F n0 h cells slots (mkF m pc Ls (.int y :: .int x :: st)) := by
  subst hr
  by_cases hc : y < x
  · exact oW.of (fun T locs X t k => XS.icmpYes X.here C.1 rfl (pc0 := pc) rfl (hb C.2.1 hd) rfl (tlt hc).2.2.1 ho hp k) (gy hc)
  · exact oW.of (fun T locs X t k => XS.icmpNo X.here C.1 rfl (hb C.2.1 hd) rfl (flt hc).2.2.1 k) (gn hc)
theorem oIcmp_le (C : oCx p s m meth c bs ml own nm rt Z) {x y : Int32} {o : Int} {r : Nat} (hd : decode bs pc = .ok (.if_icmp .le o, 3)) (ho : 0 ≤ (pc : Int) + o) (hp : ((pc : Int) + o).toNat = q) (hr : pc + 3 = r) (gy : ¬ y < x → oW p l e R s m args below meth c F n0 h cells slots (mkF m q Ls (st))) (gn : y < x → oW p l e R s m args below meth c F n0 h cells slots (mkF m r Ls (st))) : oW p l e R s m args below meth c F n0 h cells slots (mkF m pc Ls (.int y :: .int x :: st)) := by
  subst hr
  by_cases hc : y < x
  · exact oW.of (fun T locs X t k => XS.icmpNo X.here C.1 rfl (hb C.2.1 hd) rfl (tlt hc).2.2.2 k) (gn hc)
  · exact oW.of (fun T locs X t k => XS.icmpYes X.here C.1 rfl (pc0 := pc) rfl (hb C.2.1 hd) rfl (flt hc).2.2.2 ho hp k) (gy hc)
section Rets
variable {k n : Nat} {Q : Option Value → Heap → Prop} {rt' : FieldType}
theorem oRetN (C : oCx p s m meth c bs ml own nm (some rt') Z) (ht : rt' = .boolean ∨ rt' = .byte ∨ rt' = .char ∨ rt' = .short) {z z' : Int32} (hd : decode bs pc = .ok (.ireturn, 1)) (hz : nar rt' z = z') (hk : cells ≤ k) (hn : slots ≤ n) (hQ : Q (some (.int z')) h) :
    oW p l e R s m args below meth c (oFin s n0 k n Q) n0 h cells slots (mkF m pc Ls (.int z :: st)) := fun T locs X eT N => by
  subst hz eT
  obtain ⟨fs, hr, hrun, hended, hW, hsame⟩ := X.leave (v := some (.int (nar rt' z))) (fun hh => by rw [C.2.2.2.2.2.2.1] at hh; cases hh) C.2.2.2.2.2.2.2
  exact ⟨_, _, retN X C.1 C.2.2.2.2.2.2.1 ht (hb C.2.1 hd) hr, hrun, hended, _, _, rfl, ⟨N, hQ⟩, ⟨_, rfl⟩, hW, hsame.mono hk hn⟩
theorem oRetZ (C : oCx p s m meth c bs ml own nm (some .boolean) Z) {z z' : Int32} (hd : decode bs pc = .ok (.ireturn, 1)) (hz : nar .boolean z = z') (hk : cells ≤ k) (hn : slots ≤ n) (hQ : Q (some (.int z')) h) :
    oW p l e R s m args below meth c (oFin s n0 k n Q) n0 h cells slots (mkF m pc Ls (.int z :: st)) := oRetN C (Or.inl rfl) hd hz hk hn hQ
end Rets
section Calls
variable {i : Nat} {y : MethodName} {bs' : ByteArray} {ml' : Nat} {rt' : Option FieldType} {R' : Room} {Q : Option Value → Heap → Prop} {argsL rest : List Value} {ps : List FieldType} {r' : Option FieldType} {W : Nat} {a : Addr}
theorem oCallS (C : oCx p s m meth c bs ml own nm rt Z) (w1 : (Jvm.Cond.methodLink own i y).before a0 Z = true) (w2 : (Jvm.Cond.static y).before a0 Z = true) (w3 : (Jvm.Cond.initialized y.cls).before a0 Z = true) (w4 : (Jvm.Cond.code y bs' ml' rt').before a0 Z = true) (hd : decode bs pc = .ok (.invokestatic i, 3))
    (hy : y.cls ≠ "java/lang/invoke/MethodHandle" ∧ y.cls ≠ "java/lang/invoke/VarHandle") (hpd : parseMethodDescriptor y.desc = some ⟨ps, r'⟩) (hlen : argsL.length = ps.length) (hsz : Ls.size = ml) (hst : argsL.reverse ++ rest = st) (hW : (rest.map fun v => v.category).sum = W) (hq : pc + 3 = q)
    (hf : R'.frames + 1 ≤ R.frames) (hl : W + (ml' + 11) + R'.locals ≤ R.locals) (hc : cells + R'.cells ≤ R.cells) (hs : slots + R'.slots ≤ R.slots)
    (M : oMet l Z y bs' ml' rt' [] R' R'.cells R'.slots n0 argsL.toArray h Q)
    (g : ∀ v h', Q v h' → oW p l e R s m args below meth c F n0 h' (cells + R'.cells) (slots + R'.slots) (mkF m q Ls (v.toList ++ rest))) :
    oW p l e R s m args below meth c F n0 h cells slots (mkF m pc Ls st) := fun T locs X eT N => by
  subst hq hst
  have hZ := C.2.2.2.2.1
  obtain ⟨v, _, ⟨T', L', k', n'⟩, -, X', ⟨Lc, ⟨hN, hQ⟩, l', y', z'⟩, st'⟩ := Jvm.LawKit.callS X C.1 (y := y) C.2.2.2.1 (mvT hZ w1) (mvT hZ w2) (mvT hZ w3) (mvT hZ w4) hy (backOf (W := W) (Q := fun v h L => Fr n0 L ∧ Q v h) M hZ w4 w3 hf hl) (g := mkF m pc Ls (argsL.reverse ++ rest)) rfl (hsz.trans C.2.2.1.symm) (argsL := argsL) (rest := rest) (lenOf hpd hlen) rfl (by show 2 * 0 + _ ≤ _; omega) (hb C.2.1 hd) (fun _ _ => ⟨rfl, eT, hc, hs⟩)
  dsimp only [Pt.U, Pt.locs, Pt.cells, Pt.slots] at X' l' y' z' st' hQ
  subst l' y' z'
  obtain ⟨s₂, o, h1, h2⟩ := g v T'.heap hQ T' _ X' rfl (Fr.app N hN)
  exact ⟨s₂, o, st' _ h1, h2⟩
def oMetH (l : Launch) (Z : State) (y : MethodName) (bs : ByteArray) (ml : Nat) (rt : Option FieldType) (tr : List (Nat × Nat × Nat × Nat)) (R : Room) (k n n0 : Nat) (as' : Array Value) (h0 : Heap) (Q : Option Value → Heap → Prop) : Prop :=
  MetFree l y (head1 [Jvm.Cond.codeWith y bs ml rt tr] R) (fun a U => a = as' ∧ Z.Warmed39 U.vm ∧ U.heap = h0) (fun _ _ _ _ _ => True) (fun _ U o U' => ∃ v L, o = .returned v ∧ (Fr n0 L ∧ Q v U'.heap) ∧ FrameEnd U o U' L k n)
theorem oMetH.intro {tr : List (Nat × Nat × Nat × Nat)} {k n : Nat} {as' : Array Value} {h0 : Heap} (pn : plainFor y = true) (ef : ∀ m, entryFrame m as' ml = mkF m 0 Ls [])
    (body : ∀ (p : Program) (e : Env) (s : State) (m : MethodId) (below : List Frame) (meth : Method) (c : Code), oCx p s m meth c bs ml y.cls y.name rt Z → oW p l e R s m as' below meth c (oFin s n0 k n Q) n0 h0 0 0 (mkF m 0 Ls [])) :
    oMetH l Z y bs ml rt tr R k n n0 as' h0 Q := by
  refine MetFree.of_bodySF pn hisWith ?_
  intro p e s m args below meth c s₁ Bd hml0 hP hK
  obtain ⟨rfl, hZ, hh⟩ := hP
  have e0 : s₁.heap = h0 := by rw [← hh, Bd.state]; rfl
  have C : oCx p s m meth c bs ml y.cls y.name rt Z := ⟨Bd.exec, Bd.bytes, hml0, findClass_of_methodNamed Bd.named, hZ, (name_of_methodNamed Bd.named Bd.method).1, Bd.returns, Bd.notSynchronized⟩
  obtain ⟨s₂, o, h1, h2, h3, h4⟩ := body p e s m below meth c C s₁ [] (Stand.of_body Bd) e0 (Fr.nil n0)
  exact ⟨s₂, o, castTop (ef m) h1, h2, h3, h4⟩
theorem oPureK {w : Value} {hc : Heap} (g : oW p l e R s m args below meth c F n0 hc cells slots (mkF m q Ls (w :: rest))) : ∀ (v : Option Value) (h' : Heap), (v = some w ∧ h' = hc) → oW p l e R s m args below meth c F n0 h' cells slots (mkF m q Ls (v.toList ++ rest)) := by
  rintro _ _ ⟨rfl, rfl⟩; exact g
end Calls
theorem oCastI {z z' : Int32} (hz : z = z') (g : oW p l e R s m args below meth c F n0 h cells slots (mkF m pc Ls (.int z' :: st))) : oW p l e R s m args below meth c F n0 h cells slots (mkF m pc Ls (.int z :: st)) := hz ▸ g
def oAr (Z : State) (h : Heap) (a : Addr) (ty : FieldType) (vs : List Value) : Prop := ∃ c : Cell, Arr Z h a c ty ∧ c.slots.toList = vs
section Arrays
variable {a b : Addr} {ty : FieldType} {vs : List Value} {v : Value} {sl : Nat}
theorem oAr.lt (A : oAr Z h a ty vs) : a < h.size := by obtain ⟨c, A, -⟩ := A; exact A.lt
theorem oAr.ext (A : oAr Z h a ty vs) (E : Ext h h') : oAr Z h' a ty vs := by obtain ⟨c, A, r⟩ := A; exact ⟨c, A.ext E, r⟩
end Arrays
def oKe (h0 h : Heap) (ws : List Addr) (fs : List (Addr × Nat)) : Prop := h0.size ≤ h.size ∧ ∀ (x : Addr) (c : Cell), h0[x]? = some c → ∃ c' : Cell, h[x]? = some c' ∧ c'.cls = c.cls ∧ c'.vm = c.vm ∧ c'.slots.size = c.slots.size ∧ (x ∉ ws → ∀ j, (x, j) ∉ fs → c'.slots[j]? = c.slots[j]?)
section Ke
variable {h0 : Heap} {ws ws' : List Addr} {fs fs' : List (Addr × Nat)} {a b : Addr} {sl : Nat} {v : Value} {ty : FieldType} {vs : List Value} {K O n d : String}
theorem oKe.refl (h : Heap) (ws : List Addr) (fs : List (Addr × Nat)) : oKe h h ws fs := ⟨Nat.le_refl _, fun x c q => ⟨c, q, rfl, rfl, rfl, fun _ _ _ => rfl⟩⟩
theorem oKe.trans (A : oKe h0 h ws fs) (B : oKe h h' ws' fs') (q1 : ∀ x ∈ ws', x ∈ ws ∨ h0.size ≤ x) (q2 : ∀ x ∈ fs', x ∈ fs ∨ h0.size ≤ x.1) : oKe h0 h' ws fs := by
  refine ⟨Nat.le_trans A.1 B.1, fun x c hx => ?_⟩
  obtain ⟨c1, e1, e2, e3, e4, e5⟩ := A.2 x c hx
  obtain ⟨c2, g1, g2, g3, g4, g5⟩ := B.2 x c1 e1
  have lt := (Array.getElem?_eq_some_iff.mp hx).1
  refine ⟨c2, g1, g2.trans e2, g3.trans e3, g4.trans e4, fun hn j hj => ?_⟩
  rw [g5 (fun z => (q1 x z).elim hn (fun y => absurd lt (Nat.not_lt.mpr y))) j (fun z => (q2 _ z).elim hj (fun y => absurd lt (Nat.not_lt.mpr y)))]
  exact e5 hn j hj
theorem oKe.of_ext (E : Ext h h') : oKe h h' [] [] := ⟨E.1, fun x c q => ⟨c, E.2 x c q, rfl, rfl, rfl, fun _ _ _ => rfl⟩⟩
theorem oKe.ext (A : oKe h0 h ws fs) (E : Ext h h') : oKe h0 h' ws fs := A.trans (oKe.of_ext E) (fun _ q => nomatch q) (fun _ q => nomatch q)
end Ke
end Own
section Own2
variable {p : Program} {l : Launch} {e : Env} {R : Room} {s : State} {m : MethodId} {args : Array Value} {below : List Frame} {meth : Method} {c : Code} {bs : ByteArray} {ml : Nat} {own nm : String} {rt : Option FieldType} {Z : State} {F : State → Outcome → Prop} {n0 : Nat} {h h' : Heap} {cells slots : Nat} {pc q : Nat} {Ls Ls' : Array Slot} {st : List Value} {a0 : Array Value}
section ArraysO
variable {a b : Addr} {K : String} {vs : List Value} {v : Value} {sl : Nat}
end ArraysO
section Stas
variable {K n d : String} {v w : Value} {a : Addr} {sl : Nat}
end Stas
end Own2
abbrev oHw (a0 : Array Value) (Z : State) : Prop := ∀ d ∈ tables_1, d.before a0 Z = true
theorem w0 {a0 : Array Value} {Z : State} (hw : oHw a0 Z) : (Jvm.Cond.methodLink "com/example/epikrise/epikrise/core/ControlCharactersIsControlPinLaw" (7 : Nat) ({ cls := "com/example/epikrise/epikrise/core/ControlCharacters", name := "isControl", desc := "(C)Z" } : Jvm.MethodName)).before a0 Z = true := hw _ (List.mem_of_getElem? (i := 0) rfl)
theorem w1 {a0 : Array Value} {Z : State} (hw : oHw a0 Z) : (Jvm.Cond.static ({ cls := "com/example/epikrise/epikrise/core/ControlCharacters", name := "isControl", desc := "(C)Z" } : Jvm.MethodName)).before a0 Z = true := hw _ (List.mem_of_getElem? (i := 1) rfl)
theorem w2 {a0 : Array Value} {Z : State} (hw : oHw a0 Z) : (Jvm.Cond.initialized "com/example/epikrise/epikrise/core/ControlCharacters").before a0 Z = true := hw _ (List.mem_of_getElem? (i := 2) rfl)
theorem w3 {a0 : Array Value} {Z : State} (hw : oHw a0 Z) : (Jvm.Cond.code ({ cls := "com/example/epikrise/epikrise/core/ControlCharacters", name := "isControl", desc := "(C)Z" } : Jvm.MethodName) prog_31_method_2_code (1 : Nat) (Option.some Jvm.ClassFile.FieldType.boolean)).before a0 Z = true := hw _ (List.mem_of_getElem? (i := 3) rfl)
theorem ef_1 (m : MethodId) (x0 : Int32) : entryFrame m #[.int x0] 1 = mkF m 0 #[.val (.int x0)] [] := by first | (simp [entryFrame, mkF, argsToLocals, Value.category]; done) | rfl
theorem pn_630541 : plainName "com/example/epikrise/epikrise/core/ControlCharacters" = true := by first | (simp [plainName, overriddenIn]; done) | decide +kernel
def fIsC (c : Int32) : Int32 := (if c < (32 : Int32) then (1 : Int32) else (if c < (127 : Int32) then (0 : Int32) else (if (159 : Int32) < c then (if (c ||| (1 : Int32)) = (8233 : Int32) then (1 : Int32) else (0 : Int32)) else (1 : Int32))))
theorem fIsC_def (c : Int32) : fIsC c = (if c < (32 : Int32) then (1 : Int32) else (if c < (127 : Int32) then (0 : Int32) else (if (159 : Int32) < c then (if (c ||| (1 : Int32)) = (8233 : Int32) then (1 : Int32) else (0 : Int32)) else (1 : Int32)))) := rfl
theorem d1_0 : decode prog_31_method_2_code 0 = .ok (.iload_n 0, 1) := by decide +kernel
theorem d1_1 : decode prog_31_method_2_code 1 = .ok (.bipush 32, 2) := by decide +kernel
theorem d1_3 : decode prog_31_method_2_code 3 = .ok (.if_icmp .lt 25, 3) := by decide +kernel
theorem d1_6 : decode prog_31_method_2_code 6 = .ok (.iload_n 0, 1) := by decide +kernel
theorem d1_7 : decode prog_31_method_2_code 7 = .ok (.bipush 127, 2) := by decide +kernel
theorem d1_9 : decode prog_31_method_2_code 9 = .ok (.if_icmp .lt 23, 3) := by decide +kernel
theorem d1_12 : decode prog_31_method_2_code 12 = .ok (.iload_n 0, 1) := by decide +kernel
theorem d1_13 : decode prog_31_method_2_code 13 = .ok (.sipush 159, 3) := by decide +kernel
theorem d1_16 : decode prog_31_method_2_code 16 = .ok (.if_icmp .le 12, 3) := by decide +kernel
theorem d1_19 : decode prog_31_method_2_code 19 = .ok (.iload_n 0, 1) := by decide +kernel
theorem d1_20 : decode prog_31_method_2_code 20 = .ok (.iconst 1, 1) := by decide +kernel
theorem d1_21 : decode prog_31_method_2_code 21 = .ok (.ior, 1) := by decide +kernel
theorem d1_22 : decode prog_31_method_2_code 22 = .ok (.sipush 8233, 3) := by decide +kernel
theorem d1_25 : decode prog_31_method_2_code 25 = .ok (.if_icmp .ne 7, 3) := by decide +kernel
theorem d1_28 : decode prog_31_method_2_code 28 = .ok (.iconst 1, 1) := by decide +kernel
theorem d1_29 : decode prog_31_method_2_code 29 = .ok (.goto 4, 3) := by decide +kernel
theorem d1_32 : decode prog_31_method_2_code 32 = .ok (.iconst 0, 1) := by decide +kernel
theorem d1_33 : decode prog_31_method_2_code 33 = .ok (.ireturn, 1) := by decide +kernel
set_option maxRecDepth 65536 in
set_option maxHeartbeats 40000000 in
theorem mt_fIsC (l : Launch) (Z : State) (a0 : Array Value) (hw : oHw a0 Z) (h0 : Heap) (n0 : Nat) (Z0 : n0 ≤ h0.size) (c : Int32)  :
    oMet l Z (⟨"com/example/epikrise/epikrise/core/ControlCharacters", "isControl", "(C)Z"⟩ : MethodName) prog_31_method_2_code 1 (some .boolean) [] ({ frames := 0, cells := 0, slots := 0, locals := 0 } : Room) 0 0 n0 #[.int c] h0 (fun v h => v = some (.int (fIsC c)) ∧ h = h0) := by
  refine oMet.intro (plainFor_of_name pn_630541) (fun m => ef_1 m c) ?_
  intro op oe os m obl omt ocd C
  refine oIloadN C d1_0 rfl rfl ?_
  refine oBipush C d1_1 (z := 32) rfl rfl ?_
  refine oIcmp_lt C d1_3 (q := 28) (by decide) (by decide) (r := 6) rfl (fun hc3 => ?_) (fun hc3 => ?_)
  ·
   refine oIconst C d1_28 (z := 1) rfl rfl ?_
   refine oGoto C d1_29 (q := 33) (by decide) (by decide) ?_
   refine oRetZ C d1_33 (z' := (1 : Int32)) rfl (by decide) (by decide) ?_
   exact ⟨by rw [fIsC_def, if_pos hc3], rfl⟩
  ·
   refine oIloadN C d1_6 rfl rfl ?_
   refine oBipush C d1_7 (z := 127) rfl rfl ?_
   refine oIcmp_lt C d1_9 (q := 32) (by decide) (by decide) (r := 12) rfl (fun hc9 => ?_) (fun hc9 => ?_)
   ·
    refine oIconst C d1_32 (z := 0) rfl rfl ?_
    refine oRetZ C d1_33 (z' := (0 : Int32)) rfl (by decide) (by decide) ?_
    exact ⟨by rw [fIsC_def, if_neg hc3, if_pos hc9], rfl⟩
   ·
    refine oIloadN C d1_12 rfl rfl ?_
    refine oSipush C d1_13 (z := 159) rfl rfl ?_
    refine oIcmp_le C d1_16 (q := 28) (by decide) (by decide) (r := 19) rfl (fun hc16 => ?_) (fun hc16 => ?_)
    ·
     refine oIconst C d1_28 (z := 1) rfl rfl ?_
     refine oGoto C d1_29 (q := 33) (by decide) (by decide) ?_
     refine oRetZ C d1_33 (z' := (1 : Int32)) rfl (by decide) (by decide) ?_
     exact ⟨by rw [fIsC_def, if_neg hc3, if_neg hc9, if_neg hc16], rfl⟩
    ·
     refine oIloadN C d1_19 rfl rfl ?_
     refine oIconst C d1_20 (z := 1) rfl rfl ?_
     refine oIor C d1_21 rfl ?_
     refine oSipush C d1_22 (z := 8233) rfl rfl ?_
     refine oIcmp_ne C d1_25 (q := 32) (by decide) (by decide) (r := 28) rfl (fun hc25 => ?_) (fun hc25 => ?_)
     ·
      refine oIconst C d1_32 (z := 0) rfl rfl ?_
      refine oRetZ C d1_33 (z' := (0 : Int32)) rfl (by decide) (by decide) ?_
      exact ⟨by rw [fIsC_def, if_neg hc3, if_neg hc9, if_pos hc16, if_neg hc25], rfl⟩
     ·
      refine oIconst C d1_28 (z := 1) rfl rfl ?_
      refine oGoto C d1_29 (q := 33) (by decide) (by decide) ?_
      refine oRetZ C d1_33 (z' := (1 : Int32)) rfl (by decide) (by decide) ?_
      exact ⟨by rw [fIsC_def, if_neg hc3, if_neg hc9, if_pos hc16, if_pos hc25], rfl⟩
theorem or_one_8233 (c : Int32) : (c ||| (1 : Int32)) = (8233 : Int32) ↔ c = (8232 : Int32) ∨ c = (8233 : Int32) := by
  constructor
  · intro h
    have h1 : c &&& ~~~(1 : Int32) = 8232 := by
      have : (c ||| 1) &&& ~~~(1 : Int32) = 8232 := by rw [h]; decide
      rw [← this]
      apply Int32.toBitVec_inj.mp
      simp
      ext i hi
      simp
      cases i <;> simp
    have h2 : c = (c &&& ~~~(1 : Int32)) ||| (c &&& 1) := by
      apply Int32.toBitVec_inj.mp
      show c.toBitVec = (c.toBitVec &&& (~~~(1 : Int32)).toBitVec) ||| (c.toBitVec &&& (1 : Int32).toBitVec)
      rw [← BitVec.and_or_distrib_left, show (~~~(1 : Int32)).toBitVec ||| (1 : Int32).toBitVec = BitVec.allOnes 32 from by decide, BitVec.and_allOnes]
    rcases and_one c with h3 | h3
    · left; rw [h2, h1, h3]; decide
    · right; rw [h2, h1, h3]; decide
  · rintro (rfl | rfl) <;> decide
theorem ef_0 (m : MethodId) (x0 : Int32) : entryFrame m #[.int x0] maxLocals = mkF m 0 #[.val (.int x0), .unset, .unset, .unset] [] := by first | (simp [entryFrame, mkF, argsToLocals, Value.category, maxLocals]; done) | rfl
theorem pn_875180 : plainName "com/example/epikrise/epikrise/core/ControlCharactersIsControlPinLaw" = true := by first | (simp [plainName, overriddenIn]; done) | decide +kernel
theorem pd_571879 : parseMethodDescriptor "(C)Z" = some ⟨[.char], some .boolean⟩ := by decide +kernel
set_option maxRecDepth 65536 in
set_option maxHeartbeats 40000000 in
theorem mt_law (l : Launch) (Z : State) (a0 : Array Value) (hw : oHw a0 Z) (h0 : Heap) (n0 : Nat) (Z0 : n0 ≤ h0.size) (x0 : Int32)  :
    oMet l Z x code maxLocals ret tables_1 room_1 0 0 n0 #[.int x0] h0 (fun v h => v = some (.int 1)) := by
  refine oMet.intro (plainFor_of_name pn_875180) (fun m => ef_0 m x0) ?_
  intro op oe os m obl omt ocd C
  refine oIloadN C at_0 rfl rfl ?_
  refine oI2C C at_1 rfl ?_
  obtain ⟨c, e_c⟩ : ∃ z, z = (x0.toUInt32.toUInt16.toUInt32.toInt32) := ⟨_, rfl⟩
  refine oCastI e_c.symm ?_
  refine oIstoreN C at_2 (Ls' := #[.val (.int x0), .val (.int c), .unset, .unset]) rfl (q := 3) rfl ?_
  refine oIloadN C at_3 rfl rfl ?_
  refine oIstoreN C at_4 (Ls' := #[.val (.int x0), .val (.int c), .val (.int c), .unset]) rfl (q := 5) rfl ?_
  refine oIloadN C at_5 rfl rfl ?_
  refine oBipush C at_6 (z := 31) rfl rfl ?_
  refine oIcmp_gt C at_8 (q := 16) (by decide) (by decide) (r := 11) rfl (fun hc8 => ?_) (fun hc8 => ?_)
  ·
   refine oIloadN C at_16 rfl rfl ?_
   refine oBipush C at_17 (z := 127) rfl rfl ?_
   refine oIcmp_lt C at_19 (q := 34) (by decide) (by decide) (r := 22) rfl (fun hc19 => ?_) (fun hc19 => ?_)
   ·
    refine oIloadN C at_34 rfl rfl ?_
    refine oSipush C at_35 (z := 8232) rfl rfl ?_
    refine oIcmp_ne C at_38 (q := 46) (by decide) (by decide) (r := 41) rfl (fun hc38 => ?_) (fun hc38 => ?_)
    ·
     refine oIloadN C at_46 rfl rfl ?_
     refine oSipush C at_47 (z := 8233) rfl rfl ?_
     refine oIcmp_ne C at_50 (q := 58) (by decide) (by decide) (r := 53) rfl (fun hc50 => ?_) (fun hc50 => ?_)
     ·
      refine oIconst C at_58 (z := 0) rfl rfl ?_
      refine oIstoreN C at_59 (Ls' := #[.val (.int x0), .val (.int c), .val (.int c), .val (.int 0)]) rfl (q := 60) rfl ?_
      refine oIloadN C at_60 rfl rfl ?_
      refine oCallS C (w0 hw) (w1 hw) (w2 hw) (w3 hw) at_61 (by decide) pd_571879 rfl rfl (argsL := [.int c]) (rest := []) rfl (W := 0) rfl (q := 64) rfl (by decide) (by decide) (by decide) (by decide) (mt_fIsC l Z a0 hw _ n0 Z0 c ) (oPureK ?_)
      refine oIloadN C at_64 rfl rfl ?_
      refine oIcmp_ne C at_65 (q := 72) (by decide) (by decide) (r := 68) rfl (fun hq => absurd hq (not_not_intro (by clear hq; rw [fIsC_def]; simp only [or_one_8233]; simp only [Int32.lt_iff_toInt_lt, ← Int32.toInt_inj, Int32.reduceToInt] at *; (repeat' split) <;> first | rfl | omega))) (fun hc65 => ?_)
      refine oIconst C at_68 (z := 1) rfl rfl ?_
      refine oGoto C at_69 (q := 73) (by decide) (by decide) ?_
      refine oRetZ C at_73 (z' := (1 : Int32)) rfl (by decide) (by decide) ?_
      exact rfl
     ·
      refine oIconst C at_53 (z := 1) rfl rfl ?_
      refine oIstoreN C at_54 (Ls' := #[.val (.int x0), .val (.int c), .val (.int c), .val (.int 1)]) rfl (q := 55) rfl ?_
      refine oGoto C at_55 (q := 60) (by decide) (by decide) ?_
      refine oIloadN C at_60 rfl rfl ?_
      refine oCallS C (w0 hw) (w1 hw) (w2 hw) (w3 hw) at_61 (by decide) pd_571879 rfl rfl (argsL := [.int c]) (rest := []) rfl (W := 0) rfl (q := 64) rfl (by decide) (by decide) (by decide) (by decide) (mt_fIsC l Z a0 hw _ n0 Z0 c ) (oPureK ?_)
      refine oIloadN C at_64 rfl rfl ?_
      refine oIcmp_ne C at_65 (q := 72) (by decide) (by decide) (r := 68) rfl (fun hq => absurd hq (not_not_intro (by clear hq; rw [fIsC_def]; simp only [or_one_8233]; simp only [Int32.lt_iff_toInt_lt, ← Int32.toInt_inj, Int32.reduceToInt] at *; (repeat' split) <;> first | rfl | omega))) (fun hc65 => ?_)
      refine oIconst C at_68 (z := 1) rfl rfl ?_
      refine oGoto C at_69 (q := 73) (by decide) (by decide) ?_
      refine oRetZ C at_73 (z' := (1 : Int32)) rfl (by decide) (by decide) ?_
      exact rfl
    ·
     refine oIconst C at_41 (z := 1) rfl rfl ?_
     refine oIstoreN C at_42 (Ls' := #[.val (.int x0), .val (.int c), .val (.int c), .val (.int 1)]) rfl (q := 43) rfl ?_
     refine oGoto C at_43 (q := 60) (by decide) (by decide) ?_
     refine oIloadN C at_60 rfl rfl ?_
     refine oCallS C (w0 hw) (w1 hw) (w2 hw) (w3 hw) at_61 (by decide) pd_571879 rfl rfl (argsL := [.int c]) (rest := []) rfl (W := 0) rfl (q := 64) rfl (by decide) (by decide) (by decide) (by decide) (mt_fIsC l Z a0 hw _ n0 Z0 c ) (oPureK ?_)
     refine oIloadN C at_64 rfl rfl ?_
     refine oIcmp_ne C at_65 (q := 72) (by decide) (by decide) (r := 68) rfl (fun hq => absurd hq (not_not_intro (by clear hq; rw [fIsC_def]; simp only [or_one_8233]; simp only [Int32.lt_iff_toInt_lt, ← Int32.toInt_inj, Int32.reduceToInt] at *; (repeat' split) <;> first | rfl | omega))) (fun hc65 => ?_)
     refine oIconst C at_68 (z := 1) rfl rfl ?_
     refine oGoto C at_69 (q := 73) (by decide) (by decide) ?_
     refine oRetZ C at_73 (z' := (1 : Int32)) rfl (by decide) (by decide) ?_
     exact rfl
   ·
    refine oIloadN C at_22 rfl rfl ?_
    refine oSipush C at_23 (z := 159) rfl rfl ?_
    refine oIcmp_gt C at_26 (q := 34) (by decide) (by decide) (r := 29) rfl (fun hc26 => ?_) (fun hc26 => ?_)
    ·
     refine oIloadN C at_34 rfl rfl ?_
     refine oSipush C at_35 (z := 8232) rfl rfl ?_
     refine oIcmp_ne C at_38 (q := 46) (by decide) (by decide) (r := 41) rfl (fun hc38 => ?_) (fun hc38 => ?_)
     ·
      refine oIloadN C at_46 rfl rfl ?_
      refine oSipush C at_47 (z := 8233) rfl rfl ?_
      refine oIcmp_ne C at_50 (q := 58) (by decide) (by decide) (r := 53) rfl (fun hc50 => ?_) (fun hc50 => ?_)
      ·
       refine oIconst C at_58 (z := 0) rfl rfl ?_
       refine oIstoreN C at_59 (Ls' := #[.val (.int x0), .val (.int c), .val (.int c), .val (.int 0)]) rfl (q := 60) rfl ?_
       refine oIloadN C at_60 rfl rfl ?_
       refine oCallS C (w0 hw) (w1 hw) (w2 hw) (w3 hw) at_61 (by decide) pd_571879 rfl rfl (argsL := [.int c]) (rest := []) rfl (W := 0) rfl (q := 64) rfl (by decide) (by decide) (by decide) (by decide) (mt_fIsC l Z a0 hw _ n0 Z0 c ) (oPureK ?_)
       refine oIloadN C at_64 rfl rfl ?_
       refine oIcmp_ne C at_65 (q := 72) (by decide) (by decide) (r := 68) rfl (fun hq => absurd hq (not_not_intro (by clear hq; rw [fIsC_def]; simp only [or_one_8233]; simp only [Int32.lt_iff_toInt_lt, ← Int32.toInt_inj, Int32.reduceToInt] at *; (repeat' split) <;> first | rfl | omega))) (fun hc65 => ?_)
       refine oIconst C at_68 (z := 1) rfl rfl ?_
       refine oGoto C at_69 (q := 73) (by decide) (by decide) ?_
       refine oRetZ C at_73 (z' := (1 : Int32)) rfl (by decide) (by decide) ?_
       exact rfl
      ·
       refine oIconst C at_53 (z := 1) rfl rfl ?_
       refine oIstoreN C at_54 (Ls' := #[.val (.int x0), .val (.int c), .val (.int c), .val (.int 1)]) rfl (q := 55) rfl ?_
       refine oGoto C at_55 (q := 60) (by decide) (by decide) ?_
       refine oIloadN C at_60 rfl rfl ?_
       refine oCallS C (w0 hw) (w1 hw) (w2 hw) (w3 hw) at_61 (by decide) pd_571879 rfl rfl (argsL := [.int c]) (rest := []) rfl (W := 0) rfl (q := 64) rfl (by decide) (by decide) (by decide) (by decide) (mt_fIsC l Z a0 hw _ n0 Z0 c ) (oPureK ?_)
       refine oIloadN C at_64 rfl rfl ?_
       refine oIcmp_ne C at_65 (q := 72) (by decide) (by decide) (r := 68) rfl (fun hq => absurd hq (not_not_intro (by clear hq; rw [fIsC_def]; simp only [or_one_8233]; simp only [Int32.lt_iff_toInt_lt, ← Int32.toInt_inj, Int32.reduceToInt] at *; (repeat' split) <;> first | rfl | omega))) (fun hc65 => ?_)
       refine oIconst C at_68 (z := 1) rfl rfl ?_
       refine oGoto C at_69 (q := 73) (by decide) (by decide) ?_
       refine oRetZ C at_73 (z' := (1 : Int32)) rfl (by decide) (by decide) ?_
       exact rfl
     ·
      refine oIconst C at_41 (z := 1) rfl rfl ?_
      refine oIstoreN C at_42 (Ls' := #[.val (.int x0), .val (.int c), .val (.int c), .val (.int 1)]) rfl (q := 43) rfl ?_
      refine oGoto C at_43 (q := 60) (by decide) (by decide) ?_
      refine oIloadN C at_60 rfl rfl ?_
      refine oCallS C (w0 hw) (w1 hw) (w2 hw) (w3 hw) at_61 (by decide) pd_571879 rfl rfl (argsL := [.int c]) (rest := []) rfl (W := 0) rfl (q := 64) rfl (by decide) (by decide) (by decide) (by decide) (mt_fIsC l Z a0 hw _ n0 Z0 c ) (oPureK ?_)
      refine oIloadN C at_64 rfl rfl ?_
      refine oIcmp_ne C at_65 (q := 72) (by decide) (by decide) (r := 68) rfl (fun hq => absurd hq (not_not_intro (by clear hq; rw [fIsC_def]; simp only [or_one_8233]; simp only [Int32.lt_iff_toInt_lt, ← Int32.toInt_inj, Int32.reduceToInt] at *; (repeat' split) <;> first | rfl | omega))) (fun hc65 => ?_)
      refine oIconst C at_68 (z := 1) rfl rfl ?_
      refine oGoto C at_69 (q := 73) (by decide) (by decide) ?_
      refine oRetZ C at_73 (z' := (1 : Int32)) rfl (by decide) (by decide) ?_
      exact rfl
    ·
     refine oIconst C at_29 (z := 1) rfl rfl ?_
     refine oIstoreN C at_30 (Ls' := #[.val (.int x0), .val (.int c), .val (.int c), .val (.int 1)]) rfl (q := 31) rfl ?_
     refine oGoto C at_31 (q := 60) (by decide) (by decide) ?_
     refine oIloadN C at_60 rfl rfl ?_
     refine oCallS C (w0 hw) (w1 hw) (w2 hw) (w3 hw) at_61 (by decide) pd_571879 rfl rfl (argsL := [.int c]) (rest := []) rfl (W := 0) rfl (q := 64) rfl (by decide) (by decide) (by decide) (by decide) (mt_fIsC l Z a0 hw _ n0 Z0 c ) (oPureK ?_)
     refine oIloadN C at_64 rfl rfl ?_
     refine oIcmp_ne C at_65 (q := 72) (by decide) (by decide) (r := 68) rfl (fun hq => absurd hq (not_not_intro (by clear hq; rw [fIsC_def]; simp only [or_one_8233]; simp only [Int32.lt_iff_toInt_lt, ← Int32.toInt_inj, Int32.reduceToInt] at *; (repeat' split) <;> first | rfl | omega))) (fun hc65 => ?_)
     refine oIconst C at_68 (z := 1) rfl rfl ?_
     refine oGoto C at_69 (q := 73) (by decide) (by decide) ?_
     refine oRetZ C at_73 (z' := (1 : Int32)) rfl (by decide) (by decide) ?_
     exact rfl
  ·
   refine oIconst C at_11 (z := 1) rfl rfl ?_
   refine oIstoreN C at_12 (Ls' := #[.val (.int x0), .val (.int c), .val (.int c), .val (.int 1)]) rfl (q := 13) rfl ?_
   refine oGoto C at_13 (q := 60) (by decide) (by decide) ?_
   refine oIloadN C at_60 rfl rfl ?_
   refine oCallS C (w0 hw) (w1 hw) (w2 hw) (w3 hw) at_61 (by decide) pd_571879 rfl rfl (argsL := [.int c]) (rest := []) rfl (W := 0) rfl (q := 64) rfl (by decide) (by decide) (by decide) (by decide) (mt_fIsC l Z a0 hw _ n0 Z0 c ) (oPureK ?_)
   refine oIloadN C at_64 rfl rfl ?_
   refine oIcmp_ne C at_65 (q := 72) (by decide) (by decide) (r := 68) rfl (fun hq => absurd hq (not_not_intro (by clear hq; rw [fIsC_def]; simp only [or_one_8233]; simp only [Int32.lt_iff_toInt_lt, ← Int32.toInt_inj, Int32.reduceToInt] at *; (repeat' split) <;> first | rfl | omega))) (fun hc65 => ?_)
   refine oIconst C at_68 (z := 1) rfl rfl ?_
   refine oGoto C at_69 (q := 73) (by decide) (by decide) ?_
   refine oRetZ C at_73 (z' := (1 : Int32)) rfl (by decide) (by decide) ?_
   exact rfl
set_option maxRecDepth 65536 in
set_option maxHeartbeats 40000000 in
theorem comes_1 {Post : Tables → Env → Array Value → State → Outcome → State → Prop} (hpost : ∀ tb e args s v u, (limb_1_1.after args s (.returned v) u = true ∧ limb_1_2.after args s (.returned v) u = true ∧ True) → FrameEnd s (.returned v) u (Jvm.fieldLocs frame_1_writes args s ++ Jvm.arrayLocs frame_1_arrays args s ++ Jvm.staticLocs frame_1_statics s) 0 0 → Post tb e args s (.returned v) u) :
    ArmFor flags0 classFile x code maxLocals ret World_1 tables_1 room_1 Calls_1 rest_1 Pre_1 Post := by
  intro l hfl _ _ p e ha hc hk s m args below hf hA hF happ hP
  obtain ⟨hcalls, hrest, hpre⟩ := hP
  obtain ⟨-, -, -, hnamed, -, -, -, hat⟩ := (Spec.applies_iff hf).mp happ
  obtain ⟨hg, hn⟩ := and_e (Cond.before_iff.mp (show (Jvm.Cond.and given_1 narrow_1).before args s = true from hpre))
  obtain ⟨h1, k0⟩ := and_e hg
  obtain ⟨v0, rfl⟩ : ∃ v0 : Value, args = #[v0] := by
    have hs : args.size = 1 := by simpa [Cond.value, given_1] using h1
    obtain ⟨L⟩ := args
    match L, hs with
    | [v0], _ => exact ⟨v0, rfl⟩
  have hw := fun d (hd : d ∈ tables_1) => atoms_spec (ws := Jvm.Cond.code x code maxLocals ret :: tables_1) hat d (List.mem_cons_of_mem _ hd)
  have hfit : Fit s := fun {y c} hc i hi => by
    obtain ⟨ha, rfl⟩ := Array.getElem?_eq_some_iff.mp hc
    have q := List.all_eq_true.mp ((Array.all_eq_true_iff_forall_mem.mp hF) _ (Array.getElem_mem ha)) i (List.mem_range.mpr hi)
    simpa [Array.getElem?_eq_getElem hi] using q
  obtain ⟨i0, e0⟩ := is_v k0
  obtain rfl : v0 = (.int i0) := Option.some.inj e0
  obtain ⟨n, o, h1, h2, h3, _, L, rfl, ⟨N, rfl⟩, hq⟩ := mt_law l s _ hw s.heap s.heap.size (Nat.le_refl _) i0  p e ha hc hk s m _ below hf ((Spec.applies_iff_loose hf).mp happ).1 ⟨rfl, State.Warmed39.refl s, rfl⟩ trivial
  refine ⟨n, _, h1, h2, h3, hpost _ _ _ _ _ _ ⟨Cond.after_iff.mpr rfl, Cond.after_iff.mpr (eq_i res_at (Term.int_eval (1)) rfl), trivial⟩ ⟨hq.1, hq.2.1, (hq.2.2.sift fun y hy => Or.inr (N y hy)).mono (by decide) (by decide)⟩⟩
theorem main_1_1 : Claimed_1_1 := comes_1 fun _ _ _ _ _ _ h hF => ⟨h.1, hF⟩
theorem main_1_2 : Claimed_1_2 := comes_1 fun _ _ _ _ _ _ h hF => ⟨h.2.1, hF⟩
end Jvm.Pilot.@@N@@
namespace Jvm.Pilot.@@N@@
open Jvm Jvm.ClassFile Sem Op Lib Jvm.Free Jvm.Stand Jvm.Pilot.@@N@@.Jvm.D
/-! MADE BY PROGRAM (witnessworld.py) out of the Statement's table words and the real class files: 9 classes; the members and pool entries that the words name. The judged class is class 1, her method 1. -/
namespace start1
open Jvm.ClassFile
def u (s : String) : CpInfo := .utf8 (stringToUtf16 s)
/-- a pool by its gaps: so many unusable entries, then the entry; so many at the end -/
def gap : Nat → List CpInfo → List CpInfo
  | 0, r => r
  | n + 1, r => .unusable :: gap n r
def poolList (es : List (Nat × CpInfo)) (last : Nat) : List CpInfo := es.foldr (fun e r => gap e.1 (e.2 :: r)) (gap last [])
def pool (es : List (Nat × CpInfo)) (last : Nat) : Array CpInfo := ⟨poolList es last⟩
def fileOf (pool : Array CpInfo) (this : Nat) (attrs : Array Attribute := #[]) (ms : Array MethodInfo := #[]) (fl : Nat := 33) (sup : Nat := 0) (ifs : Array Nat := #[]) (fds : Array FieldInfo := #[]) : ClassFile where
  minorVersion := 0
  majorVersion := 65
  constantPool := pool
  accessFlags := fl
  thisClass := this
  superClass := sup
  interfaces := ifs
  fields := fds
  methods := ms
  attributes := attrs
def plain (name : String) (sup : Option ClassId) : Class where
  name := name
  kind := .ordinary
  loader := none
  accessFlags := 33
  super := sup
  interfaces := #[]
  cf := none
  fields := #[]
  methods := #[]
  instanceTypes := #[]
  staticTypes := #[]
  resolved := #[]
  callSites := []
  init := .initialized
  statics := none
  mirror := none

def pool0 : Array CpInfo := pool [(5, u "<init>"), (0, u "()V"), (1, .class_ 10), (1, u "java/lang/Object")] 113

def k0m0 : Method := { name := "<init>", desc := "()V", sig := { parameters := [], returnType := none }, accessFlags := 1, code := none }
/-- java/lang/Object -/
def k0 : Class := { plain "java/lang/Object" none with
  accessFlags := 33
  interfaces := #[]
  cf := some (fileOf pool0 8 #[] #[{ accessFlags := 1, nameIndex := 5, descriptorIndex := 6, attributes := #[] }] 33 0 #[] #[])
  fields := #[]
  methods := #[k0m0]
  instanceTypes := #[]
  staticTypes := #[]
  resolved := Array.replicate 124 none
  statics := none }

def pool1 : Array CpInfo := pool [(2, .class_ 4), (1, u "java/lang/Object"), (0, u "<init>"), (0, u "()V"), (0, .methodref 8 9), (0, .class_ 10), (0, .nameAndType 11 12), (0, u "com/example/epikrise/epikrise/core/ControlCharacters"), (0, u "isControl"), (0, u "(C)Z"), (0, .class_ 14), (0, u "com/example/epikrise/epikrise/core/ControlCharactersIsControlPinLaw"), (2, u "law"), (0, u "(I)Z")] 3

def k1m0 : Method := { name := "<init>", desc := "()V", sig := { parameters := [], returnType := none }, accessFlags := 2, code := none }
def k1c1 : Code := { maxStack := 2, maxLocals := 4, code := code, exceptionTable := #[], attributes := #[] }
def k1m1 : Method := { name := "law", desc := "(I)Z", sig := { parameters := [.int], returnType := some .boolean }, accessFlags := 9, code := some k1c1 }
/-- com/example/epikrise/epikrise/core/ControlCharactersIsControlPinLaw -/
def k1 : Class := { plain "com/example/epikrise/epikrise/core/ControlCharactersIsControlPinLaw" (some 0) with
  accessFlags := 49
  interfaces := #[]
  cf := some (fileOf pool1 13 #[] #[{ accessFlags := 2, nameIndex := 5, descriptorIndex := 6, attributes := #[] }, { accessFlags := 9, nameIndex := 17, descriptorIndex := 18, attributes := #[] }] 49 2 #[] #[])
  fields := #[]
  methods := #[k1m0, k1m1]
  instanceTypes := #[]
  staticTypes := #[]
  resolved := Array.replicate 22 none
  statics := none }

def pool2 : Array CpInfo := pool [(2, .class_ 4), (1, u "java/lang/Object"), (0, u "<init>"), (0, u "()V"), (0, .class_ 8), (0, u "com/example/epikrise/epikrise/core/ControlCharacters"), (12, u "HEX_DIGITS"), (0, u "[C"), (8, u "ESCAPE_LENGTH"), (0, u "I"), (4, u "isControl"), (0, u "(C)Z")] 6

def k2m0 : Method := { name := "<init>", desc := "()V", sig := { parameters := [], returnType := none }, accessFlags := 2, code := none }
def k2c1 : Code := { maxStack := 2, maxLocals := 1, code := prog_31_method_2_code, exceptionTable := #[], attributes := #[] }
def k2m1 : Method := { name := "isControl", desc := "(C)Z", sig := { parameters := [.char], returnType := some .boolean }, accessFlags := 8, code := some k2c1 }
/-- com/example/epikrise/epikrise/core/ControlCharacters -/
def k2 : Class := { plain "com/example/epikrise/epikrise/core/ControlCharacters" (some 0) with
  accessFlags := 48
  interfaces := #[]
  cf := some (fileOf pool2 7 #[] #[{ accessFlags := 2, nameIndex := 5, descriptorIndex := 6, attributes := #[] }, { accessFlags := 8, nameIndex := 37, descriptorIndex := 38, attributes := #[] }] 48 2 #[] #[{ accessFlags := 24, nameIndex := 31, descriptorIndex := 32, attributes := #[] }, { accessFlags := 26, nameIndex := 21, descriptorIndex := 22, attributes := #[] }])
  fields := #[{ name := "ESCAPE_LENGTH", type := .int, accessFlags := 24, slot := 0, constantValue := 0 }, { name := "HEX_DIGITS", type := (.array .char), accessFlags := 26, slot := 1, constantValue := 0 }]
  methods := #[k2m0, k2m1]
  instanceTypes := #[]
  staticTypes := #[.int, (.array .char)]
  resolved := Array.replicate 45 none
  statics := none }

def pool3 : Array CpInfo := pool [(1, u "java/lang/Cloneable"), (0, .class_ 1), (0, u "java/lang/Object"), (0, .class_ 3)] 3

/-- java/lang/Cloneable -/
def k3 : Class := { plain "java/lang/Cloneable" (some 0) with
  accessFlags := 1537
  interfaces := #[]
  cf := some (fileOf pool3 2 #[] #[] 1537 4 #[] #[])
  fields := #[]
  methods := #[]
  instanceTypes := #[]
  staticTypes := #[]
  resolved := Array.replicate 8 none
  statics := none }

def pool4 : Array CpInfo := pool [(1, u "java/io/Serializable"), (0, .class_ 1), (0, u "java/lang/Object"), (0, .class_ 3)] 3

/-- java/io/Serializable -/
def k4 : Class := { plain "java/io/Serializable" (some 0) with
  accessFlags := 1537
  interfaces := #[]
  cf := some (fileOf pool4 2 #[] #[] 1537 4 #[] #[])
  fields := #[]
  methods := #[]
  instanceTypes := #[]
  staticTypes := #[]
  resolved := Array.replicate 8 none
  statics := none }

/-- the primitive byte -/
def k5 : Class := { plain "byte" none with kind := .primitive 'B', accessFlags := 0x411 }
/-- [B -/
def k6 : Class := { plain "[B" (some 0) with kind := .array 5 .byte, interfaces := #[3, 4], accessFlags := 1041 }

/-- the primitive int -/
def k7 : Class := { plain "int" none with kind := .primitive 'I', accessFlags := 0x411 }
/-- [I -/
def k8 : Class := { plain "[I" (some 0) with kind := .array 7 .int, interfaces := #[3, 4], accessFlags := 1041 }

def heap : Heap := #[]
def classes : Array Class := #[k0, k1, k2, k3, k4, k5, k6, k7, k8]
def interned : List (Array UInt16 × Addr) := []
def slotsUsed : Nat := 0
def theMethod : MethodId := ⟨1, 1⟩
def args0 : Array Value := #[.int 5]
def aboutOver (below : List Frame) : State where
  vm := { classes := classes, interned := interned.toArray }
  heap := heap
  slotsUsed := slotsUsed
  threads := #[{ frames := .invoking theMethod args0 :: below }]
def below0 : List Frame := [.native { method := ⟨0, 0⟩, args := #[] }]
def about1 : State := aboutOver below0
def p0 : Program := .bare "" "" ""
def e0 : Env := launch0.env 0 0 0
theorem w_frames : about1.frames = Frame.invoking theMethod args0 :: below0 := rfl
set_option maxRecDepth 65536 in
theorem w_args : argsFit about1.vm theMethod args0 = true := by decide +kernel
set_option maxRecDepth 65536 in
theorem w_heap : heapFits about1 = true := by decide +kernel
set_option maxRecDepth 65536 in
theorem w_runnable : about1.curStatus? = some .runnable := by decide +kernel
set_option maxRecDepth 65536 in
theorem w_alone : about1.alone = true := by decide +kernel
set_option maxRecDepth 65536 in
theorem w_named : about1.methodNamed? x = some theMethod := by decide +kernel
set_option maxRecDepth 65536 in
theorem w_hears : about1.hears theMethod below0 = true := by decide +kernel
set_option maxRecDepth 65536 in
theorem w_ripe : about1.ripe theMethod args0 below0 = true := by decide +kernel
theorem w_running : about1.status = .running := rfl
set_option maxRecDepth 65536 in
theorem w_room : about1.hasRoom e0.platform room_1 = true :=
  launch0.hasRoom_least _ room_1 (by decide +kernel) (by decide +kernel) (by decide +kernel) (by decide +kernel) (by decide +kernel) (by decide +kernel)
theorem allAtoms_all (ts : List Jvm.Cond) (a : Array Jvm.Value) (st : Jvm.State) : (allAtoms ts).before a st = ts.all (fun c => c.before a st) := by
  induction ts with
  | nil => rfl
  | cons c t ih =>
    show (Jvm.Cond.and c (allAtoms t)).before a st = _
    rw [Jvm.Cond.before_and, ih, List.all_cons]
def words1 : List Jvm.Cond := Jvm.Cond.code x code maxLocals ret :: tables_1
/-- a 'code' word, met by the world's own term for the bytes: nothing is compared byte by byte -/
theorem code_word {y : MethodName} {bytes : ByteArray} {mx : Nat} {rt : Option FieldType} {a : Array Value} {s : State} {m : MethodId} {meth : Method} {c : Code} (h1 : s.methodNamed? y = some m) (h2 : s.vm.method? m = some meth) (h3 : meth.code = some c) (h4 : c.code = bytes)
    (h5 : (c.maxLocals == mx && c.exceptionTable.isEmpty && decide (c.maxStack ≤ mostOperands) && decide (meth.sig.returnType = rt) && !meth.locks && decide (parseMethodDescriptor y.desc = some meth.sig)) = true) : (Jvm.Cond.code y bytes mx rt).before a s = true := by
  simp only [Bool.and_eq_true, beq_iff_eq, Bool.not_eq_true', decide_eq_true_eq] at h5
  obtain ⟨⟨⟨⟨⟨g1, g2⟩, g3⟩, g4⟩, g5⟩, g6⟩ := h5
  simp [Cond.before, Cond.holds, Cond.value, h1, h2, h3, h4, g1, g2, g3, g4, g5, g6]
def isCode : Jvm.Cond → Bool
  | .code _ _ _ _ => true
  | _ => false
theorem all_split {L : List Jvm.Cond} {P : Jvm.Cond → Bool} (h1 : L.all (fun c => isCode c || P c) = true) (h2 : ∀ c ∈ L.filter isCode, P c = true) : L.all P = true := by
  refine List.all_eq_true.mpr fun c hc => ?_
  have h := List.all_eq_true.mp h1 c hc
  rcases Bool.eq_false_or_eq_true (isCode c) with hi | hi
  · exact h2 c (List.mem_filter.mpr ⟨hc, hi⟩)
  · simpa [hi] using h
set_option maxRecDepth 65536 in
theorem w_c0 : (Jvm.Cond.code x code maxLocals ret).before args0 about1 = true := code_word (m := ⟨1, 1⟩) (meth := k1m1) (c := k1c1) (by decide +kernel) rfl rfl rfl (by decide +kernel)
set_option maxRecDepth 65536 in
theorem w_c1 : (Jvm.Cond.code ({ cls := "com/example/epikrise/epikrise/core/ControlCharacters", name := "isControl", desc := "(C)Z" } : Jvm.MethodName) prog_31_method_2_code (1 : Nat) (Option.some Jvm.ClassFile.FieldType.boolean)).before args0 about1 = true := code_word (m := ⟨2, 1⟩) (meth := k2m1) (c := k2c1) (by decide +kernel) rfl rfl rfl (by decide +kernel)
def codes1 : List Jvm.Cond := [Jvm.Cond.code x code maxLocals ret, Jvm.Cond.code ({ cls := "com/example/epikrise/epikrise/core/ControlCharacters", name := "isControl", desc := "(C)Z" } : Jvm.MethodName) prog_31_method_2_code (1 : Nat) (Option.some Jvm.ClassFile.FieldType.boolean)]
set_option maxRecDepth 65536 in
theorem codes_eq : words1.filter isCode = codes1 := rfl
theorem w_codes : ∀ c ∈ words1.filter isCode, c.before args0 about1 = true := by
  rw [codes_eq]
  intro c hc
  simp only [codes1, List.mem_cons, List.not_mem_nil, or_false] at hc
  rcases hc with rfl | rfl
  · exact w_c0
  · exact w_c1
set_option maxRecDepth 65536 in
theorem w_t1 : words1.all (fun c => isCode c || c.before args0 about1) = true := by decide +kernel
theorem w_tables : (allAtoms (Jvm.Cond.code x code maxLocals ret :: tables_1)).before args0 about1 = true := by
  rw [allAtoms_all]
  show words1.all (fun c => c.before args0 about1) = true
  refine all_split ?_ w_codes
  rw [w_t1]
set_option maxRecDepth 65536 in
theorem w_case : (Jvm.Cond.and given_1 narrow_1).before args0 about1 = true := by decide +kernel
theorem w_applies : (headSpec (Jvm.Cond.code x code maxLocals ret :: tables_1) room_1).applies x e0.platform about1 = true :=
  (Spec.applies_iff w_frames).mpr ⟨w_running, w_runnable, w_alone, w_named, w_hears, w_ripe, w_room, w_tables⟩
theorem atStart : AtStart classFile x code maxLocals ret World_1 tables_1 room_1 Calls_1 rest_1 Pre_1 launch0 p0 e0 about1 theMethod args0 below0 :=
  ⟨lists_1, trivial, launch0.admits_env _ _ _, launch0.least_env, fairChoices_fair.cas, fairChoices_fair.clock, w_frames, w_args, w_heap, w_applies, trivial, trivial, w_case⟩
end start1
theorem witness_1 : WitnessClaimed_1 := ⟨start1.p0, start1.e0, start1.about1, start1.theMethod, start1.args0, start1.below0, start1.atStart⟩
end Jvm.Pilot.@@N@@
