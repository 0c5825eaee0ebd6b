import JvmDerived
import JvmDerived.Pilot.@@N@@Statement
import JvmDerived.Pilot.@@N@@Code
set_option linter.unusedVariables false
set_option linter.unusedSimpArgs false
namespace Jvm.RoadKit
open Sem ClassFile Op Lib Jvm.Stand Jvm.Free Jvm.LawKit
section New
variable {p : Program} {l : Launch} {e : Env} {R : Room} {s : State} {m : MethodId} {args : Array Value} {below : List Frame} {meth : Method} {c : Code} {T : State} {locs : List Loc} {cells slots : Nat}
theorem retI (X : Stand p l e R s m args below meth c T locs cells slots) (hx : p.tables.exec = Jvm.exec) {pc : Nat} {Ls : Array Slot} {z : Int32} {rest : List Value} (hret : meth.sig.returnType = some .int) (hd : decode c.code pc = .ok (.ireturn, 1)) {fs : List Frame}
    (hl : ∀ (f : JFrame) (acts : List Action), f.method = m → f.locked = none → f.entered = [] → (doReturn e (T.setTop f) acts (some (.int z))).1 = T.setFrames fs) : Steps p.tables e below (T.setTop (mkF m pc Ls (.int z :: rest))) (T.setFrames fs) := by
  have hm' : T.vm.method? m = some meth := X.method'
  have hn : narrow .int (.int z) = .int z := rfl
  show Steps p.tables e below (T.setTop { method := m, pc := pc, locals := Ls, stack := _ :: rest, locked := none }) _
  jvm_step X.here [X.here.top, hx, hd, hm', hret, hn]
  first | (intro acts; rw [hl _ acts rfl rfl rfl]) | rw [hl _ _ rfl rfl rfl]
  exact Steps.refl _
end New
end Jvm.RoadKit
namespace Jvm.Pilot.@@N@@
open Jvm Jvm.ClassFile Sem Op Lib Jvm.Free Jvm.Stand Jvm.LawKit Jvm.RoadKit Bundle Jvm.Pilot.@@N@@.Jvm.D
section Own
variable {p : Program} {l : Launch} {e : Env} {R : Room} {s : State} {m : MethodId} {args : Array Value} {below : List Frame} {meth : Method} {c : Code} {bs : ByteArray} {ml : Nat} {own nm : String} {rt : Option FieldType} {Z : State} {F : State → Outcome → Prop} {n0 : Nat} {h h' : Heap} {cells slots : Nat} {pc q : Nat} {Ls Ls' : Array Slot} {st : List Value} {a0 : Array Value}
def oCx (p : Program) (s : State) (m : MethodId) (meth : Method) (c : Code) (bs : ByteArray) (ml : Nat) (own nm : String) (rt : Option FieldType) (Z : State) : Prop :=
  p.tables.exec = Jvm.exec ∧ c.code = bs ∧ c.maxLocals = ml ∧ s.vm.findClass own = some m.cls ∧ Z.Warmed39 s.vm ∧ meth.name = nm ∧ meth.sig.returnType = rt ∧ meth.locks = false
def oW (p : Program) (l : Launch) (e : Env) (R : Room) (s : State) (m : MethodId) (args : Array Value) (below : List Frame) (meth : Method) (c : Code) (F : State → Outcome → Prop) (n0 : Nat) (h : Heap) (cells slots : Nat) (f : JFrame) : Prop :=
  ∀ (T : State) (locs : List Loc), Stand p l e R s m args below meth c T locs cells slots → T.heap = h → Fr n0 locs → ∃ s₂ o, Steps p.tables e below (T.setTop f) s₂ ∧ s₂.status = .running ∧ Ended s₂ below o ∧ F s₂ o
def oFin (s : State) (n0 k n : Nat) (Q : Option Value → Heap → Prop) (s₂ : State) (o : Outcome) : Prop := ∃ v L, o = .returned v ∧ (Fr n0 L ∧ Q v s₂.heap) ∧ FrameEnd s o s₂ L k n
def oMet (l : Launch) (Z : State) (y : MethodName) (bs : ByteArray) (ml : Nat) (rt : Option FieldType) (ws : List Jvm.Cond) (R : Room) (k n n0 : Nat) (as' : Array Value) (h0 : Heap) (Q : Option Value → Heap → Prop) : Prop :=
  MetFree l y (head1 (Jvm.Cond.code y bs ml rt :: ws) R) (fun a U => a = as' ∧ Z.Warmed39 U.vm ∧ U.heap = h0) (fun _ _ _ _ _ => True) (fun _ U o U' => ∃ v L, o = .returned v ∧ (Fr n0 L ∧ Q v U'.heap) ∧ FrameEnd U o U' L k n)
theorem oMet.intro {y : MethodName} {ws : List Jvm.Cond} {k n : Nat} {as' : Array Value} {h0 : Heap} {Q : Option Value → Heap → Prop} (pn : plainFor y = true) (ef : ∀ m, entryFrame m as' ml = mkF m 0 Ls [])
    (body : ∀ (p : Program) (e : Env) (s : State) (m : MethodId) (below : List Frame) (meth : Method) (c : Code), oCx p s m meth c bs ml y.cls y.name rt Z → oW p l e R s m as' below meth c (oFin s n0 k n Q) n0 h0 0 0 (mkF m 0 Ls [])) :
    oMet l Z y bs ml rt ws R k n n0 as' h0 Q := by
  refine MetFree.of_bodySF pn hisR ?_
  intro p e s m args below meth c s₁ Bd hml0 hP hK
  obtain ⟨rfl, hZ, hh⟩ := hP
  have e0 : s₁.heap = h0 := by rw [← hh, Bd.state]; rfl
  have C : oCx p s m meth c bs ml y.cls y.name rt Z := ⟨Bd.exec, Bd.bytes, hml0, findClass_of_methodNamed Bd.named, hZ, (name_of_methodNamed Bd.named Bd.method).1, Bd.returns, Bd.notSynchronized⟩
  obtain ⟨s₂, o, h1, h2, h3, h4⟩ := body p e s m below meth c C s₁ [] (Stand.of_body Bd) e0 (Fr.nil n0)
  exact ⟨s₂, o, castTop (ef m) h1, h2, h3, h4⟩
theorem oMet.mono {y : MethodName} {ws : List Jvm.Cond} {k n : Nat} {as' : Array Value} {h0 : Heap} {Q Q' : Option Value → Heap → Prop} (M : oMet l Z y bs ml rt ws R k n n0 as' h0 Q) (hq : ∀ v h, Q v h → Q' v h) : oMet l Z y bs ml rt ws R k n n0 as' h0 Q' := by
  intro p e ha hc hk s m args below hf happ hP hK
  obtain ⟨n', o, h1, h2, h3, v, L, h4, ⟨h5, h6⟩, h7⟩ := M p e ha hc hk s m args below hf happ hP hK
  exact ⟨n', o, h1, h2, h3, v, L, h4, ⟨h5, hq _ _ h6⟩, h7⟩
theorem oW.of {f f' : JFrame} (k : ∀ (T : State) (locs : List Loc), Stand p l e R s m args below meth c T locs cells slots → ∀ t, Steps p.tables e below (T.setTop f') t → Steps p.tables e below (T.setTop f) t)
    (g : oW p l e R s m args below meth c F n0 h cells slots f') : oW p l e R s m args below meth c F n0 h cells slots f := fun T locs X eT N => by
  obtain ⟨s₂, o, h1, h2⟩ := g T locs X eT N
  exact ⟨s₂, o, k T locs X _ h1, h2⟩
theorem oIloadN (C : oCx p s m meth c bs ml own nm rt Z) {k : Fin 4} {v : Int32} (hd : decode bs pc = .ok (.iload_n k, 1)) (hl : Ls[k.val]? = some (.val (.int v))) (hq : pc + 1 = q) (g : oW p l e R s m args below meth c F n0 h cells slots (mkF m q Ls (.int v :: st))) : oW p l e R s m args below meth c F n0 h cells slots (mkF m pc Ls (st)) := by
  subst hq; exact oW.of (fun T locs X t k => XS.iloadN X.here C.1 rfl (hb C.2.1 hd) hl k) g
theorem oIload (C : oCx p s m meth c bs ml own nm rt Z) {k : Nat} {v : Int32} (hd : decode bs pc = .ok (.iload k, 2)) (hl : Ls[k]? = some (.val (.int v))) (hq : pc + 2 = q) (g : oW p l e R s m args below meth c F n0 h cells slots (mkF m q Ls (.int v :: st))) : oW p l e R s m args below meth c F n0 h cells slots (mkF m pc Ls (st)) := by
  subst hq; exact oW.of (fun T locs X t k => XS.iload X.here C.1 rfl (hb C.2.1 hd) hl k) g
theorem oIstoreN (C : oCx p s m meth c bs ml own nm rt Z) {k : Fin 4} {v : Int32} (hd : decode bs pc = .ok (.istore_n k, 1)) (hl : storeLocals Ls k.val (.int v) = some Ls') (hq : pc + 1 = q) (g : oW p l e R s m args below meth c F n0 h cells slots (mkF m q Ls' (st))) : oW p l e R s m args below meth c F n0 h cells slots (mkF m pc Ls (.int v :: st)) := by
  subst hq; exact oW.of (fun T locs X t k => XS.istoreN X.here C.1 rfl (hb C.2.1 hd) rfl hl k) g
theorem oIstore (C : oCx p s m meth c bs ml own nm rt Z) {k : Nat} {v : Int32} (hd : decode bs pc = .ok (.istore k, 2)) (hl : storeLocals Ls k (.int v) = some Ls') (hq : pc + 2 = q) (g : oW p l e R s m args below meth c F n0 h cells slots (mkF m q Ls' (st))) : oW p l e R s m args below meth c F n0 h cells slots (mkF m pc Ls (.int v :: st)) := by
  subst hq; exact oW.of (fun T locs X t k => XS.istore X.here C.1 rfl (hb C.2.1 hd) rfl hl k) g
theorem oIconst (C : oCx p s m meth c bs ml own nm rt Z) {i : Int} {z : Int32} (hd : decode bs pc = .ok (.iconst i, 1)) (hz : Int32.ofInt i = z) (hq : pc + 1 = q) (g : oW p l e R s m args below meth c F n0 h cells slots (mkF m q Ls (.int z :: st))) : oW p l e R s m args below meth c F n0 h cells slots (mkF m pc Ls (st)) := by
  subst hq; exact oW.of (fun T locs X t k => XS.iconst X.here C.1 rfl (hb C.2.1 hd) (hz ▸ k)) g
theorem oBipush (C : oCx p s m meth c bs ml own nm rt Z) {i : Int} {z : Int32} (hd : decode bs pc = .ok (.bipush i, 2)) (hz : (Int8.ofInt i).toInt32 = z) (hq : pc + 2 = q) (g : oW p l e R s m args below meth c F n0 h cells slots (mkF m q Ls (.int z :: st))) : oW p l e R s m args below meth c F n0 h cells slots (mkF m pc Ls (st)) := by
  subst hq; exact oW.of (fun T locs X t k => XS.bipush X.here C.1 rfl (hb C.2.1 hd) (hz ▸ k)) g
theorem oIand (C : oCx p s m meth c bs ml own nm rt Z) {x y : Int32} (hd : decode bs pc = .ok (.iand, 1)) (hq : pc + 1 = q) (g : oW p l e R s m args below meth c F n0 h cells slots (mkF m q Ls (.int (x &&& y) :: st))) : oW p l e R s m args below meth c F n0 h cells slots (mkF m pc Ls (.int y :: .int x :: st)) := by
  subst hq; exact oW.of (fun T locs X t k => XS.iand X.here C.1 rfl (hb C.2.1 hd) rfl k) g
theorem oI2C (C : oCx p s m meth c bs ml own nm rt Z) {x : Int32} (hd : decode bs pc = .ok (.i2c, 1)) (hq : pc + 1 = q) (g : oW p l e R s m args below meth c F n0 h cells slots (mkF m q Ls (.int (x.toUInt32.toUInt16.toUInt32.toInt32) :: st))) : oW p l e R s m args below meth c F n0 h cells slots (mkF m pc Ls (.int x :: st)) := by
  subst hq; exact oW.of (fun T locs X t k => XS.i2c X.here C.1 rfl (hb C.2.1 hd) rfl k) g
theorem oGoto (C : oCx p s m meth c bs ml own nm rt Z) {o : Int} (hd : decode bs pc = .ok (.goto o, 3)) (ho : 0 ≤ (pc : Int) + o) (hp : ((pc : Int) + o).toNat = q) (g : oW p l e R s m args below meth c F n0 h cells slots (mkF m q Ls (st))) : oW p l e R s m args below meth c F n0 h cells slots (mkF m pc Ls (st)) :=
  oW.of (fun T locs X t k => XS.goto X.here C.1 rfl (pc0 := pc) rfl (hb C.2.1 hd) ho hp k) g
theorem oIcmp_eq (C : oCx p s m meth c bs ml own nm rt Z) {x y : Int32} {o : Int} {r : Nat} (hd : decode bs pc = .ok (.if_icmp .eq o, 3)) (ho : 0 ≤ (pc : Int) + o) (hp : ((pc : Int) + o).toNat = q) (hr : pc + 3 = r) (gy : x = y → oW p l e R s m args below meth c F n0 h cells slots (mkF m q Ls (st))) (gn : ¬ x = y → oW p l e R s m args below meth c F n0 h cells slots (mkF m r Ls (st))) : oW p l e R s m args below meth c F n0 h cells slots (mkF m pc Ls (.int y :: .int x :: st)) := by
  subst hr
  by_cases hc : x = y
  · exact oW.of (fun T locs X t k => XS.icmpYes X.here C.1 rfl (pc0 := pc) rfl (hb C.2.1 hd) rfl (teq hc).1 ho hp k) (gy hc)
  · exact oW.of (fun T locs X t k => XS.icmpNo X.here C.1 rfl (hb C.2.1 hd) rfl (feq hc).1 k) (gn hc)
theorem oIf_eq (C : oCx p s m meth c bs ml own nm rt Z) {x : Int32} {o : Int} {r : Nat} (hd : decode bs pc = .ok (.ifCond .eq o, 3)) (ho : 0 ≤ (pc : Int) + o) (hp : ((pc : Int) + o).toNat = q) (hr : pc + 3 = r) (gy : x = 0 → oW p l e R s m args below meth c F n0 h cells slots (mkF m q Ls (st))) (gn : ¬ x = 0 → oW p l e R s m args below meth c F n0 h cells slots (mkF m r Ls (st))) : oW p l e R s m args below meth c F n0 h cells slots (mkF m pc Ls (.int x :: st)) := by
  subst hr
  by_cases hc : x = 0
  · exact oW.of (fun T locs X t k => XS.ifYes X.here C.1 rfl (pc0 := pc) rfl (hb C.2.1 hd) rfl ((if0 _ _).trans (teq hc).1) ho hp k) (gy hc)
  · exact oW.of (fun T locs X t k => XS.ifNo X.here C.1 rfl (hb C.2.1 hd) rfl ((if0 _ _).trans (feq hc).1) k) (gn hc)
theorem oIcmp_ne (C : oCx p s m meth c bs ml own nm rt Z) {x y : Int32} {o : Int} {r : Nat} (hd : decode bs pc = .ok (.if_icmp .ne o, 3)) (ho : 0 ≤ (pc : Int) + o) (hp : ((pc : Int) + o).toNat = q) (hr : pc + 3 = r) (gy : ¬ x = y → oW p l e R s m args below meth c F n0 h cells slots (mkF m q Ls (st))) (gn : x = y → oW p l e R s m args below meth c F n0 h cells slots (mkF m r Ls (st))) : oW p l e R s m args below meth c F n0 h cells slots (mkF m pc Ls (.int y :: .int x :: st)) := by
  subst hr
  by_cases hc : x = y
  · exact oW.of (fun T locs X t k => XS.icmpNo X.here C.1 rfl (hb C.2.1 hd) rfl (teq hc).2 k) (gn hc)
  · exact oW.of (fun T locs X t k => XS.icmpYes X.here C.1 rfl (pc0 := pc) rfl (hb C.2.1 hd) rfl (feq hc).2 ho hp k) (gy hc)
theorem oIf_ne (C : oCx p s m meth c bs ml own nm rt Z) {x : Int32} {o : Int} {r : Nat} (hd : decode bs pc = .ok (.ifCond .ne o, 3)) (ho : 0 ≤ (pc : Int) + o) (hp : ((pc : Int) + o).toNat = q) (hr : pc + 3 = r) (gy : ¬ x = 0 → oW p l e R s m args below meth c F n0 h cells slots (mkF m q Ls (st))) (gn : x = 0 → oW p l e R s m args below meth c F n0 h cells slots (mkF m r Ls (st))) : oW p l e R s m args below meth c F n0 h cells slots (mkF m pc Ls (.int x :: st)) := by
  subst hr
  by_cases hc : x = 0
  · exact oW.of (fun T locs X t k => XS.ifNo X.here C.1 rfl (hb C.2.1 hd) rfl ((if0 _ _).trans (teq hc).2) k) (gn hc)
  · exact oW.of (fun T locs X t k => XS.ifYes X.here C.1 rfl (pc0 := pc) rfl (hb C.2.1 hd) rfl ((if0 _ _).trans (feq hc).2) ho hp k) (gy hc)
theorem oIcmp_lt (C : oCx p s m meth c bs ml own nm rt Z) {x y : Int32} {o : Int} {r : Nat} (hd : decode bs pc = .ok (.if_icmp .lt o, 3)) (ho : 0 ≤ (pc : Int) + o) (hp : ((pc : Int) + o).toNat = q) (hr : pc + 3 = r) (gy : x < y → oW p l e R s m args below meth c F n0 h cells slots (mkF m q Ls (st))) (gn : ¬ x < y → oW p l e R s m args below meth c F n0 h cells slots (mkF m r Ls (st))) : oW p l e R s m args below meth c F n0 h cells slots (mkF m pc Ls (.int y :: .int x :: st)) := by
  subst hr
  by_cases hc : x < y
  · exact oW.of (fun T locs X t k => XS.icmpYes X.here C.1 rfl (pc0 := pc) rfl (hb C.2.1 hd) rfl (tlt hc).1 ho hp k) (gy hc)
  · exact oW.of (fun T locs X t k => XS.icmpNo X.here C.1 rfl (hb C.2.1 hd) rfl (flt hc).1 k) (gn hc)
theorem oIcmp_gt (C : oCx p s m meth c bs ml own nm rt Z) {x y : Int32} {o : Int} {r : Nat} (hd : decode bs pc = .ok (.if_icmp .gt o, 3)) (ho : 0 ≤ (pc : Int) + o) (hp : ((pc : Int) + o).toNat = q) (hr : pc + 3 = r) (gy : y < x → oW p l e R s m args below meth c F n0 h cells slots (mkF m q Ls (st))) (gn : ¬ y < x → oW p l e R s m args below meth c F n0 h cells slots (mkF m r Ls (st))) : oW p l e R s m args below meth c F n0 h cells slots (mkF m pc Ls (.int y :: .int x :: st)) := by
  subst hr
  by_cases hc : y < x
  · exact oW.of (fun T locs X t k => XS.icmpYes X.here C.1 rfl (pc0 := pc) rfl (hb C.2.1 hd) rfl (tlt hc).2.2.1 ho hp k) (gy hc)
  · exact oW.of (fun T locs X t k => XS.icmpNo X.here C.1 rfl (hb C.2.1 hd) rfl (flt hc).2.2.1 k) (gn hc)
theorem oIcmp_le (C : oCx p s m meth c bs ml own nm rt Z) {x y : Int32} {o : Int} {r : Nat} (hd : decode bs pc = .ok (.if_icmp .le o, 3)) (ho : 0 ≤ (pc : Int) + o) (hp : ((pc : Int) + o).toNat = q) (hr : pc + 3 = r) (gy : ¬ y < x → oW p l e R s m args below meth c F n0 h cells slots (mkF m q Ls (st))) (gn : y < x → oW p l e R s m args below meth c F n0 h cells slots (mkF m r Ls (st))) : oW p l e R s m args below meth c F n0 h cells slots (mkF m pc Ls (.int y :: .int x :: st)) := by
  subst hr
  by_cases hc : y < x
  · exact oW.of (fun T locs X t k => XS.icmpNo X.here C.1 rfl (hb C.2.1 hd) rfl (tlt hc).2.2.2 k) (gn hc)
  · exact oW.of (fun T locs X t k => XS.icmpYes X.here C.1 rfl (pc0 := pc) rfl (hb C.2.1 hd) rfl (flt hc).2.2.2 ho hp k) (gy hc)
section Rets
variable {k n : Nat} {Q : Option Value → Heap → Prop} {rt' : FieldType}
theorem oRetN (C : oCx p s m meth c bs ml own nm (some rt') Z) (ht : rt' = .boolean ∨ rt' = .byte ∨ rt' = .char ∨ rt' = .short) {z z' : Int32} (hd : decode bs pc = .ok (.ireturn, 1)) (hz : nar rt' z = z') (hk : cells ≤ k) (hn : slots ≤ n) (hQ : Q (some (.int z')) h) :
    oW p l e R s m args below meth c (oFin s n0 k n Q) n0 h cells slots (mkF m pc Ls (.int z :: st)) := fun T locs X eT N => by
  subst hz eT
  obtain ⟨fs, hr, hrun, hended, hW, hsame⟩ := X.leave (v := some (.int (nar rt' z))) (fun hh => by rw [C.2.2.2.2.2.2.1] at hh; cases hh) C.2.2.2.2.2.2.2
  exact ⟨_, _, retN X C.1 C.2.2.2.2.2.2.1 ht (hb C.2.1 hd) hr, hrun, hended, _, _, rfl, ⟨N, hQ⟩, ⟨_, rfl⟩, hW, hsame.mono hk hn⟩
theorem oRetZ (C : oCx p s m meth c bs ml own nm (some .boolean) Z) {z z' : Int32} (hd : decode bs pc = .ok (.ireturn, 1)) (hz : nar .boolean z = z') (hk : cells ≤ k) (hn : slots ≤ n) (hQ : Q (some (.int z')) h) :
    oW p l e R s m args below meth c (oFin s n0 k n Q) n0 h cells slots (mkF m pc Ls (.int z :: st)) := oRetN C (Or.inl rfl) hd hz hk hn hQ
theorem oRetI (C : oCx p s m meth c bs ml own nm (some .int) Z) {z : Int32} (hd : decode bs pc = .ok (.ireturn, 1)) (hk : cells ≤ k) (hn : slots ≤ n) (hQ : Q (some (.int z)) h) :
    oW p l e R s m args below meth c (oFin s n0 k n Q) n0 h cells slots (mkF m pc Ls (.int z :: st)) := fun T locs X eT N => by
  subst eT
  obtain ⟨fs, hr, hrun, hended, hW, hsame⟩ := X.leave (v := some (.int z)) (fun hh => by rw [C.2.2.2.2.2.2.1] at hh; cases hh) C.2.2.2.2.2.2.2
  exact ⟨_, _, retI X C.1 C.2.2.2.2.2.2.1 (hb C.2.1 hd) hr, hrun, hended, _, _, rfl, ⟨N, hQ⟩, ⟨_, rfl⟩, hW, hsame.mono hk hn⟩
end Rets
section Calls
variable {i : Nat} {y : MethodName} {bs' : ByteArray} {ml' : Nat} {rt' : Option FieldType} {R' : Room} {Q : Option Value → Heap → Prop} {argsL rest : List Value} {ps : List FieldType} {r' : Option FieldType} {W : Nat} {a : Addr}
theorem oCallS (C : oCx p s m meth c bs ml own nm rt Z) (w1 : (Jvm.Cond.methodLink own i y).before a0 Z = true) (w2 : (Jvm.Cond.static y).before a0 Z = true) (w3 : (Jvm.Cond.initialized y.cls).before a0 Z = true) (w4 : (Jvm.Cond.code y bs' ml' rt').before a0 Z = true) (hd : decode bs pc = .ok (.invokestatic i, 3))
    (hy : y.cls ≠ "java/lang/invoke/MethodHandle" ∧ y.cls ≠ "java/lang/invoke/VarHandle") (hpd : parseMethodDescriptor y.desc = some ⟨ps, r'⟩) (hlen : argsL.length = ps.length) (hsz : Ls.size = ml) (hst : argsL.reverse ++ rest = st) (hW : (rest.map fun v => v.category).sum = W) (hq : pc + 3 = q)
    (hf : R'.frames + 1 ≤ R.frames) (hl : W + (ml' + 11) + R'.locals ≤ R.locals) (hc : cells + R'.cells ≤ R.cells) (hs : slots + R'.slots ≤ R.slots)
    (M : oMet l Z y bs' ml' rt' [] R' R'.cells R'.slots n0 argsL.toArray h Q)
    (g : ∀ v h', Q v h' → oW p l e R s m args below meth c F n0 h' (cells + R'.cells) (slots + R'.slots) (mkF m q Ls (v.toList ++ rest))) :
    oW p l e R s m args below meth c F n0 h cells slots (mkF m pc Ls st) := fun T locs X eT N => by
  subst hq hst
  have hZ := C.2.2.2.2.1
  obtain ⟨v, _, ⟨T', L', k', n'⟩, -, X', ⟨Lc, ⟨hN, hQ⟩, l', y', z'⟩, st'⟩ := Jvm.LawKit.callS X C.1 (y := y) C.2.2.2.1 (mvT hZ w1) (mvT hZ w2) (mvT hZ w3) (mvT hZ w4) hy (backOf (W := W) (Q := fun v h L => Fr n0 L ∧ Q v h) M hZ w4 w3 hf hl) (g := mkF m pc Ls (argsL.reverse ++ rest)) rfl (hsz.trans C.2.2.1.symm) (argsL := argsL) (rest := rest) (lenOf hpd hlen) rfl (by show 2 * 0 + _ ≤ _; omega) (hb C.2.1 hd) (fun _ _ => ⟨rfl, eT, hc, hs⟩)
  dsimp only [Pt.U, Pt.locs, Pt.cells, Pt.slots] at X' l' y' z' st' hQ
  subst l' y' z'
  obtain ⟨s₂, o, h1, h2⟩ := g v T'.heap hQ T' _ X' rfl (Fr.app N hN)
  exact ⟨s₂, o, st' _ h1, h2⟩
def oMetH (l : Launch) (Z : State) (y : MethodName) (bs : ByteArray) (ml : Nat) (rt : Option FieldType) (tr : List (Nat × Nat × Nat × Nat)) (R : Room) (k n n0 : Nat) (as' : Array Value) (h0 : Heap) (Q : Option Value → Heap → Prop) : Prop :=
  MetFree l y (head1 [Jvm.Cond.codeWith y bs ml rt tr] R) (fun a U => a = as' ∧ Z.Warmed39 U.vm ∧ U.heap = h0) (fun _ _ _ _ _ => True) (fun _ U o U' => ∃ v L, o = .returned v ∧ (Fr n0 L ∧ Q v U'.heap) ∧ FrameEnd U o U' L k n)
theorem oMetH.intro {tr : List (Nat × Nat × Nat × Nat)} {k n : Nat} {as' : Array Value} {h0 : Heap} (pn : plainFor y = true) (ef : ∀ m, entryFrame m as' ml = mkF m 0 Ls [])
    (body : ∀ (p : Program) (e : Env) (s : State) (m : MethodId) (below : List Frame) (meth : Method) (c : Code), oCx p s m meth c bs ml y.cls y.name rt Z → oW p l e R s m as' below meth c (oFin s n0 k n Q) n0 h0 0 0 (mkF m 0 Ls [])) :
    oMetH l Z y bs ml rt tr R k n n0 as' h0 Q := by
  refine MetFree.of_bodySF pn hisWith ?_
  intro p e s m args below meth c s₁ Bd hml0 hP hK
  obtain ⟨rfl, hZ, hh⟩ := hP
  have e0 : s₁.heap = h0 := by rw [← hh, Bd.state]; rfl
  have C : oCx p s m meth c bs ml y.cls y.name rt Z := ⟨Bd.exec, Bd.bytes, hml0, findClass_of_methodNamed Bd.named, hZ, (name_of_methodNamed Bd.named Bd.method).1, Bd.returns, Bd.notSynchronized⟩
  obtain ⟨s₂, o, h1, h2, h3, h4⟩ := body p e s m below meth c C s₁ [] (Stand.of_body Bd) e0 (Fr.nil n0)
  exact ⟨s₂, o, castTop (ef m) h1, h2, h3, h4⟩
theorem oPureK {w : Value} {hc : Heap} (g : oW p l e R s m args below meth c F n0 hc cells slots (mkF m q Ls (w :: rest))) : ∀ (v : Option Value) (h' : Heap), (v = some w ∧ h' = hc) → oW p l e R s m args below meth c F n0 h' cells slots (mkF m q Ls (v.toList ++ rest)) := by
  rintro _ _ ⟨rfl, rfl⟩; exact g
end Calls
theorem oCastI {z z' : Int32} (hz : z = z') (g : oW p l e R s m args below meth c F n0 h cells slots (mkF m pc Ls (.int z' :: st))) : oW p l e R s m args below meth c F n0 h cells slots (mkF m pc Ls (.int z :: st)) := hz ▸ g
theorem oJoin {α : Type} {f : JFrame} (P : α → Prop) (hh : α → Heap) (fr : α → JFrame) {k n : Nat} (j : ∀ w, P w → oW p l e R s m args below meth c F n0 (hh w) k n (fr w)) (g : (∀ w, P w → oW p l e R s m args below meth c F n0 (hh w) k n (fr w)) → oW p l e R s m args below meth c F n0 h cells slots f) : oW p l e R s m args below meth c F n0 h cells slots f := g j
def oAr (Z : State) (h : Heap) (a : Addr) (ty : FieldType) (vs : List Value) : Prop := ∃ c : Cell, Arr Z h a c ty ∧ c.slots.toList = vs
section Arrays
variable {a b : Addr} {ty : FieldType} {vs : List Value} {v : Value} {sl : Nat}
theorem oAr.lt (A : oAr Z h a ty vs) : a < h.size := by obtain ⟨c, A, -⟩ := A; exact A.lt
end Arrays
def oKe (h0 h : Heap) (ws : List Addr) (fs : List (Addr × Nat)) : Prop := h0.size ≤ h.size ∧ ∀ (x : Addr) (c : Cell), h0[x]? = some c → ∃ c' : Cell, h[x]? = some c' ∧ c'.cls = c.cls ∧ c'.vm = c.vm ∧ c'.slots.size = c.slots.size ∧ (x ∉ ws → ∀ j, (x, j) ∉ fs → c'.slots[j]? = c.slots[j]?)
section Ke
variable {h0 : Heap} {ws ws' : List Addr} {fs fs' : List (Addr × Nat)} {a b : Addr} {sl : Nat} {v : Value} {ty : FieldType} {vs : List Value} {K O n d : String}
theorem oKe.refl (h : Heap) (ws : List Addr) (fs : List (Addr × Nat)) : oKe h h ws fs := ⟨Nat.le_refl _, fun x c q => ⟨c, q, rfl, rfl, rfl, fun _ _ _ => rfl⟩⟩
theorem oKe.trans (A : oKe h0 h ws fs) (B : oKe h h' ws' fs') (q1 : ∀ x ∈ ws', x ∈ ws ∨ h0.size ≤ x) (q2 : ∀ x ∈ fs', x ∈ fs ∨ h0.size ≤ x.1) : oKe h0 h' ws fs := by
  refine ⟨Nat.le_trans A.1 B.1, fun x c hx => ?_⟩
  obtain ⟨c1, e1, e2, e3, e4, e5⟩ := A.2 x c hx
  obtain ⟨c2, g1, g2, g3, g4, g5⟩ := B.2 x c1 e1
  have lt := (Array.getElem?_eq_some_iff.mp hx).1
  refine ⟨c2, g1, g2.trans e2, g3.trans e3, g4.trans e4, fun hn j hj => ?_⟩
  rw [g5 (fun z => (q1 x z).elim hn (fun y => absurd lt (Nat.not_lt.mpr y))) j (fun z => (q2 _ z).elim hj (fun y => absurd lt (Nat.not_lt.mpr y)))]
  exact e5 hn j hj
end Ke
end Own
section Own2
variable {p : Program} {l : Launch} {e : Env} {R : Room} {s : State} {m : MethodId} {args : Array Value} {below : List Frame} {meth : Method} {c : Code} {bs : ByteArray} {ml : Nat} {own nm : String} {rt : Option FieldType} {Z : State} {F : State → Outcome → Prop} {n0 : Nat} {h h' : Heap} {cells slots : Nat} {pc q : Nat} {Ls Ls' : Array Slot} {st : List Value} {a0 : Array Value}
section ArraysO
variable {a b : Addr} {K : String} {vs : List Value} {v : Value} {sl : Nat}
end ArraysO
section Stas
variable {K n d : String} {v w : Value} {a : Addr} {sl : Nat}
end Stas
end Own2
abbrev oHw (a0 : Array Value) (Z : State) : Prop := ∀ d ∈ tables_1, d.before a0 Z = true
theorem w0 {a0 : Array Value} {Z : State} (hw : oHw a0 Z) : (Jvm.Cond.methodLink "com/example/epikrise/epikrise/core/XmlTextIsNameCharacterPinLaw" (7 : Nat) ({ cls := "com/example/epikrise/epikrise/core/XmlTextIsNameCharacterPinLaw", name := "kind", desc := "(C)I" } : Jvm.MethodName)).before a0 Z = true := hw _ (List.mem_of_getElem? (i := 0) rfl)
theorem w1 {a0 : Array Value} {Z : State} (hw : oHw a0 Z) : (Jvm.Cond.static ({ cls := "com/example/epikrise/epikrise/core/XmlTextIsNameCharacterPinLaw", name := "kind", desc := "(C)I" } : Jvm.MethodName)).before a0 Z = true := hw _ (List.mem_of_getElem? (i := 1) rfl)
theorem w2 {a0 : Array Value} {Z : State} (hw : oHw a0 Z) : (Jvm.Cond.initialized "com/example/epikrise/epikrise/core/XmlTextIsNameCharacterPinLaw").before a0 Z = true := hw _ (List.mem_of_getElem? (i := 2) rfl)
theorem w3 {a0 : Array Value} {Z : State} (hw : oHw a0 Z) : (Jvm.Cond.code ({ cls := "com/example/epikrise/epikrise/core/XmlTextIsNameCharacterPinLaw", name := "kind", desc := "(C)I" } : Jvm.MethodName) method_2_code (2 : Nat) (Option.some Jvm.ClassFile.FieldType.int)).before a0 Z = true := hw _ (List.mem_of_getElem? (i := 3) rfl)
theorem w4 {a0 : Array Value} {Z : State} (hw : oHw a0 Z) : (Jvm.Cond.methodLink "com/example/epikrise/epikrise/core/XmlTextIsNameCharacterPinLaw" (13 : Nat) ({ cls := "com/example/epikrise/epikrise/core/XmlText", name := "isNameCharacter", desc := "(CZZ)Z" } : Jvm.MethodName)).before a0 Z = true := hw _ (List.mem_of_getElem? (i := 4) rfl)
theorem w5 {a0 : Array Value} {Z : State} (hw : oHw a0 Z) : (Jvm.Cond.static ({ cls := "com/example/epikrise/epikrise/core/XmlText", name := "isNameCharacter", desc := "(CZZ)Z" } : Jvm.MethodName)).before a0 Z = true := hw _ (List.mem_of_getElem? (i := 5) rfl)
theorem w6 {a0 : Array Value} {Z : State} (hw : oHw a0 Z) : (Jvm.Cond.initialized "com/example/epikrise/epikrise/core/XmlText").before a0 Z = true := hw _ (List.mem_of_getElem? (i := 6) rfl)
theorem w7 {a0 : Array Value} {Z : State} (hw : oHw a0 Z) : (Jvm.Cond.code ({ cls := "com/example/epikrise/epikrise/core/XmlText", name := "isNameCharacter", desc := "(CZZ)Z" } : Jvm.MethodName) prog_120_method_6_code (5 : Nat) (Option.some Jvm.ClassFile.FieldType.boolean)).before a0 Z = true := hw _ (List.mem_of_getElem? (i := 7) rfl)
theorem ef_1 (m : MethodId) (x0 : Int32) : entryFrame m #[.int x0] 2 = mkF m 0 #[.val (.int x0), .unset] [] := by first | (simp [entryFrame, mkF, argsToLocals, Value.category]; done) | rfl
theorem pn_803950 : plainName "com/example/epikrise/epikrise/core/XmlTextIsNameCharacterPinLaw" = true := by first | (simp [plainName, overriddenIn]; done) | decide +kernel
def fKind (ch : Int32) : Int32 := (if ch < (97 : Int32) then (if ch = (95 : Int32) then (1 : Int32) else (if ch < (65 : Int32) then (if ch = (58 : Int32) then (3 : Int32) else (if ch < (48 : Int32) then (if ch = (46 : Int32) then (2 : Int32) else (if ch = (45 : Int32) then (2 : Int32) else (0 : Int32))) else (if (57 : Int32) < ch then (0 : Int32) else (2 : Int32)))) else (if (90 : Int32) < ch then (0 : Int32) else (1 : Int32)))) else (if (122 : Int32) < ch then (0 : Int32) else (1 : Int32)))
theorem fKind_def (ch : Int32) : fKind ch = (if ch < (97 : Int32) then (if ch = (95 : Int32) then (1 : Int32) else (if ch < (65 : Int32) then (if ch = (58 : Int32) then (3 : Int32) else (if ch < (48 : Int32) then (if ch = (46 : Int32) then (2 : Int32) else (if ch = (45 : Int32) then (2 : Int32) else (0 : Int32))) else (if (57 : Int32) < ch then (0 : Int32) else (2 : Int32)))) else (if (90 : Int32) < ch then (0 : Int32) else (1 : Int32)))) else (if (122 : Int32) < ch then (0 : Int32) else (1 : Int32))) := rfl
theorem d1_0 : decode method_2_code 0 = .ok (.iload_n 0, 1) := by decide +kernel
theorem d1_1 : decode method_2_code 1 = .ok (.istore_n 1, 1) := by decide +kernel
theorem d1_2 : decode method_2_code 2 = .ok (.iload_n 1, 1) := by decide +kernel
theorem d1_3 : decode method_2_code 3 = .ok (.bipush 97, 2) := by decide +kernel
theorem d1_5 : decode method_2_code 5 = .ok (.if_icmp .lt 15, 3) := by decide +kernel
theorem d1_8 : decode method_2_code 8 = .ok (.iload_n 1, 1) := by decide +kernel
theorem d1_9 : decode method_2_code 9 = .ok (.bipush 122, 2) := by decide +kernel
theorem d1_11 : decode method_2_code 11 = .ok (.if_icmp .gt 7, 3) := by decide +kernel
theorem d1_14 : decode method_2_code 14 = .ok (.iconst 1, 1) := by decide +kernel
theorem d1_15 : decode method_2_code 15 = .ok (.goto 4, 3) := by decide +kernel
theorem d1_18 : decode method_2_code 18 = .ok (.iconst 0, 1) := by decide +kernel
theorem d1_19 : decode method_2_code 19 = .ok (.ireturn, 1) := by decide +kernel
theorem d1_20 : decode method_2_code 20 = .ok (.iload_n 1, 1) := by decide +kernel
theorem d1_21 : decode method_2_code 21 = .ok (.bipush 95, 2) := by decide +kernel
theorem d1_23 : decode method_2_code 23 = .ok (.if_icmp .ne 5, 3) := by decide +kernel
theorem d1_26 : decode method_2_code 26 = .ok (.iconst 1, 1) := by decide +kernel
theorem d1_27 : decode method_2_code 27 = .ok (.ireturn, 1) := by decide +kernel
theorem d1_28 : decode method_2_code 28 = .ok (.iload_n 1, 1) := by decide +kernel
theorem d1_29 : decode method_2_code 29 = .ok (.bipush 65, 2) := by decide +kernel
theorem d1_31 : decode method_2_code 31 = .ok (.if_icmp .lt 15, 3) := by decide +kernel
theorem d1_34 : decode method_2_code 34 = .ok (.iload_n 1, 1) := by decide +kernel
theorem d1_35 : decode method_2_code 35 = .ok (.bipush 90, 2) := by decide +kernel
theorem d1_37 : decode method_2_code 37 = .ok (.if_icmp .gt 7, 3) := by decide +kernel
theorem d1_40 : decode method_2_code 40 = .ok (.iconst 1, 1) := by decide +kernel
theorem d1_41 : decode method_2_code 41 = .ok (.goto 4, 3) := by decide +kernel
theorem d1_44 : decode method_2_code 44 = .ok (.iconst 0, 1) := by decide +kernel
theorem d1_45 : decode method_2_code 45 = .ok (.ireturn, 1) := by decide +kernel
theorem d1_46 : decode method_2_code 46 = .ok (.iload_n 1, 1) := by decide +kernel
theorem d1_47 : decode method_2_code 47 = .ok (.bipush 58, 2) := by decide +kernel
theorem d1_49 : decode method_2_code 49 = .ok (.if_icmp .ne 5, 3) := by decide +kernel
theorem d1_52 : decode method_2_code 52 = .ok (.iconst 3, 1) := by decide +kernel
theorem d1_53 : decode method_2_code 53 = .ok (.ireturn, 1) := by decide +kernel
theorem d1_54 : decode method_2_code 54 = .ok (.iload_n 1, 1) := by decide +kernel
theorem d1_55 : decode method_2_code 55 = .ok (.bipush 48, 2) := by decide +kernel
theorem d1_57 : decode method_2_code 57 = .ok (.if_icmp .lt 15, 3) := by decide +kernel
theorem d1_60 : decode method_2_code 60 = .ok (.iload_n 1, 1) := by decide +kernel
theorem d1_61 : decode method_2_code 61 = .ok (.bipush 57, 2) := by decide +kernel
theorem d1_63 : decode method_2_code 63 = .ok (.if_icmp .gt 7, 3) := by decide +kernel
theorem d1_66 : decode method_2_code 66 = .ok (.iconst 2, 1) := by decide +kernel
theorem d1_67 : decode method_2_code 67 = .ok (.goto 4, 3) := by decide +kernel
theorem d1_70 : decode method_2_code 70 = .ok (.iconst 0, 1) := by decide +kernel
theorem d1_71 : decode method_2_code 71 = .ok (.ireturn, 1) := by decide +kernel
theorem d1_72 : decode method_2_code 72 = .ok (.iload_n 1, 1) := by decide +kernel
theorem d1_73 : decode method_2_code 73 = .ok (.bipush 46, 2) := by decide +kernel
theorem d1_75 : decode method_2_code 75 = .ok (.if_icmp .eq 9, 3) := by decide +kernel
theorem d1_78 : decode method_2_code 78 = .ok (.iload_n 1, 1) := by decide +kernel
theorem d1_79 : decode method_2_code 79 = .ok (.bipush 45, 2) := by decide +kernel
theorem d1_81 : decode method_2_code 81 = .ok (.if_icmp .ne 5, 3) := by decide +kernel
theorem d1_84 : decode method_2_code 84 = .ok (.iconst 2, 1) := by decide +kernel
theorem d1_85 : decode method_2_code 85 = .ok (.ireturn, 1) := by decide +kernel
theorem d1_86 : decode method_2_code 86 = .ok (.iconst 0, 1) := by decide +kernel
theorem d1_87 : decode method_2_code 87 = .ok (.ireturn, 1) := by decide +kernel
set_option maxRecDepth 65536 in
set_option maxHeartbeats 40000000 in
theorem mt_fKind (l : Launch) (Z : State) (a0 : Array Value) (hw : oHw a0 Z) (h0 : Heap) (n0 : Nat) (Z0 : n0 ≤ h0.size) (ch : Int32)  :
    oMet l Z (⟨"com/example/epikrise/epikrise/core/XmlTextIsNameCharacterPinLaw", "kind", "(C)I"⟩ : MethodName) method_2_code 2 (some .int) [] ({ frames := 0, cells := 0, slots := 0, locals := 0 } : Room) 0 0 n0 #[.int ch] h0 (fun v h => v = some (.int (fKind ch)) ∧ h = h0) := by
  refine oMet.intro (plainFor_of_name pn_803950) (fun m => ef_1 m ch) ?_
  intro op oe os m obl omt ocd C
  refine oIloadN C d1_0 rfl rfl ?_
  refine oIstoreN C d1_1 (Ls' := #[.val (.int ch), .val (.int ch)]) rfl (q := 2) rfl ?_
  refine oIloadN C d1_2 rfl rfl ?_
  refine oBipush C d1_3 (z := 97) rfl rfl ?_
  refine oIcmp_lt C d1_5 (q := 20) (by decide) (by decide) (r := 8) rfl (fun hc5 => ?_) (fun hc5 => ?_)
  ·
   refine oIloadN C d1_20 rfl rfl ?_
   refine oBipush C d1_21 (z := 95) rfl rfl ?_
   refine oIcmp_ne C d1_23 (q := 28) (by decide) (by decide) (r := 26) rfl (fun hc23 => ?_) (fun hc23 => ?_)
   ·
    refine oIloadN C d1_28 rfl rfl ?_
    refine oBipush C d1_29 (z := 65) rfl rfl ?_
    refine oIcmp_lt C d1_31 (q := 46) (by decide) (by decide) (r := 34) rfl (fun hc31 => ?_) (fun hc31 => ?_)
    ·
     refine oIloadN C d1_46 rfl rfl ?_
     refine oBipush C d1_47 (z := 58) rfl rfl ?_
     refine oIcmp_ne C d1_49 (q := 54) (by decide) (by decide) (r := 52) rfl (fun hc49 => ?_) (fun hc49 => ?_)
     ·
      refine oIloadN C d1_54 rfl rfl ?_
      refine oBipush C d1_55 (z := 48) rfl rfl ?_
      refine oIcmp_lt C d1_57 (q := 72) (by decide) (by decide) (r := 60) rfl (fun hc57 => ?_) (fun hc57 => ?_)
      ·
       refine oIloadN C d1_72 rfl rfl ?_
       refine oBipush C d1_73 (z := 46) rfl rfl ?_
       refine oIcmp_eq C d1_75 (q := 84) (by decide) (by decide) (r := 78) rfl (fun hc75 => ?_) (fun hc75 => ?_)
       ·
        refine oIconst C d1_84 (z := 2) rfl rfl ?_
        refine oRetI C d1_85 (by decide) (by decide) ?_
        exact ⟨by rw [fKind_def, if_pos hc5, if_neg hc23, if_pos hc31, if_neg hc49, if_pos hc57, if_pos hc75], rfl⟩
       ·
        refine oIloadN C d1_78 rfl rfl ?_
        refine oBipush C d1_79 (z := 45) rfl rfl ?_
        refine oIcmp_ne C d1_81 (q := 86) (by decide) (by decide) (r := 84) rfl (fun hc81 => ?_) (fun hc81 => ?_)
        ·
         refine oIconst C d1_86 (z := 0) rfl rfl ?_
         refine oRetI C d1_87 (by decide) (by decide) ?_
         exact ⟨by rw [fKind_def, if_pos hc5, if_neg hc23, if_pos hc31, if_neg hc49, if_pos hc57, if_neg hc75, if_neg hc81], rfl⟩
        ·
         refine oIconst C d1_84 (z := 2) rfl rfl ?_
         refine oRetI C d1_85 (by decide) (by decide) ?_
         exact ⟨by rw [fKind_def, if_pos hc5, if_neg hc23, if_pos hc31, if_neg hc49, if_pos hc57, if_neg hc75, if_pos hc81], rfl⟩
      ·
       refine oIloadN C d1_60 rfl rfl ?_
       refine oBipush C d1_61 (z := 57) rfl rfl ?_
       refine oIcmp_gt C d1_63 (q := 70) (by decide) (by decide) (r := 66) rfl (fun hc63 => ?_) (fun hc63 => ?_)
       ·
        refine oIconst C d1_70 (z := 0) rfl rfl ?_
        refine oRetI C d1_71 (by decide) (by decide) ?_
        exact ⟨by rw [fKind_def, if_pos hc5, if_neg hc23, if_pos hc31, if_neg hc49, if_neg hc57, if_pos hc63], rfl⟩
       ·
        refine oIconst C d1_66 (z := 2) rfl rfl ?_
        refine oGoto C d1_67 (q := 71) (by decide) (by decide) ?_
        refine oRetI C d1_71 (by decide) (by decide) ?_
        exact ⟨by rw [fKind_def, if_pos hc5, if_neg hc23, if_pos hc31, if_neg hc49, if_neg hc57, if_neg hc63], rfl⟩
     ·
      refine oIconst C d1_52 (z := 3) rfl rfl ?_
      refine oRetI C d1_53 (by decide) (by decide) ?_
      exact ⟨by rw [fKind_def, if_pos hc5, if_neg hc23, if_pos hc31, if_pos hc49], rfl⟩
    ·
     refine oIloadN C d1_34 rfl rfl ?_
     refine oBipush C d1_35 (z := 90) rfl rfl ?_
     refine oIcmp_gt C d1_37 (q := 44) (by decide) (by decide) (r := 40) rfl (fun hc37 => ?_) (fun hc37 => ?_)
     ·
      refine oIconst C d1_44 (z := 0) rfl rfl ?_
      refine oRetI C d1_45 (by decide) (by decide) ?_
      exact ⟨by rw [fKind_def, if_pos hc5, if_neg hc23, if_neg hc31, if_pos hc37], rfl⟩
     ·
      refine oIconst C d1_40 (z := 1) rfl rfl ?_
      refine oGoto C d1_41 (q := 45) (by decide) (by decide) ?_
      refine oRetI C d1_45 (by decide) (by decide) ?_
      exact ⟨by rw [fKind_def, if_pos hc5, if_neg hc23, if_neg hc31, if_neg hc37], rfl⟩
   ·
    refine oIconst C d1_26 (z := 1) rfl rfl ?_
    refine oRetI C d1_27 (by decide) (by decide) ?_
    exact ⟨by rw [fKind_def, if_pos hc5, if_pos hc23], rfl⟩
  ·
   refine oIloadN C d1_8 rfl rfl ?_
   refine oBipush C d1_9 (z := 122) rfl rfl ?_
   refine oIcmp_gt C d1_11 (q := 18) (by decide) (by decide) (r := 14) rfl (fun hc11 => ?_) (fun hc11 => ?_)
   ·
    refine oIconst C d1_18 (z := 0) rfl rfl ?_
    refine oRetI C d1_19 (by decide) (by decide) ?_
    exact ⟨by rw [fKind_def, if_neg hc5, if_pos hc11], rfl⟩
   ·
    refine oIconst C d1_14 (z := 1) rfl rfl ?_
    refine oGoto C d1_15 (q := 19) (by decide) (by decide) ?_
    refine oRetI C d1_19 (by decide) (by decide) ?_
    exact ⟨by rw [fKind_def, if_neg hc5, if_neg hc11], rfl⟩
theorem ef_2 (m : MethodId) (x0 : Int32) (x1 : Int32) (x2 : Int32) : entryFrame m #[.int x0, .int x1, .int x2] 5 = mkF m 0 #[.val (.int x0), .val (.int x1), .val (.int x2), .unset, .unset] [] := by first | (simp [entryFrame, mkF, argsToLocals, Value.category]; done) | rfl
theorem pn_842641 : plainName "com/example/epikrise/epikrise/core/XmlText" = true := by first | (simp [plainName, overriddenIn]; done) | decide +kernel
def fLet (ch : Int32) : Int32 := (if ch < (65 : Int32) then (if ch < (97 : Int32) then (if ch = (95 : Int32) then (1 : Int32) else (0 : Int32)) else (if (122 : Int32) < ch then (if ch = (95 : Int32) then (1 : Int32) else (0 : Int32)) else (1 : Int32))) else (if (90 : Int32) < ch then (if ch < (97 : Int32) then (if ch = (95 : Int32) then (1 : Int32) else (0 : Int32)) else (if (122 : Int32) < ch then (if ch = (95 : Int32) then (1 : Int32) else (0 : Int32)) else (1 : Int32))) else (1 : Int32)))
theorem fLet_def (ch : Int32) : fLet ch = (if ch < (65 : Int32) then (if ch < (97 : Int32) then (if ch = (95 : Int32) then (1 : Int32) else (0 : Int32)) else (if (122 : Int32) < ch then (if ch = (95 : Int32) then (1 : Int32) else (0 : Int32)) else (1 : Int32))) else (if (90 : Int32) < ch then (if ch < (97 : Int32) then (if ch = (95 : Int32) then (1 : Int32) else (0 : Int32)) else (if (122 : Int32) < ch then (if ch = (95 : Int32) then (1 : Int32) else (0 : Int32)) else (1 : Int32))) else (1 : Int32))) := rfl
def fDig (ch : Int32) : Int32 := (if ch < (48 : Int32) then (if ch = (46 : Int32) then (1 : Int32) else (if ch = (45 : Int32) then (1 : Int32) else (0 : Int32))) else (if (57 : Int32) < ch then (if ch = (46 : Int32) then (1 : Int32) else (if ch = (45 : Int32) then (1 : Int32) else (0 : Int32))) else (1 : Int32)))
theorem fDig_def (ch : Int32) : fDig ch = (if ch < (48 : Int32) then (if ch = (46 : Int32) then (1 : Int32) else (if ch = (45 : Int32) then (1 : Int32) else (0 : Int32))) else (if (57 : Int32) < ch then (if ch = (46 : Int32) then (1 : Int32) else (if ch = (45 : Int32) then (1 : Int32) else (0 : Int32))) else (1 : Int32))) := rfl
def fNam (ch : Int32) (fi : Int32) (nc : Int32) : Int32 := (if nc = 0 then (if (fLet ch) = 0 then (if (fDig ch) = 0 then (if ch = (58 : Int32) then (1 : Int32) else (0 : Int32)) else (1 : Int32)) else (1 : Int32)) else (if (fLet ch) = 0 then (if fi = 0 then (if (fDig ch) = 0 then (0 : Int32) else (1 : Int32)) else (0 : Int32)) else (1 : Int32)))
theorem fNam_def (ch : Int32) (fi : Int32) (nc : Int32) : fNam ch fi nc = (if nc = 0 then (if (fLet ch) = 0 then (if (fDig ch) = 0 then (if ch = (58 : Int32) then (1 : Int32) else (0 : Int32)) else (1 : Int32)) else (1 : Int32)) else (if (fLet ch) = 0 then (if fi = 0 then (if (fDig ch) = 0 then (0 : Int32) else (1 : Int32)) else (0 : Int32)) else (1 : Int32))) := rfl
theorem d2_0 : decode prog_120_method_6_code 0 = .ok (.iload_n 0, 1) := by decide +kernel
theorem d2_1 : decode prog_120_method_6_code 1 = .ok (.bipush 65, 2) := by decide +kernel
theorem d2_3 : decode prog_120_method_6_code 3 = .ok (.if_icmp .lt 9, 3) := by decide +kernel
theorem d2_6 : decode prog_120_method_6_code 6 = .ok (.iload_n 0, 1) := by decide +kernel
theorem d2_7 : decode prog_120_method_6_code 7 = .ok (.bipush 90, 2) := by decide +kernel
theorem d2_9 : decode prog_120_method_6_code 9 = .ok (.if_icmp .le 21, 3) := by decide +kernel
theorem d2_12 : decode prog_120_method_6_code 12 = .ok (.iload_n 0, 1) := by decide +kernel
theorem d2_13 : decode prog_120_method_6_code 13 = .ok (.bipush 97, 2) := by decide +kernel
theorem d2_15 : decode prog_120_method_6_code 15 = .ok (.if_icmp .lt 9, 3) := by decide +kernel
theorem d2_18 : decode prog_120_method_6_code 18 = .ok (.iload_n 0, 1) := by decide +kernel
theorem d2_19 : decode prog_120_method_6_code 19 = .ok (.bipush 122, 2) := by decide +kernel
theorem d2_21 : decode prog_120_method_6_code 21 = .ok (.if_icmp .le 9, 3) := by decide +kernel
theorem d2_24 : decode prog_120_method_6_code 24 = .ok (.iload_n 0, 1) := by decide +kernel
theorem d2_25 : decode prog_120_method_6_code 25 = .ok (.bipush 95, 2) := by decide +kernel
theorem d2_27 : decode prog_120_method_6_code 27 = .ok (.if_icmp .ne 7, 3) := by decide +kernel
theorem d2_30 : decode prog_120_method_6_code 30 = .ok (.iconst 1, 1) := by decide +kernel
theorem d2_31 : decode prog_120_method_6_code 31 = .ok (.goto 4, 3) := by decide +kernel
theorem d2_34 : decode prog_120_method_6_code 34 = .ok (.iconst 0, 1) := by decide +kernel
theorem d2_35 : decode prog_120_method_6_code 35 = .ok (.istore_n 3, 1) := by decide +kernel
theorem d2_36 : decode prog_120_method_6_code 36 = .ok (.iload_n 0, 1) := by decide +kernel
theorem d2_37 : decode prog_120_method_6_code 37 = .ok (.bipush 48, 2) := by decide +kernel
theorem d2_39 : decode prog_120_method_6_code 39 = .ok (.if_icmp .lt 9, 3) := by decide +kernel
theorem d2_42 : decode prog_120_method_6_code 42 = .ok (.iload_n 0, 1) := by decide +kernel
theorem d2_43 : decode prog_120_method_6_code 43 = .ok (.bipush 57, 2) := by decide +kernel
theorem d2_45 : decode prog_120_method_6_code 45 = .ok (.if_icmp .le 15, 3) := by decide +kernel
theorem d2_48 : decode prog_120_method_6_code 48 = .ok (.iload_n 0, 1) := by decide +kernel
theorem d2_49 : decode prog_120_method_6_code 49 = .ok (.bipush 46, 2) := by decide +kernel
theorem d2_51 : decode prog_120_method_6_code 51 = .ok (.if_icmp .eq 9, 3) := by decide +kernel
theorem d2_54 : decode prog_120_method_6_code 54 = .ok (.iload_n 0, 1) := by decide +kernel
theorem d2_55 : decode prog_120_method_6_code 55 = .ok (.bipush 45, 2) := by decide +kernel
theorem d2_57 : decode prog_120_method_6_code 57 = .ok (.if_icmp .ne 7, 3) := by decide +kernel
theorem d2_60 : decode prog_120_method_6_code 60 = .ok (.iconst 1, 1) := by decide +kernel
theorem d2_61 : decode prog_120_method_6_code 61 = .ok (.goto 4, 3) := by decide +kernel
theorem d2_64 : decode prog_120_method_6_code 64 = .ok (.iconst 0, 1) := by decide +kernel
theorem d2_65 : decode prog_120_method_6_code 65 = .ok (.istore 4, 2) := by decide +kernel
theorem d2_67 : decode prog_120_method_6_code 67 = .ok (.iload_n 2, 1) := by decide +kernel
theorem d2_68 : decode prog_120_method_6_code 68 = .ok (.ifCond .eq 24, 3) := by decide +kernel
theorem d2_71 : decode prog_120_method_6_code 71 = .ok (.iload_n 3, 1) := by decide +kernel
theorem d2_72 : decode prog_120_method_6_code 72 = .ok (.ifCond .ne 12, 3) := by decide +kernel
theorem d2_75 : decode prog_120_method_6_code 75 = .ok (.iload_n 1, 1) := by decide +kernel
theorem d2_76 : decode prog_120_method_6_code 76 = .ok (.ifCond .ne 12, 3) := by decide +kernel
theorem d2_79 : decode prog_120_method_6_code 79 = .ok (.iload 4, 2) := by decide +kernel
theorem d2_81 : decode prog_120_method_6_code 81 = .ok (.ifCond .eq 7, 3) := by decide +kernel
theorem d2_84 : decode prog_120_method_6_code 84 = .ok (.iconst 1, 1) := by decide +kernel
theorem d2_85 : decode prog_120_method_6_code 85 = .ok (.goto 27, 3) := by decide +kernel
theorem d2_88 : decode prog_120_method_6_code 88 = .ok (.iconst 0, 1) := by decide +kernel
theorem d2_89 : decode prog_120_method_6_code 89 = .ok (.goto 23, 3) := by decide +kernel
theorem d2_92 : decode prog_120_method_6_code 92 = .ok (.iload_n 3, 1) := by decide +kernel
theorem d2_93 : decode prog_120_method_6_code 93 = .ok (.ifCond .ne 14, 3) := by decide +kernel
theorem d2_96 : decode prog_120_method_6_code 96 = .ok (.iload 4, 2) := by decide +kernel
theorem d2_98 : decode prog_120_method_6_code 98 = .ok (.ifCond .ne 9, 3) := by decide +kernel
theorem d2_101 : decode prog_120_method_6_code 101 = .ok (.iload_n 0, 1) := by decide +kernel
theorem d2_102 : decode prog_120_method_6_code 102 = .ok (.bipush 58, 2) := by decide +kernel
theorem d2_104 : decode prog_120_method_6_code 104 = .ok (.if_icmp .ne 7, 3) := by decide +kernel
theorem d2_107 : decode prog_120_method_6_code 107 = .ok (.iconst 1, 1) := by decide +kernel
theorem d2_108 : decode prog_120_method_6_code 108 = .ok (.goto 4, 3) := by decide +kernel
theorem d2_111 : decode prog_120_method_6_code 111 = .ok (.iconst 0, 1) := by decide +kernel
theorem d2_112 : decode prog_120_method_6_code 112 = .ok (.ireturn, 1) := by decide +kernel
set_option maxRecDepth 65536 in
set_option maxHeartbeats 40000000 in
theorem mt_fNam (l : Launch) (Z : State) (a0 : Array Value) (hw : oHw a0 Z) (h0 : Heap) (n0 : Nat) (Z0 : n0 ≤ h0.size) (ch : Int32) (fi : Int32) (nc : Int32)  :
    oMet l Z (⟨"com/example/epikrise/epikrise/core/XmlText", "isNameCharacter", "(CZZ)Z"⟩ : MethodName) prog_120_method_6_code 5 (some .boolean) [] ({ frames := 0, cells := 0, slots := 0, locals := 0 } : Room) 0 0 n0 #[.int ch, .int fi, .int nc] h0 (fun v h => v = some (.int (fNam ch fi nc)) ∧ h = h0) := by
  refine oMet.intro (plainFor_of_name pn_842641) (fun m => ef_2 m ch fi nc) ?_
  intro op oe os m obl omt ocd C
  refine oJoin (α := Unit) (fun _ => True) (fun _ => h0) (fun _ => (mkF m 35 #[.val (.int ch), .val (.int fi), .val (.int nc), .unset, .unset] [.int (fLet ch)])) (k := 0) (n := 0) (fun _ _ => ?_) (fun J35 => ?_)
  ·
   show oW _ _ _ _ _ _ _ _ _ _ _ _ _ _ _ (mkF m 35 #[.val (.int ch), .val (.int fi), .val (.int nc), .unset, .unset] [.int (fLet ch)])
   refine oIstoreN C d2_35 (Ls' := #[.val (.int ch), .val (.int fi), .val (.int nc), .val (.int (fLet ch)), .unset]) rfl (q := 36) rfl ?_
   refine oJoin (α := Unit) (fun _ => True) (fun _ => h0) (fun _ => (mkF m 65 #[.val (.int ch), .val (.int fi), .val (.int nc), .val (.int (fLet ch)), .unset] [.int (fDig ch)])) (k := 0) (n := 0) (fun _ _ => ?_) (fun J65 => ?_)
   ·
    show oW _ _ _ _ _ _ _ _ _ _ _ _ _ _ _ (mkF m 65 #[.val (.int ch), .val (.int fi), .val (.int nc), .val (.int (fLet ch)), .unset] [.int (fDig ch)])
    refine oIstore C d2_65 (Ls' := #[.val (.int ch), .val (.int fi), .val (.int nc), .val (.int (fLet ch)), .val (.int (fDig ch))]) rfl (q := 67) rfl ?_
    refine oIloadN C d2_67 rfl rfl ?_
    refine oIf_eq C d2_68 (q := 92) (by decide) (by decide) (r := 71) rfl (fun hc68 => ?_) (fun hc68 => ?_)
    ·
     refine oIloadN C d2_92 rfl rfl ?_
     refine oIf_ne C d2_93 (q := 107) (by decide) (by decide) (r := 96) rfl (fun hc93 => ?_) (fun hc93 => ?_)
     ·
      refine oIconst C d2_107 (z := 1) rfl rfl ?_
      refine oGoto C d2_108 (q := 112) (by decide) (by decide) ?_
      refine oRetZ C d2_112 (z' := (1 : Int32)) rfl (by decide) (by decide) ?_
      exact ⟨by rw [fNam_def, if_pos hc68, if_neg hc93], rfl⟩
     ·
      refine oIload C d2_96 rfl rfl ?_
      refine oIf_ne C d2_98 (q := 107) (by decide) (by decide) (r := 101) rfl (fun hc98 => ?_) (fun hc98 => ?_)
      ·
       refine oIconst C d2_107 (z := 1) rfl rfl ?_
       refine oGoto C d2_108 (q := 112) (by decide) (by decide) ?_
       refine oRetZ C d2_112 (z' := (1 : Int32)) rfl (by decide) (by decide) ?_
       exact ⟨by rw [fNam_def, if_pos hc68, if_pos hc93, if_neg hc98], rfl⟩
      ·
       refine oIloadN C d2_101 rfl rfl ?_
       refine oBipush C d2_102 (z := 58) rfl rfl ?_
       refine oIcmp_ne C d2_104 (q := 111) (by decide) (by decide) (r := 107) rfl (fun hc104 => ?_) (fun hc104 => ?_)
       ·
        refine oIconst C d2_111 (z := 0) rfl rfl ?_
        refine oRetZ C d2_112 (z' := (0 : Int32)) rfl (by decide) (by decide) ?_
        exact ⟨by rw [fNam_def, if_pos hc68, if_pos hc93, if_pos hc98, if_neg hc104], rfl⟩
       ·
        refine oIconst C d2_107 (z := 1) rfl rfl ?_
        refine oGoto C d2_108 (q := 112) (by decide) (by decide) ?_
        refine oRetZ C d2_112 (z' := (1 : Int32)) rfl (by decide) (by decide) ?_
        exact ⟨by rw [fNam_def, if_pos hc68, if_pos hc93, if_pos hc98, if_pos hc104], rfl⟩
    ·
     refine oIloadN C d2_71 rfl rfl ?_
     refine oIf_ne C d2_72 (q := 84) (by decide) (by decide) (r := 75) rfl (fun hc72 => ?_) (fun hc72 => ?_)
     ·
      refine oIconst C d2_84 (z := 1) rfl rfl ?_
      refine oGoto C d2_85 (q := 112) (by decide) (by decide) ?_
      refine oRetZ C d2_112 (z' := (1 : Int32)) rfl (by decide) (by decide) ?_
      exact ⟨by rw [fNam_def, if_neg hc68, if_neg hc72], rfl⟩
     ·
      refine oIloadN C d2_75 rfl rfl ?_
      refine oIf_ne C d2_76 (q := 88) (by decide) (by decide) (r := 79) rfl (fun hc76 => ?_) (fun hc76 => ?_)
      ·
       refine oIconst C d2_88 (z := 0) rfl rfl ?_
       refine oGoto C d2_89 (q := 112) (by decide) (by decide) ?_
       refine oRetZ C d2_112 (z' := (0 : Int32)) rfl (by decide) (by decide) ?_
       exact ⟨by rw [fNam_def, if_neg hc68, if_pos hc72, if_neg hc76], rfl⟩
      ·
       refine oIload C d2_79 rfl rfl ?_
       refine oIf_eq C d2_81 (q := 88) (by decide) (by decide) (r := 84) rfl (fun hc81 => ?_) (fun hc81 => ?_)
       ·
        refine oIconst C d2_88 (z := 0) rfl rfl ?_
        refine oGoto C d2_89 (q := 112) (by decide) (by decide) ?_
        refine oRetZ C d2_112 (z' := (0 : Int32)) rfl (by decide) (by decide) ?_
        exact ⟨by rw [fNam_def, if_neg hc68, if_pos hc72, if_pos hc76, if_pos hc81], rfl⟩
       ·
        refine oIconst C d2_84 (z := 1) rfl rfl ?_
        refine oGoto C d2_85 (q := 112) (by decide) (by decide) ?_
        refine oRetZ C d2_112 (z' := (1 : Int32)) rfl (by decide) (by decide) ?_
        exact ⟨by rw [fNam_def, if_neg hc68, if_pos hc72, if_pos hc76, if_neg hc81], rfl⟩
   ·
    refine oIloadN C d2_36 rfl rfl ?_
    refine oBipush C d2_37 (z := 48) rfl rfl ?_
    refine oIcmp_lt C d2_39 (q := 48) (by decide) (by decide) (r := 42) rfl (fun hc39 => ?_) (fun hc39 => ?_)
    ·
     refine oIloadN C d2_48 rfl rfl ?_
     refine oBipush C d2_49 (z := 46) rfl rfl ?_
     refine oIcmp_eq C d2_51 (q := 60) (by decide) (by decide) (r := 54) rfl (fun hc51 => ?_) (fun hc51 => ?_)
     ·
      refine oIconst C d2_60 (z := 1) rfl rfl ?_
      refine oGoto C d2_61 (q := 65) (by decide) (by decide) ?_
      refine oCastI (z' := (fDig ch)) (by rw [fDig_def, if_pos hc39, if_pos hc51]) ?_
      exact J65 () trivial
     ·
      refine oIloadN C d2_54 rfl rfl ?_
      refine oBipush C d2_55 (z := 45) rfl rfl ?_
      refine oIcmp_ne C d2_57 (q := 64) (by decide) (by decide) (r := 60) rfl (fun hc57 => ?_) (fun hc57 => ?_)
      ·
       refine oIconst C d2_64 (z := 0) rfl rfl ?_
       refine oCastI (z' := (fDig ch)) (by rw [fDig_def, if_pos hc39, if_neg hc51, if_neg hc57]) ?_
       exact J65 () trivial
      ·
       refine oIconst C d2_60 (z := 1) rfl rfl ?_
       refine oGoto C d2_61 (q := 65) (by decide) (by decide) ?_
       refine oCastI (z' := (fDig ch)) (by rw [fDig_def, if_pos hc39, if_neg hc51, if_pos hc57]) ?_
       exact J65 () trivial
    ·
     refine oIloadN C d2_42 rfl rfl ?_
     refine oBipush C d2_43 (z := 57) rfl rfl ?_
     refine oIcmp_le C d2_45 (q := 60) (by decide) (by decide) (r := 48) rfl (fun hc45 => ?_) (fun hc45 => ?_)
     ·
      refine oIconst C d2_60 (z := 1) rfl rfl ?_
      refine oGoto C d2_61 (q := 65) (by decide) (by decide) ?_
      refine oCastI (z' := (fDig ch)) (by rw [fDig_def, if_neg hc39, if_neg hc45]) ?_
      exact J65 () trivial
     ·
      refine oIloadN C d2_48 rfl rfl ?_
      refine oBipush C d2_49 (z := 46) rfl rfl ?_
      refine oIcmp_eq C d2_51 (q := 60) (by decide) (by decide) (r := 54) rfl (fun hc51 => ?_) (fun hc51 => ?_)
      ·
       refine oIconst C d2_60 (z := 1) rfl rfl ?_
       refine oGoto C d2_61 (q := 65) (by decide) (by decide) ?_
       refine oCastI (z' := (fDig ch)) (by rw [fDig_def, if_neg hc39, if_pos hc45, if_pos hc51]) ?_
       exact J65 () trivial
      ·
       refine oIloadN C d2_54 rfl rfl ?_
       refine oBipush C d2_55 (z := 45) rfl rfl ?_
       refine oIcmp_ne C d2_57 (q := 64) (by decide) (by decide) (r := 60) rfl (fun hc57 => ?_) (fun hc57 => ?_)
       ·
        refine oIconst C d2_64 (z := 0) rfl rfl ?_
        refine oCastI (z' := (fDig ch)) (by rw [fDig_def, if_neg hc39, if_pos hc45, if_neg hc51, if_neg hc57]) ?_
        exact J65 () trivial
       ·
        refine oIconst C d2_60 (z := 1) rfl rfl ?_
        refine oGoto C d2_61 (q := 65) (by decide) (by decide) ?_
        refine oCastI (z' := (fDig ch)) (by rw [fDig_def, if_neg hc39, if_pos hc45, if_neg hc51, if_pos hc57]) ?_
        exact J65 () trivial
  ·
   refine oIloadN C d2_0 rfl rfl ?_
   refine oBipush C d2_1 (z := 65) rfl rfl ?_
   refine oIcmp_lt C d2_3 (q := 12) (by decide) (by decide) (r := 6) rfl (fun hc3 => ?_) (fun hc3 => ?_)
   ·
    refine oIloadN C d2_12 rfl rfl ?_
    refine oBipush C d2_13 (z := 97) rfl rfl ?_
    refine oIcmp_lt C d2_15 (q := 24) (by decide) (by decide) (r := 18) rfl (fun hc15 => ?_) (fun hc15 => ?_)
    ·
     refine oIloadN C d2_24 rfl rfl ?_
     refine oBipush C d2_25 (z := 95) rfl rfl ?_
     refine oIcmp_ne C d2_27 (q := 34) (by decide) (by decide) (r := 30) rfl (fun hc27 => ?_) (fun hc27 => ?_)
     ·
      refine oIconst C d2_34 (z := 0) rfl rfl ?_
      refine oCastI (z' := (fLet ch)) (by rw [fLet_def, if_pos hc3, if_pos hc15, if_neg hc27]) ?_
      exact J35 () trivial
     ·
      refine oIconst C d2_30 (z := 1) rfl rfl ?_
      refine oGoto C d2_31 (q := 35) (by decide) (by decide) ?_
      refine oCastI (z' := (fLet ch)) (by rw [fLet_def, if_pos hc3, if_pos hc15, if_pos hc27]) ?_
      exact J35 () trivial
    ·
     refine oIloadN C d2_18 rfl rfl ?_
     refine oBipush C d2_19 (z := 122) rfl rfl ?_
     refine oIcmp_le C d2_21 (q := 30) (by decide) (by decide) (r := 24) rfl (fun hc21 => ?_) (fun hc21 => ?_)
     ·
      refine oIconst C d2_30 (z := 1) rfl rfl ?_
      refine oGoto C d2_31 (q := 35) (by decide) (by decide) ?_
      refine oCastI (z' := (fLet ch)) (by rw [fLet_def, if_pos hc3, if_neg hc15, if_neg hc21]) ?_
      exact J35 () trivial
     ·
      refine oIloadN C d2_24 rfl rfl ?_
      refine oBipush C d2_25 (z := 95) rfl rfl ?_
      refine oIcmp_ne C d2_27 (q := 34) (by decide) (by decide) (r := 30) rfl (fun hc27 => ?_) (fun hc27 => ?_)
      ·
       refine oIconst C d2_34 (z := 0) rfl rfl ?_
       refine oCastI (z' := (fLet ch)) (by rw [fLet_def, if_pos hc3, if_neg hc15, if_pos hc21, if_neg hc27]) ?_
       exact J35 () trivial
      ·
       refine oIconst C d2_30 (z := 1) rfl rfl ?_
       refine oGoto C d2_31 (q := 35) (by decide) (by decide) ?_
       refine oCastI (z' := (fLet ch)) (by rw [fLet_def, if_pos hc3, if_neg hc15, if_pos hc21, if_pos hc27]) ?_
       exact J35 () trivial
   ·
    refine oIloadN C d2_6 rfl rfl ?_
    refine oBipush C d2_7 (z := 90) rfl rfl ?_
    refine oIcmp_le C d2_9 (q := 30) (by decide) (by decide) (r := 12) rfl (fun hc9 => ?_) (fun hc9 => ?_)
    ·
     refine oIconst C d2_30 (z := 1) rfl rfl ?_
     refine oGoto C d2_31 (q := 35) (by decide) (by decide) ?_
     refine oCastI (z' := (fLet ch)) (by rw [fLet_def, if_neg hc3, if_neg hc9]) ?_
     exact J35 () trivial
    ·
     refine oIloadN C d2_12 rfl rfl ?_
     refine oBipush C d2_13 (z := 97) rfl rfl ?_
     refine oIcmp_lt C d2_15 (q := 24) (by decide) (by decide) (r := 18) rfl (fun hc15 => ?_) (fun hc15 => ?_)
     ·
      refine oIloadN C d2_24 rfl rfl ?_
      refine oBipush C d2_25 (z := 95) rfl rfl ?_
      refine oIcmp_ne C d2_27 (q := 34) (by decide) (by decide) (r := 30) rfl (fun hc27 => ?_) (fun hc27 => ?_)
      ·
       refine oIconst C d2_34 (z := 0) rfl rfl ?_
       refine oCastI (z' := (fLet ch)) (by rw [fLet_def, if_neg hc3, if_pos hc9, if_pos hc15, if_neg hc27]) ?_
       exact J35 () trivial
      ·
       refine oIconst C d2_30 (z := 1) rfl rfl ?_
       refine oGoto C d2_31 (q := 35) (by decide) (by decide) ?_
       refine oCastI (z' := (fLet ch)) (by rw [fLet_def, if_neg hc3, if_pos hc9, if_pos hc15, if_pos hc27]) ?_
       exact J35 () trivial
     ·
      refine oIloadN C d2_18 rfl rfl ?_
      refine oBipush C d2_19 (z := 122) rfl rfl ?_
      refine oIcmp_le C d2_21 (q := 30) (by decide) (by decide) (r := 24) rfl (fun hc21 => ?_) (fun hc21 => ?_)
      ·
       refine oIconst C d2_30 (z := 1) rfl rfl ?_
       refine oGoto C d2_31 (q := 35) (by decide) (by decide) ?_
       refine oCastI (z' := (fLet ch)) (by rw [fLet_def, if_neg hc3, if_pos hc9, if_neg hc15, if_neg hc21]) ?_
       exact J35 () trivial
      ·
       refine oIloadN C d2_24 rfl rfl ?_
       refine oBipush C d2_25 (z := 95) rfl rfl ?_
       refine oIcmp_ne C d2_27 (q := 34) (by decide) (by decide) (r := 30) rfl (fun hc27 => ?_) (fun hc27 => ?_)
       ·
        refine oIconst C d2_34 (z := 0) rfl rfl ?_
        refine oCastI (z' := (fLet ch)) (by rw [fLet_def, if_neg hc3, if_pos hc9, if_neg hc15, if_pos hc21, if_neg hc27]) ?_
        exact J35 () trivial
       ·
        refine oIconst C d2_30 (z := 1) rfl rfl ?_
        refine oGoto C d2_31 (q := 35) (by decide) (by decide) ?_
        refine oCastI (z' := (fLet ch)) (by rw [fLet_def, if_neg hc3, if_pos hc9, if_neg hc15, if_pos hc21, if_pos hc27]) ?_
        exact J35 () trivial
theorem ef_0 (m : MethodId) (x0 : Int32) (x1 : Int32) : entryFrame m #[.int x0, .int x1] maxLocals = mkF m 0 #[.val (.int x0), .val (.int x1), .unset, .unset, .unset, .unset, .unset] [] := by first | (simp [entryFrame, mkF, argsToLocals, Value.category, maxLocals]; done) | rfl
def fB1 (fl : Int32) : Int32 := (if (fl &&& (1 : Int32)) = 0 then (0 : Int32) else (1 : Int32))
theorem fB1_def (fl : Int32) : fB1 fl = (if (fl &&& (1 : Int32)) = 0 then (0 : Int32) else (1 : Int32)) := rfl
def fB2 (fl : Int32) : Int32 := (if (fl &&& (2 : Int32)) = 0 then (0 : Int32) else (1 : Int32))
theorem fB2_def (fl : Int32) : fB2 fl = (if (fl &&& (2 : Int32)) = 0 then (0 : Int32) else (1 : Int32)) := rfl
theorem pd_571862 : parseMethodDescriptor "(C)I" = some ⟨[.char], some .int⟩ := by decide +kernel
theorem pd_147667 : parseMethodDescriptor "(CZZ)Z" = some ⟨[.char, .boolean, .boolean], some .boolean⟩ := by decide +kernel
theorem own_k (ch : Int32) : (fLet ch = 1 ∧ fKind ch = 1) ∨ (fLet ch = 0 ∧ fDig ch = 1 ∧ fKind ch = 2 ∧ ¬ ch = 58) ∨ (fLet ch = 0 ∧ fDig ch = 0 ∧ ch = 58 ∧ fKind ch = 3) ∨ (fLet ch = 0 ∧ fDig ch = 0 ∧ (¬ ch = 58) ∧ fKind ch = 0) := by
  have key : ch.toInt < 45 ∨ ch.toInt = 45 ∨ ch.toInt = 46 ∨ ch.toInt = 47 ∨ (48 ≤ ch.toInt ∧ ch.toInt ≤ 57) ∨ ch.toInt = 58 ∨ (59 ≤ ch.toInt ∧ ch.toInt ≤ 64) ∨ (65 ≤ ch.toInt ∧ ch.toInt ≤ 90) ∨ (91 ≤ ch.toInt ∧ ch.toInt ≤ 94) ∨ ch.toInt = 95 ∨ ch.toInt = 96 ∨ (97 ≤ ch.toInt ∧ ch.toInt ≤ 122) ∨ 122 < ch.toInt := by omega
  rw [fLet_def, fDig_def, fKind_def]
  simp only [Int32.lt_iff_toInt_lt, ← Int32.toInt_inj, Int32.reduceToInt]
  rcases key with h | h | h | h | h | h | h | h | h | h | h | h | h <;> (simp (disch := omega) only [if_pos, if_neg, Int32.reduceToInt]; simp <;> omega)

theorem own_fin (ch fl : Int32) : (fKind ch = 1 → fNam ch (fB1 fl) (fB2 fl) = 1) ∧ (fKind ch = 2 → fNam ch (fB1 fl) (fB2 fl) = if fB2 fl = 0 then 1 else if fB1 fl = 0 then 1 else 0) ∧ (fKind ch = 3 → fNam ch (fB1 fl) (fB2 fl) = if fB2 fl = 0 then 1 else 0) ∧ (¬ fKind ch = 1 → ¬ fKind ch = 2 → ¬ fKind ch = 3 → fNam ch (fB1 fl) (fB2 fl) = 0) := by
  rw [fNam_def]
  rcases own_k ch with ⟨h1, h2⟩ | ⟨h1, h2, h3, h4⟩ | ⟨h1, h2, h3, h4⟩ | ⟨h1, h2, h3, h4⟩ <;> by_cases g1 : fB1 fl = 0 <;> by_cases g2 : fB2 fl = 0 <;> simp_all
set_option maxRecDepth 65536 in
set_option maxHeartbeats 40000000 in
theorem mt_law (l : Launch) (Z : State) (a0 : Array Value) (hw : oHw a0 Z) (h0 : Heap) (n0 : Nat) (Z0 : n0 ≤ h0.size) (x0 : Int32) (fl : Int32)  :
    oMet l Z x code maxLocals ret tables_1 room_1 0 0 n0 #[.int x0, .int fl] h0 (fun v h => v = some (.int 1)) := by
  refine oMet.intro (plainFor_of_name pn_803950) (fun m => ef_0 m x0 fl) ?_
  intro op oe os m obl omt ocd C
  refine oIloadN C at_0 rfl rfl ?_
  refine oI2C C at_1 rfl ?_
  obtain ⟨ch, e_ch⟩ : ∃ z, z = (x0.toUInt32.toUInt16.toUInt32.toInt32) := ⟨_, rfl⟩
  refine oCastI e_ch.symm ?_
  refine oIstoreN C at_2 (Ls' := #[.val (.int x0), .val (.int fl), .val (.int ch), .unset, .unset, .unset, .unset]) rfl (q := 3) rfl ?_
  refine oJoin (α := Unit) (fun _ => True) (fun _ => h0) (fun _ => (mkF m 14 #[.val (.int x0), .val (.int fl), .val (.int ch), .unset, .unset, .unset, .unset] [.int (fB1 fl)])) (k := 0) (n := 0) (fun _ _ => ?_) (fun J14 => ?_)
  ·
   show oW _ _ _ _ _ _ _ _ _ _ _ _ _ _ _ (mkF m 14 #[.val (.int x0), .val (.int fl), .val (.int ch), .unset, .unset, .unset, .unset] [.int (fB1 fl)])
   refine oIstoreN C at_14 (Ls' := #[.val (.int x0), .val (.int fl), .val (.int ch), .val (.int (fB1 fl)), .unset, .unset, .unset]) rfl (q := 15) rfl ?_
   refine oJoin (α := Unit) (fun _ => True) (fun _ => h0) (fun _ => (mkF m 26 #[.val (.int x0), .val (.int fl), .val (.int ch), .val (.int (fB1 fl)), .unset, .unset, .unset] [.int (fB2 fl)])) (k := 0) (n := 0) (fun _ _ => ?_) (fun J26 => ?_)
   ·
    show oW _ _ _ _ _ _ _ _ _ _ _ _ _ _ _ (mkF m 26 #[.val (.int x0), .val (.int fl), .val (.int ch), .val (.int (fB1 fl)), .unset, .unset, .unset] [.int (fB2 fl)])
    refine oIstore C at_26 (Ls' := #[.val (.int x0), .val (.int fl), .val (.int ch), .val (.int (fB1 fl)), .val (.int (fB2 fl)), .unset, .unset]) rfl (q := 28) rfl ?_
    refine oIloadN C at_28 rfl rfl ?_
    refine oCallS C (w0 hw) (w1 hw) (w2 hw) (w3 hw) at_29 (by decide) pd_571862 rfl rfl (argsL := [.int ch]) (rest := []) rfl (W := 0) rfl (q := 32) rfl (by decide) (by decide) (by decide) (by decide) (mt_fKind l Z a0 hw _ n0 Z0 ch ) (oPureK ?_)
    refine oIstore C at_32 (Ls' := #[.val (.int x0), .val (.int fl), .val (.int ch), .val (.int (fB1 fl)), .val (.int (fB2 fl)), .val (.int (fKind ch)), .unset]) rfl (q := 34) rfl ?_
    refine oIload C at_34 rfl rfl ?_
    refine oIconst C at_36 (z := 1) rfl rfl ?_
    refine oIcmp_ne C at_37 (q := 46) (by decide) (by decide) (r := 40) rfl (fun hc37 => ?_) (fun hc37 => ?_)
    ·
     refine oIload C at_46 rfl rfl ?_
     refine oIconst C at_48 (z := 2) rfl rfl ?_
     refine oIcmp_ne C at_49 (q := 71) (by decide) (by decide) (r := 52) rfl (fun hc49 => ?_) (fun hc49 => ?_)
     ·
      refine oIload C at_71 rfl rfl ?_
      refine oIconst C at_73 (z := 3) rfl rfl ?_
      refine oIcmp_ne C at_74 (q := 92) (by decide) (by decide) (r := 77) rfl (fun hc74 => ?_) (fun hc74 => ?_)
      ·
       refine oIconst C at_92 (z := 0) rfl rfl ?_
       refine oIstore C at_93 (Ls' := #[.val (.int x0), .val (.int fl), .val (.int ch), .val (.int (fB1 fl)), .val (.int (fB2 fl)), .val (.int (fKind ch)), .val (.int 0)]) rfl (q := 95) rfl ?_
       refine oIloadN C at_95 rfl rfl ?_
       refine oIloadN C at_96 rfl rfl ?_
       refine oIload C at_97 rfl rfl ?_
       refine oCallS C (w4 hw) (w5 hw) (w6 hw) (w7 hw) at_99 (by decide) pd_147667 rfl rfl (argsL := [.int ch, .int (fB1 fl), .int (fB2 fl)]) (rest := []) rfl (W := 0) rfl (q := 102) rfl (by decide) (by decide) (by decide) (by decide) (mt_fNam l Z a0 hw _ n0 Z0 ch (fB1 fl) (fB2 fl) ) (oPureK ?_)
       refine oIload C at_102 rfl rfl ?_
       refine oIcmp_ne C at_104 (q := 111) (by decide) (by decide) (r := 107) rfl (fun hq => absurd hq (not_not_intro ((own_fin ch fl).2.2.2 hc37 hc49 hc74))) (fun hc104 => ?_)
       refine oIconst C at_107 (z := 1) rfl rfl ?_
       refine oGoto C at_108 (q := 112) (by decide) (by decide) ?_
       refine oRetZ C at_112 (z' := (1 : Int32)) rfl (by decide) (by decide) ?_
       exact rfl
      ·
       refine oIload C at_77 rfl rfl ?_
       refine oIf_ne C at_79 (q := 86) (by decide) (by decide) (r := 82) rfl (fun hc79 => ?_) (fun hc79 => ?_)
       ·
        refine oIconst C at_86 (z := 0) rfl rfl ?_
        refine oIstore C at_87 (Ls' := #[.val (.int x0), .val (.int fl), .val (.int ch), .val (.int (fB1 fl)), .val (.int (fB2 fl)), .val (.int (fKind ch)), .val (.int 0)]) rfl (q := 89) rfl ?_
        refine oGoto C at_89 (q := 95) (by decide) (by decide) ?_
        refine oIloadN C at_95 rfl rfl ?_
        refine oIloadN C at_96 rfl rfl ?_
        refine oIload C at_97 rfl rfl ?_
        refine oCallS C (w4 hw) (w5 hw) (w6 hw) (w7 hw) at_99 (by decide) pd_147667 rfl rfl (argsL := [.int ch, .int (fB1 fl), .int (fB2 fl)]) (rest := []) rfl (W := 0) rfl (q := 102) rfl (by decide) (by decide) (by decide) (by decide) (mt_fNam l Z a0 hw _ n0 Z0 ch (fB1 fl) (fB2 fl) ) (oPureK ?_)
        refine oIload C at_102 rfl rfl ?_
        refine oIcmp_ne C at_104 (q := 111) (by decide) (by decide) (r := 107) rfl (fun hq => absurd hq (not_not_intro (by rw [(own_fin ch fl).2.2.1 hc74]; simp [hc79]))) (fun hc104 => ?_)
        refine oIconst C at_107 (z := 1) rfl rfl ?_
        refine oGoto C at_108 (q := 112) (by decide) (by decide) ?_
        refine oRetZ C at_112 (z' := (1 : Int32)) rfl (by decide) (by decide) ?_
        exact rfl
       ·
        refine oIconst C at_82 (z := 1) rfl rfl ?_
        refine oGoto C at_83 (q := 87) (by decide) (by decide) ?_
        refine oIstore C at_87 (Ls' := #[.val (.int x0), .val (.int fl), .val (.int ch), .val (.int (fB1 fl)), .val (.int (fB2 fl)), .val (.int (fKind ch)), .val (.int 1)]) rfl (q := 89) rfl ?_
        refine oGoto C at_89 (q := 95) (by decide) (by decide) ?_
        refine oIloadN C at_95 rfl rfl ?_
        refine oIloadN C at_96 rfl rfl ?_
        refine oIload C at_97 rfl rfl ?_
        refine oCallS C (w4 hw) (w5 hw) (w6 hw) (w7 hw) at_99 (by decide) pd_147667 rfl rfl (argsL := [.int ch, .int (fB1 fl), .int (fB2 fl)]) (rest := []) rfl (W := 0) rfl (q := 102) rfl (by decide) (by decide) (by decide) (by decide) (mt_fNam l Z a0 hw _ n0 Z0 ch (fB1 fl) (fB2 fl) ) (oPureK ?_)
        refine oIload C at_102 rfl rfl ?_
        refine oIcmp_ne C at_104 (q := 111) (by decide) (by decide) (r := 107) rfl (fun hq => absurd hq (not_not_intro (by rw [(own_fin ch fl).2.2.1 hc74]; simp [hc79]))) (fun hc104 => ?_)
        refine oIconst C at_107 (z := 1) rfl rfl ?_
        refine oGoto C at_108 (q := 112) (by decide) (by decide) ?_
        refine oRetZ C at_112 (z' := (1 : Int32)) rfl (by decide) (by decide) ?_
        exact rfl
     ·
      refine oIload C at_52 rfl rfl ?_
      refine oIf_eq C at_54 (q := 61) (by decide) (by decide) (r := 57) rfl (fun hc54 => ?_) (fun hc54 => ?_)
      ·
       refine oIconst C at_61 (z := 1) rfl rfl ?_
       refine oGoto C at_62 (q := 66) (by decide) (by decide) ?_
       refine oIstore C at_66 (Ls' := #[.val (.int x0), .val (.int fl), .val (.int ch), .val (.int (fB1 fl)), .val (.int (fB2 fl)), .val (.int (fKind ch)), .val (.int 1)]) rfl (q := 68) rfl ?_
       refine oGoto C at_68 (q := 95) (by decide) (by decide) ?_
       refine oIloadN C at_95 rfl rfl ?_
       refine oIloadN C at_96 rfl rfl ?_
       refine oIload C at_97 rfl rfl ?_
       refine oCallS C (w4 hw) (w5 hw) (w6 hw) (w7 hw) at_99 (by decide) pd_147667 rfl rfl (argsL := [.int ch, .int (fB1 fl), .int (fB2 fl)]) (rest := []) rfl (W := 0) rfl (q := 102) rfl (by decide) (by decide) (by decide) (by decide) (mt_fNam l Z a0 hw _ n0 Z0 ch (fB1 fl) (fB2 fl) ) (oPureK ?_)
       refine oIload C at_102 rfl rfl ?_
       refine oIcmp_ne C at_104 (q := 111) (by decide) (by decide) (r := 107) rfl (fun hq => absurd hq (not_not_intro (by rw [(own_fin ch fl).2.1 hc49]; simp [hc54]))) (fun hc104 => ?_)
       refine oIconst C at_107 (z := 1) rfl rfl ?_
       refine oGoto C at_108 (q := 112) (by decide) (by decide) ?_
       refine oRetZ C at_112 (z' := (1 : Int32)) rfl (by decide) (by decide) ?_
       exact rfl
      ·
       refine oIloadN C at_57 rfl rfl ?_
       refine oIf_ne C at_58 (q := 65) (by decide) (by decide) (r := 61) rfl (fun hc58 => ?_) (fun hc58 => ?_)
       ·
        refine oIconst C at_65 (z := 0) rfl rfl ?_
        refine oIstore C at_66 (Ls' := #[.val (.int x0), .val (.int fl), .val (.int ch), .val (.int (fB1 fl)), .val (.int (fB2 fl)), .val (.int (fKind ch)), .val (.int 0)]) rfl (q := 68) rfl ?_
        refine oGoto C at_68 (q := 95) (by decide) (by decide) ?_
        refine oIloadN C at_95 rfl rfl ?_
        refine oIloadN C at_96 rfl rfl ?_
        refine oIload C at_97 rfl rfl ?_
        refine oCallS C (w4 hw) (w5 hw) (w6 hw) (w7 hw) at_99 (by decide) pd_147667 rfl rfl (argsL := [.int ch, .int (fB1 fl), .int (fB2 fl)]) (rest := []) rfl (W := 0) rfl (q := 102) rfl (by decide) (by decide) (by decide) (by decide) (mt_fNam l Z a0 hw _ n0 Z0 ch (fB1 fl) (fB2 fl) ) (oPureK ?_)
        refine oIload C at_102 rfl rfl ?_
        refine oIcmp_ne C at_104 (q := 111) (by decide) (by decide) (r := 107) rfl (fun hq => absurd hq (not_not_intro (by rw [(own_fin ch fl).2.1 hc49]; simp [hc54, hc58]))) (fun hc104 => ?_)
        refine oIconst C at_107 (z := 1) rfl rfl ?_
        refine oGoto C at_108 (q := 112) (by decide) (by decide) ?_
        refine oRetZ C at_112 (z' := (1 : Int32)) rfl (by decide) (by decide) ?_
        exact rfl
       ·
        refine oIconst C at_61 (z := 1) rfl rfl ?_
        refine oGoto C at_62 (q := 66) (by decide) (by decide) ?_
        refine oIstore C at_66 (Ls' := #[.val (.int x0), .val (.int fl), .val (.int ch), .val (.int (fB1 fl)), .val (.int (fB2 fl)), .val (.int (fKind ch)), .val (.int 1)]) rfl (q := 68) rfl ?_
        refine oGoto C at_68 (q := 95) (by decide) (by decide) ?_
        refine oIloadN C at_95 rfl rfl ?_
        refine oIloadN C at_96 rfl rfl ?_
        refine oIload C at_97 rfl rfl ?_
        refine oCallS C (w4 hw) (w5 hw) (w6 hw) (w7 hw) at_99 (by decide) pd_147667 rfl rfl (argsL := [.int ch, .int (fB1 fl), .int (fB2 fl)]) (rest := []) rfl (W := 0) rfl (q := 102) rfl (by decide) (by decide) (by decide) (by decide) (mt_fNam l Z a0 hw _ n0 Z0 ch (fB1 fl) (fB2 fl) ) (oPureK ?_)
        refine oIload C at_102 rfl rfl ?_
        refine oIcmp_ne C at_104 (q := 111) (by decide) (by decide) (r := 107) rfl (fun hq => absurd hq (not_not_intro (by rw [(own_fin ch fl).2.1 hc49]; simp [hc54, hc58]))) (fun hc104 => ?_)
        refine oIconst C at_107 (z := 1) rfl rfl ?_
        refine oGoto C at_108 (q := 112) (by decide) (by decide) ?_
        refine oRetZ C at_112 (z' := (1 : Int32)) rfl (by decide) (by decide) ?_
        exact rfl
    ·
     refine oIconst C at_40 (z := 1) rfl rfl ?_
     refine oIstore C at_41 (Ls' := #[.val (.int x0), .val (.int fl), .val (.int ch), .val (.int (fB1 fl)), .val (.int (fB2 fl)), .val (.int (fKind ch)), .val (.int 1)]) rfl (q := 43) rfl ?_
     refine oGoto C at_43 (q := 95) (by decide) (by decide) ?_
     refine oIloadN C at_95 rfl rfl ?_
     refine oIloadN C at_96 rfl rfl ?_
     refine oIload C at_97 rfl rfl ?_
     refine oCallS C (w4 hw) (w5 hw) (w6 hw) (w7 hw) at_99 (by decide) pd_147667 rfl rfl (argsL := [.int ch, .int (fB1 fl), .int (fB2 fl)]) (rest := []) rfl (W := 0) rfl (q := 102) rfl (by decide) (by decide) (by decide) (by decide) (mt_fNam l Z a0 hw _ n0 Z0 ch (fB1 fl) (fB2 fl) ) (oPureK ?_)
     refine oIload C at_102 rfl rfl ?_
     refine oIcmp_ne C at_104 (q := 111) (by decide) (by decide) (r := 107) rfl (fun hq => absurd hq (not_not_intro ((own_fin ch fl).1 hc37))) (fun hc104 => ?_)
     refine oIconst C at_107 (z := 1) rfl rfl ?_
     refine oGoto C at_108 (q := 112) (by decide) (by decide) ?_
     refine oRetZ C at_112 (z' := (1 : Int32)) rfl (by decide) (by decide) ?_
     exact rfl
   ·
    refine oIloadN C at_15 rfl rfl ?_
    refine oIconst C at_16 (z := 2) rfl rfl ?_
    refine oIand C at_17 rfl ?_
    refine oIf_eq C at_18 (q := 25) (by decide) (by decide) (r := 21) rfl (fun hc18 => ?_) (fun hc18 => ?_)
    ·
     refine oIconst C at_25 (z := 0) rfl rfl ?_
     refine oCastI (z' := (fB2 fl)) (by rw [fB2_def, if_pos hc18]) ?_
     exact J26 () trivial
    ·
     refine oIconst C at_21 (z := 1) rfl rfl ?_
     refine oGoto C at_22 (q := 26) (by decide) (by decide) ?_
     refine oCastI (z' := (fB2 fl)) (by rw [fB2_def, if_neg hc18]) ?_
     exact J26 () trivial
  ·
   refine oIloadN C at_3 rfl rfl ?_
   refine oIconst C at_4 (z := 1) rfl rfl ?_
   refine oIand C at_5 rfl ?_
   refine oIf_eq C at_6 (q := 13) (by decide) (by decide) (r := 9) rfl (fun hc6 => ?_) (fun hc6 => ?_)
   ·
    refine oIconst C at_13 (z := 0) rfl rfl ?_
    refine oCastI (z' := (fB1 fl)) (by rw [fB1_def, if_pos hc6]) ?_
    exact J14 () trivial
   ·
    refine oIconst C at_9 (z := 1) rfl rfl ?_
    refine oGoto C at_10 (q := 14) (by decide) (by decide) ?_
    refine oCastI (z' := (fB1 fl)) (by rw [fB1_def, if_neg hc6]) ?_
    exact J14 () trivial
set_option maxRecDepth 65536 in
set_option maxHeartbeats 40000000 in
theorem comes_1 {Post : Tables → Env → Array Value → State → Outcome → State → Prop} (hpost : ∀ tb e args s v u, (limb_1_1.after args s (.returned v) u = true ∧ limb_1_2.after args s (.returned v) u = true ∧ True) → FrameEnd s (.returned v) u (Jvm.fieldLocs frame_1_writes args s ++ Jvm.arrayLocs frame_1_arrays args s ++ Jvm.staticLocs frame_1_statics s) 0 0 → Post tb e args s (.returned v) u) :
    ArmFor flags0 classFile x code maxLocals ret World_1 tables_1 room_1 Calls_1 rest_1 Pre_1 Post := by
  intro l hfl _ _ p e ha hc hk s m args below hf hA hF happ hP
  obtain ⟨hcalls, hrest, hpre⟩ := hP
  obtain ⟨-, -, -, hnamed, -, -, -, hat⟩ := (Spec.applies_iff hf).mp happ
  obtain ⟨hg, hn⟩ := and_e (Cond.before_iff.mp (show (Jvm.Cond.and given_1 narrow_1).before args s = true from hpre))
  obtain ⟨h1, k0⟩ := and_e hg
  obtain ⟨c0, k1⟩ := and_e k0
  obtain ⟨v0, v1, rfl⟩ : ∃ v0 v1 : Value, args = #[v0, v1] := by
    have hs : args.size = 2 := by simpa [Cond.value, given_1] using h1
    obtain ⟨L⟩ := args
    match L, hs with
    | [v0, v1], _ => exact ⟨v0, v1, rfl⟩
  have hw := fun d (hd : d ∈ tables_1) => atoms_spec (ws := Jvm.Cond.code x code maxLocals ret :: tables_1) hat d (List.mem_cons_of_mem _ hd)
  have hfit : Fit s := fun {y c} hc i hi => by
    obtain ⟨ha, rfl⟩ := Array.getElem?_eq_some_iff.mp hc
    have q := List.all_eq_true.mp ((Array.all_eq_true_iff_forall_mem.mp hF) _ (Array.getElem_mem ha)) i (List.mem_range.mpr hi)
    simpa [Array.getElem?_eq_getElem hi] using q
  obtain ⟨i0, e0⟩ := is_v c0
  obtain rfl : v0 = (.int i0) := Option.some.inj e0
  obtain ⟨i1, e1⟩ := is_v k1
  obtain rfl : v1 = (.int i1) := Option.some.inj e1
  obtain ⟨n, o, h1, h2, h3, _, L, rfl, ⟨N, rfl⟩, hq⟩ := mt_law l s _ hw s.heap s.heap.size (Nat.le_refl _) i0 i1  p e ha hc hk s m _ below hf ((Spec.applies_iff_loose hf).mp happ).1 ⟨rfl, State.Warmed39.refl s, rfl⟩ trivial
  refine ⟨n, _, h1, h2, h3, hpost _ _ _ _ _ _ ⟨Cond.after_iff.mpr rfl, Cond.after_iff.mpr (eq_i res_at (Term.int_eval (1)) rfl), trivial⟩ ⟨hq.1, hq.2.1, (hq.2.2.sift fun y hy => Or.inr (N y hy)).mono (by decide) (by decide)⟩⟩
theorem main_1_1 : Claimed_1_1 := comes_1 fun _ _ _ _ _ _ h hF => ⟨h.1, hF⟩
theorem main_1_2 : Claimed_1_2 := comes_1 fun _ _ _ _ _ _ h hF => ⟨h.2.1, hF⟩
end Jvm.Pilot.@@N@@
namespace Jvm.Pilot.@@N@@
open Jvm Jvm.ClassFile Sem Op Lib Jvm.Free Jvm.Stand Jvm.Pilot.@@N@@.Jvm.D
/-! MADE BY PROGRAM (witnessworld.py) out of the Statement's table words and the real class files: 9 classes; the members and pool entries that the words name. The judged class is class 1, her method 2. -/
namespace start1
open Jvm.ClassFile
def u (s : String) : CpInfo := .utf8 (stringToUtf16 s)
/-- a pool by its gaps: so many unusable entries, then the entry; so many at the end -/
def gap : Nat → List CpInfo → List CpInfo
  | 0, r => r
  | n + 1, r => .unusable :: gap n r
def poolList (es : List (Nat × CpInfo)) (last : Nat) : List CpInfo := es.foldr (fun e r => gap e.1 (e.2 :: r)) (gap last [])
def pool (es : List (Nat × CpInfo)) (last : Nat) : Array CpInfo := ⟨poolList es last⟩
def fileOf (pool : Array CpInfo) (this : Nat) (attrs : Array Attribute := #[]) (ms : Array MethodInfo := #[]) (fl : Nat := 33) (sup : Nat := 0) (ifs : Array Nat := #[]) (fds : Array FieldInfo := #[]) : ClassFile where
  minorVersion := 0
  majorVersion := 65
  constantPool := pool
  accessFlags := fl
  thisClass := this
  superClass := sup
  interfaces := ifs
  fields := fds
  methods := ms
  attributes := attrs
def plain (name : String) (sup : Option ClassId) : Class where
  name := name
  kind := .ordinary
  loader := none
  accessFlags := 33
  super := sup
  interfaces := #[]
  cf := none
  fields := #[]
  methods := #[]
  instanceTypes := #[]
  staticTypes := #[]
  resolved := #[]
  callSites := []
  init := .initialized
  statics := none
  mirror := none

def pool0 : Array CpInfo := pool [(5, u "<init>"), (0, u "()V"), (1, .class_ 10), (1, u "java/lang/Object")] 113

def k0m0 : Method := { name := "<init>", desc := "()V", sig := { parameters := [], returnType := none }, accessFlags := 1, code := none }
/-- java/lang/Object -/
def k0 : Class := { plain "java/lang/Object" none with
  accessFlags := 33
  interfaces := #[]
  cf := some (fileOf pool0 8 #[] #[{ accessFlags := 1, nameIndex := 5, descriptorIndex := 6, attributes := #[] }] 33 0 #[] #[])
  fields := #[]
  methods := #[k0m0]
  instanceTypes := #[]
  staticTypes := #[]
  resolved := Array.replicate 124 none
  statics := none }

def pool1 : Array CpInfo := pool [(2, .class_ 4), (1, u "java/lang/Object"), (0, u "<init>"), (0, u "()V"), (0, .methodref 8 9), (0, .class_ 10), (0, .nameAndType 11 12), (0, u "com/example/epikrise/epikrise/core/XmlTextIsNameCharacterPinLaw"), (0, u "kind"), (0, u "(C)I"), (0, .methodref 14 15), (0, .class_ 16), (0, .nameAndType 17 18), (0, u "com/example/epikrise/epikrise/core/XmlText"), (0, u "isNameCharacter"), (0, u "(CZZ)Z"), (3, u "law"), (0, u "(II)Z")] 2

def k1m0 : Method := { name := "<init>", desc := "()V", sig := { parameters := [], returnType := none }, accessFlags := 2, code := none }
def k1c1 : Code := { maxStack := 2, maxLocals := 2, code := method_2_code, exceptionTable := #[], attributes := #[] }
def k1m1 : Method := { name := "kind", desc := "(C)I", sig := { parameters := [.char], returnType := some .int }, accessFlags := 10, code := some k1c1 }
def k1c2 : Code := { maxStack := 3, maxLocals := 7, code := code, exceptionTable := #[], attributes := #[] }
def k1m2 : Method := { name := "law", desc := "(II)Z", sig := { parameters := [.int, .int], returnType := some .boolean }, accessFlags := 9, code := some k1c2 }
/-- com/example/epikrise/epikrise/core/XmlTextIsNameCharacterPinLaw -/
def k1 : Class := { plain "com/example/epikrise/epikrise/core/XmlTextIsNameCharacterPinLaw" (some 0) with
  accessFlags := 49
  interfaces := #[]
  cf := some (fileOf pool1 8 #[] #[{ accessFlags := 2, nameIndex := 5, descriptorIndex := 6, attributes := #[] }, { accessFlags := 10, nameIndex := 11, descriptorIndex := 12, attributes := #[] }, { accessFlags := 9, nameIndex := 22, descriptorIndex := 23, attributes := #[] }] 49 2 #[] #[])
  fields := #[]
  methods := #[k1m0, k1m1, k1m2]
  instanceTypes := #[]
  staticTypes := #[]
  resolved := Array.replicate 26 none
  statics := none }

def pool2 : Array CpInfo := pool [(2, .class_ 4), (1, u "java/lang/Object"), (0, u "<init>"), (0, u "()V"), (1, .class_ 10), (1, u "com/example/epikrise/epikrise/core/XmlText"), (36, u "isNameCharacter"), (0, u "(CZZ)Z"), (10, .class_ 60), (0, u "com/example/epikrise/epikrise/core/XmlText$NamesOfAscii")] 20

def k2m0 : Method := { name := "<init>", desc := "()V", sig := { parameters := [], returnType := none }, accessFlags := 2, code := none }
def k2c1 : Code := { maxStack := 2, maxLocals := 5, code := prog_120_method_6_code, exceptionTable := #[], attributes := #[] }
def k2m1 : Method := { name := "isNameCharacter", desc := "(CZZ)Z", sig := { parameters := [.char, .boolean, .boolean], returnType := some .boolean }, accessFlags := 8, code := some k2c1 }
/-- com/example/epikrise/epikrise/core/XmlText -/
def k2 : Class := { plain "com/example/epikrise/epikrise/core/XmlText" (some 0) with
  accessFlags := 49
  interfaces := #[]
  cf := some (fileOf pool2 8 #[.nestMembers #[59]] #[{ accessFlags := 2, nameIndex := 5, descriptorIndex := 6, attributes := #[] }, { accessFlags := 8, nameIndex := 47, descriptorIndex := 48, attributes := #[] }] 49 2 #[] #[])
  fields := #[]
  methods := #[k2m0, k2m1]
  instanceTypes := #[]
  staticTypes := #[]
  resolved := Array.replicate 81 none
  statics := none }

def pool3 : Array CpInfo := pool [(1, u "java/lang/Cloneable"), (0, .class_ 1), (0, u "java/lang/Object"), (0, .class_ 3)] 3

/-- java/lang/Cloneable -/
def k3 : Class := { plain "java/lang/Cloneable" (some 0) with
  accessFlags := 1537
  interfaces := #[]
  cf := some (fileOf pool3 2 #[] #[] 1537 4 #[] #[])
  fields := #[]
  methods := #[]
  instanceTypes := #[]
  staticTypes := #[]
  resolved := Array.replicate 8 none
  statics := none }

def pool4 : Array CpInfo := pool [(1, u "java/io/Serializable"), (0, .class_ 1), (0, u "java/lang/Object"), (0, .class_ 3)] 3

/-- java/io/Serializable -/
def k4 : Class := { plain "java/io/Serializable" (some 0) with
  accessFlags := 1537
  interfaces := #[]
  cf := some (fileOf pool4 2 #[] #[] 1537 4 #[] #[])
  fields := #[]
  methods := #[]
  instanceTypes := #[]
  staticTypes := #[]
  resolved := Array.replicate 8 none
  statics := none }

/-- the primitive byte -/
def k5 : Class := { plain "byte" none with kind := .primitive 'B', accessFlags := 0x411 }
/-- [B -/
def k6 : Class := { plain "[B" (some 0) with kind := .array 5 .byte, interfaces := #[3, 4], accessFlags := 1041 }

/-- the primitive int -/
def k7 : Class := { plain "int" none with kind := .primitive 'I', accessFlags := 0x411 }
/-- [I -/
def k8 : Class := { plain "[I" (some 0) with kind := .array 7 .int, interfaces := #[3, 4], accessFlags := 1041 }

def heap : Heap := #[]
def classes : Array Class := #[k0, k1, k2, k3, k4, k5, k6, k7, k8]
def interned : List (Array UInt16 × Addr) := []
def slotsUsed : Nat := 0
def theMethod : MethodId := ⟨1, 2⟩
def args0 : Array Value := #[.int 5, .int 5]
def aboutOver (below : List Frame) : State where
  vm := { classes := classes, interned := interned.toArray }
  heap := heap
  slotsUsed := slotsUsed
  threads := #[{ frames := .invoking theMethod args0 :: below }]
def below0 : List Frame := [.native { method := ⟨0, 0⟩, args := #[] }]
def about1 : State := aboutOver below0
def p0 : Program := .bare "" "" ""
def e0 : Env := launch0.env 0 0 0
theorem w_frames : about1.frames = Frame.invoking theMethod args0 :: below0 := rfl
set_option maxRecDepth 65536 in
theorem w_args : argsFit about1.vm theMethod args0 = true := by decide +kernel
set_option maxRecDepth 65536 in
theorem w_heap : heapFits about1 = true := by decide +kernel
set_option maxRecDepth 65536 in
theorem w_runnable : about1.curStatus? = some .runnable := by decide +kernel
set_option maxRecDepth 65536 in
theorem w_alone : about1.alone = true := by decide +kernel
set_option maxRecDepth 65536 in
theorem w_named : about1.methodNamed? x = some theMethod := by decide +kernel
set_option maxRecDepth 65536 in
theorem w_hears : about1.hears theMethod below0 = true := by decide +kernel
set_option maxRecDepth 65536 in
theorem w_ripe : about1.ripe theMethod args0 below0 = true := by decide +kernel
theorem w_running : about1.status = .running := rfl
set_option maxRecDepth 65536 in
theorem w_room : about1.hasRoom e0.platform room_1 = true :=
  launch0.hasRoom_least _ room_1 (by decide +kernel) (by decide +kernel) (by decide +kernel) (by decide +kernel) (by decide +kernel) (by decide +kernel)
theorem allAtoms_all (ts : List Jvm.Cond) (a : Array Jvm.Value) (st : Jvm.State) : (allAtoms ts).before a st = ts.all (fun c => c.before a st) := by
  induction ts with
  | nil => rfl
  | cons c t ih =>
    show (Jvm.Cond.and c (allAtoms t)).before a st = _
    rw [Jvm.Cond.before_and, ih, List.all_cons]
def words1 : List Jvm.Cond := Jvm.Cond.code x code maxLocals ret :: tables_1
/-- a 'code' word, met by the world's own term for the bytes: nothing is compared byte by byte -/
theorem code_word {y : MethodName} {bytes : ByteArray} {mx : Nat} {rt : Option FieldType} {a : Array Value} {s : State} {m : MethodId} {meth : Method} {c : Code} (h1 : s.methodNamed? y = some m) (h2 : s.vm.method? m = some meth) (h3 : meth.code = some c) (h4 : c.code = bytes)
    (h5 : (c.maxLocals == mx && c.exceptionTable.isEmpty && decide (c.maxStack ≤ mostOperands) && decide (meth.sig.returnType = rt) && !meth.locks && decide (parseMethodDescriptor y.desc = some meth.sig)) = true) : (Jvm.Cond.code y bytes mx rt).before a s = true := by
  simp only [Bool.and_eq_true, beq_iff_eq, Bool.not_eq_true', decide_eq_true_eq] at h5
  obtain ⟨⟨⟨⟨⟨g1, g2⟩, g3⟩, g4⟩, g5⟩, g6⟩ := h5
  simp [Cond.before, Cond.holds, Cond.value, h1, h2, h3, h4, g1, g2, g3, g4, g5, g6]
def isCode : Jvm.Cond → Bool
  | .code _ _ _ _ => true
  | _ => false
theorem all_split {L : List Jvm.Cond} {P : Jvm.Cond → Bool} (h1 : L.all (fun c => isCode c || P c) = true) (h2 : ∀ c ∈ L.filter isCode, P c = true) : L.all P = true := by
  refine List.all_eq_true.mpr fun c hc => ?_
  have h := List.all_eq_true.mp h1 c hc
  rcases Bool.eq_false_or_eq_true (isCode c) with hi | hi
  · exact h2 c (List.mem_filter.mpr ⟨hc, hi⟩)
  · simpa [hi] using h
set_option maxRecDepth 65536 in
theorem w_c0 : (Jvm.Cond.code x code maxLocals ret).before args0 about1 = true := code_word (m := ⟨1, 2⟩) (meth := k1m2) (c := k1c2) (by decide +kernel) rfl rfl rfl (by decide +kernel)
set_option maxRecDepth 65536 in
theorem w_c1 : (Jvm.Cond.code ({ cls := "com/example/epikrise/epikrise/core/XmlTextIsNameCharacterPinLaw", name := "kind", desc := "(C)I" } : Jvm.MethodName) method_2_code (2 : Nat) (Option.some Jvm.ClassFile.FieldType.int)).before args0 about1 = true := code_word (m := ⟨1, 1⟩) (meth := k1m1) (c := k1c1) (by decide +kernel) rfl rfl rfl (by decide +kernel)
set_option maxRecDepth 65536 in
theorem w_c2 : (Jvm.Cond.code ({ cls := "com/example/epikrise/epikrise/core/XmlText", name := "isNameCharacter", desc := "(CZZ)Z" } : Jvm.MethodName) prog_120_method_6_code (5 : Nat) (Option.some Jvm.ClassFile.FieldType.boolean)).before args0 about1 = true := code_word (m := ⟨2, 1⟩) (meth := k2m1) (c := k2c1) (by decide +kernel) rfl rfl rfl (by decide +kernel)
def codes1 : List Jvm.Cond := [Jvm.Cond.code x code maxLocals ret, Jvm.Cond.code ({ cls := "com/example/epikrise/epikrise/core/XmlTextIsNameCharacterPinLaw", name := "kind", desc := "(C)I" } : Jvm.MethodName) method_2_code (2 : Nat) (Option.some Jvm.ClassFile.FieldType.int), Jvm.Cond.code ({ cls := "com/example/epikrise/epikrise/core/XmlText", name := "isNameCharacter", desc := "(CZZ)Z" } : Jvm.MethodName) prog_120_method_6_code (5 : Nat) (Option.some Jvm.ClassFile.FieldType.boolean)]
set_option maxRecDepth 65536 in
theorem codes_eq : words1.filter isCode = codes1 := rfl
theorem w_codes : ∀ c ∈ words1.filter isCode, c.before args0 about1 = true := by
  rw [codes_eq]
  intro c hc
  simp only [codes1, List.mem_cons, List.not_mem_nil, or_false] at hc
  rcases hc with rfl | rfl | rfl
  · exact w_c0
  · exact w_c1
  · exact w_c2
set_option maxRecDepth 65536 in
theorem w_t1 : words1.all (fun c => isCode c || c.before args0 about1) = true := by decide +kernel
theorem w_tables : (allAtoms (Jvm.Cond.code x code maxLocals ret :: tables_1)).before args0 about1 = true := by
  rw [allAtoms_all]
  show words1.all (fun c => c.before args0 about1) = true
  refine all_split ?_ w_codes
  rw [w_t1]
set_option maxRecDepth 65536 in
theorem w_case : (Jvm.Cond.and given_1 narrow_1).before args0 about1 = true := by decide +kernel
theorem w_applies : (headSpec (Jvm.Cond.code x code maxLocals ret :: tables_1) room_1).applies x e0.platform about1 = true :=
  (Spec.applies_iff w_frames).mpr ⟨w_running, w_runnable, w_alone, w_named, w_hears, w_ripe, w_room, w_tables⟩
theorem atStart : AtStart classFile x code maxLocals ret World_1 tables_1 room_1 Calls_1 rest_1 Pre_1 launch0 p0 e0 about1 theMethod args0 below0 :=
  ⟨lists_1, trivial, launch0.admits_env _ _ _, launch0.least_env, fairChoices_fair.cas, fairChoices_fair.clock, w_frames, w_args, w_heap, w_applies, trivial, trivial, w_case⟩
end start1
theorem witness_1 : WitnessClaimed_1 := ⟨start1.p0, start1.e0, start1.about1, start1.theMethod, start1.args0, start1.below0, start1.atStart⟩
end Jvm.Pilot.@@N@@
