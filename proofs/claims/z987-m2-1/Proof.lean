import JvmDerived
import JvmDerived.Pilot.@@N@@Statement
import JvmDerived.Pilot.@@N@@Code
set_option linter.unusedVariables false
set_option linter.unusedSimpArgs false
namespace Jvm.RoadKit
open Sem ClassFile Op Lib Jvm.Stand Jvm.Free Jvm.LawKit
section New
variable {p : Program} {l : Launch} {e : Env} {R : Room} {s : State} {m : MethodId} {args : Array Value} {below : List Frame} {meth : Method} {c : Code} {T : State} {locs : List Loc} {cells slots : Nat}
end New
end Jvm.RoadKit
namespace Jvm.Pilot.@@N@@
open Jvm Jvm.ClassFile Sem Op Lib Jvm.Free Jvm.Stand Jvm.LawKit Jvm.RoadKit Bundle Jvm.Pilot.@@N@@.Jvm.D
section Own
variable {p : Program} {l : Launch} {e : Env} {R : Room} {s : State} {m : MethodId} {args : Array Value} {below : List Frame} {meth : Method} {c : Code} {bs : ByteArray} {ml : Nat} {own nm : String} {rt : Option FieldType} {Z : State} {F : State → Outcome → Prop} {n0 : Nat} {h h' : Heap} {cells slots : Nat} {pc q : Nat} {Ls Ls' : Array Slot} {st : List Value} {a0 : Array Value}
def oCx (p : Program) (s : State) (m : MethodId) (meth : Method) (c : Code) (bs : ByteArray) (ml : Nat) (own nm : String) (rt : Option FieldType) (Z : State) : Prop :=
  p.tables.exec = Jvm.exec ∧ c.code = bs ∧ c.maxLocals = ml ∧ s.vm.findClass own = some m.cls ∧ Z.Warmed39 s.vm ∧ meth.name = nm ∧ meth.sig.returnType = rt ∧ meth.locks = false
def oW (p : Program) (l : Launch) (e : Env) (R : Room) (s : State) (m : MethodId) (args : Array Value) (below : List Frame) (meth : Method) (c : Code) (F : State → Outcome → Prop) (n0 : Nat) (h : Heap) (cells slots : Nat) (f : JFrame) : Prop :=
  ∀ (T : State) (locs : List Loc), Stand p l e R s m args below meth c T locs cells slots → T.heap = h → Fr n0 locs → ∃ s₂ o, Steps p.tables e below (T.setTop f) s₂ ∧ s₂.status = .running ∧ Ended s₂ below o ∧ F s₂ o
def oFin (s : State) (n0 k n : Nat) (Q : Option Value → Heap → Prop) (s₂ : State) (o : Outcome) : Prop := ∃ v L, o = .returned v ∧ (Fr n0 L ∧ Q v s₂.heap) ∧ FrameEnd s o s₂ L k n
def oMet (l : Launch) (Z : State) (y : MethodName) (bs : ByteArray) (ml : Nat) (rt : Option FieldType) (ws : List Jvm.Cond) (R : Room) (k n n0 : Nat) (as' : Array Value) (h0 : Heap) (Q : Option Value → Heap → Prop) : Prop :=
  MetFree l y (head1 (Jvm.Cond.code y bs ml rt :: ws) R) (fun a U => a = as' ∧ Z.Warmed39 U.vm ∧ U.heap = h0) (fun _ _ _ _ _ => True) (fun _ U o U' => ∃ v L, o = .returned v ∧ (Fr n0 L ∧ Q v U'.heap) ∧ FrameEnd U o U' L k n)
theorem oMet.intro {y : MethodName} {ws : List Jvm.Cond} {k n : Nat} {as' : Array Value} {h0 : Heap} {Q : Option Value → Heap → Prop} (pn : plainFor y = true) (ef : ∀ m, entryFrame m as' ml = mkF m 0 Ls [])
    (body : ∀ (p : Program) (e : Env) (s : State) (m : MethodId) (below : List Frame) (meth : Method) (c : Code), oCx p s m meth c bs ml y.cls y.name rt Z → oW p l e R s m as' below meth c (oFin s n0 k n Q) n0 h0 0 0 (mkF m 0 Ls [])) :
    oMet l Z y bs ml rt ws R k n n0 as' h0 Q := by
  refine MetFree.of_bodySF pn hisR ?_
  intro p e s m args below meth c s₁ Bd hml0 hP hK
  obtain ⟨rfl, hZ, hh⟩ := hP
  have e0 : s₁.heap = h0 := by rw [← hh, Bd.state]; rfl
  have C : oCx p s m meth c bs ml y.cls y.name rt Z := ⟨Bd.exec, Bd.bytes, hml0, findClass_of_methodNamed Bd.named, hZ, (name_of_methodNamed Bd.named Bd.method).1, Bd.returns, Bd.notSynchronized⟩
  obtain ⟨s₂, o, h1, h2, h3, h4⟩ := body p e s m below meth c C s₁ [] (Stand.of_body Bd) e0 (Fr.nil n0)
  exact ⟨s₂, o, castTop (ef m) h1, h2, h3, h4⟩
theorem oMet.mono {y : MethodName} {ws : List Jvm.Cond} {k n : Nat} {as' : Array Value} {h0 : Heap} {Q Q' : Option Value → Heap → Prop} (M : oMet l Z y bs ml rt ws R k n n0 as' h0 Q) (hq : ∀ v h, Q v h → Q' v h) : oMet l Z y bs ml rt ws R k n n0 as' h0 Q' := by
  intro p e ha hc hk s m args below hf happ hP hK
  obtain ⟨n', o, h1, h2, h3, v, L, h4, ⟨h5, h6⟩, h7⟩ := M p e ha hc hk s m args below hf happ hP hK
  exact ⟨n', o, h1, h2, h3, v, L, h4, ⟨h5, hq _ _ h6⟩, h7⟩
theorem oW.of {f f' : JFrame} (k : ∀ (T : State) (locs : List Loc), Stand p l e R s m args below meth c T locs cells slots → ∀ t, Steps p.tables e below (T.setTop f') t → Steps p.tables e below (T.setTop f) t)
    (g : oW p l e R s m args below meth c F n0 h cells slots f') : oW p l e R s m args below meth c F n0 h cells slots f := fun T locs X eT N => by
  obtain ⟨s₂, o, h1, h2⟩ := g T locs X eT N
  exact ⟨s₂, o, k T locs X _ h1, h2⟩
theorem oIload (C : oCx p s m meth c bs ml own nm rt Z) {k : Nat} {v : Int32} (hd : decode bs pc = .ok (.iload k, 2)) (hl : Ls[k]? = some (.val (.int v))) (hq : pc + 2 = q) (g : oW p l e R s m args below meth c F n0 h cells slots (mkF m q Ls (.int v :: st))) : oW p l e R s m args below meth c F n0 h cells slots (mkF m pc Ls (st)) := by
  subst hq; exact oW.of (fun T locs X t k => XS.iload X.here C.1 rfl (hb C.2.1 hd) hl k) g
theorem oLloadN (C : oCx p s m meth c bs ml own nm rt Z) {k : Fin 4} {v : Int64} (hd : decode bs pc = .ok (.lload_n k, 1)) (hl : Ls[k.val]? = some (.val (.long v))) (hq : pc + 1 = q) (g : oW p l e R s m args below meth c F n0 h cells slots (mkF m q Ls (.long v :: st))) : oW p l e R s m args below meth c F n0 h cells slots (mkF m pc Ls (st)) := by
  subst hq; exact oW.of (fun T locs X t k => XS.lloadN X.here C.1 rfl (hb C.2.1 hd) hl k) g
theorem oLload (C : oCx p s m meth c bs ml own nm rt Z) {k : Nat} {v : Int64} (hd : decode bs pc = .ok (.lload k, 2)) (hl : Ls[k]? = some (.val (.long v))) (hq : pc + 2 = q) (g : oW p l e R s m args below meth c F n0 h cells slots (mkF m q Ls (.long v :: st))) : oW p l e R s m args below meth c F n0 h cells slots (mkF m pc Ls (st)) := by
  subst hq; exact oW.of (fun T locs X t k => XS.lload X.here C.1 rfl (hb C.2.1 hd) hl k) g
theorem oIstore (C : oCx p s m meth c bs ml own nm rt Z) {k : Nat} {v : Int32} (hd : decode bs pc = .ok (.istore k, 2)) (hl : storeLocals Ls k (.int v) = some Ls') (hq : pc + 2 = q) (g : oW p l e R s m args below meth c F n0 h cells slots (mkF m q Ls' (st))) : oW p l e R s m args below meth c F n0 h cells slots (mkF m pc Ls (.int v :: st)) := by
  subst hq; exact oW.of (fun T locs X t k => XS.istore X.here C.1 rfl (hb C.2.1 hd) rfl hl k) g
theorem oLstore (C : oCx p s m meth c bs ml own nm rt Z) {k : Nat} {v : Int64} (hd : decode bs pc = .ok (.lstore k, 2)) (hl : storeLocals Ls k (.long v) = some Ls') (hq : pc + 2 = q) (g : oW p l e R s m args below meth c F n0 h cells slots (mkF m q Ls' (st))) : oW p l e R s m args below meth c F n0 h cells slots (mkF m pc Ls (.long v :: st)) := by
  subst hq; exact oW.of (fun T locs X t k => XS.lstore X.here C.1 rfl (hb C.2.1 hd) rfl hl k) g
theorem oIconst (C : oCx p s m meth c bs ml own nm rt Z) {i : Int} {z : Int32} (hd : decode bs pc = .ok (.iconst i, 1)) (hz : Int32.ofInt i = z) (hq : pc + 1 = q) (g : oW p l e R s m args below meth c F n0 h cells slots (mkF m q Ls (.int z :: st))) : oW p l e R s m args below meth c F n0 h cells slots (mkF m pc Ls (st)) := by
  subst hq; exact oW.of (fun T locs X t k => XS.iconst X.here C.1 rfl (hb C.2.1 hd) (hz ▸ k)) g
theorem oGoto (C : oCx p s m meth c bs ml own nm rt Z) {o : Int} (hd : decode bs pc = .ok (.goto o, 3)) (ho : 0 ≤ (pc : Int) + o) (hp : ((pc : Int) + o).toNat = q) (g : oW p l e R s m args below meth c F n0 h cells slots (mkF m q Ls (st))) : oW p l e R s m args below meth c F n0 h cells slots (mkF m pc Ls (st)) :=
  oW.of (fun T locs X t k => XS.goto X.here C.1 rfl (pc0 := pc) rfl (hb C.2.1 hd) ho hp k) g
theorem oIcmp_ne (C : oCx p s m meth c bs ml own nm rt Z) {x y : Int32} {o : Int} {r : Nat} (hd : decode bs pc = .ok (.if_icmp .ne o, 3)) (ho : 0 ≤ (pc : Int) + o) (hp : ((pc : Int) + o).toNat = q) (hr : pc + 3 = r) (gy : ¬ x = y → oW p l e R s m args below meth c F n0 h cells slots (mkF m q Ls (st))) (gn : x = y → oW p l e R s m args below meth c F n0 h cells slots (mkF m r Ls (st))) : oW p l e R s m args below meth c F n0 h cells slots (mkF m pc Ls (.int y :: .int x :: st)) := by
  subst hr
  by_cases hc : x = y
  · exact oW.of (fun T locs X t k => XS.icmpNo X.here C.1 rfl (hb C.2.1 hd) rfl (teq hc).2 k) (gn hc)
  · exact oW.of (fun T locs X t k => XS.icmpYes X.here C.1 rfl (pc0 := pc) rfl (hb C.2.1 hd) rfl (feq hc).2 ho hp k) (gy hc)
theorem oIf_lt (C : oCx p s m meth c bs ml own nm rt Z) {x : Int32} {o : Int} {r : Nat} (hd : decode bs pc = .ok (.ifCond .lt o, 3)) (ho : 0 ≤ (pc : Int) + o) (hp : ((pc : Int) + o).toNat = q) (hr : pc + 3 = r) (gy : x < 0 → oW p l e R s m args below meth c F n0 h cells slots (mkF m q Ls (st))) (gn : ¬ x < 0 → oW p l e R s m args below meth c F n0 h cells slots (mkF m r Ls (st))) : oW p l e R s m args below meth c F n0 h cells slots (mkF m pc Ls (.int x :: st)) := by
  subst hr
  by_cases hc : x < 0
  · exact oW.of (fun T locs X t k => XS.ifYes X.here C.1 rfl (pc0 := pc) rfl (hb C.2.1 hd) rfl ((if0 _ _).trans (tlt hc).1) ho hp k) (gy hc)
  · exact oW.of (fun T locs X t k => XS.ifNo X.here C.1 rfl (hb C.2.1 hd) rfl ((if0 _ _).trans (flt hc).1) k) (gn hc)
theorem oLcmp_lt (C : oCx p s m meth c bs ml own nm rt Z) {x y : Int64} {o : Int} {pd r : Nat} (hd0 : decode bs pc = .ok (.lcmp, 1)) (hq0 : pc + 1 = pd) (hd : decode bs pd = .ok (.ifCond .lt o, 3)) (ho : 0 ≤ (pd : Int) + o) (hp : ((pd : Int) + o).toNat = q) (hr : pd + 3 = r) (gy : x < y → oW p l e R s m args below meth c F n0 h cells slots (mkF m q Ls (st))) (gn : ¬ x < y → oW p l e R s m args below meth c F n0 h cells slots (mkF m r Ls (st))) : oW p l e R s m args below meth c F n0 h cells slots (mkF m pc Ls (.long y :: .long x :: st)) := by
  subst hq0
  refine oW.of (fun T locs X t k => XS.lcmp X.here C.1 rfl (hb C.2.1 hd0) rfl k) ?_
  exact oIf_lt C hd ho hp hr (fun w => gy ((lw_lt x y).mp w)) (fun w => gn (fun u => w ((lw_lt x y).mpr u)))
theorem oIf_gt (C : oCx p s m meth c bs ml own nm rt Z) {x : Int32} {o : Int} {r : Nat} (hd : decode bs pc = .ok (.ifCond .gt o, 3)) (ho : 0 ≤ (pc : Int) + o) (hp : ((pc : Int) + o).toNat = q) (hr : pc + 3 = r) (gy : 0 < x → oW p l e R s m args below meth c F n0 h cells slots (mkF m q Ls (st))) (gn : ¬ 0 < x → oW p l e R s m args below meth c F n0 h cells slots (mkF m r Ls (st))) : oW p l e R s m args below meth c F n0 h cells slots (mkF m pc Ls (.int x :: st)) := by
  subst hr
  by_cases hc : 0 < x
  · exact oW.of (fun T locs X t k => XS.ifYes X.here C.1 rfl (pc0 := pc) rfl (hb C.2.1 hd) rfl ((if0 _ _).trans (tlt hc).2.2.1) ho hp k) (gy hc)
  · exact oW.of (fun T locs X t k => XS.ifNo X.here C.1 rfl (hb C.2.1 hd) rfl ((if0 _ _).trans (flt hc).2.2.1) k) (gn hc)
theorem oLcmp_gt (C : oCx p s m meth c bs ml own nm rt Z) {x y : Int64} {o : Int} {pd r : Nat} (hd0 : decode bs pc = .ok (.lcmp, 1)) (hq0 : pc + 1 = pd) (hd : decode bs pd = .ok (.ifCond .gt o, 3)) (ho : 0 ≤ (pd : Int) + o) (hp : ((pd : Int) + o).toNat = q) (hr : pd + 3 = r) (gy : y < x → oW p l e R s m args below meth c F n0 h cells slots (mkF m q Ls (st))) (gn : ¬ y < x → oW p l e R s m args below meth c F n0 h cells slots (mkF m r Ls (st))) : oW p l e R s m args below meth c F n0 h cells slots (mkF m pc Ls (.long y :: .long x :: st)) := by
  subst hq0
  refine oW.of (fun T locs X t k => XS.lcmp X.here C.1 rfl (hb C.2.1 hd0) rfl k) ?_
  exact oIf_gt C hd ho hp hr (fun w => gy ((lw_gt x y).mp w)) (fun w => gn (fun u => w ((lw_gt x y).mpr u)))
section Rets
variable {k n : Nat} {Q : Option Value → Heap → Prop} {rt' : FieldType}
theorem oRetN (C : oCx p s m meth c bs ml own nm (some rt') Z) (ht : rt' = .boolean ∨ rt' = .byte ∨ rt' = .char ∨ rt' = .short) {z z' : Int32} (hd : decode bs pc = .ok (.ireturn, 1)) (hz : nar rt' z = z') (hk : cells ≤ k) (hn : slots ≤ n) (hQ : Q (some (.int z')) h) :
    oW p l e R s m args below meth c (oFin s n0 k n Q) n0 h cells slots (mkF m pc Ls (.int z :: st)) := fun T locs X eT N => by
  subst hz eT
  obtain ⟨fs, hr, hrun, hended, hW, hsame⟩ := X.leave (v := some (.int (nar rt' z))) (fun hh => by rw [C.2.2.2.2.2.2.1] at hh; cases hh) C.2.2.2.2.2.2.2
  exact ⟨_, _, retN X C.1 C.2.2.2.2.2.2.1 ht (hb C.2.1 hd) hr, hrun, hended, _, _, rfl, ⟨N, hQ⟩, ⟨_, rfl⟩, hW, hsame.mono hk hn⟩
theorem oRetZ (C : oCx p s m meth c bs ml own nm (some .boolean) Z) {z z' : Int32} (hd : decode bs pc = .ok (.ireturn, 1)) (hz : nar .boolean z = z') (hk : cells ≤ k) (hn : slots ≤ n) (hQ : Q (some (.int z')) h) :
    oW p l e R s m args below meth c (oFin s n0 k n Q) n0 h cells slots (mkF m pc Ls (.int z :: st)) := oRetN C (Or.inl rfl) hd hz hk hn hQ
theorem oRetL (C : oCx p s m meth c bs ml own nm (some .long) Z) {z : Int64} (hd : decode bs pc = .ok (.lreturn, 1)) (hk : cells ≤ k) (hn : slots ≤ n) (hQ : Q (some (.long z)) h) :
    oW p l e R s m args below meth c (oFin s n0 k n Q) n0 h cells slots (mkF m pc Ls [.long z]) := fun T locs X eT N => by
  subst eT
  obtain ⟨fs, hr, hrun, hended, hW, hsame⟩ := X.leave (v := some (.long z)) (fun hh => by rw [C.2.2.2.2.2.2.1] at hh; cases hh) C.2.2.2.2.2.2.2
  exact ⟨_, _, X.lreturnOut C.1 C.2.2.2.2.2.2.1 (hb C.2.1 hd) hr, hrun, hended, _, _, rfl, ⟨N, hQ⟩, ⟨_, rfl⟩, hW, hsame.mono hk hn⟩
end Rets
section Calls
variable {i : Nat} {y : MethodName} {bs' : ByteArray} {ml' : Nat} {rt' : Option FieldType} {R' : Room} {Q : Option Value → Heap → Prop} {argsL rest : List Value} {ps : List FieldType} {r' : Option FieldType} {W : Nat} {a : Addr}
theorem oCallS (C : oCx p s m meth c bs ml own nm rt Z) (w1 : (Jvm.Cond.methodLink own i y).before a0 Z = true) (w2 : (Jvm.Cond.static y).before a0 Z = true) (w3 : (Jvm.Cond.initialized y.cls).before a0 Z = true) (w4 : (Jvm.Cond.code y bs' ml' rt').before a0 Z = true) (hd : decode bs pc = .ok (.invokestatic i, 3))
    (hy : y.cls ≠ "java/lang/invoke/MethodHandle" ∧ y.cls ≠ "java/lang/invoke/VarHandle") (hpd : parseMethodDescriptor y.desc = some ⟨ps, r'⟩) (hlen : argsL.length = ps.length) (hsz : Ls.size = ml) (hst : argsL.reverse ++ rest = st) (hW : (rest.map fun v => v.category).sum = W) (hq : pc + 3 = q)
    (hf : R'.frames + 1 ≤ R.frames) (hl : W + (ml' + 11) + R'.locals ≤ R.locals) (hc : cells + R'.cells ≤ R.cells) (hs : slots + R'.slots ≤ R.slots)
    (M : oMet l Z y bs' ml' rt' [] R' R'.cells R'.slots n0 argsL.toArray h Q)
    (g : ∀ v h', Q v h' → oW p l e R s m args below meth c F n0 h' (cells + R'.cells) (slots + R'.slots) (mkF m q Ls (v.toList ++ rest))) :
    oW p l e R s m args below meth c F n0 h cells slots (mkF m pc Ls st) := fun T locs X eT N => by
  subst hq hst
  have hZ := C.2.2.2.2.1
  obtain ⟨v, _, ⟨T', L', k', n'⟩, -, X', ⟨Lc, ⟨hN, hQ⟩, l', y', z'⟩, st'⟩ := Jvm.LawKit.callS X C.1 (y := y) C.2.2.2.1 (mvT hZ w1) (mvT hZ w2) (mvT hZ w3) (mvT hZ w4) hy (backOf (W := W) (Q := fun v h L => Fr n0 L ∧ Q v h) M hZ w4 w3 hf hl) (g := mkF m pc Ls (argsL.reverse ++ rest)) rfl (hsz.trans C.2.2.1.symm) (argsL := argsL) (rest := rest) (lenOf hpd hlen) rfl (by show 2 * 0 + _ ≤ _; omega) (hb C.2.1 hd) (fun _ _ => ⟨rfl, eT, hc, hs⟩)
  dsimp only [Pt.U, Pt.locs, Pt.cells, Pt.slots] at X' l' y' z' st' hQ
  subst l' y' z'
  obtain ⟨s₂, o, h1, h2⟩ := g v T'.heap hQ T' _ X' rfl (Fr.app N hN)
  exact ⟨s₂, o, st' _ h1, h2⟩
def oMetH (l : Launch) (Z : State) (y : MethodName) (bs : ByteArray) (ml : Nat) (rt : Option FieldType) (tr : List (Nat × Nat × Nat × Nat)) (R : Room) (k n n0 : Nat) (as' : Array Value) (h0 : Heap) (Q : Option Value → Heap → Prop) : Prop :=
  MetFree l y (head1 [Jvm.Cond.codeWith y bs ml rt tr] R) (fun a U => a = as' ∧ Z.Warmed39 U.vm ∧ U.heap = h0) (fun _ _ _ _ _ => True) (fun _ U o U' => ∃ v L, o = .returned v ∧ (Fr n0 L ∧ Q v U'.heap) ∧ FrameEnd U o U' L k n)
theorem oMetH.intro {tr : List (Nat × Nat × Nat × Nat)} {k n : Nat} {as' : Array Value} {h0 : Heap} (pn : plainFor y = true) (ef : ∀ m, entryFrame m as' ml = mkF m 0 Ls [])
    (body : ∀ (p : Program) (e : Env) (s : State) (m : MethodId) (below : List Frame) (meth : Method) (c : Code), oCx p s m meth c bs ml y.cls y.name rt Z → oW p l e R s m as' below meth c (oFin s n0 k n Q) n0 h0 0 0 (mkF m 0 Ls [])) :
    oMetH l Z y bs ml rt tr R k n n0 as' h0 Q := by
  refine MetFree.of_bodySF pn hisWith ?_
  intro p e s m args below meth c s₁ Bd hml0 hP hK
  obtain ⟨rfl, hZ, hh⟩ := hP
  have e0 : s₁.heap = h0 := by rw [← hh, Bd.state]; rfl
  have C : oCx p s m meth c bs ml y.cls y.name rt Z := ⟨Bd.exec, Bd.bytes, hml0, findClass_of_methodNamed Bd.named, hZ, (name_of_methodNamed Bd.named Bd.method).1, Bd.returns, Bd.notSynchronized⟩
  obtain ⟨s₂, o, h1, h2, h3, h4⟩ := body p e s m below meth c C s₁ [] (Stand.of_body Bd) e0 (Fr.nil n0)
  exact ⟨s₂, o, castTop (ef m) h1, h2, h3, h4⟩
theorem oPureK {w : Value} {hc : Heap} (g : oW p l e R s m args below meth c F n0 hc cells slots (mkF m q Ls (w :: rest))) : ∀ (v : Option Value) (h' : Heap), (v = some w ∧ h' = hc) → oW p l e R s m args below meth c F n0 h' cells slots (mkF m q Ls (v.toList ++ rest)) := by
  rintro _ _ ⟨rfl, rfl⟩; exact g
end Calls
def oAr (Z : State) (h : Heap) (a : Addr) (ty : FieldType) (vs : List Value) : Prop := ∃ c : Cell, Arr Z h a c ty ∧ c.slots.toList = vs
section Arrays
variable {a b : Addr} {ty : FieldType} {vs : List Value} {v : Value} {sl : Nat}
theorem oAr.lt (A : oAr Z h a ty vs) : a < h.size := by obtain ⟨c, A, -⟩ := A; exact A.lt
end Arrays
def oKe (h0 h : Heap) (ws : List Addr) (fs : List (Addr × Nat)) : Prop := h0.size ≤ h.size ∧ ∀ (x : Addr) (c : Cell), h0[x]? = some c → ∃ c' : Cell, h[x]? = some c' ∧ c'.cls = c.cls ∧ c'.vm = c.vm ∧ c'.slots.size = c.slots.size ∧ (x ∉ ws → ∀ j, (x, j) ∉ fs → c'.slots[j]? = c.slots[j]?)
section Ke
variable {h0 : Heap} {ws ws' : List Addr} {fs fs' : List (Addr × Nat)} {a b : Addr} {sl : Nat} {v : Value} {ty : FieldType} {vs : List Value} {K O n d : String}
theorem oKe.refl (h : Heap) (ws : List Addr) (fs : List (Addr × Nat)) : oKe h h ws fs := ⟨Nat.le_refl _, fun x c q => ⟨c, q, rfl, rfl, rfl, fun _ _ _ => rfl⟩⟩
theorem oKe.trans (A : oKe h0 h ws fs) (B : oKe h h' ws' fs') (q1 : ∀ x ∈ ws', x ∈ ws ∨ h0.size ≤ x) (q2 : ∀ x ∈ fs', x ∈ fs ∨ h0.size ≤ x.1) : oKe h0 h' ws fs := by
  refine ⟨Nat.le_trans A.1 B.1, fun x c hx => ?_⟩
  obtain ⟨c1, e1, e2, e3, e4, e5⟩ := A.2 x c hx
  obtain ⟨c2, g1, g2, g3, g4, g5⟩ := B.2 x c1 e1
  have lt := (Array.getElem?_eq_some_iff.mp hx).1
  refine ⟨c2, g1, g2.trans e2, g3.trans e3, g4.trans e4, fun hn j hj => ?_⟩
  rw [g5 (fun z => (q1 x z).elim hn (fun y => absurd lt (Nat.not_lt.mpr y))) j (fun z => (q2 _ z).elim hj (fun y => absurd lt (Nat.not_lt.mpr y)))]
  exact e5 hn j hj
end Ke
end Own
section Own2
variable {p : Program} {l : Launch} {e : Env} {R : Room} {s : State} {m : MethodId} {args : Array Value} {below : List Frame} {meth : Method} {c : Code} {bs : ByteArray} {ml : Nat} {own nm : String} {rt : Option FieldType} {Z : State} {F : State → Outcome → Prop} {n0 : Nat} {h h' : Heap} {cells slots : Nat} {pc q : Nat} {Ls Ls' : Array Slot} {st : List Value} {a0 : Array Value}
section ArraysO
variable {a b : Addr} {K : String} {vs : List Value} {v : Value} {sl : Nat}
end ArraysO
section Stas
variable {K n d : String} {v w : Value} {a : Addr} {sl : Nat}
end Stas
end Own2
abbrev oHw (a0 : Array Value) (Z : State) : Prop := ∀ d ∈ tables_1, d.before a0 Z = true
theorem w0 {a0 : Array Value} {Z : State} (hw : oHw a0 Z) : (Jvm.Cond.methodLink "com/example/orderloom/orderloom/FootprintOverlapPinLaw" (7 : Nat) ({ cls := "java/lang/Math", name := "min", desc := "(JJ)J" } : Jvm.MethodName)).before a0 Z = true := hw _ (List.mem_of_getElem? (i := 0) rfl)
theorem w1 {a0 : Array Value} {Z : State} (hw : oHw a0 Z) : (Jvm.Cond.static ({ cls := "java/lang/Math", name := "min", desc := "(JJ)J" } : Jvm.MethodName)).before a0 Z = true := hw _ (List.mem_of_getElem? (i := 1) rfl)
theorem w2 {a0 : Array Value} {Z : State} (hw : oHw a0 Z) : (Jvm.Cond.initialized "java/lang/Math").before a0 Z = true := hw _ (List.mem_of_getElem? (i := 2) rfl)
theorem w3 {a0 : Array Value} {Z : State} (hw : oHw a0 Z) : (Jvm.Cond.code ({ cls := "java/lang/Math", name := "min", desc := "(JJ)J" } : Jvm.MethodName) jdk_29_method_70_code (4 : Nat) (Option.some Jvm.ClassFile.FieldType.long)).before a0 Z = true := hw _ (List.mem_of_getElem? (i := 3) rfl)
theorem w4 {a0 : Array Value} {Z : State} (hw : oHw a0 Z) : (Jvm.Cond.methodLink "com/example/orderloom/orderloom/FootprintOverlapPinLaw" (13 : Nat) ({ cls := "java/lang/Math", name := "max", desc := "(JJ)J" } : Jvm.MethodName)).before a0 Z = true := hw _ (List.mem_of_getElem? (i := 4) rfl)
theorem w5 {a0 : Array Value} {Z : State} (hw : oHw a0 Z) : (Jvm.Cond.static ({ cls := "java/lang/Math", name := "max", desc := "(JJ)J" } : Jvm.MethodName)).before a0 Z = true := hw _ (List.mem_of_getElem? (i := 5) rfl)
theorem w6 {a0 : Array Value} {Z : State} (hw : oHw a0 Z) : (Jvm.Cond.code ({ cls := "java/lang/Math", name := "max", desc := "(JJ)J" } : Jvm.MethodName) jdk_29_method_66_code (4 : Nat) (Option.some Jvm.ClassFile.FieldType.long)).before a0 Z = true := hw _ (List.mem_of_getElem? (i := 6) rfl)
theorem w7 {a0 : Array Value} {Z : State} (hw : oHw a0 Z) : (Jvm.Cond.methodLink "com/example/orderloom/orderloom/FootprintOverlapPinLaw" (16 : Nat) ({ cls := "com/example/orderloom/orderloom/Footprint", name := "overlap", desc := "(JJJJ)Z" } : Jvm.MethodName)).before a0 Z = true := hw _ (List.mem_of_getElem? (i := 7) rfl)
theorem w8 {a0 : Array Value} {Z : State} (hw : oHw a0 Z) : (Jvm.Cond.static ({ cls := "com/example/orderloom/orderloom/Footprint", name := "overlap", desc := "(JJJJ)Z" } : Jvm.MethodName)).before a0 Z = true := hw _ (List.mem_of_getElem? (i := 8) rfl)
theorem w9 {a0 : Array Value} {Z : State} (hw : oHw a0 Z) : (Jvm.Cond.initialized "com/example/orderloom/orderloom/Footprint").before a0 Z = true := hw _ (List.mem_of_getElem? (i := 9) rfl)
theorem w10 {a0 : Array Value} {Z : State} (hw : oHw a0 Z) : (Jvm.Cond.code ({ cls := "com/example/orderloom/orderloom/Footprint", name := "overlap", desc := "(JJJJ)Z" } : Jvm.MethodName) prog_11_method_7_code (8 : Nat) (Option.some Jvm.ClassFile.FieldType.boolean)).before a0 Z = true := hw _ (List.mem_of_getElem? (i := 10) rfl)
theorem ef_1 (m : MethodId) (x0 : Int64) (x1 : Int64) : entryFrame m #[.long x0, .long x1] 4 = mkF m 0 #[.val (.long x0), .second, .val (.long x1), .second] [] := by first | (simp [entryFrame, mkF, argsToLocals, Value.category]; done) | rfl
def fMin (q1 : Int64) (q2 : Int64) : Int64 := (if q2 < q1 then q2 else q1)
theorem fMin_def (q1 : Int64) (q2 : Int64) : fMin q1 q2 = (if q2 < q1 then q2 else q1) := rfl
theorem d1_0 : decode jdk_29_method_70_code 0 = .ok (.lload_n 0, 1) := by decide +kernel
theorem d1_1 : decode jdk_29_method_70_code 1 = .ok (.lload_n 2, 1) := by decide +kernel
theorem d1_2 : decode jdk_29_method_70_code 2 = .ok (.lcmp, 1) := by decide +kernel
theorem d1_3 : decode jdk_29_method_70_code 3 = .ok (.ifCond .gt 7, 3) := by decide +kernel
theorem d1_6 : decode jdk_29_method_70_code 6 = .ok (.lload_n 0, 1) := by decide +kernel
theorem d1_7 : decode jdk_29_method_70_code 7 = .ok (.goto 4, 3) := by decide +kernel
theorem d1_10 : decode jdk_29_method_70_code 10 = .ok (.lload_n 2, 1) := by decide +kernel
theorem d1_11 : decode jdk_29_method_70_code 11 = .ok (.lreturn, 1) := by decide +kernel
set_option maxRecDepth 65536 in
set_option maxHeartbeats 40000000 in
theorem mt_fMin (l : Launch) (Z : State) (a0 : Array Value) (hw : oHw a0 Z) (h0 : Heap) (n0 : Nat) (Z0 : n0 ≤ h0.size) (q1 : Int64) (q2 : Int64)  :
    oMet l Z (⟨"java/lang/Math", "min", "(JJ)J"⟩ : MethodName) jdk_29_method_70_code 4 (some .long) [] ({ frames := 0, cells := 0, slots := 0, locals := 0 } : Room) 0 0 n0 #[.long q1, .long q2] h0 (fun v h => v = some (.long (fMin q1 q2)) ∧ h = h0) := by
  refine oMet.intro (Jvm.Free.JP.mathPlain rfl (by decide +kernel)) (fun m => ef_1 m q1 q2) ?_
  intro op oe os m obl omt ocd C
  refine oLloadN C d1_0 rfl rfl ?_
  refine oLloadN C d1_1 rfl rfl ?_
  refine oLcmp_gt C d1_2 rfl d1_3 (q := 10) (by decide) (by decide) (r := 6) rfl (fun hc2 => ?_) (fun hc2 => ?_)
  ·
   refine oLloadN C d1_10 rfl rfl ?_
   refine oRetL C d1_11 (by decide) (by decide) ?_
   exact ⟨by rw [fMin_def, if_pos hc2], rfl⟩
  ·
   refine oLloadN C d1_6 rfl rfl ?_
   refine oGoto C d1_7 (q := 11) (by decide) (by decide) ?_
   refine oRetL C d1_11 (by decide) (by decide) ?_
   exact ⟨by rw [fMin_def, if_neg hc2], rfl⟩
theorem ef_2 (m : MethodId) (x0 : Int64) (x1 : Int64) : entryFrame m #[.long x0, .long x1] 4 = mkF m 0 #[.val (.long x0), .second, .val (.long x1), .second] [] := by first | (simp [entryFrame, mkF, argsToLocals, Value.category]; done) | rfl
def fMax (q1 : Int64) (q2 : Int64) : Int64 := (if q1 < q2 then q2 else q1)
theorem fMax_def (q1 : Int64) (q2 : Int64) : fMax q1 q2 = (if q1 < q2 then q2 else q1) := rfl
theorem d2_0 : decode jdk_29_method_66_code 0 = .ok (.lload_n 0, 1) := by decide +kernel
theorem d2_1 : decode jdk_29_method_66_code 1 = .ok (.lload_n 2, 1) := by decide +kernel
theorem d2_2 : decode jdk_29_method_66_code 2 = .ok (.lcmp, 1) := by decide +kernel
theorem d2_3 : decode jdk_29_method_66_code 3 = .ok (.ifCond .lt 7, 3) := by decide +kernel
theorem d2_6 : decode jdk_29_method_66_code 6 = .ok (.lload_n 0, 1) := by decide +kernel
theorem d2_7 : decode jdk_29_method_66_code 7 = .ok (.goto 4, 3) := by decide +kernel
theorem d2_10 : decode jdk_29_method_66_code 10 = .ok (.lload_n 2, 1) := by decide +kernel
theorem d2_11 : decode jdk_29_method_66_code 11 = .ok (.lreturn, 1) := by decide +kernel
set_option maxRecDepth 65536 in
set_option maxHeartbeats 40000000 in
theorem mt_fMax (l : Launch) (Z : State) (a0 : Array Value) (hw : oHw a0 Z) (h0 : Heap) (n0 : Nat) (Z0 : n0 ≤ h0.size) (q1 : Int64) (q2 : Int64)  :
    oMet l Z (⟨"java/lang/Math", "max", "(JJ)J"⟩ : MethodName) jdk_29_method_66_code 4 (some .long) [] ({ frames := 0, cells := 0, slots := 0, locals := 0 } : Room) 0 0 n0 #[.long q1, .long q2] h0 (fun v h => v = some (.long (fMax q1 q2)) ∧ h = h0) := by
  refine oMet.intro (Jvm.Free.JP.mathPlain rfl (by decide +kernel)) (fun m => ef_2 m q1 q2) ?_
  intro op oe os m obl omt ocd C
  refine oLloadN C d2_0 rfl rfl ?_
  refine oLloadN C d2_1 rfl rfl ?_
  refine oLcmp_lt C d2_2 rfl d2_3 (q := 10) (by decide) (by decide) (r := 6) rfl (fun hc2 => ?_) (fun hc2 => ?_)
  ·
   refine oLloadN C d2_10 rfl rfl ?_
   refine oRetL C d2_11 (by decide) (by decide) ?_
   exact ⟨by rw [fMax_def, if_pos hc2], rfl⟩
  ·
   refine oLloadN C d2_6 rfl rfl ?_
   refine oGoto C d2_7 (q := 11) (by decide) (by decide) ?_
   refine oRetL C d2_11 (by decide) (by decide) ?_
   exact ⟨by rw [fMax_def, if_neg hc2], rfl⟩
theorem ef_3 (m : MethodId) (x0 : Int64) (x1 : Int64) (x2 : Int64) (x3 : Int64) : entryFrame m #[.long x0, .long x1, .long x2, .long x3] 8 = mkF m 0 #[.val (.long x0), .second, .val (.long x1), .second, .val (.long x2), .second, .val (.long x3), .second] [] := by first | (simp [entryFrame, mkF, argsToLocals, Value.category]; done) | rfl
theorem pn_807394 : plainName "com/example/orderloom/orderloom/Footprint" = true := by first | (simp [plainName, overriddenIn]; done) | decide +kernel
def fOv (a1 : Int64) (b1 : Int64) (c1 : Int64) (d1 : Int64) : Int32 := (if d1 < a1 then (0 : Int32) else (if b1 < c1 then (0 : Int32) else (1 : Int32)))
theorem fOv_def (a1 : Int64) (b1 : Int64) (c1 : Int64) (d1 : Int64) : fOv a1 b1 c1 d1 = (if d1 < a1 then (0 : Int32) else (if b1 < c1 then (0 : Int32) else (1 : Int32))) := rfl
theorem d3_0 : decode prog_11_method_7_code 0 = .ok (.lload_n 0, 1) := by decide +kernel
theorem d3_1 : decode prog_11_method_7_code 1 = .ok (.lload 6, 2) := by decide +kernel
theorem d3_3 : decode prog_11_method_7_code 3 = .ok (.lcmp, 1) := by decide +kernel
theorem d3_4 : decode prog_11_method_7_code 4 = .ok (.ifCond .gt 14, 3) := by decide +kernel
theorem d3_7 : decode prog_11_method_7_code 7 = .ok (.lload 4, 2) := by decide +kernel
theorem d3_9 : decode prog_11_method_7_code 9 = .ok (.lload_n 2, 1) := by decide +kernel
theorem d3_10 : decode prog_11_method_7_code 10 = .ok (.lcmp, 1) := by decide +kernel
theorem d3_11 : decode prog_11_method_7_code 11 = .ok (.ifCond .gt 7, 3) := by decide +kernel
theorem d3_14 : decode prog_11_method_7_code 14 = .ok (.iconst 1, 1) := by decide +kernel
theorem d3_15 : decode prog_11_method_7_code 15 = .ok (.goto 4, 3) := by decide +kernel
theorem d3_18 : decode prog_11_method_7_code 18 = .ok (.iconst 0, 1) := by decide +kernel
theorem d3_19 : decode prog_11_method_7_code 19 = .ok (.ireturn, 1) := by decide +kernel
set_option maxRecDepth 65536 in
set_option maxHeartbeats 40000000 in
theorem mt_fOv (l : Launch) (Z : State) (a0 : Array Value) (hw : oHw a0 Z) (h0 : Heap) (n0 : Nat) (Z0 : n0 ≤ h0.size) (a1 : Int64) (b1 : Int64) (c1 : Int64) (d1 : Int64)  :
    oMet l Z (⟨"com/example/orderloom/orderloom/Footprint", "overlap", "(JJJJ)Z"⟩ : MethodName) prog_11_method_7_code 8 (some .boolean) [] ({ frames := 0, cells := 0, slots := 0, locals := 0 } : Room) 0 0 n0 #[.long a1, .long b1, .long c1, .long d1] h0 (fun v h => v = some (.int (fOv a1 b1 c1 d1)) ∧ h = h0) := by
  refine oMet.intro (plainFor_of_name pn_807394) (fun m => ef_3 m a1 b1 c1 d1) ?_
  intro op oe os m obl omt ocd C
  refine oLloadN C d3_0 rfl rfl ?_
  refine oLload C d3_1 rfl rfl ?_
  refine oLcmp_gt C d3_3 rfl d3_4 (q := 18) (by decide) (by decide) (r := 7) rfl (fun hc3 => ?_) (fun hc3 => ?_)
  ·
   refine oIconst C d3_18 (z := 0) rfl rfl ?_
   refine oRetZ C d3_19 (z' := (0 : Int32)) rfl (by decide) (by decide) ?_
   exact ⟨by rw [fOv_def, if_pos hc3], rfl⟩
  ·
   refine oLload C d3_7 rfl rfl ?_
   refine oLloadN C d3_9 rfl rfl ?_
   refine oLcmp_gt C d3_10 rfl d3_11 (q := 18) (by decide) (by decide) (r := 14) rfl (fun hc10 => ?_) (fun hc10 => ?_)
   ·
    refine oIconst C d3_18 (z := 0) rfl rfl ?_
    refine oRetZ C d3_19 (z' := (0 : Int32)) rfl (by decide) (by decide) ?_
    exact ⟨by rw [fOv_def, if_neg hc3, if_pos hc10], rfl⟩
   ·
    refine oIconst C d3_14 (z := 1) rfl rfl ?_
    refine oGoto C d3_15 (q := 19) (by decide) (by decide) ?_
    refine oRetZ C d3_19 (z' := (1 : Int32)) rfl (by decide) (by decide) ?_
    exact ⟨by rw [fOv_def, if_neg hc3, if_neg hc10], rfl⟩
theorem own_pl (a b c d : Int64) (hab : ¬ b < a) (hcd : ¬ d < c) : fOv a b c d = if fMin b d < fMax a c then 0 else 1 := by
  simp only [fOv_def, fMin_def, fMax_def, Int64.lt_iff_toInt_lt] at *
  (repeat' split) <;> first | rfl | omega
theorem own_mm (p q : Int64) : ¬ fMax p q < fMin p q := by
  simp only [fMin_def, fMax_def, Int64.lt_iff_toInt_lt] at *
  (repeat' split) <;> omega
theorem ef_0 (m : MethodId) (x0 : Int64) (x1 : Int64) (x2 : Int64) (x3 : Int64) : entryFrame m #[.long x0, .long x1, .long x2, .long x3] maxLocals = mkF m 0 #[.val (.long x0), .second, .val (.long x1), .second, .val (.long x2), .second, .val (.long x3), .second, .unset, .unset, .unset, .unset, .unset, .unset, .unset, .unset, .unset, .unset] [] := by first | (simp [entryFrame, mkF, argsToLocals, Value.category, maxLocals]; done) | rfl
theorem pn_314485 : plainName "com/example/orderloom/orderloom/FootprintOverlapPinLaw" = true := by first | (simp [plainName, overriddenIn]; done) | decide +kernel
theorem pd_212481 : parseMethodDescriptor "(JJ)J" = some ⟨[.long, .long], some .long⟩ := by decide +kernel
theorem pd_567745 : parseMethodDescriptor "(JJJJ)Z" = some ⟨[.long, .long, .long, .long], some .boolean⟩ := by decide +kernel
set_option maxRecDepth 65536 in
set_option maxHeartbeats 40000000 in
theorem mt_law (l : Launch) (Z : State) (a0 : Array Value) (hw : oHw a0 Z) (h0 : Heap) (n0 : Nat) (Z0 : n0 ≤ h0.size) (p0 : Int64) (q0 : Int64) (r0 : Int64) (s0 : Int64)  :
    oMet l Z x code maxLocals ret tables_1 room_1 0 0 n0 #[.long p0, .long q0, .long r0, .long s0] h0 (fun v h => v = some (.int 1)) := by
  refine oMet.intro (plainFor_of_name pn_314485) (fun m => ef_0 m p0 q0 r0 s0) ?_
  intro op oe os m obl omt ocd C
  refine oLloadN C at_0 rfl rfl ?_
  refine oLloadN C at_1 rfl rfl ?_
  refine oCallS C (w0 hw) (w1 hw) (w2 hw) (w3 hw) at_2 (by decide) pd_212481 rfl rfl (argsL := [.long p0, .long q0]) (rest := []) rfl (W := 0) rfl (q := 5) rfl (by decide) (by decide) (by decide) (by decide) (mt_fMin l Z a0 hw _ n0 Z0 p0 q0 ) (oPureK ?_)
  refine oLstore C at_5 (Ls' := #[.val (.long p0), .second, .val (.long q0), .second, .val (.long r0), .second, .val (.long s0), .second, .val (.long (fMin p0 q0)), .second, .unset, .unset, .unset, .unset, .unset, .unset, .unset, .unset]) rfl (q := 7) rfl ?_
  refine oLloadN C at_7 rfl rfl ?_
  refine oLloadN C at_8 rfl rfl ?_
  refine oCallS C (w4 hw) (w5 hw) (w2 hw) (w6 hw) at_9 (by decide) pd_212481 rfl rfl (argsL := [.long p0, .long q0]) (rest := []) rfl (W := 0) rfl (q := 12) rfl (by decide) (by decide) (by decide) (by decide) (mt_fMax l Z a0 hw _ n0 Z0 p0 q0 ) (oPureK ?_)
  refine oLstore C at_12 (Ls' := #[.val (.long p0), .second, .val (.long q0), .second, .val (.long r0), .second, .val (.long s0), .second, .val (.long (fMin p0 q0)), .second, .val (.long (fMax p0 q0)), .second, .unset, .unset, .unset, .unset, .unset, .unset]) rfl (q := 14) rfl ?_
  refine oLload C at_14 rfl rfl ?_
  refine oLload C at_16 rfl rfl ?_
  refine oCallS C (w0 hw) (w1 hw) (w2 hw) (w3 hw) at_18 (by decide) pd_212481 rfl rfl (argsL := [.long r0, .long s0]) (rest := []) rfl (W := 0) rfl (q := 21) rfl (by decide) (by decide) (by decide) (by decide) (mt_fMin l Z a0 hw _ n0 Z0 r0 s0 ) (oPureK ?_)
  refine oLstore C at_21 (Ls' := #[.val (.long p0), .second, .val (.long q0), .second, .val (.long r0), .second, .val (.long s0), .second, .val (.long (fMin p0 q0)), .second, .val (.long (fMax p0 q0)), .second, .val (.long (fMin r0 s0)), .second, .unset, .unset, .unset, .unset]) rfl (q := 23) rfl ?_
  refine oLload C at_23 rfl rfl ?_
  refine oLload C at_25 rfl rfl ?_
  refine oCallS C (w4 hw) (w5 hw) (w2 hw) (w6 hw) at_27 (by decide) pd_212481 rfl rfl (argsL := [.long r0, .long s0]) (rest := []) rfl (W := 0) rfl (q := 30) rfl (by decide) (by decide) (by decide) (by decide) (mt_fMax l Z a0 hw _ n0 Z0 r0 s0 ) (oPureK ?_)
  refine oLstore C at_30 (Ls' := #[.val (.long p0), .second, .val (.long q0), .second, .val (.long r0), .second, .val (.long s0), .second, .val (.long (fMin p0 q0)), .second, .val (.long (fMax p0 q0)), .second, .val (.long (fMin r0 s0)), .second, .val (.long (fMax r0 s0)), .second, .unset, .unset]) rfl (q := 32) rfl ?_
  refine oLload C at_32 rfl rfl ?_
  refine oLload C at_34 rfl rfl ?_
  refine oLload C at_36 rfl rfl ?_
  refine oLload C at_38 rfl rfl ?_
  refine oCallS C (w7 hw) (w8 hw) (w9 hw) (w10 hw) at_40 (by decide) pd_567745 rfl rfl (argsL := [.long (fMin p0 q0), .long (fMax p0 q0), .long (fMin r0 s0), .long (fMax r0 s0)]) (rest := []) rfl (W := 0) rfl (q := 43) rfl (by decide) (by decide) (by decide) (by decide) (mt_fOv l Z a0 hw _ n0 Z0 (fMin p0 q0) (fMax p0 q0) (fMin r0 s0) (fMax r0 s0) ) (oPureK ?_)
  refine oIstore C at_43 (Ls' := #[.val (.long p0), .second, .val (.long q0), .second, .val (.long r0), .second, .val (.long s0), .second, .val (.long (fMin p0 q0)), .second, .val (.long (fMax p0 q0)), .second, .val (.long (fMin r0 s0)), .second, .val (.long (fMax r0 s0)), .second, .val (.int (fOv (fMin p0 q0) (fMax p0 q0) (fMin r0 s0) (fMax r0 s0))), .unset]) rfl (q := 45) rfl ?_
  refine oLload C at_45 rfl rfl ?_
  refine oLload C at_47 rfl rfl ?_
  refine oCallS C (w4 hw) (w5 hw) (w2 hw) (w6 hw) at_49 (by decide) pd_212481 rfl rfl (argsL := [.long (fMin p0 q0), .long (fMin r0 s0)]) (rest := []) rfl (W := 0) rfl (q := 52) rfl (by decide) (by decide) (by decide) (by decide) (mt_fMax l Z a0 hw _ n0 Z0 (fMin p0 q0) (fMin r0 s0) ) (oPureK ?_)
  refine oLload C at_52 rfl rfl ?_
  refine oLload C at_54 rfl rfl ?_
  refine oCallS C (w0 hw) (w1 hw) (w2 hw) (w3 hw) at_56 (by decide) pd_212481 rfl rfl (argsL := [.long (fMax p0 q0), .long (fMax r0 s0)]) (rest := [.long (fMax (fMin p0 q0) (fMin r0 s0))]) rfl (W := 2) rfl (q := 59) rfl (by decide) (by decide) (by decide) (by decide) (mt_fMin l Z a0 hw _ n0 Z0 (fMax p0 q0) (fMax r0 s0) ) (oPureK ?_)
  refine oLcmp_gt C at_59 rfl at_60 (q := 67) (by decide) (by decide) (r := 63) rfl (fun hc59 => ?_) (fun hc59 => ?_)
  ·
   refine oIconst C at_67 (z := 0) rfl rfl ?_
   refine oIstore C at_68 (Ls' := #[.val (.long p0), .second, .val (.long q0), .second, .val (.long r0), .second, .val (.long s0), .second, .val (.long (fMin p0 q0)), .second, .val (.long (fMax p0 q0)), .second, .val (.long (fMin r0 s0)), .second, .val (.long (fMax r0 s0)), .second, .val (.int (fOv (fMin p0 q0) (fMax p0 q0) (fMin r0 s0) (fMax r0 s0))), .val (.int 0)]) rfl (q := 70) rfl ?_
   refine oIload C at_70 rfl rfl ?_
   refine oIload C at_72 rfl rfl ?_
   refine oIcmp_ne C at_74 (q := 81) (by decide) (by decide) (r := 77) rfl (fun hq => absurd hq (not_not_intro (by rw [own_pl _ _ _ _ (own_mm _ _) (own_mm _ _), if_pos hc59]))) (fun hc74 => ?_)
   refine oIconst C at_77 (z := 1) rfl rfl ?_
   refine oGoto C at_78 (q := 82) (by decide) (by decide) ?_
   refine oRetZ C at_82 (z' := (1 : Int32)) rfl (by decide) (by decide) ?_
   exact rfl
  ·
   refine oIconst C at_63 (z := 1) rfl rfl ?_
   refine oGoto C at_64 (q := 68) (by decide) (by decide) ?_
   refine oIstore C at_68 (Ls' := #[.val (.long p0), .second, .val (.long q0), .second, .val (.long r0), .second, .val (.long s0), .second, .val (.long (fMin p0 q0)), .second, .val (.long (fMax p0 q0)), .second, .val (.long (fMin r0 s0)), .second, .val (.long (fMax r0 s0)), .second, .val (.int (fOv (fMin p0 q0) (fMax p0 q0) (fMin r0 s0) (fMax r0 s0))), .val (.int 1)]) rfl (q := 70) rfl ?_
   refine oIload C at_70 rfl rfl ?_
   refine oIload C at_72 rfl rfl ?_
   refine oIcmp_ne C at_74 (q := 81) (by decide) (by decide) (r := 77) rfl (fun hq => absurd hq (not_not_intro (by rw [own_pl _ _ _ _ (own_mm _ _) (own_mm _ _), if_neg hc59]))) (fun hc74 => ?_)
   refine oIconst C at_77 (z := 1) rfl rfl ?_
   refine oGoto C at_78 (q := 82) (by decide) (by decide) ?_
   refine oRetZ C at_82 (z' := (1 : Int32)) rfl (by decide) (by decide) ?_
   exact rfl
set_option maxRecDepth 65536 in
set_option maxHeartbeats 40000000 in
theorem comes_1 {Post : Tables → Env → Array Value → State → Outcome → State → Prop} (hpost : ∀ tb e args s v u, (limb_1_1.after args s (.returned v) u = true ∧ limb_1_2.after args s (.returned v) u = true ∧ True) → FrameEnd s (.returned v) u (Jvm.fieldLocs frame_1_writes args s ++ Jvm.arrayLocs frame_1_arrays args s ++ Jvm.staticLocs frame_1_statics s) 0 0 → Post tb e args s (.returned v) u) :
    ArmFor flags0 classFile x code maxLocals ret World_1 tables_1 room_1 Calls_1 rest_1 Pre_1 Post := by
  intro l hfl _ _ p e ha hc hk s m args below hf hA hF happ hP
  obtain ⟨hcalls, hrest, hpre⟩ := hP
  obtain ⟨-, -, -, hnamed, -, -, -, hat⟩ := (Spec.applies_iff hf).mp happ
  obtain ⟨hg, hn⟩ := and_e (Cond.before_iff.mp (show (Jvm.Cond.and given_1 narrow_1).before args s = true from hpre))
  obtain ⟨h1, k0⟩ := and_e hg
  obtain ⟨c0, k1⟩ := and_e k0
  obtain ⟨c1, k2⟩ := and_e k1
  obtain ⟨c2, k3⟩ := and_e k2
  obtain ⟨v0, v1, v2, v3, rfl⟩ : ∃ v0 v1 v2 v3 : Value, args = #[v0, v1, v2, v3] := by
    have hs : args.size = 4 := by simpa [Cond.value, given_1] using h1
    obtain ⟨L⟩ := args
    match L, hs with
    | [v0, v1, v2, v3], _ => exact ⟨v0, v1, v2, v3, rfl⟩
  have hw := fun d (hd : d ∈ tables_1) => atoms_spec (ws := Jvm.Cond.code x code maxLocals ret :: tables_1) hat d (List.mem_cons_of_mem _ hd)
  have hfit : Fit s := fun {y c} hc i hi => by
    obtain ⟨ha, rfl⟩ := Array.getElem?_eq_some_iff.mp hc
    have q := List.all_eq_true.mp ((Array.all_eq_true_iff_forall_mem.mp hF) _ (Array.getElem_mem ha)) i (List.mem_range.mpr hi)
    simpa [Array.getElem?_eq_getElem hi] using q
  obtain ⟨i0, e0⟩ := isL_v c0
  obtain rfl : v0 = (.long i0) := Option.some.inj e0
  obtain ⟨i1, e1⟩ := isL_v c1
  obtain rfl : v1 = (.long i1) := Option.some.inj e1
  obtain ⟨i2, e2⟩ := isL_v c2
  obtain rfl : v2 = (.long i2) := Option.some.inj e2
  obtain ⟨i3, e3⟩ := isL_v k3
  obtain rfl : v3 = (.long i3) := Option.some.inj e3
  obtain ⟨n, o, h1, h2, h3, _, L, rfl, ⟨N, rfl⟩, hq⟩ := mt_law l s _ hw s.heap s.heap.size (Nat.le_refl _) i0 i1 i2 i3  p e ha hc hk s m _ below hf ((Spec.applies_iff_loose hf).mp happ).1 ⟨rfl, State.Warmed39.refl s, rfl⟩ trivial
  refine ⟨n, _, h1, h2, h3, hpost _ _ _ _ _ _ ⟨Cond.after_iff.mpr rfl, Cond.after_iff.mpr (eq_i res_at (Term.int_eval (1)) rfl), trivial⟩ ⟨hq.1, hq.2.1, (hq.2.2.sift fun y hy => Or.inr (N y hy)).mono (by decide) (by decide)⟩⟩
theorem main_1_1 : Claimed_1_1 := comes_1 fun _ _ _ _ _ _ h hF => ⟨h.1, hF⟩
theorem main_1_2 : Claimed_1_2 := comes_1 fun _ _ _ _ _ _ h hF => ⟨h.2.1, hF⟩
end Jvm.Pilot.@@N@@
namespace Jvm.Pilot.@@N@@
open Jvm Jvm.ClassFile Sem Op Lib Jvm.Free Jvm.Stand Jvm.Pilot.@@N@@.Jvm.D
/-! MADE BY PROGRAM (witnessworld.py) out of the Statement's table words and the real class files: 10 classes; the members and pool entries that the words name. The judged class is class 1, her method 1. -/
namespace start1
open Jvm.ClassFile
def u (s : String) : CpInfo := .utf8 (stringToUtf16 s)
/-- a pool by its gaps: so many unusable entries, then the entry; so many at the end -/
def gap : Nat → List CpInfo → List CpInfo
  | 0, r => r
  | n + 1, r => .unusable :: gap n r
def poolList (es : List (Nat × CpInfo)) (last : Nat) : List CpInfo := es.foldr (fun e r => gap e.1 (e.2 :: r)) (gap last [])
def pool (es : List (Nat × CpInfo)) (last : Nat) : Array CpInfo := ⟨poolList es last⟩
def fileOf (pool : Array CpInfo) (this : Nat) (attrs : Array Attribute := #[]) (ms : Array MethodInfo := #[]) (fl : Nat := 33) (sup : Nat := 0) (ifs : Array Nat := #[]) (fds : Array FieldInfo := #[]) : ClassFile where
  minorVersion := 0
  majorVersion := 65
  constantPool := pool
  accessFlags := fl
  thisClass := this
  superClass := sup
  interfaces := ifs
  fields := fds
  methods := ms
  attributes := attrs
def plain (name : String) (sup : Option ClassId) : Class where
  name := name
  kind := .ordinary
  loader := none
  accessFlags := 33
  super := sup
  interfaces := #[]
  cf := none
  fields := #[]
  methods := #[]
  instanceTypes := #[]
  staticTypes := #[]
  resolved := #[]
  callSites := []
  init := .initialized
  statics := none
  mirror := none

def pool0 : Array CpInfo := pool [(5, u "<init>"), (0, u "()V"), (1, .class_ 10), (1, u "java/lang/Object")] 113

def k0m0 : Method := { name := "<init>", desc := "()V", sig := { parameters := [], returnType := none }, accessFlags := 1, code := none }
/-- java/lang/Object -/
def k0 : Class := { plain "java/lang/Object" none with
  accessFlags := 33
  interfaces := #[]
  cf := some (fileOf pool0 8 #[] #[{ accessFlags := 1, nameIndex := 5, descriptorIndex := 6, attributes := #[] }] 33 0 #[] #[])
  fields := #[]
  methods := #[k0m0]
  instanceTypes := #[]
  staticTypes := #[]
  resolved := Array.replicate 124 none
  statics := none }

def pool1 : Array CpInfo := pool [(2, .class_ 4), (1, u "java/lang/Object"), (0, u "<init>"), (0, u "()V"), (0, .methodref 8 9), (0, .class_ 10), (0, .nameAndType 11 12), (0, u "java/lang/Math"), (0, u "min"), (0, u "(JJ)J"), (0, .methodref 8 14), (0, .nameAndType 15 12), (0, u "max"), (0, .methodref 17 18), (0, .class_ 19), (0, .nameAndType 20 21), (0, u "com/example/orderloom/orderloom/Footprint"), (0, u "overlap"), (0, u "(JJJJ)Z"), (0, .class_ 23), (0, u "com/example/orderloom/orderloom/FootprintOverlapPinLaw"), (2, u "law")] 3

def k1m0 : Method := { name := "<init>", desc := "()V", sig := { parameters := [], returnType := none }, accessFlags := 2, code := none }
def k1c1 : Code := { maxStack := 8, maxLocals := 18, code := code, exceptionTable := #[], attributes := #[] }
def k1m1 : Method := { name := "law", desc := "(JJJJ)Z", sig := { parameters := [.long, .long, .long, .long], returnType := some .boolean }, accessFlags := 9, code := some k1c1 }
/-- com/example/orderloom/orderloom/FootprintOverlapPinLaw -/
def k1 : Class := { plain "com/example/orderloom/orderloom/FootprintOverlapPinLaw" (some 0) with
  accessFlags := 49
  interfaces := #[]
  cf := some (fileOf pool1 22 #[] #[{ accessFlags := 2, nameIndex := 5, descriptorIndex := 6, attributes := #[] }, { accessFlags := 9, nameIndex := 26, descriptorIndex := 21, attributes := #[] }] 49 2 #[] #[])
  fields := #[]
  methods := #[k1m0, k1m1]
  instanceTypes := #[]
  staticTypes := #[]
  resolved := Array.replicate 30 none
  statics := none }

def pool2 : Array CpInfo := pool [(1, .class_ 2), (0, u "java/lang/Math"), (1, .class_ 6), (1, u "java/lang/Object"), (0, u "<init>"), (0, u "()V"), (89, .class_ 100), (1, u "java/lang/Math$RandomNumberGeneratorHolder"), (20, u "(JJ)J"), (50, u "negativeZeroFloatBits"), (0, u "J"), (2, u "negativeZeroDoubleBits"), (21, u "max"), (2, u "min"), (43, u "$assertionsDisabled"), (0, u "Z"), (91, u "twoToTheDoubleScaleDown"), (0, u "D"), (4, u "twoToTheDoubleScaleUp"), (9, u "E"), (3, u "PI"), (2, u "TAU"), (2, u "DEGREES_TO_RADIANS"), (0, u "RADIANS_TO_DEGREES")] 94

def k2m0 : Method := { name := "<init>", desc := "()V", sig := { parameters := [], returnType := none }, accessFlags := 2, code := none }
def k2c1 : Code := { maxStack := 4, maxLocals := 4, code := jdk_29_method_66_code, exceptionTable := #[], attributes := #[] }
def k2m1 : Method := { name := "max", desc := "(JJ)J", sig := { parameters := [.long, .long], returnType := some .long }, accessFlags := 9, code := some k2c1 }
def k2c2 : Code := { maxStack := 4, maxLocals := 4, code := jdk_29_method_70_code, exceptionTable := #[], attributes := #[] }
def k2m2 : Method := { name := "min", desc := "(JJ)J", sig := { parameters := [.long, .long], returnType := some .long }, accessFlags := 9, code := some k2c2 }
/-- java/lang/Math -/
def k2 : Class := { plain "java/lang/Math" (some 0) with
  accessFlags := 49
  interfaces := #[]
  cf := some (fileOf pool2 1 #[.nestMembers #[98]] #[{ accessFlags := 2, nameIndex := 7, descriptorIndex := 8, attributes := #[] }, { accessFlags := 9, nameIndex := 198, descriptorIndex := 121, attributes := #[] }, { accessFlags := 9, nameIndex := 201, descriptorIndex := 121, attributes := #[] }] 49 4 #[] #[{ accessFlags := 25, nameIndex := 354, descriptorIndex := 339, attributes := #[] }, { accessFlags := 25, nameIndex := 358, descriptorIndex := 339, attributes := #[] }, { accessFlags := 25, nameIndex := 361, descriptorIndex := 339, attributes := #[] }, { accessFlags := 26, nameIndex := 364, descriptorIndex := 339, attributes := #[] }, { accessFlags := 26, nameIndex := 365, descriptorIndex := 339, attributes := #[] }, { accessFlags := 26, nameIndex := 172, descriptorIndex := 173, attributes := #[] }, { accessFlags := 26, nameIndex := 176, descriptorIndex := 173, attributes := #[] }, { accessFlags := 8, nameIndex := 344, descriptorIndex := 339, attributes := #[] }, { accessFlags := 8, nameIndex := 338, descriptorIndex := 339, attributes := #[] }, { accessFlags := 4120, nameIndex := 245, descriptorIndex := 246, attributes := #[] }])
  fields := #[{ name := "E", type := .double, accessFlags := 25, slot := 0, constantValue := 0 }, { name := "PI", type := .double, accessFlags := 25, slot := 1, constantValue := 0 }, { name := "TAU", type := .double, accessFlags := 25, slot := 2, constantValue := 0 }, { name := "DEGREES_TO_RADIANS", type := .double, accessFlags := 26, slot := 3, constantValue := 0 }, { name := "RADIANS_TO_DEGREES", type := .double, accessFlags := 26, slot := 4, constantValue := 0 }, { name := "negativeZeroFloatBits", type := .long, accessFlags := 26, slot := 5, constantValue := 0 }, { name := "negativeZeroDoubleBits", type := .long, accessFlags := 26, slot := 6, constantValue := 0 }, { name := "twoToTheDoubleScaleUp", type := .double, accessFlags := 8, slot := 7, constantValue := 0 }, { name := "twoToTheDoubleScaleDown", type := .double, accessFlags := 8, slot := 8, constantValue := 0 }, { name := "$assertionsDisabled", type := .boolean, accessFlags := 4120, slot := 9, constantValue := 0 }]
  methods := #[k2m0, k2m1, k2m2]
  instanceTypes := #[]
  staticTypes := #[.double, .double, .double, .double, .double, .long, .long, .double, .double, .boolean]
  resolved := Array.replicate 460 none
  statics := none }

def pool3 : Array CpInfo := pool [(2, .class_ 4), (1, u "java/lang/Object"), (3, .class_ 10), (1, u "com/example/orderloom/orderloom/Footprint"), (0, u "requestClass"), (0, u "Lcom/example/orderloom/orderloom/RequestClass;"), (2, u "firstKey"), (0, u "J"), (2, u "lastKey"), (19, u "overlap"), (0, u "(JJJJ)Z")] 9

def k3c0 : Code := { maxStack := 4, maxLocals := 8, code := prog_11_method_7_code, exceptionTable := #[], attributes := #[] }
def k3m0 : Method := { name := "overlap", desc := "(JJJJ)Z", sig := { parameters := [.long, .long, .long, .long], returnType := some .boolean }, accessFlags := 8, code := some k3c0 }
/-- com/example/orderloom/orderloom/Footprint -/
def k3 : Class := { plain "com/example/orderloom/orderloom/Footprint" (some 0) with
  accessFlags := 49
  interfaces := #[]
  cf := some (fileOf pool3 8 #[] #[{ accessFlags := 8, nameIndex := 39, descriptorIndex := 40, attributes := #[] }] 49 2 #[] #[{ accessFlags := 18, nameIndex := 11, descriptorIndex := 12, attributes := #[] }, { accessFlags := 18, nameIndex := 15, descriptorIndex := 16, attributes := #[] }, { accessFlags := 18, nameIndex := 19, descriptorIndex := 16, attributes := #[] }])
  fields := #[{ name := "requestClass", type := (.object "com/example/orderloom/orderloom/RequestClass"), accessFlags := 18, slot := 0, constantValue := 0 }, { name := "firstKey", type := .long, accessFlags := 18, slot := 1, constantValue := 0 }, { name := "lastKey", type := .long, accessFlags := 18, slot := 2, constantValue := 0 }]
  methods := #[k3m0]
  instanceTypes := #[(.object "com/example/orderloom/orderloom/RequestClass"), .long, .long]
  staticTypes := #[]
  resolved := Array.replicate 50 none
  statics := none }

def pool4 : Array CpInfo := pool [(1, u "java/lang/Cloneable"), (0, .class_ 1), (0, u "java/lang/Object"), (0, .class_ 3)] 3

/-- java/lang/Cloneable -/
def k4 : Class := { plain "java/lang/Cloneable" (some 0) with
  accessFlags := 1537
  interfaces := #[]
  cf := some (fileOf pool4 2 #[] #[] 1537 4 #[] #[])
  fields := #[]
  methods := #[]
  instanceTypes := #[]
  staticTypes := #[]
  resolved := Array.replicate 8 none
  statics := none }

def pool5 : Array CpInfo := pool [(1, u "java/io/Serializable"), (0, .class_ 1), (0, u "java/lang/Object"), (0, .class_ 3)] 3

/-- java/io/Serializable -/
def k5 : Class := { plain "java/io/Serializable" (some 0) with
  accessFlags := 1537
  interfaces := #[]
  cf := some (fileOf pool5 2 #[] #[] 1537 4 #[] #[])
  fields := #[]
  methods := #[]
  instanceTypes := #[]
  staticTypes := #[]
  resolved := Array.replicate 8 none
  statics := none }

/-- the primitive byte -/
def k6 : Class := { plain "byte" none with kind := .primitive 'B', accessFlags := 0x411 }
/-- [B -/
def k7 : Class := { plain "[B" (some 0) with kind := .array 6 .byte, interfaces := #[4, 5], accessFlags := 1041 }

/-- the primitive int -/
def k8 : Class := { plain "int" none with kind := .primitive 'I', accessFlags := 0x411 }
/-- [I -/
def k9 : Class := { plain "[I" (some 0) with kind := .array 8 .int, interfaces := #[4, 5], accessFlags := 1041 }

def heap : Heap := #[]
def classes : Array Class := #[k0, k1, k2, k3, k4, k5, k6, k7, k8, k9]
def interned : List (Array UInt16 × Addr) := []
def slotsUsed : Nat := 0
def theMethod : MethodId := ⟨1, 1⟩
def args0 : Array Value := #[.long 5, .long 5, .long 5, .long 5]
def aboutOver (below : List Frame) : State where
  vm := { classes := classes, interned := interned.toArray }
  heap := heap
  slotsUsed := slotsUsed
  threads := #[{ frames := .invoking theMethod args0 :: below }]
def below0 : List Frame := [.native { method := ⟨0, 0⟩, args := #[] }]
def about1 : State := aboutOver below0
def p0 : Program := .bare "" "" ""
def e0 : Env := launch0.env 0 0 0
theorem w_frames : about1.frames = Frame.invoking theMethod args0 :: below0 := rfl
set_option maxRecDepth 65536 in
theorem w_args : argsFit about1.vm theMethod args0 = true := by decide +kernel
set_option maxRecDepth 65536 in
theorem w_heap : heapFits about1 = true := by decide +kernel
set_option maxRecDepth 65536 in
theorem w_runnable : about1.curStatus? = some .runnable := by decide +kernel
set_option maxRecDepth 65536 in
theorem w_alone : about1.alone = true := by decide +kernel
set_option maxRecDepth 65536 in
theorem w_named : about1.methodNamed? x = some theMethod := by decide +kernel
set_option maxRecDepth 65536 in
theorem w_hears : about1.hears theMethod below0 = true := by decide +kernel
set_option maxRecDepth 65536 in
theorem w_ripe : about1.ripe theMethod args0 below0 = true := by decide +kernel
theorem w_running : about1.status = .running := rfl
set_option maxRecDepth 65536 in
theorem w_room : about1.hasRoom e0.platform room_1 = true :=
  launch0.hasRoom_least _ room_1 (by decide +kernel) (by decide +kernel) (by decide +kernel) (by decide +kernel) (by decide +kernel) (by decide +kernel)
theorem allAtoms_all (ts : List Jvm.Cond) (a : Array Jvm.Value) (st : Jvm.State) : (allAtoms ts).before a st = ts.all (fun c => c.before a st) := by
  induction ts with
  | nil => rfl
  | cons c t ih =>
    show (Jvm.Cond.and c (allAtoms t)).before a st = _
    rw [Jvm.Cond.before_and, ih, List.all_cons]
def words1 : List Jvm.Cond := Jvm.Cond.code x code maxLocals ret :: tables_1
/-- a 'code' word, met by the world's own term for the bytes: nothing is compared byte by byte -/
theorem code_word {y : MethodName} {bytes : ByteArray} {mx : Nat} {rt : Option FieldType} {a : Array Value} {s : State} {m : MethodId} {meth : Method} {c : Code} (h1 : s.methodNamed? y = some m) (h2 : s.vm.method? m = some meth) (h3 : meth.code = some c) (h4 : c.code = bytes)
    (h5 : (c.maxLocals == mx && c.exceptionTable.isEmpty && decide (c.maxStack ≤ mostOperands) && decide (meth.sig.returnType = rt) && !meth.locks && decide (parseMethodDescriptor y.desc = some meth.sig)) = true) : (Jvm.Cond.code y bytes mx rt).before a s = true := by
  simp only [Bool.and_eq_true, beq_iff_eq, Bool.not_eq_true', decide_eq_true_eq] at h5
  obtain ⟨⟨⟨⟨⟨g1, g2⟩, g3⟩, g4⟩, g5⟩, g6⟩ := h5
  simp [Cond.before, Cond.holds, Cond.value, h1, h2, h3, h4, g1, g2, g3, g4, g5, g6]
def isCode : Jvm.Cond → Bool
  | .code _ _ _ _ => true
  | _ => false
theorem all_split {L : List Jvm.Cond} {P : Jvm.Cond → Bool} (h1 : L.all (fun c => isCode c || P c) = true) (h2 : ∀ c ∈ L.filter isCode, P c = true) : L.all P = true := by
  refine List.all_eq_true.mpr fun c hc => ?_
  have h := List.all_eq_true.mp h1 c hc
  rcases Bool.eq_false_or_eq_true (isCode c) with hi | hi
  · exact h2 c (List.mem_filter.mpr ⟨hc, hi⟩)
  · simpa [hi] using h
set_option maxRecDepth 65536 in
theorem w_c0 : (Jvm.Cond.code x code maxLocals ret).before args0 about1 = true := code_word (m := ⟨1, 1⟩) (meth := k1m1) (c := k1c1) (by decide +kernel) rfl rfl rfl (by decide +kernel)
set_option maxRecDepth 65536 in
theorem w_c1 : (Jvm.Cond.code ({ cls := "java/lang/Math", name := "min", desc := "(JJ)J" } : Jvm.MethodName) jdk_29_method_70_code (4 : Nat) (Option.some Jvm.ClassFile.FieldType.long)).before args0 about1 = true := code_word (m := ⟨2, 2⟩) (meth := k2m2) (c := k2c2) (by decide +kernel) rfl rfl rfl (by decide +kernel)
set_option maxRecDepth 65536 in
theorem w_c2 : (Jvm.Cond.code ({ cls := "java/lang/Math", name := "max", desc := "(JJ)J" } : Jvm.MethodName) jdk_29_method_66_code (4 : Nat) (Option.some Jvm.ClassFile.FieldType.long)).before args0 about1 = true := code_word (m := ⟨2, 1⟩) (meth := k2m1) (c := k2c1) (by decide +kernel) rfl rfl rfl (by decide +kernel)
set_option maxRecDepth 65536 in
theorem w_c3 : (Jvm.Cond.code ({ cls := "com/example/orderloom/orderloom/Footprint", name := "overlap", desc := "(JJJJ)Z" } : Jvm.MethodName) prog_11_method_7_code (8 : Nat) (Option.some Jvm.ClassFile.FieldType.boolean)).before args0 about1 = true := code_word (m := ⟨3, 0⟩) (meth := k3m0) (c := k3c0) (by decide +kernel) rfl rfl rfl (by decide +kernel)
def codes1 : List Jvm.Cond := [Jvm.Cond.code x code maxLocals ret, Jvm.Cond.code ({ cls := "java/lang/Math", name := "min", desc := "(JJ)J" } : Jvm.MethodName) jdk_29_method_70_code (4 : Nat) (Option.some Jvm.ClassFile.FieldType.long), Jvm.Cond.code ({ cls := "java/lang/Math", name := "max", desc := "(JJ)J" } : Jvm.MethodName) jdk_29_method_66_code (4 : Nat) (Option.some Jvm.ClassFile.FieldType.long), Jvm.Cond.code ({ cls := "com/example/orderloom/orderloom/Footprint", name := "overlap", desc := "(JJJJ)Z" } : Jvm.MethodName) prog_11_method_7_code (8 : Nat) (Option.some Jvm.ClassFile.FieldType.boolean)]
set_option maxRecDepth 65536 in
theorem codes_eq : words1.filter isCode = codes1 := rfl
theorem w_codes : ∀ c ∈ words1.filter isCode, c.before args0 about1 = true := by
  rw [codes_eq]
  intro c hc
  simp only [codes1, List.mem_cons, List.not_mem_nil, or_false] at hc
  rcases hc with rfl | rfl | rfl | rfl
  · exact w_c0
  · exact w_c1
  · exact w_c2
  · exact w_c3
set_option maxRecDepth 65536 in
theorem w_t1 : words1.all (fun c => isCode c || c.before args0 about1) = true := by decide +kernel
theorem w_tables : (allAtoms (Jvm.Cond.code x code maxLocals ret :: tables_1)).before args0 about1 = true := by
  rw [allAtoms_all]
  show words1.all (fun c => c.before args0 about1) = true
  refine all_split ?_ w_codes
  rw [w_t1]
set_option maxRecDepth 65536 in
theorem w_case : (Jvm.Cond.and given_1 narrow_1).before args0 about1 = true := by decide +kernel
theorem w_applies : (headSpec (Jvm.Cond.code x code maxLocals ret :: tables_1) room_1).applies x e0.platform about1 = true :=
  (Spec.applies_iff w_frames).mpr ⟨w_running, w_runnable, w_alone, w_named, w_hears, w_ripe, w_room, w_tables⟩
theorem atStart : AtStart classFile x code maxLocals ret World_1 tables_1 room_1 Calls_1 rest_1 Pre_1 launch0 p0 e0 about1 theMethod args0 below0 :=
  ⟨lists_1, trivial, launch0.admits_env _ _ _, launch0.least_env, fairChoices_fair.cas, fairChoices_fair.clock, w_frames, w_args, w_heap, w_applies, trivial, trivial, w_case⟩
end start1
theorem witness_1 : WitnessClaimed_1 := ⟨start1.p0, start1.e0, start1.about1, start1.theMethod, start1.args0, start1.below0, start1.atStart⟩
end Jvm.Pilot.@@N@@
