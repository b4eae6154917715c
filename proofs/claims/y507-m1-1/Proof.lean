import JvmDerived
import JvmDerived.Pilot.@@N@@Statement
import JvmDerived.Pilot.@@N@@Code
set_option linter.unusedVariables false
set_option linter.unusedSimpArgs false
namespace Jvm.Pilot.@@N@@
open Jvm Jvm.ClassFile Sem Op Lib Jvm.Free Jvm.Stand Jvm.LawKit Jvm.RoadKit Bundle Jvm.Pilot.@@N@@.Jvm.D
section OwnKit
variable {p : Program} {l : Launch} {e : Env} {R : Room} {s : State} {m : MethodId} {args : Array Value} {below : List Frame} {meth : Method} {c : Code} {T : State} {locs : List Loc} {cells slots : Nat}
/-- the contract of a body at given arguments and a given heap -/
def own_Con (l : Launch) (Z : State) (y : MethodName) (bytes : ByteArray) (maxL : Nat) (ret : Option FieldType) (ws : List Jvm.Cond) (rm : Room) (as' : Array Value) (h0 : Heap) (Q : Option Value → Heap → List Loc → Prop) : Prop :=
  MetFree l y (head1 (Jvm.Cond.code y bytes maxL ret :: ws) rm) (fun a U => a = as' ∧ Z.Warmed39 U.vm ∧ U.heap = h0) (fun _ _ _ _ _ => True) (fun _ U o U' => ∃ v L, o = .returned v ∧ Q v U'.heap L ∧ FrameEnd U o U' L rm.cells rm.slots)
/-- G holds of a state where the walk is owed; it goes backwards over steps -/
def own_Bk (p : Program) (e : Env) (below : List Frame) (G : State → Prop) : Prop := ∀ S S', (∀ t, Steps p.tables e below S' t → Steps p.tables e below S t) → G S' → G S
/-- a walk may end where its body returns -/
def own_Rt (p : Program) (l : Launch) (e : Env) (rm : Room) (s : State) (m : MethodId) (as' : Array Value) (below : List Frame) (meth : Method) (c : Code) (ret : Option FieldType) (Q : Option Value → Heap → List Loc → Prop) (G : State → Prop) : Prop :=
  ∀ T locs cells slots v S, Stand p l e rm s m as' below meth c T locs cells slots → cells ≤ rm.cells → slots ≤ rm.slots → (ret = none → v = none) → Q v T.heap locs →
    (∀ fs, (∀ (f : JFrame) (acts : List Action), f.method = m → f.locked = none → f.entered = [] → (doReturn e (T.setTop f) acts v).1 = T.setFrames fs) → Steps p.tables e below S (T.setFrames fs)) → G S
theorem own_intro {Z : State} {y : MethodName} {bytes : ByteArray} {maxL : Nat} {ret : Option FieldType} {ws : List Jvm.Cond} {rm : Room} {as' : Array Value} {h0 : Heap} {Q : Option Value → Heap → List Loc → Prop} (hpn : plainFor y = true)
    (H : ∀ (p : Program) (e : Env) (s : State) (m : MethodId) (below : List Frame) (meth : Method) (c : Code) (s₁ : State) (G : State → Prop), p.tables.exec = Jvm.exec → c.code = bytes → c.maxLocals = maxL → s.vm.findClass y.cls = some m.cls → meth.name = y.name → meth.sig.returnType = ret → Z.Warmed39 s.vm →
      Stand p l e rm s m as' below meth c s₁ [] 0 0 → s₁.heap = h0 → own_Bk p e below G → own_Rt p l e rm s m as' below meth c ret Q G → G (s₁.setTop (entryFrame m as' maxL))) : own_Con l Z y bytes maxL ret ws rm as' h0 Q := by
  refine MetFree.of_bodySF hpn hisR ?_
  intro p e s m args below meth c s₁ Bd hml hP hK
  obtain ⟨rfl, hZ, hh⟩ := hP
  refine H p e s m below meth c s₁ (fun S => ∃ s₂ o, Steps p.tables e below S s₂ ∧ s₂.status = .running ∧ Ended s₂ below o ∧ ∃ v L, o = .returned v ∧ Q v s₂.heap L ∧ FrameEnd s o s₂ L rm.cells rm.slots) Bd.exec Bd.bytes hml (findClass_of_methodNamed Bd.named) (name_of_methodNamed Bd.named Bd.method).1 Bd.returns hZ (Stand.of_body Bd) (by rw [← hh, Bd.state]; rfl) ?_ ?_
  · rintro S S' st ⟨s₂, o, h1, h2⟩
    exact ⟨s₂, o, st _ h1, h2⟩
  · intro T locs cells slots v S X hc hs hv hQ hst
    obtain ⟨fs, hr, hrun, hended, hW, hsame⟩ := X.leave (v := v) (fun h => hv (Bd.returns ▸ h))
    exact ⟨_, _, hst fs hr, hrun, hended, v, locs, rfl, hQ, ⟨_, rfl⟩, hW, hsame.mono hc hs⟩
section Rets
variable {Q : Option Value → Heap → List Loc → Prop} {G : State → Prop} {ret : Option FieldType} {pc : Nat} {Ls : Array Slot} {rest : List Value}
theorem own_retV (hR : own_Rt p l e R s m args below meth c none Q G) (hret : meth.sig.returnType = none) (X : Stand p l e R s m args below meth c T locs cells slots) (hx : p.tables.exec = Jvm.exec) (hd : decode c.code pc = .ok (.return_, 1)) (hc : cells ≤ R.cells) (hs : slots ≤ R.slots) (hQ : Q none T.heap locs) : G (T.setTop (mkF m pc Ls [])) :=
  hR T locs cells slots none _ X hc hs (fun _ => rfl) hQ fun fs hr => X.returnOut hx hret hd hr
theorem own_retA {t : FieldType} {v : Value} (hR : own_Rt p l e R s m args below meth c (some t) Q G) (hret : meth.sig.returnType = some t) (ht : t.isReference = true) (hv : v.isRef = true) (X : Stand p l e R s m args below meth c T locs cells slots) (hx : p.tables.exec = Jvm.exec) (hd : decode c.code pc = .ok (.areturn, 1)) (hc : cells ≤ R.cells) (hs : slots ≤ R.slots) (hQ : Q (some v) T.heap locs) : G (T.setTop (mkF m pc Ls (v :: rest))) :=
  hR T locs cells slots (some v) _ X hc hs (fun h => nomatch h) hQ fun fs hr => retOut X hx hret (by cases t <;> simp_all [FieldType.isReference, narrow]) (Or.inr (Or.inr (Or.inr (Or.inr ⟨rfl, ht, hv⟩)))) hd hr
theorem own_retI {z : Int32} (hR : own_Rt p l e R s m args below meth c (some .int) Q G) (hret : meth.sig.returnType = some .int) (X : Stand p l e R s m args below meth c T locs cells slots) (hx : p.tables.exec = Jvm.exec) (hd : decode c.code pc = .ok (.ireturn, 1)) (hc : cells ≤ R.cells) (hs : slots ≤ R.slots) (hQ : Q (some (.int z)) T.heap locs) : G (T.setTop (mkF m pc Ls (.int z :: rest))) :=
  hR T locs cells slots (some (.int z)) _ X hc hs (fun h => nomatch h) hQ fun fs hr => retOut X hx hret rfl (Or.inl ⟨rfl, Or.inl rfl, z, rfl⟩) hd hr
theorem own_retL {z : Int64} (hR : own_Rt p l e R s m args below meth c (some .long) Q G) (hret : meth.sig.returnType = some .long) (X : Stand p l e R s m args below meth c T locs cells slots) (hx : p.tables.exec = Jvm.exec) (hd : decode c.code pc = .ok (.lreturn, 1)) (hc : cells ≤ R.cells) (hs : slots ≤ R.slots) (hQ : Q (some (.long z)) T.heap locs) : G (T.setTop (mkF m pc Ls (.long z :: rest))) :=
  hR T locs cells slots (some (.long z)) _ X hc hs (fun h => nomatch h) hQ fun fs hr => retOut X hx hret rfl (Or.inr (Or.inl ⟨rfl, rfl, z, rfl⟩)) hd hr
theorem own_retN {z : Int32} {t : FieldType} (hR : own_Rt p l e R s m args below meth c (some t) Q G) (hret : meth.sig.returnType = some t) (ht : t = .boolean ∨ t = .byte ∨ t = .char ∨ t = .short) (X : Stand p l e R s m args below meth c T locs cells slots) (hx : p.tables.exec = Jvm.exec) (hd : decode c.code pc = .ok (.ireturn, 1)) (hc : cells ≤ R.cells) (hs : slots ≤ R.slots) (hQ : Q (some (.int (nar t z))) T.heap locs) : G (T.setTop (mkF m pc Ls (.int z :: rest))) :=
  hR T locs cells slots (some (.int (nar t z))) _ X hc hs (fun h => nomatch h) hQ fun fs hr => retN X hx hret ht hd hr
end Rets
section Calls
variable {Z : State} {a0 : Array Value} {own : String} {index : Nat} {y z : MethodName} {bytes : ByteArray} {maxL : Nat} {ret : Option FieldType} {rm : Room} {as' : Array Value} {h : Heap} {Q : Option Value → Heap → List Loc → Prop} {G : State → Prop} {pc : Nat} {Ls : Array Slot} {stk argsL rest : List Value}
theorem own_callS (X : Stand p l e R s m args below meth c T locs cells slots) (hx : p.tables.exec = Jvm.exec) (hZ : Z.Warmed39 s.vm) (hG : own_Bk p e below G) (hown : s.vm.findClass own = some m.cls)
    (w1 : (Jvm.Cond.methodLink own index y).before a0 Z = true) (w2 : (Jvm.Cond.static y).before a0 Z = true) (w3 : (Jvm.Cond.initialized y.cls).before a0 Z = true) (w4 : (Jvm.Cond.code y bytes maxL ret).before a0 Z = true)
    (hy : y.cls ≠ "java/lang/invoke/MethodHandle" ∧ y.cls ≠ "java/lang/invoke/VarHandle") (W : Nat) (hM : own_Con l Z y bytes maxL ret [] rm as' h Q) (hf : rm.frames + 1 ≤ R.frames) (hlo : W + (maxL + 11) + rm.locals ≤ R.locals) (eT : T.heap = h)
    (hsize : Ls.size = c.maxLocals) (hlen : ∀ sig, parseMethodDescriptor y.desc = some sig → argsL.length = sig.parameters.length) (has : argsL.toArray = as') (hst : stk = argsL.reverse ++ rest) (hW : (rest.map fun v => v.category).sum ≤ W)
    (hd : decode c.code pc = .ok (.invokestatic index, 3)) (hc : cells + rm.cells ≤ R.cells) (hs : slots + rm.slots ≤ R.slots)
    (k : ∀ T' h' v L, Stand p l e R s m args below meth c T' (locs ++ L) (cells + rm.cells) (slots + rm.slots) → T'.heap = h' → Q v h' L → G (T'.setTop (mkF m (pc + 3) Ls (v.toList ++ rest)))) : G (T.setTop (mkF m pc Ls stk)) := by
  obtain ⟨v, _, ⟨T1, L1, k1, n1⟩, -, X1, ⟨L, hQ, rfl, rfl, rfl⟩, st⟩ := Jvm.LawKit.callS X hx (y := y) hown (mvT hZ w1) (mvT hZ w2) (mvT hZ w3) (mvT hZ w4) hy (backOf (W := W) hM hZ w4 w3 hf hlo) (g := mkF m pc Ls stk) rfl hsize (argsL := argsL) (rest := rest) hlen hst (by show 2 * 0 + _ ≤ _; rw [Nat.mul_zero, Nat.zero_add]; exact hW) hd (fun _ _ => ⟨has, eT, hc, hs⟩)
  exact hG _ _ st (k T1 _ v L X1 rfl hQ)
theorem own_callI (X : Stand p l e R s m args below meth c T locs cells slots) (hx : p.tables.exec = Jvm.exec) (hZ : Z.Warmed39 s.vm) (hG : own_Bk p e below G) (hown : s.vm.findClass own = some m.cls) (hy1 : y.name = "<init>")
    (w1 : (Jvm.Cond.methodLink own index y).before a0 Z = true) (w2 : (Jvm.Cond.instanceMethod y).before a0 Z = true) (w3 : (Jvm.Cond.initialized y.cls).before a0 Z = true) (w4 : (Jvm.Cond.code y bytes maxL none).before a0 Z = true)
    (hy : y.cls ≠ "java/lang/invoke/MethodHandle" ∧ y.cls ≠ "java/lang/invoke/VarHandle") (W : Nat) (hM : own_Con l Z y bytes maxL none [] rm as' h Q) (hf : rm.frames + 1 ≤ R.frames) (hlo : W + (maxL + 11) + rm.locals ≤ R.locals) (eT : T.heap = h)
    (hsize : Ls.size = c.maxLocals) (hlen : ∀ sig, parseMethodDescriptor y.desc = some sig → argsL.length = sig.parameters.length) {a : Addr} (has : (.ref a :: argsL).toArray = as') (hst : stk = argsL.reverse ++ .ref a :: rest) (hW : (rest.map fun v => v.category).sum ≤ W)
    (hd : decode c.code pc = .ok (.invokespecial index, 3)) (hc : cells + rm.cells ≤ R.cells) (hs : slots + rm.slots ≤ R.slots)
    (k : ∀ T' h' v L, Stand p l e R s m args below meth c T' (locs ++ L) (cells + rm.cells) (slots + rm.slots) → T'.heap = h' → Q v h' L → G (T'.setTop (mkF m (pc + 3) Ls (v.toList ++ rest)))) : G (T.setTop (mkF m pc Ls stk)) := by
  obtain ⟨v, _, ⟨T1, L1, k1, n1⟩, -, X1, ⟨L, hQ, rfl, rfl, rfl⟩, st⟩ := X.specialBack hx (y := y) hy1 hown (mvT hZ w1) (mvT hZ w2) (mvT hZ w4) hy (backOf (W := W) hM hZ w4 w3 hf hlo) (g := mkF m pc Ls stk) rfl hsize (Steps.refl _) (a := a) (argsL := argsL) (rest := rest) hlen hst (by show 2 * 0 + _ ≤ _; rw [Nat.mul_zero, Nat.zero_add]; exact hW) hd (fun _ _ => ⟨has, eT, hc, hs⟩)
  exact hG _ _ (fun t kk => st.trans kk) (k T1 _ v L X1 rfl hQ)
theorem own_callV {C : String} (X : Stand p l e R s m args below meth c T locs cells slots) (hx : p.tables.exec = Jvm.exec) (hZ : Z.Warmed39 s.vm) (hG : own_Bk p e below G) (hown : s.vm.findClass own = some m.cls)
    (w1 : (Jvm.Cond.methodLink own index y).before a0 Z = true) (w2 : (Jvm.Cond.declares y).before a0 Z = true) (w3 : (Jvm.Cond.selects C y y).before a0 Z = true) (w4 : (Jvm.Cond.instanceMethod y).before a0 Z = true) (w5 : (Jvm.Cond.initialized y.cls).before a0 Z = true) (w6 : (Jvm.Cond.code y bytes maxL ret).before a0 Z = true)
    (hy : y.cls ≠ "java/lang/invoke/MethodHandle" ∧ y.cls ≠ "java/lang/invoke/VarHandle") (W : Nat) (hM : own_Con l Z y bytes maxL ret [] rm as' h Q) (hf : rm.frames + 1 ≤ R.frames) (hlo : W + (maxL + 11) + rm.locals ≤ R.locals) (eT : T.heap = h) {b : Addr} (E : Exa Z h b C)
    (hsize : Ls.size = c.maxLocals) (hlen : ∀ sig, parseMethodDescriptor y.desc = some sig → argsL.length = sig.parameters.length) (has : (.ref b :: argsL).toArray = as') (hst : stk = argsL.reverse ++ .ref b :: rest) (hW : (rest.map fun v => v.category).sum ≤ W)
    (hd : decode c.code pc = .ok (.invokevirtual index, 3)) (hc : cells + rm.cells ≤ R.cells) (hs : slots + rm.slots ≤ R.slots)
    (k : ∀ T' h' v L, Stand p l e R s m args below meth c T' (locs ++ L) (cells + rm.cells) (slots + rm.slots) → T'.heap = h' → Q v h' L → G (T'.setTop (mkF m (pc + 3) Ls (v.toList ++ rest)))) : G (T.setTop (mkF m pc Ls stk)) := by
  obtain ⟨cq, kq, qa, qb, qc⟩ := isOf hZ eT E
  obtain ⟨v, _, ⟨T1, L1, k1, n1⟩, -, X1, ⟨L, hQ, rfl, rfl, rfl⟩, st⟩ := X.virtualBack hx (y := y) (z := y) hown (mvT hZ w1) (mvT hZ w2) (notFace_of_selects (args := #[]) (mvT hZ w3)) (mvT hZ w3) (mvT hZ w4) hy (backOf (W := W) hM hZ w6 w5 hf hlo) qa qc (g := mkF m pc Ls stk) rfl hsize (Steps.refl _) (argsL := argsL) (rest := rest) hlen hst (by show 2 * 0 + _ ≤ _; rw [Nat.mul_zero, Nat.zero_add]; exact hW) hd (fun _ _ => ⟨has, eT, hc, hs⟩)
  exact hG _ _ (fun t kk => st.trans kk) (k T1 _ v L X1 rfl hQ)
theorem own_callP (X : Stand p l e R s m args below meth c T locs cells slots) (hx : p.tables.exec = Jvm.exec) (hZ : Z.Warmed39 s.vm) (hG : own_Bk p e below G) (hown : s.vm.findClass own = some m.cls)
    (w1 : (Jvm.Cond.methodLink own index y).before a0 Z = true) (w2 : (Jvm.Cond.instanceMethod y).before a0 Z = true) (w3 : (Jvm.Cond.selects y.cls y y).before a0 Z = true) (wp : (Jvm.Cond.privateMethod y).before a0 Z = true) (w5 : (Jvm.Cond.initialized y.cls).before a0 Z = true) (w6 : (Jvm.Cond.code y bytes maxL ret).before a0 Z = true)
    (hy : y.cls ≠ "java/lang/invoke/MethodHandle" ∧ y.cls ≠ "java/lang/invoke/VarHandle") (W : Nat) (hM : own_Con l Z y bytes maxL ret [] rm as' h Q) (hf : rm.frames + 1 ≤ R.frames) (hlo : W + (maxL + 11) + rm.locals ≤ R.locals) (eT : T.heap = h) {b : Addr} {C : String} (E : Exa Z h b C)
    (hsize : Ls.size = c.maxLocals) (hlen : ∀ sig, parseMethodDescriptor y.desc = some sig → argsL.length = sig.parameters.length) (has : (.ref b :: argsL).toArray = as') (hst : stk = argsL.reverse ++ .ref b :: rest) (hW : (rest.map fun v => v.category).sum ≤ W)
    (hd : decode c.code pc = .ok (.invokevirtual index, 3)) (hc : cells + rm.cells ≤ R.cells) (hs : slots + rm.slots ≤ R.slots)
    (k : ∀ T' h' v L, Stand p l e R s m args below meth c T' (locs ++ L) (cells + rm.cells) (slots + rm.slots) → T'.heap = h' → Q v h' L → G (T'.setTop (mkF m (pc + 3) Ls (v.toList ++ rest)))) : G (T.setTop (mkF m pc Ls stk)) := by
  obtain ⟨cell, hc1, hc2⟩ := (Ins.self E).cell
  obtain ⟨v, _, ⟨T1, L1, k1, n1⟩, -, X1, ⟨L, hQ, rfl, rfl, rfl⟩, st⟩ := X.privateBack hx (y := y) hown (mvT hZ w1) (mvT hZ w2) (mvT hZ w3) (Cond.privateMethod_at (mvP hZ wp (args := #[]))) (mvT hZ w6) hy (backOf (W := W) hM hZ w6 w5 hf hlo) (g := mkF m pc Ls stk) rfl hsize (Steps.refl _) (a := b) (by rw [eT]; exact hc1) hc2 (argsL := argsL) (rest := rest) hlen hst (by show 2 * 0 + _ ≤ _; rw [Nat.mul_zero, Nat.zero_add]; exact hW) hd (fun _ _ => ⟨has, eT, hc, hs⟩)
  exact hG _ _ (fun t kk => st.trans kk) (k T1 _ v L X1 rfl hQ)
theorem own_callF {C : String} {count : Nat} (X : Stand p l e R s m args below meth c T locs cells slots) (hx : p.tables.exec = Jvm.exec) (hZ : Z.Warmed39 s.vm) (hG : own_Bk p e below G) (hown : s.vm.findClass own = some m.cls)
    (w1 : (Jvm.Cond.methodLink own index z).before a0 Z = true) (w2 : (Jvm.Cond.declares z).before a0 Z = true) (wf : ∀ s' : State, Z.Warmed39 s'.vm → (Jvm.Cond.interfaceMethod z.cls z.cls z.name z.desc).before args s' = true) (w3 : (Jvm.Cond.selects C z y).before a0 Z = true) (w4 : (Jvm.Cond.instanceMethod y).before a0 Z = true) (wp : (Jvm.Cond.publicMethod y).before a0 Z = true) (wu : (Jvm.Cond.unhidden C z.name z.desc).before a0 Z = true) (wc : (Jvm.Cond.castable C z.cls).before a0 Z = true) (w5 : (Jvm.Cond.initialized y.cls).before a0 Z = true) (w6 : (Jvm.Cond.code y bytes maxL ret).before a0 Z = true)
    (hy : z.cls ≠ "java/lang/invoke/MethodHandle" ∧ z.cls ≠ "java/lang/invoke/VarHandle") (W : Nat) (hM : own_Con l Z y bytes maxL ret [] rm as' h Q) (hf : rm.frames + 1 ≤ R.frames) (hlo : W + (maxL + 11) + rm.locals ≤ R.locals) (eT : T.heap = h) {b : Addr} (E : Exa Z h b C)
    (hsize : Ls.size = c.maxLocals) (hlen : ∀ sig, parseMethodDescriptor z.desc = some sig → argsL.length = sig.parameters.length) (has : (.ref b :: argsL).toArray = as') (hst : stk = argsL.reverse ++ .ref b :: rest) (hW : (rest.map fun v => v.category).sum ≤ W)
    (hd : decode c.code pc = .ok (.invokeinterface index count, 5)) (hc : cells + rm.cells ≤ R.cells) (hs : slots + rm.slots ≤ R.slots)
    (k : ∀ T' h' v L, Stand p l e R s m args below meth c T' (locs ++ L) (cells + rm.cells) (slots + rm.slots) → T'.heap = h' → Q v h' L → G (T'.setTop (mkF m (pc + 5) Ls (v.toList ++ rest)))) : G (T.setTop (mkF m pc Ls stk)) := by
  obtain ⟨cq, kq, qa, qb, qc⟩ := isOf hZ eT E
  obtain ⟨v, _, ⟨T1, L1, k1, n1⟩, -, X1, ⟨L, hQ, rfl, rfl, rfl⟩, st⟩ := X.interfaceBack hx (xi := z) (y := y) hown (mvT hZ w1) (mvT hZ w2) (wf s hZ) (mvT hZ w3) (mvT hZ w4) (mvT hZ wp) (mvT hZ wu) (mvT hZ wc) hy (backOf (W := W) hM hZ w6 w5 hf hlo) qa qb qc (g := mkF m pc Ls stk) rfl hsize (Steps.refl _) (argsL := argsL) (rest := rest) hlen hst (by show 2 * 0 + _ ≤ _; rw [Nat.mul_zero, Nat.zero_add]; exact hW) hd (fun _ _ => ⟨has, eT, hc, hs⟩)
  exact hG _ _ (fun t kk => st.trans kk) (k T1 _ v L X1 rfl hQ)
end Calls
theorem own_entry {G : State → Prop} {n : Nat} {Ls : Array Slot} (q : entryFrame m args n = mkF m 0 Ls []) (k : G (T.setTop (mkF m 0 Ls []))) : G (T.setTop (entryFrame m args n)) := q ▸ k
abbrev own_Old (Z : State) (h : Heap) : Prop := Old Z Z.heap.size h
abbrev own_Fr (Z : State) (L : List Loc) : Prop := Fr Z.heap.size L
theorem own_ge {Z : State} {h : Heap} (O : own_Old Z h) {b : Addr} (q : h.size ≤ b) : Z.heap.size ≤ b := Nat.le_trans O.2.1 q
theorem own_sta {Z : State} {h : Heap} {C n d : String} {v : Value} (S : Sta Z Z.heap C n d v) (O : own_Old Z h) : Sta Z h C n d v := S.ext O.2
theorem own_ne {h : Heap} {a b : Addr} (q : a < h.size) (r : h.size ≤ b) : a ≠ b := Nat.ne_of_lt (Nat.lt_of_lt_of_le q r)
end OwnKit
theorem own_toInt {i : Nat} (h : i < 2147483648) : (Int32.ofNat i).toInt = i := Int32.toInt_ofNat_of_lt (by omega)
theorem own_clamp {i : Nat} (h : i < 2147483648) : (Int32.ofNat i).toNatClampNeg = i := by
  show ((Int32.ofNat i).toInt).toNat = i
  rw [own_toInt h]; rfl
theorem own_inc (i : Nat) : Int32.ofNat i + 1 = Int32.ofNat (i + 1) := (Int32.ofNat_add i 1).symm
theorem own_nn {i : Nat} (h : i < 2147483648) : ¬ Int32.ofNat i < 0 := by
  rw [Int32.lt_iff_toInt_lt, own_toInt h]; simp
theorem own_lt {i n : Nat} (h : i < n) (hn : n < 2147483648) : Int32.ofNat i < Int32.ofNat n := by
  rw [Int32.lt_iff_toInt_lt, own_toInt (by omega), own_toInt hn]; omega
theorem own_nlt {i n : Nat} (h : n ≤ i) (hi : i < 2147483648) : ¬ Int32.ofNat i < Int32.ofNat n := by
  rw [Int32.lt_iff_toInt_lt, own_toInt hi, own_toInt (by omega)]; omega
theorem own_ofNat_inj {i n : Nat} (hi : i < 2147483648) (hn : n < 2147483648) (h : Int32.ofNat i = Int32.ofNat n) : i = n := by
  have := congrArg Int32.toInt h
  rw [own_toInt hi, own_toInt hn] at this; omega
theorem own_getD_set {α : Type} (vs : List α) (i j : Nat) (x d : α) (h : i < vs.length) : (vs.set i x).getD j d = if j = i then x else vs.getD j d := by
  simp only [List.getD_eq_getElem?_getD, List.getElem?_set]
  by_cases e : i = j
  · subst e; simp [h]
  · simp [e, Ne.symm e]
theorem own_getD_map {α β : Type} (f : α → β) (cs : List α) (j : Nat) (d : β) (e : α) (h : j < cs.length) : (cs.map f).getD j d = f (cs.getD j e) := by
  simp [List.getD_eq_getElem?_getD, List.getElem?_map, h]
theorem own_mapEq {α β : Type} (f : α → β) (cs : List α) (vs : List β) (d : β) (e : α) (hl : vs.length = cs.length) (h : ∀ j, j < cs.length → vs.getD j d = f (cs.getD j e)) : vs = cs.map f := by
  apply List.ext_getElem (by simpa using hl)
  intro j h1 h2
  have q := h j (by simpa using h2)
  have h3 : j < cs.length := by simpa using h2
  simp [List.getD_eq_getElem?_getD, h1, h3] at q
  simpa using q
theorem own_narR {t : FieldType} {v : Value} (ht : t.isReference = true) (hv : v.isRef = true) : narrow t v = v := by cases t <;> simp_all [FieldType.isReference, narrow]
theorem own_nb (x : Int32) : nar .byte x.toInt8.toInt32 = x.toInt8.toInt32 := by
  show x.toInt8.toInt32.toInt8.toInt32 = _
  rw [Int8.toInt8_toInt32]
theorem own_nc (x : Int32) : nar .char x.toUInt32.toUInt16.toUInt32.toInt32 = x.toUInt32.toUInt16.toUInt32.toInt32 := by
  simp only [nar, UInt32.toUInt32_toInt32, UInt16.toUInt16_toUInt32]
theorem own_getD_mem {α : Type} (cs : List α) (i : Nat) (d : α) (h : i < cs.length) : cs.getD i d ∈ cs := by
  rw [List.getD_eq_getElem?_getD, List.getElem?_eq_getElem h]; exact List.getElem_mem h
theorem own_alln {α : Type} {P : α → Prop} : ∀ c ∈ ([] : List α), P c := fun _ q => nomatch q
theorem own_allc {α : Type} {P : α → Prop} {x : α} {L : List α} (q : P x) (r : ∀ c ∈ L, P c) : ∀ c ∈ x :: L, P c := fun c z => (List.mem_cons.mp z).elim (fun u => u ▸ q) (r c)
theorem own_and255 (x : Int32) : 0 ≤ (x &&& 255).toInt ∧ (x &&& 255).toInt ≤ 255 := by
  rw [c_mask x 255 8 (by decide) (by decide)]
  have h1 := Int.emod_nonneg x.toInt (show ((2 ^ 8 : Nat) : Int) ≠ 0 by decide)
  have h2 := Int.emod_lt_of_pos x.toInt (show (0 : Int) < ((2 ^ 8 : Nat) : Int) by decide)
  omega
theorem own_mask8 {x c : Int32} (h : (x &&& 255).toUInt32.toUInt16.toUInt32.toInt32 = c) : 0 ≤ c.toInt ∧ c.toInt ≤ 255 := by
  rw [i2c_mask] at h; subst h; exact own_and255 x
theorem own_narC {c : Int32} (h : 0 ≤ c.toInt ∧ c.toInt ≤ 65535) : nar .char c = c := by
  apply Int32.toInt_inj.mp
  have q := c_i2c c
  show c.toUInt32.toUInt16.toUInt32.toInt32.toInt = c.toInt
  omega
theorem own_le255 {c : Int32} (h : 0 ≤ c.toInt ∧ c.toInt ≤ 255) : ¬ ((255 : Int32) < c) := by
  rw [Int32.lt_iff_toInt_lt]
  have : (255 : Int32).toInt = 255 := by decide
  omega
theorem own_nar8 {c : Int32} (h : 0 ≤ c.toInt ∧ c.toInt ≤ 255) : ¬ ((255 : Int32) < nar .char c) := by
  rw [own_narC ⟨h.1, by omega⟩]; exact own_le255 h
theorem own_setNext {vs : List Value} {cs : List Int32} {i : Nat} (f : Int32 → Value) (d x : Value) (hi : i < vs.length) (hx : x = f (cs.getD i 0)) (hv : ∀ j, j < i → vs.getD j d = f (cs.getD j 0)) : ∀ j, j < i + 1 → (vs.set i x).getD j d = f (cs.getD j 0) := by
  intro j hj
  rw [own_getD_set _ _ _ _ _ hi]
  by_cases e : j = i
  · subst e; rw [if_pos rfl]; exact hx
  · rw [if_neg e]; exact hv j (by omega)
theorem own_fitR {t : FieldType} {v : Value} (ht : t.isReference = true) (hv : v.isRef = true) : fits t v = true := by
  rcases ref_cases hv with rfl | ⟨a, rfl⟩ <;> cases t <;> simp_all [FieldType.isReference, fits]
theorem own_fitC {c : Int32} (h : 0 ≤ c.toInt ∧ c.toInt ≤ 65535) : fits .char (.int c) = true := by
  have q := fits_nar_char c
  rw [own_narC h] at q; exact q
theorem own_zero1 : (0 : Int32) + (1 : Int32) = (1 : Int32) := by decide
theorem own_emptyArv {s : State} {args : Array Value} {t : Term} {a : Addr} {cl : Cell} {ty : FieldType} {dv : Value} (hf : Fit s) (ev : t.eval args s none [] s = some (.ref a)) (A : Arr s s.heap a cl ty) (hl : (Term.length t).eval args s none [] s = some (.int (0 : Int32))) : Arv s s.heap a cl.cls ty (0 : Int32) [] dv := by
  obtain ⟨x, cl', e1, e2, -⟩ := Term.length_spec hl
  cases ev.symm.trans e1
  have hc : s.arrayAt? a = some cl := A.fin (Vm.Alike.refl _)
  cases e2.symm.trans hc
  have h31 := Jvm.Free.SBG.length_lt e1 hc hl
  have e : (Term.length t).eval args s none [] s = some (.int (Int32.ofNat cl.slots.size)) := by simp [Term.eval, e1, hc, h31]
  have q : Int32.ofNat cl.slots.size = (0 : Int32) := by simpa using Option.some.inj (e.symm.trans hl)
  exact Arv.start hf A h31 q (by decide) rfl trivial
theorem own_sz {x n : Int32} (h : ((1 : Int32) + (x &&& (3 : Int32))) = n) : 1 ≤ n.toInt ∧ n.toInt ≤ 4 := by
  have q : (x &&& (3 : Int32)).toInt = x.toInt % (2 ^ 2 : Nat) := c_mask x 3 2 (by decide) (by decide)
  have e := c_iadd 1 (x &&& (3 : Int32)); rw [h] at e
  have e1 : (1 : Int32).toInt = 1 := by decide
  have r := rng32 n
  omega
theorem own_sz0 {n : Int32} (h : 1 ≤ n.toInt ∧ n.toInt ≤ 4) : n ≠ 0 := fun e => by rw [e] at h; exact absurd h.1 (by decide)
theorem own_ixr {x n r : Int32} (h : 1 ≤ n.toInt ∧ n.toInt ≤ 4) (hr : ((x &&& (2147483647 : Int32)) % n) = r) : 0 ≤ r.toInt ∧ r.toInt < n.toInt := by
  have q := c_and x 2147483647 (by decide)
  have c := (c_iremV (x &&& 2147483647) n).1 q.1 (by omega)
  rw [hr] at c
  exact ⟨c.1, c.2.1⟩
theorem own_szb {n k : Int32} {m : Int} (h : ¬ (k < n)) (hk : k.toInt = m) : n.toInt ≤ m := by
  rw [Int32.lt_iff_toInt_lt] at h; omega
theorem own_ix1 {i n : Int32} (h0 : 0 ≤ i.toInt) (h1 : i.toInt < n.toInt) (h2 : n.toInt ≤ 1) : i = (0 : Int32) := Int32.toInt_inj.mp (by have : (0 : Int32).toInt = 0 := (by decide); omega)
theorem own_ix2 {i n : Int32} (h0 : 0 ≤ i.toInt) (h1 : i.toInt < n.toInt) (h2 : n.toInt ≤ 2) : i = (0 : Int32) ∨ i = (1 : Int32) := by
  have e0 : (0 : Int32).toInt = 0 := by decide
  have e1 : (1 : Int32).toInt = 1 := by decide
  simp only [← Int32.toInt_inj]; omega
theorem own_ix3 {i n : Int32} (h0 : 0 ≤ i.toInt) (h1 : i.toInt < n.toInt) (h2 : n.toInt ≤ 3) : i = (0 : Int32) ∨ i = (1 : Int32) ∨ i = (2 : Int32) := by
  have e0 : (0 : Int32).toInt = 0 := by decide
  have e1 : (1 : Int32).toInt = 1 := by decide
  have e2 : (2 : Int32).toInt = 2 := by decide
  simp only [← Int32.toInt_inj]; omega
theorem own_ix4 {i n : Int32} (h0 : 0 ≤ i.toInt) (h1 : i.toInt < n.toInt) (h2 : n.toInt ≤ 4) : i = (0 : Int32) ∨ i = (1 : Int32) ∨ i = (2 : Int32) ∨ i = (3 : Int32) := by
  have e0 : (0 : Int32).toInt = 0 := by decide
  have e1 : (1 : Int32).toInt = 1 := by decide
  have e2 : (2 : Int32).toInt = 2 := by decide
  have e3 : (3 : Int32).toInt = 3 := by decide
  simp only [← Int32.toInt_inj]; omega
theorem ow {Z : State} {a0 : Array Value} (hw : ∀ d ∈ tables_1, d.before a0 Z = true) (i : Nat) {d : Jvm.Cond} (h : tables_1[i]? = some d) : d.before a0 Z = true := hw d (List.mem_of_getElem? h)
abbrev oi (x : Int32) : Slot := .val (.int x)
abbrev oa (a : Addr) : Slot := .val (.ref a)
set_option maxRecDepth 65536
set_option maxHeartbeats 40000000
section OwnKitW
variable {p : Program} {l : Launch} {e : Env} {R : Room} {s : State} {m : MethodId} {args : Array Value} {below : List Frame} {meth : Method} {c : Code} {T : State} {locs : List Loc} {cells slots : Nat} {EL : List (String × Nat)} {Z : State} {a0 : Array Value}
/-- the contract of a body that may load String constants -/
def own_ConW (l : Launch) (Z : State) (EL : List (String × Nat)) (y : MethodName) (bytes : ByteArray) (maxL : Nat) (ret : Option FieldType) (ws : List Jvm.Cond) (rm : Room) (as' : Array Value) (h0 : Heap) (Q : Option Value → Heap → List Loc → Prop) : Prop :=
  MetFree l y (head1 (Jvm.Cond.code y bytes maxL ret :: ws) rm) (fun a U => a = as' ∧ Z.Warmed39 U.vm ∧ U.heap = h0 ∧ CHv Z EL U.vm h0) (fun _ _ _ _ _ => True) (fun _ U o U' => ∃ v L, o = .returned v ∧ Q v U'.heap L ∧ CHr Z EL U.vm U.heap U'.vm U'.heap ∧ ReturnedEndW U o U' L rm.cells rm.slots)
def own_RtW (p : Program) (l : Launch) (e : Env) (Z : State) (EL : List (String × Nat)) (rm : Room) (s : State) (m : MethodId) (as' : Array Value) (below : List Frame) (meth : Method) (c : Code) (ret : Option FieldType) (h0 : Heap) (Q : Option Value → Heap → List Loc → Prop) (G : State → Prop) : Prop :=
  ∀ T locs cells slots v S vm0 k0, Stand p l e rm (s.setVm vm0) m as' below meth c T locs cells slots → s.Since vm0 k0 → k0 ≤ T.heap.size → Z.Warmed39 vm0 → CHr Z EL s.vm h0 vm0 T.heap → cells ≤ rm.cells → slots ≤ rm.slots → (ret = none → v = none) → Q v T.heap locs →
    (∀ fs, (∀ (f : JFrame) (acts : List Action), f.method = m → f.locked = none → f.entered = [] → (doReturn e (T.setTop f) acts v).1 = T.setFrames fs) → Steps p.tables e below S (T.setFrames fs)) → G S
theorem own_introW {y : MethodName} {bytes : ByteArray} {maxL : Nat} {ret : Option FieldType} {ws : List Jvm.Cond} {rm : Room} {as' : Array Value} {h0 : Heap} {Q : Option Value → Heap → List Loc → Prop} (hEL : EW Z a0 EL) (hpn : plainFor y = true)
    (H : ∀ (p : Program) (e : Env) (s : State) (m : MethodId) (below : List Frame) (meth : Method) (c : Code) (s₁ : State) (G : State → Prop), p.tables.exec = Jvm.exec → c.code = bytes → c.maxLocals = maxL → (s.setVm s.vm).vm.findClass y.cls = some m.cls → meth.name = y.name → meth.sig.returnType = ret → Z.Warmed39 (s.setVm s.vm).vm →
      Stand p l e rm (s.setVm s.vm) m as' below meth c s₁ [] 0 0 → s₁.heap = h0 → CHv Z EL s.vm h0 → s.Since s.vm h0.size → own_Bk p e below G → own_RtW p l e Z EL rm s m as' below meth c ret h0 Q G → G (s₁.setTop (entryFrame m as' maxL))) : own_ConW l Z EL y bytes maxL ret ws rm as' h0 Q := by
  refine MetFree.of_bodySF hpn hisR ?_
  intro p e s m args below meth c s₁ Bd hml hP hK
  obtain ⟨rfl, hZ, hh, hC⟩ := hP
  refine H p e s m below meth c s₁ (fun S => ∃ s₂ o, Steps p.tables e below S s₂ ∧ s₂.status = .running ∧ Ended s₂ below o ∧ ∃ v L, o = .returned v ∧ Q v s₂.heap L ∧ CHr Z EL s.vm s.heap s₂.vm s₂.heap ∧ ReturnedEndW s o s₂ L rm.cells rm.slots) Bd.exec Bd.bytes hml (findClass_of_methodNamed Bd.named) (name_of_methodNamed Bd.named Bd.method).1 Bd.returns hZ (Stand.of_body Bd) (by rw [← hh, Bd.state]; rfl) hC ((State.WarmedH.refl s).since _) ?_ ?_
  · rintro S S' st ⟨s₂, o, h1, h2⟩
    exact ⟨s₂, o, st _ h1, h2⟩
  · intro T locs cells slots v S vm0 k0 X hS hk hZ0 hC0 hc hs hv hQ hst
    obtain ⟨fs, hr, hrun, hended, hW, hsame⟩ := X.leave (v := v) (fun h => hv (Bd.returns ▸ h)) Bd.notSynchronized
    obtain ⟨q1, q2, q3⟩ := hS.ended (U := T.setFrames fs) hW hk hsame
    have hA : CHr Z EL vm0 T.heap T.vm T.heap := CHv.at X hZ0 hEL hC0.1
    refine ⟨_, _, hst fs hr, hrun, hended, v, locs, rfl, hQ, ?_, ⟨_, rfl⟩, q1, q2, q3.mono hc hs⟩
    rw [hh]
    exact hC0.trans hA
section Rets
variable {Q : Option Value → Heap → List Loc → Prop} {G : State → Prop} {pc : Nat} {Ls : Array Slot} {rest : List Value} {h0 h : Heap} {vm0 : Vm} {k0 : Nat}
theorem own_retVW (hR : own_RtW p l e Z EL R s m args below meth c none h0 Q G) (hret : meth.sig.returnType = none) (X : Stand p l e R (s.setVm vm0) m args below meth c T locs cells slots) (hx : p.tables.exec = Jvm.exec) (hd : decode c.code pc = .ok (.return_, 1)) (eT : T.heap = h) (hS : s.Since vm0 k0) (hk : k0 ≤ h.size) (hZ : Z.Warmed39 (s.setVm vm0).vm) (hC : CHr Z EL s.vm h0 vm0 h) (hc : cells ≤ R.cells) (hs : slots ≤ R.slots) (hQ : Q none h locs) : G (T.setTop (mkF m pc Ls [])) :=
  hR T locs cells slots none _ vm0 k0 X hS (by rw [eT]; exact hk) hZ (by rw [eT]; exact hC) hc hs (fun _ => rfl) (by rw [eT]; exact hQ) fun fs hr => X.returnOut hx hret hd hr
theorem own_retAW {t : FieldType} {v : Value} (hR : own_RtW p l e Z EL R s m args below meth c (some t) h0 Q G) (hret : meth.sig.returnType = some t) (ht : t.isReference = true) (hv : v.isRef = true) (X : Stand p l e R (s.setVm vm0) m args below meth c T locs cells slots) (hx : p.tables.exec = Jvm.exec) (hd : decode c.code pc = .ok (.areturn, 1)) (eT : T.heap = h) (hS : s.Since vm0 k0) (hk : k0 ≤ h.size) (hZ : Z.Warmed39 (s.setVm vm0).vm) (hC : CHr Z EL s.vm h0 vm0 h) (hc : cells ≤ R.cells) (hs : slots ≤ R.slots) (hQ : Q (some v) h locs) : G (T.setTop (mkF m pc Ls (v :: rest))) :=
  hR T locs cells slots (some v) _ vm0 k0 X hS (by rw [eT]; exact hk) hZ (by rw [eT]; exact hC) hc hs (fun h => nomatch h) (by rw [eT]; exact hQ) fun fs hr => retOut X hx hret (by cases t <;> simp_all [FieldType.isReference, narrow]) (Or.inr (Or.inr (Or.inr (Or.inr ⟨rfl, ht, hv⟩)))) hd hr
theorem own_retNW {z : Int32} {t : FieldType} (hR : own_RtW p l e Z EL R s m args below meth c (some t) h0 Q G) (hret : meth.sig.returnType = some t) (ht : t = .boolean ∨ t = .byte ∨ t = .char ∨ t = .short) (X : Stand p l e R (s.setVm vm0) m args below meth c T locs cells slots) (hx : p.tables.exec = Jvm.exec) (hd : decode c.code pc = .ok (.ireturn, 1)) (eT : T.heap = h) (hS : s.Since vm0 k0) (hk : k0 ≤ h.size) (hZ : Z.Warmed39 (s.setVm vm0).vm) (hC : CHr Z EL s.vm h0 vm0 h) (hc : cells ≤ R.cells) (hs : slots ≤ R.slots) (hQ : Q (some (.int (nar t z))) h locs) : G (T.setTop (mkF m pc Ls (.int z :: rest))) :=
  hR T locs cells slots (some (.int (nar t z))) _ vm0 k0 X hS (by rw [eT]; exact hk) hZ (by rw [eT]; exact hC) hc hs (fun h => nomatch h) (by rw [eT]; exact hQ) fun fs hr => retN X hx hret ht hd hr
end Rets
section Calls
variable {own : String} {index : Nat} {y : MethodName} {bytes : ByteArray} {maxL : Nat} {ret : Option FieldType} {rm : Room} {as' : Array Value} {h : Heap} {Q : Option Value → Heap → List Loc → Prop} {G : State → Prop} {pc : Nat} {Ls : Array Slot} {stk argsL rest : List Value} {vm0 : Vm} {k0 : Nat}
theorem own_callSW (X : Stand p l e R (s.setVm vm0) m args below meth c T locs cells slots) (hx : p.tables.exec = Jvm.exec) (hZ : Z.Warmed39 (s.setVm vm0).vm) (hG : own_Bk p e below G) (hown : (s.setVm vm0).vm.findClass own = some m.cls)
    (w1 : (Jvm.Cond.methodLink own index y).before a0 Z = true) (w2 : (Jvm.Cond.static y).before a0 Z = true) (w3 : (Jvm.Cond.initialized y.cls).before a0 Z = true) (w4 : (Jvm.Cond.code y bytes maxL ret).before a0 Z = true)
    (hy : y.cls ≠ "java/lang/invoke/MethodHandle" ∧ y.cls ≠ "java/lang/invoke/VarHandle") (W : Nat) (hM : own_ConW l Z EL y bytes maxL ret [] rm as' h Q) (hf : rm.frames + 1 ≤ R.frames) (hlo : W + (maxL + 11) + rm.locals ≤ R.locals) (eT : T.heap = h)
    (hS : s.Since vm0 k0) (hk : k0 ≤ h.size) (hEL : EW Z a0 EL) (H : CHv Z EL vm0 h)
    (hsize : Ls.size = c.maxLocals) (hlen : ∀ sig, parseMethodDescriptor y.desc = some sig → argsL.length = sig.parameters.length) (has : argsL.toArray = as') (hst : stk = argsL.reverse ++ rest) (hW : (rest.map fun v => v.category).sum ≤ W)
    (hd : decode c.code pc = .ok (.invokestatic index, 3)) (hc : cells + rm.cells ≤ R.cells) (hs : slots + rm.slots ≤ R.slots)
    (k : ∀ T' h' v L, Stand p l e R (s.setVm T'.vm) m args below meth c T' (locs ++ L) (cells + rm.cells) (slots + rm.slots) → T'.heap = h' → s.Since T'.vm h'.size → Z.Warmed39 (s.setVm T'.vm).vm → (s.setVm T'.vm).vm.findClass own = some m.cls → CHr Z EL vm0 h T'.vm h' → Q v h' L → G (T'.setTop (mkF m (pc + 3) Ls (v.toList ++ rest)))) : G (T.setTop (mkF m pc Ls stk)) := by
  obtain ⟨v, _, ⟨T1, L1, k1, n1⟩, -, X1, hS1, hg1, ⟨L, hQ, rfl, rfl, rfl, hC⟩, st⟩ := callSS X hx (y := y) hown (mvT hZ w1) (mvT hZ w2) (mvT hZ w3) (mvT hZ w4) hy (backOfSH (W := W) hM hZ w4 w3 hf hlo hEL H) (g := mkF m pc Ls stk) rfl hsize (argsL := argsL) (rest := rest) hlen hst (by show 2 * 0 + _ ≤ _; rw [Nat.mul_zero, Nat.zero_add]; exact hW) hd (fun _ _ => ⟨has, eT, hc, hs⟩)
  obtain ⟨X2, hS2, hZ2, hown2⟩ := rebS hS (by rw [eT]; exact hk) X1 hS1 hg1 hZ hown
  exact hG _ _ (fun t kk => st.trans kk) (k T1 _ v L X2 rfl hS2 hZ2 hown2 hC hQ)
theorem own_callIW (X : Stand p l e R (s.setVm vm0) m args below meth c T locs cells slots) (hx : p.tables.exec = Jvm.exec) (hZ : Z.Warmed39 (s.setVm vm0).vm) (hG : own_Bk p e below G) (hown : (s.setVm vm0).vm.findClass own = some m.cls) (hy1 : y.name = "<init>")
    (w1 : (Jvm.Cond.methodLink own index y).before a0 Z = true) (w2 : (Jvm.Cond.instanceMethod y).before a0 Z = true) (w3 : (Jvm.Cond.initialized y.cls).before a0 Z = true) (w4 : (Jvm.Cond.code y bytes maxL none).before a0 Z = true)
    (hy : y.cls ≠ "java/lang/invoke/MethodHandle" ∧ y.cls ≠ "java/lang/invoke/VarHandle") (W : Nat) (hM : own_ConW l Z EL y bytes maxL none [] rm as' h Q) (hf : rm.frames + 1 ≤ R.frames) (hlo : W + (maxL + 11) + rm.locals ≤ R.locals) (eT : T.heap = h)
    (hS : s.Since vm0 k0) (hk : k0 ≤ h.size) (hEL : EW Z a0 EL) (H : CHv Z EL vm0 h)
    (hsize : Ls.size = c.maxLocals) (hlen : ∀ sig, parseMethodDescriptor y.desc = some sig → argsL.length = sig.parameters.length) {a : Addr} (has : (.ref a :: argsL).toArray = as') (hst : stk = argsL.reverse ++ .ref a :: rest) (hW : (rest.map fun v => v.category).sum ≤ W)
    (hd : decode c.code pc = .ok (.invokespecial index, 3)) (hc : cells + rm.cells ≤ R.cells) (hs : slots + rm.slots ≤ R.slots)
    (k : ∀ T' h' v L, Stand p l e R (s.setVm T'.vm) m args below meth c T' (locs ++ L) (cells + rm.cells) (slots + rm.slots) → T'.heap = h' → s.Since T'.vm h'.size → Z.Warmed39 (s.setVm T'.vm).vm → (s.setVm T'.vm).vm.findClass own = some m.cls → CHr Z EL vm0 h T'.vm h' → Q v h' L → G (T'.setTop (mkF m (pc + 3) Ls (v.toList ++ rest)))) : G (T.setTop (mkF m pc Ls stk)) := by
  obtain ⟨v, _, ⟨T1, L1, k1, n1⟩, -, X1, hS1, hg1, ⟨L, hQ, rfl, rfl, rfl, hC⟩, st⟩ := X.specialBackS hx (y := y) hy1 hown (mvT hZ w1) (mvT hZ w2) (mvT hZ w4) hy (backOfSH (W := W) hM hZ w4 w3 hf hlo hEL H) (g := mkF m pc Ls stk) rfl hsize (Steps.refl _) (a := a) (argsL := argsL) (rest := rest) hlen hst (by show 2 * 0 + _ ≤ _; rw [Nat.mul_zero, Nat.zero_add]; exact hW) hd (fun _ _ => ⟨has, eT, hc, hs⟩)
  obtain ⟨X2, hS2, hZ2, hown2⟩ := rebS hS (by rw [eT]; exact hk) X1 hS1 hg1 hZ hown
  exact hG _ _ (fun t kk => st.trans kk) (k T1 _ v L X2 rfl hS2 hZ2 hown2 hC hQ)
theorem own_callVW {C : String} (X : Stand p l e R (s.setVm vm0) m args below meth c T locs cells slots) (hx : p.tables.exec = Jvm.exec) (hZ : Z.Warmed39 (s.setVm vm0).vm) (hG : own_Bk p e below G) (hown : (s.setVm vm0).vm.findClass own = some m.cls)
    (w1 : (Jvm.Cond.methodLink own index y).before a0 Z = true) (w2 : (Jvm.Cond.declares y).before a0 Z = true) (w3 : (Jvm.Cond.selects C y y).before a0 Z = true) (w4 : (Jvm.Cond.instanceMethod y).before a0 Z = true) (w5 : (Jvm.Cond.initialized y.cls).before a0 Z = true) (w6 : (Jvm.Cond.code y bytes maxL ret).before a0 Z = true)
    (hy : y.cls ≠ "java/lang/invoke/MethodHandle" ∧ y.cls ≠ "java/lang/invoke/VarHandle") (W : Nat) (hM : own_ConW l Z EL y bytes maxL ret [] rm as' h Q) (hf : rm.frames + 1 ≤ R.frames) (hlo : W + (maxL + 11) + rm.locals ≤ R.locals) (eT : T.heap = h)
    (hS : s.Since vm0 k0) (hk : k0 ≤ h.size) (hEL : EW Z a0 EL) (H : CHv Z EL vm0 h) {b : Addr} (E : Exa Z h b C)
    (hsize : Ls.size = c.maxLocals) (hlen : ∀ sig, parseMethodDescriptor y.desc = some sig → argsL.length = sig.parameters.length) (has : (.ref b :: argsL).toArray = as') (hst : stk = argsL.reverse ++ .ref b :: rest) (hW : (rest.map fun v => v.category).sum ≤ W)
    (hd : decode c.code pc = .ok (.invokevirtual index, 3)) (hc : cells + rm.cells ≤ R.cells) (hs : slots + rm.slots ≤ R.slots)
    (k : ∀ T' h' v L, Stand p l e R (s.setVm T'.vm) m args below meth c T' (locs ++ L) (cells + rm.cells) (slots + rm.slots) → T'.heap = h' → s.Since T'.vm h'.size → Z.Warmed39 (s.setVm T'.vm).vm → (s.setVm T'.vm).vm.findClass own = some m.cls → CHr Z EL vm0 h T'.vm h' → Q v h' L → G (T'.setTop (mkF m (pc + 3) Ls (v.toList ++ rest)))) : G (T.setTop (mkF m pc Ls stk)) := by
  obtain ⟨cq, kq, qa, qb, qc⟩ := isOf hZ eT E
  obtain ⟨v, _, ⟨T1, L1, k1, n1⟩, -, X1, hS1, hg1, ⟨L, hQ, rfl, rfl, rfl, hC⟩, st⟩ := X.virtualBackS hx (y := y) (z := y) hown (mvT hZ w1) (mvT hZ w2) (notFace_of_selects (args := #[]) (mvT hZ w3)) (mvT hZ w3) (mvT hZ w4) hy (backOfSH (W := W) hM hZ w6 w5 hf hlo hEL H) qa qc (g := mkF m pc Ls stk) rfl hsize (Steps.refl _) (argsL := argsL) (rest := rest) hlen hst (by show 2 * 0 + _ ≤ _; rw [Nat.mul_zero, Nat.zero_add]; exact hW) hd (fun _ _ => ⟨has, eT, hc, hs⟩)
  obtain ⟨X2, hS2, hZ2, hown2⟩ := rebS hS (by rw [eT]; exact hk) X1 hS1 hg1 hZ hown
  exact hG _ _ (fun t kk => st.trans kk) (k T1 _ v L X2 rfl hS2 hZ2 hown2 hC hQ)
end Calls
/-- a String whose value is still null is none that the JVM holds for a constant -/
theorem own_safeStr {vm : Vm} {h : Heap} {a : Addr} (hal : Z.vm.Alike vm) (E : Exa Z h a "java/lang/String") (F : Fld Z h a "java/lang/String" "value" "[B" .null) : Safe Z EL vm h a := fun B => by
  obtain ⟨p0, hp0, u, a', hb, q, hqa, S, hy⟩ := B
  obtain ⟨cS, ⟨⟨s1, s2, s3, ⟨cv, kv, iv, s4, s4'⟩, ⟨cc, kc, ic, s5, s5'⟩, s6, s7, s8, s9, s10, -⟩, hfS, hcS⟩, -, hB, -⟩ := S
  obtain ⟨kv', z4⟩ := ff_back (U := Wst Z vm h) hal s4
  rcases hy with rfl | rfl
  · have G : Fld Z h q.sa "java/lang/String" "value" "[B" (.ref q.sd) := ⟨q.sC, cv, kv', iv, q.fSV, s1, z4, s6, s2, s3, by rw [← hal.assignable]; exact s4', s8⟩
    exact Fld.ne F G (by simp) rfl
  · obtain ⟨cell, k, e1, e2, -⟩ := E
    have s10' : h[q.sd]? = some q.SA := s10
    cases s10'.symm.trans e1
    have hB' : vm.findClass "[B" = some q.SA.cls := hB
    have hBZ : Z.vm.findClass "[B" = some q.SA.cls := by rw [← hal.findClass]; exact hB'
    obtain ⟨k1, x1, x2⟩ := Vm.findClass_spec e2
    obtain ⟨k2, y1, y2⟩ := Vm.findClass_spec hBZ
    cases x1.symm.trans y1
    exact absurd (x2.symm.trans y2) (by decide)
theorem own_safeArv {vm : Vm} {h : Heap} {a : Addr} {k : ClassId} {ty : FieldType} {z : Int32} {vs : List Value} {d : Value} (hal : Z.vm.Alike vm) (A : Arv Z h a k ty z vs d) (ht : ty ≠ .byte) : Safe Z EL vm h a := by
  obtain ⟨cl, Ar, -⟩ := A
  exact Safe.arr hal Ar ht
end OwnKitW

def own_lo (ch : Int32) : Int32 := nar .byte ((ch >>> ((0 : Int32) &&& 31)).toInt8.toInt32)
def own_hi (ch : Int32) : Int32 := nar .byte ((ch >>> ((8 : Int32) &&& 31)).toInt8.toInt32)
def own_join (x y : Int32) : Int32 := nar .char ((((x &&& (255 : Int32)) <<< ((0 : Int32) &&& 31)) ||| ((y &&& (255 : Int32)) <<< ((8 : Int32) &&& 31))).toUInt32.toUInt16.toUInt32.toInt32)
def own_is16 (cs : List Int32) (vs : List Value) : Prop := vs.length = 2 * cs.length ∧ ∀ j, j < cs.length → vs.getD (2 * j) (.int 0) = .int (own_lo (cs.getD j 0)) ∧ vs.getD (2 * j + 1) (.int 0) = .int (own_hi (cs.getD j 0))
/-- the bytes of a String of these chars -/
def own_enc (cs : List Int32) (cd nb : Int32) (vs : List Value) : Prop :=
  ((∀ c ∈ cs, ¬ ((255 : Int32) < c)) ∧ cd = 0 ∧ nb = Int32.ofNat cs.length ∧ vs = (cs.map fun c => Value.int c.toInt8.toInt32)) ∨
    ((∃ k, k < cs.length ∧ (255 : Int32) < cs.getD k 0) ∧ cd = 1 ∧ nb = Int32.ofNat (2 * cs.length) ∧ own_is16 cs vs)
theorem own_shl1 (i : Nat) : Int32.ofNat i <<< ((1 : Int32) &&& 31) = Int32.ofNat (2 * i) := by
  rw [shlm (x := Int32.ofNat i) (k := 1) (m := 2) (by decide), Nat.mul_comm, Int32.ofNat_mul]; rfl
theorem own_lo_rng (ch : Int32) : (own_lo ch).toInt % 256 = ch.toInt % 256 := by
  have h0 : (ch >>> ((0 : Int32) &&& 31)).toInt = ch.toInt / (2 ^ 0 : Nat) := c_ishr ch 0 0 (by decide)
  have h1 := c_i2b (ch >>> ((0 : Int32) &&& 31))
  show (nar .byte _).toInt % 256 = _
  rw [own_nb]
  omega
theorem own_hi_rng (ch : Int32) : (own_hi ch).toInt % 256 = (ch.toInt / 256) % 256 := by
  have h0 : (ch >>> ((8 : Int32) &&& 31)).toInt = ch.toInt / (2 ^ 8 : Nat) := c_ishr ch 8 8 (by decide)
  have h1 := c_i2b (ch >>> ((8 : Int32) &&& 31))
  show (nar .byte _).toInt % 256 = _
  rw [own_nb]
  omega
theorem own_join_eq {ch : Int32} (h : 0 ≤ ch.toInt ∧ ch.toInt ≤ 65535) : own_join (own_lo ch) (own_hi ch) = ch := by
  have l := own_lo_rng ch; have g := own_hi_rng ch
  unfold own_join
  rw [own_nc]
  generalize own_lo ch = x at *
  generalize own_hi ch = y at *
  have m1 : (x &&& (255 : Int32)).toInt = x.toInt % 256 := c_mask x 255 8 (by decide) (by decide)
  have m2 : (y &&& (255 : Int32)).toInt = y.toInt % 256 := c_mask y 255 8 (by decide) (by decide)
  have s1 : ((x &&& (255 : Int32)) <<< ((0 : Int32) &&& 31)) = (x &&& (255 : Int32)) := by
    rw [shlm (m := 1) (by decide)]; simp
  have s2 := c_ishl (y &&& (255 : Int32)) 8 8 (by decide)
  rw [s1]
  generalize (x &&& (255 : Int32)) = X at *
  generalize ((y &&& (255 : Int32)) <<< ((8 : Int32) &&& 31)) = Y at *
  have rY := rng32 Y
  have eY : Y.toInt = (y.toInt % 256) * 256 := by omega
  have o := c_or' X Y 8 (by decide) 256 rfl (by omega) (by omega) (by omega)
  have rO := rng32 (X ||| Y)
  have c2 := c_i2c (X ||| Y)
  apply Int32.toInt_inj.mp
  omega
theorem own_coder0 (n : Int32) : nar .byte ((((n - n).toUInt32 >>> ((31 : Int32) &&& 31).toUInt32).toInt32).toInt8.toInt32) = 0 := by rw [Int32.sub_self]; rfl
theorem own_coder1 {n : Nat} (h0 : 0 < n) (h : n < 536870912) : nar .byte ((((Int32.ofNat n - Int32.ofNat (2 * n)).toUInt32 >>> ((31 : Int32) &&& 31).toUInt32).toInt32).toInt8.toInt32) = 1 := by
  have e := c_isub (Int32.ofNat n) (Int32.ofNat (2 * n))
  rw [own_toInt (by omega), own_toInt (by omega)] at e
  have r := rng32 (Int32.ofNat n - Int32.ofNat (2 * n))
  have s := c_iushr (Int32.ofNat n - Int32.ofNat (2 * n)) 31 31 (by decide) (by decide)
  generalize Int32.ofNat n - Int32.ofNat (2 * n) = D at *
  generalize ((D.toUInt32 >>> ((31 : Int32) &&& 31).toUInt32).toInt32) = S at *
  have hS : S.toInt = 1 := by rw [s]; omega
  have : S = 1 := Int32.toInt_inj.mp (by rw [hS]; rfl)
  rw [this]; rfl
theorem own_mask16 {x c : Int32} (h : (x &&& 65535).toUInt32.toUInt16.toUInt32.toInt32 = c) : 0 ≤ c.toInt ∧ c.toInt ≤ 65535 := by
  have q := c_i2c (x &&& 65535); rw [h] at q; omega
theorem own_i2c16 {x c : Int32} (h : x.toUInt32.toUInt16.toUInt32.toInt32 = c) : 0 ≤ c.toInt ∧ c.toInt ≤ 65535 := by
  have q := c_i2c x; rw [h] at q; omega
theorem own_nar16 {c : Int32} (h : 0 ≤ c.toInt ∧ c.toInt ≤ 65535) : 0 ≤ (nar .char c).toInt ∧ (nar .char c).toInt ≤ 65535 := by rw [own_narC h]; exact h
theorem own_ltK {n : Nat} (h : n < 1073741823) : Int32.ofNat n < (1073741823 : Int32) := by
  rw [Int32.lt_iff_toInt_lt, own_toInt (by omega)]
  have : (1073741823 : Int32).toInt = 1073741823 := by decide
  omega
theorem own_ofNat_ne {i n : Nat} (h : i < n) (hn : n < 2147483648) : ¬ (Int32.ofNat i = Int32.ofNat n) := fun e => by
  have := own_ofNat_inj (by omega) hn e; omega
theorem own_set16 {cs : List Int32} {vs : List Value} {i : Nat} (hl : vs.length = 2 * cs.length) (hi : i < cs.length)
    (hv : ∀ j, j < i → vs.getD (2 * j) (.int 0) = .int (own_lo (cs.getD j 0)) ∧ vs.getD (2 * j + 1) (.int 0) = .int (own_hi (cs.getD j 0))) :
    ∀ j, j < i + 1 → ((vs.set (2 * i) (.int (own_lo (cs.getD i 0)))).set (2 * i + 1) (.int (own_hi (cs.getD i 0)))).getD (2 * j) (.int 0) = .int (own_lo (cs.getD j 0)) ∧ ((vs.set (2 * i) (.int (own_lo (cs.getD i 0)))).set (2 * i + 1) (.int (own_hi (cs.getD i 0)))).getD (2 * j + 1) (.int 0) = .int (own_hi (cs.getD j 0)) := by
  intro j hj
  have h1 : 2 * i + 1 < (vs.set (2 * i) (Value.int (own_lo (cs.getD i 0)))).length := by rw [List.length_set]; omega
  have h2 : 2 * i < vs.length := by omega
  rw [own_getD_set _ _ _ _ _ h1, own_getD_set _ _ _ _ _ h2, own_getD_set _ _ _ _ _ h1, own_getD_set _ _ _ _ _ h2]
  by_cases e : j = i
  · subst e
    rw [if_neg (by omega), if_pos rfl, if_pos rfl]; exact ⟨rfl, rfl⟩
  · rw [if_neg (by omega), if_neg (by omega), if_neg (by omega), if_neg (by omega)]; exact hv j (by omega)
theorem own_allD {α : Type} {P : α → Prop} (cs : List α) (d : α) (h : ∀ j, j < cs.length → P (cs.getD j d)) : ∀ c ∈ cs, P c := by
  intro c hc
  obtain ⟨j, hj, rfl⟩ := List.getElem_of_mem hc
  have q := h j hj
  rw [List.getD_eq_getElem?_getD, List.getElem?_eq_getElem hj] at q
  exact q
theorem own_nextD {P : Int32 → Prop} {cs : List Int32} {i : Nat} (h : ∀ j, j < i → P (cs.getD j 0)) (q : P (cs.getD i 0)) : ∀ j, j < i + 1 → P (cs.getD j 0) := by
  intro j hj
  by_cases e : j = i
  · subst e; exact q
  · exact h j (by omega)
theorem own_is16_1 (ch : Int32) : own_is16 [ch] [.int (own_lo ch), .int (own_hi ch)] := ⟨rfl, fun j hj => by
  have e : j = 0 := by simpa using hj
  subst e; exact ⟨rfl, rfl⟩⟩
theorem own_enc_lat1 {ch : Int32} (h : ¬ ((255 : Int32) < ch)) : own_enc [ch] 0 (1 : Int32) [.int (nar .byte (ch.toInt8.toInt32))] :=
  Or.inl ⟨own_allc h own_alln, rfl, rfl, by rw [own_nb]; rfl⟩
theorem own_enc_u1 {ch : Int32} (h : (255 : Int32) < ch) : own_enc [ch] 1 (2 : Int32) [.int (own_lo ch), .int (own_hi ch)] :=
  Or.inr ⟨⟨0, Nat.zero_lt_one, h⟩, rfl, rfl, own_is16_1 ch⟩
theorem own_enc_nil : own_enc [] 0 (0 : Int32) [] := Or.inl ⟨own_alln, rfl, rfl, rfl⟩
theorem own_8to16 {c : Int32} (h : 0 ≤ c.toInt ∧ c.toInt ≤ 255) : 0 ≤ c.toInt ∧ c.toInt ≤ 65535 := ⟨h.1, by omega⟩
theorem own_narrng (x : Int32) : 0 ≤ (nar .char x).toInt ∧ (nar .char x).toInt ≤ 65535 := by
  have q := c_i2c x
  show 0 ≤ x.toUInt32.toUInt16.toUInt32.toInt32.toInt ∧ x.toUInt32.toUInt16.toUInt32.toInt32.toInt ≤ 65535
  omega
theorem own_shr0 (x : Int32) : x >>> ((0 : Int32) &&& 31) = x := Int32.toInt_inj.mp (by rw [c_ishr x 0 0 (by decide)]; simp)
theorem own_shr1 {n : Nat} (h : n < 1073741824) : Int32.ofNat (2 * n) >>> ((1 : Int32) &&& 31) = Int32.ofNat n := by
  apply Int32.toInt_inj.mp
  rw [c_ishr _ 1 1 (by decide), own_toInt (by omega), own_toInt (by omega)]
  omega
theorem own_byteEq {c d : Int32} (hc : 0 ≤ c.toInt ∧ c.toInt ≤ 255) (hd : 0 ≤ d.toInt ∧ d.toInt ≤ 255) : c.toInt8.toInt32 = d.toInt8.toInt32 ↔ c = d := by
  constructor
  · intro h
    have h1 := c_i2b c; have h2 := c_i2b d
    rw [h] at h1
    exact Int32.toInt_inj.mp (by omega)
  · intro h; rw [h]
theorem own_lat_rng {cs : List Int32} (hall : ∀ c ∈ cs, ¬ ((255 : Int32) < c)) (h16 : ∀ c ∈ cs, 0 ≤ c.toInt ∧ c.toInt ≤ 65535) : ∀ c ∈ cs, 0 ≤ c.toInt ∧ c.toInt ≤ 255 := fun c hc => by
  have q := hall c hc; have r := h16 c hc
  rw [Int32.lt_iff_toInt_lt] at q
  have : (255 : Int32).toInt = 255 := by decide
  omega
theorem own_m1 {P : Int32 → Prop} {cs : List Int32} (h : cs.length = 0) : (-1 : Int32) < (0 : Int32) ↔ ∀ c ∈ cs, P c :=
  ⟨fun _ => by rw [List.eq_nil_of_length_eq_zero h]; exact own_alln, fun _ => by decide⟩
theorem own_pos0 {n : Nat} (h : ¬ (0 : Int32) < Int32.ofNat n) (hn : n < 2147483648) : n = 0 := by
  rcases Nat.eq_zero_or_pos n with e | e
  · exact e
  · exact absurd (own_lt (i := 0) e hn) h
theorem own_n3 {x n : Int32} (h : (x &&& (3 : Int32)) = n) (h0 : ¬ (n = (0 : Int32))) (h1 : ¬ (n = (1 : Int32))) (h2 : ¬ (n = (2 : Int32))) : n = (3 : Int32) := by
  have q : (x &&& (3 : Int32)).toInt = x.toInt % (2 ^ 2 : Nat) := c_mask x 3 2 (by decide) (by decide)
  rw [h] at q
  have a0 := mt Int32.toInt_inj.mp h0; have a1 := mt Int32.toInt_inj.mp h1; have a2 := mt Int32.toInt_inj.mp h2
  have e0 : (0 : Int32).toInt = 0 := by decide
  have e1 : (1 : Int32).toInt = 1 := by decide
  have e2 : (2 : Int32).toInt = 2 := by decide
  have e3 : (3 : Int32).toInt = 3 := by decide
  apply Int32.toInt_inj.mp
  omega

theorem own_enc_lat {cs ks : List Int32} (hb : ∃ k, k < cs.length ∧ (255 : Int32) < cs.getD k 0) (hk : ∀ c ∈ ks, ¬ ((255 : Int32) < c)) : cs ≠ ks := fun e => by
  subst e
  obtain ⟨k, h1, h2⟩ := hb
  exact hk _ (own_getD_mem cs k 0 h1) h2
theorem own_eq_of {cs ks : List Int32} (hl : ks.length = cs.length) (h : ∀ j, j < ks.length → ks.getD j 0 = cs.getD j 0) : cs = ks := by
  apply List.ext_getElem? ; intro j
  by_cases hj : j < ks.length
  · have q := h j hj
    rw [List.getD_eq_getElem?_getD, List.getD_eq_getElem?_getD, List.getElem?_eq_getElem hj, List.getElem?_eq_getElem (hl ▸ hj)] at q
    rw [List.getElem?_eq_getElem hj, List.getElem?_eq_getElem (hl ▸ hj)]
    exact congrArg some q.symm
  · rw [List.getElem?_eq_none (by omega), List.getElem?_eq_none (by omega)]
theorem own_ne_of {cs ks : List Int32} {j : Nat} (h : ¬ (ks.getD j 0 = cs.getD j 0)) : cs ≠ ks := fun e => h (by rw [e])
theorem own_ne_len {cs ks : List Int32} (h : ¬ (ks.length = cs.length)) : cs ≠ ks := fun e => h (by rw [e])
theorem own_hasL {cl : Cell} : ∀ (vs : List Value) (k : Nat), (∀ i, i < vs.length → cl.slots[k + i]? = some (vs.getD i .null)) → HasL cl k vs
  | [], _, _ => trivial
  | v :: r, k, h => ⟨by have q := h 0 (Nat.zero_lt_succ _); exact q, own_hasL r (k + 1) fun i hi => by
      have q := h (i + 1) (Nat.succ_lt_succ hi)
      rw [show k + 1 + i = k + (i + 1) by omega]; exact q⟩
theorem own_listArv {s : State} {args : Array Value} {t : Term} {a : Addr} {cl : Cell} {ty : FieldType} {dv : Value} {n : Int32} {vs : List Value} (hf : Fit s) (ev : t.eval args s none [] s = some (.ref a)) (A : Arr s s.heap a cl ty) (hl : (Term.length t).eval args s none [] s = some (.int n)) (hn : ¬ n < 0) (hv : n.toNatClampNeg = vs.length) (h31 : vs.length < 2147483648)
    (he : ∀ i, i < vs.length → (Term.elem t (Term.int (Int32.ofNat i))).eval args s none [] s = some (vs.getD i .null)) : Arv s s.heap a cl.cls ty n vs dv := by
  obtain ⟨x, cl', e1, e2, -⟩ := Term.length_spec hl
  cases ev.symm.trans e1
  have hc : s.arrayAt? a = some cl := A.fin (Vm.Alike.refl _)
  cases e2.symm.trans hc
  have h31' := Jvm.Free.SBG.length_lt e1 hc hl
  have e : (Term.length t).eval args s none [] s = some (.int (Int32.ofNat cl.slots.size)) := by simp [Term.eval, e1, hc, h31']
  have q : Int32.ofNat cl.slots.size = n := by simpa using Option.some.inj (e.symm.trans hl)
  refine Arv.start hf A h31' q hn hv (own_hasL vs 0 fun i hi => ?_)
  have g := he i hi
  rw [elem_f (j := Int32.ofNat i) e1 (Term.int_eval _) hc (own_nn (by omega)), own_clamp (by omega)] at g
  rw [Nat.zero_add]; exact g
theorem own_eqI {args : Array Value} {s : State} {a b : Term} {n : Int32} (h : (Cond.eq a b).value args s none s [] = some true) (hb : b.eval args s none [] s = some (.int n)) : a.eval args s none [] s = some (.int n) := Cond.eq_int (by simp [Cond.holds, h]) hb
theorem own_eqR {args : Array Value} {s : State} {a b : Term} {y : Addr} (h : (Cond.eq a b).value args s none s [] = some true) (hb : b.eval args s none [] s = some (.ref y)) : a.eval args s none [] s = some (.ref y) := Cond.eq_refs (by simp [Cond.holds, h]) hb rfl
theorem own_neR {args : Array Value} {s : State} {a b : Term} {x y : Addr} (h : (Cond.not (Cond.eq a b)).value args s none s [] = some true) (ha : a.eval args s none [] s = some (.ref x)) (hb : b.eval args s none [] s = some (.ref y)) : x ≠ y := fun e => by
  subst e
  have q := not_v h
  simp [Cond.value, ha, hb] at q
theorem own_fldS {args : Array Value} {s : State} {t : Term} {C n d : String} {a : Addr} {v : Value} (ht : t.eval args s none [] s = some (.ref a)) (h : (Term.field t C n d).eval args s none [] s = some v) : Fld s s.heap a C n d v := Fld.start (by simpa [Term.eval, ht] using h)
theorem own_set_same {ks : List Int32} {i : Nat} (hi : i < ks.length) : ks.set i (ks.getD i 0) = ks := by
  apply List.ext_getElem? ; intro j
  by_cases e : i = j
  · subst e
    rw [List.getElem?_set_self hi, List.getD_eq_getElem?_getD, List.getElem?_eq_getElem hi]; rfl
  · rw [List.getElem?_set_ne e]
theorem own_set_ne {ks : List Int32} {i : Nat} {c : Int32} (hi : i < ks.length) (h : ¬ (c = ks.getD i 0)) : ks.set i c ≠ ks := fun e => h (by
  have q := congrArg (fun l => l.getD i 0) e
  simp only [List.getD_eq_getElem?_getD, List.getElem?_set_self hi] at q
  rw [List.getD_eq_getElem?_getD]; exact q)
theorem own_ixl {x n r : Int32} (hn : 0 < n.toInt) (hr : ((x &&& (2147483647 : Int32)) % n) = r) : 0 ≤ r.toInt ∧ r.toInt < n.toInt := by
  have q := c_and x 2147483647 (by decide)
  have c := (c_iremV (x &&& 2147483647) n).1 q.1 (by omega)
  rw [hr] at c
  exact ⟨c.1, c.2.1⟩
theorem own_ixb {n r : Int32} {k : Nat} (h : 0 ≤ r.toInt ∧ r.toInt < n.toInt) (hn : n.toInt = k) : ¬ (r < (0 : Int32)) ∧ r < n ∧ r.toNatClampNeg < k := by
  have hc : r.toNatClampNeg = r.toInt.toNat := rfl
  rw [Int32.lt_iff_toInt_lt, Int32.lt_iff_toInt_lt, hc]
  have e0 : (0 : Int32).toInt = 0 := by decide
  omega
theorem own_r3 {x r : Int32} (h : ((x &&& (2147483647 : Int32)) % (3 : Int32)) = r) : r = (0 : Int32) ∨ r = (1 : Int32) ∨ r = (2 : Int32) := by
  have q := own_ixl (n := 3) (by decide) h
  have e0 : (0 : Int32).toInt = 0 := by decide
  have e1 : (1 : Int32).toInt = 1 := by decide
  have e2 : (2 : Int32).toInt = 2 := by decide
  have e3 : (3 : Int32).toInt = 3 := by decide
  simp only [← Int32.toInt_inj]; omega
theorem own_r7 {x r : Int32} (h : ((x &&& (2147483647 : Int32)) % (7 : Int32)) = r) : r = (0 : Int32) ∨ r = (1 : Int32) ∨ r = (2 : Int32) ∨ r = (3 : Int32) ∨ r = (4 : Int32) ∨ r = (5 : Int32) ∨ r = (6 : Int32) := by
  have q := own_ixl (n := 7) (by decide) h
  have e0 : (0 : Int32).toInt = 0 := by decide
  have e1 : (1 : Int32).toInt = 1 := by decide
  have e2 : (2 : Int32).toInt = 2 := by decide
  have e3 : (3 : Int32).toInt = 3 := by decide
  have e4 : (4 : Int32).toInt = 4 := by decide
  have e5 : (5 : Int32).toInt = 5 := by decide
  have e6 : (6 : Int32).toInt = 6 := by decide
  have e7 : (7 : Int32).toInt = 7 := by decide
  simp only [← Int32.toInt_inj]; omega
theorem own_m3 {x r : Int32} (h : (x &&& (3 : Int32)) = r) : r = (0 : Int32) ∨ r = (1 : Int32) ∨ r = (2 : Int32) ∨ r = (3 : Int32) := by
  have q : (x &&& (3 : Int32)).toInt = x.toInt % (2 ^ 2 : Nat) := c_mask x 3 2 (by decide) (by decide)
  rw [h] at q
  have e0 : (0 : Int32).toInt = 0 := by decide
  have e1 : (1 : Int32).toInt = 1 := by decide
  have e2 : (2 : Int32).toInt = 2 := by decide
  have e3 : (3 : Int32).toInt = 3 := by decide
  simp only [← Int32.toInt_inj]; omega
theorem own_r4 {x r : Int32} (h : ((x &&& (2147483647 : Int32)) % (4 : Int32)) = r) : r = (0 : Int32) ∨ r = (1 : Int32) ∨ r = (2 : Int32) ∨ r = (3 : Int32) := by
  have q := own_ixl (n := 4) (by decide) h
  have e0 : (0 : Int32).toInt = 0 := by decide
  have e1 : (1 : Int32).toInt = 1 := by decide
  have e2 : (2 : Int32).toInt = 2 := by decide
  have e3 : (3 : Int32).toInt = 3 := by decide
  have e4 : (4 : Int32).toInt = 4 := by decide
  simp only [← Int32.toInt_inj]; omega

theorem d1_0 : decode prog_8_method_4_code 0 = .ok (.aload_n 0, 1) := by decide +kernel
theorem d1_1 : decode prog_8_method_4_code 1 = .ok (.getfield 32, 3) := by decide +kernel
theorem d1_4 : decode prog_8_method_4_code 4 = .ok (.areturn, 1) := by decide +kernel
theorem d2_0 : decode prog_8_method_5_code 0 = .ok (.invokestatic 36, 3) := by decide +kernel
theorem d2_3 : decode prog_8_method_5_code 3 = .ok (.astore_n 1, 1) := by decide +kernel
theorem d2_4 : decode prog_8_method_5_code 4 = .ok (.aload_n 1, 1) := by decide +kernel
theorem d2_5 : decode prog_8_method_5_code 5 = .ok (.arraylength, 1) := by decide +kernel
theorem d2_6 : decode prog_8_method_5_code 6 = .ok (.istore_n 2, 1) := by decide +kernel
theorem d2_7 : decode prog_8_method_5_code 7 = .ok (.iconst 0, 1) := by decide +kernel
theorem d2_8 : decode prog_8_method_5_code 8 = .ok (.istore_n 3, 1) := by decide +kernel
theorem d2_9 : decode prog_8_method_5_code 9 = .ok (.iload_n 3, 1) := by decide +kernel
theorem d2_10 : decode prog_8_method_5_code 10 = .ok (.iload_n 2, 1) := by decide +kernel
theorem d2_11 : decode prog_8_method_5_code 11 = .ok (.if_icmp .ge 29, 3) := by decide +kernel
theorem d2_14 : decode prog_8_method_5_code 14 = .ok (.aload_n 1, 1) := by decide +kernel
theorem d2_15 : decode prog_8_method_5_code 15 = .ok (.iload_n 3, 1) := by decide +kernel
theorem d2_16 : decode prog_8_method_5_code 16 = .ok (.aaload, 1) := by decide +kernel
theorem d2_17 : decode prog_8_method_5_code 17 = .ok (.astore 4, 2) := by decide +kernel
theorem d2_19 : decode prog_8_method_5_code 19 = .ok (.aload 4, 2) := by decide +kernel
theorem d2_21 : decode prog_8_method_5_code 21 = .ok (.getfield 32, 3) := by decide +kernel
theorem d2_24 : decode prog_8_method_5_code 24 = .ok (.aload_n 0, 1) := by decide +kernel
theorem d2_25 : decode prog_8_method_5_code 25 = .ok (.invokevirtual 40, 3) := by decide +kernel
theorem d2_28 : decode prog_8_method_5_code 28 = .ok (.ifCond .eq 6, 3) := by decide +kernel
theorem d2_31 : decode prog_8_method_5_code 31 = .ok (.aload 4, 2) := by decide +kernel
theorem d2_33 : decode prog_8_method_5_code 33 = .ok (.areturn, 1) := by decide +kernel
theorem d2_34 : decode prog_8_method_5_code 34 = .ok (.iinc 3 1, 3) := by decide +kernel
theorem d2_37 : decode prog_8_method_5_code 37 = .ok (.goto (-28), 3) := by decide +kernel
theorem d2_40 : decode prog_8_method_5_code 40 = .ok (.aconst_null, 1) := by decide +kernel
theorem d2_41 : decode prog_8_method_5_code 41 = .ok (.areturn, 1) := by decide +kernel
theorem d3_0 : decode prog_8_method_1_code 0 = .ok (.getstatic 13, 3) := by decide +kernel
theorem d3_3 : decode prog_8_method_1_code 3 = .ok (.invokevirtual 17, 3) := by decide +kernel
theorem d3_6 : decode prog_8_method_1_code 6 = .ok (.checkcast 18, 3) := by decide +kernel
theorem d3_9 : decode prog_8_method_1_code 9 = .ok (.areturn, 1) := by decide +kernel
theorem d4_0 : decode jdk_42_method_66_code 0 = .ok (.aload_n 0, 1) := by decide +kernel
theorem d4_1 : decode jdk_42_method_66_code 1 = .ok (.aload_n 1, 1) := by decide +kernel
theorem d4_2 : decode jdk_42_method_66_code 2 = .ok (.if_acmp .ne 5, 3) := by decide +kernel
theorem d4_5 : decode jdk_42_method_66_code 5 = .ok (.iconst 1, 1) := by decide +kernel
theorem d4_6 : decode jdk_42_method_66_code 6 = .ok (.ireturn, 1) := by decide +kernel
theorem d4_7 : decode jdk_42_method_66_code 7 = .ok (.aload_n 1, 1) := by decide +kernel
theorem d4_8 : decode jdk_42_method_66_code 8 = .ok (.instanceof 10, 3) := by decide +kernel
theorem d4_11 : decode jdk_42_method_66_code 11 = .ok (.ifCond .eq 43, 3) := by decide +kernel
theorem d4_14 : decode jdk_42_method_66_code 14 = .ok (.aload_n 1, 1) := by decide +kernel
theorem d4_15 : decode jdk_42_method_66_code 15 = .ok (.checkcast 10, 3) := by decide +kernel
theorem d4_18 : decode jdk_42_method_66_code 18 = .ok (.astore_n 2, 1) := by decide +kernel
theorem d4_19 : decode jdk_42_method_66_code 19 = .ok (.getstatic 38, 3) := by decide +kernel
theorem d4_22 : decode jdk_42_method_66_code 22 = .ok (.ifCond .eq 14, 3) := by decide +kernel
theorem d4_25 : decode jdk_42_method_66_code 25 = .ok (.aload_n 0, 1) := by decide +kernel
theorem d4_26 : decode jdk_42_method_66_code 26 = .ok (.getfield 15, 3) := by decide +kernel
theorem d4_29 : decode jdk_42_method_66_code 29 = .ok (.aload_n 2, 1) := by decide +kernel
theorem d4_30 : decode jdk_42_method_66_code 30 = .ok (.getfield 15, 3) := by decide +kernel
theorem d4_33 : decode jdk_42_method_66_code 33 = .ok (.if_icmp .ne 21, 3) := by decide +kernel
theorem d4_36 : decode jdk_42_method_66_code 36 = .ok (.aload_n 0, 1) := by decide +kernel
theorem d4_37 : decode jdk_42_method_66_code 37 = .ok (.getfield 9, 3) := by decide +kernel
theorem d4_40 : decode jdk_42_method_66_code 40 = .ok (.aload_n 2, 1) := by decide +kernel
theorem d4_41 : decode jdk_42_method_66_code 41 = .ok (.getfield 9, 3) := by decide +kernel
theorem d4_44 : decode jdk_42_method_66_code 44 = .ok (.invokestatic 541, 3) := by decide +kernel
theorem d4_47 : decode jdk_42_method_66_code 47 = .ok (.ifCond .eq 7, 3) := by decide +kernel
theorem d4_50 : decode jdk_42_method_66_code 50 = .ok (.iconst 1, 1) := by decide +kernel
theorem d4_51 : decode jdk_42_method_66_code 51 = .ok (.goto 4, 3) := by decide +kernel
theorem d4_54 : decode jdk_42_method_66_code 54 = .ok (.iconst 0, 1) := by decide +kernel
theorem d4_55 : decode jdk_42_method_66_code 55 = .ok (.ireturn, 1) := by decide +kernel
theorem d5_0 : decode method_5_code 0 = .ok (.iload_n 0, 1) := by decide +kernel
theorem d5_1 : decode method_5_code 1 = .ok (.ifCond .ne 49, 3) := by decide +kernel
theorem d5_4 : decode method_5_code 4 = .ok (.bipush 8, 2) := by decide +kernel
theorem d5_6 : decode method_5_code 6 = .ok (.newarray .char, 2) := by decide +kernel
theorem d5_8 : decode method_5_code 8 = .ok (.dup, 1) := by decide +kernel
theorem d5_9 : decode method_5_code 9 = .ok (.iconst 0, 1) := by decide +kernel
theorem d5_10 : decode method_5_code 10 = .ok (.iload_n 1, 1) := by decide +kernel
theorem d5_11 : decode method_5_code 11 = .ok (.castore, 1) := by decide +kernel
theorem d5_12 : decode method_5_code 12 = .ok (.dup, 1) := by decide +kernel
theorem d5_13 : decode method_5_code 13 = .ok (.iconst 1, 1) := by decide +kernel
theorem d5_14 : decode method_5_code 14 = .ok (.bipush 99, 2) := by decide +kernel
theorem d5_16 : decode method_5_code 16 = .ok (.castore, 1) := by decide +kernel
theorem d5_17 : decode method_5_code 17 = .ok (.dup, 1) := by decide +kernel
theorem d5_18 : decode method_5_code 18 = .ok (.iconst 2, 1) := by decide +kernel
theorem d5_19 : decode method_5_code 19 = .ok (.bipush 111, 2) := by decide +kernel
theorem d5_21 : decode method_5_code 21 = .ok (.castore, 1) := by decide +kernel
theorem d5_22 : decode method_5_code 22 = .ok (.dup, 1) := by decide +kernel
theorem d5_23 : decode method_5_code 23 = .ok (.iconst 3, 1) := by decide +kernel
theorem d5_24 : decode method_5_code 24 = .ok (.bipush 110, 2) := by decide +kernel
theorem d5_26 : decode method_5_code 26 = .ok (.castore, 1) := by decide +kernel
theorem d5_27 : decode method_5_code 27 = .ok (.dup, 1) := by decide +kernel
theorem d5_28 : decode method_5_code 28 = .ok (.iconst 4, 1) := by decide +kernel
theorem d5_29 : decode method_5_code 29 = .ok (.bipush 110, 2) := by decide +kernel
theorem d5_31 : decode method_5_code 31 = .ok (.castore, 1) := by decide +kernel
theorem d5_32 : decode method_5_code 32 = .ok (.dup, 1) := by decide +kernel
theorem d5_33 : decode method_5_code 33 = .ok (.iconst 5, 1) := by decide +kernel
theorem d5_34 : decode method_5_code 34 = .ok (.bipush 101, 2) := by decide +kernel
theorem d5_36 : decode method_5_code 36 = .ok (.castore, 1) := by decide +kernel
theorem d5_37 : decode method_5_code 37 = .ok (.dup, 1) := by decide +kernel
theorem d5_38 : decode method_5_code 38 = .ok (.bipush 6, 2) := by decide +kernel
theorem d5_40 : decode method_5_code 40 = .ok (.bipush 99, 2) := by decide +kernel
theorem d5_42 : decode method_5_code 42 = .ok (.castore, 1) := by decide +kernel
theorem d5_43 : decode method_5_code 43 = .ok (.dup, 1) := by decide +kernel
theorem d5_44 : decode method_5_code 44 = .ok (.bipush 7, 2) := by decide +kernel
theorem d5_46 : decode method_5_code 46 = .ok (.bipush 116, 2) := by decide +kernel
theorem d5_48 : decode method_5_code 48 = .ok (.castore, 1) := by decide +kernel
theorem d5_49 : decode method_5_code 49 = .ok (.areturn, 1) := by decide +kernel
theorem d5_50 : decode method_5_code 50 = .ok (.iload_n 0, 1) := by decide +kernel
theorem d5_51 : decode method_5_code 51 = .ok (.iconst 1, 1) := by decide +kernel
theorem d5_52 : decode method_5_code 52 = .ok (.if_icmp .ne 43, 3) := by decide +kernel
theorem d5_55 : decode method_5_code 55 = .ok (.bipush 7, 2) := by decide +kernel
theorem d5_57 : decode method_5_code 57 = .ok (.newarray .char, 2) := by decide +kernel
theorem d5_59 : decode method_5_code 59 = .ok (.dup, 1) := by decide +kernel
theorem d5_60 : decode method_5_code 60 = .ok (.iconst 0, 1) := by decide +kernel
theorem d5_61 : decode method_5_code 61 = .ok (.iload_n 1, 1) := by decide +kernel
theorem d5_62 : decode method_5_code 62 = .ok (.castore, 1) := by decide +kernel
theorem d5_63 : decode method_5_code 63 = .ok (.dup, 1) := by decide +kernel
theorem d5_64 : decode method_5_code 64 = .ok (.iconst 1, 1) := by decide +kernel
theorem d5_65 : decode method_5_code 65 = .ok (.bipush 102, 2) := by decide +kernel
theorem d5_67 : decode method_5_code 67 = .ok (.castore, 1) := by decide +kernel
theorem d5_68 : decode method_5_code 68 = .ok (.dup, 1) := by decide +kernel
theorem d5_69 : decode method_5_code 69 = .ok (.iconst 2, 1) := by decide +kernel
theorem d5_70 : decode method_5_code 70 = .ok (.bipush 97, 2) := by decide +kernel
theorem d5_72 : decode method_5_code 72 = .ok (.castore, 1) := by decide +kernel
theorem d5_73 : decode method_5_code 73 = .ok (.dup, 1) := by decide +kernel
theorem d5_74 : decode method_5_code 74 = .ok (.iconst 3, 1) := by decide +kernel
theorem d5_75 : decode method_5_code 75 = .ok (.bipush 105, 2) := by decide +kernel
theorem d5_77 : decode method_5_code 77 = .ok (.castore, 1) := by decide +kernel
theorem d5_78 : decode method_5_code 78 = .ok (.dup, 1) := by decide +kernel
theorem d5_79 : decode method_5_code 79 = .ok (.iconst 4, 1) := by decide +kernel
theorem d5_80 : decode method_5_code 80 = .ok (.bipush 108, 2) := by decide +kernel
theorem d5_82 : decode method_5_code 82 = .ok (.castore, 1) := by decide +kernel
theorem d5_83 : decode method_5_code 83 = .ok (.dup, 1) := by decide +kernel
theorem d5_84 : decode method_5_code 84 = .ok (.iconst 5, 1) := by decide +kernel
theorem d5_85 : decode method_5_code 85 = .ok (.bipush 101, 2) := by decide +kernel
theorem d5_87 : decode method_5_code 87 = .ok (.castore, 1) := by decide +kernel
theorem d5_88 : decode method_5_code 88 = .ok (.dup, 1) := by decide +kernel
theorem d5_89 : decode method_5_code 89 = .ok (.bipush 6, 2) := by decide +kernel
theorem d5_91 : decode method_5_code 91 = .ok (.bipush 100, 2) := by decide +kernel
theorem d5_93 : decode method_5_code 93 = .ok (.castore, 1) := by decide +kernel
theorem d5_94 : decode method_5_code 94 = .ok (.areturn, 1) := by decide +kernel
theorem d5_95 : decode method_5_code 95 = .ok (.bipush 14, 2) := by decide +kernel
theorem d5_97 : decode method_5_code 97 = .ok (.newarray .char, 2) := by decide +kernel
theorem d5_99 : decode method_5_code 99 = .ok (.dup, 1) := by decide +kernel
theorem d5_100 : decode method_5_code 100 = .ok (.iconst 0, 1) := by decide +kernel
theorem d5_101 : decode method_5_code 101 = .ok (.iload_n 1, 1) := by decide +kernel
theorem d5_102 : decode method_5_code 102 = .ok (.castore, 1) := by decide +kernel
theorem d5_103 : decode method_5_code 103 = .ok (.dup, 1) := by decide +kernel
theorem d5_104 : decode method_5_code 104 = .ok (.iconst 1, 1) := by decide +kernel
theorem d5_105 : decode method_5_code 105 = .ok (.bipush 112, 2) := by decide +kernel
theorem d5_107 : decode method_5_code 107 = .ok (.castore, 1) := by decide +kernel
theorem d5_108 : decode method_5_code 108 = .ok (.dup, 1) := by decide +kernel
theorem d5_109 : decode method_5_code 109 = .ok (.iconst 2, 1) := by decide +kernel
theorem d5_110 : decode method_5_code 110 = .ok (.bipush 101, 2) := by decide +kernel
theorem d5_112 : decode method_5_code 112 = .ok (.castore, 1) := by decide +kernel
theorem d5_113 : decode method_5_code 113 = .ok (.dup, 1) := by decide +kernel
theorem d5_114 : decode method_5_code 114 = .ok (.iconst 3, 1) := by decide +kernel
theorem d5_115 : decode method_5_code 115 = .ok (.bipush 110, 2) := by decide +kernel
theorem d5_117 : decode method_5_code 117 = .ok (.castore, 1) := by decide +kernel
theorem d5_118 : decode method_5_code 118 = .ok (.dup, 1) := by decide +kernel
theorem d5_119 : decode method_5_code 119 = .ok (.iconst 4, 1) := by decide +kernel
theorem d5_120 : decode method_5_code 120 = .ok (.bipush 100, 2) := by decide +kernel
theorem d5_122 : decode method_5_code 122 = .ok (.castore, 1) := by decide +kernel
theorem d5_123 : decode method_5_code 123 = .ok (.dup, 1) := by decide +kernel
theorem d5_124 : decode method_5_code 124 = .ok (.iconst 5, 1) := by decide +kernel
theorem d5_125 : decode method_5_code 125 = .ok (.bipush 105, 2) := by decide +kernel
theorem d5_127 : decode method_5_code 127 = .ok (.castore, 1) := by decide +kernel
theorem d5_128 : decode method_5_code 128 = .ok (.dup, 1) := by decide +kernel
theorem d5_129 : decode method_5_code 129 = .ok (.bipush 6, 2) := by decide +kernel
theorem d5_131 : decode method_5_code 131 = .ok (.bipush 110, 2) := by decide +kernel
theorem d5_133 : decode method_5_code 133 = .ok (.castore, 1) := by decide +kernel
theorem d5_134 : decode method_5_code 134 = .ok (.dup, 1) := by decide +kernel
theorem d5_135 : decode method_5_code 135 = .ok (.bipush 7, 2) := by decide +kernel
theorem d5_137 : decode method_5_code 137 = .ok (.bipush 103, 2) := by decide +kernel
theorem d5_139 : decode method_5_code 139 = .ok (.castore, 1) := by decide +kernel
theorem d5_140 : decode method_5_code 140 = .ok (.dup, 1) := by decide +kernel
theorem d5_141 : decode method_5_code 141 = .ok (.bipush 8, 2) := by decide +kernel
theorem d5_143 : decode method_5_code 143 = .ok (.bipush 67, 2) := by decide +kernel
theorem d5_145 : decode method_5_code 145 = .ok (.castore, 1) := by decide +kernel
theorem d5_146 : decode method_5_code 146 = .ok (.dup, 1) := by decide +kernel
theorem d5_147 : decode method_5_code 147 = .ok (.bipush 9, 2) := by decide +kernel
theorem d5_149 : decode method_5_code 149 = .ok (.bipush 114, 2) := by decide +kernel
theorem d5_151 : decode method_5_code 151 = .ok (.castore, 1) := by decide +kernel
theorem d5_152 : decode method_5_code 152 = .ok (.dup, 1) := by decide +kernel
theorem d5_153 : decode method_5_code 153 = .ok (.bipush 10, 2) := by decide +kernel
theorem d5_155 : decode method_5_code 155 = .ok (.bipush 101, 2) := by decide +kernel
theorem d5_157 : decode method_5_code 157 = .ok (.castore, 1) := by decide +kernel
theorem d5_158 : decode method_5_code 158 = .ok (.dup, 1) := by decide +kernel
theorem d5_159 : decode method_5_code 159 = .ok (.bipush 11, 2) := by decide +kernel
theorem d5_161 : decode method_5_code 161 = .ok (.bipush 97, 2) := by decide +kernel
theorem d5_163 : decode method_5_code 163 = .ok (.castore, 1) := by decide +kernel
theorem d5_164 : decode method_5_code 164 = .ok (.dup, 1) := by decide +kernel
theorem d5_165 : decode method_5_code 165 = .ok (.bipush 12, 2) := by decide +kernel
theorem d5_167 : decode method_5_code 167 = .ok (.bipush 116, 2) := by decide +kernel
theorem d5_169 : decode method_5_code 169 = .ok (.castore, 1) := by decide +kernel
theorem d5_170 : decode method_5_code 170 = .ok (.dup, 1) := by decide +kernel
theorem d5_171 : decode method_5_code 171 = .ok (.bipush 13, 2) := by decide +kernel
theorem d5_173 : decode method_5_code 173 = .ok (.bipush 101, 2) := by decide +kernel
theorem d5_175 : decode method_5_code 175 = .ok (.castore, 1) := by decide +kernel
theorem d5_176 : decode method_5_code 176 = .ok (.areturn, 1) := by decide +kernel
theorem d6_0 : decode jdk_42_method_3_code 0 = .ok (.aload_n 0, 1) := by decide +kernel
theorem d6_1 : decode jdk_42_method_3_code 1 = .ok (.aload_n 1, 1) := by decide +kernel
theorem d6_2 : decode jdk_42_method_3_code 2 = .ok (.iconst 0, 1) := by decide +kernel
theorem d6_3 : decode jdk_42_method_3_code 3 = .ok (.aload_n 1, 1) := by decide +kernel
theorem d6_4 : decode jdk_42_method_3_code 4 = .ok (.arraylength, 1) := by decide +kernel
theorem d6_5 : decode jdk_42_method_3_code 5 = .ok (.aconst_null, 1) := by decide +kernel
theorem d6_6 : decode jdk_42_method_3_code 6 = .ok (.invokespecial 27, 3) := by decide +kernel
theorem d6_9 : decode jdk_42_method_3_code 9 = .ok (.return_, 1) := by decide +kernel
theorem d7_0 : decode jdk_42_method_149_code 0 = .ok (.aload_n 0, 1) := by decide +kernel
theorem d7_1 : decode jdk_42_method_149_code 1 = .ok (.invokespecial 1, 3) := by decide +kernel
theorem d7_4 : decode jdk_42_method_149_code 4 = .ok (.iload_n 3, 1) := by decide +kernel
theorem d7_5 : decode jdk_42_method_149_code 5 = .ok (.ifCond .ne 22, 3) := by decide +kernel
theorem d7_8 : decode jdk_42_method_149_code 8 = .ok (.aload_n 0, 1) := by decide +kernel
theorem d7_9 : decode jdk_42_method_149_code 9 = .ok (.ldc 7, 2) := by decide +kernel
theorem d7_11 : decode jdk_42_method_149_code 11 = .ok (.getfield 9, 3) := by decide +kernel
theorem d7_14 : decode jdk_42_method_149_code 14 = .ok (.putfield 9, 3) := by decide +kernel
theorem d7_17 : decode jdk_42_method_149_code 17 = .ok (.aload_n 0, 1) := by decide +kernel
theorem d7_18 : decode jdk_42_method_149_code 18 = .ok (.ldc 7, 2) := by decide +kernel
theorem d7_20 : decode jdk_42_method_149_code 20 = .ok (.getfield 15, 3) := by decide +kernel
theorem d7_23 : decode jdk_42_method_149_code 23 = .ok (.putfield 15, 3) := by decide +kernel
theorem d7_26 : decode jdk_42_method_149_code 26 = .ok (.return_, 1) := by decide +kernel
theorem d7_27 : decode jdk_42_method_149_code 27 = .ok (.getstatic 38, 3) := by decide +kernel
theorem d7_30 : decode jdk_42_method_149_code 30 = .ok (.ifCond .eq 28, 3) := by decide +kernel
theorem d7_33 : decode jdk_42_method_149_code 33 = .ok (.aload_n 1, 1) := by decide +kernel
theorem d7_34 : decode jdk_42_method_149_code 34 = .ok (.iload_n 2, 1) := by decide +kernel
theorem d7_35 : decode jdk_42_method_149_code 35 = .ok (.iload_n 3, 1) := by decide +kernel
theorem d7_36 : decode jdk_42_method_149_code 36 = .ok (.invokestatic 177, 3) := by decide +kernel
theorem d7_39 : decode jdk_42_method_149_code 39 = .ok (.astore 5, 2) := by decide +kernel
theorem d7_41 : decode jdk_42_method_149_code 41 = .ok (.aload_n 0, 1) := by decide +kernel
theorem d7_42 : decode jdk_42_method_149_code 42 = .ok (.aload 5, 2) := by decide +kernel
theorem d7_44 : decode jdk_42_method_149_code 44 = .ok (.iload_n 3, 1) := by decide +kernel
theorem d7_45 : decode jdk_42_method_149_code 45 = .ok (.invokestatic 47, 3) := by decide +kernel
theorem d7_48 : decode jdk_42_method_149_code 48 = .ok (.putfield 15, 3) := by decide +kernel
theorem d7_51 : decode jdk_42_method_149_code 51 = .ok (.aload_n 0, 1) := by decide +kernel
theorem d7_52 : decode jdk_42_method_149_code 52 = .ok (.aload 5, 2) := by decide +kernel
theorem d7_54 : decode jdk_42_method_149_code 54 = .ok (.putfield 9, 3) := by decide +kernel
theorem d7_57 : decode jdk_42_method_149_code 57 = .ok (.return_, 1) := by decide +kernel
theorem d9_0 : decode jdk_52_method_16_code 0 = .ok (.iload_n 2, 1) := by decide +kernel
theorem d9_1 : decode jdk_52_method_16_code 1 = .ok (.newarray .byte, 2) := by decide +kernel
theorem d9_3 : decode jdk_52_method_16_code 3 = .ok (.astore_n 3, 1) := by decide +kernel
theorem d9_4 : decode jdk_52_method_16_code 4 = .ok (.aload_n 0, 1) := by decide +kernel
theorem d9_5 : decode jdk_52_method_16_code 5 = .ok (.iload_n 1, 1) := by decide +kernel
theorem d9_6 : decode jdk_52_method_16_code 6 = .ok (.aload_n 3, 1) := by decide +kernel
theorem d9_7 : decode jdk_52_method_16_code 7 = .ok (.iconst 0, 1) := by decide +kernel
theorem d9_8 : decode jdk_52_method_16_code 8 = .ok (.iload_n 2, 1) := by decide +kernel
theorem d9_9 : decode jdk_52_method_16_code 9 = .ok (.invokestatic 115, 3) := by decide +kernel
theorem d9_12 : decode jdk_52_method_16_code 12 = .ok (.istore 4, 2) := by decide +kernel
theorem d9_14 : decode jdk_52_method_16_code 14 = .ok (.iload 4, 2) := by decide +kernel
theorem d9_16 : decode jdk_52_method_16_code 16 = .ok (.iload_n 2, 1) := by decide +kernel
theorem d9_17 : decode jdk_52_method_16_code 17 = .ok (.if_icmp .eq 40, 3) := by decide +kernel
theorem d9_20 : decode jdk_52_method_16_code 20 = .ok (.aload_n 0, 1) := by decide +kernel
theorem d9_21 : decode jdk_52_method_16_code 21 = .ok (.iload_n 1, 1) := by decide +kernel
theorem d9_22 : decode jdk_52_method_16_code 22 = .ok (.iload_n 2, 1) := by decide +kernel
theorem d9_23 : decode jdk_52_method_16_code 23 = .ok (.invokestatic 119, 3) := by decide +kernel
theorem d9_26 : decode jdk_52_method_16_code 26 = .ok (.astore 5, 2) := by decide +kernel
theorem d9_28 : decode jdk_52_method_16_code 28 = .ok (.aload 5, 2) := by decide +kernel
theorem d9_30 : decode jdk_52_method_16_code 30 = .ok (.iload 4, 2) := by decide +kernel
theorem d9_32 : decode jdk_52_method_16_code 32 = .ok (.invokestatic 71, 3) := by decide +kernel
theorem d9_35 : decode jdk_52_method_16_code 35 = .ok (.sipush 255, 3) := by decide +kernel
theorem d9_38 : decode jdk_52_method_16_code 38 = .ok (.if_icmp .gt 16, 3) := by decide +kernel
theorem d9_54 : decode jdk_52_method_16_code 54 = .ok (.aload 5, 2) := by decide +kernel
theorem d9_56 : decode jdk_52_method_16_code 56 = .ok (.areturn, 1) := by decide +kernel
theorem d9_57 : decode jdk_52_method_16_code 57 = .ok (.aload_n 3, 1) := by decide +kernel
theorem d9_58 : decode jdk_52_method_16_code 58 = .ok (.areturn, 1) := by decide +kernel
theorem d10_0 : decode jdk_52_method_21_code 0 = .ok (.iconst 0, 1) := by decide +kernel
theorem d10_1 : decode jdk_52_method_21_code 1 = .ok (.istore 5, 2) := by decide +kernel
theorem d10_3 : decode jdk_52_method_21_code 3 = .ok (.iload 5, 2) := by decide +kernel
theorem d10_5 : decode jdk_52_method_21_code 5 = .ok (.iload 4, 2) := by decide +kernel
theorem d10_7 : decode jdk_52_method_21_code 7 = .ok (.if_icmp .ge 37, 3) := by decide +kernel
theorem d10_10 : decode jdk_52_method_21_code 10 = .ok (.aload_n 0, 1) := by decide +kernel
theorem d10_11 : decode jdk_52_method_21_code 11 = .ok (.iload_n 1, 1) := by decide +kernel
theorem d10_12 : decode jdk_52_method_21_code 12 = .ok (.caload, 1) := by decide +kernel
theorem d10_13 : decode jdk_52_method_21_code 13 = .ok (.istore 6, 2) := by decide +kernel
theorem d10_15 : decode jdk_52_method_21_code 15 = .ok (.iload 6, 2) := by decide +kernel
theorem d10_17 : decode jdk_52_method_21_code 17 = .ok (.sipush 255, 3) := by decide +kernel
theorem d10_20 : decode jdk_52_method_21_code 20 = .ok (.if_icmp .le 6, 3) := by decide +kernel
theorem d10_23 : decode jdk_52_method_21_code 23 = .ok (.iload 5, 2) := by decide +kernel
theorem d10_25 : decode jdk_52_method_21_code 25 = .ok (.ireturn, 1) := by decide +kernel
theorem d10_26 : decode jdk_52_method_21_code 26 = .ok (.aload_n 2, 1) := by decide +kernel
theorem d10_27 : decode jdk_52_method_21_code 27 = .ok (.iload_n 3, 1) := by decide +kernel
theorem d10_28 : decode jdk_52_method_21_code 28 = .ok (.iload 6, 2) := by decide +kernel
theorem d10_30 : decode jdk_52_method_21_code 30 = .ok (.i2b, 1) := by decide +kernel
theorem d10_31 : decode jdk_52_method_21_code 31 = .ok (.bastore, 1) := by decide +kernel
theorem d10_32 : decode jdk_52_method_21_code 32 = .ok (.iinc 1 1, 3) := by decide +kernel
theorem d10_35 : decode jdk_52_method_21_code 35 = .ok (.iinc 3 1, 3) := by decide +kernel
theorem d10_38 : decode jdk_52_method_21_code 38 = .ok (.iinc 5 1, 3) := by decide +kernel
theorem d10_41 : decode jdk_52_method_21_code 41 = .ok (.goto (-38), 3) := by decide +kernel
theorem d10_44 : decode jdk_52_method_21_code 44 = .ok (.iload 4, 2) := by decide +kernel
theorem d10_46 : decode jdk_52_method_21_code 46 = .ok (.ireturn, 1) := by decide +kernel
theorem d11_0 : decode jdk_52_method_15_code 0 = .ok (.iload_n 1, 1) := by decide +kernel
theorem d11_1 : decode jdk_52_method_15_code 1 = .ok (.aload_n 0, 1) := by decide +kernel
theorem d11_2 : decode jdk_52_method_15_code 2 = .ok (.arraylength, 1) := by decide +kernel
theorem d11_3 : decode jdk_52_method_15_code 3 = .ok (.isub, 1) := by decide +kernel
theorem d11_4 : decode jdk_52_method_15_code 4 = .ok (.bipush 31, 2) := by decide +kernel
theorem d11_6 : decode jdk_52_method_15_code 6 = .ok (.iushr, 1) := by decide +kernel
theorem d11_7 : decode jdk_52_method_15_code 7 = .ok (.i2b, 1) := by decide +kernel
theorem d11_8 : decode jdk_52_method_15_code 8 = .ok (.ireturn, 1) := by decide +kernel
theorem d12_0 : decode jdk_43_method_13_code 0 = .ok (.aload_n 0, 1) := by decide +kernel
theorem d12_1 : decode jdk_43_method_13_code 1 = .ok (.arraylength, 1) := by decide +kernel
theorem d12_2 : decode jdk_43_method_13_code 2 = .ok (.aload_n 1, 1) := by decide +kernel
theorem d12_3 : decode jdk_43_method_13_code 3 = .ok (.arraylength, 1) := by decide +kernel
theorem d12_4 : decode jdk_43_method_13_code 4 = .ok (.if_icmp .ne 30, 3) := by decide +kernel
theorem d12_7 : decode jdk_43_method_13_code 7 = .ok (.iconst 0, 1) := by decide +kernel
theorem d12_8 : decode jdk_43_method_13_code 8 = .ok (.istore_n 2, 1) := by decide +kernel
theorem d12_9 : decode jdk_43_method_13_code 9 = .ok (.iload_n 2, 1) := by decide +kernel
theorem d12_10 : decode jdk_43_method_13_code 10 = .ok (.aload_n 0, 1) := by decide +kernel
theorem d12_11 : decode jdk_43_method_13_code 11 = .ok (.arraylength, 1) := by decide +kernel
theorem d12_12 : decode jdk_43_method_13_code 12 = .ok (.if_icmp .ge 20, 3) := by decide +kernel
theorem d12_15 : decode jdk_43_method_13_code 15 = .ok (.aload_n 0, 1) := by decide +kernel
theorem d12_16 : decode jdk_43_method_13_code 16 = .ok (.iload_n 2, 1) := by decide +kernel
theorem d12_17 : decode jdk_43_method_13_code 17 = .ok (.baload, 1) := by decide +kernel
theorem d12_18 : decode jdk_43_method_13_code 18 = .ok (.aload_n 1, 1) := by decide +kernel
theorem d12_19 : decode jdk_43_method_13_code 19 = .ok (.iload_n 2, 1) := by decide +kernel
theorem d12_20 : decode jdk_43_method_13_code 20 = .ok (.baload, 1) := by decide +kernel
theorem d12_21 : decode jdk_43_method_13_code 21 = .ok (.if_icmp .eq 5, 3) := by decide +kernel
theorem d12_24 : decode jdk_43_method_13_code 24 = .ok (.iconst 0, 1) := by decide +kernel
theorem d12_25 : decode jdk_43_method_13_code 25 = .ok (.ireturn, 1) := by decide +kernel
theorem d12_26 : decode jdk_43_method_13_code 26 = .ok (.iinc 2 1, 3) := by decide +kernel
theorem d12_29 : decode jdk_43_method_13_code 29 = .ok (.goto (-20), 3) := by decide +kernel
theorem d12_32 : decode jdk_43_method_13_code 32 = .ok (.iconst 1, 1) := by decide +kernel
theorem d12_33 : decode jdk_43_method_13_code 33 = .ok (.ireturn, 1) := by decide +kernel
theorem d12_34 : decode jdk_43_method_13_code 34 = .ok (.iconst 0, 1) := by decide +kernel
theorem d12_35 : decode jdk_43_method_13_code 35 = .ok (.ireturn, 1) := by decide +kernel
theorem d13_0 : decode method_3_code 0 = .ok (.iload_n 0, 1) := by decide +kernel
theorem d13_1 : decode method_3_code 1 = .ok (.ifCond .ne 44, 3) := by decide +kernel
theorem d13_4 : decode method_3_code 4 = .ok (.bipush 7, 2) := by decide +kernel
theorem d13_6 : decode method_3_code 6 = .ok (.newarray .char, 2) := by decide +kernel
theorem d13_8 : decode method_3_code 8 = .ok (.dup, 1) := by decide +kernel
theorem d13_9 : decode method_3_code 9 = .ok (.iconst 0, 1) := by decide +kernel
theorem d13_10 : decode method_3_code 10 = .ok (.bipush 99, 2) := by decide +kernel
theorem d13_12 : decode method_3_code 12 = .ok (.castore, 1) := by decide +kernel
theorem d13_13 : decode method_3_code 13 = .ok (.dup, 1) := by decide +kernel
theorem d13_14 : decode method_3_code 14 = .ok (.iconst 1, 1) := by decide +kernel
theorem d13_15 : decode method_3_code 15 = .ok (.bipush 111, 2) := by decide +kernel
theorem d13_17 : decode method_3_code 17 = .ok (.castore, 1) := by decide +kernel
theorem d13_18 : decode method_3_code 18 = .ok (.dup, 1) := by decide +kernel
theorem d13_19 : decode method_3_code 19 = .ok (.iconst 2, 1) := by decide +kernel
theorem d13_20 : decode method_3_code 20 = .ok (.bipush 110, 2) := by decide +kernel
theorem d13_22 : decode method_3_code 22 = .ok (.castore, 1) := by decide +kernel
theorem d13_23 : decode method_3_code 23 = .ok (.dup, 1) := by decide +kernel
theorem d13_24 : decode method_3_code 24 = .ok (.iconst 3, 1) := by decide +kernel
theorem d13_25 : decode method_3_code 25 = .ok (.bipush 110, 2) := by decide +kernel
theorem d13_27 : decode method_3_code 27 = .ok (.castore, 1) := by decide +kernel
theorem d13_28 : decode method_3_code 28 = .ok (.dup, 1) := by decide +kernel
theorem d13_29 : decode method_3_code 29 = .ok (.iconst 4, 1) := by decide +kernel
theorem d13_30 : decode method_3_code 30 = .ok (.bipush 101, 2) := by decide +kernel
theorem d13_32 : decode method_3_code 32 = .ok (.castore, 1) := by decide +kernel
theorem d13_33 : decode method_3_code 33 = .ok (.dup, 1) := by decide +kernel
theorem d13_34 : decode method_3_code 34 = .ok (.iconst 5, 1) := by decide +kernel
theorem d13_35 : decode method_3_code 35 = .ok (.bipush 99, 2) := by decide +kernel
theorem d13_37 : decode method_3_code 37 = .ok (.castore, 1) := by decide +kernel
theorem d13_38 : decode method_3_code 38 = .ok (.dup, 1) := by decide +kernel
theorem d13_39 : decode method_3_code 39 = .ok (.bipush 6, 2) := by decide +kernel
theorem d13_41 : decode method_3_code 41 = .ok (.bipush 116, 2) := by decide +kernel
theorem d13_43 : decode method_3_code 43 = .ok (.castore, 1) := by decide +kernel
theorem d13_44 : decode method_3_code 44 = .ok (.areturn, 1) := by decide +kernel
theorem d13_45 : decode method_3_code 45 = .ok (.iload_n 0, 1) := by decide +kernel
theorem d13_46 : decode method_3_code 46 = .ok (.iconst 1, 1) := by decide +kernel
theorem d13_47 : decode method_3_code 47 = .ok (.if_icmp .ne 38, 3) := by decide +kernel
theorem d13_50 : decode method_3_code 50 = .ok (.bipush 6, 2) := by decide +kernel
theorem d13_52 : decode method_3_code 52 = .ok (.newarray .char, 2) := by decide +kernel
theorem d13_54 : decode method_3_code 54 = .ok (.dup, 1) := by decide +kernel
theorem d13_55 : decode method_3_code 55 = .ok (.iconst 0, 1) := by decide +kernel
theorem d13_56 : decode method_3_code 56 = .ok (.bipush 102, 2) := by decide +kernel
theorem d13_58 : decode method_3_code 58 = .ok (.castore, 1) := by decide +kernel
theorem d13_59 : decode method_3_code 59 = .ok (.dup, 1) := by decide +kernel
theorem d13_60 : decode method_3_code 60 = .ok (.iconst 1, 1) := by decide +kernel
theorem d13_61 : decode method_3_code 61 = .ok (.bipush 97, 2) := by decide +kernel
theorem d13_63 : decode method_3_code 63 = .ok (.castore, 1) := by decide +kernel
theorem d13_64 : decode method_3_code 64 = .ok (.dup, 1) := by decide +kernel
theorem d13_65 : decode method_3_code 65 = .ok (.iconst 2, 1) := by decide +kernel
theorem d13_66 : decode method_3_code 66 = .ok (.bipush 105, 2) := by decide +kernel
theorem d13_68 : decode method_3_code 68 = .ok (.castore, 1) := by decide +kernel
theorem d13_69 : decode method_3_code 69 = .ok (.dup, 1) := by decide +kernel
theorem d13_70 : decode method_3_code 70 = .ok (.iconst 3, 1) := by decide +kernel
theorem d13_71 : decode method_3_code 71 = .ok (.bipush 108, 2) := by decide +kernel
theorem d13_73 : decode method_3_code 73 = .ok (.castore, 1) := by decide +kernel
theorem d13_74 : decode method_3_code 74 = .ok (.dup, 1) := by decide +kernel
theorem d13_75 : decode method_3_code 75 = .ok (.iconst 4, 1) := by decide +kernel
theorem d13_76 : decode method_3_code 76 = .ok (.bipush 101, 2) := by decide +kernel
theorem d13_78 : decode method_3_code 78 = .ok (.castore, 1) := by decide +kernel
theorem d13_79 : decode method_3_code 79 = .ok (.dup, 1) := by decide +kernel
theorem d13_80 : decode method_3_code 80 = .ok (.iconst 5, 1) := by decide +kernel
theorem d13_81 : decode method_3_code 81 = .ok (.bipush 100, 2) := by decide +kernel
theorem d13_83 : decode method_3_code 83 = .ok (.castore, 1) := by decide +kernel
theorem d13_84 : decode method_3_code 84 = .ok (.areturn, 1) := by decide +kernel
theorem d13_85 : decode method_3_code 85 = .ok (.bipush 13, 2) := by decide +kernel
theorem d13_87 : decode method_3_code 87 = .ok (.newarray .char, 2) := by decide +kernel
theorem d13_89 : decode method_3_code 89 = .ok (.dup, 1) := by decide +kernel
theorem d13_90 : decode method_3_code 90 = .ok (.iconst 0, 1) := by decide +kernel
theorem d13_91 : decode method_3_code 91 = .ok (.bipush 112, 2) := by decide +kernel
theorem d13_93 : decode method_3_code 93 = .ok (.castore, 1) := by decide +kernel
theorem d13_94 : decode method_3_code 94 = .ok (.dup, 1) := by decide +kernel
theorem d13_95 : decode method_3_code 95 = .ok (.iconst 1, 1) := by decide +kernel
theorem d13_96 : decode method_3_code 96 = .ok (.bipush 101, 2) := by decide +kernel
theorem d13_98 : decode method_3_code 98 = .ok (.castore, 1) := by decide +kernel
theorem d13_99 : decode method_3_code 99 = .ok (.dup, 1) := by decide +kernel
theorem d13_100 : decode method_3_code 100 = .ok (.iconst 2, 1) := by decide +kernel
theorem d13_101 : decode method_3_code 101 = .ok (.bipush 110, 2) := by decide +kernel
theorem d13_103 : decode method_3_code 103 = .ok (.castore, 1) := by decide +kernel
theorem d13_104 : decode method_3_code 104 = .ok (.dup, 1) := by decide +kernel
theorem d13_105 : decode method_3_code 105 = .ok (.iconst 3, 1) := by decide +kernel
theorem d13_106 : decode method_3_code 106 = .ok (.bipush 100, 2) := by decide +kernel
theorem d13_108 : decode method_3_code 108 = .ok (.castore, 1) := by decide +kernel
theorem d13_109 : decode method_3_code 109 = .ok (.dup, 1) := by decide +kernel
theorem d13_110 : decode method_3_code 110 = .ok (.iconst 4, 1) := by decide +kernel
theorem d13_111 : decode method_3_code 111 = .ok (.bipush 105, 2) := by decide +kernel
theorem d13_113 : decode method_3_code 113 = .ok (.castore, 1) := by decide +kernel
theorem d13_114 : decode method_3_code 114 = .ok (.dup, 1) := by decide +kernel
theorem d13_115 : decode method_3_code 115 = .ok (.iconst 5, 1) := by decide +kernel
theorem d13_116 : decode method_3_code 116 = .ok (.bipush 110, 2) := by decide +kernel
theorem d13_118 : decode method_3_code 118 = .ok (.castore, 1) := by decide +kernel
theorem d13_119 : decode method_3_code 119 = .ok (.dup, 1) := by decide +kernel
theorem d13_120 : decode method_3_code 120 = .ok (.bipush 6, 2) := by decide +kernel
theorem d13_122 : decode method_3_code 122 = .ok (.bipush 103, 2) := by decide +kernel
theorem d13_124 : decode method_3_code 124 = .ok (.castore, 1) := by decide +kernel
theorem d13_125 : decode method_3_code 125 = .ok (.dup, 1) := by decide +kernel
theorem d13_126 : decode method_3_code 126 = .ok (.bipush 7, 2) := by decide +kernel
theorem d13_128 : decode method_3_code 128 = .ok (.bipush 67, 2) := by decide +kernel
theorem d13_130 : decode method_3_code 130 = .ok (.castore, 1) := by decide +kernel
theorem d13_131 : decode method_3_code 131 = .ok (.dup, 1) := by decide +kernel
theorem d13_132 : decode method_3_code 132 = .ok (.bipush 8, 2) := by decide +kernel
theorem d13_134 : decode method_3_code 134 = .ok (.bipush 114, 2) := by decide +kernel
theorem d13_136 : decode method_3_code 136 = .ok (.castore, 1) := by decide +kernel
theorem d13_137 : decode method_3_code 137 = .ok (.dup, 1) := by decide +kernel
theorem d13_138 : decode method_3_code 138 = .ok (.bipush 9, 2) := by decide +kernel
theorem d13_140 : decode method_3_code 140 = .ok (.bipush 101, 2) := by decide +kernel
theorem d13_142 : decode method_3_code 142 = .ok (.castore, 1) := by decide +kernel
theorem d13_143 : decode method_3_code 143 = .ok (.dup, 1) := by decide +kernel
theorem d13_144 : decode method_3_code 144 = .ok (.bipush 10, 2) := by decide +kernel
theorem d13_146 : decode method_3_code 146 = .ok (.bipush 97, 2) := by decide +kernel
theorem d13_148 : decode method_3_code 148 = .ok (.castore, 1) := by decide +kernel
theorem d13_149 : decode method_3_code 149 = .ok (.dup, 1) := by decide +kernel
theorem d13_150 : decode method_3_code 150 = .ok (.bipush 11, 2) := by decide +kernel
theorem d13_152 : decode method_3_code 152 = .ok (.bipush 116, 2) := by decide +kernel
theorem d13_154 : decode method_3_code 154 = .ok (.castore, 1) := by decide +kernel
theorem d13_155 : decode method_3_code 155 = .ok (.dup, 1) := by decide +kernel
theorem d13_156 : decode method_3_code 156 = .ok (.bipush 12, 2) := by decide +kernel
theorem d13_158 : decode method_3_code 158 = .ok (.bipush 101, 2) := by decide +kernel
theorem d13_160 : decode method_3_code 160 = .ok (.castore, 1) := by decide +kernel
theorem d13_161 : decode method_3_code 161 = .ok (.areturn, 1) := by decide +kernel
theorem d14_0 : decode method_4_code 0 = .ok (.iload_n 0, 1) := by decide +kernel
theorem d14_1 : decode method_4_code 1 = .ok (.ifCond .ne 49, 3) := by decide +kernel
theorem d14_4 : decode method_4_code 4 = .ok (.bipush 8, 2) := by decide +kernel
theorem d14_6 : decode method_4_code 6 = .ok (.newarray .char, 2) := by decide +kernel
theorem d14_8 : decode method_4_code 8 = .ok (.dup, 1) := by decide +kernel
theorem d14_9 : decode method_4_code 9 = .ok (.iconst 0, 1) := by decide +kernel
theorem d14_10 : decode method_4_code 10 = .ok (.bipush 99, 2) := by decide +kernel
theorem d14_12 : decode method_4_code 12 = .ok (.castore, 1) := by decide +kernel
theorem d14_13 : decode method_4_code 13 = .ok (.dup, 1) := by decide +kernel
theorem d14_14 : decode method_4_code 14 = .ok (.iconst 1, 1) := by decide +kernel
theorem d14_15 : decode method_4_code 15 = .ok (.bipush 111, 2) := by decide +kernel
theorem d14_17 : decode method_4_code 17 = .ok (.castore, 1) := by decide +kernel
theorem d14_18 : decode method_4_code 18 = .ok (.dup, 1) := by decide +kernel
theorem d14_19 : decode method_4_code 19 = .ok (.iconst 2, 1) := by decide +kernel
theorem d14_20 : decode method_4_code 20 = .ok (.bipush 110, 2) := by decide +kernel
theorem d14_22 : decode method_4_code 22 = .ok (.castore, 1) := by decide +kernel
theorem d14_23 : decode method_4_code 23 = .ok (.dup, 1) := by decide +kernel
theorem d14_24 : decode method_4_code 24 = .ok (.iconst 3, 1) := by decide +kernel
theorem d14_25 : decode method_4_code 25 = .ok (.bipush 110, 2) := by decide +kernel
theorem d14_27 : decode method_4_code 27 = .ok (.castore, 1) := by decide +kernel
theorem d14_28 : decode method_4_code 28 = .ok (.dup, 1) := by decide +kernel
theorem d14_29 : decode method_4_code 29 = .ok (.iconst 4, 1) := by decide +kernel
theorem d14_30 : decode method_4_code 30 = .ok (.bipush 101, 2) := by decide +kernel
theorem d14_32 : decode method_4_code 32 = .ok (.castore, 1) := by decide +kernel
theorem d14_33 : decode method_4_code 33 = .ok (.dup, 1) := by decide +kernel
theorem d14_34 : decode method_4_code 34 = .ok (.iconst 5, 1) := by decide +kernel
theorem d14_35 : decode method_4_code 35 = .ok (.bipush 99, 2) := by decide +kernel
theorem d14_37 : decode method_4_code 37 = .ok (.castore, 1) := by decide +kernel
theorem d14_38 : decode method_4_code 38 = .ok (.dup, 1) := by decide +kernel
theorem d14_39 : decode method_4_code 39 = .ok (.bipush 6, 2) := by decide +kernel
theorem d14_41 : decode method_4_code 41 = .ok (.bipush 116, 2) := by decide +kernel
theorem d14_43 : decode method_4_code 43 = .ok (.castore, 1) := by decide +kernel
theorem d14_44 : decode method_4_code 44 = .ok (.dup, 1) := by decide +kernel
theorem d14_45 : decode method_4_code 45 = .ok (.bipush 7, 2) := by decide +kernel
theorem d14_47 : decode method_4_code 47 = .ok (.iload_n 1, 1) := by decide +kernel
theorem d14_48 : decode method_4_code 48 = .ok (.castore, 1) := by decide +kernel
theorem d14_49 : decode method_4_code 49 = .ok (.areturn, 1) := by decide +kernel
theorem d14_50 : decode method_4_code 50 = .ok (.iload_n 0, 1) := by decide +kernel
theorem d14_51 : decode method_4_code 51 = .ok (.iconst 1, 1) := by decide +kernel
theorem d14_52 : decode method_4_code 52 = .ok (.if_icmp .ne 43, 3) := by decide +kernel
theorem d14_55 : decode method_4_code 55 = .ok (.bipush 7, 2) := by decide +kernel
theorem d14_57 : decode method_4_code 57 = .ok (.newarray .char, 2) := by decide +kernel
theorem d14_59 : decode method_4_code 59 = .ok (.dup, 1) := by decide +kernel
theorem d14_60 : decode method_4_code 60 = .ok (.iconst 0, 1) := by decide +kernel
theorem d14_61 : decode method_4_code 61 = .ok (.bipush 102, 2) := by decide +kernel
theorem d14_63 : decode method_4_code 63 = .ok (.castore, 1) := by decide +kernel
theorem d14_64 : decode method_4_code 64 = .ok (.dup, 1) := by decide +kernel
theorem d14_65 : decode method_4_code 65 = .ok (.iconst 1, 1) := by decide +kernel
theorem d14_66 : decode method_4_code 66 = .ok (.bipush 97, 2) := by decide +kernel
theorem d14_68 : decode method_4_code 68 = .ok (.castore, 1) := by decide +kernel
theorem d14_69 : decode method_4_code 69 = .ok (.dup, 1) := by decide +kernel
theorem d14_70 : decode method_4_code 70 = .ok (.iconst 2, 1) := by decide +kernel
theorem d14_71 : decode method_4_code 71 = .ok (.bipush 105, 2) := by decide +kernel
theorem d14_73 : decode method_4_code 73 = .ok (.castore, 1) := by decide +kernel
theorem d14_74 : decode method_4_code 74 = .ok (.dup, 1) := by decide +kernel
theorem d14_75 : decode method_4_code 75 = .ok (.iconst 3, 1) := by decide +kernel
theorem d14_76 : decode method_4_code 76 = .ok (.bipush 108, 2) := by decide +kernel
theorem d14_78 : decode method_4_code 78 = .ok (.castore, 1) := by decide +kernel
theorem d14_79 : decode method_4_code 79 = .ok (.dup, 1) := by decide +kernel
theorem d14_80 : decode method_4_code 80 = .ok (.iconst 4, 1) := by decide +kernel
theorem d14_81 : decode method_4_code 81 = .ok (.bipush 101, 2) := by decide +kernel
theorem d14_83 : decode method_4_code 83 = .ok (.castore, 1) := by decide +kernel
theorem d14_84 : decode method_4_code 84 = .ok (.dup, 1) := by decide +kernel
theorem d14_85 : decode method_4_code 85 = .ok (.iconst 5, 1) := by decide +kernel
theorem d14_86 : decode method_4_code 86 = .ok (.bipush 100, 2) := by decide +kernel
theorem d14_88 : decode method_4_code 88 = .ok (.castore, 1) := by decide +kernel
theorem d14_89 : decode method_4_code 89 = .ok (.dup, 1) := by decide +kernel
theorem d14_90 : decode method_4_code 90 = .ok (.bipush 6, 2) := by decide +kernel
theorem d14_92 : decode method_4_code 92 = .ok (.iload_n 1, 1) := by decide +kernel
theorem d14_93 : decode method_4_code 93 = .ok (.castore, 1) := by decide +kernel
theorem d14_94 : decode method_4_code 94 = .ok (.areturn, 1) := by decide +kernel
theorem d14_95 : decode method_4_code 95 = .ok (.bipush 14, 2) := by decide +kernel
theorem d14_97 : decode method_4_code 97 = .ok (.newarray .char, 2) := by decide +kernel
theorem d14_99 : decode method_4_code 99 = .ok (.dup, 1) := by decide +kernel
theorem d14_100 : decode method_4_code 100 = .ok (.iconst 0, 1) := by decide +kernel
theorem d14_101 : decode method_4_code 101 = .ok (.bipush 112, 2) := by decide +kernel
theorem d14_103 : decode method_4_code 103 = .ok (.castore, 1) := by decide +kernel
theorem d14_104 : decode method_4_code 104 = .ok (.dup, 1) := by decide +kernel
theorem d14_105 : decode method_4_code 105 = .ok (.iconst 1, 1) := by decide +kernel
theorem d14_106 : decode method_4_code 106 = .ok (.bipush 101, 2) := by decide +kernel
theorem d14_108 : decode method_4_code 108 = .ok (.castore, 1) := by decide +kernel
theorem d14_109 : decode method_4_code 109 = .ok (.dup, 1) := by decide +kernel
theorem d14_110 : decode method_4_code 110 = .ok (.iconst 2, 1) := by decide +kernel
theorem d14_111 : decode method_4_code 111 = .ok (.bipush 110, 2) := by decide +kernel
theorem d14_113 : decode method_4_code 113 = .ok (.castore, 1) := by decide +kernel
theorem d14_114 : decode method_4_code 114 = .ok (.dup, 1) := by decide +kernel
theorem d14_115 : decode method_4_code 115 = .ok (.iconst 3, 1) := by decide +kernel
theorem d14_116 : decode method_4_code 116 = .ok (.bipush 100, 2) := by decide +kernel
theorem d14_118 : decode method_4_code 118 = .ok (.castore, 1) := by decide +kernel
theorem d14_119 : decode method_4_code 119 = .ok (.dup, 1) := by decide +kernel
theorem d14_120 : decode method_4_code 120 = .ok (.iconst 4, 1) := by decide +kernel
theorem d14_121 : decode method_4_code 121 = .ok (.bipush 105, 2) := by decide +kernel
theorem d14_123 : decode method_4_code 123 = .ok (.castore, 1) := by decide +kernel
theorem d14_124 : decode method_4_code 124 = .ok (.dup, 1) := by decide +kernel
theorem d14_125 : decode method_4_code 125 = .ok (.iconst 5, 1) := by decide +kernel
theorem d14_126 : decode method_4_code 126 = .ok (.bipush 110, 2) := by decide +kernel
theorem d14_128 : decode method_4_code 128 = .ok (.castore, 1) := by decide +kernel
theorem d14_129 : decode method_4_code 129 = .ok (.dup, 1) := by decide +kernel
theorem d14_130 : decode method_4_code 130 = .ok (.bipush 6, 2) := by decide +kernel
theorem d14_132 : decode method_4_code 132 = .ok (.bipush 103, 2) := by decide +kernel
theorem d14_134 : decode method_4_code 134 = .ok (.castore, 1) := by decide +kernel
theorem d14_135 : decode method_4_code 135 = .ok (.dup, 1) := by decide +kernel
theorem d14_136 : decode method_4_code 136 = .ok (.bipush 7, 2) := by decide +kernel
theorem d14_138 : decode method_4_code 138 = .ok (.bipush 67, 2) := by decide +kernel
theorem d14_140 : decode method_4_code 140 = .ok (.castore, 1) := by decide +kernel
theorem d14_141 : decode method_4_code 141 = .ok (.dup, 1) := by decide +kernel
theorem d14_142 : decode method_4_code 142 = .ok (.bipush 8, 2) := by decide +kernel
theorem d14_144 : decode method_4_code 144 = .ok (.bipush 114, 2) := by decide +kernel
theorem d14_146 : decode method_4_code 146 = .ok (.castore, 1) := by decide +kernel
theorem d14_147 : decode method_4_code 147 = .ok (.dup, 1) := by decide +kernel
theorem d14_148 : decode method_4_code 148 = .ok (.bipush 9, 2) := by decide +kernel
theorem d14_150 : decode method_4_code 150 = .ok (.bipush 101, 2) := by decide +kernel
theorem d14_152 : decode method_4_code 152 = .ok (.castore, 1) := by decide +kernel
theorem d14_153 : decode method_4_code 153 = .ok (.dup, 1) := by decide +kernel
theorem d14_154 : decode method_4_code 154 = .ok (.bipush 10, 2) := by decide +kernel
theorem d14_156 : decode method_4_code 156 = .ok (.bipush 97, 2) := by decide +kernel
theorem d14_158 : decode method_4_code 158 = .ok (.castore, 1) := by decide +kernel
theorem d14_159 : decode method_4_code 159 = .ok (.dup, 1) := by decide +kernel
theorem d14_160 : decode method_4_code 160 = .ok (.bipush 11, 2) := by decide +kernel
theorem d14_162 : decode method_4_code 162 = .ok (.bipush 116, 2) := by decide +kernel
theorem d14_164 : decode method_4_code 164 = .ok (.castore, 1) := by decide +kernel
theorem d14_165 : decode method_4_code 165 = .ok (.dup, 1) := by decide +kernel
theorem d14_166 : decode method_4_code 166 = .ok (.bipush 12, 2) := by decide +kernel
theorem d14_168 : decode method_4_code 168 = .ok (.bipush 101, 2) := by decide +kernel
theorem d14_170 : decode method_4_code 170 = .ok (.castore, 1) := by decide +kernel
theorem d14_171 : decode method_4_code 171 = .ok (.dup, 1) := by decide +kernel
theorem d14_172 : decode method_4_code 172 = .ok (.bipush 13, 2) := by decide +kernel
theorem d14_174 : decode method_4_code 174 = .ok (.iload_n 1, 1) := by decide +kernel
theorem d14_175 : decode method_4_code 175 = .ok (.castore, 1) := by decide +kernel
theorem d14_176 : decode method_4_code 176 = .ok (.areturn, 1) := by decide +kernel
theorem d15_0 : decode method_7_code 0 = .ok (.iload_n 0, 1) := by decide +kernel
theorem d15_1 : decode method_7_code 1 = .ok (.ifCond .ne 7, 3) := by decide +kernel
theorem d15_4 : decode method_7_code 4 = .ok (.iconst 0, 1) := by decide +kernel
theorem d15_5 : decode method_7_code 5 = .ok (.newarray .char, 2) := by decide +kernel
theorem d15_7 : decode method_7_code 7 = .ok (.areturn, 1) := by decide +kernel
theorem d15_8 : decode method_7_code 8 = .ok (.iload_n 0, 1) := by decide +kernel
theorem d15_9 : decode method_7_code 9 = .ok (.iconst 1, 1) := by decide +kernel
theorem d15_10 : decode method_7_code 10 = .ok (.if_icmp .ne 11, 3) := by decide +kernel
theorem d15_13 : decode method_7_code 13 = .ok (.iconst 1, 1) := by decide +kernel
theorem d15_14 : decode method_7_code 14 = .ok (.newarray .char, 2) := by decide +kernel
theorem d15_16 : decode method_7_code 16 = .ok (.dup, 1) := by decide +kernel
theorem d15_17 : decode method_7_code 17 = .ok (.iconst 0, 1) := by decide +kernel
theorem d15_18 : decode method_7_code 18 = .ok (.iload_n 1, 1) := by decide +kernel
theorem d15_19 : decode method_7_code 19 = .ok (.castore, 1) := by decide +kernel
theorem d15_20 : decode method_7_code 20 = .ok (.areturn, 1) := by decide +kernel
theorem d15_21 : decode method_7_code 21 = .ok (.iload_n 0, 1) := by decide +kernel
theorem d15_22 : decode method_7_code 22 = .ok (.iconst 2, 1) := by decide +kernel
theorem d15_23 : decode method_7_code 23 = .ok (.if_icmp .ne 15, 3) := by decide +kernel
theorem d15_26 : decode method_7_code 26 = .ok (.iconst 2, 1) := by decide +kernel
theorem d15_27 : decode method_7_code 27 = .ok (.newarray .char, 2) := by decide +kernel
theorem d15_29 : decode method_7_code 29 = .ok (.dup, 1) := by decide +kernel
theorem d15_30 : decode method_7_code 30 = .ok (.iconst 0, 1) := by decide +kernel
theorem d15_31 : decode method_7_code 31 = .ok (.iload_n 1, 1) := by decide +kernel
theorem d15_32 : decode method_7_code 32 = .ok (.castore, 1) := by decide +kernel
theorem d15_33 : decode method_7_code 33 = .ok (.dup, 1) := by decide +kernel
theorem d15_34 : decode method_7_code 34 = .ok (.iconst 1, 1) := by decide +kernel
theorem d15_35 : decode method_7_code 35 = .ok (.iload_n 2, 1) := by decide +kernel
theorem d15_36 : decode method_7_code 36 = .ok (.castore, 1) := by decide +kernel
theorem d15_37 : decode method_7_code 37 = .ok (.areturn, 1) := by decide +kernel
theorem d15_38 : decode method_7_code 38 = .ok (.iconst 3, 1) := by decide +kernel
theorem d15_39 : decode method_7_code 39 = .ok (.newarray .char, 2) := by decide +kernel
theorem d15_41 : decode method_7_code 41 = .ok (.dup, 1) := by decide +kernel
theorem d15_42 : decode method_7_code 42 = .ok (.iconst 0, 1) := by decide +kernel
theorem d15_43 : decode method_7_code 43 = .ok (.iload_n 1, 1) := by decide +kernel
theorem d15_44 : decode method_7_code 44 = .ok (.castore, 1) := by decide +kernel
theorem d15_45 : decode method_7_code 45 = .ok (.dup, 1) := by decide +kernel
theorem d15_46 : decode method_7_code 46 = .ok (.iconst 1, 1) := by decide +kernel
theorem d15_47 : decode method_7_code 47 = .ok (.iload_n 2, 1) := by decide +kernel
theorem d15_48 : decode method_7_code 48 = .ok (.castore, 1) := by decide +kernel
theorem d15_49 : decode method_7_code 49 = .ok (.dup, 1) := by decide +kernel
theorem d15_50 : decode method_7_code 50 = .ok (.iconst 2, 1) := by decide +kernel
theorem d15_51 : decode method_7_code 51 = .ok (.iload_n 3, 1) := by decide +kernel
theorem d15_52 : decode method_7_code 52 = .ok (.castore, 1) := by decide +kernel
theorem d15_53 : decode method_7_code 53 = .ok (.areturn, 1) := by decide +kernel
theorem d16_0 : decode method_6_code 0 = .ok (.iload_n 0, 1) := by decide +kernel
theorem d16_1 : decode method_6_code 1 = .ok (.ifCond .ne 38, 3) := by decide +kernel
theorem d16_4 : decode method_6_code 4 = .ok (.bipush 6, 2) := by decide +kernel
theorem d16_6 : decode method_6_code 6 = .ok (.newarray .char, 2) := by decide +kernel
theorem d16_8 : decode method_6_code 8 = .ok (.dup, 1) := by decide +kernel
theorem d16_9 : decode method_6_code 9 = .ok (.iconst 0, 1) := by decide +kernel
theorem d16_10 : decode method_6_code 10 = .ok (.bipush 99, 2) := by decide +kernel
theorem d16_12 : decode method_6_code 12 = .ok (.castore, 1) := by decide +kernel
theorem d16_13 : decode method_6_code 13 = .ok (.dup, 1) := by decide +kernel
theorem d16_14 : decode method_6_code 14 = .ok (.iconst 1, 1) := by decide +kernel
theorem d16_15 : decode method_6_code 15 = .ok (.bipush 111, 2) := by decide +kernel
theorem d16_17 : decode method_6_code 17 = .ok (.castore, 1) := by decide +kernel
theorem d16_18 : decode method_6_code 18 = .ok (.dup, 1) := by decide +kernel
theorem d16_19 : decode method_6_code 19 = .ok (.iconst 2, 1) := by decide +kernel
theorem d16_20 : decode method_6_code 20 = .ok (.bipush 110, 2) := by decide +kernel
theorem d16_22 : decode method_6_code 22 = .ok (.castore, 1) := by decide +kernel
theorem d16_23 : decode method_6_code 23 = .ok (.dup, 1) := by decide +kernel
theorem d16_24 : decode method_6_code 24 = .ok (.iconst 3, 1) := by decide +kernel
theorem d16_25 : decode method_6_code 25 = .ok (.bipush 110, 2) := by decide +kernel
theorem d16_27 : decode method_6_code 27 = .ok (.castore, 1) := by decide +kernel
theorem d16_28 : decode method_6_code 28 = .ok (.dup, 1) := by decide +kernel
theorem d16_29 : decode method_6_code 29 = .ok (.iconst 4, 1) := by decide +kernel
theorem d16_30 : decode method_6_code 30 = .ok (.bipush 101, 2) := by decide +kernel
theorem d16_32 : decode method_6_code 32 = .ok (.castore, 1) := by decide +kernel
theorem d16_33 : decode method_6_code 33 = .ok (.dup, 1) := by decide +kernel
theorem d16_34 : decode method_6_code 34 = .ok (.iconst 5, 1) := by decide +kernel
theorem d16_35 : decode method_6_code 35 = .ok (.bipush 99, 2) := by decide +kernel
theorem d16_37 : decode method_6_code 37 = .ok (.castore, 1) := by decide +kernel
theorem d16_38 : decode method_6_code 38 = .ok (.areturn, 1) := by decide +kernel
theorem d16_39 : decode method_6_code 39 = .ok (.iload_n 0, 1) := by decide +kernel
theorem d16_40 : decode method_6_code 40 = .ok (.iconst 1, 1) := by decide +kernel
theorem d16_41 : decode method_6_code 41 = .ok (.if_icmp .ne 32, 3) := by decide +kernel
theorem d16_44 : decode method_6_code 44 = .ok (.iconst 5, 1) := by decide +kernel
theorem d16_45 : decode method_6_code 45 = .ok (.newarray .char, 2) := by decide +kernel
theorem d16_47 : decode method_6_code 47 = .ok (.dup, 1) := by decide +kernel
theorem d16_48 : decode method_6_code 48 = .ok (.iconst 0, 1) := by decide +kernel
theorem d16_49 : decode method_6_code 49 = .ok (.bipush 102, 2) := by decide +kernel
theorem d16_51 : decode method_6_code 51 = .ok (.castore, 1) := by decide +kernel
theorem d16_52 : decode method_6_code 52 = .ok (.dup, 1) := by decide +kernel
theorem d16_53 : decode method_6_code 53 = .ok (.iconst 1, 1) := by decide +kernel
theorem d16_54 : decode method_6_code 54 = .ok (.bipush 97, 2) := by decide +kernel
theorem d16_56 : decode method_6_code 56 = .ok (.castore, 1) := by decide +kernel
theorem d16_57 : decode method_6_code 57 = .ok (.dup, 1) := by decide +kernel
theorem d16_58 : decode method_6_code 58 = .ok (.iconst 2, 1) := by decide +kernel
theorem d16_59 : decode method_6_code 59 = .ok (.bipush 105, 2) := by decide +kernel
theorem d16_61 : decode method_6_code 61 = .ok (.castore, 1) := by decide +kernel
theorem d16_62 : decode method_6_code 62 = .ok (.dup, 1) := by decide +kernel
theorem d16_63 : decode method_6_code 63 = .ok (.iconst 3, 1) := by decide +kernel
theorem d16_64 : decode method_6_code 64 = .ok (.bipush 108, 2) := by decide +kernel
theorem d16_66 : decode method_6_code 66 = .ok (.castore, 1) := by decide +kernel
theorem d16_67 : decode method_6_code 67 = .ok (.dup, 1) := by decide +kernel
theorem d16_68 : decode method_6_code 68 = .ok (.iconst 4, 1) := by decide +kernel
theorem d16_69 : decode method_6_code 69 = .ok (.bipush 101, 2) := by decide +kernel
theorem d16_71 : decode method_6_code 71 = .ok (.castore, 1) := by decide +kernel
theorem d16_72 : decode method_6_code 72 = .ok (.areturn, 1) := by decide +kernel
theorem d16_73 : decode method_6_code 73 = .ok (.bipush 12, 2) := by decide +kernel
theorem d16_75 : decode method_6_code 75 = .ok (.newarray .char, 2) := by decide +kernel
theorem d16_77 : decode method_6_code 77 = .ok (.dup, 1) := by decide +kernel
theorem d16_78 : decode method_6_code 78 = .ok (.iconst 0, 1) := by decide +kernel
theorem d16_79 : decode method_6_code 79 = .ok (.bipush 112, 2) := by decide +kernel
theorem d16_81 : decode method_6_code 81 = .ok (.castore, 1) := by decide +kernel
theorem d16_82 : decode method_6_code 82 = .ok (.dup, 1) := by decide +kernel
theorem d16_83 : decode method_6_code 83 = .ok (.iconst 1, 1) := by decide +kernel
theorem d16_84 : decode method_6_code 84 = .ok (.bipush 101, 2) := by decide +kernel
theorem d16_86 : decode method_6_code 86 = .ok (.castore, 1) := by decide +kernel
theorem d16_87 : decode method_6_code 87 = .ok (.dup, 1) := by decide +kernel
theorem d16_88 : decode method_6_code 88 = .ok (.iconst 2, 1) := by decide +kernel
theorem d16_89 : decode method_6_code 89 = .ok (.bipush 110, 2) := by decide +kernel
theorem d16_91 : decode method_6_code 91 = .ok (.castore, 1) := by decide +kernel
theorem d16_92 : decode method_6_code 92 = .ok (.dup, 1) := by decide +kernel
theorem d16_93 : decode method_6_code 93 = .ok (.iconst 3, 1) := by decide +kernel
theorem d16_94 : decode method_6_code 94 = .ok (.bipush 100, 2) := by decide +kernel
theorem d16_96 : decode method_6_code 96 = .ok (.castore, 1) := by decide +kernel
theorem d16_97 : decode method_6_code 97 = .ok (.dup, 1) := by decide +kernel
theorem d16_98 : decode method_6_code 98 = .ok (.iconst 4, 1) := by decide +kernel
theorem d16_99 : decode method_6_code 99 = .ok (.bipush 105, 2) := by decide +kernel
theorem d16_101 : decode method_6_code 101 = .ok (.castore, 1) := by decide +kernel
theorem d16_102 : decode method_6_code 102 = .ok (.dup, 1) := by decide +kernel
theorem d16_103 : decode method_6_code 103 = .ok (.iconst 5, 1) := by decide +kernel
theorem d16_104 : decode method_6_code 104 = .ok (.bipush 110, 2) := by decide +kernel
theorem d16_106 : decode method_6_code 106 = .ok (.castore, 1) := by decide +kernel
theorem d16_107 : decode method_6_code 107 = .ok (.dup, 1) := by decide +kernel
theorem d16_108 : decode method_6_code 108 = .ok (.bipush 6, 2) := by decide +kernel
theorem d16_110 : decode method_6_code 110 = .ok (.bipush 103, 2) := by decide +kernel
theorem d16_112 : decode method_6_code 112 = .ok (.castore, 1) := by decide +kernel
theorem d16_113 : decode method_6_code 113 = .ok (.dup, 1) := by decide +kernel
theorem d16_114 : decode method_6_code 114 = .ok (.bipush 7, 2) := by decide +kernel
theorem d16_116 : decode method_6_code 116 = .ok (.bipush 67, 2) := by decide +kernel
theorem d16_118 : decode method_6_code 118 = .ok (.castore, 1) := by decide +kernel
theorem d16_119 : decode method_6_code 119 = .ok (.dup, 1) := by decide +kernel
theorem d16_120 : decode method_6_code 120 = .ok (.bipush 8, 2) := by decide +kernel
theorem d16_122 : decode method_6_code 122 = .ok (.bipush 114, 2) := by decide +kernel
theorem d16_124 : decode method_6_code 124 = .ok (.castore, 1) := by decide +kernel
theorem d16_125 : decode method_6_code 125 = .ok (.dup, 1) := by decide +kernel
theorem d16_126 : decode method_6_code 126 = .ok (.bipush 9, 2) := by decide +kernel
theorem d16_128 : decode method_6_code 128 = .ok (.bipush 101, 2) := by decide +kernel
theorem d16_130 : decode method_6_code 130 = .ok (.castore, 1) := by decide +kernel
theorem d16_131 : decode method_6_code 131 = .ok (.dup, 1) := by decide +kernel
theorem d16_132 : decode method_6_code 132 = .ok (.bipush 10, 2) := by decide +kernel
theorem d16_134 : decode method_6_code 134 = .ok (.bipush 97, 2) := by decide +kernel
theorem d16_136 : decode method_6_code 136 = .ok (.castore, 1) := by decide +kernel
theorem d16_137 : decode method_6_code 137 = .ok (.dup, 1) := by decide +kernel
theorem d16_138 : decode method_6_code 138 = .ok (.bipush 11, 2) := by decide +kernel
theorem d16_140 : decode method_6_code 140 = .ok (.bipush 116, 2) := by decide +kernel
theorem d16_142 : decode method_6_code 142 = .ok (.castore, 1) := by decide +kernel
theorem d16_143 : decode method_6_code 143 = .ok (.areturn, 1) := by decide +kernel
theorem d17_0 : decode jdk_52_method_14_code 0 = .ok (.iload_n 2, 1) := by decide +kernel
theorem d17_1 : decode jdk_52_method_14_code 1 = .ok (.invokestatic 107, 3) := by decide +kernel
theorem d17_4 : decode jdk_52_method_14_code 4 = .ok (.astore_n 3, 1) := by decide +kernel
theorem d17_5 : decode jdk_52_method_14_code 5 = .ok (.iconst 0, 1) := by decide +kernel
theorem d17_6 : decode jdk_52_method_14_code 6 = .ok (.istore 4, 2) := by decide +kernel
theorem d17_8 : decode jdk_52_method_14_code 8 = .ok (.iload 4, 2) := by decide +kernel
theorem d17_10 : decode jdk_52_method_14_code 10 = .ok (.iload_n 2, 1) := by decide +kernel
theorem d17_11 : decode jdk_52_method_14_code 11 = .ok (.if_icmp .ge 21, 3) := by decide +kernel
theorem d17_14 : decode jdk_52_method_14_code 14 = .ok (.aload_n 3, 1) := by decide +kernel
theorem d17_15 : decode jdk_52_method_14_code 15 = .ok (.iload 4, 2) := by decide +kernel
theorem d17_17 : decode jdk_52_method_14_code 17 = .ok (.aload_n 0, 1) := by decide +kernel
theorem d17_18 : decode jdk_52_method_14_code 18 = .ok (.iload_n 1, 1) := by decide +kernel
theorem d17_19 : decode jdk_52_method_14_code 19 = .ok (.caload, 1) := by decide +kernel
theorem d17_20 : decode jdk_52_method_14_code 20 = .ok (.invokestatic 111, 3) := by decide +kernel
theorem d17_23 : decode jdk_52_method_14_code 23 = .ok (.iinc 1 1, 3) := by decide +kernel
theorem d17_26 : decode jdk_52_method_14_code 26 = .ok (.iinc 4 1, 3) := by decide +kernel
theorem d17_29 : decode jdk_52_method_14_code 29 = .ok (.goto (-21), 3) := by decide +kernel
theorem d17_32 : decode jdk_52_method_14_code 32 = .ok (.aload_n 3, 1) := by decide +kernel
theorem d17_33 : decode jdk_52_method_14_code 33 = .ok (.areturn, 1) := by decide +kernel
theorem d18_0 : decode jdk_52_method_2_code 0 = .ok (.iload_n 0, 1) := by decide +kernel
theorem d18_1 : decode jdk_52_method_2_code 1 = .ok (.invokestatic 11, 3) := by decide +kernel
theorem d18_4 : decode jdk_52_method_2_code 4 = .ok (.newarray .byte, 2) := by decide +kernel
theorem d18_6 : decode jdk_52_method_2_code 6 = .ok (.areturn, 1) := by decide +kernel
theorem d19_0 : decode jdk_52_method_3_code 0 = .ok (.iload_n 0, 1) := by decide +kernel
theorem d19_1 : decode jdk_52_method_3_code 1 = .ok (.ifCond .ge 11, 3) := by decide +kernel
theorem d19_12 : decode jdk_52_method_3_code 12 = .ok (.iload_n 0, 1) := by decide +kernel
theorem d19_13 : decode jdk_52_method_3_code 13 = .ok (.ldc 20, 2) := by decide +kernel
theorem d19_15 : decode jdk_52_method_3_code 15 = .ok (.if_icmp .lt 40, 3) := by decide +kernel
theorem d19_55 : decode jdk_52_method_3_code 55 = .ok (.iload_n 0, 1) := by decide +kernel
theorem d19_56 : decode jdk_52_method_3_code 56 = .ok (.iconst 1, 1) := by decide +kernel
theorem d19_57 : decode jdk_52_method_3_code 57 = .ok (.ishl, 1) := by decide +kernel
theorem d19_58 : decode jdk_52_method_3_code 58 = .ok (.ireturn, 1) := by decide +kernel
theorem d20_0 : decode jdk_52_method_4_code 0 = .ok (.getstatic 44, 3) := by decide +kernel
theorem d20_3 : decode jdk_52_method_4_code 3 = .ok (.ifCond .ne 25, 3) := by decide +kernel
theorem d20_28 : decode jdk_52_method_4_code 28 = .ok (.iload_n 1, 1) := by decide +kernel
theorem d20_29 : decode jdk_52_method_4_code 29 = .ok (.iconst 1, 1) := by decide +kernel
theorem d20_30 : decode jdk_52_method_4_code 30 = .ok (.ishl, 1) := by decide +kernel
theorem d20_31 : decode jdk_52_method_4_code 31 = .ok (.istore_n 1, 1) := by decide +kernel
theorem d20_32 : decode jdk_52_method_4_code 32 = .ok (.aload_n 0, 1) := by decide +kernel
theorem d20_33 : decode jdk_52_method_4_code 33 = .ok (.iload_n 1, 1) := by decide +kernel
theorem d20_34 : decode jdk_52_method_4_code 34 = .ok (.iinc 1 1, 3) := by decide +kernel
theorem d20_37 : decode jdk_52_method_4_code 37 = .ok (.iload_n 2, 1) := by decide +kernel
theorem d20_38 : decode jdk_52_method_4_code 38 = .ok (.getstatic 59, 3) := by decide +kernel
theorem d20_41 : decode jdk_52_method_4_code 41 = .ok (.ishr, 1) := by decide +kernel
theorem d20_42 : decode jdk_52_method_4_code 42 = .ok (.i2b, 1) := by decide +kernel
theorem d20_43 : decode jdk_52_method_4_code 43 = .ok (.bastore, 1) := by decide +kernel
theorem d20_44 : decode jdk_52_method_4_code 44 = .ok (.aload_n 0, 1) := by decide +kernel
theorem d20_45 : decode jdk_52_method_4_code 45 = .ok (.iload_n 1, 1) := by decide +kernel
theorem d20_46 : decode jdk_52_method_4_code 46 = .ok (.iload_n 2, 1) := by decide +kernel
theorem d20_47 : decode jdk_52_method_4_code 47 = .ok (.getstatic 63, 3) := by decide +kernel
theorem d20_50 : decode jdk_52_method_4_code 50 = .ok (.ishr, 1) := by decide +kernel
theorem d20_51 : decode jdk_52_method_4_code 51 = .ok (.i2b, 1) := by decide +kernel
theorem d20_52 : decode jdk_52_method_4_code 52 = .ok (.bastore, 1) := by decide +kernel
theorem d20_53 : decode jdk_52_method_4_code 53 = .ok (.return_, 1) := by decide +kernel
theorem d21_0 : decode jdk_52_method_5_code 0 = .ok (.getstatic 44, 3) := by decide +kernel
theorem d21_3 : decode jdk_52_method_5_code 3 = .ok (.ifCond .ne 25, 3) := by decide +kernel
theorem d21_28 : decode jdk_52_method_5_code 28 = .ok (.iload_n 1, 1) := by decide +kernel
theorem d21_29 : decode jdk_52_method_5_code 29 = .ok (.iconst 1, 1) := by decide +kernel
theorem d21_30 : decode jdk_52_method_5_code 30 = .ok (.ishl, 1) := by decide +kernel
theorem d21_31 : decode jdk_52_method_5_code 31 = .ok (.istore_n 1, 1) := by decide +kernel
theorem d21_32 : decode jdk_52_method_5_code 32 = .ok (.aload_n 0, 1) := by decide +kernel
theorem d21_33 : decode jdk_52_method_5_code 33 = .ok (.iload_n 1, 1) := by decide +kernel
theorem d21_34 : decode jdk_52_method_5_code 34 = .ok (.iinc 1 1, 3) := by decide +kernel
theorem d21_37 : decode jdk_52_method_5_code 37 = .ok (.baload, 1) := by decide +kernel
theorem d21_38 : decode jdk_52_method_5_code 38 = .ok (.sipush 255, 3) := by decide +kernel
theorem d21_41 : decode jdk_52_method_5_code 41 = .ok (.iand, 1) := by decide +kernel
theorem d21_42 : decode jdk_52_method_5_code 42 = .ok (.getstatic 59, 3) := by decide +kernel
theorem d21_45 : decode jdk_52_method_5_code 45 = .ok (.ishl, 1) := by decide +kernel
theorem d21_46 : decode jdk_52_method_5_code 46 = .ok (.aload_n 0, 1) := by decide +kernel
theorem d21_47 : decode jdk_52_method_5_code 47 = .ok (.iload_n 1, 1) := by decide +kernel
theorem d21_48 : decode jdk_52_method_5_code 48 = .ok (.baload, 1) := by decide +kernel
theorem d21_49 : decode jdk_52_method_5_code 49 = .ok (.sipush 255, 3) := by decide +kernel
theorem d21_52 : decode jdk_52_method_5_code 52 = .ok (.iand, 1) := by decide +kernel
theorem d21_53 : decode jdk_52_method_5_code 53 = .ok (.getstatic 63, 3) := by decide +kernel
theorem d21_56 : decode jdk_52_method_5_code 56 = .ok (.ishl, 1) := by decide +kernel
theorem d21_57 : decode jdk_52_method_5_code 57 = .ok (.ior, 1) := by decide +kernel
theorem d21_58 : decode jdk_52_method_5_code 58 = .ok (.i2c, 1) := by decide +kernel
theorem d21_59 : decode jdk_52_method_5_code 59 = .ok (.ireturn, 1) := by decide +kernel
theorem own_wS {Z : State} {a0 : Array Value} (hw : ∀ d ∈ tables_1, d.before a0 Z = true) : ∀ a ∈ Bundle.stringAtoms, a.before a0 Z = true := by
  intro a ha
  simp only [Bundle.stringAtoms, List.mem_cons, List.not_mem_nil, or_false] at ha
  rcases ha with rfl | rfl | rfl | rfl | rfl | rfl | rfl
  · exact (ow hw 36 rfl)
  · exact (ow hw 40 rfl)
  · exact (ow hw 61 rfl)
  · exact (ow hw 71 rfl)
  · exact (ow hw 69 rfl)
  · exact (ow hw 82 rfl)
  · exact (ow hw 83 rfl)
theorem own_pd0 : parseMethodDescriptor "([BII)V" = some ⟨[(.array .byte), .int, .int], none⟩ := by decide +kernel
theorem own_put (l : Launch) (Z : State) (a0 : Array Value) (hw : ∀ d ∈ tables_1, d.before a0 Z = true) (b : Addr) (kb : ClassId) (M : Nat) (vs : List Value) (i : Nat) (ch : Int32) (h0 : Heap) (O0 : own_Old Z h0) (g0_V : Arv Z h0 b kb .byte (Int32.ofNat M) vs (.int 0)) (g1_G : Z.heap.size ≤ b) (g2_hM : M < 2147483648) (g3_hi : 2 * i + 1 < M) (g4_hl : vs.length = M) (g5_S : Sta Z Z.heap "java/lang/StringUTF16" "$assertionsDisabled" "Z" (.int 1)) (g6_S : Sta Z Z.heap "java/lang/StringUTF16" "HI_BYTE_SHIFT" "I" (.int 0)) (g7_S : Sta Z Z.heap "java/lang/StringUTF16" "LO_BYTE_SHIFT" "I" (.int 8)) :
    own_Con l Z (⟨"java/lang/StringUTF16", "putChar", "([BII)V"⟩ : MethodName) jdk_52_method_4_code 3 none [] ({ frames := 0, cells := 0, slots := 0, locals := 0 } : Room) #[(.ref b), (.int (Int32.ofNat i)), (.int ch)] h0 (fun rv rh rL => rv = none ∧ own_Fr Z rL ∧ Keep h0 rh [b] ∧ (Arv Z rh b kb .byte (Int32.ofNat M) ((vs.set (2 * i) (.int (own_lo ch))).set (2 * i + 1) (.int (own_hi ch))) (.int 0))) := by
  refine own_intro (plainFor_of_name (by first | (simp [plainName, overriddenIn]; done) | decide +kernel)) ?_
  intro p e s m below meth c s₁ G hx hby hml hown hnm hret hZ X0 e0 hG hR
  have N0 := Fr.nil Z.heap.size
  refine own_entry (Ls := #[.val (.ref b), .val (.int (Int32.ofNat i)), .val (.int ch)]) (by first | (simp [entryFrame, mkF, argsToLocals, Value.category]; done) | rfl) ?_
  show G (s₁.setTop (mkF m 0 #[oa b, oi (Int32.ofNat i), oi ch] []))
  obtain ⟨T1, X1, e1, st1⟩ := getS2 X0 hx hZ hown (host := "") (Or.inl (ow hw 106 rfl)) Via.refl e0 (own_sta g5_S O0) (g := (mkF m 0 #[oa b, oi (Int32.ofNat i), oi ch] [])) rfl (hb hby d20_0)
  refine hG _ _ st1 ?_
  show G (T1.setTop (mkF m 3 #[oa b, oi (Int32.ofNat i), oi ch] [(.int 1)]))
  refine hG _ _ (fun t_ k_ => XS.ifYes X1.here hx rfl (pc0 := 3) (pc' := 28) rfl (hb hby d20_3) rfl ((if0 _ _).trans (feq (by decide)).2) (by decide) (by decide) k_) ?_
  show G (T1.setTop (mkF m 28 #[oa b, oi (Int32.ofNat i), oi ch] []))
  refine hG _ _ (fun t_ k_ => XS.iloadN X1.here hx rfl (hb hby d20_28) rfl k_) ?_
  refine hG _ _ (fun t_ k_ => XS.iconst X1.here hx rfl (hb hby d20_29) k_) ?_
  refine hG _ _ (fun t_ k_ => XS.ishl X1.here hx rfl (hb hby d20_30) rfl k_) ?_
  refine hG _ _ (fun t_ k_ => XS.istoreN X1.here hx rfl (hb hby d20_31) rfl (l' := #[oa b, oi ((Int32.ofNat i) <<< ((1 : Int32) &&& 31)), oi ch]) rfl k_) ?_
  show G (T1.setTop (mkF m 32 #[oa b, oi ((Int32.ofNat i) <<< ((1 : Int32) &&& 31)), oi ch] []))
  rw [own_shl1 i]
  show G (T1.setTop (mkF m 32 #[oa b, oi (Int32.ofNat (2 * i)), oi ch] []))
  refine hG _ _ (fun t_ k_ => XS.aloadN X1.here hx rfl (hb hby d20_32) rfl rfl k_) ?_
  refine hG _ _ (fun t_ k_ => XS.iloadN X1.here hx rfl (hb hby d20_33) rfl k_) ?_
  refine hG _ _ (fun t_ k_ => XS.iinc X1.here hx rfl (hb hby d20_34) rfl (l' := #[oa b, oi ((Int32.ofNat (2 * i)) + (1 : Int32)), oi ch]) rfl k_) ?_
  show G (T1.setTop (mkF m 37 #[oa b, oi ((Int32.ofNat (2 * i)) + (1 : Int32)), oi ch] [(.int (Int32.ofNat (2 * i))), (.ref b)]))
  rw [own_inc (2 * i)]
  show G (T1.setTop (mkF m 37 #[oa b, oi (Int32.ofNat (2 * i + 1)), oi ch] [(.int (Int32.ofNat (2 * i))), (.ref b)]))
  refine hG _ _ (fun t_ k_ => XS.iloadN X1.here hx rfl (hb hby d20_37) rfl k_) ?_
  obtain ⟨T2, X2, e2, st2⟩ := getS2 X1 hx hZ hown (host := "") (Or.inl (ow hw 107 rfl)) Via.refl e1 (own_sta g6_S O0) (g := (mkF m 38 #[oa b, oi (Int32.ofNat (2 * i + 1)), oi ch] [(.int ch), (.int (Int32.ofNat (2 * i))), (.ref b)])) rfl (hb hby d20_38)
  refine hG _ _ st2 ?_
  refine hG _ _ (fun t_ k_ => XS.ishr X2.here hx rfl (hb hby d20_41) rfl k_) ?_
  refine hG _ _ (fun t_ k_ => XS.i2b X2.here hx rfl (hb hby d20_42) rfl k_) ?_
  obtain ⟨c3, Ar3, q3, S3, M3, H3, G3⟩ := id g0_V
  obtain ⟨T3, h3, X3, e3, W3, st3⟩ := stB X2 hx hZ e2 Ar3 (j := (Int32.ofNat (2 * i))) (inb_of S3 ⟨own_nn (by omega), own_lt (by omega) g2_hM⟩) (g := (mkF m 43 #[oa b, oi (Int32.ofNat (2 * i + 1)), oi ch] [(.int ((ch >>> ((0 : Int32) &&& 31)).toInt8.toInt32)), (.int (Int32.ofNat (2 * i))), (.ref b)])) rfl rfl (hb hby d20_43)
  refine hG _ _ st3 ?_
  have K3 : Keep h0 h3 [b] := (Keep.refl h0 [b]).wr W3 (Or.inl (List.mem_of_getElem? (i := 0) rfl))
  have O3 : own_Old Z h3 := O0.wr W3 g1_G
  have V3 : Arv Z h3 b kb .byte (Int32.ofNat M) (vs.set (2 * i) (.int (nar .byte ((ch >>> ((0 : Int32) &&& 31)).toInt8.toInt32)))) (.int 0) := Arv.set Ar3 q3 S3 M3 H3 G3 (fits_nar_byte _) W3 (2 * i) (own_clamp (by omega)) (by omega)
  have N3 := Fr.snoc X3 N0 g1_G
  refine hG _ _ (fun t_ k_ => XS.aloadN X3.here hx rfl (hb hby d20_44) rfl rfl k_) ?_
  refine hG _ _ (fun t_ k_ => XS.iloadN X3.here hx rfl (hb hby d20_45) rfl k_) ?_
  refine hG _ _ (fun t_ k_ => XS.iloadN X3.here hx rfl (hb hby d20_46) rfl k_) ?_
  obtain ⟨T4, X4, e4, st4⟩ := getS2 X3 hx hZ hown (host := "") (Or.inl (ow hw 108 rfl)) Via.refl e3 (own_sta g7_S O3) (g := (mkF m 47 #[oa b, oi (Int32.ofNat (2 * i + 1)), oi ch] [(.int ch), (.int (Int32.ofNat (2 * i + 1))), (.ref b)])) rfl (hb hby d20_47)
  refine hG _ _ st4 ?_
  refine hG _ _ (fun t_ k_ => XS.ishr X4.here hx rfl (hb hby d20_50) rfl k_) ?_
  refine hG _ _ (fun t_ k_ => XS.i2b X4.here hx rfl (hb hby d20_51) rfl k_) ?_
  obtain ⟨c5, Ar5, q5, S5, M5, H5, G5⟩ := id V3
  obtain ⟨T5, h5, X5, e5, W5, st5⟩ := stB X4 hx hZ e4 Ar5 (j := (Int32.ofNat (2 * i + 1))) (inb_of S5 ⟨own_nn (by omega), own_lt (by omega) g2_hM⟩) (g := (mkF m 52 #[oa b, oi (Int32.ofNat (2 * i + 1)), oi ch] [(.int ((ch >>> ((8 : Int32) &&& 31)).toInt8.toInt32)), (.int (Int32.ofNat (2 * i + 1))), (.ref b)])) rfl rfl (hb hby d20_52)
  refine hG _ _ st5 ?_
  have K5 : Keep h0 h5 [b] := K3.wr W5 (Or.inl (List.mem_of_getElem? (i := 0) rfl))
  have O5 : own_Old Z h5 := O3.wr W5 g1_G
  have V5 : Arv Z h5 b kb .byte (Int32.ofNat M) ((vs.set (2 * i) (.int (nar .byte ((ch >>> ((0 : Int32) &&& 31)).toInt8.toInt32)))).set (2 * i + 1) (.int (nar .byte ((ch >>> ((8 : Int32) &&& 31)).toInt8.toInt32)))) (.int 0) := Arv.set Ar5 q5 S5 M5 H5 G5 (fits_nar_byte _) W5 (2 * i + 1) (own_clamp (by omega)) (by rw [List.length_set]; omega)
  have N5 := Fr.snoc X5 N3 g1_G
  show G (T5.setTop (mkF m 53 #[oa b, oi (Int32.ofNat (2 * i + 1)), oi ch] []))
  exact own_retV hR hret X5 hx (hb hby d20_53) (by decide) (by decide) (by rw [e5]; exact ⟨rfl, N5, K5, V5⟩)
theorem own_pd1 : parseMethodDescriptor "([BI)C" = some ⟨[(.array .byte), .int], some .char⟩ := by decide +kernel
theorem own_gch (l : Launch) (Z : State) (a0 : Array Value) (hw : ∀ d ∈ tables_1, d.before a0 Z = true) (b : Addr) (kb : ClassId) (M : Nat) (vs : List Value) (i : Nat) (x : Int32) (y : Int32) (h0 : Heap) (O0 : own_Old Z h0) (g0_V : Arv Z h0 b kb .byte (Int32.ofNat M) vs (.int 0)) (g1_hM : M < 2147483648) (g2_hi : 2 * i + 1 < M) (g3_hx : vs.getD (2 * i) (.int 0) = .int x) (g4_hy : vs.getD (2 * i + 1) (.int 0) = .int y) (g5_S : Sta Z Z.heap "java/lang/StringUTF16" "$assertionsDisabled" "Z" (.int 1)) (g6_S : Sta Z Z.heap "java/lang/StringUTF16" "HI_BYTE_SHIFT" "I" (.int 0)) (g7_S : Sta Z Z.heap "java/lang/StringUTF16" "LO_BYTE_SHIFT" "I" (.int 8)) :
    own_Con l Z (⟨"java/lang/StringUTF16", "getChar", "([BI)C"⟩ : MethodName) jdk_52_method_5_code 2 (some .char) [] ({ frames := 0, cells := 0, slots := 0, locals := 0 } : Room) #[(.ref b), (.int (Int32.ofNat i))] h0 (fun rv rh rL => rv = some (.int (own_join x y)) ∧ own_Fr Z rL ∧ h0 = rh) := by
  refine own_intro (plainFor_of_name (by first | (simp [plainName, overriddenIn]; done) | decide +kernel)) ?_
  intro p e s m below meth c s₁ G hx hby hml hown hnm hret hZ X0 e0 hG hR
  have N0 := Fr.nil Z.heap.size
  refine own_entry (Ls := #[.val (.ref b), .val (.int (Int32.ofNat i))]) (by first | (simp [entryFrame, mkF, argsToLocals, Value.category]; done) | rfl) ?_
  show G (s₁.setTop (mkF m 0 #[oa b, oi (Int32.ofNat i)] []))
  obtain ⟨T1, X1, e1, st1⟩ := getS2 X0 hx hZ hown (host := "") (Or.inl (ow hw 106 rfl)) Via.refl e0 (own_sta g5_S O0) (g := (mkF m 0 #[oa b, oi (Int32.ofNat i)] [])) rfl (hb hby d21_0)
  refine hG _ _ st1 ?_
  show G (T1.setTop (mkF m 3 #[oa b, oi (Int32.ofNat i)] [(.int 1)]))
  refine hG _ _ (fun t_ k_ => XS.ifYes X1.here hx rfl (pc0 := 3) (pc' := 28) rfl (hb hby d21_3) rfl ((if0 _ _).trans (feq (by decide)).2) (by decide) (by decide) k_) ?_
  show G (T1.setTop (mkF m 28 #[oa b, oi (Int32.ofNat i)] []))
  refine hG _ _ (fun t_ k_ => XS.iloadN X1.here hx rfl (hb hby d21_28) rfl k_) ?_
  refine hG _ _ (fun t_ k_ => XS.iconst X1.here hx rfl (hb hby d21_29) k_) ?_
  refine hG _ _ (fun t_ k_ => XS.ishl X1.here hx rfl (hb hby d21_30) rfl k_) ?_
  refine hG _ _ (fun t_ k_ => XS.istoreN X1.here hx rfl (hb hby d21_31) rfl (l' := #[oa b, oi ((Int32.ofNat i) <<< ((1 : Int32) &&& 31))]) rfl k_) ?_
  show G (T1.setTop (mkF m 32 #[oa b, oi ((Int32.ofNat i) <<< ((1 : Int32) &&& 31))] []))
  rw [own_shl1 i]
  show G (T1.setTop (mkF m 32 #[oa b, oi (Int32.ofNat (2 * i))] []))
  refine hG _ _ (fun t_ k_ => XS.aloadN X1.here hx rfl (hb hby d21_32) rfl rfl k_) ?_
  refine hG _ _ (fun t_ k_ => XS.iloadN X1.here hx rfl (hb hby d21_33) rfl k_) ?_
  refine hG _ _ (fun t_ k_ => XS.iinc X1.here hx rfl (hb hby d21_34) rfl (l' := #[oa b, oi ((Int32.ofNat (2 * i)) + (1 : Int32))]) rfl k_) ?_
  show G (T1.setTop (mkF m 37 #[oa b, oi ((Int32.ofNat (2 * i)) + (1 : Int32))] [(.int (Int32.ofNat (2 * i))), (.ref b)]))
  rw [own_inc (2 * i)]
  show G (T1.setTop (mkF m 37 #[oa b, oi (Int32.ofNat (2 * i + 1))] [(.int (Int32.ofNat (2 * i))), (.ref b)]))
  obtain ⟨c2, Ar2, q2, S2, M2, H2, G2⟩ := id g0_V
  have hin2 : ¬ ((Int32.ofNat (2 * i)) < 0 ∨ c2.slots.size ≤ (Int32.ofNat (2 * i)).toNatClampNeg) := inb_of S2 ⟨own_nn (by omega), own_lt (by omega) g1_hM⟩
  refine hG _ _ (X1.baloadBytes hx (j := (Int32.ofNat (2 * i))) (v := (.int x)) (by rw [e1]; exact Ar2.1) (State.isArrayOf_alike hZ.alike Ar2.2.1) Ar2.2.2 hin2 (Has.at H2 hin2 (by rw [own_clamp (by omega)]; exact g3_hx)) (g := (mkF m 37 #[oa b, oi (Int32.ofNat (2 * i + 1))] [(.int (Int32.ofNat (2 * i))), (.ref b)])) rfl rfl (hb hby d21_37)) ?_
  refine hG _ _ (fun t_ k_ => XS.sipush X1.here hx rfl (hb hby d21_38) k_) ?_
  refine hG _ _ (fun t_ k_ => XS.iand X1.here hx rfl (hb hby d21_41) rfl k_) ?_
  obtain ⟨T3, X3, e3, st3⟩ := getS2 X1 hx hZ hown (host := "") (Or.inl (ow hw 107 rfl)) Via.refl e1 (own_sta g6_S O0) (g := (mkF m 42 #[oa b, oi (Int32.ofNat (2 * i + 1))] [(.int (x &&& (255 : Int32)))])) rfl (hb hby d21_42)
  refine hG _ _ st3 ?_
  refine hG _ _ (fun t_ k_ => XS.ishl X3.here hx rfl (hb hby d21_45) rfl k_) ?_
  refine hG _ _ (fun t_ k_ => XS.aloadN X3.here hx rfl (hb hby d21_46) rfl rfl k_) ?_
  refine hG _ _ (fun t_ k_ => XS.iloadN X3.here hx rfl (hb hby d21_47) rfl k_) ?_
  obtain ⟨c4, Ar4, q4, S4, M4, H4, G4⟩ := id g0_V
  have hin4 : ¬ ((Int32.ofNat (2 * i + 1)) < 0 ∨ c4.slots.size ≤ (Int32.ofNat (2 * i + 1)).toNatClampNeg) := inb_of S4 ⟨own_nn (by omega), own_lt (by omega) g1_hM⟩
  refine hG _ _ (X3.baloadBytes hx (j := (Int32.ofNat (2 * i + 1))) (v := (.int y)) (by rw [e3]; exact Ar4.1) (State.isArrayOf_alike hZ.alike Ar4.2.1) Ar4.2.2 hin4 (Has.at H4 hin4 (by rw [own_clamp (by omega)]; exact g4_hy)) (g := (mkF m 48 #[oa b, oi (Int32.ofNat (2 * i + 1))] [(.int (Int32.ofNat (2 * i + 1))), (.ref b), (.int ((x &&& (255 : Int32)) <<< ((0 : Int32) &&& 31)))])) rfl rfl (hb hby d21_48)) ?_
  refine hG _ _ (fun t_ k_ => XS.sipush X3.here hx rfl (hb hby d21_49) k_) ?_
  refine hG _ _ (fun t_ k_ => XS.iand X3.here hx rfl (hb hby d21_52) rfl k_) ?_
  obtain ⟨T5, X5, e5, st5⟩ := getS2 X3 hx hZ hown (host := "") (Or.inl (ow hw 108 rfl)) Via.refl e3 (own_sta g7_S O0) (g := (mkF m 53 #[oa b, oi (Int32.ofNat (2 * i + 1))] [(.int (y &&& (255 : Int32))), (.int ((x &&& (255 : Int32)) <<< ((0 : Int32) &&& 31)))])) rfl (hb hby d21_53)
  refine hG _ _ st5 ?_
  refine hG _ _ (fun t_ k_ => XS.ishl X5.here hx rfl (hb hby d21_56) rfl k_) ?_
  refine hG _ _ (fun t_ k_ => XS.ior X5.here hx rfl (hb hby d21_57) rfl k_) ?_
  refine hG _ _ (fun t_ k_ => XS.i2c X5.here hx rfl (hb hby d21_58) rfl k_) ?_
  show G (T5.setTop (mkF m 59 #[oa b, oi (Int32.ofNat (2 * i + 1))] [(.int ((((x &&& (255 : Int32)) <<< ((0 : Int32) &&& 31)) ||| ((y &&& (255 : Int32)) <<< ((8 : Int32) &&& 31))).toUInt32.toUInt16.toUInt32.toInt32))]))
  exact own_retN hR hret (by simp) X5 hx (hb hby d21_59) (by decide) (by decide) (by rw [e5]; exact ⟨rfl, N0, rfl⟩)
theorem own_pd2 : parseMethodDescriptor "([CI[BII)I" = some ⟨[(.array .char), .int, (.array .byte), .int, .int], some .int⟩ := by decide +kernel
theorem own_gcmp5 (l : Launch) (Z : State) (a0 : Array Value) (hw : ∀ d ∈ tables_1, d.before a0 Z = true) (a : Addr) (b : Addr) (ka : ClassId) (kb : ClassId) (cs : List Int32) (h0 : Heap) (O0 : own_Old Z h0) (g0_V : Arv Z h0 a ka .char (Int32.ofNat cs.length) (cs.map Value.int) (.int 0)) (g1_V : Arv Z h0 b kb .byte (Int32.ofNat cs.length) [] (.int 0)) (g2_G : Z.heap.size ≤ b) (g3_hne : a ≠ b) (g4_hlen : cs.length < 2147483648) :
    own_Con l Z (⟨"java/lang/StringUTF16", "compress", "([CI[BII)I"⟩ : MethodName) jdk_52_method_21_code 7 (some .int) [] ({ frames := 0, cells := 0, slots := 0, locals := 0 } : Room) #[(.ref a), (.int 0), (.ref b), (.int 0), (.int (Int32.ofNat cs.length))] h0 (fun rv rh rL => ∃ (r : Int32) (vs : List Value), rv = some (.int r) ∧ own_Fr Z rL ∧ Keep h0 rh [b] ∧ (Arv Z rh b kb .byte (Int32.ofNat cs.length) vs (.int 0)) ∧ ((r = (Int32.ofNat cs.length) ∧ (∀ c ∈ cs, ¬ ((255 : Int32) < c)) ∧ vs = (cs.map fun c => Value.int c.toInt8.toInt32)) ∨ (∃ k, k < cs.length ∧ r = Int32.ofNat k ∧ (255 : Int32) < cs.getD k 0))) := by
  refine own_intro (plainFor_of_name (by first | (simp [plainName, overriddenIn]; done) | decide +kernel)) ?_
  intro p e s m below meth c s₁ G hx hby hml hown hnm hret hZ X0 e0 hG hR
  have N0 := Fr.nil Z.heap.size
  refine own_entry (Ls := #[.val (.ref a), .val (.int 0), .val (.ref b), .val (.int 0), .val (.int (Int32.ofNat cs.length)), .unset, .unset]) (by first | (simp [entryFrame, mkF, argsToLocals, Value.category]; done) | rfl) ?_
  show G (s₁.setTop (mkF m 0 #[oa a, oi 0, oa b, oi 0, oi (Int32.ofNat cs.length), .unset, .unset] []))
  refine hG _ _ (fun t_ k_ => XS.iconst X0.here hx rfl (hb hby d10_0) k_) ?_
  refine hG _ _ (fun t_ k_ => XS.istore X0.here hx rfl (hb hby d10_1) rfl (l' := #[oa a, oi 0, oa b, oi 0, oi (Int32.ofNat cs.length), oi 0, .unset]) rfl k_) ?_
  show G (s₁.setTop (mkF m 3 #[oa a, oi 0, oa b, oi 0, oi (Int32.ofNat cs.length), oi 0, .unset] []))
  have loop : ∀ (r i : Nat) (T : State) (locs : List Loc) (hT : Heap) (vs : List Value) (ch : Slot), r + i = cs.length → Stand p l e ({ frames := 0, cells := 0, slots := 0, locals := 0 } : Room) s m #[(.ref a), (.int 0), (.ref b), (.int 0), (.int (Int32.ofNat cs.length))] below meth c T locs 0 0 → T.heap = hT → Keep h0 hT [b] → own_Old Z hT → own_Fr Z locs → Arv Z hT b kb .byte (Int32.ofNat cs.length) vs (.int 0) → vs.length = cs.length → (∀ j, j < i → vs.getD j (.int 0) = Value.int (cs.getD j 0).toInt8.toInt32) → (∀ j, j < i → ¬ ((255 : Int32) < cs.getD j 0)) → One ch → G (T.setTop (mkF m 3 #[oa a, oi (Int32.ofNat i), oa b, oi (Int32.ofNat i), oi (Int32.ofNat cs.length), oi (Int32.ofNat i), ch] [])) := by
    intro r
    induction r with
    | zero =>
      intro i T locs hT vs ch hri X eT K O N V hl hv hs hch
      have hi : i = cs.length := by omega
      subst hi
      have hvs := own_mapEq (fun c : Int32 => Value.int c.toInt8.toInt32) cs vs (.int 0) 0 hl hv
      refine hG _ _ (fun t_ k_ => XS.iload X.here hx rfl (hb hby d10_3) rfl k_) ?_
      refine hG _ _ (fun t_ k_ => XS.iload X.here hx rfl (hb hby d10_5) rfl k_) ?_
      show G (T.setTop (mkF m 7 #[oa a, oi (Int32.ofNat cs.length), oa b, oi (Int32.ofNat cs.length), oi (Int32.ofNat cs.length), oi (Int32.ofNat cs.length), ch] [(.int (Int32.ofNat cs.length)), (.int (Int32.ofNat cs.length))]))
      refine hG _ _ (fun t_ k_ => XS.icmpYes X.here hx rfl (pc0 := 7) (pc' := 44) rfl (hb hby d10_7) rfl (flt (own_nlt (Nat.le_refl _) g4_hlen)).2.1 (by decide) (by decide) k_) ?_
      show G (T.setTop (mkF m 44 #[oa a, oi (Int32.ofNat cs.length), oa b, oi (Int32.ofNat cs.length), oi (Int32.ofNat cs.length), oi (Int32.ofNat cs.length), ch] []))
      refine hG _ _ (fun t_ k_ => XS.iload X.here hx rfl (hb hby d10_44) rfl k_) ?_
      show G (T.setTop (mkF m 46 #[oa a, oi (Int32.ofNat cs.length), oa b, oi (Int32.ofNat cs.length), oi (Int32.ofNat cs.length), oi (Int32.ofNat cs.length), ch] [(.int (Int32.ofNat cs.length))]))
      exact own_retI hR hret X hx (hb hby d10_46) (by decide) (by decide) (by rw [eT]; exact ⟨(Int32.ofNat cs.length), vs, rfl, N, K, V, (Or.inl ⟨rfl, own_allD cs 0 hs, hvs⟩)⟩)
    | succ r ih =>
      intro i T locs hT vs ch hri X eT K O N V hl hv hs hch
      have hi : i < cs.length := by omega
      refine hG _ _ (fun t_ k_ => XS.iload X.here hx rfl (hb hby d10_3) rfl k_) ?_
      refine hG _ _ (fun t_ k_ => XS.iload X.here hx rfl (hb hby d10_5) rfl k_) ?_
      show G (T.setTop (mkF m 7 #[oa a, oi (Int32.ofNat i), oa b, oi (Int32.ofNat i), oi (Int32.ofNat cs.length), oi (Int32.ofNat i), ch] [(.int (Int32.ofNat cs.length)), (.int (Int32.ofNat i))]))
      refine hG _ _ (fun t_ k_ => XS.icmpNo X.here hx rfl (hb hby d10_7) rfl (tlt (own_lt hi g4_hlen)).2.1 k_) ?_
      show G (T.setTop (mkF m 10 #[oa a, oi (Int32.ofNat i), oa b, oi (Int32.ofNat i), oi (Int32.ofNat cs.length), oi (Int32.ofNat i), ch] []))
      refine hG _ _ (fun t_ k_ => XS.aloadN X.here hx rfl (hb hby d10_10) rfl rfl k_) ?_
      refine hG _ _ (fun t_ k_ => XS.iloadN X.here hx rfl (hb hby d10_11) rfl k_) ?_
      obtain ⟨c1, Ar1, q1, S1, M1, H1, G1⟩ := id (g0_V.keep K (ninS g3_hne nin0))
      have hin1 : ¬ ((Int32.ofNat i) < 0 ∨ c1.slots.size ≤ (Int32.ofNat i).toNatClampNeg) := inb_of S1 ⟨own_nn (by omega), own_lt hi g4_hlen⟩
      refine hG _ _ (X.caload hx (j := (Int32.ofNat i)) (v := (.int (cs.getD i 0))) (by rw [eT]; exact Ar1.1) (State.isArrayOf_alike hZ.alike Ar1.2.1) Ar1.2.2 hin1 (Has.at H1 hin1 (by rw [own_clamp (by omega)]; exact own_getD_map Value.int cs i _ 0 hi)) (g := (mkF m 12 #[oa a, oi (Int32.ofNat i), oa b, oi (Int32.ofNat i), oi (Int32.ofNat cs.length), oi (Int32.ofNat i), ch] [(.int (Int32.ofNat i)), (.ref a)])) rfl rfl (hb hby d10_12)) ?_
      refine hG _ _ (fun t_ k_ => XS.istoreS X.here hx rfl (hb hby d10_13) rfl rfl hch k_) ?_
      refine hG _ _ (fun t_ k_ => XS.iload X.here hx rfl (hb hby d10_15) rfl k_) ?_
      refine hG _ _ (fun t_ k_ => XS.sipush X.here hx rfl (hb hby d10_17) k_) ?_
      show G (T.setTop (mkF m 20 #[oa a, oi (Int32.ofNat i), oa b, oi (Int32.ofNat i), oi (Int32.ofNat cs.length), oi (Int32.ofNat i), oi (cs.getD i 0)] [(.int 255), (.int (cs.getD i 0))]))
      by_cases hc20_2 : (255 : Int32) < (cs.getD i 0)
      · skip
        refine hG _ _ (fun t_ k_ => XS.icmpNo X.here hx rfl (hb hby d10_20) rfl (tlt hc20_2).2.2.2 k_) ?_
        show G (T.setTop (mkF m 23 #[oa a, oi (Int32.ofNat i), oa b, oi (Int32.ofNat i), oi (Int32.ofNat cs.length), oi (Int32.ofNat i), oi (cs.getD i 0)] []))
        refine hG _ _ (fun t_ k_ => XS.iload X.here hx rfl (hb hby d10_23) rfl k_) ?_
        show G (T.setTop (mkF m 25 #[oa a, oi (Int32.ofNat i), oa b, oi (Int32.ofNat i), oi (Int32.ofNat cs.length), oi (Int32.ofNat i), oi (cs.getD i 0)] [(.int (Int32.ofNat i))]))
        exact own_retI hR hret X hx (hb hby d10_25) (by decide) (by decide) (by rw [eT]; exact ⟨(Int32.ofNat i), vs, rfl, N, K, V, (Or.inr ⟨i, hi, rfl, hc20_2⟩)⟩)
      · skip
        refine hG _ _ (fun t_ k_ => XS.icmpYes X.here hx rfl (pc0 := 20) (pc' := 26) rfl (hb hby d10_20) rfl (flt hc20_2).2.2.2 (by decide) (by decide) k_) ?_
        show G (T.setTop (mkF m 26 #[oa a, oi (Int32.ofNat i), oa b, oi (Int32.ofNat i), oi (Int32.ofNat cs.length), oi (Int32.ofNat i), oi (cs.getD i 0)] []))
        refine hG _ _ (fun t_ k_ => XS.aloadN X.here hx rfl (hb hby d10_26) rfl rfl k_) ?_
        refine hG _ _ (fun t_ k_ => XS.iloadN X.here hx rfl (hb hby d10_27) rfl k_) ?_
        refine hG _ _ (fun t_ k_ => XS.iload X.here hx rfl (hb hby d10_28) rfl k_) ?_
        refine hG _ _ (fun t_ k_ => XS.i2b X.here hx rfl (hb hby d10_30) rfl k_) ?_
        obtain ⟨c3, Ar3, q3, S3, M3, H3, G3⟩ := id V
        obtain ⟨T3, h3, X3, e3, W3, st3⟩ := stB X hx hZ eT Ar3 (j := (Int32.ofNat i)) (inb_of S3 ⟨own_nn (by omega), own_lt hi g4_hlen⟩) (g := (mkF m 31 #[oa a, oi (Int32.ofNat i), oa b, oi (Int32.ofNat i), oi (Int32.ofNat cs.length), oi (Int32.ofNat i), oi (cs.getD i 0)] [(.int ((cs.getD i 0).toInt8.toInt32)), (.int (Int32.ofNat i)), (.ref b)])) rfl rfl (hb hby d10_31)
        refine hG _ _ st3 ?_
        have K3 : Keep h0 h3 [b] := K.wr W3 (Or.inl (List.mem_of_getElem? (i := 0) rfl))
        have O3 : own_Old Z h3 := O.wr W3 g2_G
        have V3 : Arv Z h3 b kb .byte (Int32.ofNat cs.length) (vs.set i (.int (nar .byte ((cs.getD i 0).toInt8.toInt32)))) (.int 0) := Arv.set Ar3 q3 S3 M3 H3 G3 (fits_nar_byte _) W3 i (own_clamp (by omega)) (by omega)
        have N3 := Fr.snoc X3 N g2_G
        refine hG _ _ (fun t_ k_ => XS.iinc X3.here hx rfl (hb hby d10_32) rfl (l' := #[oa a, oi ((Int32.ofNat i) + (1 : Int32)), oa b, oi (Int32.ofNat i), oi (Int32.ofNat cs.length), oi (Int32.ofNat i), oi (cs.getD i 0)]) rfl k_) ?_
        refine hG _ _ (fun t_ k_ => XS.iinc X3.here hx rfl (hb hby d10_35) rfl (l' := #[oa a, oi ((Int32.ofNat i) + (1 : Int32)), oa b, oi ((Int32.ofNat i) + (1 : Int32)), oi (Int32.ofNat cs.length), oi (Int32.ofNat i), oi (cs.getD i 0)]) rfl k_) ?_
        refine hG _ _ (fun t_ k_ => XS.iinc X3.here hx rfl (hb hby d10_38) rfl (l' := #[oa a, oi ((Int32.ofNat i) + (1 : Int32)), oa b, oi ((Int32.ofNat i) + (1 : Int32)), oi (Int32.ofNat cs.length), oi ((Int32.ofNat i) + (1 : Int32)), oi (cs.getD i 0)]) rfl k_) ?_
        refine hG _ _ (fun t_ k_ => XS.goto X3.here hx rfl (pc0 := 41) (pc' := 3) rfl (hb hby d10_41) (by decide) (by decide) k_) ?_
        show G (T3.setTop (mkF m 3 #[oa a, oi ((Int32.ofNat i) + (1 : Int32)), oa b, oi ((Int32.ofNat i) + (1 : Int32)), oi (Int32.ofNat cs.length), oi ((Int32.ofNat i) + (1 : Int32)), oi (cs.getD i 0)] []))
        rw [own_inc i]
        exact ih (i + 1) _ _ _ _ _ (by omega) X3 e3 K3 O3 N3 V3 (by rw [List.length_set]; exact hl) (own_setNext (fun c => Value.int c.toInt8.toInt32) _ _ (by omega) (by rw [own_nb]) hv) (own_nextD (P := fun c => ¬ ((255 : Int32) < c)) hs hc20_2) (One.val rfl)
  exact loop cs.length 0 _ _ _ _ _ rfl X0 e0 (Keep.refl h0 [b]) O0 N0 (g1_V.pad (pad_rep [] (.int 0) cs.length)) (by simp) (fun j hj => absurd hj (Nat.not_lt_zero j)) (fun j hj => absurd hj (Nat.not_lt_zero j)) One.u
theorem own_pd3 : parseMethodDescriptor "(I)I" = some ⟨[.int], some .int⟩ := by decide +kernel
theorem own_nbl (l : Launch) (Z : State) (a0 : Array Value) (hw : ∀ d ∈ tables_1, d.before a0 Z = true) (n : Nat) (h0 : Heap) (O0 : own_Old Z h0) (g0_hn : n < 1073741823) :
    own_Con l Z (⟨"java/lang/StringUTF16", "newBytesLength", "(I)I"⟩ : MethodName) jdk_52_method_3_code 1 (some .int) [] ({ frames := 0, cells := 0, slots := 0, locals := 0 } : Room) #[(.int (Int32.ofNat n))] h0 (fun rv rh rL => rv = some (.int (Int32.ofNat (2 * n))) ∧ own_Fr Z rL ∧ h0 = rh) := by
  refine own_intro (plainFor_of_name (by first | (simp [plainName, overriddenIn]; done) | decide +kernel)) ?_
  intro p e s m below meth c s₁ G hx hby hml hown hnm hret hZ X0 e0 hG hR
  have N0 := Fr.nil Z.heap.size
  refine own_entry (Ls := #[.val (.int (Int32.ofNat n))]) (by first | (simp [entryFrame, mkF, argsToLocals, Value.category]; done) | rfl) ?_
  show G (s₁.setTop (mkF m 0 #[oi (Int32.ofNat n)] []))
  refine hG _ _ (fun t_ k_ => XS.iloadN X0.here hx rfl (hb hby d19_0) rfl k_) ?_
  show G (s₁.setTop (mkF m 1 #[oi (Int32.ofNat n)] [(.int (Int32.ofNat n))]))
  refine hG _ _ (fun t_ k_ => XS.ifYes X0.here hx rfl (pc0 := 1) (pc' := 12) rfl (hb hby d19_1) rfl ((if0 _ _).trans (flt (own_nn (by omega))).2.1) (by decide) (by decide) k_) ?_
  show G (s₁.setTop (mkF m 12 #[oi (Int32.ofNat n)] []))
  refine hG _ _ (fun t_ k_ => XS.iloadN X0.here hx rfl (hb hby d19_12) rfl k_) ?_
  refine hG _ _ (X0.ldcInt hx hown (mvT hZ (ow hw 102 rfl)) (g := (mkF m 13 #[oi (Int32.ofNat n)] [(.int (Int32.ofNat n))])) rfl (hb hby d19_13)) ?_
  show G (s₁.setTop (mkF m 15 #[oi (Int32.ofNat n)] [(.int 1073741823), (.int (Int32.ofNat n))]))
  refine hG _ _ (fun t_ k_ => XS.icmpYes X0.here hx rfl (pc0 := 15) (pc' := 55) rfl (hb hby d19_15) rfl (tlt (own_ltK g0_hn)).1 (by decide) (by decide) k_) ?_
  show G (s₁.setTop (mkF m 55 #[oi (Int32.ofNat n)] []))
  refine hG _ _ (fun t_ k_ => XS.iloadN X0.here hx rfl (hb hby d19_55) rfl k_) ?_
  refine hG _ _ (fun t_ k_ => XS.iconst X0.here hx rfl (hb hby d19_56) k_) ?_
  refine hG _ _ (fun t_ k_ => XS.ishl X0.here hx rfl (hb hby d19_57) rfl k_) ?_
  show G (s₁.setTop (mkF m 58 #[oi (Int32.ofNat n)] [(.int ((Int32.ofNat n) <<< ((1 : Int32) &&& 31)))]))
  exact own_retI hR hret X0 hx (hb hby d19_58) (by decide) (by decide) (by rw [e0]; exact ⟨(by rw [own_shl1]), N0, rfl⟩)
theorem own_pd4 : parseMethodDescriptor "(I)[B" = some ⟨[.int], some (.array .byte)⟩ := by decide +kernel
theorem own_nbf (l : Launch) (Z : State) (a0 : Array Value) (hw : ∀ d ∈ tables_1, d.before a0 Z = true) (n : Nat) (h0 : Heap) (O0 : own_Old Z h0) (g0_hn : n ≤ 14) :
    own_Con l Z (⟨"java/lang/StringUTF16", "newBytesFor", "(I)[B"⟩ : MethodName) jdk_52_method_2_code 1 (some (.array .byte)) [] ({ frames := 1, cells := 1, slots := 28, locals := 12 } : Room) #[(.int (Int32.ofNat n))] h0 (fun rv rh rL => ∃ (t : Addr) (kt : ClassId), rv = some (.ref t) ∧ own_Fr Z rL ∧ Keep h0 rh [] ∧ h0.size ≤ t ∧ (Arv Z rh t kt .byte (Int32.ofNat (2 * n)) [] (.int 0))) := by
  refine own_intro (plainFor_of_name (by first | (simp [plainName, overriddenIn]; done) | decide +kernel)) ?_
  intro p e s m below meth c s₁ G hx hby hml hown hnm hret hZ X0 e0 hG hR
  have N0 := Fr.nil Z.heap.size
  refine own_entry (Ls := #[.val (.int (Int32.ofNat n))]) (by first | (simp [entryFrame, mkF, argsToLocals, Value.category]; done) | rfl) ?_
  show G (s₁.setTop (mkF m 0 #[oi (Int32.ofNat n)] []))
  refine hG _ _ (fun t_ k_ => XS.iloadN X0.here hx rfl (hb hby d18_0) rfl k_) ?_
  show G (s₁.setTop (mkF m 1 #[oi (Int32.ofNat n)] [(.int (Int32.ofNat n))]))
  refine own_callS X0 hx hZ hG hown (ow hw 99 rfl) (ow hw 100 rfl) (ow hw 59 rfl) (ow hw 101 rfl) (by decide) 0 (own_nbl l Z a0 hw n h0 O0 (by omega)) (by decide) (by decide) e0 (by rw [hml]; rfl) (lenOf own_pd3 rfl) (argsL := [(.int (Int32.ofNat n))]) (rest := []) rfl rfl (Nat.le_of_eq rfl) (hb hby d18_1) (by decide) (by decide) ?_
  intro T1 h1 v1 L1 X1 e1 q1
  obtain ⟨rfl, M1, rfl⟩ := q1
  have N1 := Fr.app N0 M1
  obtain ⟨T2, h2, k2, X2, e2, E2, A2, st2⟩ := newP X1 hx hZ (ow hw 61 rfl) e1 (g := (mkF m 4 #[oi (Int32.ofNat n)] [(.int (Int32.ofNat (2 * n)))])) rfl (hb hby d18_4) rfl (own_nn (by omega)) (cap := 28) (by rw [own_clamp (by omega)]; omega) (by decide) (by decide) (by decide)
  obtain ⟨b2, z2⟩ : ∃ z, z = h0.size := ⟨_, rfl⟩
  rw [← z2] at A2 st2
  refine hG _ _ st2 ?_
  have K2 : Keep h0 h2 [] := (Keep.refl h0 []).ext E2
  have O2 : own_Old Z h2 := O0.ext E2
  have V2 : Arv Z h2 b2 k2 .byte (Int32.ofNat (2 * n)) [] (.int 0) := Arv.new A2 (own_nn (by omega))
  show G (T2.setTop (mkF m 6 #[oi (Int32.ofNat n)] [(.ref b2)]))
  exact own_retA hR hret rfl rfl X2 hx (hb hby d18_6) (by decide) (by decide) (by rw [e2]; exact ⟨b2, k2, rfl, N1, K2, (Nat.le_trans (Keep.refl h0 []).1 (Nat.le_of_eq z2.symm)), V2⟩)
theorem own_pd5 : parseMethodDescriptor "([CII)[B" = some ⟨[(.array .char), .int, .int], some (.array .byte)⟩ := by decide +kernel
theorem own_tob (l : Launch) (Z : State) (a0 : Array Value) (hw : ∀ d ∈ tables_1, d.before a0 Z = true) (a : Addr) (ka : ClassId) (cs : List Int32) (h0 : Heap) (O0 : own_Old Z h0) (g0_V : Arv Z h0 a ka .char (Int32.ofNat cs.length) (cs.map Value.int) (.int 0)) (g1_hcap : cs.length ≤ 14) (g2_S : Sta Z Z.heap "java/lang/StringUTF16" "$assertionsDisabled" "Z" (.int 1)) (g3_S : Sta Z Z.heap "java/lang/StringUTF16" "HI_BYTE_SHIFT" "I" (.int 0)) (g4_S : Sta Z Z.heap "java/lang/StringUTF16" "LO_BYTE_SHIFT" "I" (.int 8)) :
    own_Con l Z (⟨"java/lang/StringUTF16", "toBytes", "([CII)[B"⟩ : MethodName) jdk_52_method_14_code 5 (some (.array .byte)) [] ({ frames := 2, cells := 1, slots := 28, locals := 24 } : Room) #[(.ref a), (.int 0), (.int (Int32.ofNat cs.length))] h0 (fun rv rh rL => ∃ (t : Addr) (kt : ClassId) (vs : List Value), rv = some (.ref t) ∧ own_Fr Z rL ∧ Keep h0 rh [] ∧ h0.size ≤ t ∧ (Arv Z rh t kt .byte (Int32.ofNat (2 * cs.length)) vs (.int 0)) ∧ (own_is16 cs vs)) := by
  refine own_intro (plainFor_of_name (by first | (simp [plainName, overriddenIn]; done) | decide +kernel)) ?_
  intro p e s m below meth c s₁ G hx hby hml hown hnm hret hZ X0 e0 hG hR
  have N0 := Fr.nil Z.heap.size
  refine own_entry (Ls := #[.val (.ref a), .val (.int 0), .val (.int (Int32.ofNat cs.length)), .unset, .unset]) (by first | (simp [entryFrame, mkF, argsToLocals, Value.category]; done) | rfl) ?_
  show G (s₁.setTop (mkF m 0 #[oa a, oi 0, oi (Int32.ofNat cs.length), .unset, .unset] []))
  refine hG _ _ (fun t_ k_ => XS.iloadN X0.here hx rfl (hb hby d17_0) rfl k_) ?_
  show G (s₁.setTop (mkF m 1 #[oa a, oi 0, oi (Int32.ofNat cs.length), .unset, .unset] [(.int (Int32.ofNat cs.length))]))
  refine own_callS X0 hx hZ hG hown (ow hw 96 rfl) (ow hw 97 rfl) (ow hw 59 rfl) (ow hw 98 rfl) (by decide) 0 (own_nbf l Z a0 hw cs.length h0 O0 g1_hcap) (by decide) (by decide) e0 (by rw [hml]; rfl) (lenOf own_pd4 rfl) (argsL := [(.int (Int32.ofNat cs.length))]) (rest := []) rfl rfl (Nat.le_of_eq rfl) (hb hby d17_1) (by decide) (by decide) ?_
  intro T1 h1 v1 L1 X1 e1 q1
  obtain ⟨t_1, kt_1, rfl, M1, J1, y1_0, r1_0⟩ := q1
  have N1 := Fr.app N0 M1
  have K1 : Keep h0 h1 [] := (Keep.refl h0 []).trans J1 all0
  have O1 : own_Old Z h1 := O0.keep J1 all0
  refine hG _ _ (fun t_ k_ => XS.astoreN X1.here hx rfl (hb hby d17_4) rfl rfl (l' := #[oa a, oi 0, oi (Int32.ofNat cs.length), oa t_1, .unset]) rfl k_) ?_
  refine hG _ _ (fun t_ k_ => XS.iconst X1.here hx rfl (hb hby d17_5) k_) ?_
  refine hG _ _ (fun t_ k_ => XS.istore X1.here hx rfl (hb hby d17_6) rfl (l' := #[oa a, oi 0, oi (Int32.ofNat cs.length), oa t_1, oi 0]) rfl k_) ?_
  show G (T1.setTop (mkF m 8 #[oa a, oi 0, oi (Int32.ofNat cs.length), oa t_1, oi 0] []))
  have loop : ∀ (r i : Nat) (T : State) (locs : List Loc) (hT : Heap) (vs : List Value), r + i = cs.length → Stand p l e ({ frames := 2, cells := 1, slots := 28, locals := 24 } : Room) s m #[(.ref a), (.int 0), (.int (Int32.ofNat cs.length))] below meth c T locs 1 28 → T.heap = hT → Keep h0 hT [] → own_Old Z hT → own_Fr Z locs → Arv Z hT t_1 kt_1 .byte (Int32.ofNat (2 * cs.length)) vs (.int 0) → vs.length = 2 * cs.length → (∀ j, j < i → vs.getD (2 * j) (.int 0) = .int (own_lo (cs.getD j 0)) ∧ vs.getD (2 * j + 1) (.int 0) = .int (own_hi (cs.getD j 0))) → G (T.setTop (mkF m 8 #[oa a, oi (Int32.ofNat i), oi (Int32.ofNat cs.length), oa t_1, oi (Int32.ofNat i)] [])) := by
    intro r
    induction r with
    | zero =>
      intro i T locs hT vs hri X eT K O N V hl hv
      have hi : i = cs.length := by omega
      subst hi
      refine hG _ _ (fun t_ k_ => XS.iload X.here hx rfl (hb hby d17_8) rfl k_) ?_
      refine hG _ _ (fun t_ k_ => XS.iloadN X.here hx rfl (hb hby d17_10) rfl k_) ?_
      show G (T.setTop (mkF m 11 #[oa a, oi (Int32.ofNat cs.length), oi (Int32.ofNat cs.length), oa t_1, oi (Int32.ofNat cs.length)] [(.int (Int32.ofNat cs.length)), (.int (Int32.ofNat cs.length))]))
      refine hG _ _ (fun t_ k_ => XS.icmpYes X.here hx rfl (pc0 := 11) (pc' := 32) rfl (hb hby d17_11) rfl (flt (own_nlt (Nat.le_refl _) (by omega))).2.1 (by decide) (by decide) k_) ?_
      show G (T.setTop (mkF m 32 #[oa a, oi (Int32.ofNat cs.length), oi (Int32.ofNat cs.length), oa t_1, oi (Int32.ofNat cs.length)] []))
      refine hG _ _ (fun t_ k_ => XS.aloadN X.here hx rfl (hb hby d17_32) rfl rfl k_) ?_
      show G (T.setTop (mkF m 33 #[oa a, oi (Int32.ofNat cs.length), oi (Int32.ofNat cs.length), oa t_1, oi (Int32.ofNat cs.length)] [(.ref t_1)]))
      exact own_retA hR hret rfl rfl X hx (hb hby d17_33) (by decide) (by decide) (by rw [eT]; exact ⟨t_1, kt_1, vs, rfl, N, K, (Nat.le_trans (Keep.refl h0 []).1 y1_0), V, ⟨hl, hv⟩⟩)
    | succ r ih =>
      intro i T locs hT vs hri X eT K O N V hl hv
      have hi : i < cs.length := by omega
      refine hG _ _ (fun t_ k_ => XS.iload X.here hx rfl (hb hby d17_8) rfl k_) ?_
      refine hG _ _ (fun t_ k_ => XS.iloadN X.here hx rfl (hb hby d17_10) rfl k_) ?_
      show G (T.setTop (mkF m 11 #[oa a, oi (Int32.ofNat i), oi (Int32.ofNat cs.length), oa t_1, oi (Int32.ofNat i)] [(.int (Int32.ofNat cs.length)), (.int (Int32.ofNat i))]))
      refine hG _ _ (fun t_ k_ => XS.icmpNo X.here hx rfl (hb hby d17_11) rfl (tlt (own_lt hi (by omega))).2.1 k_) ?_
      show G (T.setTop (mkF m 14 #[oa a, oi (Int32.ofNat i), oi (Int32.ofNat cs.length), oa t_1, oi (Int32.ofNat i)] []))
      refine hG _ _ (fun t_ k_ => XS.aloadN X.here hx rfl (hb hby d17_14) rfl rfl k_) ?_
      refine hG _ _ (fun t_ k_ => XS.iload X.here hx rfl (hb hby d17_15) rfl k_) ?_
      refine hG _ _ (fun t_ k_ => XS.aloadN X.here hx rfl (hb hby d17_17) rfl rfl k_) ?_
      refine hG _ _ (fun t_ k_ => XS.iloadN X.here hx rfl (hb hby d17_18) rfl k_) ?_
      obtain ⟨c2, Ar2, q2, S2, M2, H2, G2⟩ := id (g0_V.keep K nin0)
      have hin2 : ¬ ((Int32.ofNat i) < 0 ∨ c2.slots.size ≤ (Int32.ofNat i).toNatClampNeg) := inb_of S2 ⟨own_nn (by omega), own_lt hi (by omega)⟩
      refine hG _ _ (X.caload hx (j := (Int32.ofNat i)) (v := (.int (cs.getD i 0))) (by rw [eT]; exact Ar2.1) (State.isArrayOf_alike hZ.alike Ar2.2.1) Ar2.2.2 hin2 (Has.at H2 hin2 (by rw [own_clamp (by omega)]; exact own_getD_map Value.int cs i _ 0 hi)) (g := (mkF m 19 #[oa a, oi (Int32.ofNat i), oi (Int32.ofNat cs.length), oa t_1, oi (Int32.ofNat i)] [(.int (Int32.ofNat i)), (.ref a), (.int (Int32.ofNat i)), (.ref t_1)])) rfl rfl (hb hby d17_19)) ?_
      show G (T.setTop (mkF m 20 #[oa a, oi (Int32.ofNat i), oi (Int32.ofNat cs.length), oa t_1, oi (Int32.ofNat i)] [(.int (cs.getD i 0)), (.int (Int32.ofNat i)), (.ref t_1)]))
      refine own_callS X hx hZ hG hown (ow hw 103 rfl) (ow hw 104 rfl) (ow hw 59 rfl) (ow hw 105 rfl) (by decide) 0 (own_put l Z a0 hw t_1 kt_1 (2 * cs.length) vs i (cs.getD i 0) hT O V (own_ge O0 y1_0) (by omega) (by omega) hl g2_S g3_S g4_S) (by decide) (by decide) eT (by rw [hml]; rfl) (lenOf own_pd0 rfl) (argsL := [(.ref t_1), (.int (Int32.ofNat i)), (.int (cs.getD i 0))]) (rest := []) rfl rfl (Nat.le_of_eq rfl) (hb hby d17_20) (by decide) (by decide) ?_
      intro T3 h3 v3 L3 X3 e3 q3
      obtain ⟨rfl, M3, J3, r3_0⟩ := q3
      have N3 := Fr.app N M3
      have K3 : Keep h0 h3 [] := K.trans J3 (allS (Or.inr (Nat.le_trans (Keep.refl h0 []).1 y1_0)) all0)
      have O3 : own_Old Z h3 := O.keep J3 (allS (own_ge O0 y1_0) all0)
      refine hG _ _ (fun t_ k_ => XS.iinc X3.here hx rfl (hb hby d17_23) rfl (l' := #[oa a, oi ((Int32.ofNat i) + (1 : Int32)), oi (Int32.ofNat cs.length), oa t_1, oi (Int32.ofNat i)]) rfl k_) ?_
      refine hG _ _ (fun t_ k_ => XS.iinc X3.here hx rfl (hb hby d17_26) rfl (l' := #[oa a, oi ((Int32.ofNat i) + (1 : Int32)), oi (Int32.ofNat cs.length), oa t_1, oi ((Int32.ofNat i) + (1 : Int32))]) rfl k_) ?_
      refine hG _ _ (fun t_ k_ => XS.goto X3.here hx rfl (pc0 := 29) (pc' := 8) rfl (hb hby d17_29) (by decide) (by decide) k_) ?_
      show G (T3.setTop (mkF m 8 #[oa a, oi ((Int32.ofNat i) + (1 : Int32)), oi (Int32.ofNat cs.length), oa t_1, oi ((Int32.ofNat i) + (1 : Int32))] []))
      rw [own_inc i]
      exact ih (i + 1) _ _ _ _ (by omega) X3 e3 K3 O3 N3 r3_0 (by rw [List.length_set, List.length_set]; exact hl) (own_set16 hl hi hv)
  exact loop cs.length 0 _ _ _ _ rfl X1 e1 K1 O1 N1 (r1_0.pad (pad_rep [] (.int 0) (2 * cs.length))) (by simp) (fun j hj => absurd hj (Nat.not_lt_zero j))
theorem own_gcmp3 (l : Launch) (Z : State) (a0 : Array Value) (hw : ∀ d ∈ tables_1, d.before a0 Z = true) (a : Addr) (ka : ClassId) (cs : List Int32) (h0 : Heap) (O0 : own_Old Z h0) (g0_V : Arv Z h0 a ka .char (Int32.ofNat cs.length) (cs.map Value.int) (.int 0)) (g1_hcap : cs.length ≤ 14) (g2_h16 : ∀ c ∈ cs, 0 ≤ c.toInt ∧ c.toInt ≤ 65535) (g3_S : Sta Z Z.heap "java/lang/StringUTF16" "$assertionsDisabled" "Z" (.int 1)) (g4_S : Sta Z Z.heap "java/lang/StringUTF16" "HI_BYTE_SHIFT" "I" (.int 0)) (g5_S : Sta Z Z.heap "java/lang/StringUTF16" "LO_BYTE_SHIFT" "I" (.int 8)) :
    own_Con l Z (⟨"java/lang/StringUTF16", "compress", "([CII)[B"⟩ : MethodName) jdk_52_method_16_code 6 (some (.array .byte)) [] ({ frames := 3, cells := 2, slots := 42, locals := 40 } : Room) #[(.ref a), (.int 0), (.int (Int32.ofNat cs.length))] h0 (fun rv rh rL => ∃ (t : Addr) (kt : ClassId) (nb : Int32) (vs : List Value), rv = some (.ref t) ∧ own_Fr Z rL ∧ Keep h0 rh [] ∧ h0.size ≤ t ∧ (Arv Z rh t kt .byte nb vs (.int 0)) ∧ (((∀ c ∈ cs, ¬ ((255 : Int32) < c)) ∧ nb = (Int32.ofNat cs.length) ∧ vs = (cs.map fun c => Value.int c.toInt8.toInt32)) ∨ ((∃ k, k < cs.length ∧ (255 : Int32) < cs.getD k 0) ∧ nb = (Int32.ofNat (2 * cs.length)) ∧ own_is16 cs vs))) := by
  refine own_intro (plainFor_of_name (by first | (simp [plainName, overriddenIn]; done) | decide +kernel)) ?_
  intro p e s m below meth c s₁ G hx hby hml hown hnm hret hZ X0 e0 hG hR
  have N0 := Fr.nil Z.heap.size
  refine own_entry (Ls := #[.val (.ref a), .val (.int 0), .val (.int (Int32.ofNat cs.length)), .unset, .unset, .unset]) (by first | (simp [entryFrame, mkF, argsToLocals, Value.category]; done) | rfl) ?_
  show G (s₁.setTop (mkF m 0 #[oa a, oi 0, oi (Int32.ofNat cs.length), .unset, .unset, .unset] []))
  refine hG _ _ (fun t_ k_ => XS.iloadN X0.here hx rfl (hb hby d9_0) rfl k_) ?_
  obtain ⟨T1, h1, k1, X1, e1, E1, A1, st1⟩ := newP X0 hx hZ (ow hw 61 rfl) e0 (g := (mkF m 1 #[oa a, oi 0, oi (Int32.ofNat cs.length), .unset, .unset, .unset] [(.int (Int32.ofNat cs.length))])) rfl (hb hby d9_1) rfl (own_nn (by omega)) (cap := 14) (by rw [own_clamp (by omega)]; exact g1_hcap) (by decide) (by decide) (by decide)
  obtain ⟨b1, z1⟩ : ∃ z, z = h0.size := ⟨_, rfl⟩
  rw [← z1] at A1 st1
  refine hG _ _ st1 ?_
  have K1 : Keep h0 h1 [] := (Keep.refl h0 []).ext E1
  have O1 : own_Old Z h1 := O0.ext E1
  have V1 : Arv Z h1 b1 k1 .byte (Int32.ofNat cs.length) [] (.int 0) := Arv.new A1 (own_nn (by omega))
  refine hG _ _ (fun t_ k_ => XS.astoreN X1.here hx rfl (hb hby d9_3) rfl rfl (l' := #[oa a, oi 0, oi (Int32.ofNat cs.length), oa b1, .unset, .unset]) rfl k_) ?_
  refine hG _ _ (fun t_ k_ => XS.aloadN X1.here hx rfl (hb hby d9_4) rfl rfl k_) ?_
  refine hG _ _ (fun t_ k_ => XS.iloadN X1.here hx rfl (hb hby d9_5) rfl k_) ?_
  refine hG _ _ (fun t_ k_ => XS.aloadN X1.here hx rfl (hb hby d9_6) rfl rfl k_) ?_
  refine hG _ _ (fun t_ k_ => XS.iconst X1.here hx rfl (hb hby d9_7) k_) ?_
  refine hG _ _ (fun t_ k_ => XS.iloadN X1.here hx rfl (hb hby d9_8) rfl k_) ?_
  show G (T1.setTop (mkF m 9 #[oa a, oi 0, oi (Int32.ofNat cs.length), oa b1, .unset, .unset] [(.int (Int32.ofNat cs.length)), (.int 0), (.ref b1), (.int 0), (.ref a)]))
  have f3 := (g0_V.ext E1)
  refine own_callS X1 hx hZ hG hown (ow hw 62 rfl) (ow hw 63 rfl) (ow hw 59 rfl) (ow hw 64 rfl) (by decide) 0 (own_gcmp5 l Z a0 hw a b1 ka k1 cs h1 O1 f3 V1 (own_ge O0 (Nat.le_of_eq z1.symm)) (own_ne g0_V.lt (Nat.le_of_eq z1.symm)) (by omega)) (by decide) (by decide) e1 (by rw [hml]; rfl) (lenOf own_pd2 rfl) (argsL := [(.ref a), (.int 0), (.ref b1), (.int 0), (.int (Int32.ofNat cs.length))]) (rest := []) rfl rfl (Nat.le_of_eq rfl) (hb hby d9_9) (by decide) (by decide) ?_
  intro T2 h2 v2 L2 X2 e2 q2
  obtain ⟨r_2, vs_2, rfl, M2, J2, r2_0, r2_1⟩ := q2
  have N2 := Fr.app N0 M2
  have K2 : Keep h0 h2 [] := K1.trans J2 (allS (Or.inr (Nat.le_trans (Keep.refl h0 []).1 (Nat.le_of_eq z1.symm))) all0)
  have O2 : own_Old Z h2 := O1.keep J2 (allS (own_ge O0 (Nat.le_of_eq z1.symm)) all0)
  show G (T2.setTop (mkF m 12 #[oa a, oi 0, oi (Int32.ofNat cs.length), oa b1, .unset, .unset] [(.int r_2)]))
  rcases r2_1 with ⟨rfl, hall, rfl⟩ | ⟨kq, hkq, rfl, hbig⟩
  · skip
    show G (T2.setTop (mkF m 12 #[oa a, oi 0, oi (Int32.ofNat cs.length), oa b1, .unset, .unset] [(.int (Int32.ofNat cs.length))]))
    refine hG _ _ (fun t_ k_ => XS.istore X2.here hx rfl (hb hby d9_12) rfl (l' := #[oa a, oi 0, oi (Int32.ofNat cs.length), oa b1, oi (Int32.ofNat cs.length), .unset]) rfl k_) ?_
    refine hG _ _ (fun t_ k_ => XS.iload X2.here hx rfl (hb hby d9_14) rfl k_) ?_
    refine hG _ _ (fun t_ k_ => XS.iloadN X2.here hx rfl (hb hby d9_16) rfl k_) ?_
    show G (T2.setTop (mkF m 17 #[oa a, oi 0, oi (Int32.ofNat cs.length), oa b1, oi (Int32.ofNat cs.length), .unset] [(.int (Int32.ofNat cs.length)), (.int (Int32.ofNat cs.length))]))
    refine hG _ _ (fun t_ k_ => XS.icmpYes X2.here hx rfl (pc0 := 17) (pc' := 57) rfl (hb hby d9_17) rfl (teq (rfl : (Int32.ofNat cs.length) = (Int32.ofNat cs.length))).1 (by decide) (by decide) k_) ?_
    show G (T2.setTop (mkF m 57 #[oa a, oi 0, oi (Int32.ofNat cs.length), oa b1, oi (Int32.ofNat cs.length), .unset] []))
    refine hG _ _ (fun t_ k_ => XS.aloadN X2.here hx rfl (hb hby d9_57) rfl rfl k_) ?_
    show G (T2.setTop (mkF m 58 #[oa a, oi 0, oi (Int32.ofNat cs.length), oa b1, oi (Int32.ofNat cs.length), .unset] [(.ref b1)]))
    exact own_retA hR hret rfl rfl X2 hx (hb hby d9_58) (by decide) (by decide) (by rw [e2]; exact ⟨b1, k1, (Int32.ofNat cs.length), (cs.map fun c => Value.int c.toInt8.toInt32), rfl, N2, K2, (Nat.le_trans (Keep.refl h0 []).1 (Nat.le_of_eq z1.symm)), r2_0, (Or.inl ⟨hall, rfl, rfl⟩)⟩)
  · skip
    show G (T2.setTop (mkF m 12 #[oa a, oi 0, oi (Int32.ofNat cs.length), oa b1, .unset, .unset] [(.int (Int32.ofNat kq))]))
    refine hG _ _ (fun t_ k_ => XS.istore X2.here hx rfl (hb hby d9_12) rfl (l' := #[oa a, oi 0, oi (Int32.ofNat cs.length), oa b1, oi (Int32.ofNat kq), .unset]) rfl k_) ?_
    refine hG _ _ (fun t_ k_ => XS.iload X2.here hx rfl (hb hby d9_14) rfl k_) ?_
    refine hG _ _ (fun t_ k_ => XS.iloadN X2.here hx rfl (hb hby d9_16) rfl k_) ?_
    show G (T2.setTop (mkF m 17 #[oa a, oi 0, oi (Int32.ofNat cs.length), oa b1, oi (Int32.ofNat kq), .unset] [(.int (Int32.ofNat cs.length)), (.int (Int32.ofNat kq))]))
    refine hG _ _ (fun t_ k_ => XS.icmpNo X2.here hx rfl (hb hby d9_17) rfl (feq (own_ofNat_ne hkq (by omega))).1 k_) ?_
    show G (T2.setTop (mkF m 20 #[oa a, oi 0, oi (Int32.ofNat cs.length), oa b1, oi (Int32.ofNat kq), .unset] []))
    refine hG _ _ (fun t_ k_ => XS.aloadN X2.here hx rfl (hb hby d9_20) rfl rfl k_) ?_
    refine hG _ _ (fun t_ k_ => XS.iloadN X2.here hx rfl (hb hby d9_21) rfl k_) ?_
    refine hG _ _ (fun t_ k_ => XS.iloadN X2.here hx rfl (hb hby d9_22) rfl k_) ?_
    show G (T2.setTop (mkF m 23 #[oa a, oi 0, oi (Int32.ofNat cs.length), oa b1, oi (Int32.ofNat kq), .unset] [(.int (Int32.ofNat cs.length)), (.int 0), (.ref a)]))
    have f5 := (f3.keep J2 (ninS (own_ne g0_V.lt (Nat.le_of_eq z1.symm)) nin0))
    refine own_callS X2 hx hZ hG hown (ow hw 93 rfl) (ow hw 94 rfl) (ow hw 59 rfl) (ow hw 95 rfl) (by decide) 0 (own_tob l Z a0 hw a ka cs h2 O2 f5 g1_hcap g3_S g4_S g5_S) (by decide) (by decide) e2 (by rw [hml]; rfl) (lenOf own_pd5 rfl) (argsL := [(.ref a), (.int 0), (.int (Int32.ofNat cs.length))]) (rest := []) rfl rfl (Nat.le_of_eq rfl) (hb hby d9_23) (by decide) (by decide) ?_
    intro T4 h4 v4 L4 X4 e4 q4
    obtain ⟨t_4, kt_4, vs_4, rfl, M4, J4, y4_0, r4_0, r4_1⟩ := q4
    have N4 := Fr.app N2 M4
    have K4 : Keep h0 h4 [] := K2.trans J4 all0
    have O4 : own_Old Z h4 := O2.keep J4 all0
    refine hG _ _ (fun t_ k_ => XS.astore X4.here hx rfl (hb hby d9_26) rfl rfl (l' := #[oa a, oi 0, oi (Int32.ofNat cs.length), oa b1, oi (Int32.ofNat kq), oa t_4]) rfl k_) ?_
    refine hG _ _ (fun t_ k_ => XS.aload X4.here hx rfl (hb hby d9_28) rfl rfl k_) ?_
    refine hG _ _ (fun t_ k_ => XS.iload X4.here hx rfl (hb hby d9_30) rfl k_) ?_
    show G (T4.setTop (mkF m 32 #[oa a, oi 0, oi (Int32.ofNat cs.length), oa b1, oi (Int32.ofNat kq), oa t_4] [(.int (Int32.ofNat kq)), (.ref t_4)]))
    refine own_callS X4 hx hZ hG hown (ow hw 109 rfl) (ow hw 110 rfl) (ow hw 59 rfl) (ow hw 111 rfl) (by decide) 0 (own_gch l Z a0 hw t_4 kt_4 (2 * cs.length) vs_4 kq (own_lo (cs.getD kq 0)) (own_hi (cs.getD kq 0)) h4 O4 r4_0 (by omega) (by omega) (r4_1.2 kq hkq).1 (r4_1.2 kq hkq).2 g3_S g4_S g5_S) (by decide) (by decide) e4 (by rw [hml]; rfl) (lenOf own_pd1 rfl) (argsL := [(.ref t_4), (.int (Int32.ofNat kq))]) (rest := []) rfl rfl (Nat.le_of_eq rfl) (hb hby d9_32) (by decide) (by decide) ?_
    intro T6 h6 v6 L6 X6 e6 q6
    obtain ⟨rfl, M6, rfl⟩ := q6
    have N6 := Fr.app N4 M6
    show G (T6.setTop (mkF m 35 #[oa a, oi 0, oi (Int32.ofNat cs.length), oa b1, oi (Int32.ofNat kq), oa t_4] [(.int (own_join (own_lo (cs.getD kq 0)) (own_hi (cs.getD kq 0))))]))
    rw [own_join_eq (g2_h16 _ (own_getD_mem cs kq 0 hkq))]
    show G (T6.setTop (mkF m 35 #[oa a, oi 0, oi (Int32.ofNat cs.length), oa b1, oi (Int32.ofNat kq), oa t_4] [(.int (cs.getD kq 0))]))
    refine hG _ _ (fun t_ k_ => XS.sipush X6.here hx rfl (hb hby d9_35) k_) ?_
    show G (T6.setTop (mkF m 38 #[oa a, oi 0, oi (Int32.ofNat cs.length), oa b1, oi (Int32.ofNat kq), oa t_4] [(.int 255), (.int (cs.getD kq 0))]))
    refine hG _ _ (fun t_ k_ => XS.icmpYes X6.here hx rfl (pc0 := 38) (pc' := 54) rfl (hb hby d9_38) rfl (tlt hbig).2.2.1 (by decide) (by decide) k_) ?_
    show G (T6.setTop (mkF m 54 #[oa a, oi 0, oi (Int32.ofNat cs.length), oa b1, oi (Int32.ofNat kq), oa t_4] []))
    refine hG _ _ (fun t_ k_ => XS.aload X6.here hx rfl (hb hby d9_54) rfl rfl k_) ?_
    show G (T6.setTop (mkF m 56 #[oa a, oi 0, oi (Int32.ofNat cs.length), oa b1, oi (Int32.ofNat kq), oa t_4] [(.ref t_4)]))
    exact own_retA hR hret rfl rfl X6 hx (hb hby d9_56) (by decide) (by decide) (by rw [e6]; exact ⟨t_4, kt_4, (Int32.ofNat (2 * cs.length)), vs_4, rfl, N6, K4, (Nat.le_trans K2.1 y4_0), r4_0, (Or.inr ⟨⟨kq, hkq, hbig⟩, rfl, r4_1⟩)⟩)
theorem own_pd6 : parseMethodDescriptor "([BI)B" = some ⟨[(.array .byte), .int], some .byte⟩ := by decide +kernel
theorem own_coder (l : Launch) (Z : State) (a0 : Array Value) (hw : ∀ d ∈ tables_1, d.before a0 Z = true) (t : Addr) (n : Int32) (kt : ClassId) (n2 : Int32) (vs : List Value) (r : Int32) (h0 : Heap) (O0 : own_Old Z h0) (g0_V : Arv Z h0 t kt .byte n2 vs (.int 0)) (g1_hr : nar .byte ((((n - n2).toUInt32 >>> ((31 : Int32) &&& 31).toUInt32).toInt32).toInt8.toInt32) = r) :
    own_Con l Z (⟨"java/lang/StringUTF16", "coderFromArrayLen", "([BI)B"⟩ : MethodName) jdk_52_method_15_code 2 (some .byte) [] ({ frames := 0, cells := 0, slots := 0, locals := 0 } : Room) #[(.ref t), (.int n)] h0 (fun rv rh rL => rv = some (.int r) ∧ own_Fr Z rL ∧ h0 = rh) := by
  refine own_intro (plainFor_of_name (by first | (simp [plainName, overriddenIn]; done) | decide +kernel)) ?_
  intro p e s m below meth c s₁ G hx hby hml hown hnm hret hZ X0 e0 hG hR
  have N0 := Fr.nil Z.heap.size
  refine own_entry (Ls := #[.val (.ref t), .val (.int n)]) (by first | (simp [entryFrame, mkF, argsToLocals, Value.category]; done) | rfl) ?_
  show G (s₁.setTop (mkF m 0 #[oa t, oi n] []))
  refine hG _ _ (fun t_ k_ => XS.iloadN X0.here hx rfl (hb hby d11_0) rfl k_) ?_
  refine hG _ _ (fun t_ k_ => XS.aloadN X0.here hx rfl (hb hby d11_1) rfl rfl k_) ?_
  obtain ⟨c1, Ar1, -, S1, M1, -, -⟩ := id g0_V
  refine hG _ _ (X0.arraylength hx (by rw [e0]; exact Ar1.1) (State.isArrayOf_alike hZ.alike Ar1.2.1) (g := (mkF m 2 #[oa t, oi n] [(.ref t), (.int n)])) rfl rfl (hb hby d11_2)) ?_
  rw [len_of S1 M1]
  refine hG _ _ (fun t_ k_ => XS.isub X0.here hx rfl (hb hby d11_3) rfl k_) ?_
  refine hG _ _ (fun t_ k_ => XS.bipush X0.here hx rfl (hb hby d11_4) k_) ?_
  refine hG _ _ (fun t_ k_ => XS.iushr X0.here hx rfl (hb hby d11_6) rfl k_) ?_
  refine hG _ _ (fun t_ k_ => XS.i2b X0.here hx rfl (hb hby d11_7) rfl k_) ?_
  show G (s₁.setTop (mkF m 8 #[oa t, oi n] [(.int ((((n - n2).toUInt32 >>> ((31 : Int32) &&& 31).toUInt32).toInt32).toInt8.toInt32))]))
  exact own_retN hR hret (by simp) X0 hx (hb hby d11_8) (by decide) (by decide) (by rw [e0]; exact ⟨(by rw [g1_hr]), N0, rfl⟩)
theorem own_pd7 : parseMethodDescriptor "([CIILjava/lang/Void;)V" = some ⟨[(.array .char), .int, .int, (.object "java/lang/Void")], none⟩ := by decide +kernel
theorem own_gstr4 (l : Launch) (Z : State) (a0 : Array Value) (hw : ∀ d ∈ tables_1, d.before a0 Z = true) (a : Addr) (u : Addr) (ku : ClassId) (cs : List Int32) (cpt : Int32) (v0 : Value) (v1 : Value) (h0 : Heap) (O0 : own_Old Z h0) (g0_E : Exa Z h0 a "java/lang/String") (g1_F : Fld Z h0 a "java/lang/String" "coder" "B" v0) (g2_F : Fld Z h0 a "java/lang/String" "value" "[B" v1) (g3_G : Z.heap.size ≤ a) (g4_V : Arv Z h0 u ku .char (Int32.ofNat cs.length) (cs.map Value.int) (.int 0)) (g5_hpos : 0 < cs.length) (g6_hcap : cs.length ≤ 14) (g7_h16 : ∀ c ∈ cs, 0 ≤ c.toInt ∧ c.toInt ≤ 65535) (g8_S : Sta Z Z.heap "java/lang/String" "COMPACT_STRINGS" "Z" (.int cpt)) (g9_hcpt : ¬ (cpt = (0 : Int32))) (g10_S : Sta Z Z.heap "java/lang/StringUTF16" "$assertionsDisabled" "Z" (.int 1)) (g11_S : Sta Z Z.heap "java/lang/StringUTF16" "HI_BYTE_SHIFT" "I" (.int 0)) (g12_S : Sta Z Z.heap "java/lang/StringUTF16" "LO_BYTE_SHIFT" "I" (.int 8)) :
    own_Con l Z (⟨"java/lang/String", "<init>", "([CIILjava/lang/Void;)V"⟩ : MethodName) jdk_42_method_149_code 6 none [] ({ frames := 4, cells := 2, slots := 42, locals := 57 } : Room) #[(.ref a), (.ref u), (.int 0), (.int (Int32.ofNat cs.length)), .null] h0 (fun rv rh rL => ∃ (t : Addr) (kt : ClassId) (cd : Int32) (nb : Int32) (vs : List Value), rv = none ∧ own_Fr Z rL ∧ Keep h0 rh [a] ∧ h0.size ≤ t ∧ (Exa Z rh a "java/lang/String") ∧ (Fld Z rh a "java/lang/String" "coder" "B" (.int cd)) ∧ (Fld Z rh a "java/lang/String" "value" "[B" (.ref t)) ∧ (Arv Z rh t kt .byte nb vs (.int 0)) ∧ (own_enc cs cd nb vs)) := by
  refine own_intro (plainFor_of_name (by first | (simp [plainName, overriddenIn]; done) | decide +kernel)) ?_
  intro p e s m below meth c s₁ G hx hby hml hown hnm hret hZ X0 e0 hG hR
  have N0 := Fr.nil Z.heap.size
  refine own_entry (Ls := #[.val (.ref a), .val (.ref u), .val (.int 0), .val (.int (Int32.ofNat cs.length)), .val .null, .unset]) (by first | (simp [entryFrame, mkF, argsToLocals, Value.category]; done) | rfl) ?_
  show G (s₁.setTop (mkF m 0 #[oa a, oa u, oi 0, oi (Int32.ofNat cs.length), .val .null, .unset] []))
  refine hG _ _ (fun t_ k_ => XS.aloadN X0.here hx rfl (hb hby d7_0) rfl rfl k_) ?_
  show G (s₁.setTop (mkF m 1 #[oa a, oa u, oi 0, oi (Int32.ofNat cs.length), .val .null, .unset] [(.ref a)]))
  obtain ⟨T1, X1, e1, st1⟩ := initO X0 hx hZ hown (ow hw 53 rfl) (ow hw 54 rfl) (ow hw 55 rfl) e0 (g := (mkF m 1 #[oa a, oa u, oi 0, oi (Int32.ofNat cs.length), .val .null, .unset] [(.ref a)])) rfl (by rw [hml]; rfl) rfl (hb hby d7_1) (by decide) (W := 0) (by show 2 * 0 + _ ≤ _; exact Nat.le_of_eq rfl) (by decide)
  refine hG _ _ st1 ?_
  show G (T1.setTop (mkF m 4 #[oa a, oa u, oi 0, oi (Int32.ofNat cs.length), .val .null, .unset] []))
  refine hG _ _ (fun t_ k_ => XS.iloadN X1.here hx rfl (hb hby d7_4) rfl k_) ?_
  show G (T1.setTop (mkF m 5 #[oa a, oa u, oi 0, oi (Int32.ofNat cs.length), .val .null, .unset] [(.int (Int32.ofNat cs.length))]))
  refine hG _ _ (fun t_ k_ => XS.ifYes X1.here hx rfl (pc0 := 5) (pc' := 27) rfl (hb hby d7_5) rfl ((if0 _ _).trans (feq (fun q => Nat.ne_of_gt g5_hpos (own_ofNat_inj (by omega) (by decide) q))).2) (by decide) (by decide) k_) ?_
  show G (T1.setTop (mkF m 27 #[oa a, oa u, oi 0, oi (Int32.ofNat cs.length), .val .null, .unset] []))
  obtain ⟨T2, X2, e2, st2⟩ := getS2 X1 hx hZ hown (host := "") (Or.inl (ow hw 56 rfl)) Via.refl e1 (own_sta g8_S O0) (g := (mkF m 27 #[oa a, oa u, oi 0, oi (Int32.ofNat cs.length), .val .null, .unset] [])) rfl (hb hby d7_27)
  refine hG _ _ st2 ?_
  show G (T2.setTop (mkF m 30 #[oa a, oa u, oi 0, oi (Int32.ofNat cs.length), .val .null, .unset] [(.int cpt)]))
  refine hG _ _ (fun t_ k_ => XS.ifNo X2.here hx rfl (hb hby d7_30) rfl ((if0 _ _).trans (feq g9_hcpt).1) k_) ?_
  show G (T2.setTop (mkF m 33 #[oa a, oa u, oi 0, oi (Int32.ofNat cs.length), .val .null, .unset] []))
  refine hG _ _ (fun t_ k_ => XS.aloadN X2.here hx rfl (hb hby d7_33) rfl rfl k_) ?_
  refine hG _ _ (fun t_ k_ => XS.iloadN X2.here hx rfl (hb hby d7_34) rfl k_) ?_
  refine hG _ _ (fun t_ k_ => XS.iloadN X2.here hx rfl (hb hby d7_35) rfl k_) ?_
  show G (T2.setTop (mkF m 36 #[oa a, oa u, oi 0, oi (Int32.ofNat cs.length), .val .null, .unset] [(.int (Int32.ofNat cs.length)), (.int 0), (.ref u)]))
  refine own_callS X2 hx hZ hG hown (ow hw 57 rfl) (ow hw 58 rfl) (ow hw 59 rfl) (ow hw 60 rfl) (by decide) 0 (own_gcmp3 l Z a0 hw u ku cs h0 O0 g4_V g6_hcap g7_h16 g10_S g11_S g12_S) (by decide) (by decide) e2 (by rw [hml]; rfl) (lenOf own_pd5 rfl) (argsL := [(.ref u), (.int 0), (.int (Int32.ofNat cs.length))]) (rest := []) rfl rfl (Nat.le_of_eq rfl) (hb hby d7_36) (by decide) (by decide) ?_
  intro T3 h3 v3 L3 X3 e3 q3
  obtain ⟨t_3, kt_3, nb_3, vs_3, rfl, M3, J3, y3_0, r3_0, r3_1⟩ := q3
  have N3 := Fr.app N0 M3
  have K3 : Keep h0 h3 [a] := (Keep.refl h0 [a]).trans J3 all0
  have O3 : own_Old Z h3 := O0.keep J3 all0
  show G (T3.setTop (mkF m 39 #[oa a, oa u, oi 0, oi (Int32.ofNat cs.length), .val .null, .unset] [(.ref t_3)]))
  rcases r3_1 with ⟨hall, rfl, rfl⟩ | ⟨hbig, rfl, h16⟩
  · skip
    show G (T3.setTop (mkF m 39 #[oa a, oa u, oi 0, oi (Int32.ofNat cs.length), .val .null, .unset] [(.ref t_3)]))
    refine hG _ _ (fun t_ k_ => XS.astore X3.here hx rfl (hb hby d7_39) rfl rfl (l' := #[oa a, oa u, oi 0, oi (Int32.ofNat cs.length), .val .null, oa t_3]) rfl k_) ?_
    refine hG _ _ (fun t_ k_ => XS.aloadN X3.here hx rfl (hb hby d7_41) rfl rfl k_) ?_
    refine hG _ _ (fun t_ k_ => XS.aload X3.here hx rfl (hb hby d7_42) rfl rfl k_) ?_
    refine hG _ _ (fun t_ k_ => XS.iloadN X3.here hx rfl (hb hby d7_44) rfl k_) ?_
    show G (T3.setTop (mkF m 45 #[oa a, oa u, oi 0, oi (Int32.ofNat cs.length), .val .null, oa t_3] [(.int (Int32.ofNat cs.length)), (.ref t_3), (.ref a)]))
    refine own_callS X3 hx hZ hG hown (ow hw 65 rfl) (ow hw 66 rfl) (ow hw 59 rfl) (ow hw 67 rfl) (by decide) 1 (own_coder l Z a0 hw t_3 (Int32.ofNat cs.length) kt_3 (Int32.ofNat cs.length) (cs.map fun c => Value.int c.toInt8.toInt32) (0 : Int32) h3 O3 r3_0 (own_coder0 _)) (by decide) (by decide) e3 (by rw [hml]; rfl) (lenOf own_pd6 rfl) (argsL := [(.ref t_3), (.int (Int32.ofNat cs.length))]) (rest := [(.ref a)]) rfl rfl (Nat.le_of_eq rfl) (hb hby d7_45) (by decide) (by decide) ?_
    intro T4 h4 v4 L4 X4 e4 q4
    obtain ⟨rfl, M4, rfl⟩ := q4
    have N4 := Fr.app N3 M4
    have f6 := (g1_F.keep J3 nin0)
    have f7 := (g0_E.keep J3)
    obtain ⟨T5, h5, X5, e5, W5, st5⟩ := putFN X4 hx hZ hown (ow hw 68 rfl) Via.refl e4 f6 f7 (Or.inr ⟨(ow hw 69 rfl), rfl, hnm⟩) (ow hw 40 rfl) (ty := .byte) (v' := (.int 0)) (by decide) rfl rfl (g := (mkF m 48 #[oa a, oa u, oi 0, oi (Int32.ofNat cs.length), .val .null, oa t_3] [(.int 0), (.ref a)])) rfl rfl (hb hby d7_48)
    refine hG _ _ st5 ?_
    have K5 : Keep h0 h5 [a] := K3.wr W5 (Or.inl (List.mem_of_getElem? (i := 0) rfl))
    have O5 : own_Old Z h5 := O3.wr W5 g3_G
    have N5 := Fr.snoc X5 N4 g3_G
    refine hG _ _ (fun t_ k_ => XS.aloadN X5.here hx rfl (hb hby d7_51) rfl rfl k_) ?_
    refine hG _ _ (fun t_ k_ => XS.aload X5.here hx rfl (hb hby d7_52) rfl rfl k_) ?_
    have f9 := ((g2_F.keep J3 nin0).other W5 (Or.inr (slot_ne (Or.inr (ow hw 71 rfl)) (Or.inr (ow hw 69 rfl)) (by decide) (t := (.array .byte)) (t' := .byte) (by decide) (by decide))))
    have f10 := (f7.wr W5)
    obtain ⟨T8, h8, X8, e8, W8, st8⟩ := putF X5 hx hZ hown (host := "") (Or.inl (ow hw 70 rfl)) Via.refl e5 f9 f10 (Or.inr ⟨(ow hw 71 rfl), rfl, hnm⟩) (ow hw 40 rfl) (ty := (.array .byte)) (by decide) rfl rfl (g := (mkF m 54 #[oa a, oa u, oi 0, oi (Int32.ofNat cs.length), .val .null, oa t_3] [(.ref t_3), (.ref a)])) rfl rfl (hb hby d7_54)
    refine hG _ _ st8 ?_
    have K8 : Keep h0 h8 [a] := K5.wr W8 (Or.inl (List.mem_of_getElem? (i := 0) rfl))
    have O8 : own_Old Z h8 := O5.wr W8 g3_G
    have N8 := Fr.snoc X8 N5 g3_G
    show G (T8.setTop (mkF m 57 #[oa a, oa u, oi 0, oi (Int32.ofNat cs.length), .val .null, oa t_3] []))
    have f11 := (f10.wr W8)
    have f12 := ((f6.same W5).other W8 (Or.inr (slot_ne (Or.inr (ow hw 69 rfl)) (Or.inr (ow hw 71 rfl)) (by decide) (t := .byte) (t' := (.array .byte)) (by decide) (by decide))))
    have f13 := ((r3_0.other W5 (Ne.symm (own_ne g0_E.lt y3_0))).other W8 (Ne.symm (own_ne g0_E.lt y3_0)))
    exact own_retV hR hret X8 hx (hb hby d7_57) (by decide) (by decide) (by rw [e8]; exact ⟨t_3, kt_3, (0 : Int32), (Int32.ofNat cs.length), (cs.map fun c => Value.int c.toInt8.toInt32), rfl, N8, K8, (Nat.le_trans (Keep.refl h0 [a]).1 y3_0), f11, f12, (f9.same W8), f13, (Or.inl ⟨hall, rfl, rfl, rfl⟩)⟩)
  · skip
    show G (T3.setTop (mkF m 39 #[oa a, oa u, oi 0, oi (Int32.ofNat cs.length), .val .null, .unset] [(.ref t_3)]))
    refine hG _ _ (fun t_ k_ => XS.astore X3.here hx rfl (hb hby d7_39) rfl rfl (l' := #[oa a, oa u, oi 0, oi (Int32.ofNat cs.length), .val .null, oa t_3]) rfl k_) ?_
    refine hG _ _ (fun t_ k_ => XS.aloadN X3.here hx rfl (hb hby d7_41) rfl rfl k_) ?_
    refine hG _ _ (fun t_ k_ => XS.aload X3.here hx rfl (hb hby d7_42) rfl rfl k_) ?_
    refine hG _ _ (fun t_ k_ => XS.iloadN X3.here hx rfl (hb hby d7_44) rfl k_) ?_
    show G (T3.setTop (mkF m 45 #[oa a, oa u, oi 0, oi (Int32.ofNat cs.length), .val .null, oa t_3] [(.int (Int32.ofNat cs.length)), (.ref t_3), (.ref a)]))
    refine own_callS X3 hx hZ hG hown (ow hw 65 rfl) (ow hw 66 rfl) (ow hw 59 rfl) (ow hw 67 rfl) (by decide) 1 (own_coder l Z a0 hw t_3 (Int32.ofNat cs.length) kt_3 (Int32.ofNat (2 * cs.length)) vs_3 (1 : Int32) h3 O3 r3_0 (own_coder1 g5_hpos (by omega))) (by decide) (by decide) e3 (by rw [hml]; rfl) (lenOf own_pd6 rfl) (argsL := [(.ref t_3), (.int (Int32.ofNat cs.length))]) (rest := [(.ref a)]) rfl rfl (Nat.le_of_eq rfl) (hb hby d7_45) (by decide) (by decide) ?_
    intro T14 h14 v14 L14 X14 e14 q14
    obtain ⟨rfl, M14, rfl⟩ := q14
    have N14 := Fr.app N3 M14
    have f16 := (g1_F.keep J3 nin0)
    have f17 := (g0_E.keep J3)
    obtain ⟨T15, h15, X15, e15, W15, st15⟩ := putFN X14 hx hZ hown (ow hw 68 rfl) Via.refl e14 f16 f17 (Or.inr ⟨(ow hw 69 rfl), rfl, hnm⟩) (ow hw 40 rfl) (ty := .byte) (v' := (.int 1)) (by decide) rfl rfl (g := (mkF m 48 #[oa a, oa u, oi 0, oi (Int32.ofNat cs.length), .val .null, oa t_3] [(.int 1), (.ref a)])) rfl rfl (hb hby d7_48)
    refine hG _ _ st15 ?_
    have K15 : Keep h0 h15 [a] := K3.wr W15 (Or.inl (List.mem_of_getElem? (i := 0) rfl))
    have O15 : own_Old Z h15 := O3.wr W15 g3_G
    have N15 := Fr.snoc X15 N14 g3_G
    refine hG _ _ (fun t_ k_ => XS.aloadN X15.here hx rfl (hb hby d7_51) rfl rfl k_) ?_
    refine hG _ _ (fun t_ k_ => XS.aload X15.here hx rfl (hb hby d7_52) rfl rfl k_) ?_
    have f19 := ((g2_F.keep J3 nin0).other W15 (Or.inr (slot_ne (Or.inr (ow hw 71 rfl)) (Or.inr (ow hw 69 rfl)) (by decide) (t := (.array .byte)) (t' := .byte) (by decide) (by decide))))
    have f20 := (f17.wr W15)
    obtain ⟨T18, h18, X18, e18, W18, st18⟩ := putF X15 hx hZ hown (host := "") (Or.inl (ow hw 70 rfl)) Via.refl e15 f19 f20 (Or.inr ⟨(ow hw 71 rfl), rfl, hnm⟩) (ow hw 40 rfl) (ty := (.array .byte)) (by decide) rfl rfl (g := (mkF m 54 #[oa a, oa u, oi 0, oi (Int32.ofNat cs.length), .val .null, oa t_3] [(.ref t_3), (.ref a)])) rfl rfl (hb hby d7_54)
    refine hG _ _ st18 ?_
    have K18 : Keep h0 h18 [a] := K15.wr W18 (Or.inl (List.mem_of_getElem? (i := 0) rfl))
    have O18 : own_Old Z h18 := O15.wr W18 g3_G
    have N18 := Fr.snoc X18 N15 g3_G
    show G (T18.setTop (mkF m 57 #[oa a, oa u, oi 0, oi (Int32.ofNat cs.length), .val .null, oa t_3] []))
    have f21 := (f20.wr W18)
    have f22 := ((f16.same W15).other W18 (Or.inr (slot_ne (Or.inr (ow hw 69 rfl)) (Or.inr (ow hw 71 rfl)) (by decide) (t := .byte) (t' := (.array .byte)) (by decide) (by decide))))
    have f23 := ((r3_0.other W15 (Ne.symm (own_ne g0_E.lt y3_0))).other W18 (Ne.symm (own_ne g0_E.lt y3_0)))
    exact own_retV hR hret X18 hx (hb hby d7_57) (by decide) (by decide) (by rw [e18]; exact ⟨t_3, kt_3, (1 : Int32), (Int32.ofNat (2 * cs.length)), vs_3, rfl, N18, K18, (Nat.le_trans (Keep.refl h0 [a]).1 y3_0), f21, f22, (f19.same W18), f23, (Or.inr ⟨hbig, rfl, rfl, h16⟩)⟩)
theorem own_pd8 : parseMethodDescriptor "([C)V" = some ⟨[(.array .char)], none⟩ := by decide +kernel
theorem own_gstr1 (l : Launch) (Z : State) (a0 : Array Value) (hw : ∀ d ∈ tables_1, d.before a0 Z = true) (a : Addr) (u : Addr) (ku : ClassId) (cs : List Int32) (cpt : Int32) (v0 : Value) (v1 : Value) (h0 : Heap) (O0 : own_Old Z h0) (g0_E : Exa Z h0 a "java/lang/String") (g1_F : Fld Z h0 a "java/lang/String" "coder" "B" v0) (g2_F : Fld Z h0 a "java/lang/String" "value" "[B" v1) (g3_G : Z.heap.size ≤ a) (g4_V : Arv Z h0 u ku .char (Int32.ofNat cs.length) (cs.map Value.int) (.int 0)) (g5_hpos : 0 < cs.length) (g6_hcap : cs.length ≤ 14) (g7_h16 : ∀ c ∈ cs, 0 ≤ c.toInt ∧ c.toInt ≤ 65535) (g8_S : Sta Z Z.heap "java/lang/String" "COMPACT_STRINGS" "Z" (.int cpt)) (g9_hcpt : ¬ (cpt = (0 : Int32))) (g10_S : Sta Z Z.heap "java/lang/StringUTF16" "$assertionsDisabled" "Z" (.int 1)) (g11_S : Sta Z Z.heap "java/lang/StringUTF16" "HI_BYTE_SHIFT" "I" (.int 0)) (g12_S : Sta Z Z.heap "java/lang/StringUTF16" "LO_BYTE_SHIFT" "I" (.int 8)) :
    own_Con l Z (⟨"java/lang/String", "<init>", "([C)V"⟩ : MethodName) jdk_42_method_3_code 2 none [] ({ frames := 5, cells := 2, slots := 42, locals := 74 } : Room) #[(.ref a), (.ref u)] h0 (fun rv rh rL => ∃ (t : Addr) (kt : ClassId) (cd : Int32) (nb : Int32) (vs : List Value), rv = none ∧ own_Fr Z rL ∧ Keep h0 rh [a] ∧ h0.size ≤ t ∧ (Exa Z rh a "java/lang/String") ∧ (Fld Z rh a "java/lang/String" "coder" "B" (.int cd)) ∧ (Fld Z rh a "java/lang/String" "value" "[B" (.ref t)) ∧ (Arv Z rh t kt .byte nb vs (.int 0)) ∧ (own_enc cs cd nb vs)) := by
  refine own_intro (plainFor_of_name (by first | (simp [plainName, overriddenIn]; done) | decide +kernel)) ?_
  intro p e s m below meth c s₁ G hx hby hml hown hnm hret hZ X0 e0 hG hR
  have N0 := Fr.nil Z.heap.size
  refine own_entry (Ls := #[.val (.ref a), .val (.ref u)]) (by first | (simp [entryFrame, mkF, argsToLocals, Value.category]; done) | rfl) ?_
  show G (s₁.setTop (mkF m 0 #[oa a, oa u] []))
  refine hG _ _ (fun t_ k_ => XS.aloadN X0.here hx rfl (hb hby d6_0) rfl rfl k_) ?_
  refine hG _ _ (fun t_ k_ => XS.aloadN X0.here hx rfl (hb hby d6_1) rfl rfl k_) ?_
  refine hG _ _ (fun t_ k_ => XS.iconst X0.here hx rfl (hb hby d6_2) k_) ?_
  refine hG _ _ (fun t_ k_ => XS.aloadN X0.here hx rfl (hb hby d6_3) rfl rfl k_) ?_
  obtain ⟨c1, Ar1, -, S1, M1, -, -⟩ := id g4_V
  refine hG _ _ (X0.arraylength hx (by rw [e0]; exact Ar1.1) (State.isArrayOf_alike hZ.alike Ar1.2.1) (g := (mkF m 4 #[oa a, oa u] [(.ref u), (.int 0), (.ref u), (.ref a)])) rfl rfl (hb hby d6_4)) ?_
  rw [len_of S1 M1]
  refine hG _ _ (fun t_ k_ => XS.aconstNull X0.here hx rfl (hb hby d6_5) k_) ?_
  show G (s₁.setTop (mkF m 6 #[oa a, oa u] [.null, (.int (Int32.ofNat cs.length)), (.int 0), (.ref u), (.ref a)]))
  refine own_callI X0 hx hZ hG hown rfl (ow hw 49 rfl) (ow hw 50 rfl) (ow hw 36 rfl) (ow hw 52 rfl) (by decide) 0 (own_gstr4 l Z a0 hw a u ku cs cpt v0 v1 h0 O0 g0_E g1_F g2_F g3_G g4_V g5_hpos g6_hcap g7_h16 g8_S g9_hcpt g10_S g11_S g12_S) (by decide) (by decide) e0 (by rw [hml]; rfl) (lenOf own_pd7 rfl) (argsL := [(.ref u), (.int 0), (.int (Int32.ofNat cs.length)), .null]) (rest := []) rfl rfl (Nat.le_of_eq rfl) (hb hby d6_6) (by decide) (by decide) ?_
  intro T2 h2 v2 L2 X2 e2 q2
  obtain ⟨t_2, kt_2, cd_2, nb_2, vs_2, rfl, M2, J2, y2_0, r2_0, r2_1, r2_2, r2_3, r2_4⟩ := q2
  have N2 := Fr.app N0 M2
  have K2 : Keep h0 h2 [a] := (Keep.refl h0 [a]).trans J2 (allS (Or.inl (List.mem_of_getElem? (i := 0) rfl)) all0)
  have O2 : own_Old Z h2 := O0.keep J2 (allS g3_G all0)
  show G (T2.setTop (mkF m 9 #[oa a, oa u] []))
  exact own_retV hR hret X2 hx (hb hby d6_9) (by decide) (by decide) (by rw [e2]; exact ⟨t_2, kt_2, cd_2, nb_2, vs_2, rfl, N2, K2, (Nat.le_trans (Keep.refl h0 [a]).1 y2_0), r2_0, r2_1, r2_2, r2_3, r2_4⟩)
theorem own_str4E (l : Launch) (Z : State) (a0 : Array Value) (hw : ∀ d ∈ tables_1, d.before a0 Z = true) (hEL : EW Z a0 consts_1) (a : Addr) (u : Addr) (v0 : Value) (h0 : Heap) (O0 : own_Old Z h0) (g0_E : Exa Z h0 a "java/lang/String") (g1_F : Fld Z h0 a "java/lang/String" "coder" "B" v0) (g2_F : Fld Z h0 a "java/lang/String" "value" "[B" .null) (g3_G : Z.heap.size ≤ a) :
    own_ConW l Z consts_1 (⟨"java/lang/String", "<init>", "([CIILjava/lang/Void;)V"⟩ : MethodName) jdk_42_method_149_code 6 none [] ({ frames := 1, cells := 2, slots := 4, locals := 12 } : Room) #[(.ref a), (.ref u), (.int 0), (.int 0), .null] h0 (fun rv rh rL => ∃ (t : Addr) (kt : ClassId), rv = none ∧ own_Fr Z rL ∧ Keep h0 rh [a] ∧ (Exa Z rh a "java/lang/String") ∧ (Fld Z rh a "java/lang/String" "coder" "B" (.int 0)) ∧ (Fld Z rh a "java/lang/String" "value" "[B" (.ref t)) ∧ (Arv Z rh t kt .byte (0 : Int32) [] (.int 0))) := by
  refine own_introW hEL (plainFor_of_name (by first | (simp [plainName, overriddenIn]; done) | decide +kernel)) ?_
  intro p e s m below meth c s₁ G hx hby hml hown hnm hret hZ X0 e0 H0 SI0 hG hR
  have N0 := Fr.nil Z.heap.size
  refine own_entry (Ls := #[.val (.ref a), .val (.ref u), .val (.int 0), .val (.int 0), .val .null, .unset]) (by first | (simp [entryFrame, mkF, argsToLocals, Value.category]; done) | rfl) ?_
  show G (s₁.setTop (mkF m 0 #[oa a, oa u, oi 0, oi 0, .val .null, .unset] []))
  refine hG _ _ (fun t_ k_ => XS.aloadN X0.here hx rfl (hb hby d7_0) rfl rfl k_) ?_
  show G (s₁.setTop (mkF m 1 #[oa a, oa u, oi 0, oi 0, .val .null, .unset] [(.ref a)]))
  obtain ⟨T1, X1, e1, st1⟩ := initO X0 hx hZ hown (ow hw 53 rfl) (ow hw 54 rfl) (ow hw 55 rfl) e0 (g := (mkF m 1 #[oa a, oa u, oi 0, oi 0, .val .null, .unset] [(.ref a)])) rfl (by rw [hml]; rfl) rfl (hb hby d7_1) (by decide) (W := 0) (by show 2 * 0 + _ ≤ _; exact Nat.le_of_eq rfl) (by decide)
  refine hG _ _ st1 ?_
  show G (T1.setTop (mkF m 4 #[oa a, oa u, oi 0, oi 0, .val .null, .unset] []))
  refine hG _ _ (fun t_ k_ => XS.iloadN X1.here hx rfl (hb hby d7_4) rfl k_) ?_
  show G (T1.setTop (mkF m 5 #[oa a, oa u, oi 0, oi 0, .val .null, .unset] [(.int 0)]))
  refine hG _ _ (fun t_ k_ => XS.ifNo X1.here hx rfl (hb hby d7_5) rfl ((if0 _ _).trans (teq (rfl : (0 : Int32) = (0 : Int32))).2) k_) ?_
  show G (T1.setTop (mkF m 8 #[oa a, oa u, oi 0, oi 0, .val .null, .unset] []))
  refine hG _ _ (fun t_ k_ => XS.aloadN X1.here hx rfl (hb hby d7_8) rfl rfl k_) ?_
  obtain ⟨a2, T2, h2, k2, b2, kc2, X2, e2, E2, SI2, hk2, hZ2, hown2, Ea2, Fc2, Fv2, V2, la2, lb2, Y2, Li2, Nq2, st2⟩ := ldcCH X1 hx hZ hown (ow hw 81 rfl) (own_wS hw) e1 SI0 (Nat.le_refl _) hEL (List.mem_of_getElem? (i := 0) rfl) H0 (vs := []) (z := (0 : Int32)) ⟨by decide, by decide⟩ (by decide) rfl (g := (mkF m 9 #[oa a, oa u, oi 0, oi 0, .val .null, .unset] [(.ref a)])) rfl (hb hby d7_9) (n := 0) (by decide) (by decide) (by decide) (by decide)
  refine hG _ _ st2 ?_
  have R2 := Y2
  have C2 := (CHr.refl H0).trans R2
  have K2 : Keep h0 h2 [a] := (Keep.refl h0 [a]).ext E2
  have O2 : own_Old Z h2 := O0.ext E2
  obtain ⟨T3, X3, e3, st3⟩ := getF X2 hx hZ2 hown2 (host := "") (Or.inl (ow hw 70 rfl)) Via.refl e2 Fv2 (g := (mkF m 11 #[oa a, oa u, oi 0, oi 0, .val .null, .unset] [(.ref a2), (.ref a)])) rfl rfl (hb hby d7_11)
  refine hG _ _ st3 ?_
  have f5 := (g2_F.ext E2)
  have f6 := (g0_E.ext E2)
  obtain ⟨T4, h4, X4, e4, W4, st4⟩ := putF X3 hx hZ2 hown2 (host := "") (Or.inl (ow hw 70 rfl)) Via.refl e3 f5 f6 (Or.inr ⟨(ow hw 71 rfl), rfl, hnm⟩) (ow hw 40 rfl) (ty := (.array .byte)) (by decide) rfl rfl (g := (mkF m 14 #[oa a, oa u, oi 0, oi 0, .val .null, .unset] [(.ref b2), (.ref a)])) rfl rfl (hb hby d7_14)
  refine hG _ _ st4 ?_
  have sf7 : Safe Z consts_1 _ h2 a := (own_safeStr hZ2.alike f6 f5)
  have R4 := (CHr.wr W4 sf7 R2.1)
  have C4 := C2.trans R4
  have K4 : Keep h0 h4 [a] := K2.wr W4 (Or.inl (List.mem_of_getElem? (i := 0) rfl))
  have O4 : own_Old Z h4 := O2.wr W4 g3_G
  have N4 := Fr.snoc X4 N0 g3_G
  refine hG _ _ (fun t_ k_ => XS.aloadN X4.here hx rfl (hb hby d7_17) rfl rfl k_) ?_
  refine hG _ _ (ldcAgain X4 hx hZ2 hown2 (ow hw 81 rfl) Li2 (g := (mkF m 18 #[oa a, oa u, oi 0, oi 0, .val .null, .unset] [(.ref a)])) rfl (hb hby d7_18)) ?_
  have f9 := (Fc2.other W4 (Or.inl (Ne.symm (Nq2 a sf7).1)))
  obtain ⟨T8, X8, e8, st8⟩ := getF X4 hx hZ2 hown2 (host := "") (Or.inl (ow hw 68 rfl)) Via.refl e4 f9 (g := (mkF m 20 #[oa a, oa u, oi 0, oi 0, .val .null, .unset] [(.ref a2), (.ref a)])) rfl rfl (hb hby d7_20)
  refine hG _ _ st8 ?_
  have f11 := ((g1_F.ext E2).other W4 (Or.inr (slot_ne (Or.inr (ow hw 69 rfl)) (Or.inr (ow hw 71 rfl)) (by decide) (t := .byte) (t' := (.array .byte)) (by decide) (by decide))))
  have f12 := (f6.wr W4)
  obtain ⟨T10, h10, X10, e10, W10, st10⟩ := putFN X8 hx hZ2 hown2 (ow hw 68 rfl) Via.refl e8 f11 f12 (Or.inr ⟨(ow hw 69 rfl), rfl, hnm⟩) (ow hw 40 rfl) (ty := .byte) (v' := (.int 0)) (by decide) rfl rfl (g := (mkF m 23 #[oa a, oa u, oi 0, oi 0, .val .null, .unset] [(.int 0), (.ref a)])) rfl rfl (hb hby d7_23)
  refine hG _ _ st10 ?_
  have sf13 := (R4.safe f5.lt sf7)
  have R10 := (CHr.wr W10 sf13 R4.1)
  have C10 := C4.trans R10
  have K10 : Keep h0 h10 [a] := K4.wr W10 (Or.inl (List.mem_of_getElem? (i := 0) rfl))
  have O10 : own_Old Z h10 := O4.wr W10 g3_G
  have N10 := Fr.snoc X10 N4 g3_G
  show G (T10.setTop (mkF m 26 #[oa a, oa u, oi 0, oi 0, .val .null, .unset] []))
  have f14 := (f12.wr W10)
  have f15 := ((f5.same W4).other W10 (Or.inr (slot_ne (Or.inr (ow hw 71 rfl)) (Or.inr (ow hw 69 rfl)) (by decide) (t := (.array .byte)) (t' := .byte) (by decide) (by decide))))
  have f16 := ((V2.other W4 (Ne.symm (Nq2 a sf7).2)).other W10 (Ne.symm (Nq2 a sf7).2))
  exact own_retVW hR hret X10 hx (hb hby d7_26) e10 SI2 (Nat.le_trans (Nat.le_trans hk2 R4.2.1) R10.2.1) hZ2 C10 (by decide) (by decide) ⟨b2, kc2, rfl, N10, K10, f14, (f11.same W10), f15, f16⟩
theorem own_str1E (l : Launch) (Z : State) (a0 : Array Value) (hw : ∀ d ∈ tables_1, d.before a0 Z = true) (hEL : EW Z a0 consts_1) (a : Addr) (u : Addr) (v0 : Value) (ku : ClassId) (h0 : Heap) (O0 : own_Old Z h0) (g0_E : Exa Z h0 a "java/lang/String") (g1_F : Fld Z h0 a "java/lang/String" "coder" "B" v0) (g2_F : Fld Z h0 a "java/lang/String" "value" "[B" .null) (g3_G : Z.heap.size ≤ a) (g4_V : Arv Z h0 u ku .char (0 : Int32) [] (.int 0)) :
    own_ConW l Z consts_1 (⟨"java/lang/String", "<init>", "([C)V"⟩ : MethodName) jdk_42_method_3_code 2 none [] ({ frames := 2, cells := 2, slots := 4, locals := 29 } : Room) #[(.ref a), (.ref u)] h0 (fun rv rh rL => ∃ (t : Addr) (kt : ClassId), rv = none ∧ own_Fr Z rL ∧ Keep h0 rh [a] ∧ (Exa Z rh a "java/lang/String") ∧ (Fld Z rh a "java/lang/String" "coder" "B" (.int 0)) ∧ (Fld Z rh a "java/lang/String" "value" "[B" (.ref t)) ∧ (Arv Z rh t kt .byte (0 : Int32) [] (.int 0))) := by
  refine own_introW hEL (plainFor_of_name (by first | (simp [plainName, overriddenIn]; done) | decide +kernel)) ?_
  intro p e s m below meth c s₁ G hx hby hml hown hnm hret hZ X0 e0 H0 SI0 hG hR
  have N0 := Fr.nil Z.heap.size
  refine own_entry (Ls := #[.val (.ref a), .val (.ref u)]) (by first | (simp [entryFrame, mkF, argsToLocals, Value.category]; done) | rfl) ?_
  show G (s₁.setTop (mkF m 0 #[oa a, oa u] []))
  refine hG _ _ (fun t_ k_ => XS.aloadN X0.here hx rfl (hb hby d6_0) rfl rfl k_) ?_
  refine hG _ _ (fun t_ k_ => XS.aloadN X0.here hx rfl (hb hby d6_1) rfl rfl k_) ?_
  refine hG _ _ (fun t_ k_ => XS.iconst X0.here hx rfl (hb hby d6_2) k_) ?_
  refine hG _ _ (fun t_ k_ => XS.aloadN X0.here hx rfl (hb hby d6_3) rfl rfl k_) ?_
  obtain ⟨c1, Ar1, -, S1, M1, -, -⟩ := id g4_V
  refine hG _ _ (X0.arraylength hx (by rw [e0]; exact Ar1.1) (State.isArrayOf_alike hZ.alike Ar1.2.1) (g := (mkF m 4 #[oa a, oa u] [(.ref u), (.int 0), (.ref u), (.ref a)])) rfl rfl (hb hby d6_4)) ?_
  rw [len_of S1 M1]
  refine hG _ _ (fun t_ k_ => XS.aconstNull X0.here hx rfl (hb hby d6_5) k_) ?_
  show G (s₁.setTop (mkF m 6 #[oa a, oa u] [.null, (.int 0), (.int 0), (.ref u), (.ref a)]))
  refine own_callIW X0 hx hZ hG hown rfl (ow hw 49 rfl) (ow hw 50 rfl) (ow hw 36 rfl) (ow hw 52 rfl) (by decide) 0 (own_str4E l Z a0 hw hEL a u v0 h0 O0 g0_E g1_F g2_F g3_G) (by decide) (by decide) e0 SI0 (Nat.le_refl _) hEL H0 (by rw [hml]; rfl) (lenOf own_pd7 rfl) (argsL := [(.ref u), (.int 0), (.int 0), .null]) (rest := []) rfl rfl (Nat.le_of_eq rfl) (hb hby d6_6) (by decide) (by decide) ?_
  intro T2 h2 v2 L2 X2 e2 SI2 hZ2 hown2 Y2 q2
  obtain ⟨t_2, kt_2, rfl, M2, J2, r2_0, r2_1, r2_2, r2_3⟩ := q2
  have N2 := Fr.app N0 M2
  have R2 := Y2
  have C2 := (CHr.refl H0).trans R2
  have K2 : Keep h0 h2 [a] := (Keep.refl h0 [a]).trans J2 (allS (Or.inl (List.mem_of_getElem? (i := 0) rfl)) all0)
  have O2 : own_Old Z h2 := O0.keep J2 (allS g3_G all0)
  show G (T2.setTop (mkF m 9 #[oa a, oa u] []))
  exact own_retVW hR hret X2 hx (hb hby d6_9) e2 SI2 (Nat.le_refl _) hZ2 C2 (by decide) (by decide) ⟨t_2, kt_2, rfl, N2, K2, r2_0, r2_1, r2_2, r2_3⟩
theorem own_pd9 : parseMethodDescriptor "([B[B)Z" = some ⟨[(.array .byte), (.array .byte)], some .boolean⟩ := by decide +kernel
theorem own_leq (l : Launch) (Z : State) (a0 : Array Value) (hw : ∀ d ∈ tables_1, d.before a0 Z = true) (v : Addr) (t : Addr) (kv : ClassId) (kt : ClassId) (ks : List Int32) (cs : List Int32) (h0 : Heap) (O0 : own_Old Z h0) (g0_V : Arv Z h0 v kv .byte (Int32.ofNat ks.length) (ks.map fun c => Value.int c.toInt8.toInt32) (.int 0)) (g1_V : Arv Z h0 t kt .byte (Int32.ofNat cs.length) (cs.map fun c => Value.int c.toInt8.toInt32) (.int 0)) (g2_hcap : ks.length ≤ 14 ∧ cs.length ≤ 14) (g3_hk : ∀ c ∈ ks, 0 ≤ c.toInt ∧ c.toInt ≤ 255) (g4_hc : ∀ c ∈ cs, 0 ≤ c.toInt ∧ c.toInt ≤ 255) :
    own_Con l Z (⟨"java/lang/StringLatin1", "equals", "([B[B)Z"⟩ : MethodName) jdk_43_method_13_code 3 (some .boolean) [] ({ frames := 0, cells := 0, slots := 0, locals := 0 } : Room) #[(.ref v), (.ref t)] h0 (fun rv rh rL => ∃ (r : Int32), rv = some (.int r) ∧ own_Fr Z rL ∧ h0 = rh ∧ ((r = (1 : Int32) ∧ cs = ks) ∨ (r = (0 : Int32) ∧ ¬ (cs = ks)))) := by
  refine own_intro (plainFor_of_name (by first | (simp [plainName, overriddenIn]; done) | decide +kernel)) ?_
  intro p e s m below meth c s₁ G hx hby hml hown hnm hret hZ X0 e0 hG hR
  have N0 := Fr.nil Z.heap.size
  refine own_entry (Ls := #[.val (.ref v), .val (.ref t), .unset]) (by first | (simp [entryFrame, mkF, argsToLocals, Value.category]; done) | rfl) ?_
  show G (s₁.setTop (mkF m 0 #[oa v, oa t, .unset] []))
  refine hG _ _ (fun t_ k_ => XS.aloadN X0.here hx rfl (hb hby d12_0) rfl rfl k_) ?_
  obtain ⟨c1, Ar1, -, S1, M1, -, -⟩ := id g0_V
  refine hG _ _ (X0.arraylength hx (by rw [e0]; exact Ar1.1) (State.isArrayOf_alike hZ.alike Ar1.2.1) (g := (mkF m 1 #[oa v, oa t, .unset] [(.ref v)])) rfl rfl (hb hby d12_1)) ?_
  rw [len_of S1 M1]
  refine hG _ _ (fun t_ k_ => XS.aloadN X0.here hx rfl (hb hby d12_2) rfl rfl k_) ?_
  obtain ⟨c2, Ar2, -, S2, M2, -, -⟩ := id g1_V
  refine hG _ _ (X0.arraylength hx (by rw [e0]; exact Ar2.1) (State.isArrayOf_alike hZ.alike Ar2.2.1) (g := (mkF m 3 #[oa v, oa t, .unset] [(.ref t), (.int (Int32.ofNat ks.length))])) rfl rfl (hb hby d12_3)) ?_
  rw [len_of S2 M2]
  show G (s₁.setTop (mkF m 4 #[oa v, oa t, .unset] [(.int (Int32.ofNat cs.length)), (.int (Int32.ofNat ks.length))]))
  by_cases hc4_3 : (Int32.ofNat ks.length) = (Int32.ofNat cs.length)
  · skip
    refine hG _ _ (fun t_ k_ => XS.icmpNo X0.here hx rfl (hb hby d12_4) rfl (teq hc4_3).2 k_) ?_
    show G (s₁.setTop (mkF m 7 #[oa v, oa t, .unset] []))
    refine hG _ _ (fun t_ k_ => XS.iconst X0.here hx rfl (hb hby d12_7) k_) ?_
    refine hG _ _ (fun t_ k_ => XS.istoreN X0.here hx rfl (hb hby d12_8) rfl (l' := #[oa v, oa t, oi 0]) rfl k_) ?_
    show G (s₁.setTop (mkF m 9 #[oa v, oa t, oi 0] []))
    have hlen : ks.length = cs.length := own_ofNat_inj (by omega) (by omega) hc4_3
    have loop : ∀ (r i : Nat) (T : State) (locs : List Loc), r + i = ks.length → Stand p l e ({ frames := 0, cells := 0, slots := 0, locals := 0 } : Room) s m #[(.ref v), (.ref t)] below meth c T locs 0 0 → T.heap = h0 → own_Fr Z locs → (∀ j, j < i → ks.getD j 0 = cs.getD j 0) → G (T.setTop (mkF m 9 #[oa v, oa t, oi (Int32.ofNat i)] [])) := by
      intro r
      induction r with
      | zero =>
        intro i T locs hri X eT N hs
        obtain rfl : i = ks.length := by omega
        refine hG _ _ (fun t_ k_ => XS.iloadN X.here hx rfl (hb hby d12_9) rfl k_) ?_
        refine hG _ _ (fun t_ k_ => XS.aloadN X.here hx rfl (hb hby d12_10) rfl rfl k_) ?_
        obtain ⟨c4, Ar4, -, S4, M4, -, -⟩ := id g0_V
        refine hG _ _ (X.arraylength hx (by rw [eT]; exact Ar4.1) (State.isArrayOf_alike hZ.alike Ar4.2.1) (g := (mkF m 11 #[oa v, oa t, oi (Int32.ofNat ks.length)] [(.ref v), (.int (Int32.ofNat ks.length))])) rfl rfl (hb hby d12_11)) ?_
        rw [len_of S4 M4]
        show G (T.setTop (mkF m 12 #[oa v, oa t, oi (Int32.ofNat ks.length)] [(.int (Int32.ofNat ks.length)), (.int (Int32.ofNat ks.length))]))
        refine hG _ _ (fun t_ k_ => XS.icmpYes X.here hx rfl (pc0 := 12) (pc' := 32) rfl (hb hby d12_12) rfl (flt (own_nlt (Nat.le_refl _) (by omega))).2.1 (by decide) (by decide) k_) ?_
        show G (T.setTop (mkF m 32 #[oa v, oa t, oi (Int32.ofNat ks.length)] []))
        refine hG _ _ (fun t_ k_ => XS.iconst X.here hx rfl (hb hby d12_32) k_) ?_
        show G (T.setTop (mkF m 33 #[oa v, oa t, oi (Int32.ofNat ks.length)] [(.int 1)]))
        exact own_retN hR hret (by simp) X hx (hb hby d12_33) (by decide) (by decide) (by rw [eT]; exact ⟨(1 : Int32), rfl, N, rfl, (Or.inl ⟨rfl, own_eq_of hlen hs⟩)⟩)
      | succ r ih =>
        intro i T locs hri X eT N hs
        have hi : i < ks.length := by omega
        have hj : i < cs.length := by omega
        have hbe := own_byteEq (g3_hk _ (own_getD_mem ks i 0 hi)) (g4_hc _ (own_getD_mem cs i 0 hj))
        refine hG _ _ (fun t_ k_ => XS.iloadN X.here hx rfl (hb hby d12_9) rfl k_) ?_
        refine hG _ _ (fun t_ k_ => XS.aloadN X.here hx rfl (hb hby d12_10) rfl rfl k_) ?_
        obtain ⟨c5, Ar5, -, S5, M5, -, -⟩ := id g0_V
        refine hG _ _ (X.arraylength hx (by rw [eT]; exact Ar5.1) (State.isArrayOf_alike hZ.alike Ar5.2.1) (g := (mkF m 11 #[oa v, oa t, oi (Int32.ofNat i)] [(.ref v), (.int (Int32.ofNat i))])) rfl rfl (hb hby d12_11)) ?_
        rw [len_of S5 M5]
        show G (T.setTop (mkF m 12 #[oa v, oa t, oi (Int32.ofNat i)] [(.int (Int32.ofNat ks.length)), (.int (Int32.ofNat i))]))
        refine hG _ _ (fun t_ k_ => XS.icmpNo X.here hx rfl (hb hby d12_12) rfl (tlt (own_lt hi (by omega))).2.1 k_) ?_
        show G (T.setTop (mkF m 15 #[oa v, oa t, oi (Int32.ofNat i)] []))
        refine hG _ _ (fun t_ k_ => XS.aloadN X.here hx rfl (hb hby d12_15) rfl rfl k_) ?_
        refine hG _ _ (fun t_ k_ => XS.iloadN X.here hx rfl (hb hby d12_16) rfl k_) ?_
        obtain ⟨c6, Ar6, q6, S6, M6, H6, G6⟩ := id g0_V
        have hin6 : ¬ ((Int32.ofNat i) < 0 ∨ c6.slots.size ≤ (Int32.ofNat i).toNatClampNeg) := inb_of S6 ⟨own_nn (by omega), own_lt hi (by omega)⟩
        refine hG _ _ (X.baloadBytes hx (j := (Int32.ofNat i)) (v := (.int ((ks.getD i 0).toInt8.toInt32))) (by rw [eT]; exact Ar6.1) (State.isArrayOf_alike hZ.alike Ar6.2.1) Ar6.2.2 hin6 (Has.at H6 hin6 (by rw [own_clamp (by omega)]; exact own_getD_map (fun c : Int32 => Value.int c.toInt8.toInt32) ks i _ 0 hi)) (g := (mkF m 17 #[oa v, oa t, oi (Int32.ofNat i)] [(.int (Int32.ofNat i)), (.ref v)])) rfl rfl (hb hby d12_17)) ?_
        refine hG _ _ (fun t_ k_ => XS.aloadN X.here hx rfl (hb hby d12_18) rfl rfl k_) ?_
        refine hG _ _ (fun t_ k_ => XS.iloadN X.here hx rfl (hb hby d12_19) rfl k_) ?_
        obtain ⟨c7, Ar7, q7, S7, M7, H7, G7⟩ := id g1_V
        have hin7 : ¬ ((Int32.ofNat i) < 0 ∨ c7.slots.size ≤ (Int32.ofNat i).toNatClampNeg) := inb_of S7 ⟨own_nn (by omega), own_lt hj (by omega)⟩
        refine hG _ _ (X.baloadBytes hx (j := (Int32.ofNat i)) (v := (.int ((cs.getD i 0).toInt8.toInt32))) (by rw [eT]; exact Ar7.1) (State.isArrayOf_alike hZ.alike Ar7.2.1) Ar7.2.2 hin7 (Has.at H7 hin7 (by rw [own_clamp (by omega)]; exact own_getD_map (fun c : Int32 => Value.int c.toInt8.toInt32) cs i _ 0 hj)) (g := (mkF m 20 #[oa v, oa t, oi (Int32.ofNat i)] [(.int (Int32.ofNat i)), (.ref t), (.int ((ks.getD i 0).toInt8.toInt32))])) rfl rfl (hb hby d12_20)) ?_
        show G (T.setTop (mkF m 21 #[oa v, oa t, oi (Int32.ofNat i)] [(.int ((cs.getD i 0).toInt8.toInt32)), (.int ((ks.getD i 0).toInt8.toInt32))]))
        by_cases hc21_8 : ((ks.getD i 0).toInt8.toInt32) = ((cs.getD i 0).toInt8.toInt32)
        · skip
          refine hG _ _ (fun t_ k_ => XS.icmpYes X.here hx rfl (pc0 := 21) (pc' := 26) rfl (hb hby d12_21) rfl (teq hc21_8).1 (by decide) (by decide) k_) ?_
          show G (T.setTop (mkF m 26 #[oa v, oa t, oi (Int32.ofNat i)] []))
          refine hG _ _ (fun t_ k_ => XS.iinc X.here hx rfl (hb hby d12_26) rfl (l' := #[oa v, oa t, oi ((Int32.ofNat i) + (1 : Int32))]) rfl k_) ?_
          refine hG _ _ (fun t_ k_ => XS.goto X.here hx rfl (pc0 := 29) (pc' := 9) rfl (hb hby d12_29) (by decide) (by decide) k_) ?_
          show G (T.setTop (mkF m 9 #[oa v, oa t, oi ((Int32.ofNat i) + (1 : Int32))] []))
          rw [own_inc i]
          exact ih (i + 1) _ _ (by omega) X eT N (fun j hj2 => by by_cases e : j = i; exact e ▸ hbe.mp hc21_8; exact hs j (by omega))
        · skip
          refine hG _ _ (fun t_ k_ => XS.icmpNo X.here hx rfl (hb hby d12_21) rfl (feq hc21_8).1 k_) ?_
          show G (T.setTop (mkF m 24 #[oa v, oa t, oi (Int32.ofNat i)] []))
          refine hG _ _ (fun t_ k_ => XS.iconst X.here hx rfl (hb hby d12_24) k_) ?_
          show G (T.setTop (mkF m 25 #[oa v, oa t, oi (Int32.ofNat i)] [(.int 0)]))
          exact own_retN hR hret (by simp) X hx (hb hby d12_25) (by decide) (by decide) (by rw [eT]; exact ⟨(0 : Int32), rfl, N, rfl, (Or.inr ⟨rfl, own_ne_of (j := i) (fun q => hc21_8 (hbe.mpr q))⟩)⟩)
    exact loop ks.length 0 _ _ rfl X0 e0 N0 (fun j hj => absurd hj (Nat.not_lt_zero j))
  · skip
    refine hG _ _ (fun t_ k_ => XS.icmpYes X0.here hx rfl (pc0 := 4) (pc' := 34) rfl (hb hby d12_4) rfl (feq hc4_3).2 (by decide) (by decide) k_) ?_
    show G (s₁.setTop (mkF m 34 #[oa v, oa t, .unset] []))
    refine hG _ _ (fun t_ k_ => XS.iconst X0.here hx rfl (hb hby d12_34) k_) ?_
    show G (s₁.setTop (mkF m 35 #[oa v, oa t, .unset] [(.int 0)]))
    exact own_retN hR hret (by simp) X0 hx (hb hby d12_35) (by decide) (by decide) (by rw [e0]; exact ⟨(0 : Int32), rfl, N0, rfl, (Or.inr ⟨rfl, own_ne_len (fun q => hc4_3 (by rw [q]))⟩)⟩)
theorem own_pd10 : parseMethodDescriptor "(Ljava/lang/Object;)Z" = some ⟨[(.object "java/lang/Object")], some .boolean⟩ := by decide +kernel
theorem own_seq (l : Launch) (Z : State) (a0 : Array Value) (hw : ∀ d ∈ tables_1, d.before a0 Z = true) (q : Addr) (v : Addr) (kv : ClassId) (ks : List Int32) (a : Addr) (t : Addr) (kt : ClassId) (cs : List Int32) (cd : Int32) (nb : Int32) (vs : List Value) (cpt : Int32) (h0 : Heap) (O0 : own_Old Z h0) (g0_E : Exa Z h0 a "java/lang/String") (g1_F : Fld Z h0 a "java/lang/String" "coder" "B" (.int cd)) (g2_F : Fld Z h0 a "java/lang/String" "value" "[B" (.ref t)) (g3_V : Arv Z h0 t kt .byte nb vs (.int 0)) (g4_henc : own_enc cs cd nb vs) (g5_hcap : cs.length ≤ 14) (g6_h16 : ∀ c ∈ cs, 0 ≤ c.toInt ∧ c.toInt ≤ 65535) (g7_S : Sta Z Z.heap "java/lang/String" "COMPACT_STRINGS" "Z" (.int cpt)) (g8_hcpt : ¬ (cpt = (0 : Int32))) (g9_F : Fld Z h0 q "java/lang/String" "coder" "B" (.int 0)) (g10_F : Fld Z h0 q "java/lang/String" "value" "[B" (.ref v)) (g11_V : Arv Z h0 v kv .byte (Int32.ofNat ks.length) (ks.map fun c => Value.int c.toInt8.toInt32) (.int 0)) (g12_hkl : ks.length ≤ 14) (g13_hk : ∀ c ∈ ks, 0 ≤ c.toInt ∧ c.toInt ≤ 255) (g14_hne : q ≠ a) :
    own_Con l Z (⟨"java/lang/String", "equals", "(Ljava/lang/Object;)Z"⟩ : MethodName) jdk_42_method_66_code 3 (some .boolean) [] ({ frames := 1, cells := 0, slots := 0, locals := 14 } : Room) #[(.ref q), (.ref a)] h0 (fun rv rh rL => ∃ (r : Int32), rv = some (.int r) ∧ own_Fr Z rL ∧ h0 = rh ∧ ((r = (1 : Int32) ∧ cs = ks) ∨ (r = (0 : Int32) ∧ ¬ (cs = ks)))) := by
  refine own_intro (plainFor_of_name (by first | (simp [plainName, overriddenIn]; done) | decide +kernel)) ?_
  intro p e s m below meth c s₁ G hx hby hml hown hnm hret hZ X0 e0 hG hR
  have N0 := Fr.nil Z.heap.size
  refine own_entry (Ls := #[.val (.ref q), .val (.ref a), .unset]) (by first | (simp [entryFrame, mkF, argsToLocals, Value.category]; done) | rfl) ?_
  show G (s₁.setTop (mkF m 0 #[oa q, oa a, .unset] []))
  rcases id g4_henc with ⟨hall, rfl, rfl, rfl⟩ | ⟨hbig, rfl, rfl, h16⟩
  · skip
    show G (s₁.setTop (mkF m 0 #[oa q, oa a, .unset] []))
    refine hG _ _ (fun t_ k_ => XS.aloadN X0.here hx rfl (hb hby d4_0) rfl rfl k_) ?_
    refine hG _ _ (fun t_ k_ => XS.aloadN X0.here hx rfl (hb hby d4_1) rfl rfl k_) ?_
    show G (s₁.setTop (mkF m 2 #[oa q, oa a, .unset] [(.ref a), (.ref q)]))
    refine hG _ _ (fun t_ k_ => Jvm.RoadKit.acmp (g := (mkF m 2 #[oa q, oa a, .unset] [(.ref a), (.ref q)])) X0 hx rfl rfl rfl (pc0 := 2) (pc' := 7) (same := false) rfl (hb hby d4_2) rfl (decide_eq_false fun q => g14_hne (Value.ref.inj q)) (by decide) (by decide) k_) ?_
    show G (s₁.setTop (mkF m 7 #[oa q, oa a, .unset] []))
    refine hG _ _ (fun t_ k_ => XS.aloadN X0.here hx rfl (hb hby d4_7) rfl rfl k_) ?_
    obtain ⟨T1, X1, e1, st1⟩ := instY X0 hx hZ hown (ow hw 72 rfl) e0 (Ins.self g0_E) (g := (mkF m 8 #[oa q, oa a, .unset] [(.ref a)])) rfl rfl (hb hby d4_8)
    refine hG _ _ st1 ?_
    show G (T1.setTop (mkF m 11 #[oa q, oa a, .unset] [(.int 1)]))
    refine hG _ _ (fun t_ k_ => XS.ifNo X1.here hx rfl (hb hby d4_11) rfl ((if0 _ _).trans (feq (by decide)).1) k_) ?_
    show G (T1.setTop (mkF m 14 #[oa q, oa a, .unset] []))
    refine hG _ _ (fun t_ k_ => XS.aloadN X1.here hx rfl (hb hby d4_14) rfl rfl k_) ?_
    obtain ⟨T2, X2, e2, st2⟩ := castY X1 hx hZ hown (ow hw 72 rfl) e1 (Ins.self g0_E) (g := (mkF m 15 #[oa q, oa a, .unset] [(.ref a)])) rfl rfl (hb hby d4_15)
    refine hG _ _ st2 ?_
    refine hG _ _ (fun t_ k_ => XS.astoreN X2.here hx rfl (hb hby d4_18) rfl rfl (l' := #[oa q, oa a, oa a]) rfl k_) ?_
    obtain ⟨T3, X3, e3, st3⟩ := getS2 X2 hx hZ hown (host := "") (Or.inl (ow hw 56 rfl)) Via.refl e2 (own_sta g7_S O0) (g := (mkF m 19 #[oa q, oa a, oa a] [])) rfl (hb hby d4_19)
    refine hG _ _ st3 ?_
    show G (T3.setTop (mkF m 22 #[oa q, oa a, oa a] [(.int cpt)]))
    refine hG _ _ (fun t_ k_ => XS.ifNo X3.here hx rfl (hb hby d4_22) rfl ((if0 _ _).trans (feq g8_hcpt).1) k_) ?_
    show G (T3.setTop (mkF m 25 #[oa q, oa a, oa a] []))
    refine hG _ _ (fun t_ k_ => XS.aloadN X3.here hx rfl (hb hby d4_25) rfl rfl k_) ?_
    obtain ⟨T4, X4, e4, st4⟩ := getF X3 hx hZ hown (host := "") (Or.inl (ow hw 68 rfl)) Via.refl e3 g9_F (g := (mkF m 26 #[oa q, oa a, oa a] [(.ref q)])) rfl rfl (hb hby d4_26)
    refine hG _ _ st4 ?_
    refine hG _ _ (fun t_ k_ => XS.aloadN X4.here hx rfl (hb hby d4_29) rfl rfl k_) ?_
    obtain ⟨T5, X5, e5, st5⟩ := getF X4 hx hZ hown (host := "") (Or.inl (ow hw 68 rfl)) Via.refl e4 g1_F (g := (mkF m 30 #[oa q, oa a, oa a] [(.ref a), (.int 0)])) rfl rfl (hb hby d4_30)
    refine hG _ _ st5 ?_
    show G (T5.setTop (mkF m 33 #[oa q, oa a, oa a] [(.int 0), (.int 0)]))
    refine hG _ _ (fun t_ k_ => XS.icmpNo X5.here hx rfl (hb hby d4_33) rfl (teq (by decide)).2 k_) ?_
    show G (T5.setTop (mkF m 36 #[oa q, oa a, oa a] []))
    refine hG _ _ (fun t_ k_ => XS.aloadN X5.here hx rfl (hb hby d4_36) rfl rfl k_) ?_
    obtain ⟨T6, X6, e6, st6⟩ := getF X5 hx hZ hown (host := "") (Or.inl (ow hw 70 rfl)) Via.refl e5 g10_F (g := (mkF m 37 #[oa q, oa a, oa a] [(.ref q)])) rfl rfl (hb hby d4_37)
    refine hG _ _ st6 ?_
    refine hG _ _ (fun t_ k_ => XS.aloadN X6.here hx rfl (hb hby d4_40) rfl rfl k_) ?_
    obtain ⟨T7, X7, e7, st7⟩ := getF X6 hx hZ hown (host := "") (Or.inl (ow hw 70 rfl)) Via.refl e6 g2_F (g := (mkF m 41 #[oa q, oa a, oa a] [(.ref a), (.ref v)])) rfl rfl (hb hby d4_41)
    refine hG _ _ st7 ?_
    show G (T7.setTop (mkF m 44 #[oa q, oa a, oa a] [(.ref t), (.ref v)]))
    refine own_callS X7 hx hZ hG hown (ow hw 73 rfl) (ow hw 74 rfl) (ow hw 75 rfl) (ow hw 76 rfl) (by decide) 0 (own_leq l Z a0 hw v t kv kt ks cs h0 O0 g11_V g3_V ⟨g12_hkl, g5_hcap⟩ g13_hk (own_lat_rng hall g6_h16)) (by decide) (by decide) e7 (by rw [hml]; rfl) (lenOf own_pd9 rfl) (argsL := [(.ref v), (.ref t)]) (rest := []) rfl rfl (Nat.le_of_eq rfl) (hb hby d4_44) (by decide) (by decide) ?_
    intro T8 h8 v8 L8 X8 e8 q8
    obtain ⟨r_8, rfl, M8, rfl, r8_0⟩ := q8
    have N8 := Fr.app N0 M8
    show G (T8.setTop (mkF m 47 #[oa q, oa a, oa a] [(.int r_8)]))
    rcases r8_0 with ⟨rfl, heq⟩ | ⟨rfl, heq⟩
    · skip
      show G (T8.setTop (mkF m 47 #[oa q, oa a, oa a] [(.int 1)]))
      refine hG _ _ (fun t_ k_ => XS.ifNo X8.here hx rfl (hb hby d4_47) rfl ((if0 _ _).trans (feq (by decide)).1) k_) ?_
      show G (T8.setTop (mkF m 50 #[oa q, oa a, oa a] []))
      refine hG _ _ (fun t_ k_ => XS.iconst X8.here hx rfl (hb hby d4_50) k_) ?_
      refine hG _ _ (fun t_ k_ => XS.goto X8.here hx rfl (pc0 := 51) (pc' := 55) rfl (hb hby d4_51) (by decide) (by decide) k_) ?_
      show G (T8.setTop (mkF m 55 #[oa q, oa a, oa a] [(.int 1)]))
      exact own_retN hR hret (by simp) X8 hx (hb hby d4_55) (by decide) (by decide) (by rw [e8]; exact ⟨(1 : Int32), rfl, N8, rfl, (Or.inl ⟨rfl, heq⟩)⟩)
    · skip
      show G (T8.setTop (mkF m 47 #[oa q, oa a, oa a] [(.int 0)]))
      refine hG _ _ (fun t_ k_ => XS.ifYes X8.here hx rfl (pc0 := 47) (pc' := 54) rfl (hb hby d4_47) rfl ((if0 _ _).trans (teq (by decide)).1) (by decide) (by decide) k_) ?_
      show G (T8.setTop (mkF m 54 #[oa q, oa a, oa a] []))
      refine hG _ _ (fun t_ k_ => XS.iconst X8.here hx rfl (hb hby d4_54) k_) ?_
      show G (T8.setTop (mkF m 55 #[oa q, oa a, oa a] [(.int 0)]))
      exact own_retN hR hret (by simp) X8 hx (hb hby d4_55) (by decide) (by decide) (by rw [e8]; exact ⟨(0 : Int32), rfl, N8, rfl, (Or.inr ⟨rfl, heq⟩)⟩)
  · skip
    show G (s₁.setTop (mkF m 0 #[oa q, oa a, .unset] []))
    refine hG _ _ (fun t_ k_ => XS.aloadN X0.here hx rfl (hb hby d4_0) rfl rfl k_) ?_
    refine hG _ _ (fun t_ k_ => XS.aloadN X0.here hx rfl (hb hby d4_1) rfl rfl k_) ?_
    show G (s₁.setTop (mkF m 2 #[oa q, oa a, .unset] [(.ref a), (.ref q)]))
    refine hG _ _ (fun t_ k_ => Jvm.RoadKit.acmp (g := (mkF m 2 #[oa q, oa a, .unset] [(.ref a), (.ref q)])) X0 hx rfl rfl rfl (pc0 := 2) (pc' := 7) (same := false) rfl (hb hby d4_2) rfl (decide_eq_false fun q => g14_hne (Value.ref.inj q)) (by decide) (by decide) k_) ?_
    show G (s₁.setTop (mkF m 7 #[oa q, oa a, .unset] []))
    refine hG _ _ (fun t_ k_ => XS.aloadN X0.here hx rfl (hb hby d4_7) rfl rfl k_) ?_
    obtain ⟨T9, X9, e9, st9⟩ := instY X0 hx hZ hown (ow hw 72 rfl) e0 (Ins.self g0_E) (g := (mkF m 8 #[oa q, oa a, .unset] [(.ref a)])) rfl rfl (hb hby d4_8)
    refine hG _ _ st9 ?_
    show G (T9.setTop (mkF m 11 #[oa q, oa a, .unset] [(.int 1)]))
    refine hG _ _ (fun t_ k_ => XS.ifNo X9.here hx rfl (hb hby d4_11) rfl ((if0 _ _).trans (feq (by decide)).1) k_) ?_
    show G (T9.setTop (mkF m 14 #[oa q, oa a, .unset] []))
    refine hG _ _ (fun t_ k_ => XS.aloadN X9.here hx rfl (hb hby d4_14) rfl rfl k_) ?_
    obtain ⟨T10, X10, e10, st10⟩ := castY X9 hx hZ hown (ow hw 72 rfl) e9 (Ins.self g0_E) (g := (mkF m 15 #[oa q, oa a, .unset] [(.ref a)])) rfl rfl (hb hby d4_15)
    refine hG _ _ st10 ?_
    refine hG _ _ (fun t_ k_ => XS.astoreN X10.here hx rfl (hb hby d4_18) rfl rfl (l' := #[oa q, oa a, oa a]) rfl k_) ?_
    obtain ⟨T11, X11, e11, st11⟩ := getS2 X10 hx hZ hown (host := "") (Or.inl (ow hw 56 rfl)) Via.refl e10 (own_sta g7_S O0) (g := (mkF m 19 #[oa q, oa a, oa a] [])) rfl (hb hby d4_19)
    refine hG _ _ st11 ?_
    show G (T11.setTop (mkF m 22 #[oa q, oa a, oa a] [(.int cpt)]))
    refine hG _ _ (fun t_ k_ => XS.ifNo X11.here hx rfl (hb hby d4_22) rfl ((if0 _ _).trans (feq g8_hcpt).1) k_) ?_
    show G (T11.setTop (mkF m 25 #[oa q, oa a, oa a] []))
    refine hG _ _ (fun t_ k_ => XS.aloadN X11.here hx rfl (hb hby d4_25) rfl rfl k_) ?_
    obtain ⟨T12, X12, e12, st12⟩ := getF X11 hx hZ hown (host := "") (Or.inl (ow hw 68 rfl)) Via.refl e11 g9_F (g := (mkF m 26 #[oa q, oa a, oa a] [(.ref q)])) rfl rfl (hb hby d4_26)
    refine hG _ _ st12 ?_
    refine hG _ _ (fun t_ k_ => XS.aloadN X12.here hx rfl (hb hby d4_29) rfl rfl k_) ?_
    obtain ⟨T13, X13, e13, st13⟩ := getF X12 hx hZ hown (host := "") (Or.inl (ow hw 68 rfl)) Via.refl e12 g1_F (g := (mkF m 30 #[oa q, oa a, oa a] [(.ref a), (.int 0)])) rfl rfl (hb hby d4_30)
    refine hG _ _ st13 ?_
    show G (T13.setTop (mkF m 33 #[oa q, oa a, oa a] [(.int 1), (.int 0)]))
    refine hG _ _ (fun t_ k_ => XS.icmpYes X13.here hx rfl (pc0 := 33) (pc' := 54) rfl (hb hby d4_33) rfl (feq (by decide)).2 (by decide) (by decide) k_) ?_
    show G (T13.setTop (mkF m 54 #[oa q, oa a, oa a] []))
    refine hG _ _ (fun t_ k_ => XS.iconst X13.here hx rfl (hb hby d4_54) k_) ?_
    show G (T13.setTop (mkF m 55 #[oa q, oa a, oa a] [(.int 0)]))
    exact own_retN hR hret (by simp) X13 hx (hb hby d4_55) (by decide) (by decide) (by rw [e13]; exact ⟨(0 : Int32), rfl, N0, rfl, (Or.inr ⟨rfl, own_enc_lat hbig (fun c hc => own_le255 (g13_hk c hc))⟩)⟩)
theorem own_eqs (l : Launch) (Z : State) (a0 : Array Value) (hw : ∀ d ∈ tables_1, d.before a0 Z = true) (a : Addr) (h0 : Heap) (O0 : own_Old Z h0) :
    own_Con l Z (⟨"java/lang/String", "equals", "(Ljava/lang/Object;)Z"⟩ : MethodName) jdk_42_method_66_code 3 (some .boolean) [] ({ frames := 0, cells := 0, slots := 0, locals := 0 } : Room) #[(.ref a), (.ref a)] h0 (fun rv rh rL => rv = some (.int 1) ∧ own_Fr Z rL ∧ h0 = rh) := by
  refine own_intro (plainFor_of_name (by first | (simp [plainName, overriddenIn]; done) | decide +kernel)) ?_
  intro p e s m below meth c s₁ G hx hby hml hown hnm hret hZ X0 e0 hG hR
  have N0 := Fr.nil Z.heap.size
  refine own_entry (Ls := #[.val (.ref a), .val (.ref a), .unset]) (by first | (simp [entryFrame, mkF, argsToLocals, Value.category]; done) | rfl) ?_
  show G (s₁.setTop (mkF m 0 #[oa a, oa a, .unset] []))
  refine hG _ _ (fun t_ k_ => XS.aloadN X0.here hx rfl (hb hby d4_0) rfl rfl k_) ?_
  refine hG _ _ (fun t_ k_ => XS.aloadN X0.here hx rfl (hb hby d4_1) rfl rfl k_) ?_
  show G (s₁.setTop (mkF m 2 #[oa a, oa a, .unset] [(.ref a), (.ref a)]))
  refine hG _ _ (fun t_ k_ => Jvm.RoadKit.acmp (g := (mkF m 2 #[oa a, oa a, .unset] [(.ref a), (.ref a)])) X0 hx rfl rfl rfl (pc0 := 2) (pc' := 5) (same := true) rfl (hb hby d4_2) rfl (decide_eq_true rfl) (by decide) (by decide) k_) ?_
  show G (s₁.setTop (mkF m 5 #[oa a, oa a, .unset] []))
  refine hG _ _ (fun t_ k_ => XS.iconst X0.here hx rfl (hb hby d4_5) k_) ?_
  show G (s₁.setTop (mkF m 6 #[oa a, oa a, .unset] [(.int 1)]))
  exact own_retN hR hret (by simp) X0 hx (hb hby d4_6) (by decide) (by decide) (by rw [e0]; exact ⟨rfl, N0, rfl⟩)
theorem own_rk0 : ∀ c ∈ [(99 : Int32), (111 : Int32), (110 : Int32), (110 : Int32), (101 : Int32), (99 : Int32), (116 : Int32)], 0 ≤ c.toInt ∧ c.toInt ≤ 255 := by decide
theorem own_rk1 : ∀ c ∈ [(102 : Int32), (97 : Int32), (105 : Int32), (108 : Int32), (101 : Int32), (100 : Int32)], 0 ≤ c.toInt ∧ c.toInt ≤ 255 := by decide
theorem own_rk2 : ∀ c ∈ [(112 : Int32), (101 : Int32), (110 : Int32), (100 : Int32), (105 : Int32), (110 : Int32), (103 : Int32), (67 : Int32), (114 : Int32), (101 : Int32), (97 : Int32), (116 : Int32), (101 : Int32)], 0 ≤ c.toInt ∧ c.toInt ≤ 255 := by decide
theorem own_pd11 : parseMethodDescriptor "()[Lcom/example/handlewright/handlewright/DomainStatus;" = some ⟨[], some (.array (.object "com/example/handlewright/handlewright/DomainStatus"))⟩ := by decide +kernel
theorem own_vals (l : Launch) (Z : State) (a0 : Array Value) (hw : ∀ d ∈ tables_1, d.before a0 Z = true) (vals : Addr) (kl : ClassId) (d0 : Addr) (d1 : Addr) (d2 : Addr) (h0 : Heap) (O0 : own_Old Z h0) (g0_S : Sta Z Z.heap "com/example/handlewright/handlewright/DomainStatus" "$VALUES" "[Lcom/example/handlewright/handlewright/DomainStatus;" (.ref vals)) (g1_E : Exa Z h0 vals "[Lcom/example/handlewright/handlewright/DomainStatus;") (g2_V : Arv Z h0 vals kl (.object "com/example/handlewright/handlewright/DomainStatus") (3 : Int32) [(.ref d0), (.ref d1), (.ref d2)] .null) :
    own_Con l Z (⟨"com/example/handlewright/handlewright/DomainStatus", "values", "()[Lcom/example/handlewright/handlewright/DomainStatus;"⟩ : MethodName) prog_8_method_1_code 0 (some (.array (.object "com/example/handlewright/handlewright/DomainStatus"))) [] ({ frames := 1, cells := 1, slots := 3, locals := 14 } : Room) #[] h0 (fun rv rh rL => ∃ (u : Addr), rv = some (.ref u) ∧ own_Fr Z rL ∧ Keep h0 rh [] ∧ h0.size ≤ u ∧ (Arv Z rh u kl (.object "com/example/handlewright/handlewright/DomainStatus") (3 : Int32) [(.ref d0), (.ref d1), (.ref d2)] .null)) := by
  refine own_intro (plainFor_of_name (by first | (simp [plainName, overriddenIn]; done) | decide +kernel)) ?_
  intro p e s m below meth c s₁ G hx hby hml hown hnm hret hZ X0 e0 hG hR
  have N0 := Fr.nil Z.heap.size
  refine own_entry (Ls := #[]) (by first | (simp [entryFrame, mkF, argsToLocals, Value.category]; done) | rfl) ?_
  show G (s₁.setTop (mkF m 0 #[] []))
  obtain ⟨T1, X1, e1, st1⟩ := getS2 X0 hx hZ hown (host := "") (Or.inl (ow hw 18 rfl)) Via.refl e0 (own_sta g0_S O0) (g := (mkF m 0 #[] [])) rfl (hb hby d3_0)
  refine hG _ _ st1 ?_
  show G (T1.setTop (mkF m 3 #[] [(.ref vals)]))
  obtain ⟨T2, h2, X2, e2, E2, V2, A2, st2⟩ := cloneH X1 hx hZ hown (ow hw 20 rfl) (ow hw 21 rfl) (ow hw 25 rfl) (ow hw 23 rfl) (ow hw 24 rfl) (ow hw 26 rfl) e1 (Arv.arh g2_V) g1_E (g := (mkF m 3 #[] [(.ref vals)])) rfl (by rw [hml]; rfl) rfl (hb hby d3_3) (by decide) (W := 0) (cap := 3) (by show 2 * 0 + _ ≤ _; exact Nat.le_of_eq rfl) (by decide) (by decide) (by decide) (by decide)
  obtain ⟨b2, z2⟩ : ∃ z, z = h0.size := ⟨_, rfl⟩
  rw [← z2] at A2 V2 st2
  refine hG _ _ st2 ?_
  have K2 : Keep h0 h2 [] := (Keep.refl h0 []).ext E2
  have O2 : own_Old Z h2 := O0.ext E2
  show G (T2.setTop (mkF m 6 #[] [(.ref b2)]))
  obtain ⟨T3, X3, e3, st3⟩ := castY X2 hx hZ hown (ow hw 30 rfl) e2 (Ins.self A2) (g := (mkF m 6 #[] [(.ref b2)])) rfl rfl (hb hby d3_6)
  refine hG _ _ st3 ?_
  show G (T3.setTop (mkF m 9 #[] [(.ref b2)]))
  exact own_retA hR hret rfl rfl X3 hx (hb hby d3_9) (by decide) (by decide) (by rw [e3]; exact ⟨b2, rfl, N0, K2, (Nat.le_trans (Keep.refl h0 []).1 (Nat.le_of_eq z2.symm)), V2⟩)
theorem own_pd12 : parseMethodDescriptor "()Ljava/lang/String;" = some ⟨[], some (.object "java/lang/String")⟩ := by decide +kernel
theorem own_text (l : Launch) (Z : State) (a0 : Array Value) (hw : ∀ d ∈ tables_1, d.before a0 Z = true) (d : Addr) (t : Addr) (h0 : Heap) (O0 : own_Old Z h0) (g0_F : Fld Z h0 d "com/example/handlewright/handlewright/DomainStatus" "text" "Ljava/lang/String;" (.ref t)) :
    own_Con l Z (⟨"com/example/handlewright/handlewright/DomainStatus", "text", "()Ljava/lang/String;"⟩ : MethodName) prog_8_method_4_code 1 (some (.object "java/lang/String")) [] ({ frames := 0, cells := 0, slots := 0, locals := 0 } : Room) #[(.ref d)] h0 (fun rv rh rL => rv = some (.ref t) ∧ own_Fr Z rL ∧ h0 = rh) := by
  refine own_intro (plainFor_of_name (by first | (simp [plainName, overriddenIn]; done) | decide +kernel)) ?_
  intro p e s m below meth c s₁ G hx hby hml hown hnm hret hZ X0 e0 hG hR
  have N0 := Fr.nil Z.heap.size
  refine own_entry (Ls := #[.val (.ref d)]) (by first | (simp [entryFrame, mkF, argsToLocals, Value.category]; done) | rfl) ?_
  show G (s₁.setTop (mkF m 0 #[oa d] []))
  refine hG _ _ (fun t_ k_ => XS.aloadN X0.here hx rfl (hb hby d1_0) rfl rfl k_) ?_
  obtain ⟨T1, X1, e1, st1⟩ := getF X0 hx hZ hown (host := "") (Or.inl (ow hw 10 rfl)) Via.refl e0 g0_F (g := (mkF m 1 #[oa d] [(.ref d)])) rfl rfl (hb hby d1_1)
  refine hG _ _ st1 ?_
  show G (T1.setTop (mkF m 4 #[oa d] [(.ref t)]))
  exact own_retA hR hret rfl rfl X1 hx (hb hby d1_4) (by decide) (by decide) (by rw [e1]; exact ⟨rfl, N0, rfl⟩)
theorem own_pd13 : parseMethodDescriptor "(Ljava/lang/String;)Lcom/example/handlewright/handlewright/DomainStatus;" = some ⟨[(.object "java/lang/String")], some (.object "com/example/handlewright/handlewright/DomainStatus")⟩ := by decide +kernel
theorem own_findN (l : Launch) (Z : State) (a0 : Array Value) (hw : ∀ d ∈ tables_1, d.before a0 Z = true) (a : Addr) (t : Addr) (kt : ClassId) (cs : List Int32) (cd : Int32) (nb : Int32) (vs : List Value) (cpt : Int32) (d0 : Addr) (d1 : Addr) (d2 : Addr) (t0 : Addr) (t1 : Addr) (t2 : Addr) (v0 : Addr) (v1 : Addr) (v2 : Addr) (kv0 : ClassId) (kv1 : ClassId) (kv2 : ClassId) (vals : Addr) (kl : ClassId) (h0 : Heap) (O0 : own_Old Z h0) (g0_E : Exa Z h0 a "java/lang/String") (g1_F : Fld Z h0 a "java/lang/String" "coder" "B" (.int cd)) (g2_F : Fld Z h0 a "java/lang/String" "value" "[B" (.ref t)) (g3_V : Arv Z h0 t kt .byte nb vs (.int 0)) (g4_henc : own_enc cs cd nb vs) (g5_hcap : cs.length ≤ 14) (g6_h16 : ∀ c ∈ cs, 0 ≤ c.toInt ∧ c.toInt ≤ 65535) (g7_S : Sta Z Z.heap "java/lang/String" "COMPACT_STRINGS" "Z" (.int cpt)) (g8_hcpt : ¬ (cpt = (0 : Int32))) (g9_S : Sta Z Z.heap "com/example/handlewright/handlewright/DomainStatus" "$VALUES" "[Lcom/example/handlewright/handlewright/DomainStatus;" (.ref vals)) (g10_E : Exa Z h0 vals "[Lcom/example/handlewright/handlewright/DomainStatus;") (g11_V : Arv Z h0 vals kl (.object "com/example/handlewright/handlewright/DomainStatus") (3 : Int32) [(.ref d0), (.ref d1), (.ref d2)] .null) (g12_E : Exa Z h0 d0 "com/example/handlewright/handlewright/DomainStatus") (g13_F : Fld Z h0 d0 "com/example/handlewright/handlewright/DomainStatus" "text" "Ljava/lang/String;" (.ref t0)) (g14_E : Exa Z h0 t0 "java/lang/String") (g15_F : Fld Z h0 t0 "java/lang/String" "coder" "B" (.int 0)) (g16_F : Fld Z h0 t0 "java/lang/String" "value" "[B" (.ref v0)) (g17_V : Arv Z h0 v0 kv0 .byte (Int32.ofNat [(99 : Int32), (111 : Int32), (110 : Int32), (110 : Int32), (101 : Int32), (99 : Int32), (116 : Int32)].length) ([(99 : Int32), (111 : Int32), (110 : Int32), (110 : Int32), (101 : Int32), (99 : Int32), (116 : Int32)].map fun c => Value.int c.toInt8.toInt32) (.int 0)) (g18_E : Exa Z h0 d1 "com/example/handlewright/handlewright/DomainStatus") (g19_F : Fld Z h0 d1 "com/example/handlewright/handlewright/DomainStatus" "text" "Ljava/lang/String;" (.ref t1)) (g20_E : Exa Z h0 t1 "java/lang/String") (g21_F : Fld Z h0 t1 "java/lang/String" "coder" "B" (.int 0)) (g22_F : Fld Z h0 t1 "java/lang/String" "value" "[B" (.ref v1)) (g23_V : Arv Z h0 v1 kv1 .byte (Int32.ofNat [(102 : Int32), (97 : Int32), (105 : Int32), (108 : Int32), (101 : Int32), (100 : Int32)].length) ([(102 : Int32), (97 : Int32), (105 : Int32), (108 : Int32), (101 : Int32), (100 : Int32)].map fun c => Value.int c.toInt8.toInt32) (.int 0)) (g24_E : Exa Z h0 d2 "com/example/handlewright/handlewright/DomainStatus") (g25_F : Fld Z h0 d2 "com/example/handlewright/handlewright/DomainStatus" "text" "Ljava/lang/String;" (.ref t2)) (g26_E : Exa Z h0 t2 "java/lang/String") (g27_F : Fld Z h0 t2 "java/lang/String" "coder" "B" (.int 0)) (g28_F : Fld Z h0 t2 "java/lang/String" "value" "[B" (.ref v2)) (g29_V : Arv Z h0 v2 kv2 .byte (Int32.ofNat [(112 : Int32), (101 : Int32), (110 : Int32), (100 : Int32), (105 : Int32), (110 : Int32), (103 : Int32), (67 : Int32), (114 : Int32), (101 : Int32), (97 : Int32), (116 : Int32), (101 : Int32)].length) ([(112 : Int32), (101 : Int32), (110 : Int32), (100 : Int32), (105 : Int32), (110 : Int32), (103 : Int32), (67 : Int32), (114 : Int32), (101 : Int32), (97 : Int32), (116 : Int32), (101 : Int32)].map fun c => Value.int c.toInt8.toInt32) (.int 0)) (g30_hne0 : t0 ≠ a) (g31_hne1 : t1 ≠ a) (g32_hne2 : t2 ≠ a) (g33_hq0 : cs ≠ [(99 : Int32), (111 : Int32), (110 : Int32), (110 : Int32), (101 : Int32), (99 : Int32), (116 : Int32)]) (g34_hq1 : cs ≠ [(102 : Int32), (97 : Int32), (105 : Int32), (108 : Int32), (101 : Int32), (100 : Int32)]) (g35_hq2 : cs ≠ [(112 : Int32), (101 : Int32), (110 : Int32), (100 : Int32), (105 : Int32), (110 : Int32), (103 : Int32), (67 : Int32), (114 : Int32), (101 : Int32), (97 : Int32), (116 : Int32), (101 : Int32)]) :
    own_Con l Z (⟨"com/example/handlewright/handlewright/DomainStatus", "find", "(Ljava/lang/String;)Lcom/example/handlewright/handlewright/DomainStatus;"⟩ : MethodName) prog_8_method_5_code 5 (some (.object "com/example/handlewright/handlewright/DomainStatus")) [] ({ frames := 2, cells := 1, slots := 3, locals := 28 } : Room) #[(.ref a)] h0 (fun rv rh rL => rv = some .null ∧ own_Fr Z rL ∧ Keep h0 rh []) := by
  refine own_intro (plainFor_of_name (by first | (simp [plainName, overriddenIn]; done) | decide +kernel)) ?_
  intro p e s m below meth c s₁ G hx hby hml hown hnm hret hZ X0 e0 hG hR
  have N0 := Fr.nil Z.heap.size
  refine own_entry (Ls := #[.val (.ref a), .unset, .unset, .unset, .unset]) (by first | (simp [entryFrame, mkF, argsToLocals, Value.category]; done) | rfl) ?_
  show G (s₁.setTop (mkF m 0 #[oa a, .unset, .unset, .unset, .unset] []))
  refine own_callS X0 hx hZ hG hown (ow hw 15 rfl) (ow hw 16 rfl) (ow hw 2 rfl) (ow hw 17 rfl) (by decide) 0 (own_vals l Z a0 hw vals kl d0 d1 d2 h0 O0 g9_S g10_E g11_V) (by decide) (by decide) e0 (by rw [hml]; rfl) (lenOf own_pd11 rfl) (argsL := []) (rest := []) rfl rfl (Nat.le_of_eq rfl) (hb hby d2_0) (by decide) (by decide) ?_
  intro T1 h1 v1 L1 X1 e1 q1
  obtain ⟨u_1, rfl, M1, J1, y1_0, r1_0⟩ := q1
  have N1 := Fr.app N0 M1
  have K1 : Keep h0 h1 [] := (Keep.refl h0 []).trans J1 all0
  have O1 : own_Old Z h1 := O0.keep J1 all0
  refine hG _ _ (fun t_ k_ => XS.astoreN X1.here hx rfl (hb hby d2_3) rfl rfl (l' := #[oa a, oa u_1, .unset, .unset, .unset]) rfl k_) ?_
  refine hG _ _ (fun t_ k_ => XS.aloadN X1.here hx rfl (hb hby d2_4) rfl rfl k_) ?_
  obtain ⟨c2, Ar2, -, S2, M2, -, -⟩ := id r1_0
  refine hG _ _ (X1.arraylength hx (by rw [e1]; exact Ar2.1) (State.isArrayOf_alike hZ.alike Ar2.2.1) (g := (mkF m 5 #[oa a, oa u_1, .unset, .unset, .unset] [(.ref u_1)])) rfl rfl (hb hby d2_5)) ?_
  rw [len_of S2 M2]
  refine hG _ _ (fun t_ k_ => XS.istoreN X1.here hx rfl (hb hby d2_6) rfl (l' := #[oa a, oa u_1, oi 3, .unset, .unset]) rfl k_) ?_
  refine hG _ _ (fun t_ k_ => XS.iconst X1.here hx rfl (hb hby d2_7) k_) ?_
  refine hG _ _ (fun t_ k_ => XS.istoreN X1.here hx rfl (hb hby d2_8) rfl (l' := #[oa a, oa u_1, oi 3, oi 0, .unset]) rfl k_) ?_
  show G (T1.setTop (mkF m 9 #[oa a, oa u_1, oi 3, oi 0, .unset] []))
  refine hG _ _ (fun t_ k_ => XS.iloadN X1.here hx rfl (hb hby d2_9) rfl k_) ?_
  refine hG _ _ (fun t_ k_ => XS.iloadN X1.here hx rfl (hb hby d2_10) rfl k_) ?_
  show G (T1.setTop (mkF m 11 #[oa a, oa u_1, oi 3, oi 0, .unset] [(.int 3), (.int 0)]))
  refine hG _ _ (fun t_ k_ => XS.icmpNo X1.here hx rfl (hb hby d2_11) rfl (tlt (by decide)).2.1 k_) ?_
  show G (T1.setTop (mkF m 14 #[oa a, oa u_1, oi 3, oi 0, .unset] []))
  refine hG _ _ (fun t_ k_ => XS.aloadN X1.here hx rfl (hb hby d2_14) rfl rfl k_) ?_
  refine hG _ _ (fun t_ k_ => XS.iloadN X1.here hx rfl (hb hby d2_15) rfl k_) ?_
  obtain ⟨c3, Ar3, q3, S3, M3, H3, G3⟩ := id r1_0
  have hin3 : ¬ ((0 : Int32) < 0 ∨ c3.slots.size ≤ (0 : Int32).toNatClampNeg) := inb_of S3 ⟨by decide, by decide⟩
  refine hG _ _ (X1.aaload hx (j := (0 : Int32)) (v := (.ref d0)) (by rw [e1]; exact Ar3.1) (State.isArrayOf_alike hZ.alike Ar3.2.1) rfl Ar3.2.2 hin3 (Has.at H3 hin3 rfl) (g := (mkF m 16 #[oa a, oa u_1, oi 3, oi 0, .unset] [(.int 0), (.ref u_1)])) rfl rfl (hb hby d2_16)) ?_
  refine hG _ _ (fun t_ k_ => XS.astore X1.here hx rfl (hb hby d2_17) rfl rfl (l' := #[oa a, oa u_1, oi 3, oi 0, oa d0]) rfl k_) ?_
  refine hG _ _ (fun t_ k_ => XS.aload X1.here hx rfl (hb hby d2_19) rfl rfl k_) ?_
  have f5 := (g13_F.keep J1 nin0)
  obtain ⟨T4, X4, e4, st4⟩ := getF X1 hx hZ hown (host := "") (Or.inl (ow hw 10 rfl)) Via.refl e1 f5 (g := (mkF m 21 #[oa a, oa u_1, oi 3, oi 0, oa d0] [(.ref d0)])) rfl rfl (hb hby d2_21)
  refine hG _ _ st4 ?_
  refine hG _ _ (fun t_ k_ => XS.aloadN X4.here hx rfl (hb hby d2_24) rfl rfl k_) ?_
  show G (T4.setTop (mkF m 25 #[oa a, oa u_1, oi 3, oi 0, oa d0] [(.ref a), (.ref t0)]))
  have f7 := (g0_E.keep J1)
  have f8 := (g1_F.keep J1 nin0)
  have f9 := (g2_F.keep J1 nin0)
  have f10 := (g3_V.keep J1 nin0)
  have f11 := (g15_F.keep J1 nin0)
  have f12 := (g16_F.keep J1 nin0)
  have f13 := (g17_V.keep J1 nin0)
  have f14 := (g14_E.keep J1)
  refine own_callV (C := "java/lang/String") X4 hx hZ hG hown (ow hw 32 rfl) (ow hw 33 rfl) (ow hw 35 rfl) (ow hw 34 rfl) (ow hw 36 rfl) (ow hw 37 rfl) (by decide) 0 (own_seq l Z a0 hw t0 v0 kv0 [(99 : Int32), (111 : Int32), (110 : Int32), (110 : Int32), (101 : Int32), (99 : Int32), (116 : Int32)] a t kt cs cd nb vs cpt h1 O1 f7 f8 f9 f10 g4_henc g5_hcap g6_h16 g7_S g8_hcpt f11 f12 f13 (Nat.le_of_ble_eq_true rfl) own_rk0 g30_hne0) (by decide) (by decide) e4 f14 (by rw [hml]; rfl) (lenOf own_pd10 rfl) (argsL := [(.ref a)]) (rest := []) rfl rfl (Nat.le_of_eq rfl) (hb hby d2_25) (by decide) (by decide) ?_
  intro T6 h6 v6 L6 X6 e6 q6
  obtain ⟨r_6, rfl, M6, rfl, r6_0⟩ := q6
  have N6 := Fr.app N1 M6
  show G (T6.setTop (mkF m 28 #[oa a, oa u_1, oi 3, oi 0, oa d0] [(.int r_6)]))
  refine hG _ _ (fun t_ k_ => XS.ifYes X6.here hx rfl (pc0 := 28) (pc' := 34) rfl (hb hby d2_28) rfl ((if0 _ _).trans (teq (r6_0.elim (fun q => absurd q.2 g33_hq0) (fun q => q.1))).1) (by decide) (by decide) k_) ?_
  show G (T6.setTop (mkF m 34 #[oa a, oa u_1, oi 3, oi 0, oa d0] []))
  refine hG _ _ (fun t_ k_ => XS.iinc X6.here hx rfl (hb hby d2_34) rfl (l' := #[oa a, oa u_1, oi 3, oi ((0 : Int32) + (1 : Int32)), oa d0]) rfl k_) ?_
  refine hG _ _ (fun t_ k_ => XS.goto X6.here hx rfl (pc0 := 37) (pc' := 9) rfl (hb hby d2_37) (by decide) (by decide) k_) ?_
  show G (T6.setTop (mkF m 9 #[oa a, oa u_1, oi 3, oi ((0 : Int32) + (1 : Int32)), oa d0] []))
  rw [show ((0 : Int32) + (1 : Int32)) = (1 : Int32) from by decide]
  show G (T6.setTop (mkF m 9 #[oa a, oa u_1, oi 3, oi 1, oa d0] []))
  refine hG _ _ (fun t_ k_ => XS.iloadN X6.here hx rfl (hb hby d2_9) rfl k_) ?_
  refine hG _ _ (fun t_ k_ => XS.iloadN X6.here hx rfl (hb hby d2_10) rfl k_) ?_
  show G (T6.setTop (mkF m 11 #[oa a, oa u_1, oi 3, oi 1, oa d0] [(.int 3), (.int 1)]))
  refine hG _ _ (fun t_ k_ => XS.icmpNo X6.here hx rfl (hb hby d2_11) rfl (tlt (by decide)).2.1 k_) ?_
  show G (T6.setTop (mkF m 14 #[oa a, oa u_1, oi 3, oi 1, oa d0] []))
  refine hG _ _ (fun t_ k_ => XS.aloadN X6.here hx rfl (hb hby d2_14) rfl rfl k_) ?_
  refine hG _ _ (fun t_ k_ => XS.iloadN X6.here hx rfl (hb hby d2_15) rfl k_) ?_
  obtain ⟨c15, Ar15, q15, S15, M15, H15, G15⟩ := id r1_0
  have hin15 : ¬ ((1 : Int32) < 0 ∨ c15.slots.size ≤ (1 : Int32).toNatClampNeg) := inb_of S15 ⟨by decide, by decide⟩
  refine hG _ _ (X6.aaload hx (j := (1 : Int32)) (v := (.ref d1)) (by rw [e6]; exact Ar15.1) (State.isArrayOf_alike hZ.alike Ar15.2.1) rfl Ar15.2.2 hin15 (Has.at H15 hin15 rfl) (g := (mkF m 16 #[oa a, oa u_1, oi 3, oi 1, oa d0] [(.int 1), (.ref u_1)])) rfl rfl (hb hby d2_16)) ?_
  refine hG _ _ (fun t_ k_ => XS.astore X6.here hx rfl (hb hby d2_17) rfl rfl (l' := #[oa a, oa u_1, oi 3, oi 1, oa d1]) rfl k_) ?_
  refine hG _ _ (fun t_ k_ => XS.aload X6.here hx rfl (hb hby d2_19) rfl rfl k_) ?_
  have f17 := (g19_F.keep J1 nin0)
  obtain ⟨T16, X16, e16, st16⟩ := getF X6 hx hZ hown (host := "") (Or.inl (ow hw 10 rfl)) Via.refl e6 f17 (g := (mkF m 21 #[oa a, oa u_1, oi 3, oi 1, oa d1] [(.ref d1)])) rfl rfl (hb hby d2_21)
  refine hG _ _ st16 ?_
  refine hG _ _ (fun t_ k_ => XS.aloadN X16.here hx rfl (hb hby d2_24) rfl rfl k_) ?_
  show G (T16.setTop (mkF m 25 #[oa a, oa u_1, oi 3, oi 1, oa d1] [(.ref a), (.ref t1)]))
  have f19 := (g21_F.keep J1 nin0)
  have f20 := (g22_F.keep J1 nin0)
  have f21 := (g23_V.keep J1 nin0)
  have f22 := (g20_E.keep J1)
  refine own_callV (C := "java/lang/String") X16 hx hZ hG hown (ow hw 32 rfl) (ow hw 33 rfl) (ow hw 35 rfl) (ow hw 34 rfl) (ow hw 36 rfl) (ow hw 37 rfl) (by decide) 0 (own_seq l Z a0 hw t1 v1 kv1 [(102 : Int32), (97 : Int32), (105 : Int32), (108 : Int32), (101 : Int32), (100 : Int32)] a t kt cs cd nb vs cpt h1 O1 f7 f8 f9 f10 g4_henc g5_hcap g6_h16 g7_S g8_hcpt f19 f20 f21 (Nat.le_of_ble_eq_true rfl) own_rk1 g31_hne1) (by decide) (by decide) e16 f22 (by rw [hml]; rfl) (lenOf own_pd10 rfl) (argsL := [(.ref a)]) (rest := []) rfl rfl (Nat.le_of_eq rfl) (hb hby d2_25) (by decide) (by decide) ?_
  intro T18 h18 v18 L18 X18 e18 q18
  obtain ⟨r_18, rfl, M18, rfl, r18_0⟩ := q18
  have N18 := Fr.app N6 M18
  show G (T18.setTop (mkF m 28 #[oa a, oa u_1, oi 3, oi 1, oa d1] [(.int r_18)]))
  refine hG _ _ (fun t_ k_ => XS.ifYes X18.here hx rfl (pc0 := 28) (pc' := 34) rfl (hb hby d2_28) rfl ((if0 _ _).trans (teq (r18_0.elim (fun q => absurd q.2 g34_hq1) (fun q => q.1))).1) (by decide) (by decide) k_) ?_
  show G (T18.setTop (mkF m 34 #[oa a, oa u_1, oi 3, oi 1, oa d1] []))
  refine hG _ _ (fun t_ k_ => XS.iinc X18.here hx rfl (hb hby d2_34) rfl (l' := #[oa a, oa u_1, oi 3, oi ((1 : Int32) + (1 : Int32)), oa d1]) rfl k_) ?_
  refine hG _ _ (fun t_ k_ => XS.goto X18.here hx rfl (pc0 := 37) (pc' := 9) rfl (hb hby d2_37) (by decide) (by decide) k_) ?_
  show G (T18.setTop (mkF m 9 #[oa a, oa u_1, oi 3, oi ((1 : Int32) + (1 : Int32)), oa d1] []))
  rw [show ((1 : Int32) + (1 : Int32)) = (2 : Int32) from by decide]
  show G (T18.setTop (mkF m 9 #[oa a, oa u_1, oi 3, oi 2, oa d1] []))
  refine hG _ _ (fun t_ k_ => XS.iloadN X18.here hx rfl (hb hby d2_9) rfl k_) ?_
  refine hG _ _ (fun t_ k_ => XS.iloadN X18.here hx rfl (hb hby d2_10) rfl k_) ?_
  show G (T18.setTop (mkF m 11 #[oa a, oa u_1, oi 3, oi 2, oa d1] [(.int 3), (.int 2)]))
  refine hG _ _ (fun t_ k_ => XS.icmpNo X18.here hx rfl (hb hby d2_11) rfl (tlt (by decide)).2.1 k_) ?_
  show G (T18.setTop (mkF m 14 #[oa a, oa u_1, oi 3, oi 2, oa d1] []))
  refine hG _ _ (fun t_ k_ => XS.aloadN X18.here hx rfl (hb hby d2_14) rfl rfl k_) ?_
  refine hG _ _ (fun t_ k_ => XS.iloadN X18.here hx rfl (hb hby d2_15) rfl k_) ?_
  obtain ⟨c23, Ar23, q23, S23, M23, H23, G23⟩ := id r1_0
  have hin23 : ¬ ((2 : Int32) < 0 ∨ c23.slots.size ≤ (2 : Int32).toNatClampNeg) := inb_of S23 ⟨by decide, by decide⟩
  refine hG _ _ (X18.aaload hx (j := (2 : Int32)) (v := (.ref d2)) (by rw [e18]; exact Ar23.1) (State.isArrayOf_alike hZ.alike Ar23.2.1) rfl Ar23.2.2 hin23 (Has.at H23 hin23 rfl) (g := (mkF m 16 #[oa a, oa u_1, oi 3, oi 2, oa d1] [(.int 2), (.ref u_1)])) rfl rfl (hb hby d2_16)) ?_
  refine hG _ _ (fun t_ k_ => XS.astore X18.here hx rfl (hb hby d2_17) rfl rfl (l' := #[oa a, oa u_1, oi 3, oi 2, oa d2]) rfl k_) ?_
  refine hG _ _ (fun t_ k_ => XS.aload X18.here hx rfl (hb hby d2_19) rfl rfl k_) ?_
  have f25 := (g25_F.keep J1 nin0)
  obtain ⟨T24, X24, e24, st24⟩ := getF X18 hx hZ hown (host := "") (Or.inl (ow hw 10 rfl)) Via.refl e18 f25 (g := (mkF m 21 #[oa a, oa u_1, oi 3, oi 2, oa d2] [(.ref d2)])) rfl rfl (hb hby d2_21)
  refine hG _ _ st24 ?_
  refine hG _ _ (fun t_ k_ => XS.aloadN X24.here hx rfl (hb hby d2_24) rfl rfl k_) ?_
  show G (T24.setTop (mkF m 25 #[oa a, oa u_1, oi 3, oi 2, oa d2] [(.ref a), (.ref t2)]))
  have f27 := (g27_F.keep J1 nin0)
  have f28 := (g28_F.keep J1 nin0)
  have f29 := (g29_V.keep J1 nin0)
  have f30 := (g26_E.keep J1)
  refine own_callV (C := "java/lang/String") X24 hx hZ hG hown (ow hw 32 rfl) (ow hw 33 rfl) (ow hw 35 rfl) (ow hw 34 rfl) (ow hw 36 rfl) (ow hw 37 rfl) (by decide) 0 (own_seq l Z a0 hw t2 v2 kv2 [(112 : Int32), (101 : Int32), (110 : Int32), (100 : Int32), (105 : Int32), (110 : Int32), (103 : Int32), (67 : Int32), (114 : Int32), (101 : Int32), (97 : Int32), (116 : Int32), (101 : Int32)] a t kt cs cd nb vs cpt h1 O1 f7 f8 f9 f10 g4_henc g5_hcap g6_h16 g7_S g8_hcpt f27 f28 f29 (Nat.le_of_ble_eq_true rfl) own_rk2 g32_hne2) (by decide) (by decide) e24 f30 (by rw [hml]; rfl) (lenOf own_pd10 rfl) (argsL := [(.ref a)]) (rest := []) rfl rfl (Nat.le_of_eq rfl) (hb hby d2_25) (by decide) (by decide) ?_
  intro T26 h26 v26 L26 X26 e26 q26
  obtain ⟨r_26, rfl, M26, rfl, r26_0⟩ := q26
  have N26 := Fr.app N18 M26
  show G (T26.setTop (mkF m 28 #[oa a, oa u_1, oi 3, oi 2, oa d2] [(.int r_26)]))
  refine hG _ _ (fun t_ k_ => XS.ifYes X26.here hx rfl (pc0 := 28) (pc' := 34) rfl (hb hby d2_28) rfl ((if0 _ _).trans (teq (r26_0.elim (fun q => absurd q.2 g35_hq2) (fun q => q.1))).1) (by decide) (by decide) k_) ?_
  show G (T26.setTop (mkF m 34 #[oa a, oa u_1, oi 3, oi 2, oa d2] []))
  refine hG _ _ (fun t_ k_ => XS.iinc X26.here hx rfl (hb hby d2_34) rfl (l' := #[oa a, oa u_1, oi 3, oi ((2 : Int32) + (1 : Int32)), oa d2]) rfl k_) ?_
  refine hG _ _ (fun t_ k_ => XS.goto X26.here hx rfl (pc0 := 37) (pc' := 9) rfl (hb hby d2_37) (by decide) (by decide) k_) ?_
  show G (T26.setTop (mkF m 9 #[oa a, oa u_1, oi 3, oi ((2 : Int32) + (1 : Int32)), oa d2] []))
  rw [show ((2 : Int32) + (1 : Int32)) = (3 : Int32) from by decide]
  show G (T26.setTop (mkF m 9 #[oa a, oa u_1, oi 3, oi 3, oa d2] []))
  refine hG _ _ (fun t_ k_ => XS.iloadN X26.here hx rfl (hb hby d2_9) rfl k_) ?_
  refine hG _ _ (fun t_ k_ => XS.iloadN X26.here hx rfl (hb hby d2_10) rfl k_) ?_
  show G (T26.setTop (mkF m 11 #[oa a, oa u_1, oi 3, oi 3, oa d2] [(.int 3), (.int 3)]))
  refine hG _ _ (fun t_ k_ => XS.icmpYes X26.here hx rfl (pc0 := 11) (pc' := 40) rfl (hb hby d2_11) rfl (flt (by decide)).2.1 (by decide) (by decide) k_) ?_
  show G (T26.setTop (mkF m 40 #[oa a, oa u_1, oi 3, oi 3, oa d2] []))
  refine hG _ _ (fun t_ k_ => XS.aconstNull X26.here hx rfl (hb hby d2_40) k_) ?_
  show G (T26.setTop (mkF m 41 #[oa a, oa u_1, oi 3, oi 3, oa d2] [.null]))
  exact own_retA hR hret rfl rfl X26 hx (hb hby d2_41) (by decide) (by decide) (by rw [e26]; exact ⟨rfl, N26, K1⟩)
theorem own_find0 (l : Launch) (Z : State) (a0 : Array Value) (hw : ∀ d ∈ tables_1, d.before a0 Z = true) (a : Addr) (t : Addr) (kt : ClassId) (cs : List Int32) (cd : Int32) (nb : Int32) (vs : List Value) (cpt : Int32) (d0 : Addr) (d1 : Addr) (d2 : Addr) (t0 : Addr) (t1 : Addr) (t2 : Addr) (v0 : Addr) (v1 : Addr) (v2 : Addr) (kv0 : ClassId) (kv1 : ClassId) (kv2 : ClassId) (vals : Addr) (kl : ClassId) (h0 : Heap) (O0 : own_Old Z h0) (g0_E : Exa Z h0 a "java/lang/String") (g1_F : Fld Z h0 a "java/lang/String" "coder" "B" (.int cd)) (g2_F : Fld Z h0 a "java/lang/String" "value" "[B" (.ref t)) (g3_V : Arv Z h0 t kt .byte nb vs (.int 0)) (g4_henc : own_enc cs cd nb vs) (g5_hcap : cs.length ≤ 14) (g6_h16 : ∀ c ∈ cs, 0 ≤ c.toInt ∧ c.toInt ≤ 65535) (g7_S : Sta Z Z.heap "java/lang/String" "COMPACT_STRINGS" "Z" (.int cpt)) (g8_hcpt : ¬ (cpt = (0 : Int32))) (g9_S : Sta Z Z.heap "com/example/handlewright/handlewright/DomainStatus" "$VALUES" "[Lcom/example/handlewright/handlewright/DomainStatus;" (.ref vals)) (g10_E : Exa Z h0 vals "[Lcom/example/handlewright/handlewright/DomainStatus;") (g11_V : Arv Z h0 vals kl (.object "com/example/handlewright/handlewright/DomainStatus") (3 : Int32) [(.ref d0), (.ref d1), (.ref d2)] .null) (g12_E : Exa Z h0 d0 "com/example/handlewright/handlewright/DomainStatus") (g13_F : Fld Z h0 d0 "com/example/handlewright/handlewright/DomainStatus" "text" "Ljava/lang/String;" (.ref t0)) (g14_E : Exa Z h0 t0 "java/lang/String") (g15_F : Fld Z h0 t0 "java/lang/String" "coder" "B" (.int 0)) (g16_F : Fld Z h0 t0 "java/lang/String" "value" "[B" (.ref v0)) (g17_V : Arv Z h0 v0 kv0 .byte (Int32.ofNat [(99 : Int32), (111 : Int32), (110 : Int32), (110 : Int32), (101 : Int32), (99 : Int32), (116 : Int32)].length) ([(99 : Int32), (111 : Int32), (110 : Int32), (110 : Int32), (101 : Int32), (99 : Int32), (116 : Int32)].map fun c => Value.int c.toInt8.toInt32) (.int 0)) (g18_E : Exa Z h0 d1 "com/example/handlewright/handlewright/DomainStatus") (g19_F : Fld Z h0 d1 "com/example/handlewright/handlewright/DomainStatus" "text" "Ljava/lang/String;" (.ref t1)) (g20_E : Exa Z h0 t1 "java/lang/String") (g21_F : Fld Z h0 t1 "java/lang/String" "coder" "B" (.int 0)) (g22_F : Fld Z h0 t1 "java/lang/String" "value" "[B" (.ref v1)) (g23_V : Arv Z h0 v1 kv1 .byte (Int32.ofNat [(102 : Int32), (97 : Int32), (105 : Int32), (108 : Int32), (101 : Int32), (100 : Int32)].length) ([(102 : Int32), (97 : Int32), (105 : Int32), (108 : Int32), (101 : Int32), (100 : Int32)].map fun c => Value.int c.toInt8.toInt32) (.int 0)) (g24_E : Exa Z h0 d2 "com/example/handlewright/handlewright/DomainStatus") (g25_F : Fld Z h0 d2 "com/example/handlewright/handlewright/DomainStatus" "text" "Ljava/lang/String;" (.ref t2)) (g26_E : Exa Z h0 t2 "java/lang/String") (g27_F : Fld Z h0 t2 "java/lang/String" "coder" "B" (.int 0)) (g28_F : Fld Z h0 t2 "java/lang/String" "value" "[B" (.ref v2)) (g29_V : Arv Z h0 v2 kv2 .byte (Int32.ofNat [(112 : Int32), (101 : Int32), (110 : Int32), (100 : Int32), (105 : Int32), (110 : Int32), (103 : Int32), (67 : Int32), (114 : Int32), (101 : Int32), (97 : Int32), (116 : Int32), (101 : Int32)].length) ([(112 : Int32), (101 : Int32), (110 : Int32), (100 : Int32), (105 : Int32), (110 : Int32), (103 : Int32), (67 : Int32), (114 : Int32), (101 : Int32), (97 : Int32), (116 : Int32), (101 : Int32)].map fun c => Value.int c.toInt8.toInt32) (.int 0)) (g30_hne0 : t0 ≠ a) (g31_hq : cs = [(99 : Int32), (111 : Int32), (110 : Int32), (110 : Int32), (101 : Int32), (99 : Int32), (116 : Int32)]) :
    own_Con l Z (⟨"com/example/handlewright/handlewright/DomainStatus", "find", "(Ljava/lang/String;)Lcom/example/handlewright/handlewright/DomainStatus;"⟩ : MethodName) prog_8_method_5_code 5 (some (.object "com/example/handlewright/handlewright/DomainStatus")) [] ({ frames := 2, cells := 1, slots := 3, locals := 28 } : Room) #[(.ref a)] h0 (fun rv rh rL => rv = some (.ref d0) ∧ own_Fr Z rL ∧ Keep h0 rh []) := by
  refine own_intro (plainFor_of_name (by first | (simp [plainName, overriddenIn]; done) | decide +kernel)) ?_
  intro p e s m below meth c s₁ G hx hby hml hown hnm hret hZ X0 e0 hG hR
  have N0 := Fr.nil Z.heap.size
  refine own_entry (Ls := #[.val (.ref a), .unset, .unset, .unset, .unset]) (by first | (simp [entryFrame, mkF, argsToLocals, Value.category]; done) | rfl) ?_
  show G (s₁.setTop (mkF m 0 #[oa a, .unset, .unset, .unset, .unset] []))
  refine own_callS X0 hx hZ hG hown (ow hw 15 rfl) (ow hw 16 rfl) (ow hw 2 rfl) (ow hw 17 rfl) (by decide) 0 (own_vals l Z a0 hw vals kl d0 d1 d2 h0 O0 g9_S g10_E g11_V) (by decide) (by decide) e0 (by rw [hml]; rfl) (lenOf own_pd11 rfl) (argsL := []) (rest := []) rfl rfl (Nat.le_of_eq rfl) (hb hby d2_0) (by decide) (by decide) ?_
  intro T1 h1 v1 L1 X1 e1 q1
  obtain ⟨u_1, rfl, M1, J1, y1_0, r1_0⟩ := q1
  have N1 := Fr.app N0 M1
  have K1 : Keep h0 h1 [] := (Keep.refl h0 []).trans J1 all0
  have O1 : own_Old Z h1 := O0.keep J1 all0
  refine hG _ _ (fun t_ k_ => XS.astoreN X1.here hx rfl (hb hby d2_3) rfl rfl (l' := #[oa a, oa u_1, .unset, .unset, .unset]) rfl k_) ?_
  refine hG _ _ (fun t_ k_ => XS.aloadN X1.here hx rfl (hb hby d2_4) rfl rfl k_) ?_
  obtain ⟨c2, Ar2, -, S2, M2, -, -⟩ := id r1_0
  refine hG _ _ (X1.arraylength hx (by rw [e1]; exact Ar2.1) (State.isArrayOf_alike hZ.alike Ar2.2.1) (g := (mkF m 5 #[oa a, oa u_1, .unset, .unset, .unset] [(.ref u_1)])) rfl rfl (hb hby d2_5)) ?_
  rw [len_of S2 M2]
  refine hG _ _ (fun t_ k_ => XS.istoreN X1.here hx rfl (hb hby d2_6) rfl (l' := #[oa a, oa u_1, oi 3, .unset, .unset]) rfl k_) ?_
  refine hG _ _ (fun t_ k_ => XS.iconst X1.here hx rfl (hb hby d2_7) k_) ?_
  refine hG _ _ (fun t_ k_ => XS.istoreN X1.here hx rfl (hb hby d2_8) rfl (l' := #[oa a, oa u_1, oi 3, oi 0, .unset]) rfl k_) ?_
  show G (T1.setTop (mkF m 9 #[oa a, oa u_1, oi 3, oi 0, .unset] []))
  refine hG _ _ (fun t_ k_ => XS.iloadN X1.here hx rfl (hb hby d2_9) rfl k_) ?_
  refine hG _ _ (fun t_ k_ => XS.iloadN X1.here hx rfl (hb hby d2_10) rfl k_) ?_
  show G (T1.setTop (mkF m 11 #[oa a, oa u_1, oi 3, oi 0, .unset] [(.int 3), (.int 0)]))
  refine hG _ _ (fun t_ k_ => XS.icmpNo X1.here hx rfl (hb hby d2_11) rfl (tlt (by decide)).2.1 k_) ?_
  show G (T1.setTop (mkF m 14 #[oa a, oa u_1, oi 3, oi 0, .unset] []))
  refine hG _ _ (fun t_ k_ => XS.aloadN X1.here hx rfl (hb hby d2_14) rfl rfl k_) ?_
  refine hG _ _ (fun t_ k_ => XS.iloadN X1.here hx rfl (hb hby d2_15) rfl k_) ?_
  obtain ⟨c3, Ar3, q3, S3, M3, H3, G3⟩ := id r1_0
  have hin3 : ¬ ((0 : Int32) < 0 ∨ c3.slots.size ≤ (0 : Int32).toNatClampNeg) := inb_of S3 ⟨by decide, by decide⟩
  refine hG _ _ (X1.aaload hx (j := (0 : Int32)) (v := (.ref d0)) (by rw [e1]; exact Ar3.1) (State.isArrayOf_alike hZ.alike Ar3.2.1) rfl Ar3.2.2 hin3 (Has.at H3 hin3 rfl) (g := (mkF m 16 #[oa a, oa u_1, oi 3, oi 0, .unset] [(.int 0), (.ref u_1)])) rfl rfl (hb hby d2_16)) ?_
  refine hG _ _ (fun t_ k_ => XS.astore X1.here hx rfl (hb hby d2_17) rfl rfl (l' := #[oa a, oa u_1, oi 3, oi 0, oa d0]) rfl k_) ?_
  refine hG _ _ (fun t_ k_ => XS.aload X1.here hx rfl (hb hby d2_19) rfl rfl k_) ?_
  have f5 := (g13_F.keep J1 nin0)
  obtain ⟨T4, X4, e4, st4⟩ := getF X1 hx hZ hown (host := "") (Or.inl (ow hw 10 rfl)) Via.refl e1 f5 (g := (mkF m 21 #[oa a, oa u_1, oi 3, oi 0, oa d0] [(.ref d0)])) rfl rfl (hb hby d2_21)
  refine hG _ _ st4 ?_
  refine hG _ _ (fun t_ k_ => XS.aloadN X4.here hx rfl (hb hby d2_24) rfl rfl k_) ?_
  show G (T4.setTop (mkF m 25 #[oa a, oa u_1, oi 3, oi 0, oa d0] [(.ref a), (.ref t0)]))
  have f7 := (g0_E.keep J1)
  have f8 := (g1_F.keep J1 nin0)
  have f9 := (g2_F.keep J1 nin0)
  have f10 := (g3_V.keep J1 nin0)
  have f11 := (g15_F.keep J1 nin0)
  have f12 := (g16_F.keep J1 nin0)
  have f13 := (g17_V.keep J1 nin0)
  have f14 := (g14_E.keep J1)
  refine own_callV (C := "java/lang/String") X4 hx hZ hG hown (ow hw 32 rfl) (ow hw 33 rfl) (ow hw 35 rfl) (ow hw 34 rfl) (ow hw 36 rfl) (ow hw 37 rfl) (by decide) 0 (own_seq l Z a0 hw t0 v0 kv0 [(99 : Int32), (111 : Int32), (110 : Int32), (110 : Int32), (101 : Int32), (99 : Int32), (116 : Int32)] a t kt cs cd nb vs cpt h1 O1 f7 f8 f9 f10 g4_henc g5_hcap g6_h16 g7_S g8_hcpt f11 f12 f13 (Nat.le_of_ble_eq_true rfl) own_rk0 g30_hne0) (by decide) (by decide) e4 f14 (by rw [hml]; rfl) (lenOf own_pd10 rfl) (argsL := [(.ref a)]) (rest := []) rfl rfl (Nat.le_of_eq rfl) (hb hby d2_25) (by decide) (by decide) ?_
  intro T6 h6 v6 L6 X6 e6 q6
  obtain ⟨r_6, rfl, M6, rfl, r6_0⟩ := q6
  have N6 := Fr.app N1 M6
  show G (T6.setTop (mkF m 28 #[oa a, oa u_1, oi 3, oi 0, oa d0] [(.int r_6)]))
  refine hG _ _ (fun t_ k_ => XS.ifNo X6.here hx rfl (hb hby d2_28) rfl ((if0 _ _).trans (feq (r6_0.elim (fun q e => absurd (q.1.symm.trans e) (by decide)) (fun q => absurd g31_hq q.2))).1) k_) ?_
  show G (T6.setTop (mkF m 31 #[oa a, oa u_1, oi 3, oi 0, oa d0] []))
  refine hG _ _ (fun t_ k_ => XS.aload X6.here hx rfl (hb hby d2_31) rfl rfl k_) ?_
  show G (T6.setTop (mkF m 33 #[oa a, oa u_1, oi 3, oi 0, oa d0] [(.ref d0)]))
  exact own_retA hR hret rfl rfl X6 hx (hb hby d2_33) (by decide) (by decide) (by rw [e6]; exact ⟨rfl, N6, K1⟩)
theorem own_find1 (l : Launch) (Z : State) (a0 : Array Value) (hw : ∀ d ∈ tables_1, d.before a0 Z = true) (a : Addr) (t : Addr) (kt : ClassId) (cs : List Int32) (cd : Int32) (nb : Int32) (vs : List Value) (cpt : Int32) (d0 : Addr) (d1 : Addr) (d2 : Addr) (t0 : Addr) (t1 : Addr) (t2 : Addr) (v0 : Addr) (v1 : Addr) (v2 : Addr) (kv0 : ClassId) (kv1 : ClassId) (kv2 : ClassId) (vals : Addr) (kl : ClassId) (h0 : Heap) (O0 : own_Old Z h0) (g0_E : Exa Z h0 a "java/lang/String") (g1_F : Fld Z h0 a "java/lang/String" "coder" "B" (.int cd)) (g2_F : Fld Z h0 a "java/lang/String" "value" "[B" (.ref t)) (g3_V : Arv Z h0 t kt .byte nb vs (.int 0)) (g4_henc : own_enc cs cd nb vs) (g5_hcap : cs.length ≤ 14) (g6_h16 : ∀ c ∈ cs, 0 ≤ c.toInt ∧ c.toInt ≤ 65535) (g7_S : Sta Z Z.heap "java/lang/String" "COMPACT_STRINGS" "Z" (.int cpt)) (g8_hcpt : ¬ (cpt = (0 : Int32))) (g9_S : Sta Z Z.heap "com/example/handlewright/handlewright/DomainStatus" "$VALUES" "[Lcom/example/handlewright/handlewright/DomainStatus;" (.ref vals)) (g10_E : Exa Z h0 vals "[Lcom/example/handlewright/handlewright/DomainStatus;") (g11_V : Arv Z h0 vals kl (.object "com/example/handlewright/handlewright/DomainStatus") (3 : Int32) [(.ref d0), (.ref d1), (.ref d2)] .null) (g12_E : Exa Z h0 d0 "com/example/handlewright/handlewright/DomainStatus") (g13_F : Fld Z h0 d0 "com/example/handlewright/handlewright/DomainStatus" "text" "Ljava/lang/String;" (.ref t0)) (g14_E : Exa Z h0 t0 "java/lang/String") (g15_F : Fld Z h0 t0 "java/lang/String" "coder" "B" (.int 0)) (g16_F : Fld Z h0 t0 "java/lang/String" "value" "[B" (.ref v0)) (g17_V : Arv Z h0 v0 kv0 .byte (Int32.ofNat [(99 : Int32), (111 : Int32), (110 : Int32), (110 : Int32), (101 : Int32), (99 : Int32), (116 : Int32)].length) ([(99 : Int32), (111 : Int32), (110 : Int32), (110 : Int32), (101 : Int32), (99 : Int32), (116 : Int32)].map fun c => Value.int c.toInt8.toInt32) (.int 0)) (g18_E : Exa Z h0 d1 "com/example/handlewright/handlewright/DomainStatus") (g19_F : Fld Z h0 d1 "com/example/handlewright/handlewright/DomainStatus" "text" "Ljava/lang/String;" (.ref t1)) (g20_E : Exa Z h0 t1 "java/lang/String") (g21_F : Fld Z h0 t1 "java/lang/String" "coder" "B" (.int 0)) (g22_F : Fld Z h0 t1 "java/lang/String" "value" "[B" (.ref v1)) (g23_V : Arv Z h0 v1 kv1 .byte (Int32.ofNat [(102 : Int32), (97 : Int32), (105 : Int32), (108 : Int32), (101 : Int32), (100 : Int32)].length) ([(102 : Int32), (97 : Int32), (105 : Int32), (108 : Int32), (101 : Int32), (100 : Int32)].map fun c => Value.int c.toInt8.toInt32) (.int 0)) (g24_E : Exa Z h0 d2 "com/example/handlewright/handlewright/DomainStatus") (g25_F : Fld Z h0 d2 "com/example/handlewright/handlewright/DomainStatus" "text" "Ljava/lang/String;" (.ref t2)) (g26_E : Exa Z h0 t2 "java/lang/String") (g27_F : Fld Z h0 t2 "java/lang/String" "coder" "B" (.int 0)) (g28_F : Fld Z h0 t2 "java/lang/String" "value" "[B" (.ref v2)) (g29_V : Arv Z h0 v2 kv2 .byte (Int32.ofNat [(112 : Int32), (101 : Int32), (110 : Int32), (100 : Int32), (105 : Int32), (110 : Int32), (103 : Int32), (67 : Int32), (114 : Int32), (101 : Int32), (97 : Int32), (116 : Int32), (101 : Int32)].length) ([(112 : Int32), (101 : Int32), (110 : Int32), (100 : Int32), (105 : Int32), (110 : Int32), (103 : Int32), (67 : Int32), (114 : Int32), (101 : Int32), (97 : Int32), (116 : Int32), (101 : Int32)].map fun c => Value.int c.toInt8.toInt32) (.int 0)) (g30_hne0 : t0 ≠ a) (g31_hne1 : t1 ≠ a) (g32_hq : cs = [(102 : Int32), (97 : Int32), (105 : Int32), (108 : Int32), (101 : Int32), (100 : Int32)]) :
    own_Con l Z (⟨"com/example/handlewright/handlewright/DomainStatus", "find", "(Ljava/lang/String;)Lcom/example/handlewright/handlewright/DomainStatus;"⟩ : MethodName) prog_8_method_5_code 5 (some (.object "com/example/handlewright/handlewright/DomainStatus")) [] ({ frames := 2, cells := 1, slots := 3, locals := 28 } : Room) #[(.ref a)] h0 (fun rv rh rL => rv = some (.ref d1) ∧ own_Fr Z rL ∧ Keep h0 rh []) := by
  refine own_intro (plainFor_of_name (by first | (simp [plainName, overriddenIn]; done) | decide +kernel)) ?_
  intro p e s m below meth c s₁ G hx hby hml hown hnm hret hZ X0 e0 hG hR
  have N0 := Fr.nil Z.heap.size
  refine own_entry (Ls := #[.val (.ref a), .unset, .unset, .unset, .unset]) (by first | (simp [entryFrame, mkF, argsToLocals, Value.category]; done) | rfl) ?_
  show G (s₁.setTop (mkF m 0 #[oa a, .unset, .unset, .unset, .unset] []))
  refine own_callS X0 hx hZ hG hown (ow hw 15 rfl) (ow hw 16 rfl) (ow hw 2 rfl) (ow hw 17 rfl) (by decide) 0 (own_vals l Z a0 hw vals kl d0 d1 d2 h0 O0 g9_S g10_E g11_V) (by decide) (by decide) e0 (by rw [hml]; rfl) (lenOf own_pd11 rfl) (argsL := []) (rest := []) rfl rfl (Nat.le_of_eq rfl) (hb hby d2_0) (by decide) (by decide) ?_
  intro T1 h1 v1 L1 X1 e1 q1
  obtain ⟨u_1, rfl, M1, J1, y1_0, r1_0⟩ := q1
  have N1 := Fr.app N0 M1
  have K1 : Keep h0 h1 [] := (Keep.refl h0 []).trans J1 all0
  have O1 : own_Old Z h1 := O0.keep J1 all0
  refine hG _ _ (fun t_ k_ => XS.astoreN X1.here hx rfl (hb hby d2_3) rfl rfl (l' := #[oa a, oa u_1, .unset, .unset, .unset]) rfl k_) ?_
  refine hG _ _ (fun t_ k_ => XS.aloadN X1.here hx rfl (hb hby d2_4) rfl rfl k_) ?_
  obtain ⟨c2, Ar2, -, S2, M2, -, -⟩ := id r1_0
  refine hG _ _ (X1.arraylength hx (by rw [e1]; exact Ar2.1) (State.isArrayOf_alike hZ.alike Ar2.2.1) (g := (mkF m 5 #[oa a, oa u_1, .unset, .unset, .unset] [(.ref u_1)])) rfl rfl (hb hby d2_5)) ?_
  rw [len_of S2 M2]
  refine hG _ _ (fun t_ k_ => XS.istoreN X1.here hx rfl (hb hby d2_6) rfl (l' := #[oa a, oa u_1, oi 3, .unset, .unset]) rfl k_) ?_
  refine hG _ _ (fun t_ k_ => XS.iconst X1.here hx rfl (hb hby d2_7) k_) ?_
  refine hG _ _ (fun t_ k_ => XS.istoreN X1.here hx rfl (hb hby d2_8) rfl (l' := #[oa a, oa u_1, oi 3, oi 0, .unset]) rfl k_) ?_
  show G (T1.setTop (mkF m 9 #[oa a, oa u_1, oi 3, oi 0, .unset] []))
  refine hG _ _ (fun t_ k_ => XS.iloadN X1.here hx rfl (hb hby d2_9) rfl k_) ?_
  refine hG _ _ (fun t_ k_ => XS.iloadN X1.here hx rfl (hb hby d2_10) rfl k_) ?_
  show G (T1.setTop (mkF m 11 #[oa a, oa u_1, oi 3, oi 0, .unset] [(.int 3), (.int 0)]))
  refine hG _ _ (fun t_ k_ => XS.icmpNo X1.here hx rfl (hb hby d2_11) rfl (tlt (by decide)).2.1 k_) ?_
  show G (T1.setTop (mkF m 14 #[oa a, oa u_1, oi 3, oi 0, .unset] []))
  refine hG _ _ (fun t_ k_ => XS.aloadN X1.here hx rfl (hb hby d2_14) rfl rfl k_) ?_
  refine hG _ _ (fun t_ k_ => XS.iloadN X1.here hx rfl (hb hby d2_15) rfl k_) ?_
  obtain ⟨c3, Ar3, q3, S3, M3, H3, G3⟩ := id r1_0
  have hin3 : ¬ ((0 : Int32) < 0 ∨ c3.slots.size ≤ (0 : Int32).toNatClampNeg) := inb_of S3 ⟨by decide, by decide⟩
  refine hG _ _ (X1.aaload hx (j := (0 : Int32)) (v := (.ref d0)) (by rw [e1]; exact Ar3.1) (State.isArrayOf_alike hZ.alike Ar3.2.1) rfl Ar3.2.2 hin3 (Has.at H3 hin3 rfl) (g := (mkF m 16 #[oa a, oa u_1, oi 3, oi 0, .unset] [(.int 0), (.ref u_1)])) rfl rfl (hb hby d2_16)) ?_
  refine hG _ _ (fun t_ k_ => XS.astore X1.here hx rfl (hb hby d2_17) rfl rfl (l' := #[oa a, oa u_1, oi 3, oi 0, oa d0]) rfl k_) ?_
  refine hG _ _ (fun t_ k_ => XS.aload X1.here hx rfl (hb hby d2_19) rfl rfl k_) ?_
  have f5 := (g13_F.keep J1 nin0)
  obtain ⟨T4, X4, e4, st4⟩ := getF X1 hx hZ hown (host := "") (Or.inl (ow hw 10 rfl)) Via.refl e1 f5 (g := (mkF m 21 #[oa a, oa u_1, oi 3, oi 0, oa d0] [(.ref d0)])) rfl rfl (hb hby d2_21)
  refine hG _ _ st4 ?_
  refine hG _ _ (fun t_ k_ => XS.aloadN X4.here hx rfl (hb hby d2_24) rfl rfl k_) ?_
  show G (T4.setTop (mkF m 25 #[oa a, oa u_1, oi 3, oi 0, oa d0] [(.ref a), (.ref t0)]))
  have f7 := (g0_E.keep J1)
  have f8 := (g1_F.keep J1 nin0)
  have f9 := (g2_F.keep J1 nin0)
  have f10 := (g3_V.keep J1 nin0)
  have f11 := (g15_F.keep J1 nin0)
  have f12 := (g16_F.keep J1 nin0)
  have f13 := (g17_V.keep J1 nin0)
  have f14 := (g14_E.keep J1)
  refine own_callV (C := "java/lang/String") X4 hx hZ hG hown (ow hw 32 rfl) (ow hw 33 rfl) (ow hw 35 rfl) (ow hw 34 rfl) (ow hw 36 rfl) (ow hw 37 rfl) (by decide) 0 (own_seq l Z a0 hw t0 v0 kv0 [(99 : Int32), (111 : Int32), (110 : Int32), (110 : Int32), (101 : Int32), (99 : Int32), (116 : Int32)] a t kt cs cd nb vs cpt h1 O1 f7 f8 f9 f10 g4_henc g5_hcap g6_h16 g7_S g8_hcpt f11 f12 f13 (Nat.le_of_ble_eq_true rfl) own_rk0 g30_hne0) (by decide) (by decide) e4 f14 (by rw [hml]; rfl) (lenOf own_pd10 rfl) (argsL := [(.ref a)]) (rest := []) rfl rfl (Nat.le_of_eq rfl) (hb hby d2_25) (by decide) (by decide) ?_
  intro T6 h6 v6 L6 X6 e6 q6
  obtain ⟨r_6, rfl, M6, rfl, r6_0⟩ := q6
  have N6 := Fr.app N1 M6
  show G (T6.setTop (mkF m 28 #[oa a, oa u_1, oi 3, oi 0, oa d0] [(.int r_6)]))
  refine hG _ _ (fun t_ k_ => XS.ifYes X6.here hx rfl (pc0 := 28) (pc' := 34) rfl (hb hby d2_28) rfl ((if0 _ _).trans (teq (r6_0.elim (fun q => absurd (g32_hq.symm.trans q.2) (by decide)) (fun q => q.1))).1) (by decide) (by decide) k_) ?_
  show G (T6.setTop (mkF m 34 #[oa a, oa u_1, oi 3, oi 0, oa d0] []))
  refine hG _ _ (fun t_ k_ => XS.iinc X6.here hx rfl (hb hby d2_34) rfl (l' := #[oa a, oa u_1, oi 3, oi ((0 : Int32) + (1 : Int32)), oa d0]) rfl k_) ?_
  refine hG _ _ (fun t_ k_ => XS.goto X6.here hx rfl (pc0 := 37) (pc' := 9) rfl (hb hby d2_37) (by decide) (by decide) k_) ?_
  show G (T6.setTop (mkF m 9 #[oa a, oa u_1, oi 3, oi ((0 : Int32) + (1 : Int32)), oa d0] []))
  rw [show ((0 : Int32) + (1 : Int32)) = (1 : Int32) from by decide]
  show G (T6.setTop (mkF m 9 #[oa a, oa u_1, oi 3, oi 1, oa d0] []))
  refine hG _ _ (fun t_ k_ => XS.iloadN X6.here hx rfl (hb hby d2_9) rfl k_) ?_
  refine hG _ _ (fun t_ k_ => XS.iloadN X6.here hx rfl (hb hby d2_10) rfl k_) ?_
  show G (T6.setTop (mkF m 11 #[oa a, oa u_1, oi 3, oi 1, oa d0] [(.int 3), (.int 1)]))
  refine hG _ _ (fun t_ k_ => XS.icmpNo X6.here hx rfl (hb hby d2_11) rfl (tlt (by decide)).2.1 k_) ?_
  show G (T6.setTop (mkF m 14 #[oa a, oa u_1, oi 3, oi 1, oa d0] []))
  refine hG _ _ (fun t_ k_ => XS.aloadN X6.here hx rfl (hb hby d2_14) rfl rfl k_) ?_
  refine hG _ _ (fun t_ k_ => XS.iloadN X6.here hx rfl (hb hby d2_15) rfl k_) ?_
  obtain ⟨c15, Ar15, q15, S15, M15, H15, G15⟩ := id r1_0
  have hin15 : ¬ ((1 : Int32) < 0 ∨ c15.slots.size ≤ (1 : Int32).toNatClampNeg) := inb_of S15 ⟨by decide, by decide⟩
  refine hG _ _ (X6.aaload hx (j := (1 : Int32)) (v := (.ref d1)) (by rw [e6]; exact Ar15.1) (State.isArrayOf_alike hZ.alike Ar15.2.1) rfl Ar15.2.2 hin15 (Has.at H15 hin15 rfl) (g := (mkF m 16 #[oa a, oa u_1, oi 3, oi 1, oa d0] [(.int 1), (.ref u_1)])) rfl rfl (hb hby d2_16)) ?_
  refine hG _ _ (fun t_ k_ => XS.astore X6.here hx rfl (hb hby d2_17) rfl rfl (l' := #[oa a, oa u_1, oi 3, oi 1, oa d1]) rfl k_) ?_
  refine hG _ _ (fun t_ k_ => XS.aload X6.here hx rfl (hb hby d2_19) rfl rfl k_) ?_
  have f17 := (g19_F.keep J1 nin0)
  obtain ⟨T16, X16, e16, st16⟩ := getF X6 hx hZ hown (host := "") (Or.inl (ow hw 10 rfl)) Via.refl e6 f17 (g := (mkF m 21 #[oa a, oa u_1, oi 3, oi 1, oa d1] [(.ref d1)])) rfl rfl (hb hby d2_21)
  refine hG _ _ st16 ?_
  refine hG _ _ (fun t_ k_ => XS.aloadN X16.here hx rfl (hb hby d2_24) rfl rfl k_) ?_
  show G (T16.setTop (mkF m 25 #[oa a, oa u_1, oi 3, oi 1, oa d1] [(.ref a), (.ref t1)]))
  have f19 := (g21_F.keep J1 nin0)
  have f20 := (g22_F.keep J1 nin0)
  have f21 := (g23_V.keep J1 nin0)
  have f22 := (g20_E.keep J1)
  refine own_callV (C := "java/lang/String") X16 hx hZ hG hown (ow hw 32 rfl) (ow hw 33 rfl) (ow hw 35 rfl) (ow hw 34 rfl) (ow hw 36 rfl) (ow hw 37 rfl) (by decide) 0 (own_seq l Z a0 hw t1 v1 kv1 [(102 : Int32), (97 : Int32), (105 : Int32), (108 : Int32), (101 : Int32), (100 : Int32)] a t kt cs cd nb vs cpt h1 O1 f7 f8 f9 f10 g4_henc g5_hcap g6_h16 g7_S g8_hcpt f19 f20 f21 (Nat.le_of_ble_eq_true rfl) own_rk1 g31_hne1) (by decide) (by decide) e16 f22 (by rw [hml]; rfl) (lenOf own_pd10 rfl) (argsL := [(.ref a)]) (rest := []) rfl rfl (Nat.le_of_eq rfl) (hb hby d2_25) (by decide) (by decide) ?_
  intro T18 h18 v18 L18 X18 e18 q18
  obtain ⟨r_18, rfl, M18, rfl, r18_0⟩ := q18
  have N18 := Fr.app N6 M18
  show G (T18.setTop (mkF m 28 #[oa a, oa u_1, oi 3, oi 1, oa d1] [(.int r_18)]))
  refine hG _ _ (fun t_ k_ => XS.ifNo X18.here hx rfl (hb hby d2_28) rfl ((if0 _ _).trans (feq (r18_0.elim (fun q e => absurd (q.1.symm.trans e) (by decide)) (fun q => absurd g32_hq q.2))).1) k_) ?_
  show G (T18.setTop (mkF m 31 #[oa a, oa u_1, oi 3, oi 1, oa d1] []))
  refine hG _ _ (fun t_ k_ => XS.aload X18.here hx rfl (hb hby d2_31) rfl rfl k_) ?_
  show G (T18.setTop (mkF m 33 #[oa a, oa u_1, oi 3, oi 1, oa d1] [(.ref d1)]))
  exact own_retA hR hret rfl rfl X18 hx (hb hby d2_33) (by decide) (by decide) (by rw [e18]; exact ⟨rfl, N18, K1⟩)
theorem own_find2 (l : Launch) (Z : State) (a0 : Array Value) (hw : ∀ d ∈ tables_1, d.before a0 Z = true) (a : Addr) (t : Addr) (kt : ClassId) (cs : List Int32) (cd : Int32) (nb : Int32) (vs : List Value) (cpt : Int32) (d0 : Addr) (d1 : Addr) (d2 : Addr) (t0 : Addr) (t1 : Addr) (t2 : Addr) (v0 : Addr) (v1 : Addr) (v2 : Addr) (kv0 : ClassId) (kv1 : ClassId) (kv2 : ClassId) (vals : Addr) (kl : ClassId) (h0 : Heap) (O0 : own_Old Z h0) (g0_E : Exa Z h0 a "java/lang/String") (g1_F : Fld Z h0 a "java/lang/String" "coder" "B" (.int cd)) (g2_F : Fld Z h0 a "java/lang/String" "value" "[B" (.ref t)) (g3_V : Arv Z h0 t kt .byte nb vs (.int 0)) (g4_henc : own_enc cs cd nb vs) (g5_hcap : cs.length ≤ 14) (g6_h16 : ∀ c ∈ cs, 0 ≤ c.toInt ∧ c.toInt ≤ 65535) (g7_S : Sta Z Z.heap "java/lang/String" "COMPACT_STRINGS" "Z" (.int cpt)) (g8_hcpt : ¬ (cpt = (0 : Int32))) (g9_S : Sta Z Z.heap "com/example/handlewright/handlewright/DomainStatus" "$VALUES" "[Lcom/example/handlewright/handlewright/DomainStatus;" (.ref vals)) (g10_E : Exa Z h0 vals "[Lcom/example/handlewright/handlewright/DomainStatus;") (g11_V : Arv Z h0 vals kl (.object "com/example/handlewright/handlewright/DomainStatus") (3 : Int32) [(.ref d0), (.ref d1), (.ref d2)] .null) (g12_E : Exa Z h0 d0 "com/example/handlewright/handlewright/DomainStatus") (g13_F : Fld Z h0 d0 "com/example/handlewright/handlewright/DomainStatus" "text" "Ljava/lang/String;" (.ref t0)) (g14_E : Exa Z h0 t0 "java/lang/String") (g15_F : Fld Z h0 t0 "java/lang/String" "coder" "B" (.int 0)) (g16_F : Fld Z h0 t0 "java/lang/String" "value" "[B" (.ref v0)) (g17_V : Arv Z h0 v0 kv0 .byte (Int32.ofNat [(99 : Int32), (111 : Int32), (110 : Int32), (110 : Int32), (101 : Int32), (99 : Int32), (116 : Int32)].length) ([(99 : Int32), (111 : Int32), (110 : Int32), (110 : Int32), (101 : Int32), (99 : Int32), (116 : Int32)].map fun c => Value.int c.toInt8.toInt32) (.int 0)) (g18_E : Exa Z h0 d1 "com/example/handlewright/handlewright/DomainStatus") (g19_F : Fld Z h0 d1 "com/example/handlewright/handlewright/DomainStatus" "text" "Ljava/lang/String;" (.ref t1)) (g20_E : Exa Z h0 t1 "java/lang/String") (g21_F : Fld Z h0 t1 "java/lang/String" "coder" "B" (.int 0)) (g22_F : Fld Z h0 t1 "java/lang/String" "value" "[B" (.ref v1)) (g23_V : Arv Z h0 v1 kv1 .byte (Int32.ofNat [(102 : Int32), (97 : Int32), (105 : Int32), (108 : Int32), (101 : Int32), (100 : Int32)].length) ([(102 : Int32), (97 : Int32), (105 : Int32), (108 : Int32), (101 : Int32), (100 : Int32)].map fun c => Value.int c.toInt8.toInt32) (.int 0)) (g24_E : Exa Z h0 d2 "com/example/handlewright/handlewright/DomainStatus") (g25_F : Fld Z h0 d2 "com/example/handlewright/handlewright/DomainStatus" "text" "Ljava/lang/String;" (.ref t2)) (g26_E : Exa Z h0 t2 "java/lang/String") (g27_F : Fld Z h0 t2 "java/lang/String" "coder" "B" (.int 0)) (g28_F : Fld Z h0 t2 "java/lang/String" "value" "[B" (.ref v2)) (g29_V : Arv Z h0 v2 kv2 .byte (Int32.ofNat [(112 : Int32), (101 : Int32), (110 : Int32), (100 : Int32), (105 : Int32), (110 : Int32), (103 : Int32), (67 : Int32), (114 : Int32), (101 : Int32), (97 : Int32), (116 : Int32), (101 : Int32)].length) ([(112 : Int32), (101 : Int32), (110 : Int32), (100 : Int32), (105 : Int32), (110 : Int32), (103 : Int32), (67 : Int32), (114 : Int32), (101 : Int32), (97 : Int32), (116 : Int32), (101 : Int32)].map fun c => Value.int c.toInt8.toInt32) (.int 0)) (g30_hne0 : t0 ≠ a) (g31_hne1 : t1 ≠ a) (g32_hne2 : t2 ≠ a) (g33_hq : cs = [(112 : Int32), (101 : Int32), (110 : Int32), (100 : Int32), (105 : Int32), (110 : Int32), (103 : Int32), (67 : Int32), (114 : Int32), (101 : Int32), (97 : Int32), (116 : Int32), (101 : Int32)]) :
    own_Con l Z (⟨"com/example/handlewright/handlewright/DomainStatus", "find", "(Ljava/lang/String;)Lcom/example/handlewright/handlewright/DomainStatus;"⟩ : MethodName) prog_8_method_5_code 5 (some (.object "com/example/handlewright/handlewright/DomainStatus")) [] ({ frames := 2, cells := 1, slots := 3, locals := 28 } : Room) #[(.ref a)] h0 (fun rv rh rL => rv = some (.ref d2) ∧ own_Fr Z rL ∧ Keep h0 rh []) := by
  refine own_intro (plainFor_of_name (by first | (simp [plainName, overriddenIn]; done) | decide +kernel)) ?_
  intro p e s m below meth c s₁ G hx hby hml hown hnm hret hZ X0 e0 hG hR
  have N0 := Fr.nil Z.heap.size
  refine own_entry (Ls := #[.val (.ref a), .unset, .unset, .unset, .unset]) (by first | (simp [entryFrame, mkF, argsToLocals, Value.category]; done) | rfl) ?_
  show G (s₁.setTop (mkF m 0 #[oa a, .unset, .unset, .unset, .unset] []))
  refine own_callS X0 hx hZ hG hown (ow hw 15 rfl) (ow hw 16 rfl) (ow hw 2 rfl) (ow hw 17 rfl) (by decide) 0 (own_vals l Z a0 hw vals kl d0 d1 d2 h0 O0 g9_S g10_E g11_V) (by decide) (by decide) e0 (by rw [hml]; rfl) (lenOf own_pd11 rfl) (argsL := []) (rest := []) rfl rfl (Nat.le_of_eq rfl) (hb hby d2_0) (by decide) (by decide) ?_
  intro T1 h1 v1 L1 X1 e1 q1
  obtain ⟨u_1, rfl, M1, J1, y1_0, r1_0⟩ := q1
  have N1 := Fr.app N0 M1
  have K1 : Keep h0 h1 [] := (Keep.refl h0 []).trans J1 all0
  have O1 : own_Old Z h1 := O0.keep J1 all0
  refine hG _ _ (fun t_ k_ => XS.astoreN X1.here hx rfl (hb hby d2_3) rfl rfl (l' := #[oa a, oa u_1, .unset, .unset, .unset]) rfl k_) ?_
  refine hG _ _ (fun t_ k_ => XS.aloadN X1.here hx rfl (hb hby d2_4) rfl rfl k_) ?_
  obtain ⟨c2, Ar2, -, S2, M2, -, -⟩ := id r1_0
  refine hG _ _ (X1.arraylength hx (by rw [e1]; exact Ar2.1) (State.isArrayOf_alike hZ.alike Ar2.2.1) (g := (mkF m 5 #[oa a, oa u_1, .unset, .unset, .unset] [(.ref u_1)])) rfl rfl (hb hby d2_5)) ?_
  rw [len_of S2 M2]
  refine hG _ _ (fun t_ k_ => XS.istoreN X1.here hx rfl (hb hby d2_6) rfl (l' := #[oa a, oa u_1, oi 3, .unset, .unset]) rfl k_) ?_
  refine hG _ _ (fun t_ k_ => XS.iconst X1.here hx rfl (hb hby d2_7) k_) ?_
  refine hG _ _ (fun t_ k_ => XS.istoreN X1.here hx rfl (hb hby d2_8) rfl (l' := #[oa a, oa u_1, oi 3, oi 0, .unset]) rfl k_) ?_
  show G (T1.setTop (mkF m 9 #[oa a, oa u_1, oi 3, oi 0, .unset] []))
  refine hG _ _ (fun t_ k_ => XS.iloadN X1.here hx rfl (hb hby d2_9) rfl k_) ?_
  refine hG _ _ (fun t_ k_ => XS.iloadN X1.here hx rfl (hb hby d2_10) rfl k_) ?_
  show G (T1.setTop (mkF m 11 #[oa a, oa u_1, oi 3, oi 0, .unset] [(.int 3), (.int 0)]))
  refine hG _ _ (fun t_ k_ => XS.icmpNo X1.here hx rfl (hb hby d2_11) rfl (tlt (by decide)).2.1 k_) ?_
  show G (T1.setTop (mkF m 14 #[oa a, oa u_1, oi 3, oi 0, .unset] []))
  refine hG _ _ (fun t_ k_ => XS.aloadN X1.here hx rfl (hb hby d2_14) rfl rfl k_) ?_
  refine hG _ _ (fun t_ k_ => XS.iloadN X1.here hx rfl (hb hby d2_15) rfl k_) ?_
  obtain ⟨c3, Ar3, q3, S3, M3, H3, G3⟩ := id r1_0
  have hin3 : ¬ ((0 : Int32) < 0 ∨ c3.slots.size ≤ (0 : Int32).toNatClampNeg) := inb_of S3 ⟨by decide, by decide⟩
  refine hG _ _ (X1.aaload hx (j := (0 : Int32)) (v := (.ref d0)) (by rw [e1]; exact Ar3.1) (State.isArrayOf_alike hZ.alike Ar3.2.1) rfl Ar3.2.2 hin3 (Has.at H3 hin3 rfl) (g := (mkF m 16 #[oa a, oa u_1, oi 3, oi 0, .unset] [(.int 0), (.ref u_1)])) rfl rfl (hb hby d2_16)) ?_
  refine hG _ _ (fun t_ k_ => XS.astore X1.here hx rfl (hb hby d2_17) rfl rfl (l' := #[oa a, oa u_1, oi 3, oi 0, oa d0]) rfl k_) ?_
  refine hG _ _ (fun t_ k_ => XS.aload X1.here hx rfl (hb hby d2_19) rfl rfl k_) ?_
  have f5 := (g13_F.keep J1 nin0)
  obtain ⟨T4, X4, e4, st4⟩ := getF X1 hx hZ hown (host := "") (Or.inl (ow hw 10 rfl)) Via.refl e1 f5 (g := (mkF m 21 #[oa a, oa u_1, oi 3, oi 0, oa d0] [(.ref d0)])) rfl rfl (hb hby d2_21)
  refine hG _ _ st4 ?_
  refine hG _ _ (fun t_ k_ => XS.aloadN X4.here hx rfl (hb hby d2_24) rfl rfl k_) ?_
  show G (T4.setTop (mkF m 25 #[oa a, oa u_1, oi 3, oi 0, oa d0] [(.ref a), (.ref t0)]))
  have f7 := (g0_E.keep J1)
  have f8 := (g1_F.keep J1 nin0)
  have f9 := (g2_F.keep J1 nin0)
  have f10 := (g3_V.keep J1 nin0)
  have f11 := (g15_F.keep J1 nin0)
  have f12 := (g16_F.keep J1 nin0)
  have f13 := (g17_V.keep J1 nin0)
  have f14 := (g14_E.keep J1)
  refine own_callV (C := "java/lang/String") X4 hx hZ hG hown (ow hw 32 rfl) (ow hw 33 rfl) (ow hw 35 rfl) (ow hw 34 rfl) (ow hw 36 rfl) (ow hw 37 rfl) (by decide) 0 (own_seq l Z a0 hw t0 v0 kv0 [(99 : Int32), (111 : Int32), (110 : Int32), (110 : Int32), (101 : Int32), (99 : Int32), (116 : Int32)] a t kt cs cd nb vs cpt h1 O1 f7 f8 f9 f10 g4_henc g5_hcap g6_h16 g7_S g8_hcpt f11 f12 f13 (Nat.le_of_ble_eq_true rfl) own_rk0 g30_hne0) (by decide) (by decide) e4 f14 (by rw [hml]; rfl) (lenOf own_pd10 rfl) (argsL := [(.ref a)]) (rest := []) rfl rfl (Nat.le_of_eq rfl) (hb hby d2_25) (by decide) (by decide) ?_
  intro T6 h6 v6 L6 X6 e6 q6
  obtain ⟨r_6, rfl, M6, rfl, r6_0⟩ := q6
  have N6 := Fr.app N1 M6
  show G (T6.setTop (mkF m 28 #[oa a, oa u_1, oi 3, oi 0, oa d0] [(.int r_6)]))
  refine hG _ _ (fun t_ k_ => XS.ifYes X6.here hx rfl (pc0 := 28) (pc' := 34) rfl (hb hby d2_28) rfl ((if0 _ _).trans (teq (r6_0.elim (fun q => absurd (g33_hq.symm.trans q.2) (by decide)) (fun q => q.1))).1) (by decide) (by decide) k_) ?_
  show G (T6.setTop (mkF m 34 #[oa a, oa u_1, oi 3, oi 0, oa d0] []))
  refine hG _ _ (fun t_ k_ => XS.iinc X6.here hx rfl (hb hby d2_34) rfl (l' := #[oa a, oa u_1, oi 3, oi ((0 : Int32) + (1 : Int32)), oa d0]) rfl k_) ?_
  refine hG _ _ (fun t_ k_ => XS.goto X6.here hx rfl (pc0 := 37) (pc' := 9) rfl (hb hby d2_37) (by decide) (by decide) k_) ?_
  show G (T6.setTop (mkF m 9 #[oa a, oa u_1, oi 3, oi ((0 : Int32) + (1 : Int32)), oa d0] []))
  rw [show ((0 : Int32) + (1 : Int32)) = (1 : Int32) from by decide]
  show G (T6.setTop (mkF m 9 #[oa a, oa u_1, oi 3, oi 1, oa d0] []))
  refine hG _ _ (fun t_ k_ => XS.iloadN X6.here hx rfl (hb hby d2_9) rfl k_) ?_
  refine hG _ _ (fun t_ k_ => XS.iloadN X6.here hx rfl (hb hby d2_10) rfl k_) ?_
  show G (T6.setTop (mkF m 11 #[oa a, oa u_1, oi 3, oi 1, oa d0] [(.int 3), (.int 1)]))
  refine hG _ _ (fun t_ k_ => XS.icmpNo X6.here hx rfl (hb hby d2_11) rfl (tlt (by decide)).2.1 k_) ?_
  show G (T6.setTop (mkF m 14 #[oa a, oa u_1, oi 3, oi 1, oa d0] []))
  refine hG _ _ (fun t_ k_ => XS.aloadN X6.here hx rfl (hb hby d2_14) rfl rfl k_) ?_
  refine hG _ _ (fun t_ k_ => XS.iloadN X6.here hx rfl (hb hby d2_15) rfl k_) ?_
  obtain ⟨c15, Ar15, q15, S15, M15, H15, G15⟩ := id r1_0
  have hin15 : ¬ ((1 : Int32) < 0 ∨ c15.slots.size ≤ (1 : Int32).toNatClampNeg) := inb_of S15 ⟨by decide, by decide⟩
  refine hG _ _ (X6.aaload hx (j := (1 : Int32)) (v := (.ref d1)) (by rw [e6]; exact Ar15.1) (State.isArrayOf_alike hZ.alike Ar15.2.1) rfl Ar15.2.2 hin15 (Has.at H15 hin15 rfl) (g := (mkF m 16 #[oa a, oa u_1, oi 3, oi 1, oa d0] [(.int 1), (.ref u_1)])) rfl rfl (hb hby d2_16)) ?_
  refine hG _ _ (fun t_ k_ => XS.astore X6.here hx rfl (hb hby d2_17) rfl rfl (l' := #[oa a, oa u_1, oi 3, oi 1, oa d1]) rfl k_) ?_
  refine hG _ _ (fun t_ k_ => XS.aload X6.here hx rfl (hb hby d2_19) rfl rfl k_) ?_
  have f17 := (g19_F.keep J1 nin0)
  obtain ⟨T16, X16, e16, st16⟩ := getF X6 hx hZ hown (host := "") (Or.inl (ow hw 10 rfl)) Via.refl e6 f17 (g := (mkF m 21 #[oa a, oa u_1, oi 3, oi 1, oa d1] [(.ref d1)])) rfl rfl (hb hby d2_21)
  refine hG _ _ st16 ?_
  refine hG _ _ (fun t_ k_ => XS.aloadN X16.here hx rfl (hb hby d2_24) rfl rfl k_) ?_
  show G (T16.setTop (mkF m 25 #[oa a, oa u_1, oi 3, oi 1, oa d1] [(.ref a), (.ref t1)]))
  have f19 := (g21_F.keep J1 nin0)
  have f20 := (g22_F.keep J1 nin0)
  have f21 := (g23_V.keep J1 nin0)
  have f22 := (g20_E.keep J1)
  refine own_callV (C := "java/lang/String") X16 hx hZ hG hown (ow hw 32 rfl) (ow hw 33 rfl) (ow hw 35 rfl) (ow hw 34 rfl) (ow hw 36 rfl) (ow hw 37 rfl) (by decide) 0 (own_seq l Z a0 hw t1 v1 kv1 [(102 : Int32), (97 : Int32), (105 : Int32), (108 : Int32), (101 : Int32), (100 : Int32)] a t kt cs cd nb vs cpt h1 O1 f7 f8 f9 f10 g4_henc g5_hcap g6_h16 g7_S g8_hcpt f19 f20 f21 (Nat.le_of_ble_eq_true rfl) own_rk1 g31_hne1) (by decide) (by decide) e16 f22 (by rw [hml]; rfl) (lenOf own_pd10 rfl) (argsL := [(.ref a)]) (rest := []) rfl rfl (Nat.le_of_eq rfl) (hb hby d2_25) (by decide) (by decide) ?_
  intro T18 h18 v18 L18 X18 e18 q18
  obtain ⟨r_18, rfl, M18, rfl, r18_0⟩ := q18
  have N18 := Fr.app N6 M18
  show G (T18.setTop (mkF m 28 #[oa a, oa u_1, oi 3, oi 1, oa d1] [(.int r_18)]))
  refine hG _ _ (fun t_ k_ => XS.ifYes X18.here hx rfl (pc0 := 28) (pc' := 34) rfl (hb hby d2_28) rfl ((if0 _ _).trans (teq (r18_0.elim (fun q => absurd (g33_hq.symm.trans q.2) (by decide)) (fun q => q.1))).1) (by decide) (by decide) k_) ?_
  show G (T18.setTop (mkF m 34 #[oa a, oa u_1, oi 3, oi 1, oa d1] []))
  refine hG _ _ (fun t_ k_ => XS.iinc X18.here hx rfl (hb hby d2_34) rfl (l' := #[oa a, oa u_1, oi 3, oi ((1 : Int32) + (1 : Int32)), oa d1]) rfl k_) ?_
  refine hG _ _ (fun t_ k_ => XS.goto X18.here hx rfl (pc0 := 37) (pc' := 9) rfl (hb hby d2_37) (by decide) (by decide) k_) ?_
  show G (T18.setTop (mkF m 9 #[oa a, oa u_1, oi 3, oi ((1 : Int32) + (1 : Int32)), oa d1] []))
  rw [show ((1 : Int32) + (1 : Int32)) = (2 : Int32) from by decide]
  show G (T18.setTop (mkF m 9 #[oa a, oa u_1, oi 3, oi 2, oa d1] []))
  refine hG _ _ (fun t_ k_ => XS.iloadN X18.here hx rfl (hb hby d2_9) rfl k_) ?_
  refine hG _ _ (fun t_ k_ => XS.iloadN X18.here hx rfl (hb hby d2_10) rfl k_) ?_
  show G (T18.setTop (mkF m 11 #[oa a, oa u_1, oi 3, oi 2, oa d1] [(.int 3), (.int 2)]))
  refine hG _ _ (fun t_ k_ => XS.icmpNo X18.here hx rfl (hb hby d2_11) rfl (tlt (by decide)).2.1 k_) ?_
  show G (T18.setTop (mkF m 14 #[oa a, oa u_1, oi 3, oi 2, oa d1] []))
  refine hG _ _ (fun t_ k_ => XS.aloadN X18.here hx rfl (hb hby d2_14) rfl rfl k_) ?_
  refine hG _ _ (fun t_ k_ => XS.iloadN X18.here hx rfl (hb hby d2_15) rfl k_) ?_
  obtain ⟨c23, Ar23, q23, S23, M23, H23, G23⟩ := id r1_0
  have hin23 : ¬ ((2 : Int32) < 0 ∨ c23.slots.size ≤ (2 : Int32).toNatClampNeg) := inb_of S23 ⟨by decide, by decide⟩
  refine hG _ _ (X18.aaload hx (j := (2 : Int32)) (v := (.ref d2)) (by rw [e18]; exact Ar23.1) (State.isArrayOf_alike hZ.alike Ar23.2.1) rfl Ar23.2.2 hin23 (Has.at H23 hin23 rfl) (g := (mkF m 16 #[oa a, oa u_1, oi 3, oi 2, oa d1] [(.int 2), (.ref u_1)])) rfl rfl (hb hby d2_16)) ?_
  refine hG _ _ (fun t_ k_ => XS.astore X18.here hx rfl (hb hby d2_17) rfl rfl (l' := #[oa a, oa u_1, oi 3, oi 2, oa d2]) rfl k_) ?_
  refine hG _ _ (fun t_ k_ => XS.aload X18.here hx rfl (hb hby d2_19) rfl rfl k_) ?_
  have f25 := (g25_F.keep J1 nin0)
  obtain ⟨T24, X24, e24, st24⟩ := getF X18 hx hZ hown (host := "") (Or.inl (ow hw 10 rfl)) Via.refl e18 f25 (g := (mkF m 21 #[oa a, oa u_1, oi 3, oi 2, oa d2] [(.ref d2)])) rfl rfl (hb hby d2_21)
  refine hG _ _ st24 ?_
  refine hG _ _ (fun t_ k_ => XS.aloadN X24.here hx rfl (hb hby d2_24) rfl rfl k_) ?_
  show G (T24.setTop (mkF m 25 #[oa a, oa u_1, oi 3, oi 2, oa d2] [(.ref a), (.ref t2)]))
  have f27 := (g27_F.keep J1 nin0)
  have f28 := (g28_F.keep J1 nin0)
  have f29 := (g29_V.keep J1 nin0)
  have f30 := (g26_E.keep J1)
  refine own_callV (C := "java/lang/String") X24 hx hZ hG hown (ow hw 32 rfl) (ow hw 33 rfl) (ow hw 35 rfl) (ow hw 34 rfl) (ow hw 36 rfl) (ow hw 37 rfl) (by decide) 0 (own_seq l Z a0 hw t2 v2 kv2 [(112 : Int32), (101 : Int32), (110 : Int32), (100 : Int32), (105 : Int32), (110 : Int32), (103 : Int32), (67 : Int32), (114 : Int32), (101 : Int32), (97 : Int32), (116 : Int32), (101 : Int32)] a t kt cs cd nb vs cpt h1 O1 f7 f8 f9 f10 g4_henc g5_hcap g6_h16 g7_S g8_hcpt f27 f28 f29 (Nat.le_of_ble_eq_true rfl) own_rk2 g32_hne2) (by decide) (by decide) e24 f30 (by rw [hml]; rfl) (lenOf own_pd10 rfl) (argsL := [(.ref a)]) (rest := []) rfl rfl (Nat.le_of_eq rfl) (hb hby d2_25) (by decide) (by decide) ?_
  intro T26 h26 v26 L26 X26 e26 q26
  obtain ⟨r_26, rfl, M26, rfl, r26_0⟩ := q26
  have N26 := Fr.app N18 M26
  show G (T26.setTop (mkF m 28 #[oa a, oa u_1, oi 3, oi 2, oa d2] [(.int r_26)]))
  refine hG _ _ (fun t_ k_ => XS.ifNo X26.here hx rfl (hb hby d2_28) rfl ((if0 _ _).trans (feq (r26_0.elim (fun q e => absurd (q.1.symm.trans e) (by decide)) (fun q => absurd g33_hq q.2))).1) k_) ?_
  show G (T26.setTop (mkF m 31 #[oa a, oa u_1, oi 3, oi 2, oa d2] []))
  refine hG _ _ (fun t_ k_ => XS.aload X26.here hx rfl (hb hby d2_31) rfl rfl k_) ?_
  show G (T26.setTop (mkF m 33 #[oa a, oa u_1, oi 3, oi 2, oa d2] [(.ref d2)]))
  exact own_retA hR hret rfl rfl X26 hx (hb hby d2_33) (by decide) (by decide) (by rw [e26]; exact ⟨rfl, N26, K1⟩)
theorem own_findS0 (l : Launch) (Z : State) (a0 : Array Value) (hw : ∀ d ∈ tables_1, d.before a0 Z = true) (d0 : Addr) (d1 : Addr) (d2 : Addr) (t0 : Addr) (t1 : Addr) (t2 : Addr) (v0 : Addr) (v1 : Addr) (v2 : Addr) (kv0 : ClassId) (kv1 : ClassId) (kv2 : ClassId) (vals : Addr) (kl : ClassId) (cpt : Int32) (h0 : Heap) (O0 : own_Old Z h0) (g0_S : Sta Z Z.heap "com/example/handlewright/handlewright/DomainStatus" "$VALUES" "[Lcom/example/handlewright/handlewright/DomainStatus;" (.ref vals)) (g1_E : Exa Z h0 vals "[Lcom/example/handlewright/handlewright/DomainStatus;") (g2_V : Arv Z h0 vals kl (.object "com/example/handlewright/handlewright/DomainStatus") (3 : Int32) [(.ref d0), (.ref d1), (.ref d2)] .null) (g3_E : Exa Z h0 d0 "com/example/handlewright/handlewright/DomainStatus") (g4_F : Fld Z h0 d0 "com/example/handlewright/handlewright/DomainStatus" "text" "Ljava/lang/String;" (.ref t0)) (g5_E : Exa Z h0 t0 "java/lang/String") (g6_F : Fld Z h0 t0 "java/lang/String" "coder" "B" (.int 0)) (g7_F : Fld Z h0 t0 "java/lang/String" "value" "[B" (.ref v0)) (g8_V : Arv Z h0 v0 kv0 .byte (Int32.ofNat [(99 : Int32), (111 : Int32), (110 : Int32), (110 : Int32), (101 : Int32), (99 : Int32), (116 : Int32)].length) ([(99 : Int32), (111 : Int32), (110 : Int32), (110 : Int32), (101 : Int32), (99 : Int32), (116 : Int32)].map fun c => Value.int c.toInt8.toInt32) (.int 0)) (g9_E : Exa Z h0 d1 "com/example/handlewright/handlewright/DomainStatus") (g10_F : Fld Z h0 d1 "com/example/handlewright/handlewright/DomainStatus" "text" "Ljava/lang/String;" (.ref t1)) (g11_E : Exa Z h0 t1 "java/lang/String") (g12_F : Fld Z h0 t1 "java/lang/String" "coder" "B" (.int 0)) (g13_F : Fld Z h0 t1 "java/lang/String" "value" "[B" (.ref v1)) (g14_V : Arv Z h0 v1 kv1 .byte (Int32.ofNat [(102 : Int32), (97 : Int32), (105 : Int32), (108 : Int32), (101 : Int32), (100 : Int32)].length) ([(102 : Int32), (97 : Int32), (105 : Int32), (108 : Int32), (101 : Int32), (100 : Int32)].map fun c => Value.int c.toInt8.toInt32) (.int 0)) (g15_E : Exa Z h0 d2 "com/example/handlewright/handlewright/DomainStatus") (g16_F : Fld Z h0 d2 "com/example/handlewright/handlewright/DomainStatus" "text" "Ljava/lang/String;" (.ref t2)) (g17_E : Exa Z h0 t2 "java/lang/String") (g18_F : Fld Z h0 t2 "java/lang/String" "coder" "B" (.int 0)) (g19_F : Fld Z h0 t2 "java/lang/String" "value" "[B" (.ref v2)) (g20_V : Arv Z h0 v2 kv2 .byte (Int32.ofNat [(112 : Int32), (101 : Int32), (110 : Int32), (100 : Int32), (105 : Int32), (110 : Int32), (103 : Int32), (67 : Int32), (114 : Int32), (101 : Int32), (97 : Int32), (116 : Int32), (101 : Int32)].length) ([(112 : Int32), (101 : Int32), (110 : Int32), (100 : Int32), (105 : Int32), (110 : Int32), (103 : Int32), (67 : Int32), (114 : Int32), (101 : Int32), (97 : Int32), (116 : Int32), (101 : Int32)].map fun c => Value.int c.toInt8.toInt32) (.int 0)) (g21_S : Sta Z Z.heap "java/lang/String" "COMPACT_STRINGS" "Z" (.int cpt)) (g22_hcpt : ¬ (cpt = (0 : Int32))) :
    own_Con l Z (⟨"com/example/handlewright/handlewright/DomainStatus", "find", "(Ljava/lang/String;)Lcom/example/handlewright/handlewright/DomainStatus;"⟩ : MethodName) prog_8_method_5_code 5 (some (.object "com/example/handlewright/handlewright/DomainStatus")) [] ({ frames := 2, cells := 1, slots := 3, locals := 25 } : Room) #[(.ref t0)] h0 (fun rv rh rL => rv = some (.ref d0) ∧ own_Fr Z rL ∧ Keep h0 rh []) := by
  refine own_intro (plainFor_of_name (by first | (simp [plainName, overriddenIn]; done) | decide +kernel)) ?_
  intro p e s m below meth c s₁ G hx hby hml hown hnm hret hZ X0 e0 hG hR
  have N0 := Fr.nil Z.heap.size
  refine own_entry (Ls := #[.val (.ref t0), .unset, .unset, .unset, .unset]) (by first | (simp [entryFrame, mkF, argsToLocals, Value.category]; done) | rfl) ?_
  show G (s₁.setTop (mkF m 0 #[oa t0, .unset, .unset, .unset, .unset] []))
  refine own_callS X0 hx hZ hG hown (ow hw 15 rfl) (ow hw 16 rfl) (ow hw 2 rfl) (ow hw 17 rfl) (by decide) 0 (own_vals l Z a0 hw vals kl d0 d1 d2 h0 O0 g0_S g1_E g2_V) (by decide) (by decide) e0 (by rw [hml]; rfl) (lenOf own_pd11 rfl) (argsL := []) (rest := []) rfl rfl (Nat.le_of_eq rfl) (hb hby d2_0) (by decide) (by decide) ?_
  intro T1 h1 v1 L1 X1 e1 q1
  obtain ⟨u_1, rfl, M1, J1, y1_0, r1_0⟩ := q1
  have N1 := Fr.app N0 M1
  have K1 : Keep h0 h1 [] := (Keep.refl h0 []).trans J1 all0
  have O1 : own_Old Z h1 := O0.keep J1 all0
  refine hG _ _ (fun t_ k_ => XS.astoreN X1.here hx rfl (hb hby d2_3) rfl rfl (l' := #[oa t0, oa u_1, .unset, .unset, .unset]) rfl k_) ?_
  refine hG _ _ (fun t_ k_ => XS.aloadN X1.here hx rfl (hb hby d2_4) rfl rfl k_) ?_
  obtain ⟨c2, Ar2, -, S2, M2, -, -⟩ := id r1_0
  refine hG _ _ (X1.arraylength hx (by rw [e1]; exact Ar2.1) (State.isArrayOf_alike hZ.alike Ar2.2.1) (g := (mkF m 5 #[oa t0, oa u_1, .unset, .unset, .unset] [(.ref u_1)])) rfl rfl (hb hby d2_5)) ?_
  rw [len_of S2 M2]
  refine hG _ _ (fun t_ k_ => XS.istoreN X1.here hx rfl (hb hby d2_6) rfl (l' := #[oa t0, oa u_1, oi 3, .unset, .unset]) rfl k_) ?_
  refine hG _ _ (fun t_ k_ => XS.iconst X1.here hx rfl (hb hby d2_7) k_) ?_
  refine hG _ _ (fun t_ k_ => XS.istoreN X1.here hx rfl (hb hby d2_8) rfl (l' := #[oa t0, oa u_1, oi 3, oi 0, .unset]) rfl k_) ?_
  show G (T1.setTop (mkF m 9 #[oa t0, oa u_1, oi 3, oi 0, .unset] []))
  refine hG _ _ (fun t_ k_ => XS.iloadN X1.here hx rfl (hb hby d2_9) rfl k_) ?_
  refine hG _ _ (fun t_ k_ => XS.iloadN X1.here hx rfl (hb hby d2_10) rfl k_) ?_
  show G (T1.setTop (mkF m 11 #[oa t0, oa u_1, oi 3, oi 0, .unset] [(.int 3), (.int 0)]))
  refine hG _ _ (fun t_ k_ => XS.icmpNo X1.here hx rfl (hb hby d2_11) rfl (tlt (by decide)).2.1 k_) ?_
  show G (T1.setTop (mkF m 14 #[oa t0, oa u_1, oi 3, oi 0, .unset] []))
  refine hG _ _ (fun t_ k_ => XS.aloadN X1.here hx rfl (hb hby d2_14) rfl rfl k_) ?_
  refine hG _ _ (fun t_ k_ => XS.iloadN X1.here hx rfl (hb hby d2_15) rfl k_) ?_
  obtain ⟨c3, Ar3, q3, S3, M3, H3, G3⟩ := id r1_0
  have hin3 : ¬ ((0 : Int32) < 0 ∨ c3.slots.size ≤ (0 : Int32).toNatClampNeg) := inb_of S3 ⟨by decide, by decide⟩
  refine hG _ _ (X1.aaload hx (j := (0 : Int32)) (v := (.ref d0)) (by rw [e1]; exact Ar3.1) (State.isArrayOf_alike hZ.alike Ar3.2.1) rfl Ar3.2.2 hin3 (Has.at H3 hin3 rfl) (g := (mkF m 16 #[oa t0, oa u_1, oi 3, oi 0, .unset] [(.int 0), (.ref u_1)])) rfl rfl (hb hby d2_16)) ?_
  refine hG _ _ (fun t_ k_ => XS.astore X1.here hx rfl (hb hby d2_17) rfl rfl (l' := #[oa t0, oa u_1, oi 3, oi 0, oa d0]) rfl k_) ?_
  refine hG _ _ (fun t_ k_ => XS.aload X1.here hx rfl (hb hby d2_19) rfl rfl k_) ?_
  have f5 := (g4_F.keep J1 nin0)
  obtain ⟨T4, X4, e4, st4⟩ := getF X1 hx hZ hown (host := "") (Or.inl (ow hw 10 rfl)) Via.refl e1 f5 (g := (mkF m 21 #[oa t0, oa u_1, oi 3, oi 0, oa d0] [(.ref d0)])) rfl rfl (hb hby d2_21)
  refine hG _ _ st4 ?_
  refine hG _ _ (fun t_ k_ => XS.aloadN X4.here hx rfl (hb hby d2_24) rfl rfl k_) ?_
  show G (T4.setTop (mkF m 25 #[oa t0, oa u_1, oi 3, oi 0, oa d0] [(.ref t0), (.ref t0)]))
  have f7 := (g5_E.keep J1)
  refine own_callV (C := "java/lang/String") X4 hx hZ hG hown (ow hw 32 rfl) (ow hw 33 rfl) (ow hw 35 rfl) (ow hw 34 rfl) (ow hw 36 rfl) (ow hw 37 rfl) (by decide) 0 (own_eqs l Z a0 hw t0 h1 O1) (by decide) (by decide) e4 f7 (by rw [hml]; rfl) (lenOf own_pd10 rfl) (argsL := [(.ref t0)]) (rest := []) rfl rfl (Nat.le_of_eq rfl) (hb hby d2_25) (by decide) (by decide) ?_
  intro T6 h6 v6 L6 X6 e6 q6
  obtain ⟨rfl, M6, rfl⟩ := q6
  have N6 := Fr.app N1 M6
  show G (T6.setTop (mkF m 28 #[oa t0, oa u_1, oi 3, oi 0, oa d0] [(.int 1)]))
  refine hG _ _ (fun t_ k_ => XS.ifNo X6.here hx rfl (hb hby d2_28) rfl ((if0 _ _).trans (feq (by decide)).1) k_) ?_
  show G (T6.setTop (mkF m 31 #[oa t0, oa u_1, oi 3, oi 0, oa d0] []))
  refine hG _ _ (fun t_ k_ => XS.aload X6.here hx rfl (hb hby d2_31) rfl rfl k_) ?_
  show G (T6.setTop (mkF m 33 #[oa t0, oa u_1, oi 3, oi 0, oa d0] [(.ref d0)]))
  exact own_retA hR hret rfl rfl X6 hx (hb hby d2_33) (by decide) (by decide) (by rw [e6]; exact ⟨rfl, N6, K1⟩)
theorem own_findS1 (l : Launch) (Z : State) (a0 : Array Value) (hw : ∀ d ∈ tables_1, d.before a0 Z = true) (d0 : Addr) (d1 : Addr) (d2 : Addr) (t0 : Addr) (t1 : Addr) (t2 : Addr) (v0 : Addr) (v1 : Addr) (v2 : Addr) (kv0 : ClassId) (kv1 : ClassId) (kv2 : ClassId) (vals : Addr) (kl : ClassId) (cpt : Int32) (h0 : Heap) (O0 : own_Old Z h0) (g0_S : Sta Z Z.heap "com/example/handlewright/handlewright/DomainStatus" "$VALUES" "[Lcom/example/handlewright/handlewright/DomainStatus;" (.ref vals)) (g1_E : Exa Z h0 vals "[Lcom/example/handlewright/handlewright/DomainStatus;") (g2_V : Arv Z h0 vals kl (.object "com/example/handlewright/handlewright/DomainStatus") (3 : Int32) [(.ref d0), (.ref d1), (.ref d2)] .null) (g3_E : Exa Z h0 d0 "com/example/handlewright/handlewright/DomainStatus") (g4_F : Fld Z h0 d0 "com/example/handlewright/handlewright/DomainStatus" "text" "Ljava/lang/String;" (.ref t0)) (g5_E : Exa Z h0 t0 "java/lang/String") (g6_F : Fld Z h0 t0 "java/lang/String" "coder" "B" (.int 0)) (g7_F : Fld Z h0 t0 "java/lang/String" "value" "[B" (.ref v0)) (g8_V : Arv Z h0 v0 kv0 .byte (Int32.ofNat [(99 : Int32), (111 : Int32), (110 : Int32), (110 : Int32), (101 : Int32), (99 : Int32), (116 : Int32)].length) ([(99 : Int32), (111 : Int32), (110 : Int32), (110 : Int32), (101 : Int32), (99 : Int32), (116 : Int32)].map fun c => Value.int c.toInt8.toInt32) (.int 0)) (g9_E : Exa Z h0 d1 "com/example/handlewright/handlewright/DomainStatus") (g10_F : Fld Z h0 d1 "com/example/handlewright/handlewright/DomainStatus" "text" "Ljava/lang/String;" (.ref t1)) (g11_E : Exa Z h0 t1 "java/lang/String") (g12_F : Fld Z h0 t1 "java/lang/String" "coder" "B" (.int 0)) (g13_F : Fld Z h0 t1 "java/lang/String" "value" "[B" (.ref v1)) (g14_V : Arv Z h0 v1 kv1 .byte (Int32.ofNat [(102 : Int32), (97 : Int32), (105 : Int32), (108 : Int32), (101 : Int32), (100 : Int32)].length) ([(102 : Int32), (97 : Int32), (105 : Int32), (108 : Int32), (101 : Int32), (100 : Int32)].map fun c => Value.int c.toInt8.toInt32) (.int 0)) (g15_E : Exa Z h0 d2 "com/example/handlewright/handlewright/DomainStatus") (g16_F : Fld Z h0 d2 "com/example/handlewright/handlewright/DomainStatus" "text" "Ljava/lang/String;" (.ref t2)) (g17_E : Exa Z h0 t2 "java/lang/String") (g18_F : Fld Z h0 t2 "java/lang/String" "coder" "B" (.int 0)) (g19_F : Fld Z h0 t2 "java/lang/String" "value" "[B" (.ref v2)) (g20_V : Arv Z h0 v2 kv2 .byte (Int32.ofNat [(112 : Int32), (101 : Int32), (110 : Int32), (100 : Int32), (105 : Int32), (110 : Int32), (103 : Int32), (67 : Int32), (114 : Int32), (101 : Int32), (97 : Int32), (116 : Int32), (101 : Int32)].length) ([(112 : Int32), (101 : Int32), (110 : Int32), (100 : Int32), (105 : Int32), (110 : Int32), (103 : Int32), (67 : Int32), (114 : Int32), (101 : Int32), (97 : Int32), (116 : Int32), (101 : Int32)].map fun c => Value.int c.toInt8.toInt32) (.int 0)) (g21_S : Sta Z Z.heap "java/lang/String" "COMPACT_STRINGS" "Z" (.int cpt)) (g22_hcpt : ¬ (cpt = (0 : Int32))) (g23_hne0 : t0 ≠ t1) :
    own_Con l Z (⟨"com/example/handlewright/handlewright/DomainStatus", "find", "(Ljava/lang/String;)Lcom/example/handlewright/handlewright/DomainStatus;"⟩ : MethodName) prog_8_method_5_code 5 (some (.object "com/example/handlewright/handlewright/DomainStatus")) [] ({ frames := 2, cells := 1, slots := 3, locals := 28 } : Room) #[(.ref t1)] h0 (fun rv rh rL => rv = some (.ref d1) ∧ own_Fr Z rL ∧ Keep h0 rh []) := by
  refine own_intro (plainFor_of_name (by first | (simp [plainName, overriddenIn]; done) | decide +kernel)) ?_
  intro p e s m below meth c s₁ G hx hby hml hown hnm hret hZ X0 e0 hG hR
  have N0 := Fr.nil Z.heap.size
  refine own_entry (Ls := #[.val (.ref t1), .unset, .unset, .unset, .unset]) (by first | (simp [entryFrame, mkF, argsToLocals, Value.category]; done) | rfl) ?_
  show G (s₁.setTop (mkF m 0 #[oa t1, .unset, .unset, .unset, .unset] []))
  refine own_callS X0 hx hZ hG hown (ow hw 15 rfl) (ow hw 16 rfl) (ow hw 2 rfl) (ow hw 17 rfl) (by decide) 0 (own_vals l Z a0 hw vals kl d0 d1 d2 h0 O0 g0_S g1_E g2_V) (by decide) (by decide) e0 (by rw [hml]; rfl) (lenOf own_pd11 rfl) (argsL := []) (rest := []) rfl rfl (Nat.le_of_eq rfl) (hb hby d2_0) (by decide) (by decide) ?_
  intro T1 h1 v1 L1 X1 e1 q1
  obtain ⟨u_1, rfl, M1, J1, y1_0, r1_0⟩ := q1
  have N1 := Fr.app N0 M1
  have K1 : Keep h0 h1 [] := (Keep.refl h0 []).trans J1 all0
  have O1 : own_Old Z h1 := O0.keep J1 all0
  refine hG _ _ (fun t_ k_ => XS.astoreN X1.here hx rfl (hb hby d2_3) rfl rfl (l' := #[oa t1, oa u_1, .unset, .unset, .unset]) rfl k_) ?_
  refine hG _ _ (fun t_ k_ => XS.aloadN X1.here hx rfl (hb hby d2_4) rfl rfl k_) ?_
  obtain ⟨c2, Ar2, -, S2, M2, -, -⟩ := id r1_0
  refine hG _ _ (X1.arraylength hx (by rw [e1]; exact Ar2.1) (State.isArrayOf_alike hZ.alike Ar2.2.1) (g := (mkF m 5 #[oa t1, oa u_1, .unset, .unset, .unset] [(.ref u_1)])) rfl rfl (hb hby d2_5)) ?_
  rw [len_of S2 M2]
  refine hG _ _ (fun t_ k_ => XS.istoreN X1.here hx rfl (hb hby d2_6) rfl (l' := #[oa t1, oa u_1, oi 3, .unset, .unset]) rfl k_) ?_
  refine hG _ _ (fun t_ k_ => XS.iconst X1.here hx rfl (hb hby d2_7) k_) ?_
  refine hG _ _ (fun t_ k_ => XS.istoreN X1.here hx rfl (hb hby d2_8) rfl (l' := #[oa t1, oa u_1, oi 3, oi 0, .unset]) rfl k_) ?_
  show G (T1.setTop (mkF m 9 #[oa t1, oa u_1, oi 3, oi 0, .unset] []))
  refine hG _ _ (fun t_ k_ => XS.iloadN X1.here hx rfl (hb hby d2_9) rfl k_) ?_
  refine hG _ _ (fun t_ k_ => XS.iloadN X1.here hx rfl (hb hby d2_10) rfl k_) ?_
  show G (T1.setTop (mkF m 11 #[oa t1, oa u_1, oi 3, oi 0, .unset] [(.int 3), (.int 0)]))
  refine hG _ _ (fun t_ k_ => XS.icmpNo X1.here hx rfl (hb hby d2_11) rfl (tlt (by decide)).2.1 k_) ?_
  show G (T1.setTop (mkF m 14 #[oa t1, oa u_1, oi 3, oi 0, .unset] []))
  refine hG _ _ (fun t_ k_ => XS.aloadN X1.here hx rfl (hb hby d2_14) rfl rfl k_) ?_
  refine hG _ _ (fun t_ k_ => XS.iloadN X1.here hx rfl (hb hby d2_15) rfl k_) ?_
  obtain ⟨c3, Ar3, q3, S3, M3, H3, G3⟩ := id r1_0
  have hin3 : ¬ ((0 : Int32) < 0 ∨ c3.slots.size ≤ (0 : Int32).toNatClampNeg) := inb_of S3 ⟨by decide, by decide⟩
  refine hG _ _ (X1.aaload hx (j := (0 : Int32)) (v := (.ref d0)) (by rw [e1]; exact Ar3.1) (State.isArrayOf_alike hZ.alike Ar3.2.1) rfl Ar3.2.2 hin3 (Has.at H3 hin3 rfl) (g := (mkF m 16 #[oa t1, oa u_1, oi 3, oi 0, .unset] [(.int 0), (.ref u_1)])) rfl rfl (hb hby d2_16)) ?_
  refine hG _ _ (fun t_ k_ => XS.astore X1.here hx rfl (hb hby d2_17) rfl rfl (l' := #[oa t1, oa u_1, oi 3, oi 0, oa d0]) rfl k_) ?_
  refine hG _ _ (fun t_ k_ => XS.aload X1.here hx rfl (hb hby d2_19) rfl rfl k_) ?_
  have f5 := (g4_F.keep J1 nin0)
  obtain ⟨T4, X4, e4, st4⟩ := getF X1 hx hZ hown (host := "") (Or.inl (ow hw 10 rfl)) Via.refl e1 f5 (g := (mkF m 21 #[oa t1, oa u_1, oi 3, oi 0, oa d0] [(.ref d0)])) rfl rfl (hb hby d2_21)
  refine hG _ _ st4 ?_
  refine hG _ _ (fun t_ k_ => XS.aloadN X4.here hx rfl (hb hby d2_24) rfl rfl k_) ?_
  show G (T4.setTop (mkF m 25 #[oa t1, oa u_1, oi 3, oi 0, oa d0] [(.ref t1), (.ref t0)]))
  have f7 := (g11_E.keep J1)
  have f8 := (g12_F.keep J1 nin0)
  have f9 := (g13_F.keep J1 nin0)
  have f10 := (g14_V.keep J1 nin0)
  have f11 := (g6_F.keep J1 nin0)
  have f12 := (g7_F.keep J1 nin0)
  have f13 := (g8_V.keep J1 nin0)
  have f14 := (g5_E.keep J1)
  refine own_callV (C := "java/lang/String") X4 hx hZ hG hown (ow hw 32 rfl) (ow hw 33 rfl) (ow hw 35 rfl) (ow hw 34 rfl) (ow hw 36 rfl) (ow hw 37 rfl) (by decide) 0 (own_seq l Z a0 hw t0 v0 kv0 [(99 : Int32), (111 : Int32), (110 : Int32), (110 : Int32), (101 : Int32), (99 : Int32), (116 : Int32)] t1 v1 kv1 [(102 : Int32), (97 : Int32), (105 : Int32), (108 : Int32), (101 : Int32), (100 : Int32)] (0 : Int32) (Int32.ofNat [(102 : Int32), (97 : Int32), (105 : Int32), (108 : Int32), (101 : Int32), (100 : Int32)].length) ([(102 : Int32), (97 : Int32), (105 : Int32), (108 : Int32), (101 : Int32), (100 : Int32)].map fun c => Value.int c.toInt8.toInt32) cpt h1 O1 f7 f8 f9 f10 (Or.inl ⟨by decide, rfl, rfl, rfl⟩) (Nat.le_of_ble_eq_true rfl) (fun c h => own_8to16 (own_rk1 c h)) g21_S g22_hcpt f11 f12 f13 (Nat.le_of_ble_eq_true rfl) own_rk0 g23_hne0) (by decide) (by decide) e4 f14 (by rw [hml]; rfl) (lenOf own_pd10 rfl) (argsL := [(.ref t1)]) (rest := []) rfl rfl (Nat.le_of_eq rfl) (hb hby d2_25) (by decide) (by decide) ?_
  intro T6 h6 v6 L6 X6 e6 q6
  obtain ⟨r_6, rfl, M6, rfl, r6_0⟩ := q6
  have N6 := Fr.app N1 M6
  show G (T6.setTop (mkF m 28 #[oa t1, oa u_1, oi 3, oi 0, oa d0] [(.int r_6)]))
  refine hG _ _ (fun t_ k_ => XS.ifYes X6.here hx rfl (pc0 := 28) (pc' := 34) rfl (hb hby d2_28) rfl ((if0 _ _).trans (teq (r6_0.elim (fun q => absurd q.2 (by decide)) (fun q => q.1))).1) (by decide) (by decide) k_) ?_
  show G (T6.setTop (mkF m 34 #[oa t1, oa u_1, oi 3, oi 0, oa d0] []))
  refine hG _ _ (fun t_ k_ => XS.iinc X6.here hx rfl (hb hby d2_34) rfl (l' := #[oa t1, oa u_1, oi 3, oi ((0 : Int32) + (1 : Int32)), oa d0]) rfl k_) ?_
  refine hG _ _ (fun t_ k_ => XS.goto X6.here hx rfl (pc0 := 37) (pc' := 9) rfl (hb hby d2_37) (by decide) (by decide) k_) ?_
  show G (T6.setTop (mkF m 9 #[oa t1, oa u_1, oi 3, oi ((0 : Int32) + (1 : Int32)), oa d0] []))
  rw [show ((0 : Int32) + (1 : Int32)) = (1 : Int32) from by decide]
  show G (T6.setTop (mkF m 9 #[oa t1, oa u_1, oi 3, oi 1, oa d0] []))
  refine hG _ _ (fun t_ k_ => XS.iloadN X6.here hx rfl (hb hby d2_9) rfl k_) ?_
  refine hG _ _ (fun t_ k_ => XS.iloadN X6.here hx rfl (hb hby d2_10) rfl k_) ?_
  show G (T6.setTop (mkF m 11 #[oa t1, oa u_1, oi 3, oi 1, oa d0] [(.int 3), (.int 1)]))
  refine hG _ _ (fun t_ k_ => XS.icmpNo X6.here hx rfl (hb hby d2_11) rfl (tlt (by decide)).2.1 k_) ?_
  show G (T6.setTop (mkF m 14 #[oa t1, oa u_1, oi 3, oi 1, oa d0] []))
  refine hG _ _ (fun t_ k_ => XS.aloadN X6.here hx rfl (hb hby d2_14) rfl rfl k_) ?_
  refine hG _ _ (fun t_ k_ => XS.iloadN X6.here hx rfl (hb hby d2_15) rfl k_) ?_
  obtain ⟨c15, Ar15, q15, S15, M15, H15, G15⟩ := id r1_0
  have hin15 : ¬ ((1 : Int32) < 0 ∨ c15.slots.size ≤ (1 : Int32).toNatClampNeg) := inb_of S15 ⟨by decide, by decide⟩
  refine hG _ _ (X6.aaload hx (j := (1 : Int32)) (v := (.ref d1)) (by rw [e6]; exact Ar15.1) (State.isArrayOf_alike hZ.alike Ar15.2.1) rfl Ar15.2.2 hin15 (Has.at H15 hin15 rfl) (g := (mkF m 16 #[oa t1, oa u_1, oi 3, oi 1, oa d0] [(.int 1), (.ref u_1)])) rfl rfl (hb hby d2_16)) ?_
  refine hG _ _ (fun t_ k_ => XS.astore X6.here hx rfl (hb hby d2_17) rfl rfl (l' := #[oa t1, oa u_1, oi 3, oi 1, oa d1]) rfl k_) ?_
  refine hG _ _ (fun t_ k_ => XS.aload X6.here hx rfl (hb hby d2_19) rfl rfl k_) ?_
  have f17 := (g10_F.keep J1 nin0)
  obtain ⟨T16, X16, e16, st16⟩ := getF X6 hx hZ hown (host := "") (Or.inl (ow hw 10 rfl)) Via.refl e6 f17 (g := (mkF m 21 #[oa t1, oa u_1, oi 3, oi 1, oa d1] [(.ref d1)])) rfl rfl (hb hby d2_21)
  refine hG _ _ st16 ?_
  refine hG _ _ (fun t_ k_ => XS.aloadN X16.here hx rfl (hb hby d2_24) rfl rfl k_) ?_
  show G (T16.setTop (mkF m 25 #[oa t1, oa u_1, oi 3, oi 1, oa d1] [(.ref t1), (.ref t1)]))
  refine own_callV (C := "java/lang/String") X16 hx hZ hG hown (ow hw 32 rfl) (ow hw 33 rfl) (ow hw 35 rfl) (ow hw 34 rfl) (ow hw 36 rfl) (ow hw 37 rfl) (by decide) 0 (own_eqs l Z a0 hw t1 h1 O1) (by decide) (by decide) e16 f7 (by rw [hml]; rfl) (lenOf own_pd10 rfl) (argsL := [(.ref t1)]) (rest := []) rfl rfl (Nat.le_of_eq rfl) (hb hby d2_25) (by decide) (by decide) ?_
  intro T18 h18 v18 L18 X18 e18 q18
  obtain ⟨rfl, M18, rfl⟩ := q18
  have N18 := Fr.app N6 M18
  show G (T18.setTop (mkF m 28 #[oa t1, oa u_1, oi 3, oi 1, oa d1] [(.int 1)]))
  refine hG _ _ (fun t_ k_ => XS.ifNo X18.here hx rfl (hb hby d2_28) rfl ((if0 _ _).trans (feq (by decide)).1) k_) ?_
  show G (T18.setTop (mkF m 31 #[oa t1, oa u_1, oi 3, oi 1, oa d1] []))
  refine hG _ _ (fun t_ k_ => XS.aload X18.here hx rfl (hb hby d2_31) rfl rfl k_) ?_
  show G (T18.setTop (mkF m 33 #[oa t1, oa u_1, oi 3, oi 1, oa d1] [(.ref d1)]))
  exact own_retA hR hret rfl rfl X18 hx (hb hby d2_33) (by decide) (by decide) (by rw [e18]; exact ⟨rfl, N18, K1⟩)
theorem own_findS2 (l : Launch) (Z : State) (a0 : Array Value) (hw : ∀ d ∈ tables_1, d.before a0 Z = true) (d0 : Addr) (d1 : Addr) (d2 : Addr) (t0 : Addr) (t1 : Addr) (t2 : Addr) (v0 : Addr) (v1 : Addr) (v2 : Addr) (kv0 : ClassId) (kv1 : ClassId) (kv2 : ClassId) (vals : Addr) (kl : ClassId) (cpt : Int32) (h0 : Heap) (O0 : own_Old Z h0) (g0_S : Sta Z Z.heap "com/example/handlewright/handlewright/DomainStatus" "$VALUES" "[Lcom/example/handlewright/handlewright/DomainStatus;" (.ref vals)) (g1_E : Exa Z h0 vals "[Lcom/example/handlewright/handlewright/DomainStatus;") (g2_V : Arv Z h0 vals kl (.object "com/example/handlewright/handlewright/DomainStatus") (3 : Int32) [(.ref d0), (.ref d1), (.ref d2)] .null) (g3_E : Exa Z h0 d0 "com/example/handlewright/handlewright/DomainStatus") (g4_F : Fld Z h0 d0 "com/example/handlewright/handlewright/DomainStatus" "text" "Ljava/lang/String;" (.ref t0)) (g5_E : Exa Z h0 t0 "java/lang/String") (g6_F : Fld Z h0 t0 "java/lang/String" "coder" "B" (.int 0)) (g7_F : Fld Z h0 t0 "java/lang/String" "value" "[B" (.ref v0)) (g8_V : Arv Z h0 v0 kv0 .byte (Int32.ofNat [(99 : Int32), (111 : Int32), (110 : Int32), (110 : Int32), (101 : Int32), (99 : Int32), (116 : Int32)].length) ([(99 : Int32), (111 : Int32), (110 : Int32), (110 : Int32), (101 : Int32), (99 : Int32), (116 : Int32)].map fun c => Value.int c.toInt8.toInt32) (.int 0)) (g9_E : Exa Z h0 d1 "com/example/handlewright/handlewright/DomainStatus") (g10_F : Fld Z h0 d1 "com/example/handlewright/handlewright/DomainStatus" "text" "Ljava/lang/String;" (.ref t1)) (g11_E : Exa Z h0 t1 "java/lang/String") (g12_F : Fld Z h0 t1 "java/lang/String" "coder" "B" (.int 0)) (g13_F : Fld Z h0 t1 "java/lang/String" "value" "[B" (.ref v1)) (g14_V : Arv Z h0 v1 kv1 .byte (Int32.ofNat [(102 : Int32), (97 : Int32), (105 : Int32), (108 : Int32), (101 : Int32), (100 : Int32)].length) ([(102 : Int32), (97 : Int32), (105 : Int32), (108 : Int32), (101 : Int32), (100 : Int32)].map fun c => Value.int c.toInt8.toInt32) (.int 0)) (g15_E : Exa Z h0 d2 "com/example/handlewright/handlewright/DomainStatus") (g16_F : Fld Z h0 d2 "com/example/handlewright/handlewright/DomainStatus" "text" "Ljava/lang/String;" (.ref t2)) (g17_E : Exa Z h0 t2 "java/lang/String") (g18_F : Fld Z h0 t2 "java/lang/String" "coder" "B" (.int 0)) (g19_F : Fld Z h0 t2 "java/lang/String" "value" "[B" (.ref v2)) (g20_V : Arv Z h0 v2 kv2 .byte (Int32.ofNat [(112 : Int32), (101 : Int32), (110 : Int32), (100 : Int32), (105 : Int32), (110 : Int32), (103 : Int32), (67 : Int32), (114 : Int32), (101 : Int32), (97 : Int32), (116 : Int32), (101 : Int32)].length) ([(112 : Int32), (101 : Int32), (110 : Int32), (100 : Int32), (105 : Int32), (110 : Int32), (103 : Int32), (67 : Int32), (114 : Int32), (101 : Int32), (97 : Int32), (116 : Int32), (101 : Int32)].map fun c => Value.int c.toInt8.toInt32) (.int 0)) (g21_S : Sta Z Z.heap "java/lang/String" "COMPACT_STRINGS" "Z" (.int cpt)) (g22_hcpt : ¬ (cpt = (0 : Int32))) (g23_hne0 : t0 ≠ t2) (g24_hne1 : t1 ≠ t2) :
    own_Con l Z (⟨"com/example/handlewright/handlewright/DomainStatus", "find", "(Ljava/lang/String;)Lcom/example/handlewright/handlewright/DomainStatus;"⟩ : MethodName) prog_8_method_5_code 5 (some (.object "com/example/handlewright/handlewright/DomainStatus")) [] ({ frames := 2, cells := 1, slots := 3, locals := 28 } : Room) #[(.ref t2)] h0 (fun rv rh rL => rv = some (.ref d2) ∧ own_Fr Z rL ∧ Keep h0 rh []) := by
  refine own_intro (plainFor_of_name (by first | (simp [plainName, overriddenIn]; done) | decide +kernel)) ?_
  intro p e s m below meth c s₁ G hx hby hml hown hnm hret hZ X0 e0 hG hR
  have N0 := Fr.nil Z.heap.size
  refine own_entry (Ls := #[.val (.ref t2), .unset, .unset, .unset, .unset]) (by first | (simp [entryFrame, mkF, argsToLocals, Value.category]; done) | rfl) ?_
  show G (s₁.setTop (mkF m 0 #[oa t2, .unset, .unset, .unset, .unset] []))
  refine own_callS X0 hx hZ hG hown (ow hw 15 rfl) (ow hw 16 rfl) (ow hw 2 rfl) (ow hw 17 rfl) (by decide) 0 (own_vals l Z a0 hw vals kl d0 d1 d2 h0 O0 g0_S g1_E g2_V) (by decide) (by decide) e0 (by rw [hml]; rfl) (lenOf own_pd11 rfl) (argsL := []) (rest := []) rfl rfl (Nat.le_of_eq rfl) (hb hby d2_0) (by decide) (by decide) ?_
  intro T1 h1 v1 L1 X1 e1 q1
  obtain ⟨u_1, rfl, M1, J1, y1_0, r1_0⟩ := q1
  have N1 := Fr.app N0 M1
  have K1 : Keep h0 h1 [] := (Keep.refl h0 []).trans J1 all0
  have O1 : own_Old Z h1 := O0.keep J1 all0
  refine hG _ _ (fun t_ k_ => XS.astoreN X1.here hx rfl (hb hby d2_3) rfl rfl (l' := #[oa t2, oa u_1, .unset, .unset, .unset]) rfl k_) ?_
  refine hG _ _ (fun t_ k_ => XS.aloadN X1.here hx rfl (hb hby d2_4) rfl rfl k_) ?_
  obtain ⟨c2, Ar2, -, S2, M2, -, -⟩ := id r1_0
  refine hG _ _ (X1.arraylength hx (by rw [e1]; exact Ar2.1) (State.isArrayOf_alike hZ.alike Ar2.2.1) (g := (mkF m 5 #[oa t2, oa u_1, .unset, .unset, .unset] [(.ref u_1)])) rfl rfl (hb hby d2_5)) ?_
  rw [len_of S2 M2]
  refine hG _ _ (fun t_ k_ => XS.istoreN X1.here hx rfl (hb hby d2_6) rfl (l' := #[oa t2, oa u_1, oi 3, .unset, .unset]) rfl k_) ?_
  refine hG _ _ (fun t_ k_ => XS.iconst X1.here hx rfl (hb hby d2_7) k_) ?_
  refine hG _ _ (fun t_ k_ => XS.istoreN X1.here hx rfl (hb hby d2_8) rfl (l' := #[oa t2, oa u_1, oi 3, oi 0, .unset]) rfl k_) ?_
  show G (T1.setTop (mkF m 9 #[oa t2, oa u_1, oi 3, oi 0, .unset] []))
  refine hG _ _ (fun t_ k_ => XS.iloadN X1.here hx rfl (hb hby d2_9) rfl k_) ?_
  refine hG _ _ (fun t_ k_ => XS.iloadN X1.here hx rfl (hb hby d2_10) rfl k_) ?_
  show G (T1.setTop (mkF m 11 #[oa t2, oa u_1, oi 3, oi 0, .unset] [(.int 3), (.int 0)]))
  refine hG _ _ (fun t_ k_ => XS.icmpNo X1.here hx rfl (hb hby d2_11) rfl (tlt (by decide)).2.1 k_) ?_
  show G (T1.setTop (mkF m 14 #[oa t2, oa u_1, oi 3, oi 0, .unset] []))
  refine hG _ _ (fun t_ k_ => XS.aloadN X1.here hx rfl (hb hby d2_14) rfl rfl k_) ?_
  refine hG _ _ (fun t_ k_ => XS.iloadN X1.here hx rfl (hb hby d2_15) rfl k_) ?_
  obtain ⟨c3, Ar3, q3, S3, M3, H3, G3⟩ := id r1_0
  have hin3 : ¬ ((0 : Int32) < 0 ∨ c3.slots.size ≤ (0 : Int32).toNatClampNeg) := inb_of S3 ⟨by decide, by decide⟩
  refine hG _ _ (X1.aaload hx (j := (0 : Int32)) (v := (.ref d0)) (by rw [e1]; exact Ar3.1) (State.isArrayOf_alike hZ.alike Ar3.2.1) rfl Ar3.2.2 hin3 (Has.at H3 hin3 rfl) (g := (mkF m 16 #[oa t2, oa u_1, oi 3, oi 0, .unset] [(.int 0), (.ref u_1)])) rfl rfl (hb hby d2_16)) ?_
  refine hG _ _ (fun t_ k_ => XS.astore X1.here hx rfl (hb hby d2_17) rfl rfl (l' := #[oa t2, oa u_1, oi 3, oi 0, oa d0]) rfl k_) ?_
  refine hG _ _ (fun t_ k_ => XS.aload X1.here hx rfl (hb hby d2_19) rfl rfl k_) ?_
  have f5 := (g4_F.keep J1 nin0)
  obtain ⟨T4, X4, e4, st4⟩ := getF X1 hx hZ hown (host := "") (Or.inl (ow hw 10 rfl)) Via.refl e1 f5 (g := (mkF m 21 #[oa t2, oa u_1, oi 3, oi 0, oa d0] [(.ref d0)])) rfl rfl (hb hby d2_21)
  refine hG _ _ st4 ?_
  refine hG _ _ (fun t_ k_ => XS.aloadN X4.here hx rfl (hb hby d2_24) rfl rfl k_) ?_
  show G (T4.setTop (mkF m 25 #[oa t2, oa u_1, oi 3, oi 0, oa d0] [(.ref t2), (.ref t0)]))
  have f7 := (g17_E.keep J1)
  have f8 := (g18_F.keep J1 nin0)
  have f9 := (g19_F.keep J1 nin0)
  have f10 := (g20_V.keep J1 nin0)
  have f11 := (g6_F.keep J1 nin0)
  have f12 := (g7_F.keep J1 nin0)
  have f13 := (g8_V.keep J1 nin0)
  have f14 := (g5_E.keep J1)
  refine own_callV (C := "java/lang/String") X4 hx hZ hG hown (ow hw 32 rfl) (ow hw 33 rfl) (ow hw 35 rfl) (ow hw 34 rfl) (ow hw 36 rfl) (ow hw 37 rfl) (by decide) 0 (own_seq l Z a0 hw t0 v0 kv0 [(99 : Int32), (111 : Int32), (110 : Int32), (110 : Int32), (101 : Int32), (99 : Int32), (116 : Int32)] t2 v2 kv2 [(112 : Int32), (101 : Int32), (110 : Int32), (100 : Int32), (105 : Int32), (110 : Int32), (103 : Int32), (67 : Int32), (114 : Int32), (101 : Int32), (97 : Int32), (116 : Int32), (101 : Int32)] (0 : Int32) (Int32.ofNat [(112 : Int32), (101 : Int32), (110 : Int32), (100 : Int32), (105 : Int32), (110 : Int32), (103 : Int32), (67 : Int32), (114 : Int32), (101 : Int32), (97 : Int32), (116 : Int32), (101 : Int32)].length) ([(112 : Int32), (101 : Int32), (110 : Int32), (100 : Int32), (105 : Int32), (110 : Int32), (103 : Int32), (67 : Int32), (114 : Int32), (101 : Int32), (97 : Int32), (116 : Int32), (101 : Int32)].map fun c => Value.int c.toInt8.toInt32) cpt h1 O1 f7 f8 f9 f10 (Or.inl ⟨by decide, rfl, rfl, rfl⟩) (Nat.le_of_ble_eq_true rfl) (fun c h => own_8to16 (own_rk2 c h)) g21_S g22_hcpt f11 f12 f13 (Nat.le_of_ble_eq_true rfl) own_rk0 g23_hne0) (by decide) (by decide) e4 f14 (by rw [hml]; rfl) (lenOf own_pd10 rfl) (argsL := [(.ref t2)]) (rest := []) rfl rfl (Nat.le_of_eq rfl) (hb hby d2_25) (by decide) (by decide) ?_
  intro T6 h6 v6 L6 X6 e6 q6
  obtain ⟨r_6, rfl, M6, rfl, r6_0⟩ := q6
  have N6 := Fr.app N1 M6
  show G (T6.setTop (mkF m 28 #[oa t2, oa u_1, oi 3, oi 0, oa d0] [(.int r_6)]))
  refine hG _ _ (fun t_ k_ => XS.ifYes X6.here hx rfl (pc0 := 28) (pc' := 34) rfl (hb hby d2_28) rfl ((if0 _ _).trans (teq (r6_0.elim (fun q => absurd q.2 (by decide)) (fun q => q.1))).1) (by decide) (by decide) k_) ?_
  show G (T6.setTop (mkF m 34 #[oa t2, oa u_1, oi 3, oi 0, oa d0] []))
  refine hG _ _ (fun t_ k_ => XS.iinc X6.here hx rfl (hb hby d2_34) rfl (l' := #[oa t2, oa u_1, oi 3, oi ((0 : Int32) + (1 : Int32)), oa d0]) rfl k_) ?_
  refine hG _ _ (fun t_ k_ => XS.goto X6.here hx rfl (pc0 := 37) (pc' := 9) rfl (hb hby d2_37) (by decide) (by decide) k_) ?_
  show G (T6.setTop (mkF m 9 #[oa t2, oa u_1, oi 3, oi ((0 : Int32) + (1 : Int32)), oa d0] []))
  rw [show ((0 : Int32) + (1 : Int32)) = (1 : Int32) from by decide]
  show G (T6.setTop (mkF m 9 #[oa t2, oa u_1, oi 3, oi 1, oa d0] []))
  refine hG _ _ (fun t_ k_ => XS.iloadN X6.here hx rfl (hb hby d2_9) rfl k_) ?_
  refine hG _ _ (fun t_ k_ => XS.iloadN X6.here hx rfl (hb hby d2_10) rfl k_) ?_
  show G (T6.setTop (mkF m 11 #[oa t2, oa u_1, oi 3, oi 1, oa d0] [(.int 3), (.int 1)]))
  refine hG _ _ (fun t_ k_ => XS.icmpNo X6.here hx rfl (hb hby d2_11) rfl (tlt (by decide)).2.1 k_) ?_
  show G (T6.setTop (mkF m 14 #[oa t2, oa u_1, oi 3, oi 1, oa d0] []))
  refine hG _ _ (fun t_ k_ => XS.aloadN X6.here hx rfl (hb hby d2_14) rfl rfl k_) ?_
  refine hG _ _ (fun t_ k_ => XS.iloadN X6.here hx rfl (hb hby d2_15) rfl k_) ?_
  obtain ⟨c15, Ar15, q15, S15, M15, H15, G15⟩ := id r1_0
  have hin15 : ¬ ((1 : Int32) < 0 ∨ c15.slots.size ≤ (1 : Int32).toNatClampNeg) := inb_of S15 ⟨by decide, by decide⟩
  refine hG _ _ (X6.aaload hx (j := (1 : Int32)) (v := (.ref d1)) (by rw [e6]; exact Ar15.1) (State.isArrayOf_alike hZ.alike Ar15.2.1) rfl Ar15.2.2 hin15 (Has.at H15 hin15 rfl) (g := (mkF m 16 #[oa t2, oa u_1, oi 3, oi 1, oa d0] [(.int 1), (.ref u_1)])) rfl rfl (hb hby d2_16)) ?_
  refine hG _ _ (fun t_ k_ => XS.astore X6.here hx rfl (hb hby d2_17) rfl rfl (l' := #[oa t2, oa u_1, oi 3, oi 1, oa d1]) rfl k_) ?_
  refine hG _ _ (fun t_ k_ => XS.aload X6.here hx rfl (hb hby d2_19) rfl rfl k_) ?_
  have f17 := (g10_F.keep J1 nin0)
  obtain ⟨T16, X16, e16, st16⟩ := getF X6 hx hZ hown (host := "") (Or.inl (ow hw 10 rfl)) Via.refl e6 f17 (g := (mkF m 21 #[oa t2, oa u_1, oi 3, oi 1, oa d1] [(.ref d1)])) rfl rfl (hb hby d2_21)
  refine hG _ _ st16 ?_
  refine hG _ _ (fun t_ k_ => XS.aloadN X16.here hx rfl (hb hby d2_24) rfl rfl k_) ?_
  show G (T16.setTop (mkF m 25 #[oa t2, oa u_1, oi 3, oi 1, oa d1] [(.ref t2), (.ref t1)]))
  have f19 := (g12_F.keep J1 nin0)
  have f20 := (g13_F.keep J1 nin0)
  have f21 := (g14_V.keep J1 nin0)
  have f22 := (g11_E.keep J1)
  refine own_callV (C := "java/lang/String") X16 hx hZ hG hown (ow hw 32 rfl) (ow hw 33 rfl) (ow hw 35 rfl) (ow hw 34 rfl) (ow hw 36 rfl) (ow hw 37 rfl) (by decide) 0 (own_seq l Z a0 hw t1 v1 kv1 [(102 : Int32), (97 : Int32), (105 : Int32), (108 : Int32), (101 : Int32), (100 : Int32)] t2 v2 kv2 [(112 : Int32), (101 : Int32), (110 : Int32), (100 : Int32), (105 : Int32), (110 : Int32), (103 : Int32), (67 : Int32), (114 : Int32), (101 : Int32), (97 : Int32), (116 : Int32), (101 : Int32)] (0 : Int32) (Int32.ofNat [(112 : Int32), (101 : Int32), (110 : Int32), (100 : Int32), (105 : Int32), (110 : Int32), (103 : Int32), (67 : Int32), (114 : Int32), (101 : Int32), (97 : Int32), (116 : Int32), (101 : Int32)].length) ([(112 : Int32), (101 : Int32), (110 : Int32), (100 : Int32), (105 : Int32), (110 : Int32), (103 : Int32), (67 : Int32), (114 : Int32), (101 : Int32), (97 : Int32), (116 : Int32), (101 : Int32)].map fun c => Value.int c.toInt8.toInt32) cpt h1 O1 f7 f8 f9 f10 (Or.inl ⟨by decide, rfl, rfl, rfl⟩) (Nat.le_of_ble_eq_true rfl) (fun c h => own_8to16 (own_rk2 c h)) g21_S g22_hcpt f19 f20 f21 (Nat.le_of_ble_eq_true rfl) own_rk1 g24_hne1) (by decide) (by decide) e16 f22 (by rw [hml]; rfl) (lenOf own_pd10 rfl) (argsL := [(.ref t2)]) (rest := []) rfl rfl (Nat.le_of_eq rfl) (hb hby d2_25) (by decide) (by decide) ?_
  intro T18 h18 v18 L18 X18 e18 q18
  obtain ⟨r_18, rfl, M18, rfl, r18_0⟩ := q18
  have N18 := Fr.app N6 M18
  show G (T18.setTop (mkF m 28 #[oa t2, oa u_1, oi 3, oi 1, oa d1] [(.int r_18)]))
  refine hG _ _ (fun t_ k_ => XS.ifYes X18.here hx rfl (pc0 := 28) (pc' := 34) rfl (hb hby d2_28) rfl ((if0 _ _).trans (teq (r18_0.elim (fun q => absurd q.2 (by decide)) (fun q => q.1))).1) (by decide) (by decide) k_) ?_
  show G (T18.setTop (mkF m 34 #[oa t2, oa u_1, oi 3, oi 1, oa d1] []))
  refine hG _ _ (fun t_ k_ => XS.iinc X18.here hx rfl (hb hby d2_34) rfl (l' := #[oa t2, oa u_1, oi 3, oi ((1 : Int32) + (1 : Int32)), oa d1]) rfl k_) ?_
  refine hG _ _ (fun t_ k_ => XS.goto X18.here hx rfl (pc0 := 37) (pc' := 9) rfl (hb hby d2_37) (by decide) (by decide) k_) ?_
  show G (T18.setTop (mkF m 9 #[oa t2, oa u_1, oi 3, oi ((1 : Int32) + (1 : Int32)), oa d1] []))
  rw [show ((1 : Int32) + (1 : Int32)) = (2 : Int32) from by decide]
  show G (T18.setTop (mkF m 9 #[oa t2, oa u_1, oi 3, oi 2, oa d1] []))
  refine hG _ _ (fun t_ k_ => XS.iloadN X18.here hx rfl (hb hby d2_9) rfl k_) ?_
  refine hG _ _ (fun t_ k_ => XS.iloadN X18.here hx rfl (hb hby d2_10) rfl k_) ?_
  show G (T18.setTop (mkF m 11 #[oa t2, oa u_1, oi 3, oi 2, oa d1] [(.int 3), (.int 2)]))
  refine hG _ _ (fun t_ k_ => XS.icmpNo X18.here hx rfl (hb hby d2_11) rfl (tlt (by decide)).2.1 k_) ?_
  show G (T18.setTop (mkF m 14 #[oa t2, oa u_1, oi 3, oi 2, oa d1] []))
  refine hG _ _ (fun t_ k_ => XS.aloadN X18.here hx rfl (hb hby d2_14) rfl rfl k_) ?_
  refine hG _ _ (fun t_ k_ => XS.iloadN X18.here hx rfl (hb hby d2_15) rfl k_) ?_
  obtain ⟨c23, Ar23, q23, S23, M23, H23, G23⟩ := id r1_0
  have hin23 : ¬ ((2 : Int32) < 0 ∨ c23.slots.size ≤ (2 : Int32).toNatClampNeg) := inb_of S23 ⟨by decide, by decide⟩
  refine hG _ _ (X18.aaload hx (j := (2 : Int32)) (v := (.ref d2)) (by rw [e18]; exact Ar23.1) (State.isArrayOf_alike hZ.alike Ar23.2.1) rfl Ar23.2.2 hin23 (Has.at H23 hin23 rfl) (g := (mkF m 16 #[oa t2, oa u_1, oi 3, oi 2, oa d1] [(.int 2), (.ref u_1)])) rfl rfl (hb hby d2_16)) ?_
  refine hG _ _ (fun t_ k_ => XS.astore X18.here hx rfl (hb hby d2_17) rfl rfl (l' := #[oa t2, oa u_1, oi 3, oi 2, oa d2]) rfl k_) ?_
  refine hG _ _ (fun t_ k_ => XS.aload X18.here hx rfl (hb hby d2_19) rfl rfl k_) ?_
  have f25 := (g16_F.keep J1 nin0)
  obtain ⟨T24, X24, e24, st24⟩ := getF X18 hx hZ hown (host := "") (Or.inl (ow hw 10 rfl)) Via.refl e18 f25 (g := (mkF m 21 #[oa t2, oa u_1, oi 3, oi 2, oa d2] [(.ref d2)])) rfl rfl (hb hby d2_21)
  refine hG _ _ st24 ?_
  refine hG _ _ (fun t_ k_ => XS.aloadN X24.here hx rfl (hb hby d2_24) rfl rfl k_) ?_
  show G (T24.setTop (mkF m 25 #[oa t2, oa u_1, oi 3, oi 2, oa d2] [(.ref t2), (.ref t2)]))
  refine own_callV (C := "java/lang/String") X24 hx hZ hG hown (ow hw 32 rfl) (ow hw 33 rfl) (ow hw 35 rfl) (ow hw 34 rfl) (ow hw 36 rfl) (ow hw 37 rfl) (by decide) 0 (own_eqs l Z a0 hw t2 h1 O1) (by decide) (by decide) e24 f7 (by rw [hml]; rfl) (lenOf own_pd10 rfl) (argsL := [(.ref t2)]) (rest := []) rfl rfl (Nat.le_of_eq rfl) (hb hby d2_25) (by decide) (by decide) ?_
  intro T26 h26 v26 L26 X26 e26 q26
  obtain ⟨rfl, M26, rfl⟩ := q26
  have N26 := Fr.app N18 M26
  show G (T26.setTop (mkF m 28 #[oa t2, oa u_1, oi 3, oi 2, oa d2] [(.int 1)]))
  refine hG _ _ (fun t_ k_ => XS.ifNo X26.here hx rfl (hb hby d2_28) rfl ((if0 _ _).trans (feq (by decide)).1) k_) ?_
  show G (T26.setTop (mkF m 31 #[oa t2, oa u_1, oi 3, oi 2, oa d2] []))
  refine hG _ _ (fun t_ k_ => XS.aload X26.here hx rfl (hb hby d2_31) rfl rfl k_) ?_
  show G (T26.setTop (mkF m 33 #[oa t2, oa u_1, oi 3, oi 2, oa d2] [(.ref d2)]))
  exact own_retA hR hret rfl rfl X26 hx (hb hby d2_33) (by decide) (by decide) (by rw [e26]; exact ⟨rfl, N26, K1⟩)
theorem own_pd14 : parseMethodDescriptor "(I)[C" = some ⟨[.int], some (.array .char)⟩ := by decide +kernel
theorem own_mk_lit_0 (l : Launch) (Z : State) (a0 : Array Value) (hw : ∀ d ∈ tables_1, d.before a0 Z = true) (h0 : Heap) (O0 : own_Old Z h0) :
    own_Con l Z (⟨"com/example/handlewright/handlewright/DomainStatusFindPinLaw", "lit", "(I)[C"⟩ : MethodName) method_3_code 1 (some (.array .char)) [] ({ frames := 0, cells := 1, slots := 7, locals := 0 } : Room) #[(.int 0)] h0 (fun rv rh rL => ∃ (u : Addr) (ku : ClassId), rv = some (.ref u) ∧ own_Fr Z rL ∧ Keep h0 rh [] ∧ h0.size ≤ u ∧ (Arv Z rh u ku .char (7 : Int32) [(.int 99), (.int 111), (.int 110), (.int 110), (.int 101), (.int 99), (.int 116)] (.int 0))) := by
  refine own_intro (plainFor_of_name (by first | (simp [plainName, overriddenIn]; done) | decide +kernel)) ?_
  intro p e s m below meth c s₁ G hx hby hml hown hnm hret hZ X0 e0 hG hR
  have N0 := Fr.nil Z.heap.size
  refine own_entry (Ls := #[.val (.int 0)]) (by first | (simp [entryFrame, mkF, argsToLocals, Value.category]; done) | rfl) ?_
  show G (s₁.setTop (mkF m 0 #[oi 0] []))
  refine hG _ _ (fun t_ k_ => XS.iloadN X0.here hx rfl (hb hby d13_0) rfl k_) ?_
  show G (s₁.setTop (mkF m 1 #[oi 0] [(.int 0)]))
  refine hG _ _ (fun t_ k_ => XS.ifNo X0.here hx rfl (hb hby d13_1) rfl ((if0 _ _).trans (teq (by decide)).2) k_) ?_
  show G (s₁.setTop (mkF m 4 #[oi 0] []))
  refine hG _ _ (fun t_ k_ => XS.bipush X0.here hx rfl (hb hby d13_4) k_) ?_
  obtain ⟨T1, h1, k1, X1, e1, E1, A1, st1⟩ := newP X0 hx hZ (ow hw 45 rfl) e0 (g := (mkF m 6 #[oi 0] [(.int 7)])) rfl (hb hby d13_6) rfl (by decide) (cap := 7) (by decide) (by decide) (by decide) (by decide)
  obtain ⟨b1, z1⟩ : ∃ z, z = h0.size := ⟨_, rfl⟩
  rw [← z1] at A1 st1
  refine hG _ _ st1 ?_
  have K1 : Keep h0 h1 [] := (Keep.refl h0 []).ext E1
  have O1 : own_Old Z h1 := O0.ext E1
  have V1 : Arv Z h1 b1 k1 .char (7 : Int32) [(.int 0), (.int 0), (.int 0), (.int 0), (.int 0), (.int 0), (.int 0)] (.int 0) := (Arv.new A1 (by decide)).pad (pad_rep [] (.int 0) 7)
  refine hG _ _ (fun t_ k_ => XS.dup X1.here hx rfl (hb hby d13_8) rfl rfl k_) ?_
  refine hG _ _ (fun t_ k_ => XS.iconst X1.here hx rfl (hb hby d13_9) k_) ?_
  refine hG _ _ (fun t_ k_ => XS.bipush X1.here hx rfl (hb hby d13_10) k_) ?_
  obtain ⟨c2, Ar2, q2, S2, M2, H2, G2⟩ := id V1
  obtain ⟨T2, h2, X2, e2, W2, st2⟩ := stC X1 hx hZ e1 Ar2 (j := (0 : Int32)) (inb_of S2 ⟨by decide, by decide⟩) (g := (mkF m 12 #[oi 0] [(.int 99), (.int 0), (.ref b1), (.ref b1)])) rfl rfl (hb hby d13_12)
  refine hG _ _ st2 ?_
  have K2 : Keep h0 h2 [] := K1.wr W2 (Or.inr (Nat.le_trans (Keep.refl h0 []).1 (Nat.le_of_eq z1.symm)))
  have O2 : own_Old Z h2 := O1.wr W2 (own_ge O0 (Nat.le_of_eq z1.symm))
  rw [own_narC (by decide)] at W2
  have V2 : Arv Z h2 b1 k1 .char (7 : Int32) [(.int 99), (.int 0), (.int 0), (.int 0), (.int 0), (.int 0), (.int 0)] (.int 0) := Arv.set Ar2 q2 S2 M2 H2 G2 (own_fitC (by decide)) W2 0 rfl (Nat.le_of_ble_eq_true rfl)
  have N2 := Fr.snoc X2 N0 (own_ge O0 (Nat.le_of_eq z1.symm))
  refine hG _ _ (fun t_ k_ => XS.dup X2.here hx rfl (hb hby d13_13) rfl rfl k_) ?_
  refine hG _ _ (fun t_ k_ => XS.iconst X2.here hx rfl (hb hby d13_14) k_) ?_
  refine hG _ _ (fun t_ k_ => XS.bipush X2.here hx rfl (hb hby d13_15) k_) ?_
  obtain ⟨c3, Ar3, q3, S3, M3, H3, G3⟩ := id V2
  obtain ⟨T3, h3, X3, e3, W3, st3⟩ := stC X2 hx hZ e2 Ar3 (j := (1 : Int32)) (inb_of S3 ⟨by decide, by decide⟩) (g := (mkF m 17 #[oi 0] [(.int 111), (.int 1), (.ref b1), (.ref b1)])) rfl rfl (hb hby d13_17)
  refine hG _ _ st3 ?_
  have K3 : Keep h0 h3 [] := K2.wr W3 (Or.inr (Nat.le_trans (Keep.refl h0 []).1 (Nat.le_of_eq z1.symm)))
  have O3 : own_Old Z h3 := O2.wr W3 (own_ge O0 (Nat.le_of_eq z1.symm))
  rw [own_narC (by decide)] at W3
  have V3 : Arv Z h3 b1 k1 .char (7 : Int32) [(.int 99), (.int 111), (.int 0), (.int 0), (.int 0), (.int 0), (.int 0)] (.int 0) := Arv.set Ar3 q3 S3 M3 H3 G3 (own_fitC (by decide)) W3 1 rfl (Nat.le_of_ble_eq_true rfl)
  have N3 := Fr.snoc X3 N2 (own_ge O0 (Nat.le_of_eq z1.symm))
  refine hG _ _ (fun t_ k_ => XS.dup X3.here hx rfl (hb hby d13_18) rfl rfl k_) ?_
  refine hG _ _ (fun t_ k_ => XS.iconst X3.here hx rfl (hb hby d13_19) k_) ?_
  refine hG _ _ (fun t_ k_ => XS.bipush X3.here hx rfl (hb hby d13_20) k_) ?_
  obtain ⟨c4, Ar4, q4, S4, M4, H4, G4⟩ := id V3
  obtain ⟨T4, h4, X4, e4, W4, st4⟩ := stC X3 hx hZ e3 Ar4 (j := (2 : Int32)) (inb_of S4 ⟨by decide, by decide⟩) (g := (mkF m 22 #[oi 0] [(.int 110), (.int 2), (.ref b1), (.ref b1)])) rfl rfl (hb hby d13_22)
  refine hG _ _ st4 ?_
  have K4 : Keep h0 h4 [] := K3.wr W4 (Or.inr (Nat.le_trans (Keep.refl h0 []).1 (Nat.le_of_eq z1.symm)))
  have O4 : own_Old Z h4 := O3.wr W4 (own_ge O0 (Nat.le_of_eq z1.symm))
  rw [own_narC (by decide)] at W4
  have V4 : Arv Z h4 b1 k1 .char (7 : Int32) [(.int 99), (.int 111), (.int 110), (.int 0), (.int 0), (.int 0), (.int 0)] (.int 0) := Arv.set Ar4 q4 S4 M4 H4 G4 (own_fitC (by decide)) W4 2 rfl (Nat.le_of_ble_eq_true rfl)
  have N4 := Fr.snoc X4 N3 (own_ge O0 (Nat.le_of_eq z1.symm))
  refine hG _ _ (fun t_ k_ => XS.dup X4.here hx rfl (hb hby d13_23) rfl rfl k_) ?_
  refine hG _ _ (fun t_ k_ => XS.iconst X4.here hx rfl (hb hby d13_24) k_) ?_
  refine hG _ _ (fun t_ k_ => XS.bipush X4.here hx rfl (hb hby d13_25) k_) ?_
  show G (T4.setTop (mkF m 27 #[oi 0] [(.int 110), (.int 3), (.ref b1), (.ref b1)]))
  obtain ⟨c5, Ar5, q5, S5, M5, H5, G5⟩ := id V4
  obtain ⟨T5, h5, X5, e5, W5, st5⟩ := stC X4 hx hZ e4 Ar5 (j := (3 : Int32)) (inb_of S5 ⟨by decide, by decide⟩) (g := (mkF m 27 #[oi 0] [(.int 110), (.int 3), (.ref b1), (.ref b1)])) rfl rfl (hb hby d13_27)
  refine hG _ _ st5 ?_
  have K5 : Keep h0 h5 [] := K4.wr W5 (Or.inr (Nat.le_trans (Keep.refl h0 []).1 (Nat.le_of_eq z1.symm)))
  have O5 : own_Old Z h5 := O4.wr W5 (own_ge O0 (Nat.le_of_eq z1.symm))
  rw [own_narC (by decide)] at W5
  have V5 : Arv Z h5 b1 k1 .char (7 : Int32) [(.int 99), (.int 111), (.int 110), (.int 110), (.int 0), (.int 0), (.int 0)] (.int 0) := Arv.set Ar5 q5 S5 M5 H5 G5 (own_fitC (by decide)) W5 3 rfl (Nat.le_of_ble_eq_true rfl)
  have N5 := Fr.snoc X5 N4 (own_ge O0 (Nat.le_of_eq z1.symm))
  refine hG _ _ (fun t_ k_ => XS.dup X5.here hx rfl (hb hby d13_28) rfl rfl k_) ?_
  refine hG _ _ (fun t_ k_ => XS.iconst X5.here hx rfl (hb hby d13_29) k_) ?_
  refine hG _ _ (fun t_ k_ => XS.bipush X5.here hx rfl (hb hby d13_30) k_) ?_
  obtain ⟨c6, Ar6, q6, S6, M6, H6, G6⟩ := id V5
  obtain ⟨T6, h6, X6, e6, W6, st6⟩ := stC X5 hx hZ e5 Ar6 (j := (4 : Int32)) (inb_of S6 ⟨by decide, by decide⟩) (g := (mkF m 32 #[oi 0] [(.int 101), (.int 4), (.ref b1), (.ref b1)])) rfl rfl (hb hby d13_32)
  refine hG _ _ st6 ?_
  have K6 : Keep h0 h6 [] := K5.wr W6 (Or.inr (Nat.le_trans (Keep.refl h0 []).1 (Nat.le_of_eq z1.symm)))
  have O6 : own_Old Z h6 := O5.wr W6 (own_ge O0 (Nat.le_of_eq z1.symm))
  rw [own_narC (by decide)] at W6
  have V6 : Arv Z h6 b1 k1 .char (7 : Int32) [(.int 99), (.int 111), (.int 110), (.int 110), (.int 101), (.int 0), (.int 0)] (.int 0) := Arv.set Ar6 q6 S6 M6 H6 G6 (own_fitC (by decide)) W6 4 rfl (Nat.le_of_ble_eq_true rfl)
  have N6 := Fr.snoc X6 N5 (own_ge O0 (Nat.le_of_eq z1.symm))
  refine hG _ _ (fun t_ k_ => XS.dup X6.here hx rfl (hb hby d13_33) rfl rfl k_) ?_
  refine hG _ _ (fun t_ k_ => XS.iconst X6.here hx rfl (hb hby d13_34) k_) ?_
  refine hG _ _ (fun t_ k_ => XS.bipush X6.here hx rfl (hb hby d13_35) k_) ?_
  obtain ⟨c7, Ar7, q7, S7, M7, H7, G7⟩ := id V6
  obtain ⟨T7, h7, X7, e7, W7, st7⟩ := stC X6 hx hZ e6 Ar7 (j := (5 : Int32)) (inb_of S7 ⟨by decide, by decide⟩) (g := (mkF m 37 #[oi 0] [(.int 99), (.int 5), (.ref b1), (.ref b1)])) rfl rfl (hb hby d13_37)
  refine hG _ _ st7 ?_
  have K7 : Keep h0 h7 [] := K6.wr W7 (Or.inr (Nat.le_trans (Keep.refl h0 []).1 (Nat.le_of_eq z1.symm)))
  have O7 : own_Old Z h7 := O6.wr W7 (own_ge O0 (Nat.le_of_eq z1.symm))
  rw [own_narC (by decide)] at W7
  have V7 : Arv Z h7 b1 k1 .char (7 : Int32) [(.int 99), (.int 111), (.int 110), (.int 110), (.int 101), (.int 99), (.int 0)] (.int 0) := Arv.set Ar7 q7 S7 M7 H7 G7 (own_fitC (by decide)) W7 5 rfl (Nat.le_of_ble_eq_true rfl)
  have N7 := Fr.snoc X7 N6 (own_ge O0 (Nat.le_of_eq z1.symm))
  refine hG _ _ (fun t_ k_ => XS.dup X7.here hx rfl (hb hby d13_38) rfl rfl k_) ?_
  refine hG _ _ (fun t_ k_ => XS.bipush X7.here hx rfl (hb hby d13_39) k_) ?_
  refine hG _ _ (fun t_ k_ => XS.bipush X7.here hx rfl (hb hby d13_41) k_) ?_
  obtain ⟨c8, Ar8, q8, S8, M8, H8, G8⟩ := id V7
  obtain ⟨T8, h8, X8, e8, W8, st8⟩ := stC X7 hx hZ e7 Ar8 (j := (6 : Int32)) (inb_of S8 ⟨by decide, by decide⟩) (g := (mkF m 43 #[oi 0] [(.int 116), (.int 6), (.ref b1), (.ref b1)])) rfl rfl (hb hby d13_43)
  refine hG _ _ st8 ?_
  have K8 : Keep h0 h8 [] := K7.wr W8 (Or.inr (Nat.le_trans (Keep.refl h0 []).1 (Nat.le_of_eq z1.symm)))
  have O8 : own_Old Z h8 := O7.wr W8 (own_ge O0 (Nat.le_of_eq z1.symm))
  rw [own_narC (by decide)] at W8
  have V8 : Arv Z h8 b1 k1 .char (7 : Int32) [(.int 99), (.int 111), (.int 110), (.int 110), (.int 101), (.int 99), (.int 116)] (.int 0) := Arv.set Ar8 q8 S8 M8 H8 G8 (own_fitC (by decide)) W8 6 rfl (Nat.le_of_ble_eq_true rfl)
  have N8 := Fr.snoc X8 N7 (own_ge O0 (Nat.le_of_eq z1.symm))
  show G (T8.setTop (mkF m 44 #[oi 0] [(.ref b1)]))
  exact own_retA hR hret rfl rfl X8 hx (hb hby d13_44) (by decide) (by decide) (by rw [e8]; exact ⟨b1, k1, rfl, N8, K8, (Nat.le_trans (Keep.refl h0 []).1 (Nat.le_of_eq z1.symm)), V8⟩)
theorem own_mk_cut_0 (l : Launch) (Z : State) (a0 : Array Value) (hw : ∀ d ∈ tables_1, d.before a0 Z = true) (h0 : Heap) (O0 : own_Old Z h0) :
    own_Con l Z (⟨"com/example/handlewright/handlewright/DomainStatusFindPinLaw", "cut", "(I)[C"⟩ : MethodName) method_6_code 1 (some (.array .char)) [] ({ frames := 0, cells := 1, slots := 6, locals := 0 } : Room) #[(.int 0)] h0 (fun rv rh rL => ∃ (u : Addr) (ku : ClassId), rv = some (.ref u) ∧ own_Fr Z rL ∧ Keep h0 rh [] ∧ h0.size ≤ u ∧ (Arv Z rh u ku .char (6 : Int32) [(.int 99), (.int 111), (.int 110), (.int 110), (.int 101), (.int 99)] (.int 0))) := by
  refine own_intro (plainFor_of_name (by first | (simp [plainName, overriddenIn]; done) | decide +kernel)) ?_
  intro p e s m below meth c s₁ G hx hby hml hown hnm hret hZ X0 e0 hG hR
  have N0 := Fr.nil Z.heap.size
  refine own_entry (Ls := #[.val (.int 0)]) (by first | (simp [entryFrame, mkF, argsToLocals, Value.category]; done) | rfl) ?_
  show G (s₁.setTop (mkF m 0 #[oi 0] []))
  refine hG _ _ (fun t_ k_ => XS.iloadN X0.here hx rfl (hb hby d16_0) rfl k_) ?_
  show G (s₁.setTop (mkF m 1 #[oi 0] [(.int 0)]))
  refine hG _ _ (fun t_ k_ => XS.ifNo X0.here hx rfl (hb hby d16_1) rfl ((if0 _ _).trans (teq (by decide)).2) k_) ?_
  show G (s₁.setTop (mkF m 4 #[oi 0] []))
  refine hG _ _ (fun t_ k_ => XS.bipush X0.here hx rfl (hb hby d16_4) k_) ?_
  obtain ⟨T1, h1, k1, X1, e1, E1, A1, st1⟩ := newP X0 hx hZ (ow hw 45 rfl) e0 (g := (mkF m 6 #[oi 0] [(.int 6)])) rfl (hb hby d16_6) rfl (by decide) (cap := 6) (by decide) (by decide) (by decide) (by decide)
  obtain ⟨b1, z1⟩ : ∃ z, z = h0.size := ⟨_, rfl⟩
  rw [← z1] at A1 st1
  refine hG _ _ st1 ?_
  have K1 : Keep h0 h1 [] := (Keep.refl h0 []).ext E1
  have O1 : own_Old Z h1 := O0.ext E1
  have V1 : Arv Z h1 b1 k1 .char (6 : Int32) [(.int 0), (.int 0), (.int 0), (.int 0), (.int 0), (.int 0)] (.int 0) := (Arv.new A1 (by decide)).pad (pad_rep [] (.int 0) 6)
  refine hG _ _ (fun t_ k_ => XS.dup X1.here hx rfl (hb hby d16_8) rfl rfl k_) ?_
  refine hG _ _ (fun t_ k_ => XS.iconst X1.here hx rfl (hb hby d16_9) k_) ?_
  refine hG _ _ (fun t_ k_ => XS.bipush X1.here hx rfl (hb hby d16_10) k_) ?_
  obtain ⟨c2, Ar2, q2, S2, M2, H2, G2⟩ := id V1
  obtain ⟨T2, h2, X2, e2, W2, st2⟩ := stC X1 hx hZ e1 Ar2 (j := (0 : Int32)) (inb_of S2 ⟨by decide, by decide⟩) (g := (mkF m 12 #[oi 0] [(.int 99), (.int 0), (.ref b1), (.ref b1)])) rfl rfl (hb hby d16_12)
  refine hG _ _ st2 ?_
  have K2 : Keep h0 h2 [] := K1.wr W2 (Or.inr (Nat.le_trans (Keep.refl h0 []).1 (Nat.le_of_eq z1.symm)))
  have O2 : own_Old Z h2 := O1.wr W2 (own_ge O0 (Nat.le_of_eq z1.symm))
  rw [own_narC (by decide)] at W2
  have V2 : Arv Z h2 b1 k1 .char (6 : Int32) [(.int 99), (.int 0), (.int 0), (.int 0), (.int 0), (.int 0)] (.int 0) := Arv.set Ar2 q2 S2 M2 H2 G2 (own_fitC (by decide)) W2 0 rfl (Nat.le_of_ble_eq_true rfl)
  have N2 := Fr.snoc X2 N0 (own_ge O0 (Nat.le_of_eq z1.symm))
  refine hG _ _ (fun t_ k_ => XS.dup X2.here hx rfl (hb hby d16_13) rfl rfl k_) ?_
  refine hG _ _ (fun t_ k_ => XS.iconst X2.here hx rfl (hb hby d16_14) k_) ?_
  refine hG _ _ (fun t_ k_ => XS.bipush X2.here hx rfl (hb hby d16_15) k_) ?_
  obtain ⟨c3, Ar3, q3, S3, M3, H3, G3⟩ := id V2
  obtain ⟨T3, h3, X3, e3, W3, st3⟩ := stC X2 hx hZ e2 Ar3 (j := (1 : Int32)) (inb_of S3 ⟨by decide, by decide⟩) (g := (mkF m 17 #[oi 0] [(.int 111), (.int 1), (.ref b1), (.ref b1)])) rfl rfl (hb hby d16_17)
  refine hG _ _ st3 ?_
  have K3 : Keep h0 h3 [] := K2.wr W3 (Or.inr (Nat.le_trans (Keep.refl h0 []).1 (Nat.le_of_eq z1.symm)))
  have O3 : own_Old Z h3 := O2.wr W3 (own_ge O0 (Nat.le_of_eq z1.symm))
  rw [own_narC (by decide)] at W3
  have V3 : Arv Z h3 b1 k1 .char (6 : Int32) [(.int 99), (.int 111), (.int 0), (.int 0), (.int 0), (.int 0)] (.int 0) := Arv.set Ar3 q3 S3 M3 H3 G3 (own_fitC (by decide)) W3 1 rfl (Nat.le_of_ble_eq_true rfl)
  have N3 := Fr.snoc X3 N2 (own_ge O0 (Nat.le_of_eq z1.symm))
  refine hG _ _ (fun t_ k_ => XS.dup X3.here hx rfl (hb hby d16_18) rfl rfl k_) ?_
  refine hG _ _ (fun t_ k_ => XS.iconst X3.here hx rfl (hb hby d16_19) k_) ?_
  refine hG _ _ (fun t_ k_ => XS.bipush X3.here hx rfl (hb hby d16_20) k_) ?_
  obtain ⟨c4, Ar4, q4, S4, M4, H4, G4⟩ := id V3
  obtain ⟨T4, h4, X4, e4, W4, st4⟩ := stC X3 hx hZ e3 Ar4 (j := (2 : Int32)) (inb_of S4 ⟨by decide, by decide⟩) (g := (mkF m 22 #[oi 0] [(.int 110), (.int 2), (.ref b1), (.ref b1)])) rfl rfl (hb hby d16_22)
  refine hG _ _ st4 ?_
  have K4 : Keep h0 h4 [] := K3.wr W4 (Or.inr (Nat.le_trans (Keep.refl h0 []).1 (Nat.le_of_eq z1.symm)))
  have O4 : own_Old Z h4 := O3.wr W4 (own_ge O0 (Nat.le_of_eq z1.symm))
  rw [own_narC (by decide)] at W4
  have V4 : Arv Z h4 b1 k1 .char (6 : Int32) [(.int 99), (.int 111), (.int 110), (.int 0), (.int 0), (.int 0)] (.int 0) := Arv.set Ar4 q4 S4 M4 H4 G4 (own_fitC (by decide)) W4 2 rfl (Nat.le_of_ble_eq_true rfl)
  have N4 := Fr.snoc X4 N3 (own_ge O0 (Nat.le_of_eq z1.symm))
  refine hG _ _ (fun t_ k_ => XS.dup X4.here hx rfl (hb hby d16_23) rfl rfl k_) ?_
  refine hG _ _ (fun t_ k_ => XS.iconst X4.here hx rfl (hb hby d16_24) k_) ?_
  refine hG _ _ (fun t_ k_ => XS.bipush X4.here hx rfl (hb hby d16_25) k_) ?_
  show G (T4.setTop (mkF m 27 #[oi 0] [(.int 110), (.int 3), (.ref b1), (.ref b1)]))
  obtain ⟨c5, Ar5, q5, S5, M5, H5, G5⟩ := id V4
  obtain ⟨T5, h5, X5, e5, W5, st5⟩ := stC X4 hx hZ e4 Ar5 (j := (3 : Int32)) (inb_of S5 ⟨by decide, by decide⟩) (g := (mkF m 27 #[oi 0] [(.int 110), (.int 3), (.ref b1), (.ref b1)])) rfl rfl (hb hby d16_27)
  refine hG _ _ st5 ?_
  have K5 : Keep h0 h5 [] := K4.wr W5 (Or.inr (Nat.le_trans (Keep.refl h0 []).1 (Nat.le_of_eq z1.symm)))
  have O5 : own_Old Z h5 := O4.wr W5 (own_ge O0 (Nat.le_of_eq z1.symm))
  rw [own_narC (by decide)] at W5
  have V5 : Arv Z h5 b1 k1 .char (6 : Int32) [(.int 99), (.int 111), (.int 110), (.int 110), (.int 0), (.int 0)] (.int 0) := Arv.set Ar5 q5 S5 M5 H5 G5 (own_fitC (by decide)) W5 3 rfl (Nat.le_of_ble_eq_true rfl)
  have N5 := Fr.snoc X5 N4 (own_ge O0 (Nat.le_of_eq z1.symm))
  refine hG _ _ (fun t_ k_ => XS.dup X5.here hx rfl (hb hby d16_28) rfl rfl k_) ?_
  refine hG _ _ (fun t_ k_ => XS.iconst X5.here hx rfl (hb hby d16_29) k_) ?_
  refine hG _ _ (fun t_ k_ => XS.bipush X5.here hx rfl (hb hby d16_30) k_) ?_
  obtain ⟨c6, Ar6, q6, S6, M6, H6, G6⟩ := id V5
  obtain ⟨T6, h6, X6, e6, W6, st6⟩ := stC X5 hx hZ e5 Ar6 (j := (4 : Int32)) (inb_of S6 ⟨by decide, by decide⟩) (g := (mkF m 32 #[oi 0] [(.int 101), (.int 4), (.ref b1), (.ref b1)])) rfl rfl (hb hby d16_32)
  refine hG _ _ st6 ?_
  have K6 : Keep h0 h6 [] := K5.wr W6 (Or.inr (Nat.le_trans (Keep.refl h0 []).1 (Nat.le_of_eq z1.symm)))
  have O6 : own_Old Z h6 := O5.wr W6 (own_ge O0 (Nat.le_of_eq z1.symm))
  rw [own_narC (by decide)] at W6
  have V6 : Arv Z h6 b1 k1 .char (6 : Int32) [(.int 99), (.int 111), (.int 110), (.int 110), (.int 101), (.int 0)] (.int 0) := Arv.set Ar6 q6 S6 M6 H6 G6 (own_fitC (by decide)) W6 4 rfl (Nat.le_of_ble_eq_true rfl)
  have N6 := Fr.snoc X6 N5 (own_ge O0 (Nat.le_of_eq z1.symm))
  refine hG _ _ (fun t_ k_ => XS.dup X6.here hx rfl (hb hby d16_33) rfl rfl k_) ?_
  refine hG _ _ (fun t_ k_ => XS.iconst X6.here hx rfl (hb hby d16_34) k_) ?_
  refine hG _ _ (fun t_ k_ => XS.bipush X6.here hx rfl (hb hby d16_35) k_) ?_
  obtain ⟨c7, Ar7, q7, S7, M7, H7, G7⟩ := id V6
  obtain ⟨T7, h7, X7, e7, W7, st7⟩ := stC X6 hx hZ e6 Ar7 (j := (5 : Int32)) (inb_of S7 ⟨by decide, by decide⟩) (g := (mkF m 37 #[oi 0] [(.int 99), (.int 5), (.ref b1), (.ref b1)])) rfl rfl (hb hby d16_37)
  refine hG _ _ st7 ?_
  have K7 : Keep h0 h7 [] := K6.wr W7 (Or.inr (Nat.le_trans (Keep.refl h0 []).1 (Nat.le_of_eq z1.symm)))
  have O7 : own_Old Z h7 := O6.wr W7 (own_ge O0 (Nat.le_of_eq z1.symm))
  rw [own_narC (by decide)] at W7
  have V7 : Arv Z h7 b1 k1 .char (6 : Int32) [(.int 99), (.int 111), (.int 110), (.int 110), (.int 101), (.int 99)] (.int 0) := Arv.set Ar7 q7 S7 M7 H7 G7 (own_fitC (by decide)) W7 5 rfl (Nat.le_of_ble_eq_true rfl)
  have N7 := Fr.snoc X7 N6 (own_ge O0 (Nat.le_of_eq z1.symm))
  show G (T7.setTop (mkF m 38 #[oi 0] [(.ref b1)]))
  exact own_retA hR hret rfl rfl X7 hx (hb hby d16_38) (by decide) (by decide) (by rw [e7]; exact ⟨b1, k1, rfl, N7, K7, (Nat.le_trans (Keep.refl h0 []).1 (Nat.le_of_eq z1.symm)), V7⟩)
theorem own_pd15 : parseMethodDescriptor "(IC)[C" = some ⟨[.int, .char], some (.array .char)⟩ := by decide +kernel
theorem own_mk_ext_0 (l : Launch) (Z : State) (a0 : Array Value) (hw : ∀ d ∈ tables_1, d.before a0 Z = true) (ch : Int32) (h0 : Heap) (O0 : own_Old Z h0) (g0_hch : 0 ≤ ch.toInt ∧ ch.toInt ≤ 65535) :
    own_Con l Z (⟨"com/example/handlewright/handlewright/DomainStatusFindPinLaw", "ext", "(IC)[C"⟩ : MethodName) method_4_code 2 (some (.array .char)) [] ({ frames := 0, cells := 1, slots := 8, locals := 0 } : Room) #[(.int 0), (.int ch)] h0 (fun rv rh rL => ∃ (u : Addr) (ku : ClassId), rv = some (.ref u) ∧ own_Fr Z rL ∧ Keep h0 rh [] ∧ h0.size ≤ u ∧ (Arv Z rh u ku .char (8 : Int32) [(.int 99), (.int 111), (.int 110), (.int 110), (.int 101), (.int 99), (.int 116), (.int ch)] (.int 0))) := by
  refine own_intro (plainFor_of_name (by first | (simp [plainName, overriddenIn]; done) | decide +kernel)) ?_
  intro p e s m below meth c s₁ G hx hby hml hown hnm hret hZ X0 e0 hG hR
  have N0 := Fr.nil Z.heap.size
  refine own_entry (Ls := #[.val (.int 0), .val (.int ch)]) (by first | (simp [entryFrame, mkF, argsToLocals, Value.category]; done) | rfl) ?_
  show G (s₁.setTop (mkF m 0 #[oi 0, oi ch] []))
  refine hG _ _ (fun t_ k_ => XS.iloadN X0.here hx rfl (hb hby d14_0) rfl k_) ?_
  show G (s₁.setTop (mkF m 1 #[oi 0, oi ch] [(.int 0)]))
  refine hG _ _ (fun t_ k_ => XS.ifNo X0.here hx rfl (hb hby d14_1) rfl ((if0 _ _).trans (teq (by decide)).2) k_) ?_
  show G (s₁.setTop (mkF m 4 #[oi 0, oi ch] []))
  refine hG _ _ (fun t_ k_ => XS.bipush X0.here hx rfl (hb hby d14_4) k_) ?_
  obtain ⟨T1, h1, k1, X1, e1, E1, A1, st1⟩ := newP X0 hx hZ (ow hw 45 rfl) e0 (g := (mkF m 6 #[oi 0, oi ch] [(.int 8)])) rfl (hb hby d14_6) rfl (by decide) (cap := 8) (by decide) (by decide) (by decide) (by decide)
  obtain ⟨b1, z1⟩ : ∃ z, z = h0.size := ⟨_, rfl⟩
  rw [← z1] at A1 st1
  refine hG _ _ st1 ?_
  have K1 : Keep h0 h1 [] := (Keep.refl h0 []).ext E1
  have O1 : own_Old Z h1 := O0.ext E1
  have V1 : Arv Z h1 b1 k1 .char (8 : Int32) [(.int 0), (.int 0), (.int 0), (.int 0), (.int 0), (.int 0), (.int 0), (.int 0)] (.int 0) := (Arv.new A1 (by decide)).pad (pad_rep [] (.int 0) 8)
  refine hG _ _ (fun t_ k_ => XS.dup X1.here hx rfl (hb hby d14_8) rfl rfl k_) ?_
  refine hG _ _ (fun t_ k_ => XS.iconst X1.here hx rfl (hb hby d14_9) k_) ?_
  refine hG _ _ (fun t_ k_ => XS.bipush X1.here hx rfl (hb hby d14_10) k_) ?_
  obtain ⟨c2, Ar2, q2, S2, M2, H2, G2⟩ := id V1
  obtain ⟨T2, h2, X2, e2, W2, st2⟩ := stC X1 hx hZ e1 Ar2 (j := (0 : Int32)) (inb_of S2 ⟨by decide, by decide⟩) (g := (mkF m 12 #[oi 0, oi ch] [(.int 99), (.int 0), (.ref b1), (.ref b1)])) rfl rfl (hb hby d14_12)
  refine hG _ _ st2 ?_
  have K2 : Keep h0 h2 [] := K1.wr W2 (Or.inr (Nat.le_trans (Keep.refl h0 []).1 (Nat.le_of_eq z1.symm)))
  have O2 : own_Old Z h2 := O1.wr W2 (own_ge O0 (Nat.le_of_eq z1.symm))
  rw [own_narC (by decide)] at W2
  have V2 : Arv Z h2 b1 k1 .char (8 : Int32) [(.int 99), (.int 0), (.int 0), (.int 0), (.int 0), (.int 0), (.int 0), (.int 0)] (.int 0) := Arv.set Ar2 q2 S2 M2 H2 G2 (own_fitC (by decide)) W2 0 rfl (Nat.le_of_ble_eq_true rfl)
  have N2 := Fr.snoc X2 N0 (own_ge O0 (Nat.le_of_eq z1.symm))
  refine hG _ _ (fun t_ k_ => XS.dup X2.here hx rfl (hb hby d14_13) rfl rfl k_) ?_
  refine hG _ _ (fun t_ k_ => XS.iconst X2.here hx rfl (hb hby d14_14) k_) ?_
  refine hG _ _ (fun t_ k_ => XS.bipush X2.here hx rfl (hb hby d14_15) k_) ?_
  obtain ⟨c3, Ar3, q3, S3, M3, H3, G3⟩ := id V2
  obtain ⟨T3, h3, X3, e3, W3, st3⟩ := stC X2 hx hZ e2 Ar3 (j := (1 : Int32)) (inb_of S3 ⟨by decide, by decide⟩) (g := (mkF m 17 #[oi 0, oi ch] [(.int 111), (.int 1), (.ref b1), (.ref b1)])) rfl rfl (hb hby d14_17)
  refine hG _ _ st3 ?_
  have K3 : Keep h0 h3 [] := K2.wr W3 (Or.inr (Nat.le_trans (Keep.refl h0 []).1 (Nat.le_of_eq z1.symm)))
  have O3 : own_Old Z h3 := O2.wr W3 (own_ge O0 (Nat.le_of_eq z1.symm))
  rw [own_narC (by decide)] at W3
  have V3 : Arv Z h3 b1 k1 .char (8 : Int32) [(.int 99), (.int 111), (.int 0), (.int 0), (.int 0), (.int 0), (.int 0), (.int 0)] (.int 0) := Arv.set Ar3 q3 S3 M3 H3 G3 (own_fitC (by decide)) W3 1 rfl (Nat.le_of_ble_eq_true rfl)
  have N3 := Fr.snoc X3 N2 (own_ge O0 (Nat.le_of_eq z1.symm))
  refine hG _ _ (fun t_ k_ => XS.dup X3.here hx rfl (hb hby d14_18) rfl rfl k_) ?_
  refine hG _ _ (fun t_ k_ => XS.iconst X3.here hx rfl (hb hby d14_19) k_) ?_
  refine hG _ _ (fun t_ k_ => XS.bipush X3.here hx rfl (hb hby d14_20) k_) ?_
  obtain ⟨c4, Ar4, q4, S4, M4, H4, G4⟩ := id V3
  obtain ⟨T4, h4, X4, e4, W4, st4⟩ := stC X3 hx hZ e3 Ar4 (j := (2 : Int32)) (inb_of S4 ⟨by decide, by decide⟩) (g := (mkF m 22 #[oi 0, oi ch] [(.int 110), (.int 2), (.ref b1), (.ref b1)])) rfl rfl (hb hby d14_22)
  refine hG _ _ st4 ?_
  have K4 : Keep h0 h4 [] := K3.wr W4 (Or.inr (Nat.le_trans (Keep.refl h0 []).1 (Nat.le_of_eq z1.symm)))
  have O4 : own_Old Z h4 := O3.wr W4 (own_ge O0 (Nat.le_of_eq z1.symm))
  rw [own_narC (by decide)] at W4
  have V4 : Arv Z h4 b1 k1 .char (8 : Int32) [(.int 99), (.int 111), (.int 110), (.int 0), (.int 0), (.int 0), (.int 0), (.int 0)] (.int 0) := Arv.set Ar4 q4 S4 M4 H4 G4 (own_fitC (by decide)) W4 2 rfl (Nat.le_of_ble_eq_true rfl)
  have N4 := Fr.snoc X4 N3 (own_ge O0 (Nat.le_of_eq z1.symm))
  refine hG _ _ (fun t_ k_ => XS.dup X4.here hx rfl (hb hby d14_23) rfl rfl k_) ?_
  refine hG _ _ (fun t_ k_ => XS.iconst X4.here hx rfl (hb hby d14_24) k_) ?_
  refine hG _ _ (fun t_ k_ => XS.bipush X4.here hx rfl (hb hby d14_25) k_) ?_
  show G (T4.setTop (mkF m 27 #[oi 0, oi ch] [(.int 110), (.int 3), (.ref b1), (.ref b1)]))
  obtain ⟨c5, Ar5, q5, S5, M5, H5, G5⟩ := id V4
  obtain ⟨T5, h5, X5, e5, W5, st5⟩ := stC X4 hx hZ e4 Ar5 (j := (3 : Int32)) (inb_of S5 ⟨by decide, by decide⟩) (g := (mkF m 27 #[oi 0, oi ch] [(.int 110), (.int 3), (.ref b1), (.ref b1)])) rfl rfl (hb hby d14_27)
  refine hG _ _ st5 ?_
  have K5 : Keep h0 h5 [] := K4.wr W5 (Or.inr (Nat.le_trans (Keep.refl h0 []).1 (Nat.le_of_eq z1.symm)))
  have O5 : own_Old Z h5 := O4.wr W5 (own_ge O0 (Nat.le_of_eq z1.symm))
  rw [own_narC (by decide)] at W5
  have V5 : Arv Z h5 b1 k1 .char (8 : Int32) [(.int 99), (.int 111), (.int 110), (.int 110), (.int 0), (.int 0), (.int 0), (.int 0)] (.int 0) := Arv.set Ar5 q5 S5 M5 H5 G5 (own_fitC (by decide)) W5 3 rfl (Nat.le_of_ble_eq_true rfl)
  have N5 := Fr.snoc X5 N4 (own_ge O0 (Nat.le_of_eq z1.symm))
  refine hG _ _ (fun t_ k_ => XS.dup X5.here hx rfl (hb hby d14_28) rfl rfl k_) ?_
  refine hG _ _ (fun t_ k_ => XS.iconst X5.here hx rfl (hb hby d14_29) k_) ?_
  refine hG _ _ (fun t_ k_ => XS.bipush X5.here hx rfl (hb hby d14_30) k_) ?_
  obtain ⟨c6, Ar6, q6, S6, M6, H6, G6⟩ := id V5
  obtain ⟨T6, h6, X6, e6, W6, st6⟩ := stC X5 hx hZ e5 Ar6 (j := (4 : Int32)) (inb_of S6 ⟨by decide, by decide⟩) (g := (mkF m 32 #[oi 0, oi ch] [(.int 101), (.int 4), (.ref b1), (.ref b1)])) rfl rfl (hb hby d14_32)
  refine hG _ _ st6 ?_
  have K6 : Keep h0 h6 [] := K5.wr W6 (Or.inr (Nat.le_trans (Keep.refl h0 []).1 (Nat.le_of_eq z1.symm)))
  have O6 : own_Old Z h6 := O5.wr W6 (own_ge O0 (Nat.le_of_eq z1.symm))
  rw [own_narC (by decide)] at W6
  have V6 : Arv Z h6 b1 k1 .char (8 : Int32) [(.int 99), (.int 111), (.int 110), (.int 110), (.int 101), (.int 0), (.int 0), (.int 0)] (.int 0) := Arv.set Ar6 q6 S6 M6 H6 G6 (own_fitC (by decide)) W6 4 rfl (Nat.le_of_ble_eq_true rfl)
  have N6 := Fr.snoc X6 N5 (own_ge O0 (Nat.le_of_eq z1.symm))
  refine hG _ _ (fun t_ k_ => XS.dup X6.here hx rfl (hb hby d14_33) rfl rfl k_) ?_
  refine hG _ _ (fun t_ k_ => XS.iconst X6.here hx rfl (hb hby d14_34) k_) ?_
  refine hG _ _ (fun t_ k_ => XS.bipush X6.here hx rfl (hb hby d14_35) k_) ?_
  obtain ⟨c7, Ar7, q7, S7, M7, H7, G7⟩ := id V6
  obtain ⟨T7, h7, X7, e7, W7, st7⟩ := stC X6 hx hZ e6 Ar7 (j := (5 : Int32)) (inb_of S7 ⟨by decide, by decide⟩) (g := (mkF m 37 #[oi 0, oi ch] [(.int 99), (.int 5), (.ref b1), (.ref b1)])) rfl rfl (hb hby d14_37)
  refine hG _ _ st7 ?_
  have K7 : Keep h0 h7 [] := K6.wr W7 (Or.inr (Nat.le_trans (Keep.refl h0 []).1 (Nat.le_of_eq z1.symm)))
  have O7 : own_Old Z h7 := O6.wr W7 (own_ge O0 (Nat.le_of_eq z1.symm))
  rw [own_narC (by decide)] at W7
  have V7 : Arv Z h7 b1 k1 .char (8 : Int32) [(.int 99), (.int 111), (.int 110), (.int 110), (.int 101), (.int 99), (.int 0), (.int 0)] (.int 0) := Arv.set Ar7 q7 S7 M7 H7 G7 (own_fitC (by decide)) W7 5 rfl (Nat.le_of_ble_eq_true rfl)
  have N7 := Fr.snoc X7 N6 (own_ge O0 (Nat.le_of_eq z1.symm))
  refine hG _ _ (fun t_ k_ => XS.dup X7.here hx rfl (hb hby d14_38) rfl rfl k_) ?_
  refine hG _ _ (fun t_ k_ => XS.bipush X7.here hx rfl (hb hby d14_39) k_) ?_
  refine hG _ _ (fun t_ k_ => XS.bipush X7.here hx rfl (hb hby d14_41) k_) ?_
  obtain ⟨c8, Ar8, q8, S8, M8, H8, G8⟩ := id V7
  obtain ⟨T8, h8, X8, e8, W8, st8⟩ := stC X7 hx hZ e7 Ar8 (j := (6 : Int32)) (inb_of S8 ⟨by decide, by decide⟩) (g := (mkF m 43 #[oi 0, oi ch] [(.int 116), (.int 6), (.ref b1), (.ref b1)])) rfl rfl (hb hby d14_43)
  refine hG _ _ st8 ?_
  have K8 : Keep h0 h8 [] := K7.wr W8 (Or.inr (Nat.le_trans (Keep.refl h0 []).1 (Nat.le_of_eq z1.symm)))
  have O8 : own_Old Z h8 := O7.wr W8 (own_ge O0 (Nat.le_of_eq z1.symm))
  rw [own_narC (by decide)] at W8
  have V8 : Arv Z h8 b1 k1 .char (8 : Int32) [(.int 99), (.int 111), (.int 110), (.int 110), (.int 101), (.int 99), (.int 116), (.int 0)] (.int 0) := Arv.set Ar8 q8 S8 M8 H8 G8 (own_fitC (by decide)) W8 6 rfl (Nat.le_of_ble_eq_true rfl)
  have N8 := Fr.snoc X8 N7 (own_ge O0 (Nat.le_of_eq z1.symm))
  refine hG _ _ (fun t_ k_ => XS.dup X8.here hx rfl (hb hby d14_44) rfl rfl k_) ?_
  refine hG _ _ (fun t_ k_ => XS.bipush X8.here hx rfl (hb hby d14_45) k_) ?_
  refine hG _ _ (fun t_ k_ => XS.iloadN X8.here hx rfl (hb hby d14_47) rfl k_) ?_
  obtain ⟨c9, Ar9, q9, S9, M9, H9, G9⟩ := id V8
  obtain ⟨T9, h9, X9, e9, W9, st9⟩ := stC X8 hx hZ e8 Ar9 (j := (7 : Int32)) (inb_of S9 ⟨by decide, by decide⟩) (g := (mkF m 48 #[oi 0, oi ch] [(.int ch), (.int 7), (.ref b1), (.ref b1)])) rfl rfl (hb hby d14_48)
  refine hG _ _ st9 ?_
  have K9 : Keep h0 h9 [] := K8.wr W9 (Or.inr (Nat.le_trans (Keep.refl h0 []).1 (Nat.le_of_eq z1.symm)))
  have O9 : own_Old Z h9 := O8.wr W9 (own_ge O0 (Nat.le_of_eq z1.symm))
  rw [own_narC g0_hch] at W9
  have V9 : Arv Z h9 b1 k1 .char (8 : Int32) [(.int 99), (.int 111), (.int 110), (.int 110), (.int 101), (.int 99), (.int 116), (.int ch)] (.int 0) := Arv.set Ar9 q9 S9 M9 H9 G9 (own_fitC g0_hch) W9 7 rfl (Nat.le_of_ble_eq_true rfl)
  have N9 := Fr.snoc X9 N8 (own_ge O0 (Nat.le_of_eq z1.symm))
  show G (T9.setTop (mkF m 49 #[oi 0, oi ch] [(.ref b1)]))
  exact own_retA hR hret rfl rfl X9 hx (hb hby d14_49) (by decide) (by decide) (by rw [e9]; exact ⟨b1, k1, rfl, N9, K9, (Nat.le_trans (Keep.refl h0 []).1 (Nat.le_of_eq z1.symm)), V9⟩)
theorem own_mk_pre_0 (l : Launch) (Z : State) (a0 : Array Value) (hw : ∀ d ∈ tables_1, d.before a0 Z = true) (ch : Int32) (h0 : Heap) (O0 : own_Old Z h0) (g0_hch : 0 ≤ ch.toInt ∧ ch.toInt ≤ 65535) :
    own_Con l Z (⟨"com/example/handlewright/handlewright/DomainStatusFindPinLaw", "pre", "(IC)[C"⟩ : MethodName) method_5_code 2 (some (.array .char)) [] ({ frames := 0, cells := 1, slots := 8, locals := 0 } : Room) #[(.int 0), (.int ch)] h0 (fun rv rh rL => ∃ (u : Addr) (ku : ClassId), rv = some (.ref u) ∧ own_Fr Z rL ∧ Keep h0 rh [] ∧ h0.size ≤ u ∧ (Arv Z rh u ku .char (8 : Int32) [(.int ch), (.int 99), (.int 111), (.int 110), (.int 110), (.int 101), (.int 99), (.int 116)] (.int 0))) := by
  refine own_intro (plainFor_of_name (by first | (simp [plainName, overriddenIn]; done) | decide +kernel)) ?_
  intro p e s m below meth c s₁ G hx hby hml hown hnm hret hZ X0 e0 hG hR
  have N0 := Fr.nil Z.heap.size
  refine own_entry (Ls := #[.val (.int 0), .val (.int ch)]) (by first | (simp [entryFrame, mkF, argsToLocals, Value.category]; done) | rfl) ?_
  show G (s₁.setTop (mkF m 0 #[oi 0, oi ch] []))
  refine hG _ _ (fun t_ k_ => XS.iloadN X0.here hx rfl (hb hby d5_0) rfl k_) ?_
  show G (s₁.setTop (mkF m 1 #[oi 0, oi ch] [(.int 0)]))
  refine hG _ _ (fun t_ k_ => XS.ifNo X0.here hx rfl (hb hby d5_1) rfl ((if0 _ _).trans (teq (by decide)).2) k_) ?_
  show G (s₁.setTop (mkF m 4 #[oi 0, oi ch] []))
  refine hG _ _ (fun t_ k_ => XS.bipush X0.here hx rfl (hb hby d5_4) k_) ?_
  obtain ⟨T1, h1, k1, X1, e1, E1, A1, st1⟩ := newP X0 hx hZ (ow hw 45 rfl) e0 (g := (mkF m 6 #[oi 0, oi ch] [(.int 8)])) rfl (hb hby d5_6) rfl (by decide) (cap := 8) (by decide) (by decide) (by decide) (by decide)
  obtain ⟨b1, z1⟩ : ∃ z, z = h0.size := ⟨_, rfl⟩
  rw [← z1] at A1 st1
  refine hG _ _ st1 ?_
  have K1 : Keep h0 h1 [] := (Keep.refl h0 []).ext E1
  have O1 : own_Old Z h1 := O0.ext E1
  have V1 : Arv Z h1 b1 k1 .char (8 : Int32) [(.int 0), (.int 0), (.int 0), (.int 0), (.int 0), (.int 0), (.int 0), (.int 0)] (.int 0) := (Arv.new A1 (by decide)).pad (pad_rep [] (.int 0) 8)
  refine hG _ _ (fun t_ k_ => XS.dup X1.here hx rfl (hb hby d5_8) rfl rfl k_) ?_
  refine hG _ _ (fun t_ k_ => XS.iconst X1.here hx rfl (hb hby d5_9) k_) ?_
  refine hG _ _ (fun t_ k_ => XS.iloadN X1.here hx rfl (hb hby d5_10) rfl k_) ?_
  obtain ⟨c2, Ar2, q2, S2, M2, H2, G2⟩ := id V1
  obtain ⟨T2, h2, X2, e2, W2, st2⟩ := stC X1 hx hZ e1 Ar2 (j := (0 : Int32)) (inb_of S2 ⟨by decide, by decide⟩) (g := (mkF m 11 #[oi 0, oi ch] [(.int ch), (.int 0), (.ref b1), (.ref b1)])) rfl rfl (hb hby d5_11)
  refine hG _ _ st2 ?_
  have K2 : Keep h0 h2 [] := K1.wr W2 (Or.inr (Nat.le_trans (Keep.refl h0 []).1 (Nat.le_of_eq z1.symm)))
  have O2 : own_Old Z h2 := O1.wr W2 (own_ge O0 (Nat.le_of_eq z1.symm))
  rw [own_narC g0_hch] at W2
  have V2 : Arv Z h2 b1 k1 .char (8 : Int32) [(.int ch), (.int 0), (.int 0), (.int 0), (.int 0), (.int 0), (.int 0), (.int 0)] (.int 0) := Arv.set Ar2 q2 S2 M2 H2 G2 (own_fitC g0_hch) W2 0 rfl (Nat.le_of_ble_eq_true rfl)
  have N2 := Fr.snoc X2 N0 (own_ge O0 (Nat.le_of_eq z1.symm))
  refine hG _ _ (fun t_ k_ => XS.dup X2.here hx rfl (hb hby d5_12) rfl rfl k_) ?_
  refine hG _ _ (fun t_ k_ => XS.iconst X2.here hx rfl (hb hby d5_13) k_) ?_
  refine hG _ _ (fun t_ k_ => XS.bipush X2.here hx rfl (hb hby d5_14) k_) ?_
  obtain ⟨c3, Ar3, q3, S3, M3, H3, G3⟩ := id V2
  obtain ⟨T3, h3, X3, e3, W3, st3⟩ := stC X2 hx hZ e2 Ar3 (j := (1 : Int32)) (inb_of S3 ⟨by decide, by decide⟩) (g := (mkF m 16 #[oi 0, oi ch] [(.int 99), (.int 1), (.ref b1), (.ref b1)])) rfl rfl (hb hby d5_16)
  refine hG _ _ st3 ?_
  have K3 : Keep h0 h3 [] := K2.wr W3 (Or.inr (Nat.le_trans (Keep.refl h0 []).1 (Nat.le_of_eq z1.symm)))
  have O3 : own_Old Z h3 := O2.wr W3 (own_ge O0 (Nat.le_of_eq z1.symm))
  rw [own_narC (by decide)] at W3
  have V3 : Arv Z h3 b1 k1 .char (8 : Int32) [(.int ch), (.int 99), (.int 0), (.int 0), (.int 0), (.int 0), (.int 0), (.int 0)] (.int 0) := Arv.set Ar3 q3 S3 M3 H3 G3 (own_fitC (by decide)) W3 1 rfl (Nat.le_of_ble_eq_true rfl)
  have N3 := Fr.snoc X3 N2 (own_ge O0 (Nat.le_of_eq z1.symm))
  refine hG _ _ (fun t_ k_ => XS.dup X3.here hx rfl (hb hby d5_17) rfl rfl k_) ?_
  refine hG _ _ (fun t_ k_ => XS.iconst X3.here hx rfl (hb hby d5_18) k_) ?_
  refine hG _ _ (fun t_ k_ => XS.bipush X3.here hx rfl (hb hby d5_19) k_) ?_
  obtain ⟨c4, Ar4, q4, S4, M4, H4, G4⟩ := id V3
  obtain ⟨T4, h4, X4, e4, W4, st4⟩ := stC X3 hx hZ e3 Ar4 (j := (2 : Int32)) (inb_of S4 ⟨by decide, by decide⟩) (g := (mkF m 21 #[oi 0, oi ch] [(.int 111), (.int 2), (.ref b1), (.ref b1)])) rfl rfl (hb hby d5_21)
  refine hG _ _ st4 ?_
  have K4 : Keep h0 h4 [] := K3.wr W4 (Or.inr (Nat.le_trans (Keep.refl h0 []).1 (Nat.le_of_eq z1.symm)))
  have O4 : own_Old Z h4 := O3.wr W4 (own_ge O0 (Nat.le_of_eq z1.symm))
  rw [own_narC (by decide)] at W4
  have V4 : Arv Z h4 b1 k1 .char (8 : Int32) [(.int ch), (.int 99), (.int 111), (.int 0), (.int 0), (.int 0), (.int 0), (.int 0)] (.int 0) := Arv.set Ar4 q4 S4 M4 H4 G4 (own_fitC (by decide)) W4 2 rfl (Nat.le_of_ble_eq_true rfl)
  have N4 := Fr.snoc X4 N3 (own_ge O0 (Nat.le_of_eq z1.symm))
  refine hG _ _ (fun t_ k_ => XS.dup X4.here hx rfl (hb hby d5_22) rfl rfl k_) ?_
  refine hG _ _ (fun t_ k_ => XS.iconst X4.here hx rfl (hb hby d5_23) k_) ?_
  refine hG _ _ (fun t_ k_ => XS.bipush X4.here hx rfl (hb hby d5_24) k_) ?_
  show G (T4.setTop (mkF m 26 #[oi 0, oi ch] [(.int 110), (.int 3), (.ref b1), (.ref b1)]))
  obtain ⟨c5, Ar5, q5, S5, M5, H5, G5⟩ := id V4
  obtain ⟨T5, h5, X5, e5, W5, st5⟩ := stC X4 hx hZ e4 Ar5 (j := (3 : Int32)) (inb_of S5 ⟨by decide, by decide⟩) (g := (mkF m 26 #[oi 0, oi ch] [(.int 110), (.int 3), (.ref b1), (.ref b1)])) rfl rfl (hb hby d5_26)
  refine hG _ _ st5 ?_
  have K5 : Keep h0 h5 [] := K4.wr W5 (Or.inr (Nat.le_trans (Keep.refl h0 []).1 (Nat.le_of_eq z1.symm)))
  have O5 : own_Old Z h5 := O4.wr W5 (own_ge O0 (Nat.le_of_eq z1.symm))
  rw [own_narC (by decide)] at W5
  have V5 : Arv Z h5 b1 k1 .char (8 : Int32) [(.int ch), (.int 99), (.int 111), (.int 110), (.int 0), (.int 0), (.int 0), (.int 0)] (.int 0) := Arv.set Ar5 q5 S5 M5 H5 G5 (own_fitC (by decide)) W5 3 rfl (Nat.le_of_ble_eq_true rfl)
  have N5 := Fr.snoc X5 N4 (own_ge O0 (Nat.le_of_eq z1.symm))
  refine hG _ _ (fun t_ k_ => XS.dup X5.here hx rfl (hb hby d5_27) rfl rfl k_) ?_
  refine hG _ _ (fun t_ k_ => XS.iconst X5.here hx rfl (hb hby d5_28) k_) ?_
  refine hG _ _ (fun t_ k_ => XS.bipush X5.here hx rfl (hb hby d5_29) k_) ?_
  obtain ⟨c6, Ar6, q6, S6, M6, H6, G6⟩ := id V5
  obtain ⟨T6, h6, X6, e6, W6, st6⟩ := stC X5 hx hZ e5 Ar6 (j := (4 : Int32)) (inb_of S6 ⟨by decide, by decide⟩) (g := (mkF m 31 #[oi 0, oi ch] [(.int 110), (.int 4), (.ref b1), (.ref b1)])) rfl rfl (hb hby d5_31)
  refine hG _ _ st6 ?_
  have K6 : Keep h0 h6 [] := K5.wr W6 (Or.inr (Nat.le_trans (Keep.refl h0 []).1 (Nat.le_of_eq z1.symm)))
  have O6 : own_Old Z h6 := O5.wr W6 (own_ge O0 (Nat.le_of_eq z1.symm))
  rw [own_narC (by decide)] at W6
  have V6 : Arv Z h6 b1 k1 .char (8 : Int32) [(.int ch), (.int 99), (.int 111), (.int 110), (.int 110), (.int 0), (.int 0), (.int 0)] (.int 0) := Arv.set Ar6 q6 S6 M6 H6 G6 (own_fitC (by decide)) W6 4 rfl (Nat.le_of_ble_eq_true rfl)
  have N6 := Fr.snoc X6 N5 (own_ge O0 (Nat.le_of_eq z1.symm))
  refine hG _ _ (fun t_ k_ => XS.dup X6.here hx rfl (hb hby d5_32) rfl rfl k_) ?_
  refine hG _ _ (fun t_ k_ => XS.iconst X6.here hx rfl (hb hby d5_33) k_) ?_
  refine hG _ _ (fun t_ k_ => XS.bipush X6.here hx rfl (hb hby d5_34) k_) ?_
  obtain ⟨c7, Ar7, q7, S7, M7, H7, G7⟩ := id V6
  obtain ⟨T7, h7, X7, e7, W7, st7⟩ := stC X6 hx hZ e6 Ar7 (j := (5 : Int32)) (inb_of S7 ⟨by decide, by decide⟩) (g := (mkF m 36 #[oi 0, oi ch] [(.int 101), (.int 5), (.ref b1), (.ref b1)])) rfl rfl (hb hby d5_36)
  refine hG _ _ st7 ?_
  have K7 : Keep h0 h7 [] := K6.wr W7 (Or.inr (Nat.le_trans (Keep.refl h0 []).1 (Nat.le_of_eq z1.symm)))
  have O7 : own_Old Z h7 := O6.wr W7 (own_ge O0 (Nat.le_of_eq z1.symm))
  rw [own_narC (by decide)] at W7
  have V7 : Arv Z h7 b1 k1 .char (8 : Int32) [(.int ch), (.int 99), (.int 111), (.int 110), (.int 110), (.int 101), (.int 0), (.int 0)] (.int 0) := Arv.set Ar7 q7 S7 M7 H7 G7 (own_fitC (by decide)) W7 5 rfl (Nat.le_of_ble_eq_true rfl)
  have N7 := Fr.snoc X7 N6 (own_ge O0 (Nat.le_of_eq z1.symm))
  refine hG _ _ (fun t_ k_ => XS.dup X7.here hx rfl (hb hby d5_37) rfl rfl k_) ?_
  refine hG _ _ (fun t_ k_ => XS.bipush X7.here hx rfl (hb hby d5_38) k_) ?_
  refine hG _ _ (fun t_ k_ => XS.bipush X7.here hx rfl (hb hby d5_40) k_) ?_
  obtain ⟨c8, Ar8, q8, S8, M8, H8, G8⟩ := id V7
  obtain ⟨T8, h8, X8, e8, W8, st8⟩ := stC X7 hx hZ e7 Ar8 (j := (6 : Int32)) (inb_of S8 ⟨by decide, by decide⟩) (g := (mkF m 42 #[oi 0, oi ch] [(.int 99), (.int 6), (.ref b1), (.ref b1)])) rfl rfl (hb hby d5_42)
  refine hG _ _ st8 ?_
  have K8 : Keep h0 h8 [] := K7.wr W8 (Or.inr (Nat.le_trans (Keep.refl h0 []).1 (Nat.le_of_eq z1.symm)))
  have O8 : own_Old Z h8 := O7.wr W8 (own_ge O0 (Nat.le_of_eq z1.symm))
  rw [own_narC (by decide)] at W8
  have V8 : Arv Z h8 b1 k1 .char (8 : Int32) [(.int ch), (.int 99), (.int 111), (.int 110), (.int 110), (.int 101), (.int 99), (.int 0)] (.int 0) := Arv.set Ar8 q8 S8 M8 H8 G8 (own_fitC (by decide)) W8 6 rfl (Nat.le_of_ble_eq_true rfl)
  have N8 := Fr.snoc X8 N7 (own_ge O0 (Nat.le_of_eq z1.symm))
  refine hG _ _ (fun t_ k_ => XS.dup X8.here hx rfl (hb hby d5_43) rfl rfl k_) ?_
  refine hG _ _ (fun t_ k_ => XS.bipush X8.here hx rfl (hb hby d5_44) k_) ?_
  refine hG _ _ (fun t_ k_ => XS.bipush X8.here hx rfl (hb hby d5_46) k_) ?_
  obtain ⟨c9, Ar9, q9, S9, M9, H9, G9⟩ := id V8
  obtain ⟨T9, h9, X9, e9, W9, st9⟩ := stC X8 hx hZ e8 Ar9 (j := (7 : Int32)) (inb_of S9 ⟨by decide, by decide⟩) (g := (mkF m 48 #[oi 0, oi ch] [(.int 116), (.int 7), (.ref b1), (.ref b1)])) rfl rfl (hb hby d5_48)
  refine hG _ _ st9 ?_
  have K9 : Keep h0 h9 [] := K8.wr W9 (Or.inr (Nat.le_trans (Keep.refl h0 []).1 (Nat.le_of_eq z1.symm)))
  have O9 : own_Old Z h9 := O8.wr W9 (own_ge O0 (Nat.le_of_eq z1.symm))
  rw [own_narC (by decide)] at W9
  have V9 : Arv Z h9 b1 k1 .char (8 : Int32) [(.int ch), (.int 99), (.int 111), (.int 110), (.int 110), (.int 101), (.int 99), (.int 116)] (.int 0) := Arv.set Ar9 q9 S9 M9 H9 G9 (own_fitC (by decide)) W9 7 rfl (Nat.le_of_ble_eq_true rfl)
  have N9 := Fr.snoc X9 N8 (own_ge O0 (Nat.le_of_eq z1.symm))
  show G (T9.setTop (mkF m 49 #[oi 0, oi ch] [(.ref b1)]))
  exact own_retA hR hret rfl rfl X9 hx (hb hby d5_49) (by decide) (by decide) (by rw [e9]; exact ⟨b1, k1, rfl, N9, K9, (Nat.le_trans (Keep.refl h0 []).1 (Nat.le_of_eq z1.symm)), V9⟩)
theorem own_mk_lit_1 (l : Launch) (Z : State) (a0 : Array Value) (hw : ∀ d ∈ tables_1, d.before a0 Z = true) (h0 : Heap) (O0 : own_Old Z h0) :
    own_Con l Z (⟨"com/example/handlewright/handlewright/DomainStatusFindPinLaw", "lit", "(I)[C"⟩ : MethodName) method_3_code 1 (some (.array .char)) [] ({ frames := 0, cells := 1, slots := 6, locals := 0 } : Room) #[(.int 1)] h0 (fun rv rh rL => ∃ (u : Addr) (ku : ClassId), rv = some (.ref u) ∧ own_Fr Z rL ∧ Keep h0 rh [] ∧ h0.size ≤ u ∧ (Arv Z rh u ku .char (6 : Int32) [(.int 102), (.int 97), (.int 105), (.int 108), (.int 101), (.int 100)] (.int 0))) := by
  refine own_intro (plainFor_of_name (by first | (simp [plainName, overriddenIn]; done) | decide +kernel)) ?_
  intro p e s m below meth c s₁ G hx hby hml hown hnm hret hZ X0 e0 hG hR
  have N0 := Fr.nil Z.heap.size
  refine own_entry (Ls := #[.val (.int 1)]) (by first | (simp [entryFrame, mkF, argsToLocals, Value.category]; done) | rfl) ?_
  show G (s₁.setTop (mkF m 0 #[oi 1] []))
  refine hG _ _ (fun t_ k_ => XS.iloadN X0.here hx rfl (hb hby d13_0) rfl k_) ?_
  show G (s₁.setTop (mkF m 1 #[oi 1] [(.int 1)]))
  refine hG _ _ (fun t_ k_ => XS.ifYes X0.here hx rfl (pc0 := 1) (pc' := 45) rfl (hb hby d13_1) rfl ((if0 _ _).trans (feq (by decide)).2) (by decide) (by decide) k_) ?_
  show G (s₁.setTop (mkF m 45 #[oi 1] []))
  refine hG _ _ (fun t_ k_ => XS.iloadN X0.here hx rfl (hb hby d13_45) rfl k_) ?_
  refine hG _ _ (fun t_ k_ => XS.iconst X0.here hx rfl (hb hby d13_46) k_) ?_
  show G (s₁.setTop (mkF m 47 #[oi 1] [(.int 1), (.int 1)]))
  refine hG _ _ (fun t_ k_ => XS.icmpNo X0.here hx rfl (hb hby d13_47) rfl (teq (by decide)).2 k_) ?_
  show G (s₁.setTop (mkF m 50 #[oi 1] []))
  refine hG _ _ (fun t_ k_ => XS.bipush X0.here hx rfl (hb hby d13_50) k_) ?_
  obtain ⟨T1, h1, k1, X1, e1, E1, A1, st1⟩ := newP X0 hx hZ (ow hw 45 rfl) e0 (g := (mkF m 52 #[oi 1] [(.int 6)])) rfl (hb hby d13_52) rfl (by decide) (cap := 6) (by decide) (by decide) (by decide) (by decide)
  obtain ⟨b1, z1⟩ : ∃ z, z = h0.size := ⟨_, rfl⟩
  rw [← z1] at A1 st1
  refine hG _ _ st1 ?_
  have K1 : Keep h0 h1 [] := (Keep.refl h0 []).ext E1
  have O1 : own_Old Z h1 := O0.ext E1
  have V1 : Arv Z h1 b1 k1 .char (6 : Int32) [(.int 0), (.int 0), (.int 0), (.int 0), (.int 0), (.int 0)] (.int 0) := (Arv.new A1 (by decide)).pad (pad_rep [] (.int 0) 6)
  refine hG _ _ (fun t_ k_ => XS.dup X1.here hx rfl (hb hby d13_54) rfl rfl k_) ?_
  refine hG _ _ (fun t_ k_ => XS.iconst X1.here hx rfl (hb hby d13_55) k_) ?_
  refine hG _ _ (fun t_ k_ => XS.bipush X1.here hx rfl (hb hby d13_56) k_) ?_
  obtain ⟨c2, Ar2, q2, S2, M2, H2, G2⟩ := id V1
  obtain ⟨T2, h2, X2, e2, W2, st2⟩ := stC X1 hx hZ e1 Ar2 (j := (0 : Int32)) (inb_of S2 ⟨by decide, by decide⟩) (g := (mkF m 58 #[oi 1] [(.int 102), (.int 0), (.ref b1), (.ref b1)])) rfl rfl (hb hby d13_58)
  refine hG _ _ st2 ?_
  have K2 : Keep h0 h2 [] := K1.wr W2 (Or.inr (Nat.le_trans (Keep.refl h0 []).1 (Nat.le_of_eq z1.symm)))
  have O2 : own_Old Z h2 := O1.wr W2 (own_ge O0 (Nat.le_of_eq z1.symm))
  rw [own_narC (by decide)] at W2
  have V2 : Arv Z h2 b1 k1 .char (6 : Int32) [(.int 102), (.int 0), (.int 0), (.int 0), (.int 0), (.int 0)] (.int 0) := Arv.set Ar2 q2 S2 M2 H2 G2 (own_fitC (by decide)) W2 0 rfl (Nat.le_of_ble_eq_true rfl)
  have N2 := Fr.snoc X2 N0 (own_ge O0 (Nat.le_of_eq z1.symm))
  refine hG _ _ (fun t_ k_ => XS.dup X2.here hx rfl (hb hby d13_59) rfl rfl k_) ?_
  refine hG _ _ (fun t_ k_ => XS.iconst X2.here hx rfl (hb hby d13_60) k_) ?_
  refine hG _ _ (fun t_ k_ => XS.bipush X2.here hx rfl (hb hby d13_61) k_) ?_
  obtain ⟨c3, Ar3, q3, S3, M3, H3, G3⟩ := id V2
  obtain ⟨T3, h3, X3, e3, W3, st3⟩ := stC X2 hx hZ e2 Ar3 (j := (1 : Int32)) (inb_of S3 ⟨by decide, by decide⟩) (g := (mkF m 63 #[oi 1] [(.int 97), (.int 1), (.ref b1), (.ref b1)])) rfl rfl (hb hby d13_63)
  refine hG _ _ st3 ?_
  have K3 : Keep h0 h3 [] := K2.wr W3 (Or.inr (Nat.le_trans (Keep.refl h0 []).1 (Nat.le_of_eq z1.symm)))
  have O3 : own_Old Z h3 := O2.wr W3 (own_ge O0 (Nat.le_of_eq z1.symm))
  rw [own_narC (by decide)] at W3
  have V3 : Arv Z h3 b1 k1 .char (6 : Int32) [(.int 102), (.int 97), (.int 0), (.int 0), (.int 0), (.int 0)] (.int 0) := Arv.set Ar3 q3 S3 M3 H3 G3 (own_fitC (by decide)) W3 1 rfl (Nat.le_of_ble_eq_true rfl)
  have N3 := Fr.snoc X3 N2 (own_ge O0 (Nat.le_of_eq z1.symm))
  refine hG _ _ (fun t_ k_ => XS.dup X3.here hx rfl (hb hby d13_64) rfl rfl k_) ?_
  refine hG _ _ (fun t_ k_ => XS.iconst X3.here hx rfl (hb hby d13_65) k_) ?_
  refine hG _ _ (fun t_ k_ => XS.bipush X3.here hx rfl (hb hby d13_66) k_) ?_
  obtain ⟨c4, Ar4, q4, S4, M4, H4, G4⟩ := id V3
  obtain ⟨T4, h4, X4, e4, W4, st4⟩ := stC X3 hx hZ e3 Ar4 (j := (2 : Int32)) (inb_of S4 ⟨by decide, by decide⟩) (g := (mkF m 68 #[oi 1] [(.int 105), (.int 2), (.ref b1), (.ref b1)])) rfl rfl (hb hby d13_68)
  refine hG _ _ st4 ?_
  have K4 : Keep h0 h4 [] := K3.wr W4 (Or.inr (Nat.le_trans (Keep.refl h0 []).1 (Nat.le_of_eq z1.symm)))
  have O4 : own_Old Z h4 := O3.wr W4 (own_ge O0 (Nat.le_of_eq z1.symm))
  rw [own_narC (by decide)] at W4
  have V4 : Arv Z h4 b1 k1 .char (6 : Int32) [(.int 102), (.int 97), (.int 105), (.int 0), (.int 0), (.int 0)] (.int 0) := Arv.set Ar4 q4 S4 M4 H4 G4 (own_fitC (by decide)) W4 2 rfl (Nat.le_of_ble_eq_true rfl)
  have N4 := Fr.snoc X4 N3 (own_ge O0 (Nat.le_of_eq z1.symm))
  refine hG _ _ (fun t_ k_ => XS.dup X4.here hx rfl (hb hby d13_69) rfl rfl k_) ?_
  refine hG _ _ (fun t_ k_ => XS.iconst X4.here hx rfl (hb hby d13_70) k_) ?_
  refine hG _ _ (fun t_ k_ => XS.bipush X4.here hx rfl (hb hby d13_71) k_) ?_
  show G (T4.setTop (mkF m 73 #[oi 1] [(.int 108), (.int 3), (.ref b1), (.ref b1)]))
  obtain ⟨c5, Ar5, q5, S5, M5, H5, G5⟩ := id V4
  obtain ⟨T5, h5, X5, e5, W5, st5⟩ := stC X4 hx hZ e4 Ar5 (j := (3 : Int32)) (inb_of S5 ⟨by decide, by decide⟩) (g := (mkF m 73 #[oi 1] [(.int 108), (.int 3), (.ref b1), (.ref b1)])) rfl rfl (hb hby d13_73)
  refine hG _ _ st5 ?_
  have K5 : Keep h0 h5 [] := K4.wr W5 (Or.inr (Nat.le_trans (Keep.refl h0 []).1 (Nat.le_of_eq z1.symm)))
  have O5 : own_Old Z h5 := O4.wr W5 (own_ge O0 (Nat.le_of_eq z1.symm))
  rw [own_narC (by decide)] at W5
  have V5 : Arv Z h5 b1 k1 .char (6 : Int32) [(.int 102), (.int 97), (.int 105), (.int 108), (.int 0), (.int 0)] (.int 0) := Arv.set Ar5 q5 S5 M5 H5 G5 (own_fitC (by decide)) W5 3 rfl (Nat.le_of_ble_eq_true rfl)
  have N5 := Fr.snoc X5 N4 (own_ge O0 (Nat.le_of_eq z1.symm))
  refine hG _ _ (fun t_ k_ => XS.dup X5.here hx rfl (hb hby d13_74) rfl rfl k_) ?_
  refine hG _ _ (fun t_ k_ => XS.iconst X5.here hx rfl (hb hby d13_75) k_) ?_
  refine hG _ _ (fun t_ k_ => XS.bipush X5.here hx rfl (hb hby d13_76) k_) ?_
  obtain ⟨c6, Ar6, q6, S6, M6, H6, G6⟩ := id V5
  obtain ⟨T6, h6, X6, e6, W6, st6⟩ := stC X5 hx hZ e5 Ar6 (j := (4 : Int32)) (inb_of S6 ⟨by decide, by decide⟩) (g := (mkF m 78 #[oi 1] [(.int 101), (.int 4), (.ref b1), (.ref b1)])) rfl rfl (hb hby d13_78)
  refine hG _ _ st6 ?_
  have K6 : Keep h0 h6 [] := K5.wr W6 (Or.inr (Nat.le_trans (Keep.refl h0 []).1 (Nat.le_of_eq z1.symm)))
  have O6 : own_Old Z h6 := O5.wr W6 (own_ge O0 (Nat.le_of_eq z1.symm))
  rw [own_narC (by decide)] at W6
  have V6 : Arv Z h6 b1 k1 .char (6 : Int32) [(.int 102), (.int 97), (.int 105), (.int 108), (.int 101), (.int 0)] (.int 0) := Arv.set Ar6 q6 S6 M6 H6 G6 (own_fitC (by decide)) W6 4 rfl (Nat.le_of_ble_eq_true rfl)
  have N6 := Fr.snoc X6 N5 (own_ge O0 (Nat.le_of_eq z1.symm))
  refine hG _ _ (fun t_ k_ => XS.dup X6.here hx rfl (hb hby d13_79) rfl rfl k_) ?_
  refine hG _ _ (fun t_ k_ => XS.iconst X6.here hx rfl (hb hby d13_80) k_) ?_
  refine hG _ _ (fun t_ k_ => XS.bipush X6.here hx rfl (hb hby d13_81) k_) ?_
  obtain ⟨c7, Ar7, q7, S7, M7, H7, G7⟩ := id V6
  obtain ⟨T7, h7, X7, e7, W7, st7⟩ := stC X6 hx hZ e6 Ar7 (j := (5 : Int32)) (inb_of S7 ⟨by decide, by decide⟩) (g := (mkF m 83 #[oi 1] [(.int 100), (.int 5), (.ref b1), (.ref b1)])) rfl rfl (hb hby d13_83)
  refine hG _ _ st7 ?_
  have K7 : Keep h0 h7 [] := K6.wr W7 (Or.inr (Nat.le_trans (Keep.refl h0 []).1 (Nat.le_of_eq z1.symm)))
  have O7 : own_Old Z h7 := O6.wr W7 (own_ge O0 (Nat.le_of_eq z1.symm))
  rw [own_narC (by decide)] at W7
  have V7 : Arv Z h7 b1 k1 .char (6 : Int32) [(.int 102), (.int 97), (.int 105), (.int 108), (.int 101), (.int 100)] (.int 0) := Arv.set Ar7 q7 S7 M7 H7 G7 (own_fitC (by decide)) W7 5 rfl (Nat.le_of_ble_eq_true rfl)
  have N7 := Fr.snoc X7 N6 (own_ge O0 (Nat.le_of_eq z1.symm))
  show G (T7.setTop (mkF m 84 #[oi 1] [(.ref b1)]))
  exact own_retA hR hret rfl rfl X7 hx (hb hby d13_84) (by decide) (by decide) (by rw [e7]; exact ⟨b1, k1, rfl, N7, K7, (Nat.le_trans (Keep.refl h0 []).1 (Nat.le_of_eq z1.symm)), V7⟩)
theorem own_mk_cut_1 (l : Launch) (Z : State) (a0 : Array Value) (hw : ∀ d ∈ tables_1, d.before a0 Z = true) (h0 : Heap) (O0 : own_Old Z h0) :
    own_Con l Z (⟨"com/example/handlewright/handlewright/DomainStatusFindPinLaw", "cut", "(I)[C"⟩ : MethodName) method_6_code 1 (some (.array .char)) [] ({ frames := 0, cells := 1, slots := 5, locals := 0 } : Room) #[(.int 1)] h0 (fun rv rh rL => ∃ (u : Addr) (ku : ClassId), rv = some (.ref u) ∧ own_Fr Z rL ∧ Keep h0 rh [] ∧ h0.size ≤ u ∧ (Arv Z rh u ku .char (5 : Int32) [(.int 102), (.int 97), (.int 105), (.int 108), (.int 101)] (.int 0))) := by
  refine own_intro (plainFor_of_name (by first | (simp [plainName, overriddenIn]; done) | decide +kernel)) ?_
  intro p e s m below meth c s₁ G hx hby hml hown hnm hret hZ X0 e0 hG hR
  have N0 := Fr.nil Z.heap.size
  refine own_entry (Ls := #[.val (.int 1)]) (by first | (simp [entryFrame, mkF, argsToLocals, Value.category]; done) | rfl) ?_
  show G (s₁.setTop (mkF m 0 #[oi 1] []))
  refine hG _ _ (fun t_ k_ => XS.iloadN X0.here hx rfl (hb hby d16_0) rfl k_) ?_
  show G (s₁.setTop (mkF m 1 #[oi 1] [(.int 1)]))
  refine hG _ _ (fun t_ k_ => XS.ifYes X0.here hx rfl (pc0 := 1) (pc' := 39) rfl (hb hby d16_1) rfl ((if0 _ _).trans (feq (by decide)).2) (by decide) (by decide) k_) ?_
  show G (s₁.setTop (mkF m 39 #[oi 1] []))
  refine hG _ _ (fun t_ k_ => XS.iloadN X0.here hx rfl (hb hby d16_39) rfl k_) ?_
  refine hG _ _ (fun t_ k_ => XS.iconst X0.here hx rfl (hb hby d16_40) k_) ?_
  show G (s₁.setTop (mkF m 41 #[oi 1] [(.int 1), (.int 1)]))
  refine hG _ _ (fun t_ k_ => XS.icmpNo X0.here hx rfl (hb hby d16_41) rfl (teq (by decide)).2 k_) ?_
  show G (s₁.setTop (mkF m 44 #[oi 1] []))
  refine hG _ _ (fun t_ k_ => XS.iconst X0.here hx rfl (hb hby d16_44) k_) ?_
  obtain ⟨T1, h1, k1, X1, e1, E1, A1, st1⟩ := newP X0 hx hZ (ow hw 45 rfl) e0 (g := (mkF m 45 #[oi 1] [(.int 5)])) rfl (hb hby d16_45) rfl (by decide) (cap := 5) (by decide) (by decide) (by decide) (by decide)
  obtain ⟨b1, z1⟩ : ∃ z, z = h0.size := ⟨_, rfl⟩
  rw [← z1] at A1 st1
  refine hG _ _ st1 ?_
  have K1 : Keep h0 h1 [] := (Keep.refl h0 []).ext E1
  have O1 : own_Old Z h1 := O0.ext E1
  have V1 : Arv Z h1 b1 k1 .char (5 : Int32) [(.int 0), (.int 0), (.int 0), (.int 0), (.int 0)] (.int 0) := (Arv.new A1 (by decide)).pad (pad_rep [] (.int 0) 5)
  refine hG _ _ (fun t_ k_ => XS.dup X1.here hx rfl (hb hby d16_47) rfl rfl k_) ?_
  refine hG _ _ (fun t_ k_ => XS.iconst X1.here hx rfl (hb hby d16_48) k_) ?_
  refine hG _ _ (fun t_ k_ => XS.bipush X1.here hx rfl (hb hby d16_49) k_) ?_
  obtain ⟨c2, Ar2, q2, S2, M2, H2, G2⟩ := id V1
  obtain ⟨T2, h2, X2, e2, W2, st2⟩ := stC X1 hx hZ e1 Ar2 (j := (0 : Int32)) (inb_of S2 ⟨by decide, by decide⟩) (g := (mkF m 51 #[oi 1] [(.int 102), (.int 0), (.ref b1), (.ref b1)])) rfl rfl (hb hby d16_51)
  refine hG _ _ st2 ?_
  have K2 : Keep h0 h2 [] := K1.wr W2 (Or.inr (Nat.le_trans (Keep.refl h0 []).1 (Nat.le_of_eq z1.symm)))
  have O2 : own_Old Z h2 := O1.wr W2 (own_ge O0 (Nat.le_of_eq z1.symm))
  rw [own_narC (by decide)] at W2
  have V2 : Arv Z h2 b1 k1 .char (5 : Int32) [(.int 102), (.int 0), (.int 0), (.int 0), (.int 0)] (.int 0) := Arv.set Ar2 q2 S2 M2 H2 G2 (own_fitC (by decide)) W2 0 rfl (Nat.le_of_ble_eq_true rfl)
  have N2 := Fr.snoc X2 N0 (own_ge O0 (Nat.le_of_eq z1.symm))
  refine hG _ _ (fun t_ k_ => XS.dup X2.here hx rfl (hb hby d16_52) rfl rfl k_) ?_
  refine hG _ _ (fun t_ k_ => XS.iconst X2.here hx rfl (hb hby d16_53) k_) ?_
  refine hG _ _ (fun t_ k_ => XS.bipush X2.here hx rfl (hb hby d16_54) k_) ?_
  obtain ⟨c3, Ar3, q3, S3, M3, H3, G3⟩ := id V2
  obtain ⟨T3, h3, X3, e3, W3, st3⟩ := stC X2 hx hZ e2 Ar3 (j := (1 : Int32)) (inb_of S3 ⟨by decide, by decide⟩) (g := (mkF m 56 #[oi 1] [(.int 97), (.int 1), (.ref b1), (.ref b1)])) rfl rfl (hb hby d16_56)
  refine hG _ _ st3 ?_
  have K3 : Keep h0 h3 [] := K2.wr W3 (Or.inr (Nat.le_trans (Keep.refl h0 []).1 (Nat.le_of_eq z1.symm)))
  have O3 : own_Old Z h3 := O2.wr W3 (own_ge O0 (Nat.le_of_eq z1.symm))
  rw [own_narC (by decide)] at W3
  have V3 : Arv Z h3 b1 k1 .char (5 : Int32) [(.int 102), (.int 97), (.int 0), (.int 0), (.int 0)] (.int 0) := Arv.set Ar3 q3 S3 M3 H3 G3 (own_fitC (by decide)) W3 1 rfl (Nat.le_of_ble_eq_true rfl)
  have N3 := Fr.snoc X3 N2 (own_ge O0 (Nat.le_of_eq z1.symm))
  refine hG _ _ (fun t_ k_ => XS.dup X3.here hx rfl (hb hby d16_57) rfl rfl k_) ?_
  refine hG _ _ (fun t_ k_ => XS.iconst X3.here hx rfl (hb hby d16_58) k_) ?_
  refine hG _ _ (fun t_ k_ => XS.bipush X3.here hx rfl (hb hby d16_59) k_) ?_
  obtain ⟨c4, Ar4, q4, S4, M4, H4, G4⟩ := id V3
  obtain ⟨T4, h4, X4, e4, W4, st4⟩ := stC X3 hx hZ e3 Ar4 (j := (2 : Int32)) (inb_of S4 ⟨by decide, by decide⟩) (g := (mkF m 61 #[oi 1] [(.int 105), (.int 2), (.ref b1), (.ref b1)])) rfl rfl (hb hby d16_61)
  refine hG _ _ st4 ?_
  have K4 : Keep h0 h4 [] := K3.wr W4 (Or.inr (Nat.le_trans (Keep.refl h0 []).1 (Nat.le_of_eq z1.symm)))
  have O4 : own_Old Z h4 := O3.wr W4 (own_ge O0 (Nat.le_of_eq z1.symm))
  rw [own_narC (by decide)] at W4
  have V4 : Arv Z h4 b1 k1 .char (5 : Int32) [(.int 102), (.int 97), (.int 105), (.int 0), (.int 0)] (.int 0) := Arv.set Ar4 q4 S4 M4 H4 G4 (own_fitC (by decide)) W4 2 rfl (Nat.le_of_ble_eq_true rfl)
  have N4 := Fr.snoc X4 N3 (own_ge O0 (Nat.le_of_eq z1.symm))
  refine hG _ _ (fun t_ k_ => XS.dup X4.here hx rfl (hb hby d16_62) rfl rfl k_) ?_
  refine hG _ _ (fun t_ k_ => XS.iconst X4.here hx rfl (hb hby d16_63) k_) ?_
  refine hG _ _ (fun t_ k_ => XS.bipush X4.here hx rfl (hb hby d16_64) k_) ?_
  show G (T4.setTop (mkF m 66 #[oi 1] [(.int 108), (.int 3), (.ref b1), (.ref b1)]))
  obtain ⟨c5, Ar5, q5, S5, M5, H5, G5⟩ := id V4
  obtain ⟨T5, h5, X5, e5, W5, st5⟩ := stC X4 hx hZ e4 Ar5 (j := (3 : Int32)) (inb_of S5 ⟨by decide, by decide⟩) (g := (mkF m 66 #[oi 1] [(.int 108), (.int 3), (.ref b1), (.ref b1)])) rfl rfl (hb hby d16_66)
  refine hG _ _ st5 ?_
  have K5 : Keep h0 h5 [] := K4.wr W5 (Or.inr (Nat.le_trans (Keep.refl h0 []).1 (Nat.le_of_eq z1.symm)))
  have O5 : own_Old Z h5 := O4.wr W5 (own_ge O0 (Nat.le_of_eq z1.symm))
  rw [own_narC (by decide)] at W5
  have V5 : Arv Z h5 b1 k1 .char (5 : Int32) [(.int 102), (.int 97), (.int 105), (.int 108), (.int 0)] (.int 0) := Arv.set Ar5 q5 S5 M5 H5 G5 (own_fitC (by decide)) W5 3 rfl (Nat.le_of_ble_eq_true rfl)
  have N5 := Fr.snoc X5 N4 (own_ge O0 (Nat.le_of_eq z1.symm))
  refine hG _ _ (fun t_ k_ => XS.dup X5.here hx rfl (hb hby d16_67) rfl rfl k_) ?_
  refine hG _ _ (fun t_ k_ => XS.iconst X5.here hx rfl (hb hby d16_68) k_) ?_
  refine hG _ _ (fun t_ k_ => XS.bipush X5.here hx rfl (hb hby d16_69) k_) ?_
  obtain ⟨c6, Ar6, q6, S6, M6, H6, G6⟩ := id V5
  obtain ⟨T6, h6, X6, e6, W6, st6⟩ := stC X5 hx hZ e5 Ar6 (j := (4 : Int32)) (inb_of S6 ⟨by decide, by decide⟩) (g := (mkF m 71 #[oi 1] [(.int 101), (.int 4), (.ref b1), (.ref b1)])) rfl rfl (hb hby d16_71)
  refine hG _ _ st6 ?_
  have K6 : Keep h0 h6 [] := K5.wr W6 (Or.inr (Nat.le_trans (Keep.refl h0 []).1 (Nat.le_of_eq z1.symm)))
  have O6 : own_Old Z h6 := O5.wr W6 (own_ge O0 (Nat.le_of_eq z1.symm))
  rw [own_narC (by decide)] at W6
  have V6 : Arv Z h6 b1 k1 .char (5 : Int32) [(.int 102), (.int 97), (.int 105), (.int 108), (.int 101)] (.int 0) := Arv.set Ar6 q6 S6 M6 H6 G6 (own_fitC (by decide)) W6 4 rfl (Nat.le_of_ble_eq_true rfl)
  have N6 := Fr.snoc X6 N5 (own_ge O0 (Nat.le_of_eq z1.symm))
  show G (T6.setTop (mkF m 72 #[oi 1] [(.ref b1)]))
  exact own_retA hR hret rfl rfl X6 hx (hb hby d16_72) (by decide) (by decide) (by rw [e6]; exact ⟨b1, k1, rfl, N6, K6, (Nat.le_trans (Keep.refl h0 []).1 (Nat.le_of_eq z1.symm)), V6⟩)
theorem own_mk_ext_1 (l : Launch) (Z : State) (a0 : Array Value) (hw : ∀ d ∈ tables_1, d.before a0 Z = true) (ch : Int32) (h0 : Heap) (O0 : own_Old Z h0) (g0_hch : 0 ≤ ch.toInt ∧ ch.toInt ≤ 65535) :
    own_Con l Z (⟨"com/example/handlewright/handlewright/DomainStatusFindPinLaw", "ext", "(IC)[C"⟩ : MethodName) method_4_code 2 (some (.array .char)) [] ({ frames := 0, cells := 1, slots := 7, locals := 0 } : Room) #[(.int 1), (.int ch)] h0 (fun rv rh rL => ∃ (u : Addr) (ku : ClassId), rv = some (.ref u) ∧ own_Fr Z rL ∧ Keep h0 rh [] ∧ h0.size ≤ u ∧ (Arv Z rh u ku .char (7 : Int32) [(.int 102), (.int 97), (.int 105), (.int 108), (.int 101), (.int 100), (.int ch)] (.int 0))) := by
  refine own_intro (plainFor_of_name (by first | (simp [plainName, overriddenIn]; done) | decide +kernel)) ?_
  intro p e s m below meth c s₁ G hx hby hml hown hnm hret hZ X0 e0 hG hR
  have N0 := Fr.nil Z.heap.size
  refine own_entry (Ls := #[.val (.int 1), .val (.int ch)]) (by first | (simp [entryFrame, mkF, argsToLocals, Value.category]; done) | rfl) ?_
  show G (s₁.setTop (mkF m 0 #[oi 1, oi ch] []))
  refine hG _ _ (fun t_ k_ => XS.iloadN X0.here hx rfl (hb hby d14_0) rfl k_) ?_
  show G (s₁.setTop (mkF m 1 #[oi 1, oi ch] [(.int 1)]))
  refine hG _ _ (fun t_ k_ => XS.ifYes X0.here hx rfl (pc0 := 1) (pc' := 50) rfl (hb hby d14_1) rfl ((if0 _ _).trans (feq (by decide)).2) (by decide) (by decide) k_) ?_
  show G (s₁.setTop (mkF m 50 #[oi 1, oi ch] []))
  refine hG _ _ (fun t_ k_ => XS.iloadN X0.here hx rfl (hb hby d14_50) rfl k_) ?_
  refine hG _ _ (fun t_ k_ => XS.iconst X0.here hx rfl (hb hby d14_51) k_) ?_
  show G (s₁.setTop (mkF m 52 #[oi 1, oi ch] [(.int 1), (.int 1)]))
  refine hG _ _ (fun t_ k_ => XS.icmpNo X0.here hx rfl (hb hby d14_52) rfl (teq (by decide)).2 k_) ?_
  show G (s₁.setTop (mkF m 55 #[oi 1, oi ch] []))
  refine hG _ _ (fun t_ k_ => XS.bipush X0.here hx rfl (hb hby d14_55) k_) ?_
  obtain ⟨T1, h1, k1, X1, e1, E1, A1, st1⟩ := newP X0 hx hZ (ow hw 45 rfl) e0 (g := (mkF m 57 #[oi 1, oi ch] [(.int 7)])) rfl (hb hby d14_57) rfl (by decide) (cap := 7) (by decide) (by decide) (by decide) (by decide)
  obtain ⟨b1, z1⟩ : ∃ z, z = h0.size := ⟨_, rfl⟩
  rw [← z1] at A1 st1
  refine hG _ _ st1 ?_
  have K1 : Keep h0 h1 [] := (Keep.refl h0 []).ext E1
  have O1 : own_Old Z h1 := O0.ext E1
  have V1 : Arv Z h1 b1 k1 .char (7 : Int32) [(.int 0), (.int 0), (.int 0), (.int 0), (.int 0), (.int 0), (.int 0)] (.int 0) := (Arv.new A1 (by decide)).pad (pad_rep [] (.int 0) 7)
  refine hG _ _ (fun t_ k_ => XS.dup X1.here hx rfl (hb hby d14_59) rfl rfl k_) ?_
  refine hG _ _ (fun t_ k_ => XS.iconst X1.here hx rfl (hb hby d14_60) k_) ?_
  refine hG _ _ (fun t_ k_ => XS.bipush X1.here hx rfl (hb hby d14_61) k_) ?_
  obtain ⟨c2, Ar2, q2, S2, M2, H2, G2⟩ := id V1
  obtain ⟨T2, h2, X2, e2, W2, st2⟩ := stC X1 hx hZ e1 Ar2 (j := (0 : Int32)) (inb_of S2 ⟨by decide, by decide⟩) (g := (mkF m 63 #[oi 1, oi ch] [(.int 102), (.int 0), (.ref b1), (.ref b1)])) rfl rfl (hb hby d14_63)
  refine hG _ _ st2 ?_
  have K2 : Keep h0 h2 [] := K1.wr W2 (Or.inr (Nat.le_trans (Keep.refl h0 []).1 (Nat.le_of_eq z1.symm)))
  have O2 : own_Old Z h2 := O1.wr W2 (own_ge O0 (Nat.le_of_eq z1.symm))
  rw [own_narC (by decide)] at W2
  have V2 : Arv Z h2 b1 k1 .char (7 : Int32) [(.int 102), (.int 0), (.int 0), (.int 0), (.int 0), (.int 0), (.int 0)] (.int 0) := Arv.set Ar2 q2 S2 M2 H2 G2 (own_fitC (by decide)) W2 0 rfl (Nat.le_of_ble_eq_true rfl)
  have N2 := Fr.snoc X2 N0 (own_ge O0 (Nat.le_of_eq z1.symm))
  refine hG _ _ (fun t_ k_ => XS.dup X2.here hx rfl (hb hby d14_64) rfl rfl k_) ?_
  refine hG _ _ (fun t_ k_ => XS.iconst X2.here hx rfl (hb hby d14_65) k_) ?_
  refine hG _ _ (fun t_ k_ => XS.bipush X2.here hx rfl (hb hby d14_66) k_) ?_
  obtain ⟨c3, Ar3, q3, S3, M3, H3, G3⟩ := id V2
  obtain ⟨T3, h3, X3, e3, W3, st3⟩ := stC X2 hx hZ e2 Ar3 (j := (1 : Int32)) (inb_of S3 ⟨by decide, by decide⟩) (g := (mkF m 68 #[oi 1, oi ch] [(.int 97), (.int 1), (.ref b1), (.ref b1)])) rfl rfl (hb hby d14_68)
  refine hG _ _ st3 ?_
  have K3 : Keep h0 h3 [] := K2.wr W3 (Or.inr (Nat.le_trans (Keep.refl h0 []).1 (Nat.le_of_eq z1.symm)))
  have O3 : own_Old Z h3 := O2.wr W3 (own_ge O0 (Nat.le_of_eq z1.symm))
  rw [own_narC (by decide)] at W3
  have V3 : Arv Z h3 b1 k1 .char (7 : Int32) [(.int 102), (.int 97), (.int 0), (.int 0), (.int 0), (.int 0), (.int 0)] (.int 0) := Arv.set Ar3 q3 S3 M3 H3 G3 (own_fitC (by decide)) W3 1 rfl (Nat.le_of_ble_eq_true rfl)
  have N3 := Fr.snoc X3 N2 (own_ge O0 (Nat.le_of_eq z1.symm))
  refine hG _ _ (fun t_ k_ => XS.dup X3.here hx rfl (hb hby d14_69) rfl rfl k_) ?_
  refine hG _ _ (fun t_ k_ => XS.iconst X3.here hx rfl (hb hby d14_70) k_) ?_
  refine hG _ _ (fun t_ k_ => XS.bipush X3.here hx rfl (hb hby d14_71) k_) ?_
  obtain ⟨c4, Ar4, q4, S4, M4, H4, G4⟩ := id V3
  obtain ⟨T4, h4, X4, e4, W4, st4⟩ := stC X3 hx hZ e3 Ar4 (j := (2 : Int32)) (inb_of S4 ⟨by decide, by decide⟩) (g := (mkF m 73 #[oi 1, oi ch] [(.int 105), (.int 2), (.ref b1), (.ref b1)])) rfl rfl (hb hby d14_73)
  refine hG _ _ st4 ?_
  have K4 : Keep h0 h4 [] := K3.wr W4 (Or.inr (Nat.le_trans (Keep.refl h0 []).1 (Nat.le_of_eq z1.symm)))
  have O4 : own_Old Z h4 := O3.wr W4 (own_ge O0 (Nat.le_of_eq z1.symm))
  rw [own_narC (by decide)] at W4
  have V4 : Arv Z h4 b1 k1 .char (7 : Int32) [(.int 102), (.int 97), (.int 105), (.int 0), (.int 0), (.int 0), (.int 0)] (.int 0) := Arv.set Ar4 q4 S4 M4 H4 G4 (own_fitC (by decide)) W4 2 rfl (Nat.le_of_ble_eq_true rfl)
  have N4 := Fr.snoc X4 N3 (own_ge O0 (Nat.le_of_eq z1.symm))
  refine hG _ _ (fun t_ k_ => XS.dup X4.here hx rfl (hb hby d14_74) rfl rfl k_) ?_
  refine hG _ _ (fun t_ k_ => XS.iconst X4.here hx rfl (hb hby d14_75) k_) ?_
  refine hG _ _ (fun t_ k_ => XS.bipush X4.here hx rfl (hb hby d14_76) k_) ?_
  show G (T4.setTop (mkF m 78 #[oi 1, oi ch] [(.int 108), (.int 3), (.ref b1), (.ref b1)]))
  obtain ⟨c5, Ar5, q5, S5, M5, H5, G5⟩ := id V4
  obtain ⟨T5, h5, X5, e5, W5, st5⟩ := stC X4 hx hZ e4 Ar5 (j := (3 : Int32)) (inb_of S5 ⟨by decide, by decide⟩) (g := (mkF m 78 #[oi 1, oi ch] [(.int 108), (.int 3), (.ref b1), (.ref b1)])) rfl rfl (hb hby d14_78)
  refine hG _ _ st5 ?_
  have K5 : Keep h0 h5 [] := K4.wr W5 (Or.inr (Nat.le_trans (Keep.refl h0 []).1 (Nat.le_of_eq z1.symm)))
  have O5 : own_Old Z h5 := O4.wr W5 (own_ge O0 (Nat.le_of_eq z1.symm))
  rw [own_narC (by decide)] at W5
  have V5 : Arv Z h5 b1 k1 .char (7 : Int32) [(.int 102), (.int 97), (.int 105), (.int 108), (.int 0), (.int 0), (.int 0)] (.int 0) := Arv.set Ar5 q5 S5 M5 H5 G5 (own_fitC (by decide)) W5 3 rfl (Nat.le_of_ble_eq_true rfl)
  have N5 := Fr.snoc X5 N4 (own_ge O0 (Nat.le_of_eq z1.symm))
  refine hG _ _ (fun t_ k_ => XS.dup X5.here hx rfl (hb hby d14_79) rfl rfl k_) ?_
  refine hG _ _ (fun t_ k_ => XS.iconst X5.here hx rfl (hb hby d14_80) k_) ?_
  refine hG _ _ (fun t_ k_ => XS.bipush X5.here hx rfl (hb hby d14_81) k_) ?_
  obtain ⟨c6, Ar6, q6, S6, M6, H6, G6⟩ := id V5
  obtain ⟨T6, h6, X6, e6, W6, st6⟩ := stC X5 hx hZ e5 Ar6 (j := (4 : Int32)) (inb_of S6 ⟨by decide, by decide⟩) (g := (mkF m 83 #[oi 1, oi ch] [(.int 101), (.int 4), (.ref b1), (.ref b1)])) rfl rfl (hb hby d14_83)
  refine hG _ _ st6 ?_
  have K6 : Keep h0 h6 [] := K5.wr W6 (Or.inr (Nat.le_trans (Keep.refl h0 []).1 (Nat.le_of_eq z1.symm)))
  have O6 : own_Old Z h6 := O5.wr W6 (own_ge O0 (Nat.le_of_eq z1.symm))
  rw [own_narC (by decide)] at W6
  have V6 : Arv Z h6 b1 k1 .char (7 : Int32) [(.int 102), (.int 97), (.int 105), (.int 108), (.int 101), (.int 0), (.int 0)] (.int 0) := Arv.set Ar6 q6 S6 M6 H6 G6 (own_fitC (by decide)) W6 4 rfl (Nat.le_of_ble_eq_true rfl)
  have N6 := Fr.snoc X6 N5 (own_ge O0 (Nat.le_of_eq z1.symm))
  refine hG _ _ (fun t_ k_ => XS.dup X6.here hx rfl (hb hby d14_84) rfl rfl k_) ?_
  refine hG _ _ (fun t_ k_ => XS.iconst X6.here hx rfl (hb hby d14_85) k_) ?_
  refine hG _ _ (fun t_ k_ => XS.bipush X6.here hx rfl (hb hby d14_86) k_) ?_
  obtain ⟨c7, Ar7, q7, S7, M7, H7, G7⟩ := id V6
  obtain ⟨T7, h7, X7, e7, W7, st7⟩ := stC X6 hx hZ e6 Ar7 (j := (5 : Int32)) (inb_of S7 ⟨by decide, by decide⟩) (g := (mkF m 88 #[oi 1, oi ch] [(.int 100), (.int 5), (.ref b1), (.ref b1)])) rfl rfl (hb hby d14_88)
  refine hG _ _ st7 ?_
  have K7 : Keep h0 h7 [] := K6.wr W7 (Or.inr (Nat.le_trans (Keep.refl h0 []).1 (Nat.le_of_eq z1.symm)))
  have O7 : own_Old Z h7 := O6.wr W7 (own_ge O0 (Nat.le_of_eq z1.symm))
  rw [own_narC (by decide)] at W7
  have V7 : Arv Z h7 b1 k1 .char (7 : Int32) [(.int 102), (.int 97), (.int 105), (.int 108), (.int 101), (.int 100), (.int 0)] (.int 0) := Arv.set Ar7 q7 S7 M7 H7 G7 (own_fitC (by decide)) W7 5 rfl (Nat.le_of_ble_eq_true rfl)
  have N7 := Fr.snoc X7 N6 (own_ge O0 (Nat.le_of_eq z1.symm))
  refine hG _ _ (fun t_ k_ => XS.dup X7.here hx rfl (hb hby d14_89) rfl rfl k_) ?_
  refine hG _ _ (fun t_ k_ => XS.bipush X7.here hx rfl (hb hby d14_90) k_) ?_
  refine hG _ _ (fun t_ k_ => XS.iloadN X7.here hx rfl (hb hby d14_92) rfl k_) ?_
  obtain ⟨c8, Ar8, q8, S8, M8, H8, G8⟩ := id V7
  obtain ⟨T8, h8, X8, e8, W8, st8⟩ := stC X7 hx hZ e7 Ar8 (j := (6 : Int32)) (inb_of S8 ⟨by decide, by decide⟩) (g := (mkF m 93 #[oi 1, oi ch] [(.int ch), (.int 6), (.ref b1), (.ref b1)])) rfl rfl (hb hby d14_93)
  refine hG _ _ st8 ?_
  have K8 : Keep h0 h8 [] := K7.wr W8 (Or.inr (Nat.le_trans (Keep.refl h0 []).1 (Nat.le_of_eq z1.symm)))
  have O8 : own_Old Z h8 := O7.wr W8 (own_ge O0 (Nat.le_of_eq z1.symm))
  rw [own_narC g0_hch] at W8
  have V8 : Arv Z h8 b1 k1 .char (7 : Int32) [(.int 102), (.int 97), (.int 105), (.int 108), (.int 101), (.int 100), (.int ch)] (.int 0) := Arv.set Ar8 q8 S8 M8 H8 G8 (own_fitC g0_hch) W8 6 rfl (Nat.le_of_ble_eq_true rfl)
  have N8 := Fr.snoc X8 N7 (own_ge O0 (Nat.le_of_eq z1.symm))
  show G (T8.setTop (mkF m 94 #[oi 1, oi ch] [(.ref b1)]))
  exact own_retA hR hret rfl rfl X8 hx (hb hby d14_94) (by decide) (by decide) (by rw [e8]; exact ⟨b1, k1, rfl, N8, K8, (Nat.le_trans (Keep.refl h0 []).1 (Nat.le_of_eq z1.symm)), V8⟩)
theorem own_mk_pre_1 (l : Launch) (Z : State) (a0 : Array Value) (hw : ∀ d ∈ tables_1, d.before a0 Z = true) (ch : Int32) (h0 : Heap) (O0 : own_Old Z h0) (g0_hch : 0 ≤ ch.toInt ∧ ch.toInt ≤ 65535) :
    own_Con l Z (⟨"com/example/handlewright/handlewright/DomainStatusFindPinLaw", "pre", "(IC)[C"⟩ : MethodName) method_5_code 2 (some (.array .char)) [] ({ frames := 0, cells := 1, slots := 7, locals := 0 } : Room) #[(.int 1), (.int ch)] h0 (fun rv rh rL => ∃ (u : Addr) (ku : ClassId), rv = some (.ref u) ∧ own_Fr Z rL ∧ Keep h0 rh [] ∧ h0.size ≤ u ∧ (Arv Z rh u ku .char (7 : Int32) [(.int ch), (.int 102), (.int 97), (.int 105), (.int 108), (.int 101), (.int 100)] (.int 0))) := by
  refine own_intro (plainFor_of_name (by first | (simp [plainName, overriddenIn]; done) | decide +kernel)) ?_
  intro p e s m below meth c s₁ G hx hby hml hown hnm hret hZ X0 e0 hG hR
  have N0 := Fr.nil Z.heap.size
  refine own_entry (Ls := #[.val (.int 1), .val (.int ch)]) (by first | (simp [entryFrame, mkF, argsToLocals, Value.category]; done) | rfl) ?_
  show G (s₁.setTop (mkF m 0 #[oi 1, oi ch] []))
  refine hG _ _ (fun t_ k_ => XS.iloadN X0.here hx rfl (hb hby d5_0) rfl k_) ?_
  show G (s₁.setTop (mkF m 1 #[oi 1, oi ch] [(.int 1)]))
  refine hG _ _ (fun t_ k_ => XS.ifYes X0.here hx rfl (pc0 := 1) (pc' := 50) rfl (hb hby d5_1) rfl ((if0 _ _).trans (feq (by decide)).2) (by decide) (by decide) k_) ?_
  show G (s₁.setTop (mkF m 50 #[oi 1, oi ch] []))
  refine hG _ _ (fun t_ k_ => XS.iloadN X0.here hx rfl (hb hby d5_50) rfl k_) ?_
  refine hG _ _ (fun t_ k_ => XS.iconst X0.here hx rfl (hb hby d5_51) k_) ?_
  show G (s₁.setTop (mkF m 52 #[oi 1, oi ch] [(.int 1), (.int 1)]))
  refine hG _ _ (fun t_ k_ => XS.icmpNo X0.here hx rfl (hb hby d5_52) rfl (teq (by decide)).2 k_) ?_
  show G (s₁.setTop (mkF m 55 #[oi 1, oi ch] []))
  refine hG _ _ (fun t_ k_ => XS.bipush X0.here hx rfl (hb hby d5_55) k_) ?_
  obtain ⟨T1, h1, k1, X1, e1, E1, A1, st1⟩ := newP X0 hx hZ (ow hw 45 rfl) e0 (g := (mkF m 57 #[oi 1, oi ch] [(.int 7)])) rfl (hb hby d5_57) rfl (by decide) (cap := 7) (by decide) (by decide) (by decide) (by decide)
  obtain ⟨b1, z1⟩ : ∃ z, z = h0.size := ⟨_, rfl⟩
  rw [← z1] at A1 st1
  refine hG _ _ st1 ?_
  have K1 : Keep h0 h1 [] := (Keep.refl h0 []).ext E1
  have O1 : own_Old Z h1 := O0.ext E1
  have V1 : Arv Z h1 b1 k1 .char (7 : Int32) [(.int 0), (.int 0), (.int 0), (.int 0), (.int 0), (.int 0), (.int 0)] (.int 0) := (Arv.new A1 (by decide)).pad (pad_rep [] (.int 0) 7)
  refine hG _ _ (fun t_ k_ => XS.dup X1.here hx rfl (hb hby d5_59) rfl rfl k_) ?_
  refine hG _ _ (fun t_ k_ => XS.iconst X1.here hx rfl (hb hby d5_60) k_) ?_
  refine hG _ _ (fun t_ k_ => XS.iloadN X1.here hx rfl (hb hby d5_61) rfl k_) ?_
  obtain ⟨c2, Ar2, q2, S2, M2, H2, G2⟩ := id V1
  obtain ⟨T2, h2, X2, e2, W2, st2⟩ := stC X1 hx hZ e1 Ar2 (j := (0 : Int32)) (inb_of S2 ⟨by decide, by decide⟩) (g := (mkF m 62 #[oi 1, oi ch] [(.int ch), (.int 0), (.ref b1), (.ref b1)])) rfl rfl (hb hby d5_62)
  refine hG _ _ st2 ?_
  have K2 : Keep h0 h2 [] := K1.wr W2 (Or.inr (Nat.le_trans (Keep.refl h0 []).1 (Nat.le_of_eq z1.symm)))
  have O2 : own_Old Z h2 := O1.wr W2 (own_ge O0 (Nat.le_of_eq z1.symm))
  rw [own_narC g0_hch] at W2
  have V2 : Arv Z h2 b1 k1 .char (7 : Int32) [(.int ch), (.int 0), (.int 0), (.int 0), (.int 0), (.int 0), (.int 0)] (.int 0) := Arv.set Ar2 q2 S2 M2 H2 G2 (own_fitC g0_hch) W2 0 rfl (Nat.le_of_ble_eq_true rfl)
  have N2 := Fr.snoc X2 N0 (own_ge O0 (Nat.le_of_eq z1.symm))
  refine hG _ _ (fun t_ k_ => XS.dup X2.here hx rfl (hb hby d5_63) rfl rfl k_) ?_
  refine hG _ _ (fun t_ k_ => XS.iconst X2.here hx rfl (hb hby d5_64) k_) ?_
  refine hG _ _ (fun t_ k_ => XS.bipush X2.here hx rfl (hb hby d5_65) k_) ?_
  obtain ⟨c3, Ar3, q3, S3, M3, H3, G3⟩ := id V2
  obtain ⟨T3, h3, X3, e3, W3, st3⟩ := stC X2 hx hZ e2 Ar3 (j := (1 : Int32)) (inb_of S3 ⟨by decide, by decide⟩) (g := (mkF m 67 #[oi 1, oi ch] [(.int 102), (.int 1), (.ref b1), (.ref b1)])) rfl rfl (hb hby d5_67)
  refine hG _ _ st3 ?_
  have K3 : Keep h0 h3 [] := K2.wr W3 (Or.inr (Nat.le_trans (Keep.refl h0 []).1 (Nat.le_of_eq z1.symm)))
  have O3 : own_Old Z h3 := O2.wr W3 (own_ge O0 (Nat.le_of_eq z1.symm))
  rw [own_narC (by decide)] at W3
  have V3 : Arv Z h3 b1 k1 .char (7 : Int32) [(.int ch), (.int 102), (.int 0), (.int 0), (.int 0), (.int 0), (.int 0)] (.int 0) := Arv.set Ar3 q3 S3 M3 H3 G3 (own_fitC (by decide)) W3 1 rfl (Nat.le_of_ble_eq_true rfl)
  have N3 := Fr.snoc X3 N2 (own_ge O0 (Nat.le_of_eq z1.symm))
  refine hG _ _ (fun t_ k_ => XS.dup X3.here hx rfl (hb hby d5_68) rfl rfl k_) ?_
  refine hG _ _ (fun t_ k_ => XS.iconst X3.here hx rfl (hb hby d5_69) k_) ?_
  refine hG _ _ (fun t_ k_ => XS.bipush X3.here hx rfl (hb hby d5_70) k_) ?_
  obtain ⟨c4, Ar4, q4, S4, M4, H4, G4⟩ := id V3
  obtain ⟨T4, h4, X4, e4, W4, st4⟩ := stC X3 hx hZ e3 Ar4 (j := (2 : Int32)) (inb_of S4 ⟨by decide, by decide⟩) (g := (mkF m 72 #[oi 1, oi ch] [(.int 97), (.int 2), (.ref b1), (.ref b1)])) rfl rfl (hb hby d5_72)
  refine hG _ _ st4 ?_
  have K4 : Keep h0 h4 [] := K3.wr W4 (Or.inr (Nat.le_trans (Keep.refl h0 []).1 (Nat.le_of_eq z1.symm)))
  have O4 : own_Old Z h4 := O3.wr W4 (own_ge O0 (Nat.le_of_eq z1.symm))
  rw [own_narC (by decide)] at W4
  have V4 : Arv Z h4 b1 k1 .char (7 : Int32) [(.int ch), (.int 102), (.int 97), (.int 0), (.int 0), (.int 0), (.int 0)] (.int 0) := Arv.set Ar4 q4 S4 M4 H4 G4 (own_fitC (by decide)) W4 2 rfl (Nat.le_of_ble_eq_true rfl)
  have N4 := Fr.snoc X4 N3 (own_ge O0 (Nat.le_of_eq z1.symm))
  refine hG _ _ (fun t_ k_ => XS.dup X4.here hx rfl (hb hby d5_73) rfl rfl k_) ?_
  refine hG _ _ (fun t_ k_ => XS.iconst X4.here hx rfl (hb hby d5_74) k_) ?_
  refine hG _ _ (fun t_ k_ => XS.bipush X4.here hx rfl (hb hby d5_75) k_) ?_
  show G (T4.setTop (mkF m 77 #[oi 1, oi ch] [(.int 105), (.int 3), (.ref b1), (.ref b1)]))
  obtain ⟨c5, Ar5, q5, S5, M5, H5, G5⟩ := id V4
  obtain ⟨T5, h5, X5, e5, W5, st5⟩ := stC X4 hx hZ e4 Ar5 (j := (3 : Int32)) (inb_of S5 ⟨by decide, by decide⟩) (g := (mkF m 77 #[oi 1, oi ch] [(.int 105), (.int 3), (.ref b1), (.ref b1)])) rfl rfl (hb hby d5_77)
  refine hG _ _ st5 ?_
  have K5 : Keep h0 h5 [] := K4.wr W5 (Or.inr (Nat.le_trans (Keep.refl h0 []).1 (Nat.le_of_eq z1.symm)))
  have O5 : own_Old Z h5 := O4.wr W5 (own_ge O0 (Nat.le_of_eq z1.symm))
  rw [own_narC (by decide)] at W5
  have V5 : Arv Z h5 b1 k1 .char (7 : Int32) [(.int ch), (.int 102), (.int 97), (.int 105), (.int 0), (.int 0), (.int 0)] (.int 0) := Arv.set Ar5 q5 S5 M5 H5 G5 (own_fitC (by decide)) W5 3 rfl (Nat.le_of_ble_eq_true rfl)
  have N5 := Fr.snoc X5 N4 (own_ge O0 (Nat.le_of_eq z1.symm))
  refine hG _ _ (fun t_ k_ => XS.dup X5.here hx rfl (hb hby d5_78) rfl rfl k_) ?_
  refine hG _ _ (fun t_ k_ => XS.iconst X5.here hx rfl (hb hby d5_79) k_) ?_
  refine hG _ _ (fun t_ k_ => XS.bipush X5.here hx rfl (hb hby d5_80) k_) ?_
  obtain ⟨c6, Ar6, q6, S6, M6, H6, G6⟩ := id V5
  obtain ⟨T6, h6, X6, e6, W6, st6⟩ := stC X5 hx hZ e5 Ar6 (j := (4 : Int32)) (inb_of S6 ⟨by decide, by decide⟩) (g := (mkF m 82 #[oi 1, oi ch] [(.int 108), (.int 4), (.ref b1), (.ref b1)])) rfl rfl (hb hby d5_82)
  refine hG _ _ st6 ?_
  have K6 : Keep h0 h6 [] := K5.wr W6 (Or.inr (Nat.le_trans (Keep.refl h0 []).1 (Nat.le_of_eq z1.symm)))
  have O6 : own_Old Z h6 := O5.wr W6 (own_ge O0 (Nat.le_of_eq z1.symm))
  rw [own_narC (by decide)] at W6
  have V6 : Arv Z h6 b1 k1 .char (7 : Int32) [(.int ch), (.int 102), (.int 97), (.int 105), (.int 108), (.int 0), (.int 0)] (.int 0) := Arv.set Ar6 q6 S6 M6 H6 G6 (own_fitC (by decide)) W6 4 rfl (Nat.le_of_ble_eq_true rfl)
  have N6 := Fr.snoc X6 N5 (own_ge O0 (Nat.le_of_eq z1.symm))
  refine hG _ _ (fun t_ k_ => XS.dup X6.here hx rfl (hb hby d5_83) rfl rfl k_) ?_
  refine hG _ _ (fun t_ k_ => XS.iconst X6.here hx rfl (hb hby d5_84) k_) ?_
  refine hG _ _ (fun t_ k_ => XS.bipush X6.here hx rfl (hb hby d5_85) k_) ?_
  obtain ⟨c7, Ar7, q7, S7, M7, H7, G7⟩ := id V6
  obtain ⟨T7, h7, X7, e7, W7, st7⟩ := stC X6 hx hZ e6 Ar7 (j := (5 : Int32)) (inb_of S7 ⟨by decide, by decide⟩) (g := (mkF m 87 #[oi 1, oi ch] [(.int 101), (.int 5), (.ref b1), (.ref b1)])) rfl rfl (hb hby d5_87)
  refine hG _ _ st7 ?_
  have K7 : Keep h0 h7 [] := K6.wr W7 (Or.inr (Nat.le_trans (Keep.refl h0 []).1 (Nat.le_of_eq z1.symm)))
  have O7 : own_Old Z h7 := O6.wr W7 (own_ge O0 (Nat.le_of_eq z1.symm))
  rw [own_narC (by decide)] at W7
  have V7 : Arv Z h7 b1 k1 .char (7 : Int32) [(.int ch), (.int 102), (.int 97), (.int 105), (.int 108), (.int 101), (.int 0)] (.int 0) := Arv.set Ar7 q7 S7 M7 H7 G7 (own_fitC (by decide)) W7 5 rfl (Nat.le_of_ble_eq_true rfl)
  have N7 := Fr.snoc X7 N6 (own_ge O0 (Nat.le_of_eq z1.symm))
  refine hG _ _ (fun t_ k_ => XS.dup X7.here hx rfl (hb hby d5_88) rfl rfl k_) ?_
  refine hG _ _ (fun t_ k_ => XS.bipush X7.here hx rfl (hb hby d5_89) k_) ?_
  refine hG _ _ (fun t_ k_ => XS.bipush X7.here hx rfl (hb hby d5_91) k_) ?_
  obtain ⟨c8, Ar8, q8, S8, M8, H8, G8⟩ := id V7
  obtain ⟨T8, h8, X8, e8, W8, st8⟩ := stC X7 hx hZ e7 Ar8 (j := (6 : Int32)) (inb_of S8 ⟨by decide, by decide⟩) (g := (mkF m 93 #[oi 1, oi ch] [(.int 100), (.int 6), (.ref b1), (.ref b1)])) rfl rfl (hb hby d5_93)
  refine hG _ _ st8 ?_
  have K8 : Keep h0 h8 [] := K7.wr W8 (Or.inr (Nat.le_trans (Keep.refl h0 []).1 (Nat.le_of_eq z1.symm)))
  have O8 : own_Old Z h8 := O7.wr W8 (own_ge O0 (Nat.le_of_eq z1.symm))
  rw [own_narC (by decide)] at W8
  have V8 : Arv Z h8 b1 k1 .char (7 : Int32) [(.int ch), (.int 102), (.int 97), (.int 105), (.int 108), (.int 101), (.int 100)] (.int 0) := Arv.set Ar8 q8 S8 M8 H8 G8 (own_fitC (by decide)) W8 6 rfl (Nat.le_of_ble_eq_true rfl)
  have N8 := Fr.snoc X8 N7 (own_ge O0 (Nat.le_of_eq z1.symm))
  show G (T8.setTop (mkF m 94 #[oi 1, oi ch] [(.ref b1)]))
  exact own_retA hR hret rfl rfl X8 hx (hb hby d5_94) (by decide) (by decide) (by rw [e8]; exact ⟨b1, k1, rfl, N8, K8, (Nat.le_trans (Keep.refl h0 []).1 (Nat.le_of_eq z1.symm)), V8⟩)
theorem own_mk_lit_2 (l : Launch) (Z : State) (a0 : Array Value) (hw : ∀ d ∈ tables_1, d.before a0 Z = true) (h0 : Heap) (O0 : own_Old Z h0) :
    own_Con l Z (⟨"com/example/handlewright/handlewright/DomainStatusFindPinLaw", "lit", "(I)[C"⟩ : MethodName) method_3_code 1 (some (.array .char)) [] ({ frames := 0, cells := 1, slots := 13, locals := 0 } : Room) #[(.int 2)] h0 (fun rv rh rL => ∃ (u : Addr) (ku : ClassId), rv = some (.ref u) ∧ own_Fr Z rL ∧ Keep h0 rh [] ∧ h0.size ≤ u ∧ (Arv Z rh u ku .char (13 : Int32) [(.int 112), (.int 101), (.int 110), (.int 100), (.int 105), (.int 110), (.int 103), (.int 67), (.int 114), (.int 101), (.int 97), (.int 116), (.int 101)] (.int 0))) := by
  refine own_intro (plainFor_of_name (by first | (simp [plainName, overriddenIn]; done) | decide +kernel)) ?_
  intro p e s m below meth c s₁ G hx hby hml hown hnm hret hZ X0 e0 hG hR
  have N0 := Fr.nil Z.heap.size
  refine own_entry (Ls := #[.val (.int 2)]) (by first | (simp [entryFrame, mkF, argsToLocals, Value.category]; done) | rfl) ?_
  show G (s₁.setTop (mkF m 0 #[oi 2] []))
  refine hG _ _ (fun t_ k_ => XS.iloadN X0.here hx rfl (hb hby d13_0) rfl k_) ?_
  show G (s₁.setTop (mkF m 1 #[oi 2] [(.int 2)]))
  refine hG _ _ (fun t_ k_ => XS.ifYes X0.here hx rfl (pc0 := 1) (pc' := 45) rfl (hb hby d13_1) rfl ((if0 _ _).trans (feq (by decide)).2) (by decide) (by decide) k_) ?_
  show G (s₁.setTop (mkF m 45 #[oi 2] []))
  refine hG _ _ (fun t_ k_ => XS.iloadN X0.here hx rfl (hb hby d13_45) rfl k_) ?_
  refine hG _ _ (fun t_ k_ => XS.iconst X0.here hx rfl (hb hby d13_46) k_) ?_
  show G (s₁.setTop (mkF m 47 #[oi 2] [(.int 1), (.int 2)]))
  refine hG _ _ (fun t_ k_ => XS.icmpYes X0.here hx rfl (pc0 := 47) (pc' := 85) rfl (hb hby d13_47) rfl (feq (by decide)).2 (by decide) (by decide) k_) ?_
  show G (s₁.setTop (mkF m 85 #[oi 2] []))
  refine hG _ _ (fun t_ k_ => XS.bipush X0.here hx rfl (hb hby d13_85) k_) ?_
  obtain ⟨T1, h1, k1, X1, e1, E1, A1, st1⟩ := newP X0 hx hZ (ow hw 45 rfl) e0 (g := (mkF m 87 #[oi 2] [(.int 13)])) rfl (hb hby d13_87) rfl (by decide) (cap := 13) (by decide) (by decide) (by decide) (by decide)
  obtain ⟨b1, z1⟩ : ∃ z, z = h0.size := ⟨_, rfl⟩
  rw [← z1] at A1 st1
  refine hG _ _ st1 ?_
  have K1 : Keep h0 h1 [] := (Keep.refl h0 []).ext E1
  have O1 : own_Old Z h1 := O0.ext E1
  have V1 : Arv Z h1 b1 k1 .char (13 : Int32) [(.int 0), (.int 0), (.int 0), (.int 0), (.int 0), (.int 0), (.int 0), (.int 0), (.int 0), (.int 0), (.int 0), (.int 0), (.int 0)] (.int 0) := (Arv.new A1 (by decide)).pad (pad_rep [] (.int 0) 13)
  refine hG _ _ (fun t_ k_ => XS.dup X1.here hx rfl (hb hby d13_89) rfl rfl k_) ?_
  refine hG _ _ (fun t_ k_ => XS.iconst X1.here hx rfl (hb hby d13_90) k_) ?_
  refine hG _ _ (fun t_ k_ => XS.bipush X1.here hx rfl (hb hby d13_91) k_) ?_
  obtain ⟨c2, Ar2, q2, S2, M2, H2, G2⟩ := id V1
  obtain ⟨T2, h2, X2, e2, W2, st2⟩ := stC X1 hx hZ e1 Ar2 (j := (0 : Int32)) (inb_of S2 ⟨by decide, by decide⟩) (g := (mkF m 93 #[oi 2] [(.int 112), (.int 0), (.ref b1), (.ref b1)])) rfl rfl (hb hby d13_93)
  refine hG _ _ st2 ?_
  have K2 : Keep h0 h2 [] := K1.wr W2 (Or.inr (Nat.le_trans (Keep.refl h0 []).1 (Nat.le_of_eq z1.symm)))
  have O2 : own_Old Z h2 := O1.wr W2 (own_ge O0 (Nat.le_of_eq z1.symm))
  rw [own_narC (by decide)] at W2
  have V2 : Arv Z h2 b1 k1 .char (13 : Int32) [(.int 112), (.int 0), (.int 0), (.int 0), (.int 0), (.int 0), (.int 0), (.int 0), (.int 0), (.int 0), (.int 0), (.int 0), (.int 0)] (.int 0) := Arv.set Ar2 q2 S2 M2 H2 G2 (own_fitC (by decide)) W2 0 rfl (Nat.le_of_ble_eq_true rfl)
  have N2 := Fr.snoc X2 N0 (own_ge O0 (Nat.le_of_eq z1.symm))
  refine hG _ _ (fun t_ k_ => XS.dup X2.here hx rfl (hb hby d13_94) rfl rfl k_) ?_
  refine hG _ _ (fun t_ k_ => XS.iconst X2.here hx rfl (hb hby d13_95) k_) ?_
  refine hG _ _ (fun t_ k_ => XS.bipush X2.here hx rfl (hb hby d13_96) k_) ?_
  obtain ⟨c3, Ar3, q3, S3, M3, H3, G3⟩ := id V2
  obtain ⟨T3, h3, X3, e3, W3, st3⟩ := stC X2 hx hZ e2 Ar3 (j := (1 : Int32)) (inb_of S3 ⟨by decide, by decide⟩) (g := (mkF m 98 #[oi 2] [(.int 101), (.int 1), (.ref b1), (.ref b1)])) rfl rfl (hb hby d13_98)
  refine hG _ _ st3 ?_
  have K3 : Keep h0 h3 [] := K2.wr W3 (Or.inr (Nat.le_trans (Keep.refl h0 []).1 (Nat.le_of_eq z1.symm)))
  have O3 : own_Old Z h3 := O2.wr W3 (own_ge O0 (Nat.le_of_eq z1.symm))
  rw [own_narC (by decide)] at W3
  have V3 : Arv Z h3 b1 k1 .char (13 : Int32) [(.int 112), (.int 101), (.int 0), (.int 0), (.int 0), (.int 0), (.int 0), (.int 0), (.int 0), (.int 0), (.int 0), (.int 0), (.int 0)] (.int 0) := Arv.set Ar3 q3 S3 M3 H3 G3 (own_fitC (by decide)) W3 1 rfl (Nat.le_of_ble_eq_true rfl)
  have N3 := Fr.snoc X3 N2 (own_ge O0 (Nat.le_of_eq z1.symm))
  refine hG _ _ (fun t_ k_ => XS.dup X3.here hx rfl (hb hby d13_99) rfl rfl k_) ?_
  refine hG _ _ (fun t_ k_ => XS.iconst X3.here hx rfl (hb hby d13_100) k_) ?_
  refine hG _ _ (fun t_ k_ => XS.bipush X3.here hx rfl (hb hby d13_101) k_) ?_
  obtain ⟨c4, Ar4, q4, S4, M4, H4, G4⟩ := id V3
  obtain ⟨T4, h4, X4, e4, W4, st4⟩ := stC X3 hx hZ e3 Ar4 (j := (2 : Int32)) (inb_of S4 ⟨by decide, by decide⟩) (g := (mkF m 103 #[oi 2] [(.int 110), (.int 2), (.ref b1), (.ref b1)])) rfl rfl (hb hby d13_103)
  refine hG _ _ st4 ?_
  have K4 : Keep h0 h4 [] := K3.wr W4 (Or.inr (Nat.le_trans (Keep.refl h0 []).1 (Nat.le_of_eq z1.symm)))
  have O4 : own_Old Z h4 := O3.wr W4 (own_ge O0 (Nat.le_of_eq z1.symm))
  rw [own_narC (by decide)] at W4
  have V4 : Arv Z h4 b1 k1 .char (13 : Int32) [(.int 112), (.int 101), (.int 110), (.int 0), (.int 0), (.int 0), (.int 0), (.int 0), (.int 0), (.int 0), (.int 0), (.int 0), (.int 0)] (.int 0) := Arv.set Ar4 q4 S4 M4 H4 G4 (own_fitC (by decide)) W4 2 rfl (Nat.le_of_ble_eq_true rfl)
  have N4 := Fr.snoc X4 N3 (own_ge O0 (Nat.le_of_eq z1.symm))
  refine hG _ _ (fun t_ k_ => XS.dup X4.here hx rfl (hb hby d13_104) rfl rfl k_) ?_
  refine hG _ _ (fun t_ k_ => XS.iconst X4.here hx rfl (hb hby d13_105) k_) ?_
  refine hG _ _ (fun t_ k_ => XS.bipush X4.here hx rfl (hb hby d13_106) k_) ?_
  show G (T4.setTop (mkF m 108 #[oi 2] [(.int 100), (.int 3), (.ref b1), (.ref b1)]))
  obtain ⟨c5, Ar5, q5, S5, M5, H5, G5⟩ := id V4
  obtain ⟨T5, h5, X5, e5, W5, st5⟩ := stC X4 hx hZ e4 Ar5 (j := (3 : Int32)) (inb_of S5 ⟨by decide, by decide⟩) (g := (mkF m 108 #[oi 2] [(.int 100), (.int 3), (.ref b1), (.ref b1)])) rfl rfl (hb hby d13_108)
  refine hG _ _ st5 ?_
  have K5 : Keep h0 h5 [] := K4.wr W5 (Or.inr (Nat.le_trans (Keep.refl h0 []).1 (Nat.le_of_eq z1.symm)))
  have O5 : own_Old Z h5 := O4.wr W5 (own_ge O0 (Nat.le_of_eq z1.symm))
  rw [own_narC (by decide)] at W5
  have V5 : Arv Z h5 b1 k1 .char (13 : Int32) [(.int 112), (.int 101), (.int 110), (.int 100), (.int 0), (.int 0), (.int 0), (.int 0), (.int 0), (.int 0), (.int 0), (.int 0), (.int 0)] (.int 0) := Arv.set Ar5 q5 S5 M5 H5 G5 (own_fitC (by decide)) W5 3 rfl (Nat.le_of_ble_eq_true rfl)
  have N5 := Fr.snoc X5 N4 (own_ge O0 (Nat.le_of_eq z1.symm))
  refine hG _ _ (fun t_ k_ => XS.dup X5.here hx rfl (hb hby d13_109) rfl rfl k_) ?_
  refine hG _ _ (fun t_ k_ => XS.iconst X5.here hx rfl (hb hby d13_110) k_) ?_
  refine hG _ _ (fun t_ k_ => XS.bipush X5.here hx rfl (hb hby d13_111) k_) ?_
  obtain ⟨c6, Ar6, q6, S6, M6, H6, G6⟩ := id V5
  obtain ⟨T6, h6, X6, e6, W6, st6⟩ := stC X5 hx hZ e5 Ar6 (j := (4 : Int32)) (inb_of S6 ⟨by decide, by decide⟩) (g := (mkF m 113 #[oi 2] [(.int 105), (.int 4), (.ref b1), (.ref b1)])) rfl rfl (hb hby d13_113)
  refine hG _ _ st6 ?_
  have K6 : Keep h0 h6 [] := K5.wr W6 (Or.inr (Nat.le_trans (Keep.refl h0 []).1 (Nat.le_of_eq z1.symm)))
  have O6 : own_Old Z h6 := O5.wr W6 (own_ge O0 (Nat.le_of_eq z1.symm))
  rw [own_narC (by decide)] at W6
  have V6 : Arv Z h6 b1 k1 .char (13 : Int32) [(.int 112), (.int 101), (.int 110), (.int 100), (.int 105), (.int 0), (.int 0), (.int 0), (.int 0), (.int 0), (.int 0), (.int 0), (.int 0)] (.int 0) := Arv.set Ar6 q6 S6 M6 H6 G6 (own_fitC (by decide)) W6 4 rfl (Nat.le_of_ble_eq_true rfl)
  have N6 := Fr.snoc X6 N5 (own_ge O0 (Nat.le_of_eq z1.symm))
  refine hG _ _ (fun t_ k_ => XS.dup X6.here hx rfl (hb hby d13_114) rfl rfl k_) ?_
  refine hG _ _ (fun t_ k_ => XS.iconst X6.here hx rfl (hb hby d13_115) k_) ?_
  refine hG _ _ (fun t_ k_ => XS.bipush X6.here hx rfl (hb hby d13_116) k_) ?_
  obtain ⟨c7, Ar7, q7, S7, M7, H7, G7⟩ := id V6
  obtain ⟨T7, h7, X7, e7, W7, st7⟩ := stC X6 hx hZ e6 Ar7 (j := (5 : Int32)) (inb_of S7 ⟨by decide, by decide⟩) (g := (mkF m 118 #[oi 2] [(.int 110), (.int 5), (.ref b1), (.ref b1)])) rfl rfl (hb hby d13_118)
  refine hG _ _ st7 ?_
  have K7 : Keep h0 h7 [] := K6.wr W7 (Or.inr (Nat.le_trans (Keep.refl h0 []).1 (Nat.le_of_eq z1.symm)))
  have O7 : own_Old Z h7 := O6.wr W7 (own_ge O0 (Nat.le_of_eq z1.symm))
  rw [own_narC (by decide)] at W7
  have V7 : Arv Z h7 b1 k1 .char (13 : Int32) [(.int 112), (.int 101), (.int 110), (.int 100), (.int 105), (.int 110), (.int 0), (.int 0), (.int 0), (.int 0), (.int 0), (.int 0), (.int 0)] (.int 0) := Arv.set Ar7 q7 S7 M7 H7 G7 (own_fitC (by decide)) W7 5 rfl (Nat.le_of_ble_eq_true rfl)
  have N7 := Fr.snoc X7 N6 (own_ge O0 (Nat.le_of_eq z1.symm))
  refine hG _ _ (fun t_ k_ => XS.dup X7.here hx rfl (hb hby d13_119) rfl rfl k_) ?_
  refine hG _ _ (fun t_ k_ => XS.bipush X7.here hx rfl (hb hby d13_120) k_) ?_
  refine hG _ _ (fun t_ k_ => XS.bipush X7.here hx rfl (hb hby d13_122) k_) ?_
  obtain ⟨c8, Ar8, q8, S8, M8, H8, G8⟩ := id V7
  obtain ⟨T8, h8, X8, e8, W8, st8⟩ := stC X7 hx hZ e7 Ar8 (j := (6 : Int32)) (inb_of S8 ⟨by decide, by decide⟩) (g := (mkF m 124 #[oi 2] [(.int 103), (.int 6), (.ref b1), (.ref b1)])) rfl rfl (hb hby d13_124)
  refine hG _ _ st8 ?_
  have K8 : Keep h0 h8 [] := K7.wr W8 (Or.inr (Nat.le_trans (Keep.refl h0 []).1 (Nat.le_of_eq z1.symm)))
  have O8 : own_Old Z h8 := O7.wr W8 (own_ge O0 (Nat.le_of_eq z1.symm))
  rw [own_narC (by decide)] at W8
  have V8 : Arv Z h8 b1 k1 .char (13 : Int32) [(.int 112), (.int 101), (.int 110), (.int 100), (.int 105), (.int 110), (.int 103), (.int 0), (.int 0), (.int 0), (.int 0), (.int 0), (.int 0)] (.int 0) := Arv.set Ar8 q8 S8 M8 H8 G8 (own_fitC (by decide)) W8 6 rfl (Nat.le_of_ble_eq_true rfl)
  have N8 := Fr.snoc X8 N7 (own_ge O0 (Nat.le_of_eq z1.symm))
  refine hG _ _ (fun t_ k_ => XS.dup X8.here hx rfl (hb hby d13_125) rfl rfl k_) ?_
  refine hG _ _ (fun t_ k_ => XS.bipush X8.here hx rfl (hb hby d13_126) k_) ?_
  refine hG _ _ (fun t_ k_ => XS.bipush X8.here hx rfl (hb hby d13_128) k_) ?_
  obtain ⟨c9, Ar9, q9, S9, M9, H9, G9⟩ := id V8
  obtain ⟨T9, h9, X9, e9, W9, st9⟩ := stC X8 hx hZ e8 Ar9 (j := (7 : Int32)) (inb_of S9 ⟨by decide, by decide⟩) (g := (mkF m 130 #[oi 2] [(.int 67), (.int 7), (.ref b1), (.ref b1)])) rfl rfl (hb hby d13_130)
  refine hG _ _ st9 ?_
  have K9 : Keep h0 h9 [] := K8.wr W9 (Or.inr (Nat.le_trans (Keep.refl h0 []).1 (Nat.le_of_eq z1.symm)))
  have O9 : own_Old Z h9 := O8.wr W9 (own_ge O0 (Nat.le_of_eq z1.symm))
  rw [own_narC (by decide)] at W9
  have V9 : Arv Z h9 b1 k1 .char (13 : Int32) [(.int 112), (.int 101), (.int 110), (.int 100), (.int 105), (.int 110), (.int 103), (.int 67), (.int 0), (.int 0), (.int 0), (.int 0), (.int 0)] (.int 0) := Arv.set Ar9 q9 S9 M9 H9 G9 (own_fitC (by decide)) W9 7 rfl (Nat.le_of_ble_eq_true rfl)
  have N9 := Fr.snoc X9 N8 (own_ge O0 (Nat.le_of_eq z1.symm))
  show G (T9.setTop (mkF m 131 #[oi 2] [(.ref b1)]))
  refine hG _ _ (fun t_ k_ => XS.dup X9.here hx rfl (hb hby d13_131) rfl rfl k_) ?_
  refine hG _ _ (fun t_ k_ => XS.bipush X9.here hx rfl (hb hby d13_132) k_) ?_
  refine hG _ _ (fun t_ k_ => XS.bipush X9.here hx rfl (hb hby d13_134) k_) ?_
  obtain ⟨c10, Ar10, q10, S10, M10, H10, G10⟩ := id V9
  obtain ⟨T10, h10, X10, e10, W10, st10⟩ := stC X9 hx hZ e9 Ar10 (j := (8 : Int32)) (inb_of S10 ⟨by decide, by decide⟩) (g := (mkF m 136 #[oi 2] [(.int 114), (.int 8), (.ref b1), (.ref b1)])) rfl rfl (hb hby d13_136)
  refine hG _ _ st10 ?_
  have K10 : Keep h0 h10 [] := K9.wr W10 (Or.inr (Nat.le_trans (Keep.refl h0 []).1 (Nat.le_of_eq z1.symm)))
  have O10 : own_Old Z h10 := O9.wr W10 (own_ge O0 (Nat.le_of_eq z1.symm))
  rw [own_narC (by decide)] at W10
  have V10 : Arv Z h10 b1 k1 .char (13 : Int32) [(.int 112), (.int 101), (.int 110), (.int 100), (.int 105), (.int 110), (.int 103), (.int 67), (.int 114), (.int 0), (.int 0), (.int 0), (.int 0)] (.int 0) := Arv.set Ar10 q10 S10 M10 H10 G10 (own_fitC (by decide)) W10 8 rfl (Nat.le_of_ble_eq_true rfl)
  have N10 := Fr.snoc X10 N9 (own_ge O0 (Nat.le_of_eq z1.symm))
  refine hG _ _ (fun t_ k_ => XS.dup X10.here hx rfl (hb hby d13_137) rfl rfl k_) ?_
  refine hG _ _ (fun t_ k_ => XS.bipush X10.here hx rfl (hb hby d13_138) k_) ?_
  refine hG _ _ (fun t_ k_ => XS.bipush X10.here hx rfl (hb hby d13_140) k_) ?_
  obtain ⟨c11, Ar11, q11, S11, M11, H11, G11⟩ := id V10
  obtain ⟨T11, h11, X11, e11, W11, st11⟩ := stC X10 hx hZ e10 Ar11 (j := (9 : Int32)) (inb_of S11 ⟨by decide, by decide⟩) (g := (mkF m 142 #[oi 2] [(.int 101), (.int 9), (.ref b1), (.ref b1)])) rfl rfl (hb hby d13_142)
  refine hG _ _ st11 ?_
  have K11 : Keep h0 h11 [] := K10.wr W11 (Or.inr (Nat.le_trans (Keep.refl h0 []).1 (Nat.le_of_eq z1.symm)))
  have O11 : own_Old Z h11 := O10.wr W11 (own_ge O0 (Nat.le_of_eq z1.symm))
  rw [own_narC (by decide)] at W11
  have V11 : Arv Z h11 b1 k1 .char (13 : Int32) [(.int 112), (.int 101), (.int 110), (.int 100), (.int 105), (.int 110), (.int 103), (.int 67), (.int 114), (.int 101), (.int 0), (.int 0), (.int 0)] (.int 0) := Arv.set Ar11 q11 S11 M11 H11 G11 (own_fitC (by decide)) W11 9 rfl (Nat.le_of_ble_eq_true rfl)
  have N11 := Fr.snoc X11 N10 (own_ge O0 (Nat.le_of_eq z1.symm))
  refine hG _ _ (fun t_ k_ => XS.dup X11.here hx rfl (hb hby d13_143) rfl rfl k_) ?_
  refine hG _ _ (fun t_ k_ => XS.bipush X11.here hx rfl (hb hby d13_144) k_) ?_
  refine hG _ _ (fun t_ k_ => XS.bipush X11.here hx rfl (hb hby d13_146) k_) ?_
  obtain ⟨c12, Ar12, q12, S12, M12, H12, G12⟩ := id V11
  obtain ⟨T12, h12, X12, e12, W12, st12⟩ := stC X11 hx hZ e11 Ar12 (j := (10 : Int32)) (inb_of S12 ⟨by decide, by decide⟩) (g := (mkF m 148 #[oi 2] [(.int 97), (.int 10), (.ref b1), (.ref b1)])) rfl rfl (hb hby d13_148)
  refine hG _ _ st12 ?_
  have K12 : Keep h0 h12 [] := K11.wr W12 (Or.inr (Nat.le_trans (Keep.refl h0 []).1 (Nat.le_of_eq z1.symm)))
  have O12 : own_Old Z h12 := O11.wr W12 (own_ge O0 (Nat.le_of_eq z1.symm))
  rw [own_narC (by decide)] at W12
  have V12 : Arv Z h12 b1 k1 .char (13 : Int32) [(.int 112), (.int 101), (.int 110), (.int 100), (.int 105), (.int 110), (.int 103), (.int 67), (.int 114), (.int 101), (.int 97), (.int 0), (.int 0)] (.int 0) := Arv.set Ar12 q12 S12 M12 H12 G12 (own_fitC (by decide)) W12 10 rfl (Nat.le_of_ble_eq_true rfl)
  have N12 := Fr.snoc X12 N11 (own_ge O0 (Nat.le_of_eq z1.symm))
  refine hG _ _ (fun t_ k_ => XS.dup X12.here hx rfl (hb hby d13_149) rfl rfl k_) ?_
  refine hG _ _ (fun t_ k_ => XS.bipush X12.here hx rfl (hb hby d13_150) k_) ?_
  refine hG _ _ (fun t_ k_ => XS.bipush X12.here hx rfl (hb hby d13_152) k_) ?_
  obtain ⟨c13, Ar13, q13, S13, M13, H13, G13⟩ := id V12
  obtain ⟨T13, h13, X13, e13, W13, st13⟩ := stC X12 hx hZ e12 Ar13 (j := (11 : Int32)) (inb_of S13 ⟨by decide, by decide⟩) (g := (mkF m 154 #[oi 2] [(.int 116), (.int 11), (.ref b1), (.ref b1)])) rfl rfl (hb hby d13_154)
  refine hG _ _ st13 ?_
  have K13 : Keep h0 h13 [] := K12.wr W13 (Or.inr (Nat.le_trans (Keep.refl h0 []).1 (Nat.le_of_eq z1.symm)))
  have O13 : own_Old Z h13 := O12.wr W13 (own_ge O0 (Nat.le_of_eq z1.symm))
  rw [own_narC (by decide)] at W13
  have V13 : Arv Z h13 b1 k1 .char (13 : Int32) [(.int 112), (.int 101), (.int 110), (.int 100), (.int 105), (.int 110), (.int 103), (.int 67), (.int 114), (.int 101), (.int 97), (.int 116), (.int 0)] (.int 0) := Arv.set Ar13 q13 S13 M13 H13 G13 (own_fitC (by decide)) W13 11 rfl (Nat.le_of_ble_eq_true rfl)
  have N13 := Fr.snoc X13 N12 (own_ge O0 (Nat.le_of_eq z1.symm))
  refine hG _ _ (fun t_ k_ => XS.dup X13.here hx rfl (hb hby d13_155) rfl rfl k_) ?_
  show G (T13.setTop (mkF m 156 #[oi 2] [(.ref b1), (.ref b1)]))
  refine hG _ _ (fun t_ k_ => XS.bipush X13.here hx rfl (hb hby d13_156) k_) ?_
  refine hG _ _ (fun t_ k_ => XS.bipush X13.here hx rfl (hb hby d13_158) k_) ?_
  obtain ⟨c14, Ar14, q14, S14, M14, H14, G14⟩ := id V13
  obtain ⟨T14, h14, X14, e14, W14, st14⟩ := stC X13 hx hZ e13 Ar14 (j := (12 : Int32)) (inb_of S14 ⟨by decide, by decide⟩) (g := (mkF m 160 #[oi 2] [(.int 101), (.int 12), (.ref b1), (.ref b1)])) rfl rfl (hb hby d13_160)
  refine hG _ _ st14 ?_
  have K14 : Keep h0 h14 [] := K13.wr W14 (Or.inr (Nat.le_trans (Keep.refl h0 []).1 (Nat.le_of_eq z1.symm)))
  have O14 : own_Old Z h14 := O13.wr W14 (own_ge O0 (Nat.le_of_eq z1.symm))
  rw [own_narC (by decide)] at W14
  have V14 : Arv Z h14 b1 k1 .char (13 : Int32) [(.int 112), (.int 101), (.int 110), (.int 100), (.int 105), (.int 110), (.int 103), (.int 67), (.int 114), (.int 101), (.int 97), (.int 116), (.int 101)] (.int 0) := Arv.set Ar14 q14 S14 M14 H14 G14 (own_fitC (by decide)) W14 12 rfl (Nat.le_of_ble_eq_true rfl)
  have N14 := Fr.snoc X14 N13 (own_ge O0 (Nat.le_of_eq z1.symm))
  show G (T14.setTop (mkF m 161 #[oi 2] [(.ref b1)]))
  exact own_retA hR hret rfl rfl X14 hx (hb hby d13_161) (by decide) (by decide) (by rw [e14]; exact ⟨b1, k1, rfl, N14, K14, (Nat.le_trans (Keep.refl h0 []).1 (Nat.le_of_eq z1.symm)), V14⟩)
theorem own_mk_cut_2 (l : Launch) (Z : State) (a0 : Array Value) (hw : ∀ d ∈ tables_1, d.before a0 Z = true) (h0 : Heap) (O0 : own_Old Z h0) :
    own_Con l Z (⟨"com/example/handlewright/handlewright/DomainStatusFindPinLaw", "cut", "(I)[C"⟩ : MethodName) method_6_code 1 (some (.array .char)) [] ({ frames := 0, cells := 1, slots := 12, locals := 0 } : Room) #[(.int 2)] h0 (fun rv rh rL => ∃ (u : Addr) (ku : ClassId), rv = some (.ref u) ∧ own_Fr Z rL ∧ Keep h0 rh [] ∧ h0.size ≤ u ∧ (Arv Z rh u ku .char (12 : Int32) [(.int 112), (.int 101), (.int 110), (.int 100), (.int 105), (.int 110), (.int 103), (.int 67), (.int 114), (.int 101), (.int 97), (.int 116)] (.int 0))) := by
  refine own_intro (plainFor_of_name (by first | (simp [plainName, overriddenIn]; done) | decide +kernel)) ?_
  intro p e s m below meth c s₁ G hx hby hml hown hnm hret hZ X0 e0 hG hR
  have N0 := Fr.nil Z.heap.size
  refine own_entry (Ls := #[.val (.int 2)]) (by first | (simp [entryFrame, mkF, argsToLocals, Value.category]; done) | rfl) ?_
  show G (s₁.setTop (mkF m 0 #[oi 2] []))
  refine hG _ _ (fun t_ k_ => XS.iloadN X0.here hx rfl (hb hby d16_0) rfl k_) ?_
  show G (s₁.setTop (mkF m 1 #[oi 2] [(.int 2)]))
  refine hG _ _ (fun t_ k_ => XS.ifYes X0.here hx rfl (pc0 := 1) (pc' := 39) rfl (hb hby d16_1) rfl ((if0 _ _).trans (feq (by decide)).2) (by decide) (by decide) k_) ?_
  show G (s₁.setTop (mkF m 39 #[oi 2] []))
  refine hG _ _ (fun t_ k_ => XS.iloadN X0.here hx rfl (hb hby d16_39) rfl k_) ?_
  refine hG _ _ (fun t_ k_ => XS.iconst X0.here hx rfl (hb hby d16_40) k_) ?_
  show G (s₁.setTop (mkF m 41 #[oi 2] [(.int 1), (.int 2)]))
  refine hG _ _ (fun t_ k_ => XS.icmpYes X0.here hx rfl (pc0 := 41) (pc' := 73) rfl (hb hby d16_41) rfl (feq (by decide)).2 (by decide) (by decide) k_) ?_
  show G (s₁.setTop (mkF m 73 #[oi 2] []))
  refine hG _ _ (fun t_ k_ => XS.bipush X0.here hx rfl (hb hby d16_73) k_) ?_
  obtain ⟨T1, h1, k1, X1, e1, E1, A1, st1⟩ := newP X0 hx hZ (ow hw 45 rfl) e0 (g := (mkF m 75 #[oi 2] [(.int 12)])) rfl (hb hby d16_75) rfl (by decide) (cap := 12) (by decide) (by decide) (by decide) (by decide)
  obtain ⟨b1, z1⟩ : ∃ z, z = h0.size := ⟨_, rfl⟩
  rw [← z1] at A1 st1
  refine hG _ _ st1 ?_
  have K1 : Keep h0 h1 [] := (Keep.refl h0 []).ext E1
  have O1 : own_Old Z h1 := O0.ext E1
  have V1 : Arv Z h1 b1 k1 .char (12 : Int32) [(.int 0), (.int 0), (.int 0), (.int 0), (.int 0), (.int 0), (.int 0), (.int 0), (.int 0), (.int 0), (.int 0), (.int 0)] (.int 0) := (Arv.new A1 (by decide)).pad (pad_rep [] (.int 0) 12)
  refine hG _ _ (fun t_ k_ => XS.dup X1.here hx rfl (hb hby d16_77) rfl rfl k_) ?_
  refine hG _ _ (fun t_ k_ => XS.iconst X1.here hx rfl (hb hby d16_78) k_) ?_
  refine hG _ _ (fun t_ k_ => XS.bipush X1.here hx rfl (hb hby d16_79) k_) ?_
  obtain ⟨c2, Ar2, q2, S2, M2, H2, G2⟩ := id V1
  obtain ⟨T2, h2, X2, e2, W2, st2⟩ := stC X1 hx hZ e1 Ar2 (j := (0 : Int32)) (inb_of S2 ⟨by decide, by decide⟩) (g := (mkF m 81 #[oi 2] [(.int 112), (.int 0), (.ref b1), (.ref b1)])) rfl rfl (hb hby d16_81)
  refine hG _ _ st2 ?_
  have K2 : Keep h0 h2 [] := K1.wr W2 (Or.inr (Nat.le_trans (Keep.refl h0 []).1 (Nat.le_of_eq z1.symm)))
  have O2 : own_Old Z h2 := O1.wr W2 (own_ge O0 (Nat.le_of_eq z1.symm))
  rw [own_narC (by decide)] at W2
  have V2 : Arv Z h2 b1 k1 .char (12 : Int32) [(.int 112), (.int 0), (.int 0), (.int 0), (.int 0), (.int 0), (.int 0), (.int 0), (.int 0), (.int 0), (.int 0), (.int 0)] (.int 0) := Arv.set Ar2 q2 S2 M2 H2 G2 (own_fitC (by decide)) W2 0 rfl (Nat.le_of_ble_eq_true rfl)
  have N2 := Fr.snoc X2 N0 (own_ge O0 (Nat.le_of_eq z1.symm))
  refine hG _ _ (fun t_ k_ => XS.dup X2.here hx rfl (hb hby d16_82) rfl rfl k_) ?_
  refine hG _ _ (fun t_ k_ => XS.iconst X2.here hx rfl (hb hby d16_83) k_) ?_
  refine hG _ _ (fun t_ k_ => XS.bipush X2.here hx rfl (hb hby d16_84) k_) ?_
  obtain ⟨c3, Ar3, q3, S3, M3, H3, G3⟩ := id V2
  obtain ⟨T3, h3, X3, e3, W3, st3⟩ := stC X2 hx hZ e2 Ar3 (j := (1 : Int32)) (inb_of S3 ⟨by decide, by decide⟩) (g := (mkF m 86 #[oi 2] [(.int 101), (.int 1), (.ref b1), (.ref b1)])) rfl rfl (hb hby d16_86)
  refine hG _ _ st3 ?_
  have K3 : Keep h0 h3 [] := K2.wr W3 (Or.inr (Nat.le_trans (Keep.refl h0 []).1 (Nat.le_of_eq z1.symm)))
  have O3 : own_Old Z h3 := O2.wr W3 (own_ge O0 (Nat.le_of_eq z1.symm))
  rw [own_narC (by decide)] at W3
  have V3 : Arv Z h3 b1 k1 .char (12 : Int32) [(.int 112), (.int 101), (.int 0), (.int 0), (.int 0), (.int 0), (.int 0), (.int 0), (.int 0), (.int 0), (.int 0), (.int 0)] (.int 0) := Arv.set Ar3 q3 S3 M3 H3 G3 (own_fitC (by decide)) W3 1 rfl (Nat.le_of_ble_eq_true rfl)
  have N3 := Fr.snoc X3 N2 (own_ge O0 (Nat.le_of_eq z1.symm))
  refine hG _ _ (fun t_ k_ => XS.dup X3.here hx rfl (hb hby d16_87) rfl rfl k_) ?_
  refine hG _ _ (fun t_ k_ => XS.iconst X3.here hx rfl (hb hby d16_88) k_) ?_
  refine hG _ _ (fun t_ k_ => XS.bipush X3.here hx rfl (hb hby d16_89) k_) ?_
  obtain ⟨c4, Ar4, q4, S4, M4, H4, G4⟩ := id V3
  obtain ⟨T4, h4, X4, e4, W4, st4⟩ := stC X3 hx hZ e3 Ar4 (j := (2 : Int32)) (inb_of S4 ⟨by decide, by decide⟩) (g := (mkF m 91 #[oi 2] [(.int 110), (.int 2), (.ref b1), (.ref b1)])) rfl rfl (hb hby d16_91)
  refine hG _ _ st4 ?_
  have K4 : Keep h0 h4 [] := K3.wr W4 (Or.inr (Nat.le_trans (Keep.refl h0 []).1 (Nat.le_of_eq z1.symm)))
  have O4 : own_Old Z h4 := O3.wr W4 (own_ge O0 (Nat.le_of_eq z1.symm))
  rw [own_narC (by decide)] at W4
  have V4 : Arv Z h4 b1 k1 .char (12 : Int32) [(.int 112), (.int 101), (.int 110), (.int 0), (.int 0), (.int 0), (.int 0), (.int 0), (.int 0), (.int 0), (.int 0), (.int 0)] (.int 0) := Arv.set Ar4 q4 S4 M4 H4 G4 (own_fitC (by decide)) W4 2 rfl (Nat.le_of_ble_eq_true rfl)
  have N4 := Fr.snoc X4 N3 (own_ge O0 (Nat.le_of_eq z1.symm))
  refine hG _ _ (fun t_ k_ => XS.dup X4.here hx rfl (hb hby d16_92) rfl rfl k_) ?_
  refine hG _ _ (fun t_ k_ => XS.iconst X4.here hx rfl (hb hby d16_93) k_) ?_
  refine hG _ _ (fun t_ k_ => XS.bipush X4.here hx rfl (hb hby d16_94) k_) ?_
  show G (T4.setTop (mkF m 96 #[oi 2] [(.int 100), (.int 3), (.ref b1), (.ref b1)]))
  obtain ⟨c5, Ar5, q5, S5, M5, H5, G5⟩ := id V4
  obtain ⟨T5, h5, X5, e5, W5, st5⟩ := stC X4 hx hZ e4 Ar5 (j := (3 : Int32)) (inb_of S5 ⟨by decide, by decide⟩) (g := (mkF m 96 #[oi 2] [(.int 100), (.int 3), (.ref b1), (.ref b1)])) rfl rfl (hb hby d16_96)
  refine hG _ _ st5 ?_
  have K5 : Keep h0 h5 [] := K4.wr W5 (Or.inr (Nat.le_trans (Keep.refl h0 []).1 (Nat.le_of_eq z1.symm)))
  have O5 : own_Old Z h5 := O4.wr W5 (own_ge O0 (Nat.le_of_eq z1.symm))
  rw [own_narC (by decide)] at W5
  have V5 : Arv Z h5 b1 k1 .char (12 : Int32) [(.int 112), (.int 101), (.int 110), (.int 100), (.int 0), (.int 0), (.int 0), (.int 0), (.int 0), (.int 0), (.int 0), (.int 0)] (.int 0) := Arv.set Ar5 q5 S5 M5 H5 G5 (own_fitC (by decide)) W5 3 rfl (Nat.le_of_ble_eq_true rfl)
  have N5 := Fr.snoc X5 N4 (own_ge O0 (Nat.le_of_eq z1.symm))
  refine hG _ _ (fun t_ k_ => XS.dup X5.here hx rfl (hb hby d16_97) rfl rfl k_) ?_
  refine hG _ _ (fun t_ k_ => XS.iconst X5.here hx rfl (hb hby d16_98) k_) ?_
  refine hG _ _ (fun t_ k_ => XS.bipush X5.here hx rfl (hb hby d16_99) k_) ?_
  obtain ⟨c6, Ar6, q6, S6, M6, H6, G6⟩ := id V5
  obtain ⟨T6, h6, X6, e6, W6, st6⟩ := stC X5 hx hZ e5 Ar6 (j := (4 : Int32)) (inb_of S6 ⟨by decide, by decide⟩) (g := (mkF m 101 #[oi 2] [(.int 105), (.int 4), (.ref b1), (.ref b1)])) rfl rfl (hb hby d16_101)
  refine hG _ _ st6 ?_
  have K6 : Keep h0 h6 [] := K5.wr W6 (Or.inr (Nat.le_trans (Keep.refl h0 []).1 (Nat.le_of_eq z1.symm)))
  have O6 : own_Old Z h6 := O5.wr W6 (own_ge O0 (Nat.le_of_eq z1.symm))
  rw [own_narC (by decide)] at W6
  have V6 : Arv Z h6 b1 k1 .char (12 : Int32) [(.int 112), (.int 101), (.int 110), (.int 100), (.int 105), (.int 0), (.int 0), (.int 0), (.int 0), (.int 0), (.int 0), (.int 0)] (.int 0) := Arv.set Ar6 q6 S6 M6 H6 G6 (own_fitC (by decide)) W6 4 rfl (Nat.le_of_ble_eq_true rfl)
  have N6 := Fr.snoc X6 N5 (own_ge O0 (Nat.le_of_eq z1.symm))
  refine hG _ _ (fun t_ k_ => XS.dup X6.here hx rfl (hb hby d16_102) rfl rfl k_) ?_
  refine hG _ _ (fun t_ k_ => XS.iconst X6.here hx rfl (hb hby d16_103) k_) ?_
  refine hG _ _ (fun t_ k_ => XS.bipush X6.here hx rfl (hb hby d16_104) k_) ?_
  obtain ⟨c7, Ar7, q7, S7, M7, H7, G7⟩ := id V6
  obtain ⟨T7, h7, X7, e7, W7, st7⟩ := stC X6 hx hZ e6 Ar7 (j := (5 : Int32)) (inb_of S7 ⟨by decide, by decide⟩) (g := (mkF m 106 #[oi 2] [(.int 110), (.int 5), (.ref b1), (.ref b1)])) rfl rfl (hb hby d16_106)
  refine hG _ _ st7 ?_
  have K7 : Keep h0 h7 [] := K6.wr W7 (Or.inr (Nat.le_trans (Keep.refl h0 []).1 (Nat.le_of_eq z1.symm)))
  have O7 : own_Old Z h7 := O6.wr W7 (own_ge O0 (Nat.le_of_eq z1.symm))
  rw [own_narC (by decide)] at W7
  have V7 : Arv Z h7 b1 k1 .char (12 : Int32) [(.int 112), (.int 101), (.int 110), (.int 100), (.int 105), (.int 110), (.int 0), (.int 0), (.int 0), (.int 0), (.int 0), (.int 0)] (.int 0) := Arv.set Ar7 q7 S7 M7 H7 G7 (own_fitC (by decide)) W7 5 rfl (Nat.le_of_ble_eq_true rfl)
  have N7 := Fr.snoc X7 N6 (own_ge O0 (Nat.le_of_eq z1.symm))
  refine hG _ _ (fun t_ k_ => XS.dup X7.here hx rfl (hb hby d16_107) rfl rfl k_) ?_
  refine hG _ _ (fun t_ k_ => XS.bipush X7.here hx rfl (hb hby d16_108) k_) ?_
  refine hG _ _ (fun t_ k_ => XS.bipush X7.here hx rfl (hb hby d16_110) k_) ?_
  obtain ⟨c8, Ar8, q8, S8, M8, H8, G8⟩ := id V7
  obtain ⟨T8, h8, X8, e8, W8, st8⟩ := stC X7 hx hZ e7 Ar8 (j := (6 : Int32)) (inb_of S8 ⟨by decide, by decide⟩) (g := (mkF m 112 #[oi 2] [(.int 103), (.int 6), (.ref b1), (.ref b1)])) rfl rfl (hb hby d16_112)
  refine hG _ _ st8 ?_
  have K8 : Keep h0 h8 [] := K7.wr W8 (Or.inr (Nat.le_trans (Keep.refl h0 []).1 (Nat.le_of_eq z1.symm)))
  have O8 : own_Old Z h8 := O7.wr W8 (own_ge O0 (Nat.le_of_eq z1.symm))
  rw [own_narC (by decide)] at W8
  have V8 : Arv Z h8 b1 k1 .char (12 : Int32) [(.int 112), (.int 101), (.int 110), (.int 100), (.int 105), (.int 110), (.int 103), (.int 0), (.int 0), (.int 0), (.int 0), (.int 0)] (.int 0) := Arv.set Ar8 q8 S8 M8 H8 G8 (own_fitC (by decide)) W8 6 rfl (Nat.le_of_ble_eq_true rfl)
  have N8 := Fr.snoc X8 N7 (own_ge O0 (Nat.le_of_eq z1.symm))
  refine hG _ _ (fun t_ k_ => XS.dup X8.here hx rfl (hb hby d16_113) rfl rfl k_) ?_
  refine hG _ _ (fun t_ k_ => XS.bipush X8.here hx rfl (hb hby d16_114) k_) ?_
  refine hG _ _ (fun t_ k_ => XS.bipush X8.here hx rfl (hb hby d16_116) k_) ?_
  obtain ⟨c9, Ar9, q9, S9, M9, H9, G9⟩ := id V8
  obtain ⟨T9, h9, X9, e9, W9, st9⟩ := stC X8 hx hZ e8 Ar9 (j := (7 : Int32)) (inb_of S9 ⟨by decide, by decide⟩) (g := (mkF m 118 #[oi 2] [(.int 67), (.int 7), (.ref b1), (.ref b1)])) rfl rfl (hb hby d16_118)
  refine hG _ _ st9 ?_
  have K9 : Keep h0 h9 [] := K8.wr W9 (Or.inr (Nat.le_trans (Keep.refl h0 []).1 (Nat.le_of_eq z1.symm)))
  have O9 : own_Old Z h9 := O8.wr W9 (own_ge O0 (Nat.le_of_eq z1.symm))
  rw [own_narC (by decide)] at W9
  have V9 : Arv Z h9 b1 k1 .char (12 : Int32) [(.int 112), (.int 101), (.int 110), (.int 100), (.int 105), (.int 110), (.int 103), (.int 67), (.int 0), (.int 0), (.int 0), (.int 0)] (.int 0) := Arv.set Ar9 q9 S9 M9 H9 G9 (own_fitC (by decide)) W9 7 rfl (Nat.le_of_ble_eq_true rfl)
  have N9 := Fr.snoc X9 N8 (own_ge O0 (Nat.le_of_eq z1.symm))
  show G (T9.setTop (mkF m 119 #[oi 2] [(.ref b1)]))
  refine hG _ _ (fun t_ k_ => XS.dup X9.here hx rfl (hb hby d16_119) rfl rfl k_) ?_
  refine hG _ _ (fun t_ k_ => XS.bipush X9.here hx rfl (hb hby d16_120) k_) ?_
  refine hG _ _ (fun t_ k_ => XS.bipush X9.here hx rfl (hb hby d16_122) k_) ?_
  obtain ⟨c10, Ar10, q10, S10, M10, H10, G10⟩ := id V9
  obtain ⟨T10, h10, X10, e10, W10, st10⟩ := stC X9 hx hZ e9 Ar10 (j := (8 : Int32)) (inb_of S10 ⟨by decide, by decide⟩) (g := (mkF m 124 #[oi 2] [(.int 114), (.int 8), (.ref b1), (.ref b1)])) rfl rfl (hb hby d16_124)
  refine hG _ _ st10 ?_
  have K10 : Keep h0 h10 [] := K9.wr W10 (Or.inr (Nat.le_trans (Keep.refl h0 []).1 (Nat.le_of_eq z1.symm)))
  have O10 : own_Old Z h10 := O9.wr W10 (own_ge O0 (Nat.le_of_eq z1.symm))
  rw [own_narC (by decide)] at W10
  have V10 : Arv Z h10 b1 k1 .char (12 : Int32) [(.int 112), (.int 101), (.int 110), (.int 100), (.int 105), (.int 110), (.int 103), (.int 67), (.int 114), (.int 0), (.int 0), (.int 0)] (.int 0) := Arv.set Ar10 q10 S10 M10 H10 G10 (own_fitC (by decide)) W10 8 rfl (Nat.le_of_ble_eq_true rfl)
  have N10 := Fr.snoc X10 N9 (own_ge O0 (Nat.le_of_eq z1.symm))
  refine hG _ _ (fun t_ k_ => XS.dup X10.here hx rfl (hb hby d16_125) rfl rfl k_) ?_
  refine hG _ _ (fun t_ k_ => XS.bipush X10.here hx rfl (hb hby d16_126) k_) ?_
  refine hG _ _ (fun t_ k_ => XS.bipush X10.here hx rfl (hb hby d16_128) k_) ?_
  obtain ⟨c11, Ar11, q11, S11, M11, H11, G11⟩ := id V10
  obtain ⟨T11, h11, X11, e11, W11, st11⟩ := stC X10 hx hZ e10 Ar11 (j := (9 : Int32)) (inb_of S11 ⟨by decide, by decide⟩) (g := (mkF m 130 #[oi 2] [(.int 101), (.int 9), (.ref b1), (.ref b1)])) rfl rfl (hb hby d16_130)
  refine hG _ _ st11 ?_
  have K11 : Keep h0 h11 [] := K10.wr W11 (Or.inr (Nat.le_trans (Keep.refl h0 []).1 (Nat.le_of_eq z1.symm)))
  have O11 : own_Old Z h11 := O10.wr W11 (own_ge O0 (Nat.le_of_eq z1.symm))
  rw [own_narC (by decide)] at W11
  have V11 : Arv Z h11 b1 k1 .char (12 : Int32) [(.int 112), (.int 101), (.int 110), (.int 100), (.int 105), (.int 110), (.int 103), (.int 67), (.int 114), (.int 101), (.int 0), (.int 0)] (.int 0) := Arv.set Ar11 q11 S11 M11 H11 G11 (own_fitC (by decide)) W11 9 rfl (Nat.le_of_ble_eq_true rfl)
  have N11 := Fr.snoc X11 N10 (own_ge O0 (Nat.le_of_eq z1.symm))
  refine hG _ _ (fun t_ k_ => XS.dup X11.here hx rfl (hb hby d16_131) rfl rfl k_) ?_
  refine hG _ _ (fun t_ k_ => XS.bipush X11.here hx rfl (hb hby d16_132) k_) ?_
  refine hG _ _ (fun t_ k_ => XS.bipush X11.here hx rfl (hb hby d16_134) k_) ?_
  obtain ⟨c12, Ar12, q12, S12, M12, H12, G12⟩ := id V11
  obtain ⟨T12, h12, X12, e12, W12, st12⟩ := stC X11 hx hZ e11 Ar12 (j := (10 : Int32)) (inb_of S12 ⟨by decide, by decide⟩) (g := (mkF m 136 #[oi 2] [(.int 97), (.int 10), (.ref b1), (.ref b1)])) rfl rfl (hb hby d16_136)
  refine hG _ _ st12 ?_
  have K12 : Keep h0 h12 [] := K11.wr W12 (Or.inr (Nat.le_trans (Keep.refl h0 []).1 (Nat.le_of_eq z1.symm)))
  have O12 : own_Old Z h12 := O11.wr W12 (own_ge O0 (Nat.le_of_eq z1.symm))
  rw [own_narC (by decide)] at W12
  have V12 : Arv Z h12 b1 k1 .char (12 : Int32) [(.int 112), (.int 101), (.int 110), (.int 100), (.int 105), (.int 110), (.int 103), (.int 67), (.int 114), (.int 101), (.int 97), (.int 0)] (.int 0) := Arv.set Ar12 q12 S12 M12 H12 G12 (own_fitC (by decide)) W12 10 rfl (Nat.le_of_ble_eq_true rfl)
  have N12 := Fr.snoc X12 N11 (own_ge O0 (Nat.le_of_eq z1.symm))
  refine hG _ _ (fun t_ k_ => XS.dup X12.here hx rfl (hb hby d16_137) rfl rfl k_) ?_
  refine hG _ _ (fun t_ k_ => XS.bipush X12.here hx rfl (hb hby d16_138) k_) ?_
  refine hG _ _ (fun t_ k_ => XS.bipush X12.here hx rfl (hb hby d16_140) k_) ?_
  obtain ⟨c13, Ar13, q13, S13, M13, H13, G13⟩ := id V12
  obtain ⟨T13, h13, X13, e13, W13, st13⟩ := stC X12 hx hZ e12 Ar13 (j := (11 : Int32)) (inb_of S13 ⟨by decide, by decide⟩) (g := (mkF m 142 #[oi 2] [(.int 116), (.int 11), (.ref b1), (.ref b1)])) rfl rfl (hb hby d16_142)
  refine hG _ _ st13 ?_
  have K13 : Keep h0 h13 [] := K12.wr W13 (Or.inr (Nat.le_trans (Keep.refl h0 []).1 (Nat.le_of_eq z1.symm)))
  have O13 : own_Old Z h13 := O12.wr W13 (own_ge O0 (Nat.le_of_eq z1.symm))
  rw [own_narC (by decide)] at W13
  have V13 : Arv Z h13 b1 k1 .char (12 : Int32) [(.int 112), (.int 101), (.int 110), (.int 100), (.int 105), (.int 110), (.int 103), (.int 67), (.int 114), (.int 101), (.int 97), (.int 116)] (.int 0) := Arv.set Ar13 q13 S13 M13 H13 G13 (own_fitC (by decide)) W13 11 rfl (Nat.le_of_ble_eq_true rfl)
  have N13 := Fr.snoc X13 N12 (own_ge O0 (Nat.le_of_eq z1.symm))
  show G (T13.setTop (mkF m 143 #[oi 2] [(.ref b1)]))
  exact own_retA hR hret rfl rfl X13 hx (hb hby d16_143) (by decide) (by decide) (by rw [e13]; exact ⟨b1, k1, rfl, N13, K13, (Nat.le_trans (Keep.refl h0 []).1 (Nat.le_of_eq z1.symm)), V13⟩)
theorem own_mk_ext_2 (l : Launch) (Z : State) (a0 : Array Value) (hw : ∀ d ∈ tables_1, d.before a0 Z = true) (ch : Int32) (h0 : Heap) (O0 : own_Old Z h0) (g0_hch : 0 ≤ ch.toInt ∧ ch.toInt ≤ 65535) :
    own_Con l Z (⟨"com/example/handlewright/handlewright/DomainStatusFindPinLaw", "ext", "(IC)[C"⟩ : MethodName) method_4_code 2 (some (.array .char)) [] ({ frames := 0, cells := 1, slots := 14, locals := 0 } : Room) #[(.int 2), (.int ch)] h0 (fun rv rh rL => ∃ (u : Addr) (ku : ClassId), rv = some (.ref u) ∧ own_Fr Z rL ∧ Keep h0 rh [] ∧ h0.size ≤ u ∧ (Arv Z rh u ku .char (14 : Int32) [(.int 112), (.int 101), (.int 110), (.int 100), (.int 105), (.int 110), (.int 103), (.int 67), (.int 114), (.int 101), (.int 97), (.int 116), (.int 101), (.int ch)] (.int 0))) := by
  refine own_intro (plainFor_of_name (by first | (simp [plainName, overriddenIn]; done) | decide +kernel)) ?_
  intro p e s m below meth c s₁ G hx hby hml hown hnm hret hZ X0 e0 hG hR
  have N0 := Fr.nil Z.heap.size
  refine own_entry (Ls := #[.val (.int 2), .val (.int ch)]) (by first | (simp [entryFrame, mkF, argsToLocals, Value.category]; done) | rfl) ?_
  show G (s₁.setTop (mkF m 0 #[oi 2, oi ch] []))
  refine hG _ _ (fun t_ k_ => XS.iloadN X0.here hx rfl (hb hby d14_0) rfl k_) ?_
  show G (s₁.setTop (mkF m 1 #[oi 2, oi ch] [(.int 2)]))
  refine hG _ _ (fun t_ k_ => XS.ifYes X0.here hx rfl (pc0 := 1) (pc' := 50) rfl (hb hby d14_1) rfl ((if0 _ _).trans (feq (by decide)).2) (by decide) (by decide) k_) ?_
  show G (s₁.setTop (mkF m 50 #[oi 2, oi ch] []))
  refine hG _ _ (fun t_ k_ => XS.iloadN X0.here hx rfl (hb hby d14_50) rfl k_) ?_
  refine hG _ _ (fun t_ k_ => XS.iconst X0.here hx rfl (hb hby d14_51) k_) ?_
  show G (s₁.setTop (mkF m 52 #[oi 2, oi ch] [(.int 1), (.int 2)]))
  refine hG _ _ (fun t_ k_ => XS.icmpYes X0.here hx rfl (pc0 := 52) (pc' := 95) rfl (hb hby d14_52) rfl (feq (by decide)).2 (by decide) (by decide) k_) ?_
  show G (s₁.setTop (mkF m 95 #[oi 2, oi ch] []))
  refine hG _ _ (fun t_ k_ => XS.bipush X0.here hx rfl (hb hby d14_95) k_) ?_
  obtain ⟨T1, h1, k1, X1, e1, E1, A1, st1⟩ := newP X0 hx hZ (ow hw 45 rfl) e0 (g := (mkF m 97 #[oi 2, oi ch] [(.int 14)])) rfl (hb hby d14_97) rfl (by decide) (cap := 14) (by decide) (by decide) (by decide) (by decide)
  obtain ⟨b1, z1⟩ : ∃ z, z = h0.size := ⟨_, rfl⟩
  rw [← z1] at A1 st1
  refine hG _ _ st1 ?_
  have K1 : Keep h0 h1 [] := (Keep.refl h0 []).ext E1
  have O1 : own_Old Z h1 := O0.ext E1
  have V1 : Arv Z h1 b1 k1 .char (14 : Int32) [(.int 0), (.int 0), (.int 0), (.int 0), (.int 0), (.int 0), (.int 0), (.int 0), (.int 0), (.int 0), (.int 0), (.int 0), (.int 0), (.int 0)] (.int 0) := (Arv.new A1 (by decide)).pad (pad_rep [] (.int 0) 14)
  refine hG _ _ (fun t_ k_ => XS.dup X1.here hx rfl (hb hby d14_99) rfl rfl k_) ?_
  refine hG _ _ (fun t_ k_ => XS.iconst X1.here hx rfl (hb hby d14_100) k_) ?_
  refine hG _ _ (fun t_ k_ => XS.bipush X1.here hx rfl (hb hby d14_101) k_) ?_
  obtain ⟨c2, Ar2, q2, S2, M2, H2, G2⟩ := id V1
  obtain ⟨T2, h2, X2, e2, W2, st2⟩ := stC X1 hx hZ e1 Ar2 (j := (0 : Int32)) (inb_of S2 ⟨by decide, by decide⟩) (g := (mkF m 103 #[oi 2, oi ch] [(.int 112), (.int 0), (.ref b1), (.ref b1)])) rfl rfl (hb hby d14_103)
  refine hG _ _ st2 ?_
  have K2 : Keep h0 h2 [] := K1.wr W2 (Or.inr (Nat.le_trans (Keep.refl h0 []).1 (Nat.le_of_eq z1.symm)))
  have O2 : own_Old Z h2 := O1.wr W2 (own_ge O0 (Nat.le_of_eq z1.symm))
  rw [own_narC (by decide)] at W2
  have V2 : Arv Z h2 b1 k1 .char (14 : Int32) [(.int 112), (.int 0), (.int 0), (.int 0), (.int 0), (.int 0), (.int 0), (.int 0), (.int 0), (.int 0), (.int 0), (.int 0), (.int 0), (.int 0)] (.int 0) := Arv.set Ar2 q2 S2 M2 H2 G2 (own_fitC (by decide)) W2 0 rfl (Nat.le_of_ble_eq_true rfl)
  have N2 := Fr.snoc X2 N0 (own_ge O0 (Nat.le_of_eq z1.symm))
  refine hG _ _ (fun t_ k_ => XS.dup X2.here hx rfl (hb hby d14_104) rfl rfl k_) ?_
  refine hG _ _ (fun t_ k_ => XS.iconst X2.here hx rfl (hb hby d14_105) k_) ?_
  refine hG _ _ (fun t_ k_ => XS.bipush X2.here hx rfl (hb hby d14_106) k_) ?_
  obtain ⟨c3, Ar3, q3, S3, M3, H3, G3⟩ := id V2
  obtain ⟨T3, h3, X3, e3, W3, st3⟩ := stC X2 hx hZ e2 Ar3 (j := (1 : Int32)) (inb_of S3 ⟨by decide, by decide⟩) (g := (mkF m 108 #[oi 2, oi ch] [(.int 101), (.int 1), (.ref b1), (.ref b1)])) rfl rfl (hb hby d14_108)
  refine hG _ _ st3 ?_
  have K3 : Keep h0 h3 [] := K2.wr W3 (Or.inr (Nat.le_trans (Keep.refl h0 []).1 (Nat.le_of_eq z1.symm)))
  have O3 : own_Old Z h3 := O2.wr W3 (own_ge O0 (Nat.le_of_eq z1.symm))
  rw [own_narC (by decide)] at W3
  have V3 : Arv Z h3 b1 k1 .char (14 : Int32) [(.int 112), (.int 101), (.int 0), (.int 0), (.int 0), (.int 0), (.int 0), (.int 0), (.int 0), (.int 0), (.int 0), (.int 0), (.int 0), (.int 0)] (.int 0) := Arv.set Ar3 q3 S3 M3 H3 G3 (own_fitC (by decide)) W3 1 rfl (Nat.le_of_ble_eq_true rfl)
  have N3 := Fr.snoc X3 N2 (own_ge O0 (Nat.le_of_eq z1.symm))
  refine hG _ _ (fun t_ k_ => XS.dup X3.here hx rfl (hb hby d14_109) rfl rfl k_) ?_
  refine hG _ _ (fun t_ k_ => XS.iconst X3.here hx rfl (hb hby d14_110) k_) ?_
  refine hG _ _ (fun t_ k_ => XS.bipush X3.here hx rfl (hb hby d14_111) k_) ?_
  obtain ⟨c4, Ar4, q4, S4, M4, H4, G4⟩ := id V3
  obtain ⟨T4, h4, X4, e4, W4, st4⟩ := stC X3 hx hZ e3 Ar4 (j := (2 : Int32)) (inb_of S4 ⟨by decide, by decide⟩) (g := (mkF m 113 #[oi 2, oi ch] [(.int 110), (.int 2), (.ref b1), (.ref b1)])) rfl rfl (hb hby d14_113)
  refine hG _ _ st4 ?_
  have K4 : Keep h0 h4 [] := K3.wr W4 (Or.inr (Nat.le_trans (Keep.refl h0 []).1 (Nat.le_of_eq z1.symm)))
  have O4 : own_Old Z h4 := O3.wr W4 (own_ge O0 (Nat.le_of_eq z1.symm))
  rw [own_narC (by decide)] at W4
  have V4 : Arv Z h4 b1 k1 .char (14 : Int32) [(.int 112), (.int 101), (.int 110), (.int 0), (.int 0), (.int 0), (.int 0), (.int 0), (.int 0), (.int 0), (.int 0), (.int 0), (.int 0), (.int 0)] (.int 0) := Arv.set Ar4 q4 S4 M4 H4 G4 (own_fitC (by decide)) W4 2 rfl (Nat.le_of_ble_eq_true rfl)
  have N4 := Fr.snoc X4 N3 (own_ge O0 (Nat.le_of_eq z1.symm))
  refine hG _ _ (fun t_ k_ => XS.dup X4.here hx rfl (hb hby d14_114) rfl rfl k_) ?_
  refine hG _ _ (fun t_ k_ => XS.iconst X4.here hx rfl (hb hby d14_115) k_) ?_
  refine hG _ _ (fun t_ k_ => XS.bipush X4.here hx rfl (hb hby d14_116) k_) ?_
  show G (T4.setTop (mkF m 118 #[oi 2, oi ch] [(.int 100), (.int 3), (.ref b1), (.ref b1)]))
  obtain ⟨c5, Ar5, q5, S5, M5, H5, G5⟩ := id V4
  obtain ⟨T5, h5, X5, e5, W5, st5⟩ := stC X4 hx hZ e4 Ar5 (j := (3 : Int32)) (inb_of S5 ⟨by decide, by decide⟩) (g := (mkF m 118 #[oi 2, oi ch] [(.int 100), (.int 3), (.ref b1), (.ref b1)])) rfl rfl (hb hby d14_118)
  refine hG _ _ st5 ?_
  have K5 : Keep h0 h5 [] := K4.wr W5 (Or.inr (Nat.le_trans (Keep.refl h0 []).1 (Nat.le_of_eq z1.symm)))
  have O5 : own_Old Z h5 := O4.wr W5 (own_ge O0 (Nat.le_of_eq z1.symm))
  rw [own_narC (by decide)] at W5
  have V5 : Arv Z h5 b1 k1 .char (14 : Int32) [(.int 112), (.int 101), (.int 110), (.int 100), (.int 0), (.int 0), (.int 0), (.int 0), (.int 0), (.int 0), (.int 0), (.int 0), (.int 0), (.int 0)] (.int 0) := Arv.set Ar5 q5 S5 M5 H5 G5 (own_fitC (by decide)) W5 3 rfl (Nat.le_of_ble_eq_true rfl)
  have N5 := Fr.snoc X5 N4 (own_ge O0 (Nat.le_of_eq z1.symm))
  refine hG _ _ (fun t_ k_ => XS.dup X5.here hx rfl (hb hby d14_119) rfl rfl k_) ?_
  refine hG _ _ (fun t_ k_ => XS.iconst X5.here hx rfl (hb hby d14_120) k_) ?_
  refine hG _ _ (fun t_ k_ => XS.bipush X5.here hx rfl (hb hby d14_121) k_) ?_
  obtain ⟨c6, Ar6, q6, S6, M6, H6, G6⟩ := id V5
  obtain ⟨T6, h6, X6, e6, W6, st6⟩ := stC X5 hx hZ e5 Ar6 (j := (4 : Int32)) (inb_of S6 ⟨by decide, by decide⟩) (g := (mkF m 123 #[oi 2, oi ch] [(.int 105), (.int 4), (.ref b1), (.ref b1)])) rfl rfl (hb hby d14_123)
  refine hG _ _ st6 ?_
  have K6 : Keep h0 h6 [] := K5.wr W6 (Or.inr (Nat.le_trans (Keep.refl h0 []).1 (Nat.le_of_eq z1.symm)))
  have O6 : own_Old Z h6 := O5.wr W6 (own_ge O0 (Nat.le_of_eq z1.symm))
  rw [own_narC (by decide)] at W6
  have V6 : Arv Z h6 b1 k1 .char (14 : Int32) [(.int 112), (.int 101), (.int 110), (.int 100), (.int 105), (.int 0), (.int 0), (.int 0), (.int 0), (.int 0), (.int 0), (.int 0), (.int 0), (.int 0)] (.int 0) := Arv.set Ar6 q6 S6 M6 H6 G6 (own_fitC (by decide)) W6 4 rfl (Nat.le_of_ble_eq_true rfl)
  have N6 := Fr.snoc X6 N5 (own_ge O0 (Nat.le_of_eq z1.symm))
  refine hG _ _ (fun t_ k_ => XS.dup X6.here hx rfl (hb hby d14_124) rfl rfl k_) ?_
  refine hG _ _ (fun t_ k_ => XS.iconst X6.here hx rfl (hb hby d14_125) k_) ?_
  refine hG _ _ (fun t_ k_ => XS.bipush X6.here hx rfl (hb hby d14_126) k_) ?_
  obtain ⟨c7, Ar7, q7, S7, M7, H7, G7⟩ := id V6
  obtain ⟨T7, h7, X7, e7, W7, st7⟩ := stC X6 hx hZ e6 Ar7 (j := (5 : Int32)) (inb_of S7 ⟨by decide, by decide⟩) (g := (mkF m 128 #[oi 2, oi ch] [(.int 110), (.int 5), (.ref b1), (.ref b1)])) rfl rfl (hb hby d14_128)
  refine hG _ _ st7 ?_
  have K7 : Keep h0 h7 [] := K6.wr W7 (Or.inr (Nat.le_trans (Keep.refl h0 []).1 (Nat.le_of_eq z1.symm)))
  have O7 : own_Old Z h7 := O6.wr W7 (own_ge O0 (Nat.le_of_eq z1.symm))
  rw [own_narC (by decide)] at W7
  have V7 : Arv Z h7 b1 k1 .char (14 : Int32) [(.int 112), (.int 101), (.int 110), (.int 100), (.int 105), (.int 110), (.int 0), (.int 0), (.int 0), (.int 0), (.int 0), (.int 0), (.int 0), (.int 0)] (.int 0) := Arv.set Ar7 q7 S7 M7 H7 G7 (own_fitC (by decide)) W7 5 rfl (Nat.le_of_ble_eq_true rfl)
  have N7 := Fr.snoc X7 N6 (own_ge O0 (Nat.le_of_eq z1.symm))
  refine hG _ _ (fun t_ k_ => XS.dup X7.here hx rfl (hb hby d14_129) rfl rfl k_) ?_
  refine hG _ _ (fun t_ k_ => XS.bipush X7.here hx rfl (hb hby d14_130) k_) ?_
  refine hG _ _ (fun t_ k_ => XS.bipush X7.here hx rfl (hb hby d14_132) k_) ?_
  obtain ⟨c8, Ar8, q8, S8, M8, H8, G8⟩ := id V7
  obtain ⟨T8, h8, X8, e8, W8, st8⟩ := stC X7 hx hZ e7 Ar8 (j := (6 : Int32)) (inb_of S8 ⟨by decide, by decide⟩) (g := (mkF m 134 #[oi 2, oi ch] [(.int 103), (.int 6), (.ref b1), (.ref b1)])) rfl rfl (hb hby d14_134)
  refine hG _ _ st8 ?_
  have K8 : Keep h0 h8 [] := K7.wr W8 (Or.inr (Nat.le_trans (Keep.refl h0 []).1 (Nat.le_of_eq z1.symm)))
  have O8 : own_Old Z h8 := O7.wr W8 (own_ge O0 (Nat.le_of_eq z1.symm))
  rw [own_narC (by decide)] at W8
  have V8 : Arv Z h8 b1 k1 .char (14 : Int32) [(.int 112), (.int 101), (.int 110), (.int 100), (.int 105), (.int 110), (.int 103), (.int 0), (.int 0), (.int 0), (.int 0), (.int 0), (.int 0), (.int 0)] (.int 0) := Arv.set Ar8 q8 S8 M8 H8 G8 (own_fitC (by decide)) W8 6 rfl (Nat.le_of_ble_eq_true rfl)
  have N8 := Fr.snoc X8 N7 (own_ge O0 (Nat.le_of_eq z1.symm))
  refine hG _ _ (fun t_ k_ => XS.dup X8.here hx rfl (hb hby d14_135) rfl rfl k_) ?_
  refine hG _ _ (fun t_ k_ => XS.bipush X8.here hx rfl (hb hby d14_136) k_) ?_
  refine hG _ _ (fun t_ k_ => XS.bipush X8.here hx rfl (hb hby d14_138) k_) ?_
  obtain ⟨c9, Ar9, q9, S9, M9, H9, G9⟩ := id V8
  obtain ⟨T9, h9, X9, e9, W9, st9⟩ := stC X8 hx hZ e8 Ar9 (j := (7 : Int32)) (inb_of S9 ⟨by decide, by decide⟩) (g := (mkF m 140 #[oi 2, oi ch] [(.int 67), (.int 7), (.ref b1), (.ref b1)])) rfl rfl (hb hby d14_140)
  refine hG _ _ st9 ?_
  have K9 : Keep h0 h9 [] := K8.wr W9 (Or.inr (Nat.le_trans (Keep.refl h0 []).1 (Nat.le_of_eq z1.symm)))
  have O9 : own_Old Z h9 := O8.wr W9 (own_ge O0 (Nat.le_of_eq z1.symm))
  rw [own_narC (by decide)] at W9
  have V9 : Arv Z h9 b1 k1 .char (14 : Int32) [(.int 112), (.int 101), (.int 110), (.int 100), (.int 105), (.int 110), (.int 103), (.int 67), (.int 0), (.int 0), (.int 0), (.int 0), (.int 0), (.int 0)] (.int 0) := Arv.set Ar9 q9 S9 M9 H9 G9 (own_fitC (by decide)) W9 7 rfl (Nat.le_of_ble_eq_true rfl)
  have N9 := Fr.snoc X9 N8 (own_ge O0 (Nat.le_of_eq z1.symm))
  show G (T9.setTop (mkF m 141 #[oi 2, oi ch] [(.ref b1)]))
  refine hG _ _ (fun t_ k_ => XS.dup X9.here hx rfl (hb hby d14_141) rfl rfl k_) ?_
  refine hG _ _ (fun t_ k_ => XS.bipush X9.here hx rfl (hb hby d14_142) k_) ?_
  refine hG _ _ (fun t_ k_ => XS.bipush X9.here hx rfl (hb hby d14_144) k_) ?_
  obtain ⟨c10, Ar10, q10, S10, M10, H10, G10⟩ := id V9
  obtain ⟨T10, h10, X10, e10, W10, st10⟩ := stC X9 hx hZ e9 Ar10 (j := (8 : Int32)) (inb_of S10 ⟨by decide, by decide⟩) (g := (mkF m 146 #[oi 2, oi ch] [(.int 114), (.int 8), (.ref b1), (.ref b1)])) rfl rfl (hb hby d14_146)
  refine hG _ _ st10 ?_
  have K10 : Keep h0 h10 [] := K9.wr W10 (Or.inr (Nat.le_trans (Keep.refl h0 []).1 (Nat.le_of_eq z1.symm)))
  have O10 : own_Old Z h10 := O9.wr W10 (own_ge O0 (Nat.le_of_eq z1.symm))
  rw [own_narC (by decide)] at W10
  have V10 : Arv Z h10 b1 k1 .char (14 : Int32) [(.int 112), (.int 101), (.int 110), (.int 100), (.int 105), (.int 110), (.int 103), (.int 67), (.int 114), (.int 0), (.int 0), (.int 0), (.int 0), (.int 0)] (.int 0) := Arv.set Ar10 q10 S10 M10 H10 G10 (own_fitC (by decide)) W10 8 rfl (Nat.le_of_ble_eq_true rfl)
  have N10 := Fr.snoc X10 N9 (own_ge O0 (Nat.le_of_eq z1.symm))
  refine hG _ _ (fun t_ k_ => XS.dup X10.here hx rfl (hb hby d14_147) rfl rfl k_) ?_
  refine hG _ _ (fun t_ k_ => XS.bipush X10.here hx rfl (hb hby d14_148) k_) ?_
  refine hG _ _ (fun t_ k_ => XS.bipush X10.here hx rfl (hb hby d14_150) k_) ?_
  obtain ⟨c11, Ar11, q11, S11, M11, H11, G11⟩ := id V10
  obtain ⟨T11, h11, X11, e11, W11, st11⟩ := stC X10 hx hZ e10 Ar11 (j := (9 : Int32)) (inb_of S11 ⟨by decide, by decide⟩) (g := (mkF m 152 #[oi 2, oi ch] [(.int 101), (.int 9), (.ref b1), (.ref b1)])) rfl rfl (hb hby d14_152)
  refine hG _ _ st11 ?_
  have K11 : Keep h0 h11 [] := K10.wr W11 (Or.inr (Nat.le_trans (Keep.refl h0 []).1 (Nat.le_of_eq z1.symm)))
  have O11 : own_Old Z h11 := O10.wr W11 (own_ge O0 (Nat.le_of_eq z1.symm))
  rw [own_narC (by decide)] at W11
  have V11 : Arv Z h11 b1 k1 .char (14 : Int32) [(.int 112), (.int 101), (.int 110), (.int 100), (.int 105), (.int 110), (.int 103), (.int 67), (.int 114), (.int 101), (.int 0), (.int 0), (.int 0), (.int 0)] (.int 0) := Arv.set Ar11 q11 S11 M11 H11 G11 (own_fitC (by decide)) W11 9 rfl (Nat.le_of_ble_eq_true rfl)
  have N11 := Fr.snoc X11 N10 (own_ge O0 (Nat.le_of_eq z1.symm))
  refine hG _ _ (fun t_ k_ => XS.dup X11.here hx rfl (hb hby d14_153) rfl rfl k_) ?_
  refine hG _ _ (fun t_ k_ => XS.bipush X11.here hx rfl (hb hby d14_154) k_) ?_
  refine hG _ _ (fun t_ k_ => XS.bipush X11.here hx rfl (hb hby d14_156) k_) ?_
  obtain ⟨c12, Ar12, q12, S12, M12, H12, G12⟩ := id V11
  obtain ⟨T12, h12, X12, e12, W12, st12⟩ := stC X11 hx hZ e11 Ar12 (j := (10 : Int32)) (inb_of S12 ⟨by decide, by decide⟩) (g := (mkF m 158 #[oi 2, oi ch] [(.int 97), (.int 10), (.ref b1), (.ref b1)])) rfl rfl (hb hby d14_158)
  refine hG _ _ st12 ?_
  have K12 : Keep h0 h12 [] := K11.wr W12 (Or.inr (Nat.le_trans (Keep.refl h0 []).1 (Nat.le_of_eq z1.symm)))
  have O12 : own_Old Z h12 := O11.wr W12 (own_ge O0 (Nat.le_of_eq z1.symm))
  rw [own_narC (by decide)] at W12
  have V12 : Arv Z h12 b1 k1 .char (14 : Int32) [(.int 112), (.int 101), (.int 110), (.int 100), (.int 105), (.int 110), (.int 103), (.int 67), (.int 114), (.int 101), (.int 97), (.int 0), (.int 0), (.int 0)] (.int 0) := Arv.set Ar12 q12 S12 M12 H12 G12 (own_fitC (by decide)) W12 10 rfl (Nat.le_of_ble_eq_true rfl)
  have N12 := Fr.snoc X12 N11 (own_ge O0 (Nat.le_of_eq z1.symm))
  refine hG _ _ (fun t_ k_ => XS.dup X12.here hx rfl (hb hby d14_159) rfl rfl k_) ?_
  refine hG _ _ (fun t_ k_ => XS.bipush X12.here hx rfl (hb hby d14_160) k_) ?_
  refine hG _ _ (fun t_ k_ => XS.bipush X12.here hx rfl (hb hby d14_162) k_) ?_
  obtain ⟨c13, Ar13, q13, S13, M13, H13, G13⟩ := id V12
  obtain ⟨T13, h13, X13, e13, W13, st13⟩ := stC X12 hx hZ e12 Ar13 (j := (11 : Int32)) (inb_of S13 ⟨by decide, by decide⟩) (g := (mkF m 164 #[oi 2, oi ch] [(.int 116), (.int 11), (.ref b1), (.ref b1)])) rfl rfl (hb hby d14_164)
  refine hG _ _ st13 ?_
  have K13 : Keep h0 h13 [] := K12.wr W13 (Or.inr (Nat.le_trans (Keep.refl h0 []).1 (Nat.le_of_eq z1.symm)))
  have O13 : own_Old Z h13 := O12.wr W13 (own_ge O0 (Nat.le_of_eq z1.symm))
  rw [own_narC (by decide)] at W13
  have V13 : Arv Z h13 b1 k1 .char (14 : Int32) [(.int 112), (.int 101), (.int 110), (.int 100), (.int 105), (.int 110), (.int 103), (.int 67), (.int 114), (.int 101), (.int 97), (.int 116), (.int 0), (.int 0)] (.int 0) := Arv.set Ar13 q13 S13 M13 H13 G13 (own_fitC (by decide)) W13 11 rfl (Nat.le_of_ble_eq_true rfl)
  have N13 := Fr.snoc X13 N12 (own_ge O0 (Nat.le_of_eq z1.symm))
  refine hG _ _ (fun t_ k_ => XS.dup X13.here hx rfl (hb hby d14_165) rfl rfl k_) ?_
  show G (T13.setTop (mkF m 166 #[oi 2, oi ch] [(.ref b1), (.ref b1)]))
  refine hG _ _ (fun t_ k_ => XS.bipush X13.here hx rfl (hb hby d14_166) k_) ?_
  refine hG _ _ (fun t_ k_ => XS.bipush X13.here hx rfl (hb hby d14_168) k_) ?_
  obtain ⟨c14, Ar14, q14, S14, M14, H14, G14⟩ := id V13
  obtain ⟨T14, h14, X14, e14, W14, st14⟩ := stC X13 hx hZ e13 Ar14 (j := (12 : Int32)) (inb_of S14 ⟨by decide, by decide⟩) (g := (mkF m 170 #[oi 2, oi ch] [(.int 101), (.int 12), (.ref b1), (.ref b1)])) rfl rfl (hb hby d14_170)
  refine hG _ _ st14 ?_
  have K14 : Keep h0 h14 [] := K13.wr W14 (Or.inr (Nat.le_trans (Keep.refl h0 []).1 (Nat.le_of_eq z1.symm)))
  have O14 : own_Old Z h14 := O13.wr W14 (own_ge O0 (Nat.le_of_eq z1.symm))
  rw [own_narC (by decide)] at W14
  have V14 : Arv Z h14 b1 k1 .char (14 : Int32) [(.int 112), (.int 101), (.int 110), (.int 100), (.int 105), (.int 110), (.int 103), (.int 67), (.int 114), (.int 101), (.int 97), (.int 116), (.int 101), (.int 0)] (.int 0) := Arv.set Ar14 q14 S14 M14 H14 G14 (own_fitC (by decide)) W14 12 rfl (Nat.le_of_ble_eq_true rfl)
  have N14 := Fr.snoc X14 N13 (own_ge O0 (Nat.le_of_eq z1.symm))
  refine hG _ _ (fun t_ k_ => XS.dup X14.here hx rfl (hb hby d14_171) rfl rfl k_) ?_
  refine hG _ _ (fun t_ k_ => XS.bipush X14.here hx rfl (hb hby d14_172) k_) ?_
  refine hG _ _ (fun t_ k_ => XS.iloadN X14.here hx rfl (hb hby d14_174) rfl k_) ?_
  obtain ⟨c15, Ar15, q15, S15, M15, H15, G15⟩ := id V14
  obtain ⟨T15, h15, X15, e15, W15, st15⟩ := stC X14 hx hZ e14 Ar15 (j := (13 : Int32)) (inb_of S15 ⟨by decide, by decide⟩) (g := (mkF m 175 #[oi 2, oi ch] [(.int ch), (.int 13), (.ref b1), (.ref b1)])) rfl rfl (hb hby d14_175)
  refine hG _ _ st15 ?_
  have K15 : Keep h0 h15 [] := K14.wr W15 (Or.inr (Nat.le_trans (Keep.refl h0 []).1 (Nat.le_of_eq z1.symm)))
  have O15 : own_Old Z h15 := O14.wr W15 (own_ge O0 (Nat.le_of_eq z1.symm))
  rw [own_narC g0_hch] at W15
  have V15 : Arv Z h15 b1 k1 .char (14 : Int32) [(.int 112), (.int 101), (.int 110), (.int 100), (.int 105), (.int 110), (.int 103), (.int 67), (.int 114), (.int 101), (.int 97), (.int 116), (.int 101), (.int ch)] (.int 0) := Arv.set Ar15 q15 S15 M15 H15 G15 (own_fitC g0_hch) W15 13 rfl (Nat.le_of_ble_eq_true rfl)
  have N15 := Fr.snoc X15 N14 (own_ge O0 (Nat.le_of_eq z1.symm))
  show G (T15.setTop (mkF m 176 #[oi 2, oi ch] [(.ref b1)]))
  exact own_retA hR hret rfl rfl X15 hx (hb hby d14_176) (by decide) (by decide) (by rw [e15]; exact ⟨b1, k1, rfl, N15, K15, (Nat.le_trans (Keep.refl h0 []).1 (Nat.le_of_eq z1.symm)), V15⟩)
theorem own_mk_pre_2 (l : Launch) (Z : State) (a0 : Array Value) (hw : ∀ d ∈ tables_1, d.before a0 Z = true) (ch : Int32) (h0 : Heap) (O0 : own_Old Z h0) (g0_hch : 0 ≤ ch.toInt ∧ ch.toInt ≤ 65535) :
    own_Con l Z (⟨"com/example/handlewright/handlewright/DomainStatusFindPinLaw", "pre", "(IC)[C"⟩ : MethodName) method_5_code 2 (some (.array .char)) [] ({ frames := 0, cells := 1, slots := 14, locals := 0 } : Room) #[(.int 2), (.int ch)] h0 (fun rv rh rL => ∃ (u : Addr) (ku : ClassId), rv = some (.ref u) ∧ own_Fr Z rL ∧ Keep h0 rh [] ∧ h0.size ≤ u ∧ (Arv Z rh u ku .char (14 : Int32) [(.int ch), (.int 112), (.int 101), (.int 110), (.int 100), (.int 105), (.int 110), (.int 103), (.int 67), (.int 114), (.int 101), (.int 97), (.int 116), (.int 101)] (.int 0))) := by
  refine own_intro (plainFor_of_name (by first | (simp [plainName, overriddenIn]; done) | decide +kernel)) ?_
  intro p e s m below meth c s₁ G hx hby hml hown hnm hret hZ X0 e0 hG hR
  have N0 := Fr.nil Z.heap.size
  refine own_entry (Ls := #[.val (.int 2), .val (.int ch)]) (by first | (simp [entryFrame, mkF, argsToLocals, Value.category]; done) | rfl) ?_
  show G (s₁.setTop (mkF m 0 #[oi 2, oi ch] []))
  refine hG _ _ (fun t_ k_ => XS.iloadN X0.here hx rfl (hb hby d5_0) rfl k_) ?_
  show G (s₁.setTop (mkF m 1 #[oi 2, oi ch] [(.int 2)]))
  refine hG _ _ (fun t_ k_ => XS.ifYes X0.here hx rfl (pc0 := 1) (pc' := 50) rfl (hb hby d5_1) rfl ((if0 _ _).trans (feq (by decide)).2) (by decide) (by decide) k_) ?_
  show G (s₁.setTop (mkF m 50 #[oi 2, oi ch] []))
  refine hG _ _ (fun t_ k_ => XS.iloadN X0.here hx rfl (hb hby d5_50) rfl k_) ?_
  refine hG _ _ (fun t_ k_ => XS.iconst X0.here hx rfl (hb hby d5_51) k_) ?_
  show G (s₁.setTop (mkF m 52 #[oi 2, oi ch] [(.int 1), (.int 2)]))
  refine hG _ _ (fun t_ k_ => XS.icmpYes X0.here hx rfl (pc0 := 52) (pc' := 95) rfl (hb hby d5_52) rfl (feq (by decide)).2 (by decide) (by decide) k_) ?_
  show G (s₁.setTop (mkF m 95 #[oi 2, oi ch] []))
  refine hG _ _ (fun t_ k_ => XS.bipush X0.here hx rfl (hb hby d5_95) k_) ?_
  obtain ⟨T1, h1, k1, X1, e1, E1, A1, st1⟩ := newP X0 hx hZ (ow hw 45 rfl) e0 (g := (mkF m 97 #[oi 2, oi ch] [(.int 14)])) rfl (hb hby d5_97) rfl (by decide) (cap := 14) (by decide) (by decide) (by decide) (by decide)
  obtain ⟨b1, z1⟩ : ∃ z, z = h0.size := ⟨_, rfl⟩
  rw [← z1] at A1 st1
  refine hG _ _ st1 ?_
  have K1 : Keep h0 h1 [] := (Keep.refl h0 []).ext E1
  have O1 : own_Old Z h1 := O0.ext E1
  have V1 : Arv Z h1 b1 k1 .char (14 : Int32) [(.int 0), (.int 0), (.int 0), (.int 0), (.int 0), (.int 0), (.int 0), (.int 0), (.int 0), (.int 0), (.int 0), (.int 0), (.int 0), (.int 0)] (.int 0) := (Arv.new A1 (by decide)).pad (pad_rep [] (.int 0) 14)
  refine hG _ _ (fun t_ k_ => XS.dup X1.here hx rfl (hb hby d5_99) rfl rfl k_) ?_
  refine hG _ _ (fun t_ k_ => XS.iconst X1.here hx rfl (hb hby d5_100) k_) ?_
  refine hG _ _ (fun t_ k_ => XS.iloadN X1.here hx rfl (hb hby d5_101) rfl k_) ?_
  obtain ⟨c2, Ar2, q2, S2, M2, H2, G2⟩ := id V1
  obtain ⟨T2, h2, X2, e2, W2, st2⟩ := stC X1 hx hZ e1 Ar2 (j := (0 : Int32)) (inb_of S2 ⟨by decide, by decide⟩) (g := (mkF m 102 #[oi 2, oi ch] [(.int ch), (.int 0), (.ref b1), (.ref b1)])) rfl rfl (hb hby d5_102)
  refine hG _ _ st2 ?_
  have K2 : Keep h0 h2 [] := K1.wr W2 (Or.inr (Nat.le_trans (Keep.refl h0 []).1 (Nat.le_of_eq z1.symm)))
  have O2 : own_Old Z h2 := O1.wr W2 (own_ge O0 (Nat.le_of_eq z1.symm))
  rw [own_narC g0_hch] at W2
  have V2 : Arv Z h2 b1 k1 .char (14 : Int32) [(.int ch), (.int 0), (.int 0), (.int 0), (.int 0), (.int 0), (.int 0), (.int 0), (.int 0), (.int 0), (.int 0), (.int 0), (.int 0), (.int 0)] (.int 0) := Arv.set Ar2 q2 S2 M2 H2 G2 (own_fitC g0_hch) W2 0 rfl (Nat.le_of_ble_eq_true rfl)
  have N2 := Fr.snoc X2 N0 (own_ge O0 (Nat.le_of_eq z1.symm))
  refine hG _ _ (fun t_ k_ => XS.dup X2.here hx rfl (hb hby d5_103) rfl rfl k_) ?_
  refine hG _ _ (fun t_ k_ => XS.iconst X2.here hx rfl (hb hby d5_104) k_) ?_
  refine hG _ _ (fun t_ k_ => XS.bipush X2.here hx rfl (hb hby d5_105) k_) ?_
  obtain ⟨c3, Ar3, q3, S3, M3, H3, G3⟩ := id V2
  obtain ⟨T3, h3, X3, e3, W3, st3⟩ := stC X2 hx hZ e2 Ar3 (j := (1 : Int32)) (inb_of S3 ⟨by decide, by decide⟩) (g := (mkF m 107 #[oi 2, oi ch] [(.int 112), (.int 1), (.ref b1), (.ref b1)])) rfl rfl (hb hby d5_107)
  refine hG _ _ st3 ?_
  have K3 : Keep h0 h3 [] := K2.wr W3 (Or.inr (Nat.le_trans (Keep.refl h0 []).1 (Nat.le_of_eq z1.symm)))
  have O3 : own_Old Z h3 := O2.wr W3 (own_ge O0 (Nat.le_of_eq z1.symm))
  rw [own_narC (by decide)] at W3
  have V3 : Arv Z h3 b1 k1 .char (14 : Int32) [(.int ch), (.int 112), (.int 0), (.int 0), (.int 0), (.int 0), (.int 0), (.int 0), (.int 0), (.int 0), (.int 0), (.int 0), (.int 0), (.int 0)] (.int 0) := Arv.set Ar3 q3 S3 M3 H3 G3 (own_fitC (by decide)) W3 1 rfl (Nat.le_of_ble_eq_true rfl)
  have N3 := Fr.snoc X3 N2 (own_ge O0 (Nat.le_of_eq z1.symm))
  refine hG _ _ (fun t_ k_ => XS.dup X3.here hx rfl (hb hby d5_108) rfl rfl k_) ?_
  refine hG _ _ (fun t_ k_ => XS.iconst X3.here hx rfl (hb hby d5_109) k_) ?_
  refine hG _ _ (fun t_ k_ => XS.bipush X3.here hx rfl (hb hby d5_110) k_) ?_
  obtain ⟨c4, Ar4, q4, S4, M4, H4, G4⟩ := id V3
  obtain ⟨T4, h4, X4, e4, W4, st4⟩ := stC X3 hx hZ e3 Ar4 (j := (2 : Int32)) (inb_of S4 ⟨by decide, by decide⟩) (g := (mkF m 112 #[oi 2, oi ch] [(.int 101), (.int 2), (.ref b1), (.ref b1)])) rfl rfl (hb hby d5_112)
  refine hG _ _ st4 ?_
  have K4 : Keep h0 h4 [] := K3.wr W4 (Or.inr (Nat.le_trans (Keep.refl h0 []).1 (Nat.le_of_eq z1.symm)))
  have O4 : own_Old Z h4 := O3.wr W4 (own_ge O0 (Nat.le_of_eq z1.symm))
  rw [own_narC (by decide)] at W4
  have V4 : Arv Z h4 b1 k1 .char (14 : Int32) [(.int ch), (.int 112), (.int 101), (.int 0), (.int 0), (.int 0), (.int 0), (.int 0), (.int 0), (.int 0), (.int 0), (.int 0), (.int 0), (.int 0)] (.int 0) := Arv.set Ar4 q4 S4 M4 H4 G4 (own_fitC (by decide)) W4 2 rfl (Nat.le_of_ble_eq_true rfl)
  have N4 := Fr.snoc X4 N3 (own_ge O0 (Nat.le_of_eq z1.symm))
  refine hG _ _ (fun t_ k_ => XS.dup X4.here hx rfl (hb hby d5_113) rfl rfl k_) ?_
  refine hG _ _ (fun t_ k_ => XS.iconst X4.here hx rfl (hb hby d5_114) k_) ?_
  refine hG _ _ (fun t_ k_ => XS.bipush X4.here hx rfl (hb hby d5_115) k_) ?_
  show G (T4.setTop (mkF m 117 #[oi 2, oi ch] [(.int 110), (.int 3), (.ref b1), (.ref b1)]))
  obtain ⟨c5, Ar5, q5, S5, M5, H5, G5⟩ := id V4
  obtain ⟨T5, h5, X5, e5, W5, st5⟩ := stC X4 hx hZ e4 Ar5 (j := (3 : Int32)) (inb_of S5 ⟨by decide, by decide⟩) (g := (mkF m 117 #[oi 2, oi ch] [(.int 110), (.int 3), (.ref b1), (.ref b1)])) rfl rfl (hb hby d5_117)
  refine hG _ _ st5 ?_
  have K5 : Keep h0 h5 [] := K4.wr W5 (Or.inr (Nat.le_trans (Keep.refl h0 []).1 (Nat.le_of_eq z1.symm)))
  have O5 : own_Old Z h5 := O4.wr W5 (own_ge O0 (Nat.le_of_eq z1.symm))
  rw [own_narC (by decide)] at W5
  have V5 : Arv Z h5 b1 k1 .char (14 : Int32) [(.int ch), (.int 112), (.int 101), (.int 110), (.int 0), (.int 0), (.int 0), (.int 0), (.int 0), (.int 0), (.int 0), (.int 0), (.int 0), (.int 0)] (.int 0) := Arv.set Ar5 q5 S5 M5 H5 G5 (own_fitC (by decide)) W5 3 rfl (Nat.le_of_ble_eq_true rfl)
  have N5 := Fr.snoc X5 N4 (own_ge O0 (Nat.le_of_eq z1.symm))
  refine hG _ _ (fun t_ k_ => XS.dup X5.here hx rfl (hb hby d5_118) rfl rfl k_) ?_
  refine hG _ _ (fun t_ k_ => XS.iconst X5.here hx rfl (hb hby d5_119) k_) ?_
  refine hG _ _ (fun t_ k_ => XS.bipush X5.here hx rfl (hb hby d5_120) k_) ?_
  obtain ⟨c6, Ar6, q6, S6, M6, H6, G6⟩ := id V5
  obtain ⟨T6, h6, X6, e6, W6, st6⟩ := stC X5 hx hZ e5 Ar6 (j := (4 : Int32)) (inb_of S6 ⟨by decide, by decide⟩) (g := (mkF m 122 #[oi 2, oi ch] [(.int 100), (.int 4), (.ref b1), (.ref b1)])) rfl rfl (hb hby d5_122)
  refine hG _ _ st6 ?_
  have K6 : Keep h0 h6 [] := K5.wr W6 (Or.inr (Nat.le_trans (Keep.refl h0 []).1 (Nat.le_of_eq z1.symm)))
  have O6 : own_Old Z h6 := O5.wr W6 (own_ge O0 (Nat.le_of_eq z1.symm))
  rw [own_narC (by decide)] at W6
  have V6 : Arv Z h6 b1 k1 .char (14 : Int32) [(.int ch), (.int 112), (.int 101), (.int 110), (.int 100), (.int 0), (.int 0), (.int 0), (.int 0), (.int 0), (.int 0), (.int 0), (.int 0), (.int 0)] (.int 0) := Arv.set Ar6 q6 S6 M6 H6 G6 (own_fitC (by decide)) W6 4 rfl (Nat.le_of_ble_eq_true rfl)
  have N6 := Fr.snoc X6 N5 (own_ge O0 (Nat.le_of_eq z1.symm))
  refine hG _ _ (fun t_ k_ => XS.dup X6.here hx rfl (hb hby d5_123) rfl rfl k_) ?_
  refine hG _ _ (fun t_ k_ => XS.iconst X6.here hx rfl (hb hby d5_124) k_) ?_
  refine hG _ _ (fun t_ k_ => XS.bipush X6.here hx rfl (hb hby d5_125) k_) ?_
  obtain ⟨c7, Ar7, q7, S7, M7, H7, G7⟩ := id V6
  obtain ⟨T7, h7, X7, e7, W7, st7⟩ := stC X6 hx hZ e6 Ar7 (j := (5 : Int32)) (inb_of S7 ⟨by decide, by decide⟩) (g := (mkF m 127 #[oi 2, oi ch] [(.int 105), (.int 5), (.ref b1), (.ref b1)])) rfl rfl (hb hby d5_127)
  refine hG _ _ st7 ?_
  have K7 : Keep h0 h7 [] := K6.wr W7 (Or.inr (Nat.le_trans (Keep.refl h0 []).1 (Nat.le_of_eq z1.symm)))
  have O7 : own_Old Z h7 := O6.wr W7 (own_ge O0 (Nat.le_of_eq z1.symm))
  rw [own_narC (by decide)] at W7
  have V7 : Arv Z h7 b1 k1 .char (14 : Int32) [(.int ch), (.int 112), (.int 101), (.int 110), (.int 100), (.int 105), (.int 0), (.int 0), (.int 0), (.int 0), (.int 0), (.int 0), (.int 0), (.int 0)] (.int 0) := Arv.set Ar7 q7 S7 M7 H7 G7 (own_fitC (by decide)) W7 5 rfl (Nat.le_of_ble_eq_true rfl)
  have N7 := Fr.snoc X7 N6 (own_ge O0 (Nat.le_of_eq z1.symm))
  refine hG _ _ (fun t_ k_ => XS.dup X7.here hx rfl (hb hby d5_128) rfl rfl k_) ?_
  refine hG _ _ (fun t_ k_ => XS.bipush X7.here hx rfl (hb hby d5_129) k_) ?_
  refine hG _ _ (fun t_ k_ => XS.bipush X7.here hx rfl (hb hby d5_131) k_) ?_
  obtain ⟨c8, Ar8, q8, S8, M8, H8, G8⟩ := id V7
  obtain ⟨T8, h8, X8, e8, W8, st8⟩ := stC X7 hx hZ e7 Ar8 (j := (6 : Int32)) (inb_of S8 ⟨by decide, by decide⟩) (g := (mkF m 133 #[oi 2, oi ch] [(.int 110), (.int 6), (.ref b1), (.ref b1)])) rfl rfl (hb hby d5_133)
  refine hG _ _ st8 ?_
  have K8 : Keep h0 h8 [] := K7.wr W8 (Or.inr (Nat.le_trans (Keep.refl h0 []).1 (Nat.le_of_eq z1.symm)))
  have O8 : own_Old Z h8 := O7.wr W8 (own_ge O0 (Nat.le_of_eq z1.symm))
  rw [own_narC (by decide)] at W8
  have V8 : Arv Z h8 b1 k1 .char (14 : Int32) [(.int ch), (.int 112), (.int 101), (.int 110), (.int 100), (.int 105), (.int 110), (.int 0), (.int 0), (.int 0), (.int 0), (.int 0), (.int 0), (.int 0)] (.int 0) := Arv.set Ar8 q8 S8 M8 H8 G8 (own_fitC (by decide)) W8 6 rfl (Nat.le_of_ble_eq_true rfl)
  have N8 := Fr.snoc X8 N7 (own_ge O0 (Nat.le_of_eq z1.symm))
  refine hG _ _ (fun t_ k_ => XS.dup X8.here hx rfl (hb hby d5_134) rfl rfl k_) ?_
  refine hG _ _ (fun t_ k_ => XS.bipush X8.here hx rfl (hb hby d5_135) k_) ?_
  refine hG _ _ (fun t_ k_ => XS.bipush X8.here hx rfl (hb hby d5_137) k_) ?_
  obtain ⟨c9, Ar9, q9, S9, M9, H9, G9⟩ := id V8
  obtain ⟨T9, h9, X9, e9, W9, st9⟩ := stC X8 hx hZ e8 Ar9 (j := (7 : Int32)) (inb_of S9 ⟨by decide, by decide⟩) (g := (mkF m 139 #[oi 2, oi ch] [(.int 103), (.int 7), (.ref b1), (.ref b1)])) rfl rfl (hb hby d5_139)
  refine hG _ _ st9 ?_
  have K9 : Keep h0 h9 [] := K8.wr W9 (Or.inr (Nat.le_trans (Keep.refl h0 []).1 (Nat.le_of_eq z1.symm)))
  have O9 : own_Old Z h9 := O8.wr W9 (own_ge O0 (Nat.le_of_eq z1.symm))
  rw [own_narC (by decide)] at W9
  have V9 : Arv Z h9 b1 k1 .char (14 : Int32) [(.int ch), (.int 112), (.int 101), (.int 110), (.int 100), (.int 105), (.int 110), (.int 103), (.int 0), (.int 0), (.int 0), (.int 0), (.int 0), (.int 0)] (.int 0) := Arv.set Ar9 q9 S9 M9 H9 G9 (own_fitC (by decide)) W9 7 rfl (Nat.le_of_ble_eq_true rfl)
  have N9 := Fr.snoc X9 N8 (own_ge O0 (Nat.le_of_eq z1.symm))
  show G (T9.setTop (mkF m 140 #[oi 2, oi ch] [(.ref b1)]))
  refine hG _ _ (fun t_ k_ => XS.dup X9.here hx rfl (hb hby d5_140) rfl rfl k_) ?_
  refine hG _ _ (fun t_ k_ => XS.bipush X9.here hx rfl (hb hby d5_141) k_) ?_
  refine hG _ _ (fun t_ k_ => XS.bipush X9.here hx rfl (hb hby d5_143) k_) ?_
  obtain ⟨c10, Ar10, q10, S10, M10, H10, G10⟩ := id V9
  obtain ⟨T10, h10, X10, e10, W10, st10⟩ := stC X9 hx hZ e9 Ar10 (j := (8 : Int32)) (inb_of S10 ⟨by decide, by decide⟩) (g := (mkF m 145 #[oi 2, oi ch] [(.int 67), (.int 8), (.ref b1), (.ref b1)])) rfl rfl (hb hby d5_145)
  refine hG _ _ st10 ?_
  have K10 : Keep h0 h10 [] := K9.wr W10 (Or.inr (Nat.le_trans (Keep.refl h0 []).1 (Nat.le_of_eq z1.symm)))
  have O10 : own_Old Z h10 := O9.wr W10 (own_ge O0 (Nat.le_of_eq z1.symm))
  rw [own_narC (by decide)] at W10
  have V10 : Arv Z h10 b1 k1 .char (14 : Int32) [(.int ch), (.int 112), (.int 101), (.int 110), (.int 100), (.int 105), (.int 110), (.int 103), (.int 67), (.int 0), (.int 0), (.int 0), (.int 0), (.int 0)] (.int 0) := Arv.set Ar10 q10 S10 M10 H10 G10 (own_fitC (by decide)) W10 8 rfl (Nat.le_of_ble_eq_true rfl)
  have N10 := Fr.snoc X10 N9 (own_ge O0 (Nat.le_of_eq z1.symm))
  refine hG _ _ (fun t_ k_ => XS.dup X10.here hx rfl (hb hby d5_146) rfl rfl k_) ?_
  refine hG _ _ (fun t_ k_ => XS.bipush X10.here hx rfl (hb hby d5_147) k_) ?_
  refine hG _ _ (fun t_ k_ => XS.bipush X10.here hx rfl (hb hby d5_149) k_) ?_
  obtain ⟨c11, Ar11, q11, S11, M11, H11, G11⟩ := id V10
  obtain ⟨T11, h11, X11, e11, W11, st11⟩ := stC X10 hx hZ e10 Ar11 (j := (9 : Int32)) (inb_of S11 ⟨by decide, by decide⟩) (g := (mkF m 151 #[oi 2, oi ch] [(.int 114), (.int 9), (.ref b1), (.ref b1)])) rfl rfl (hb hby d5_151)
  refine hG _ _ st11 ?_
  have K11 : Keep h0 h11 [] := K10.wr W11 (Or.inr (Nat.le_trans (Keep.refl h0 []).1 (Nat.le_of_eq z1.symm)))
  have O11 : own_Old Z h11 := O10.wr W11 (own_ge O0 (Nat.le_of_eq z1.symm))
  rw [own_narC (by decide)] at W11
  have V11 : Arv Z h11 b1 k1 .char (14 : Int32) [(.int ch), (.int 112), (.int 101), (.int 110), (.int 100), (.int 105), (.int 110), (.int 103), (.int 67), (.int 114), (.int 0), (.int 0), (.int 0), (.int 0)] (.int 0) := Arv.set Ar11 q11 S11 M11 H11 G11 (own_fitC (by decide)) W11 9 rfl (Nat.le_of_ble_eq_true rfl)
  have N11 := Fr.snoc X11 N10 (own_ge O0 (Nat.le_of_eq z1.symm))
  refine hG _ _ (fun t_ k_ => XS.dup X11.here hx rfl (hb hby d5_152) rfl rfl k_) ?_
  refine hG _ _ (fun t_ k_ => XS.bipush X11.here hx rfl (hb hby d5_153) k_) ?_
  refine hG _ _ (fun t_ k_ => XS.bipush X11.here hx rfl (hb hby d5_155) k_) ?_
  obtain ⟨c12, Ar12, q12, S12, M12, H12, G12⟩ := id V11
  obtain ⟨T12, h12, X12, e12, W12, st12⟩ := stC X11 hx hZ e11 Ar12 (j := (10 : Int32)) (inb_of S12 ⟨by decide, by decide⟩) (g := (mkF m 157 #[oi 2, oi ch] [(.int 101), (.int 10), (.ref b1), (.ref b1)])) rfl rfl (hb hby d5_157)
  refine hG _ _ st12 ?_
  have K12 : Keep h0 h12 [] := K11.wr W12 (Or.inr (Nat.le_trans (Keep.refl h0 []).1 (Nat.le_of_eq z1.symm)))
  have O12 : own_Old Z h12 := O11.wr W12 (own_ge O0 (Nat.le_of_eq z1.symm))
  rw [own_narC (by decide)] at W12
  have V12 : Arv Z h12 b1 k1 .char (14 : Int32) [(.int ch), (.int 112), (.int 101), (.int 110), (.int 100), (.int 105), (.int 110), (.int 103), (.int 67), (.int 114), (.int 101), (.int 0), (.int 0), (.int 0)] (.int 0) := Arv.set Ar12 q12 S12 M12 H12 G12 (own_fitC (by decide)) W12 10 rfl (Nat.le_of_ble_eq_true rfl)
  have N12 := Fr.snoc X12 N11 (own_ge O0 (Nat.le_of_eq z1.symm))
  refine hG _ _ (fun t_ k_ => XS.dup X12.here hx rfl (hb hby d5_158) rfl rfl k_) ?_
  refine hG _ _ (fun t_ k_ => XS.bipush X12.here hx rfl (hb hby d5_159) k_) ?_
  refine hG _ _ (fun t_ k_ => XS.bipush X12.here hx rfl (hb hby d5_161) k_) ?_
  obtain ⟨c13, Ar13, q13, S13, M13, H13, G13⟩ := id V12
  obtain ⟨T13, h13, X13, e13, W13, st13⟩ := stC X12 hx hZ e12 Ar13 (j := (11 : Int32)) (inb_of S13 ⟨by decide, by decide⟩) (g := (mkF m 163 #[oi 2, oi ch] [(.int 97), (.int 11), (.ref b1), (.ref b1)])) rfl rfl (hb hby d5_163)
  refine hG _ _ st13 ?_
  have K13 : Keep h0 h13 [] := K12.wr W13 (Or.inr (Nat.le_trans (Keep.refl h0 []).1 (Nat.le_of_eq z1.symm)))
  have O13 : own_Old Z h13 := O12.wr W13 (own_ge O0 (Nat.le_of_eq z1.symm))
  rw [own_narC (by decide)] at W13
  have V13 : Arv Z h13 b1 k1 .char (14 : Int32) [(.int ch), (.int 112), (.int 101), (.int 110), (.int 100), (.int 105), (.int 110), (.int 103), (.int 67), (.int 114), (.int 101), (.int 97), (.int 0), (.int 0)] (.int 0) := Arv.set Ar13 q13 S13 M13 H13 G13 (own_fitC (by decide)) W13 11 rfl (Nat.le_of_ble_eq_true rfl)
  have N13 := Fr.snoc X13 N12 (own_ge O0 (Nat.le_of_eq z1.symm))
  refine hG _ _ (fun t_ k_ => XS.dup X13.here hx rfl (hb hby d5_164) rfl rfl k_) ?_
  show G (T13.setTop (mkF m 165 #[oi 2, oi ch] [(.ref b1), (.ref b1)]))
  refine hG _ _ (fun t_ k_ => XS.bipush X13.here hx rfl (hb hby d5_165) k_) ?_
  refine hG _ _ (fun t_ k_ => XS.bipush X13.here hx rfl (hb hby d5_167) k_) ?_
  obtain ⟨c14, Ar14, q14, S14, M14, H14, G14⟩ := id V13
  obtain ⟨T14, h14, X14, e14, W14, st14⟩ := stC X13 hx hZ e13 Ar14 (j := (12 : Int32)) (inb_of S14 ⟨by decide, by decide⟩) (g := (mkF m 169 #[oi 2, oi ch] [(.int 116), (.int 12), (.ref b1), (.ref b1)])) rfl rfl (hb hby d5_169)
  refine hG _ _ st14 ?_
  have K14 : Keep h0 h14 [] := K13.wr W14 (Or.inr (Nat.le_trans (Keep.refl h0 []).1 (Nat.le_of_eq z1.symm)))
  have O14 : own_Old Z h14 := O13.wr W14 (own_ge O0 (Nat.le_of_eq z1.symm))
  rw [own_narC (by decide)] at W14
  have V14 : Arv Z h14 b1 k1 .char (14 : Int32) [(.int ch), (.int 112), (.int 101), (.int 110), (.int 100), (.int 105), (.int 110), (.int 103), (.int 67), (.int 114), (.int 101), (.int 97), (.int 116), (.int 0)] (.int 0) := Arv.set Ar14 q14 S14 M14 H14 G14 (own_fitC (by decide)) W14 12 rfl (Nat.le_of_ble_eq_true rfl)
  have N14 := Fr.snoc X14 N13 (own_ge O0 (Nat.le_of_eq z1.symm))
  refine hG _ _ (fun t_ k_ => XS.dup X14.here hx rfl (hb hby d5_170) rfl rfl k_) ?_
  refine hG _ _ (fun t_ k_ => XS.bipush X14.here hx rfl (hb hby d5_171) k_) ?_
  refine hG _ _ (fun t_ k_ => XS.bipush X14.here hx rfl (hb hby d5_173) k_) ?_
  obtain ⟨c15, Ar15, q15, S15, M15, H15, G15⟩ := id V14
  obtain ⟨T15, h15, X15, e15, W15, st15⟩ := stC X14 hx hZ e14 Ar15 (j := (13 : Int32)) (inb_of S15 ⟨by decide, by decide⟩) (g := (mkF m 175 #[oi 2, oi ch] [(.int 101), (.int 13), (.ref b1), (.ref b1)])) rfl rfl (hb hby d5_175)
  refine hG _ _ st15 ?_
  have K15 : Keep h0 h15 [] := K14.wr W15 (Or.inr (Nat.le_trans (Keep.refl h0 []).1 (Nat.le_of_eq z1.symm)))
  have O15 : own_Old Z h15 := O14.wr W15 (own_ge O0 (Nat.le_of_eq z1.symm))
  rw [own_narC (by decide)] at W15
  have V15 : Arv Z h15 b1 k1 .char (14 : Int32) [(.int ch), (.int 112), (.int 101), (.int 110), (.int 100), (.int 105), (.int 110), (.int 103), (.int 67), (.int 114), (.int 101), (.int 97), (.int 116), (.int 101)] (.int 0) := Arv.set Ar15 q15 S15 M15 H15 G15 (own_fitC (by decide)) W15 13 rfl (Nat.le_of_ble_eq_true rfl)
  have N15 := Fr.snoc X15 N14 (own_ge O0 (Nat.le_of_eq z1.symm))
  show G (T15.setTop (mkF m 176 #[oi 2, oi ch] [(.ref b1)]))
  exact own_retA hR hret rfl rfl X15 hx (hb hby d5_176) (by decide) (by decide) (by rw [e15]; exact ⟨b1, k1, rfl, N15, K15, (Nat.le_trans (Keep.refl h0 []).1 (Nat.le_of_eq z1.symm)), V15⟩)
theorem own_pd16 : parseMethodDescriptor "(ICCC)[C" = some ⟨[.int, .char, .char, .char], some (.array .char)⟩ := by decide +kernel
theorem own_mk_shortChars_0 (l : Launch) (Z : State) (a0 : Array Value) (hw : ∀ d ∈ tables_1, d.before a0 Z = true) (ch : Int32) (ch2 : Int32) (ch3 : Int32) (h0 : Heap) (O0 : own_Old Z h0) (g0_hch : 0 ≤ ch.toInt ∧ ch.toInt ≤ 65535) (g1_h2 : 0 ≤ ch2.toInt ∧ ch2.toInt ≤ 65535) (g2_h3 : 0 ≤ ch3.toInt ∧ ch3.toInt ≤ 65535) :
    own_Con l Z (⟨"com/example/handlewright/handlewright/DomainStatusFindPinLaw", "shortChars", "(ICCC)[C"⟩ : MethodName) method_7_code 4 (some (.array .char)) [] ({ frames := 0, cells := 1, slots := 0, locals := 0 } : Room) #[(.int 0), (.int ch), (.int ch2), (.int ch3)] h0 (fun rv rh rL => ∃ (u : Addr) (ku : ClassId), rv = some (.ref u) ∧ own_Fr Z rL ∧ Keep h0 rh [] ∧ h0.size ≤ u ∧ (Arv Z rh u ku .char (0 : Int32) [] (.int 0))) := by
  refine own_intro (plainFor_of_name (by first | (simp [plainName, overriddenIn]; done) | decide +kernel)) ?_
  intro p e s m below meth c s₁ G hx hby hml hown hnm hret hZ X0 e0 hG hR
  have N0 := Fr.nil Z.heap.size
  refine own_entry (Ls := #[.val (.int 0), .val (.int ch), .val (.int ch2), .val (.int ch3)]) (by first | (simp [entryFrame, mkF, argsToLocals, Value.category]; done) | rfl) ?_
  show G (s₁.setTop (mkF m 0 #[oi 0, oi ch, oi ch2, oi ch3] []))
  refine hG _ _ (fun t_ k_ => XS.iloadN X0.here hx rfl (hb hby d15_0) rfl k_) ?_
  show G (s₁.setTop (mkF m 1 #[oi 0, oi ch, oi ch2, oi ch3] [(.int 0)]))
  refine hG _ _ (fun t_ k_ => XS.ifNo X0.here hx rfl (hb hby d15_1) rfl ((if0 _ _).trans (teq (by decide)).2) k_) ?_
  show G (s₁.setTop (mkF m 4 #[oi 0, oi ch, oi ch2, oi ch3] []))
  refine hG _ _ (fun t_ k_ => XS.iconst X0.here hx rfl (hb hby d15_4) k_) ?_
  obtain ⟨T1, h1, k1, X1, e1, E1, A1, st1⟩ := newP X0 hx hZ (ow hw 45 rfl) e0 (g := (mkF m 5 #[oi 0, oi ch, oi ch2, oi ch3] [(.int 0)])) rfl (hb hby d15_5) rfl (by decide) (cap := 0) (by decide) (by decide) (by decide) (by decide)
  obtain ⟨b1, z1⟩ : ∃ z, z = h0.size := ⟨_, rfl⟩
  rw [← z1] at A1 st1
  refine hG _ _ st1 ?_
  have K1 : Keep h0 h1 [] := (Keep.refl h0 []).ext E1
  have O1 : own_Old Z h1 := O0.ext E1
  have V1 : Arv Z h1 b1 k1 .char (0 : Int32) [] (.int 0) := (Arv.new A1 (by decide)).pad (pad_rep [] (.int 0) 0)
  show G (T1.setTop (mkF m 7 #[oi 0, oi ch, oi ch2, oi ch3] [(.ref b1)]))
  exact own_retA hR hret rfl rfl X1 hx (hb hby d15_7) (by decide) (by decide) (by rw [e1]; exact ⟨b1, k1, rfl, N0, K1, (Nat.le_trans (Keep.refl h0 []).1 (Nat.le_of_eq z1.symm)), V1⟩)
theorem own_mk_shortChars_1 (l : Launch) (Z : State) (a0 : Array Value) (hw : ∀ d ∈ tables_1, d.before a0 Z = true) (ch : Int32) (ch2 : Int32) (ch3 : Int32) (h0 : Heap) (O0 : own_Old Z h0) (g0_hch : 0 ≤ ch.toInt ∧ ch.toInt ≤ 65535) (g1_h2 : 0 ≤ ch2.toInt ∧ ch2.toInt ≤ 65535) (g2_h3 : 0 ≤ ch3.toInt ∧ ch3.toInt ≤ 65535) :
    own_Con l Z (⟨"com/example/handlewright/handlewright/DomainStatusFindPinLaw", "shortChars", "(ICCC)[C"⟩ : MethodName) method_7_code 4 (some (.array .char)) [] ({ frames := 0, cells := 1, slots := 1, locals := 0 } : Room) #[(.int 1), (.int ch), (.int ch2), (.int ch3)] h0 (fun rv rh rL => ∃ (u : Addr) (ku : ClassId), rv = some (.ref u) ∧ own_Fr Z rL ∧ Keep h0 rh [] ∧ h0.size ≤ u ∧ (Arv Z rh u ku .char (1 : Int32) [(.int ch)] (.int 0))) := by
  refine own_intro (plainFor_of_name (by first | (simp [plainName, overriddenIn]; done) | decide +kernel)) ?_
  intro p e s m below meth c s₁ G hx hby hml hown hnm hret hZ X0 e0 hG hR
  have N0 := Fr.nil Z.heap.size
  refine own_entry (Ls := #[.val (.int 1), .val (.int ch), .val (.int ch2), .val (.int ch3)]) (by first | (simp [entryFrame, mkF, argsToLocals, Value.category]; done) | rfl) ?_
  show G (s₁.setTop (mkF m 0 #[oi 1, oi ch, oi ch2, oi ch3] []))
  refine hG _ _ (fun t_ k_ => XS.iloadN X0.here hx rfl (hb hby d15_0) rfl k_) ?_
  show G (s₁.setTop (mkF m 1 #[oi 1, oi ch, oi ch2, oi ch3] [(.int 1)]))
  refine hG _ _ (fun t_ k_ => XS.ifYes X0.here hx rfl (pc0 := 1) (pc' := 8) rfl (hb hby d15_1) rfl ((if0 _ _).trans (feq (by decide)).2) (by decide) (by decide) k_) ?_
  show G (s₁.setTop (mkF m 8 #[oi 1, oi ch, oi ch2, oi ch3] []))
  refine hG _ _ (fun t_ k_ => XS.iloadN X0.here hx rfl (hb hby d15_8) rfl k_) ?_
  refine hG _ _ (fun t_ k_ => XS.iconst X0.here hx rfl (hb hby d15_9) k_) ?_
  show G (s₁.setTop (mkF m 10 #[oi 1, oi ch, oi ch2, oi ch3] [(.int 1), (.int 1)]))
  refine hG _ _ (fun t_ k_ => XS.icmpNo X0.here hx rfl (hb hby d15_10) rfl (teq (by decide)).2 k_) ?_
  show G (s₁.setTop (mkF m 13 #[oi 1, oi ch, oi ch2, oi ch3] []))
  refine hG _ _ (fun t_ k_ => XS.iconst X0.here hx rfl (hb hby d15_13) k_) ?_
  obtain ⟨T1, h1, k1, X1, e1, E1, A1, st1⟩ := newP X0 hx hZ (ow hw 45 rfl) e0 (g := (mkF m 14 #[oi 1, oi ch, oi ch2, oi ch3] [(.int 1)])) rfl (hb hby d15_14) rfl (by decide) (cap := 1) (by decide) (by decide) (by decide) (by decide)
  obtain ⟨b1, z1⟩ : ∃ z, z = h0.size := ⟨_, rfl⟩
  rw [← z1] at A1 st1
  refine hG _ _ st1 ?_
  have K1 : Keep h0 h1 [] := (Keep.refl h0 []).ext E1
  have O1 : own_Old Z h1 := O0.ext E1
  have V1 : Arv Z h1 b1 k1 .char (1 : Int32) [(.int 0)] (.int 0) := (Arv.new A1 (by decide)).pad (pad_rep [] (.int 0) 1)
  refine hG _ _ (fun t_ k_ => XS.dup X1.here hx rfl (hb hby d15_16) rfl rfl k_) ?_
  refine hG _ _ (fun t_ k_ => XS.iconst X1.here hx rfl (hb hby d15_17) k_) ?_
  refine hG _ _ (fun t_ k_ => XS.iloadN X1.here hx rfl (hb hby d15_18) rfl k_) ?_
  obtain ⟨c2, Ar2, q2, S2, M2, H2, G2⟩ := id V1
  obtain ⟨T2, h2, X2, e2, W2, st2⟩ := stC X1 hx hZ e1 Ar2 (j := (0 : Int32)) (inb_of S2 ⟨by decide, by decide⟩) (g := (mkF m 19 #[oi 1, oi ch, oi ch2, oi ch3] [(.int ch), (.int 0), (.ref b1), (.ref b1)])) rfl rfl (hb hby d15_19)
  refine hG _ _ st2 ?_
  have K2 : Keep h0 h2 [] := K1.wr W2 (Or.inr (Nat.le_trans (Keep.refl h0 []).1 (Nat.le_of_eq z1.symm)))
  have O2 : own_Old Z h2 := O1.wr W2 (own_ge O0 (Nat.le_of_eq z1.symm))
  rw [own_narC g0_hch] at W2
  have V2 : Arv Z h2 b1 k1 .char (1 : Int32) [(.int ch)] (.int 0) := Arv.set Ar2 q2 S2 M2 H2 G2 (own_fitC g0_hch) W2 0 rfl (Nat.le_of_ble_eq_true rfl)
  have N2 := Fr.snoc X2 N0 (own_ge O0 (Nat.le_of_eq z1.symm))
  show G (T2.setTop (mkF m 20 #[oi 1, oi ch, oi ch2, oi ch3] [(.ref b1)]))
  exact own_retA hR hret rfl rfl X2 hx (hb hby d15_20) (by decide) (by decide) (by rw [e2]; exact ⟨b1, k1, rfl, N2, K2, (Nat.le_trans (Keep.refl h0 []).1 (Nat.le_of_eq z1.symm)), V2⟩)
theorem own_mk_shortChars_2 (l : Launch) (Z : State) (a0 : Array Value) (hw : ∀ d ∈ tables_1, d.before a0 Z = true) (ch : Int32) (ch2 : Int32) (ch3 : Int32) (h0 : Heap) (O0 : own_Old Z h0) (g0_hch : 0 ≤ ch.toInt ∧ ch.toInt ≤ 65535) (g1_h2 : 0 ≤ ch2.toInt ∧ ch2.toInt ≤ 65535) (g2_h3 : 0 ≤ ch3.toInt ∧ ch3.toInt ≤ 65535) :
    own_Con l Z (⟨"com/example/handlewright/handlewright/DomainStatusFindPinLaw", "shortChars", "(ICCC)[C"⟩ : MethodName) method_7_code 4 (some (.array .char)) [] ({ frames := 0, cells := 1, slots := 2, locals := 0 } : Room) #[(.int 2), (.int ch), (.int ch2), (.int ch3)] h0 (fun rv rh rL => ∃ (u : Addr) (ku : ClassId), rv = some (.ref u) ∧ own_Fr Z rL ∧ Keep h0 rh [] ∧ h0.size ≤ u ∧ (Arv Z rh u ku .char (2 : Int32) [(.int ch), (.int ch2)] (.int 0))) := by
  refine own_intro (plainFor_of_name (by first | (simp [plainName, overriddenIn]; done) | decide +kernel)) ?_
  intro p e s m below meth c s₁ G hx hby hml hown hnm hret hZ X0 e0 hG hR
  have N0 := Fr.nil Z.heap.size
  refine own_entry (Ls := #[.val (.int 2), .val (.int ch), .val (.int ch2), .val (.int ch3)]) (by first | (simp [entryFrame, mkF, argsToLocals, Value.category]; done) | rfl) ?_
  show G (s₁.setTop (mkF m 0 #[oi 2, oi ch, oi ch2, oi ch3] []))
  refine hG _ _ (fun t_ k_ => XS.iloadN X0.here hx rfl (hb hby d15_0) rfl k_) ?_
  show G (s₁.setTop (mkF m 1 #[oi 2, oi ch, oi ch2, oi ch3] [(.int 2)]))
  refine hG _ _ (fun t_ k_ => XS.ifYes X0.here hx rfl (pc0 := 1) (pc' := 8) rfl (hb hby d15_1) rfl ((if0 _ _).trans (feq (by decide)).2) (by decide) (by decide) k_) ?_
  show G (s₁.setTop (mkF m 8 #[oi 2, oi ch, oi ch2, oi ch3] []))
  refine hG _ _ (fun t_ k_ => XS.iloadN X0.here hx rfl (hb hby d15_8) rfl k_) ?_
  refine hG _ _ (fun t_ k_ => XS.iconst X0.here hx rfl (hb hby d15_9) k_) ?_
  show G (s₁.setTop (mkF m 10 #[oi 2, oi ch, oi ch2, oi ch3] [(.int 1), (.int 2)]))
  refine hG _ _ (fun t_ k_ => XS.icmpYes X0.here hx rfl (pc0 := 10) (pc' := 21) rfl (hb hby d15_10) rfl (feq (by decide)).2 (by decide) (by decide) k_) ?_
  show G (s₁.setTop (mkF m 21 #[oi 2, oi ch, oi ch2, oi ch3] []))
  refine hG _ _ (fun t_ k_ => XS.iloadN X0.here hx rfl (hb hby d15_21) rfl k_) ?_
  refine hG _ _ (fun t_ k_ => XS.iconst X0.here hx rfl (hb hby d15_22) k_) ?_
  show G (s₁.setTop (mkF m 23 #[oi 2, oi ch, oi ch2, oi ch3] [(.int 2), (.int 2)]))
  refine hG _ _ (fun t_ k_ => XS.icmpNo X0.here hx rfl (hb hby d15_23) rfl (teq (by decide)).2 k_) ?_
  show G (s₁.setTop (mkF m 26 #[oi 2, oi ch, oi ch2, oi ch3] []))
  refine hG _ _ (fun t_ k_ => XS.iconst X0.here hx rfl (hb hby d15_26) k_) ?_
  obtain ⟨T1, h1, k1, X1, e1, E1, A1, st1⟩ := newP X0 hx hZ (ow hw 45 rfl) e0 (g := (mkF m 27 #[oi 2, oi ch, oi ch2, oi ch3] [(.int 2)])) rfl (hb hby d15_27) rfl (by decide) (cap := 2) (by decide) (by decide) (by decide) (by decide)
  obtain ⟨b1, z1⟩ : ∃ z, z = h0.size := ⟨_, rfl⟩
  rw [← z1] at A1 st1
  refine hG _ _ st1 ?_
  have K1 : Keep h0 h1 [] := (Keep.refl h0 []).ext E1
  have O1 : own_Old Z h1 := O0.ext E1
  have V1 : Arv Z h1 b1 k1 .char (2 : Int32) [(.int 0), (.int 0)] (.int 0) := (Arv.new A1 (by decide)).pad (pad_rep [] (.int 0) 2)
  refine hG _ _ (fun t_ k_ => XS.dup X1.here hx rfl (hb hby d15_29) rfl rfl k_) ?_
  refine hG _ _ (fun t_ k_ => XS.iconst X1.here hx rfl (hb hby d15_30) k_) ?_
  refine hG _ _ (fun t_ k_ => XS.iloadN X1.here hx rfl (hb hby d15_31) rfl k_) ?_
  obtain ⟨c2, Ar2, q2, S2, M2, H2, G2⟩ := id V1
  obtain ⟨T2, h2, X2, e2, W2, st2⟩ := stC X1 hx hZ e1 Ar2 (j := (0 : Int32)) (inb_of S2 ⟨by decide, by decide⟩) (g := (mkF m 32 #[oi 2, oi ch, oi ch2, oi ch3] [(.int ch), (.int 0), (.ref b1), (.ref b1)])) rfl rfl (hb hby d15_32)
  refine hG _ _ st2 ?_
  have K2 : Keep h0 h2 [] := K1.wr W2 (Or.inr (Nat.le_trans (Keep.refl h0 []).1 (Nat.le_of_eq z1.symm)))
  have O2 : own_Old Z h2 := O1.wr W2 (own_ge O0 (Nat.le_of_eq z1.symm))
  rw [own_narC g0_hch] at W2
  have V2 : Arv Z h2 b1 k1 .char (2 : Int32) [(.int ch), (.int 0)] (.int 0) := Arv.set Ar2 q2 S2 M2 H2 G2 (own_fitC g0_hch) W2 0 rfl (Nat.le_of_ble_eq_true rfl)
  have N2 := Fr.snoc X2 N0 (own_ge O0 (Nat.le_of_eq z1.symm))
  refine hG _ _ (fun t_ k_ => XS.dup X2.here hx rfl (hb hby d15_33) rfl rfl k_) ?_
  refine hG _ _ (fun t_ k_ => XS.iconst X2.here hx rfl (hb hby d15_34) k_) ?_
  refine hG _ _ (fun t_ k_ => XS.iloadN X2.here hx rfl (hb hby d15_35) rfl k_) ?_
  obtain ⟨c3, Ar3, q3, S3, M3, H3, G3⟩ := id V2
  obtain ⟨T3, h3, X3, e3, W3, st3⟩ := stC X2 hx hZ e2 Ar3 (j := (1 : Int32)) (inb_of S3 ⟨by decide, by decide⟩) (g := (mkF m 36 #[oi 2, oi ch, oi ch2, oi ch3] [(.int ch2), (.int 1), (.ref b1), (.ref b1)])) rfl rfl (hb hby d15_36)
  refine hG _ _ st3 ?_
  have K3 : Keep h0 h3 [] := K2.wr W3 (Or.inr (Nat.le_trans (Keep.refl h0 []).1 (Nat.le_of_eq z1.symm)))
  have O3 : own_Old Z h3 := O2.wr W3 (own_ge O0 (Nat.le_of_eq z1.symm))
  rw [own_narC g1_h2] at W3
  have V3 : Arv Z h3 b1 k1 .char (2 : Int32) [(.int ch), (.int ch2)] (.int 0) := Arv.set Ar3 q3 S3 M3 H3 G3 (own_fitC g1_h2) W3 1 rfl (Nat.le_of_ble_eq_true rfl)
  have N3 := Fr.snoc X3 N2 (own_ge O0 (Nat.le_of_eq z1.symm))
  show G (T3.setTop (mkF m 37 #[oi 2, oi ch, oi ch2, oi ch3] [(.ref b1)]))
  exact own_retA hR hret rfl rfl X3 hx (hb hby d15_37) (by decide) (by decide) (by rw [e3]; exact ⟨b1, k1, rfl, N3, K3, (Nat.le_trans (Keep.refl h0 []).1 (Nat.le_of_eq z1.symm)), V3⟩)
theorem own_mk_shortChars_3 (l : Launch) (Z : State) (a0 : Array Value) (hw : ∀ d ∈ tables_1, d.before a0 Z = true) (ch : Int32) (ch2 : Int32) (ch3 : Int32) (h0 : Heap) (O0 : own_Old Z h0) (g0_hch : 0 ≤ ch.toInt ∧ ch.toInt ≤ 65535) (g1_h2 : 0 ≤ ch2.toInt ∧ ch2.toInt ≤ 65535) (g2_h3 : 0 ≤ ch3.toInt ∧ ch3.toInt ≤ 65535) :
    own_Con l Z (⟨"com/example/handlewright/handlewright/DomainStatusFindPinLaw", "shortChars", "(ICCC)[C"⟩ : MethodName) method_7_code 4 (some (.array .char)) [] ({ frames := 0, cells := 1, slots := 3, locals := 0 } : Room) #[(.int 3), (.int ch), (.int ch2), (.int ch3)] h0 (fun rv rh rL => ∃ (u : Addr) (ku : ClassId), rv = some (.ref u) ∧ own_Fr Z rL ∧ Keep h0 rh [] ∧ h0.size ≤ u ∧ (Arv Z rh u ku .char (3 : Int32) [(.int ch), (.int ch2), (.int ch3)] (.int 0))) := by
  refine own_intro (plainFor_of_name (by first | (simp [plainName, overriddenIn]; done) | decide +kernel)) ?_
  intro p e s m below meth c s₁ G hx hby hml hown hnm hret hZ X0 e0 hG hR
  have N0 := Fr.nil Z.heap.size
  refine own_entry (Ls := #[.val (.int 3), .val (.int ch), .val (.int ch2), .val (.int ch3)]) (by first | (simp [entryFrame, mkF, argsToLocals, Value.category]; done) | rfl) ?_
  show G (s₁.setTop (mkF m 0 #[oi 3, oi ch, oi ch2, oi ch3] []))
  refine hG _ _ (fun t_ k_ => XS.iloadN X0.here hx rfl (hb hby d15_0) rfl k_) ?_
  show G (s₁.setTop (mkF m 1 #[oi 3, oi ch, oi ch2, oi ch3] [(.int 3)]))
  refine hG _ _ (fun t_ k_ => XS.ifYes X0.here hx rfl (pc0 := 1) (pc' := 8) rfl (hb hby d15_1) rfl ((if0 _ _).trans (feq (by decide)).2) (by decide) (by decide) k_) ?_
  show G (s₁.setTop (mkF m 8 #[oi 3, oi ch, oi ch2, oi ch3] []))
  refine hG _ _ (fun t_ k_ => XS.iloadN X0.here hx rfl (hb hby d15_8) rfl k_) ?_
  refine hG _ _ (fun t_ k_ => XS.iconst X0.here hx rfl (hb hby d15_9) k_) ?_
  show G (s₁.setTop (mkF m 10 #[oi 3, oi ch, oi ch2, oi ch3] [(.int 1), (.int 3)]))
  refine hG _ _ (fun t_ k_ => XS.icmpYes X0.here hx rfl (pc0 := 10) (pc' := 21) rfl (hb hby d15_10) rfl (feq (by decide)).2 (by decide) (by decide) k_) ?_
  show G (s₁.setTop (mkF m 21 #[oi 3, oi ch, oi ch2, oi ch3] []))
  refine hG _ _ (fun t_ k_ => XS.iloadN X0.here hx rfl (hb hby d15_21) rfl k_) ?_
  refine hG _ _ (fun t_ k_ => XS.iconst X0.here hx rfl (hb hby d15_22) k_) ?_
  show G (s₁.setTop (mkF m 23 #[oi 3, oi ch, oi ch2, oi ch3] [(.int 2), (.int 3)]))
  refine hG _ _ (fun t_ k_ => XS.icmpYes X0.here hx rfl (pc0 := 23) (pc' := 38) rfl (hb hby d15_23) rfl (feq (by decide)).2 (by decide) (by decide) k_) ?_
  show G (s₁.setTop (mkF m 38 #[oi 3, oi ch, oi ch2, oi ch3] []))
  refine hG _ _ (fun t_ k_ => XS.iconst X0.here hx rfl (hb hby d15_38) k_) ?_
  obtain ⟨T1, h1, k1, X1, e1, E1, A1, st1⟩ := newP X0 hx hZ (ow hw 45 rfl) e0 (g := (mkF m 39 #[oi 3, oi ch, oi ch2, oi ch3] [(.int 3)])) rfl (hb hby d15_39) rfl (by decide) (cap := 3) (by decide) (by decide) (by decide) (by decide)
  obtain ⟨b1, z1⟩ : ∃ z, z = h0.size := ⟨_, rfl⟩
  rw [← z1] at A1 st1
  refine hG _ _ st1 ?_
  have K1 : Keep h0 h1 [] := (Keep.refl h0 []).ext E1
  have O1 : own_Old Z h1 := O0.ext E1
  have V1 : Arv Z h1 b1 k1 .char (3 : Int32) [(.int 0), (.int 0), (.int 0)] (.int 0) := (Arv.new A1 (by decide)).pad (pad_rep [] (.int 0) 3)
  refine hG _ _ (fun t_ k_ => XS.dup X1.here hx rfl (hb hby d15_41) rfl rfl k_) ?_
  refine hG _ _ (fun t_ k_ => XS.iconst X1.here hx rfl (hb hby d15_42) k_) ?_
  refine hG _ _ (fun t_ k_ => XS.iloadN X1.here hx rfl (hb hby d15_43) rfl k_) ?_
  obtain ⟨c2, Ar2, q2, S2, M2, H2, G2⟩ := id V1
  obtain ⟨T2, h2, X2, e2, W2, st2⟩ := stC X1 hx hZ e1 Ar2 (j := (0 : Int32)) (inb_of S2 ⟨by decide, by decide⟩) (g := (mkF m 44 #[oi 3, oi ch, oi ch2, oi ch3] [(.int ch), (.int 0), (.ref b1), (.ref b1)])) rfl rfl (hb hby d15_44)
  refine hG _ _ st2 ?_
  have K2 : Keep h0 h2 [] := K1.wr W2 (Or.inr (Nat.le_trans (Keep.refl h0 []).1 (Nat.le_of_eq z1.symm)))
  have O2 : own_Old Z h2 := O1.wr W2 (own_ge O0 (Nat.le_of_eq z1.symm))
  rw [own_narC g0_hch] at W2
  have V2 : Arv Z h2 b1 k1 .char (3 : Int32) [(.int ch), (.int 0), (.int 0)] (.int 0) := Arv.set Ar2 q2 S2 M2 H2 G2 (own_fitC g0_hch) W2 0 rfl (Nat.le_of_ble_eq_true rfl)
  have N2 := Fr.snoc X2 N0 (own_ge O0 (Nat.le_of_eq z1.symm))
  refine hG _ _ (fun t_ k_ => XS.dup X2.here hx rfl (hb hby d15_45) rfl rfl k_) ?_
  refine hG _ _ (fun t_ k_ => XS.iconst X2.here hx rfl (hb hby d15_46) k_) ?_
  refine hG _ _ (fun t_ k_ => XS.iloadN X2.here hx rfl (hb hby d15_47) rfl k_) ?_
  obtain ⟨c3, Ar3, q3, S3, M3, H3, G3⟩ := id V2
  obtain ⟨T3, h3, X3, e3, W3, st3⟩ := stC X2 hx hZ e2 Ar3 (j := (1 : Int32)) (inb_of S3 ⟨by decide, by decide⟩) (g := (mkF m 48 #[oi 3, oi ch, oi ch2, oi ch3] [(.int ch2), (.int 1), (.ref b1), (.ref b1)])) rfl rfl (hb hby d15_48)
  refine hG _ _ st3 ?_
  have K3 : Keep h0 h3 [] := K2.wr W3 (Or.inr (Nat.le_trans (Keep.refl h0 []).1 (Nat.le_of_eq z1.symm)))
  have O3 : own_Old Z h3 := O2.wr W3 (own_ge O0 (Nat.le_of_eq z1.symm))
  rw [own_narC g1_h2] at W3
  have V3 : Arv Z h3 b1 k1 .char (3 : Int32) [(.int ch), (.int ch2), (.int 0)] (.int 0) := Arv.set Ar3 q3 S3 M3 H3 G3 (own_fitC g1_h2) W3 1 rfl (Nat.le_of_ble_eq_true rfl)
  have N3 := Fr.snoc X3 N2 (own_ge O0 (Nat.le_of_eq z1.symm))
  refine hG _ _ (fun t_ k_ => XS.dup X3.here hx rfl (hb hby d15_49) rfl rfl k_) ?_
  refine hG _ _ (fun t_ k_ => XS.iconst X3.here hx rfl (hb hby d15_50) k_) ?_
  refine hG _ _ (fun t_ k_ => XS.iloadN X3.here hx rfl (hb hby d15_51) rfl k_) ?_
  obtain ⟨c4, Ar4, q4, S4, M4, H4, G4⟩ := id V3
  obtain ⟨T4, h4, X4, e4, W4, st4⟩ := stC X3 hx hZ e3 Ar4 (j := (2 : Int32)) (inb_of S4 ⟨by decide, by decide⟩) (g := (mkF m 52 #[oi 3, oi ch, oi ch2, oi ch3] [(.int ch3), (.int 2), (.ref b1), (.ref b1)])) rfl rfl (hb hby d15_52)
  refine hG _ _ st4 ?_
  have K4 : Keep h0 h4 [] := K3.wr W4 (Or.inr (Nat.le_trans (Keep.refl h0 []).1 (Nat.le_of_eq z1.symm)))
  have O4 : own_Old Z h4 := O3.wr W4 (own_ge O0 (Nat.le_of_eq z1.symm))
  rw [own_narC g2_h3] at W4
  have V4 : Arv Z h4 b1 k1 .char (3 : Int32) [(.int ch), (.int ch2), (.int ch3)] (.int 0) := Arv.set Ar4 q4 S4 M4 H4 G4 (own_fitC g2_h3) W4 2 rfl (Nat.le_of_ble_eq_true rfl)
  have N4 := Fr.snoc X4 N3 (own_ge O0 (Nat.le_of_eq z1.symm))
  show G (T4.setTop (mkF m 53 #[oi 3, oi ch, oi ch2, oi ch3] [(.ref b1)]))
  exact own_retA hR hret rfl rfl X4 hx (hb hby d15_53) (by decide) (by decide) (by rw [e4]; exact ⟨b1, k1, rfl, N4, K4, (Nat.le_trans (Keep.refl h0 []).1 (Nat.le_of_eq z1.symm)), V4⟩)
theorem own_pd17 : parseMethodDescriptor "(IIIIII)Z" = some ⟨[.int, .int, .int, .int, .int, .int], some .boolean⟩ := by decide +kernel
theorem own_setrng {ks : List Int32} {i : Nat} {x : Int32} (h : ∀ c ∈ ks, 0 ≤ c.toInt ∧ c.toInt ≤ 65535) (hx : 0 ≤ x.toInt ∧ x.toInt ≤ 65535) : ∀ c ∈ ks.set i x, 0 ≤ c.toInt ∧ c.toInt ≤ 65535 := fun c hc => (List.mem_or_eq_of_mem_set hc).elim (h c) (fun e => e ▸ hx)
theorem own_law (l : Launch) (Z : State) (a0 : Array Value) (hw : ∀ d ∈ tables_1, d.before a0 Z = true) (ws : List Jvm.Cond) (hEL : EW Z a0 consts_1) (i0 : Int32) (i1 : Int32) (i2 : Int32) (i3 : Int32) (i4 : Int32) (i5 : Int32) (cpt : Int32) (d0 : Addr) (d1 : Addr) (d2 : Addr) (t0 : Addr) (t1 : Addr) (t2 : Addr) (v0 : Addr) (v1 : Addr) (v2 : Addr) (kv0 : ClassId) (kv1 : ClassId) (kv2 : ClassId) (vals : Addr) (kl : ClassId) (h0 : Heap) (O0 : own_Old Z h0) (g0_S : Sta Z Z.heap "java/lang/String" "COMPACT_STRINGS" "Z" (.int cpt)) (g1_hcpt : ¬ (cpt = (0 : Int32))) (g2_S : Sta Z Z.heap "java/lang/StringUTF16" "$assertionsDisabled" "Z" (.int 1)) (g3_S : Sta Z Z.heap "java/lang/StringUTF16" "HI_BYTE_SHIFT" "I" (.int 0)) (g4_S : Sta Z Z.heap "java/lang/StringUTF16" "LO_BYTE_SHIFT" "I" (.int 8)) (g5_S : Sta Z Z.heap "com/example/handlewright/handlewright/DomainStatus" "CONNECT" "Lcom/example/handlewright/handlewright/DomainStatus;" (.ref d0)) (g6_S : Sta Z Z.heap "com/example/handlewright/handlewright/DomainStatus" "FAILED" "Lcom/example/handlewright/handlewright/DomainStatus;" (.ref d1)) (g7_S : Sta Z Z.heap "com/example/handlewright/handlewright/DomainStatus" "PENDING_CREATE" "Lcom/example/handlewright/handlewright/DomainStatus;" (.ref d2)) (g8_S : Sta Z Z.heap "com/example/handlewright/handlewright/DomainStatus" "$VALUES" "[Lcom/example/handlewright/handlewright/DomainStatus;" (.ref vals)) (g9_E : Exa Z h0 vals "[Lcom/example/handlewright/handlewright/DomainStatus;") (g10_V : Arv Z h0 vals kl (.object "com/example/handlewright/handlewright/DomainStatus") (3 : Int32) [(.ref d0), (.ref d1), (.ref d2)] .null) (g11_E : Exa Z h0 d0 "com/example/handlewright/handlewright/DomainStatus") (g12_F : Fld Z h0 d0 "com/example/handlewright/handlewright/DomainStatus" "text" "Ljava/lang/String;" (.ref t0)) (g13_E : Exa Z h0 t0 "java/lang/String") (g14_F : Fld Z h0 t0 "java/lang/String" "coder" "B" (.int 0)) (g15_F : Fld Z h0 t0 "java/lang/String" "value" "[B" (.ref v0)) (g16_V : Arv Z h0 v0 kv0 .byte (Int32.ofNat [(99 : Int32), (111 : Int32), (110 : Int32), (110 : Int32), (101 : Int32), (99 : Int32), (116 : Int32)].length) ([(99 : Int32), (111 : Int32), (110 : Int32), (110 : Int32), (101 : Int32), (99 : Int32), (116 : Int32)].map fun c => Value.int c.toInt8.toInt32) (.int 0)) (g17_E : Exa Z h0 d1 "com/example/handlewright/handlewright/DomainStatus") (g18_F : Fld Z h0 d1 "com/example/handlewright/handlewright/DomainStatus" "text" "Ljava/lang/String;" (.ref t1)) (g19_E : Exa Z h0 t1 "java/lang/String") (g20_F : Fld Z h0 t1 "java/lang/String" "coder" "B" (.int 0)) (g21_F : Fld Z h0 t1 "java/lang/String" "value" "[B" (.ref v1)) (g22_V : Arv Z h0 v1 kv1 .byte (Int32.ofNat [(102 : Int32), (97 : Int32), (105 : Int32), (108 : Int32), (101 : Int32), (100 : Int32)].length) ([(102 : Int32), (97 : Int32), (105 : Int32), (108 : Int32), (101 : Int32), (100 : Int32)].map fun c => Value.int c.toInt8.toInt32) (.int 0)) (g23_E : Exa Z h0 d2 "com/example/handlewright/handlewright/DomainStatus") (g24_F : Fld Z h0 d2 "com/example/handlewright/handlewright/DomainStatus" "text" "Ljava/lang/String;" (.ref t2)) (g25_E : Exa Z h0 t2 "java/lang/String") (g26_F : Fld Z h0 t2 "java/lang/String" "coder" "B" (.int 0)) (g27_F : Fld Z h0 t2 "java/lang/String" "value" "[B" (.ref v2)) (g28_V : Arv Z h0 v2 kv2 .byte (Int32.ofNat [(112 : Int32), (101 : Int32), (110 : Int32), (100 : Int32), (105 : Int32), (110 : Int32), (103 : Int32), (67 : Int32), (114 : Int32), (101 : Int32), (97 : Int32), (116 : Int32), (101 : Int32)].length) ([(112 : Int32), (101 : Int32), (110 : Int32), (100 : Int32), (105 : Int32), (110 : Int32), (103 : Int32), (67 : Int32), (114 : Int32), (101 : Int32), (97 : Int32), (116 : Int32), (101 : Int32)].map fun c => Value.int c.toInt8.toInt32) (.int 0)) (g29_n01 : t0 ≠ t1) (g30_n02 : t0 ≠ t2) (g31_n12 : t1 ≠ t2) :
    own_ConW l Z consts_1 x code maxLocals ret ws room_1 #[(.int i0), (.int i1), (.int i2), (.int i3), (.int i4), (.int i5)] h0 (fun rv rh rL => rv = some (.int 1) ∧ own_Fr Z rL ∧ Keep h0 rh []) := by
  refine own_introW hEL (plainFor_of_name (by first | (simp [plainName, overriddenIn]; done) | decide +kernel)) ?_
  intro p e s m below meth c s₁ G hx hby hml hown hnm hret hZ X0 e0 H0 SI0 hG hR
  have N0 := Fr.nil Z.heap.size
  refine own_entry (Ls := #[.val (.int i0), .val (.int i1), .val (.int i2), .val (.int i3), .val (.int i4), .val (.int i5), .unset, .unset, .unset, .unset, .unset, .unset, .unset, .unset]) (by first | (simp [entryFrame, mkF, argsToLocals, Value.category, maxLocals]; done) | rfl) ?_
  show G (s₁.setTop (mkF m 0 #[oi i0, oi i1, oi i2, oi i3, oi i4, oi i5, .unset, .unset, .unset, .unset, .unset, .unset, .unset, .unset] []))
  refine hG _ _ (fun t_ k_ => XS.iloadN X0.here hx rfl (hb hby at_0) rfl k_) ?_
  refine hG _ _ (X0.ldcInt hx hown (mvT hZ (ow hw 0 rfl)) (g := (mkF m 1 #[oi i0, oi i1, oi i2, oi i3, oi i4, oi i5, .unset, .unset, .unset, .unset, .unset, .unset, .unset, .unset] [(.int i1)])) rfl (hb hby at_1)) ?_
  refine hG _ _ (fun t_ k_ => XS.iand X0.here hx rfl (hb hby at_3) rfl k_) ?_
  refine hG _ _ (fun t_ k_ => XS.iconst X0.here hx rfl (hb hby at_4) k_) ?_
  refine hG _ _ (fun t_ k_ => iremM X0 hx rfl (hb hby at_5) rfl (by decide) k_) ?_
  refine hG _ _ (fun t_ k_ => XS.istore X0.here hx rfl (hb hby at_6) rfl (l' := #[oi i0, oi i1, oi i2, oi i3, oi i4, oi i5, oi ((i1 &&& (2147483647 : Int32)) % (3 : Int32)), .unset, .unset, .unset, .unset, .unset, .unset, .unset]) rfl k_) ?_
  show G (s₁.setTop (mkF m 8 #[oi i0, oi i1, oi i2, oi i3, oi i4, oi i5, oi ((i1 &&& (2147483647 : Int32)) % (3 : Int32)), .unset, .unset, .unset, .unset, .unset, .unset, .unset] []))
  generalize hn_q1 : ((i1 &&& (2147483647 : Int32)) % (3 : Int32)) = q1
  rcases own_r3 hn_q1 with rfl | rfl | rfl
  · skip
    show G (s₁.setTop (mkF m 8 #[oi i0, oi i1, oi i2, oi i3, oi i4, oi i5, oi 0, .unset, .unset, .unset, .unset, .unset, .unset, .unset] []))
    refine hG _ _ (fun t_ k_ => XS.iload X0.here hx rfl (hb hby at_8) rfl k_) ?_
    show G (s₁.setTop (mkF m 10 #[oi i0, oi i1, oi i2, oi i3, oi i4, oi i5, oi 0, .unset, .unset, .unset, .unset, .unset, .unset, .unset] [(.int 0)]))
    refine hG _ _ (fun t_ k_ => XS.ifNo X0.here hx rfl (hb hby at_10) rfl ((if0 _ _).trans (teq (by decide)).2) k_) ?_
    show G (s₁.setTop (mkF m 13 #[oi i0, oi i1, oi i2, oi i3, oi i4, oi i5, oi 0, .unset, .unset, .unset, .unset, .unset, .unset, .unset] []))
    obtain ⟨T2, X2, e2, st2⟩ := getS2 X0 hx hZ hown (host := "") (Or.inl (ow hw 1 rfl)) Via.refl e0 (own_sta g5_S O0) (g := (mkF m 13 #[oi i0, oi i1, oi i2, oi i3, oi i4, oi i5, oi 0, .unset, .unset, .unset, .unset, .unset, .unset, .unset] [])) rfl (hb hby at_13)
    refine hG _ _ st2 ?_
    refine hG _ _ (fun t_ k_ => XS.goto X2.here hx rfl (pc0 := 16) (pc' := 34) rfl (hb hby at_16) (by decide) (by decide) k_) ?_
    refine hG _ _ (fun t_ k_ => XS.astore X2.here hx rfl (hb hby at_34) rfl rfl (l' := #[oi i0, oi i1, oi i2, oi i3, oi i4, oi i5, oi 0, oa d0, .unset, .unset, .unset, .unset, .unset, .unset]) rfl k_) ?_
    refine hG _ _ (fun t_ k_ => XS.iloadN X2.here hx rfl (hb hby at_36) rfl k_) ?_
    refine hG _ _ (X2.ldcInt hx hown (mvT hZ (ow hw 4 rfl)) (g := (mkF m 37 #[oi i0, oi i1, oi i2, oi i3, oi i4, oi i5, oi 0, oa d0, .unset, .unset, .unset, .unset, .unset, .unset] [(.int i3)])) rfl (hb hby at_37)) ?_
    refine hG _ _ (fun t_ k_ => XS.iand X2.here hx rfl (hb hby at_39) rfl k_) ?_
    refine hG _ _ (fun t_ k_ => XS.i2c X2.here hx rfl (hb hby at_40) rfl k_) ?_
    show G (T2.setTop (mkF m 41 #[oi i0, oi i1, oi i2, oi i3, oi i4, oi i5, oi 0, oa d0, .unset, .unset, .unset, .unset, .unset, .unset] [(.int ((i3 &&& (65535 : Int32)).toUInt32.toUInt16.toUInt32.toInt32))]))
    generalize hn_c3 : ((i3 &&& (65535 : Int32)).toUInt32.toUInt16.toUInt32.toInt32) = c3
    have hr_c3 := own_i2c16 hn_c3
    show G (T2.setTop (mkF m 41 #[oi i0, oi i1, oi i2, oi i3, oi i4, oi i5, oi 0, oa d0, .unset, .unset, .unset, .unset, .unset, .unset] [(.int c3)]))
    refine hG _ _ (fun t_ k_ => XS.istore X2.here hx rfl (hb hby at_41) rfl (l' := #[oi i0, oi i1, oi i2, oi i3, oi i4, oi i5, oi 0, oa d0, oi c3, .unset, .unset, .unset, .unset, .unset]) rfl k_) ?_
    refine hG _ _ (fun t_ k_ => XS.iloadN X2.here hx rfl (hb hby at_43) rfl k_) ?_
    refine hG _ _ (X2.ldcInt hx hown (mvT hZ (ow hw 0 rfl)) (g := (mkF m 44 #[oi i0, oi i1, oi i2, oi i3, oi i4, oi i5, oi 0, oa d0, oi c3, .unset, .unset, .unset, .unset, .unset] [(.int i0)])) rfl (hb hby at_44)) ?_
    refine hG _ _ (fun t_ k_ => XS.iand X2.here hx rfl (hb hby at_46) rfl k_) ?_
    refine hG _ _ (fun t_ k_ => XS.bipush X2.here hx rfl (hb hby at_47) k_) ?_
    refine hG _ _ (fun t_ k_ => iremM X2 hx rfl (hb hby at_49) rfl (by decide) k_) ?_
    refine hG _ _ (fun t_ k_ => XS.istore X2.here hx rfl (hb hby at_50) rfl (l' := #[oi i0, oi i1, oi i2, oi i3, oi i4, oi i5, oi 0, oa d0, oi c3, oi ((i0 &&& (2147483647 : Int32)) % (7 : Int32)), .unset, .unset, .unset, .unset]) rfl k_) ?_
    show G (T2.setTop (mkF m 52 #[oi i0, oi i1, oi i2, oi i3, oi i4, oi i5, oi 0, oa d0, oi c3, oi ((i0 &&& (2147483647 : Int32)) % (7 : Int32)), .unset, .unset, .unset, .unset] []))
    generalize hn_q4 : ((i0 &&& (2147483647 : Int32)) % (7 : Int32)) = q4
    rcases own_r7 hn_q4 with rfl | rfl | rfl | rfl | rfl | rfl | rfl
    · skip
      show G (T2.setTop (mkF m 52 #[oi i0, oi i1, oi i2, oi i3, oi i4, oi i5, oi 0, oa d0, oi c3, oi 0, .unset, .unset, .unset, .unset] []))
      refine hG _ _ (fun t_ k_ => XS.iload X2.here hx rfl (hb hby at_52) rfl k_) ?_
      show G (T2.setTop (mkF m 54 #[oi i0, oi i1, oi i2, oi i3, oi i4, oi i5, oi 0, oa d0, oi c3, oi 0, .unset, .unset, .unset, .unset] [(.int 0)]))
      refine hG _ _ (fun t_ k_ => XS.ifNo X2.here hx rfl (hb hby at_54) rfl ((if0 _ _).trans (teq (by decide)).2) k_) ?_
      show G (T2.setTop (mkF m 57 #[oi i0, oi i1, oi i2, oi i3, oi i4, oi i5, oi 0, oa d0, oi c3, oi 0, .unset, .unset, .unset, .unset] []))
      refine hG _ _ (fun t_ k_ => XS.aload X2.here hx rfl (hb hby at_57) rfl rfl k_) ?_
      show G (T2.setTop (mkF m 59 #[oi i0, oi i1, oi i2, oi i3, oi i4, oi i5, oi 0, oa d0, oi c3, oi 0, .unset, .unset, .unset, .unset] [(.ref d0)]))
      refine own_callV (C := "com/example/handlewright/handlewright/DomainStatus") X2 hx hZ hG hown (ow hw 5 rfl) (ow hw 6 rfl) (ow hw 8 rfl) (ow hw 7 rfl) (ow hw 2 rfl) (ow hw 9 rfl) (by decide) 0 (own_text l Z a0 hw d0 t0 h0 O0 g12_F) (by decide) (by decide) e2 g11_E (by rw [hml]; rfl) (lenOf own_pd12 rfl) (argsL := []) (rest := []) rfl rfl (Nat.le_of_eq rfl) (hb hby at_59) (by decide) (by decide) ?_
      intro T5 h5 v5 L5 X5 e5 q5
      obtain ⟨rfl, M5, rfl⟩ := q5
      have N5 := Fr.app N0 M5
      show G (T5.setTop (mkF m 62 #[oi i0, oi i1, oi i2, oi i3, oi i4, oi i5, oi 0, oa d0, oi c3, oi 0, .unset, .unset, .unset, .unset] [(.ref t0)]))
      refine own_callS X5 hx hZ hG hown (ow hw 12 rfl) (ow hw 13 rfl) (ow hw 2 rfl) (ow hw 14 rfl) (by decide) 0 (own_findS0 l Z a0 hw d0 d1 d2 t0 t1 t2 v0 v1 v2 kv0 kv1 kv2 vals kl cpt h0 O0 g8_S g9_E g10_V g11_E g12_F g13_E g14_F g15_F g16_V g17_E g18_F g19_E g20_F g21_F g22_V g23_E g24_F g25_E g26_F g27_F g28_V g0_S g1_hcpt) (by decide) (by decide) e5 (by rw [hml]; rfl) (lenOf own_pd13 rfl) (argsL := [(.ref t0)]) (rest := []) rfl rfl (Nat.le_of_eq rfl) (hb hby at_62) (by decide) (by decide) ?_
      intro T6 h6 v6 L6 X6 e6 q6
      obtain ⟨rfl, M6, J6⟩ := q6
      have N6 := Fr.app N5 M6
      have R6 := (CHr.keep J6 all0 H0)
      have C6 := (CHr.refl H0).trans R6
      have K6 : Keep h0 h6 [] := (Keep.refl h0 []).trans J6 all0
      have O6 : own_Old Z h6 := O0.keep J6 all0
      refine hG _ _ (fun t_ k_ => XS.aload X6.here hx rfl (hb hby at_65) rfl rfl k_) ?_
      show G (T6.setTop (mkF m 67 #[oi i0, oi i1, oi i2, oi i3, oi i4, oi i5, oi 0, oa d0, oi c3, oi 0, .unset, .unset, .unset, .unset] [(.ref d0), (.ref d0)]))
      refine hG _ _ (fun t_ k_ => Jvm.RoadKit.acmp (g := (mkF m 67 #[oi i0, oi i1, oi i2, oi i3, oi i4, oi i5, oi 0, oa d0, oi c3, oi 0, .unset, .unset, .unset, .unset] [(.ref d0), (.ref d0)])) X6 hx rfl rfl rfl (pc0 := 67) (pc' := 70) (same := true) rfl (hb hby at_67) rfl (decide_eq_true rfl) (by decide) (by decide) k_) ?_
      show G (T6.setTop (mkF m 70 #[oi i0, oi i1, oi i2, oi i3, oi i4, oi i5, oi 0, oa d0, oi c3, oi 0, .unset, .unset, .unset, .unset] []))
      refine hG _ _ (fun t_ k_ => XS.iconst X6.here hx rfl (hb hby at_70) k_) ?_
      refine hG _ _ (fun t_ k_ => XS.goto X6.here hx rfl (pc0 := 71) (pc' := 75) rfl (hb hby at_71) (by decide) (by decide) k_) ?_
      show G (T6.setTop (mkF m 75 #[oi i0, oi i1, oi i2, oi i3, oi i4, oi i5, oi 0, oa d0, oi c3, oi 0, .unset, .unset, .unset, .unset] [(.int 1)]))
      exact own_retNW hR hret (by simp) X6 hx (hb hby at_75) e6 SI0 (Nat.le_trans (Nat.le_refl _) R6.2.1) hZ C6 (by decide) (by decide) ⟨rfl, N6, K6⟩
    · skip
      show G (T2.setTop (mkF m 52 #[oi i0, oi i1, oi i2, oi i3, oi i4, oi i5, oi 0, oa d0, oi c3, oi 1, .unset, .unset, .unset, .unset] []))
      refine hG _ _ (fun t_ k_ => XS.iload X2.here hx rfl (hb hby at_52) rfl k_) ?_
      show G (T2.setTop (mkF m 54 #[oi i0, oi i1, oi i2, oi i3, oi i4, oi i5, oi 0, oa d0, oi c3, oi 1, .unset, .unset, .unset, .unset] [(.int 1)]))
      refine hG _ _ (fun t_ k_ => XS.ifYes X2.here hx rfl (pc0 := 54) (pc' := 76) rfl (hb hby at_54) rfl ((if0 _ _).trans (feq (by decide)).2) (by decide) (by decide) k_) ?_
      show G (T2.setTop (mkF m 76 #[oi i0, oi i1, oi i2, oi i3, oi i4, oi i5, oi 0, oa d0, oi c3, oi 1, .unset, .unset, .unset, .unset] []))
      refine hG _ _ (fun t_ k_ => XS.iload X2.here hx rfl (hb hby at_76) rfl k_) ?_
      refine hG _ _ (fun t_ k_ => XS.iconst X2.here hx rfl (hb hby at_78) k_) ?_
      show G (T2.setTop (mkF m 79 #[oi i0, oi i1, oi i2, oi i3, oi i4, oi i5, oi 0, oa d0, oi c3, oi 1, .unset, .unset, .unset, .unset] [(.int 1), (.int 1)]))
      refine hG _ _ (fun t_ k_ => XS.icmpNo X2.here hx rfl (hb hby at_79) rfl (teq (by decide)).2 k_) ?_
      show G (T2.setTop (mkF m 82 #[oi i0, oi i1, oi i2, oi i3, oi i4, oi i5, oi 0, oa d0, oi c3, oi 1, .unset, .unset, .unset, .unset] []))
      obtain ⟨T7, h7, X7, e7, E7, A7, D7, -, st7⟩ := newO X2 hx hZ hown (ow hw 39 rfl) (ow hw 40 rfl) (ow hw 36 rfl) e2 (g := (mkF m 82 #[oi i0, oi i1, oi i2, oi i3, oi i4, oi i5, oi 0, oa d0, oi c3, oi 1, .unset, .unset, .unset, .unset] [])) rfl (hb hby at_82) (by decide) (by decide)
      obtain ⟨b7, z7⟩ : ∃ z, z = h0.size := ⟨_, rfl⟩
      rw [← z7] at A7 D7 st7
      refine hG _ _ st7 ?_
      have R7 := (CHr.ext E7 H0)
      have C7 := (CHr.refl H0).trans R7
      have K7 : Keep h0 h7 [] := (Keep.refl h0 []).ext E7
      have O7 : own_Old Z h7 := O0.ext E7
      refine hG _ _ (fun t_ k_ => XS.dup X7.here hx rfl (hb hby at_85) rfl rfl k_) ?_
      refine hG _ _ (fun t_ k_ => XS.iconst X7.here hx rfl (hb hby at_86) k_) ?_
      obtain ⟨T8, h8, k8, X8, e8, E8, A8, st8⟩ := newP X7 hx hZ (ow hw 45 rfl) e7 (g := (mkF m 87 #[oi i0, oi i1, oi i2, oi i3, oi i4, oi i5, oi 0, oa d0, oi c3, oi 1, .unset, .unset, .unset, .unset] [(.int 0), (.ref b7), (.ref b7)])) rfl (hb hby at_87) rfl (by decide) (cap := 0) (by decide) (by decide) (by decide) (by decide)
      obtain ⟨b8, z8⟩ : ∃ z, z = h7.size := ⟨_, rfl⟩
      rw [← z8] at A8 st8
      refine hG _ _ st8 ?_
      have R8 := (CHr.ext E8 R7.1)
      have C8 := C7.trans R8
      have K8 : Keep h0 h8 [] := K7.ext E8
      have O8 : own_Old Z h8 := O7.ext E8
      have V8 : Arv Z h8 b8 k8 .char (0 : Int32) [] (.int 0) := (Arv.new A8 (by decide)).pad (pad_rep [] (.int 0) 0)
      show G (T8.setTop (mkF m 89 #[oi i0, oi i1, oi i2, oi i3, oi i4, oi i5, oi 0, oa d0, oi c3, oi 1, .unset, .unset, .unset, .unset] [(.ref b8), (.ref b7), (.ref b7)]))
      have f10 := (A7.ext E8)
      have f11 := ((D7 (Or.inr (ow hw 69 rfl)) (ty := .byte) (by decide)).ext E8)
      have f12 := ((D7 (Or.inr (ow hw 71 rfl)) (ty := (.array .byte)) (by decide)).ext E8)
      refine own_callIW X8 hx hZ hG hown rfl (ow hw 46 rfl) (ow hw 47 rfl) (ow hw 36 rfl) (ow hw 48 rfl) (by decide) 1 (own_str1E l Z a0 hw hEL b7 b8 (.int 0) k8 h8 O8 f10 f11 f12 (own_ge O0 (Nat.le_of_eq z7.symm)) V8) (by decide) (by decide) e8 SI0 (Nat.le_trans (Nat.le_trans (Nat.le_refl _) R7.2.1) R8.2.1) hEL R8.1 (by rw [hml]; rfl) (lenOf own_pd8 rfl) (argsL := [(.ref b8)]) (rest := [(.ref b7)]) rfl rfl (Nat.le_of_eq rfl) (hb hby at_89) (by decide) (by decide) ?_
      intro T9 h9 v9 L9 X9 e9 SI9 hZ9 hown9 Y9 q9
      obtain ⟨t_9, kt_9, rfl, M9, J9, r9_0, r9_1, r9_2, r9_3⟩ := q9
      have N9 := Fr.app N0 M9
      have R9 := Y9
      have C9 := C8.trans R9
      have K9 : Keep h0 h9 [] := K8.trans J9 (allS (Or.inr (Nat.le_trans (Keep.refl h0 []).1 (Nat.le_of_eq z7.symm))) all0)
      have O9 : own_Old Z h9 := O8.keep J9 (allS (own_ge O0 (Nat.le_of_eq z7.symm)) all0)
      show G (T9.setTop (mkF m 92 #[oi i0, oi i1, oi i2, oi i3, oi i4, oi i5, oi 0, oa d0, oi c3, oi 1, .unset, .unset, .unset, .unset] [(.ref b7)]))
      have f14 := (((g9_E.ext E7).ext E8).keep J9)
      have f15 := (((g10_V.ext E7).ext E8).keep J9 (ninS (own_ne g9_E.lt (Nat.le_of_eq z7.symm)) nin0))
      have f16 := (((g11_E.ext E7).ext E8).keep J9)
      have f17 := (((g12_F.ext E7).ext E8).keep J9 (ninS (own_ne g11_E.lt (Nat.le_of_eq z7.symm)) nin0))
      have f18 := (((g13_E.ext E7).ext E8).keep J9)
      have f19 := (((g14_F.ext E7).ext E8).keep J9 (ninS (own_ne g13_E.lt (Nat.le_of_eq z7.symm)) nin0))
      have f20 := (((g15_F.ext E7).ext E8).keep J9 (ninS (own_ne g13_E.lt (Nat.le_of_eq z7.symm)) nin0))
      have f21 := (((g16_V.ext E7).ext E8).keep J9 (ninS (own_ne g16_V.lt (Nat.le_of_eq z7.symm)) nin0))
      have f22 := (((g17_E.ext E7).ext E8).keep J9)
      have f23 := (((g18_F.ext E7).ext E8).keep J9 (ninS (own_ne g17_E.lt (Nat.le_of_eq z7.symm)) nin0))
      have f24 := (((g19_E.ext E7).ext E8).keep J9)
      have f25 := (((g20_F.ext E7).ext E8).keep J9 (ninS (own_ne g19_E.lt (Nat.le_of_eq z7.symm)) nin0))
      have f26 := (((g21_F.ext E7).ext E8).keep J9 (ninS (own_ne g19_E.lt (Nat.le_of_eq z7.symm)) nin0))
      have f27 := (((g22_V.ext E7).ext E8).keep J9 (ninS (own_ne g22_V.lt (Nat.le_of_eq z7.symm)) nin0))
      have f28 := (((g23_E.ext E7).ext E8).keep J9)
      have f29 := (((g24_F.ext E7).ext E8).keep J9 (ninS (own_ne g23_E.lt (Nat.le_of_eq z7.symm)) nin0))
      have f30 := (((g25_E.ext E7).ext E8).keep J9)
      have f31 := (((g26_F.ext E7).ext E8).keep J9 (ninS (own_ne g25_E.lt (Nat.le_of_eq z7.symm)) nin0))
      have f32 := (((g27_F.ext E7).ext E8).keep J9 (ninS (own_ne g25_E.lt (Nat.le_of_eq z7.symm)) nin0))
      have f33 := (((g28_V.ext E7).ext E8).keep J9 (ninS (own_ne g28_V.lt (Nat.le_of_eq z7.symm)) nin0))
      refine own_callS X9 hx hZ9 hG hown9 (ow hw 12 rfl) (ow hw 13 rfl) (ow hw 2 rfl) (ow hw 14 rfl) (by decide) 0 (own_findN l Z a0 hw b7 t_9 kt_9 ([] : List Int32) (0 : Int32) (0 : Int32) [] cpt d0 d1 d2 t0 t1 t2 v0 v1 v2 kv0 kv1 kv2 vals kl h9 O9 r9_0 r9_1 r9_2 r9_3 own_enc_nil (Nat.zero_le _) own_alln g0_S g1_hcpt g8_S f14 f15 f16 f17 f18 f19 f20 f21 f22 f23 f24 f25 f26 f27 f28 f29 f30 f31 f32 f33 (own_ne g13_E.lt (Nat.le_of_eq z7.symm)) (own_ne g19_E.lt (Nat.le_of_eq z7.symm)) (own_ne g25_E.lt (Nat.le_of_eq z7.symm)) (own_ne_len (fun q => by simp at q)) (own_ne_len (fun q => by simp at q)) (own_ne_len (fun q => by simp at q))) (by decide) (by decide) e9 (by rw [hml]; rfl) (lenOf own_pd13 rfl) (argsL := [(.ref b7)]) (rest := []) rfl rfl (Nat.le_of_eq rfl) (hb hby at_92) (by decide) (by decide) ?_
      intro T13 h13 v13 L13 X13 e13 q13
      obtain ⟨rfl, M13, J13⟩ := q13
      have N13 := Fr.app N9 M13
      have R13 := (CHr.keep J13 all0 R9.1)
      have C13 := C9.trans R13
      have K13 : Keep h0 h13 [] := K9.trans J13 all0
      have O13 : own_Old Z h13 := O9.keep J13 all0
      show G (T13.setTop (mkF m 95 #[oi i0, oi i1, oi i2, oi i3, oi i4, oi i5, oi 0, oa d0, oi c3, oi 1, .unset, .unset, .unset, .unset] [.null]))
      refine hG _ _ (fun t_ k_ => XS.ifnonnullNo X13.here hx rfl (hb hby at_95) rfl k_) ?_
      refine hG _ _ (fun t_ k_ => XS.iconst X13.here hx rfl (hb hby at_98) k_) ?_
      refine hG _ _ (fun t_ k_ => XS.goto X13.here hx rfl (pc0 := 99) (pc' := 103) rfl (hb hby at_99) (by decide) (by decide) k_) ?_
      show G (T13.setTop (mkF m 103 #[oi i0, oi i1, oi i2, oi i3, oi i4, oi i5, oi 0, oa d0, oi c3, oi 1, .unset, .unset, .unset, .unset] [(.int 1)]))
      exact own_retNW hR hret (by simp) X13 hx (hb hby at_103) e13 SI9 (Nat.le_trans (Nat.le_refl _) R13.2.1) hZ9 C13 (by decide) (by decide) ⟨rfl, N13, K13⟩
    · skip
      show G (T2.setTop (mkF m 52 #[oi i0, oi i1, oi i2, oi i3, oi i4, oi i5, oi 0, oa d0, oi c3, oi 2, .unset, .unset, .unset, .unset] []))
      refine hG _ _ (fun t_ k_ => XS.iload X2.here hx rfl (hb hby at_52) rfl k_) ?_
      show G (T2.setTop (mkF m 54 #[oi i0, oi i1, oi i2, oi i3, oi i4, oi i5, oi 0, oa d0, oi c3, oi 2, .unset, .unset, .unset, .unset] [(.int 2)]))
      refine hG _ _ (fun t_ k_ => XS.ifYes X2.here hx rfl (pc0 := 54) (pc' := 76) rfl (hb hby at_54) rfl ((if0 _ _).trans (feq (by decide)).2) (by decide) (by decide) k_) ?_
      show G (T2.setTop (mkF m 76 #[oi i0, oi i1, oi i2, oi i3, oi i4, oi i5, oi 0, oa d0, oi c3, oi 2, .unset, .unset, .unset, .unset] []))
      refine hG _ _ (fun t_ k_ => XS.iload X2.here hx rfl (hb hby at_76) rfl k_) ?_
      refine hG _ _ (fun t_ k_ => XS.iconst X2.here hx rfl (hb hby at_78) k_) ?_
      show G (T2.setTop (mkF m 79 #[oi i0, oi i1, oi i2, oi i3, oi i4, oi i5, oi 0, oa d0, oi c3, oi 2, .unset, .unset, .unset, .unset] [(.int 1), (.int 2)]))
      refine hG _ _ (fun t_ k_ => XS.icmpYes X2.here hx rfl (pc0 := 79) (pc' := 104) rfl (hb hby at_79) rfl (feq (by decide)).2 (by decide) (by decide) k_) ?_
      show G (T2.setTop (mkF m 104 #[oi i0, oi i1, oi i2, oi i3, oi i4, oi i5, oi 0, oa d0, oi c3, oi 2, .unset, .unset, .unset, .unset] []))
      refine hG _ _ (fun t_ k_ => XS.iload X2.here hx rfl (hb hby at_104) rfl k_) ?_
      refine hG _ _ (fun t_ k_ => XS.iconst X2.here hx rfl (hb hby at_106) k_) ?_
      show G (T2.setTop (mkF m 107 #[oi i0, oi i1, oi i2, oi i3, oi i4, oi i5, oi 0, oa d0, oi c3, oi 2, .unset, .unset, .unset, .unset] [(.int 2), (.int 2)]))
      refine hG _ _ (fun t_ k_ => XS.icmpNo X2.here hx rfl (hb hby at_107) rfl (teq (by decide)).2 k_) ?_
      show G (T2.setTop (mkF m 110 #[oi i0, oi i1, oi i2, oi i3, oi i4, oi i5, oi 0, oa d0, oi c3, oi 2, .unset, .unset, .unset, .unset] []))
      refine hG _ _ (fun t_ k_ => XS.iload X2.here hx rfl (hb hby at_110) rfl k_) ?_
      show G (T2.setTop (mkF m 112 #[oi i0, oi i1, oi i2, oi i3, oi i4, oi i5, oi 0, oa d0, oi c3, oi 2, .unset, .unset, .unset, .unset] [(.int 0)]))
      refine own_callS X2 hx hZ hG hown (ow hw 78 rfl) (ow hw 79 rfl) (ow hw 43 rfl) (ow hw 80 rfl) (by decide) 0 (own_mk_lit_0 l Z a0 hw h0 O0) (by decide) (by decide) e2 (by rw [hml]; rfl) (lenOf own_pd14 rfl) (argsL := [(.int 0)]) (rest := []) rfl rfl (Nat.le_of_eq rfl) (hb hby at_112) (by decide) (by decide) ?_
      intro T34 h34 v34 L34 X34 e34 q34
      obtain ⟨u_34, ku_34, rfl, M34, J34, y34_0, r34_0⟩ := q34
      have N34 := Fr.app N0 M34
      have R34 := (CHr.keep J34 all0 H0)
      have C34 := (CHr.refl H0).trans R34
      have K34 : Keep h0 h34 [] := (Keep.refl h0 []).trans J34 all0
      have O34 : own_Old Z h34 := O0.keep J34 all0
      refine hG _ _ (fun t_ k_ => XS.astore X34.here hx rfl (hb hby at_115) rfl rfl (l' := #[oi i0, oi i1, oi i2, oi i3, oi i4, oi i5, oi 0, oa d0, oi c3, oi 2, oa u_34, .unset, .unset, .unset]) rfl k_) ?_
      refine hG _ _ (fun t_ k_ => XS.iloadN X34.here hx rfl (hb hby at_117) rfl k_) ?_
      refine hG _ _ (X34.ldcInt hx hown (mvT hZ (ow hw 0 rfl)) (g := (mkF m 118 #[oi i0, oi i1, oi i2, oi i3, oi i4, oi i5, oi 0, oa d0, oi c3, oi 2, oa u_34, .unset, .unset, .unset] [(.int i2)])) rfl (hb hby at_118)) ?_
      refine hG _ _ (fun t_ k_ => XS.iand X34.here hx rfl (hb hby at_120) rfl k_) ?_
      refine hG _ _ (fun t_ k_ => XS.aload X34.here hx rfl (hb hby at_121) rfl rfl k_) ?_
      obtain ⟨c35, Ar35, -, S35, M35, -, -⟩ := id r34_0
      refine hG _ _ (X34.arraylength hx (by rw [e34]; exact Ar35.1) (State.isArrayOf_alike hZ.alike Ar35.2.1) (g := (mkF m 123 #[oi i0, oi i1, oi i2, oi i3, oi i4, oi i5, oi 0, oa d0, oi c3, oi 2, oa u_34, .unset, .unset, .unset] [(.ref u_34), (.int (i2 &&& (2147483647 : Int32)))])) rfl rfl (hb hby at_123)) ?_
      rw [len_of S35 M35]
      refine hG _ _ (fun t_ k_ => iremM X34 hx rfl (hb hby at_124) rfl (by decide) k_) ?_
      refine hG _ _ (fun t_ k_ => XS.istore X34.here hx rfl (hb hby at_125) rfl (l' := #[oi i0, oi i1, oi i2, oi i3, oi i4, oi i5, oi 0, oa d0, oi c3, oi 2, oa u_34, oi ((i2 &&& (2147483647 : Int32)) % (7 : Int32)), .unset, .unset]) rfl k_) ?_
      show G (T34.setTop (mkF m 127 #[oi i0, oi i1, oi i2, oi i3, oi i4, oi i5, oi 0, oa d0, oi c3, oi 2, oa u_34, oi ((i2 &&& (2147483647 : Int32)) % (7 : Int32)), .unset, .unset] []))
      generalize hn_ix36 : ((i2 &&& (2147483647 : Int32)) % (7 : Int32)) = ix36
      have hixb := own_ixb (k := 7) (own_ixl (by decide) hn_ix36) (by decide)
      show G (T34.setTop (mkF m 127 #[oi i0, oi i1, oi i2, oi i3, oi i4, oi i5, oi 0, oa d0, oi c3, oi 2, oa u_34, oi ix36, .unset, .unset] []))
      refine hG _ _ (fun t_ k_ => XS.aload X34.here hx rfl (hb hby at_127) rfl rfl k_) ?_
      refine hG _ _ (fun t_ k_ => XS.iload X34.here hx rfl (hb hby at_129) rfl k_) ?_
      obtain ⟨c37, Ar37, q37, S37, M37, H37, G37⟩ := id r34_0
      have hin37 : ¬ (ix36 < 0 ∨ c37.slots.size ≤ ix36.toNatClampNeg) := inb_of S37 ⟨hixb.1, hixb.2.1⟩
      refine hG _ _ (X34.caload hx (j := ix36) (v := (.int ([(99 : Int32), (111 : Int32), (110 : Int32), (110 : Int32), (101 : Int32), (99 : Int32), (116 : Int32)].getD ix36.toNatClampNeg 0))) (by rw [e34]; exact Ar37.1) (State.isArrayOf_alike hZ.alike Ar37.2.1) Ar37.2.2 hin37 (Has.at H37 hin37 (own_getD_map Value.int [(99 : Int32), (111 : Int32), (110 : Int32), (110 : Int32), (101 : Int32), (99 : Int32), (116 : Int32)] ix36.toNatClampNeg _ 0 hixb.2.2)) (g := (mkF m 131 #[oi i0, oi i1, oi i2, oi i3, oi i4, oi i5, oi 0, oa d0, oi c3, oi 2, oa u_34, oi ix36, .unset, .unset] [(.int ix36), (.ref u_34)])) rfl rfl (hb hby at_131)) ?_
      refine hG _ _ (fun t_ k_ => XS.istore X34.here hx rfl (hb hby at_132) rfl (l' := #[oi i0, oi i1, oi i2, oi i3, oi i4, oi i5, oi 0, oa d0, oi c3, oi 2, oa u_34, oi ix36, oi ([(99 : Int32), (111 : Int32), (110 : Int32), (110 : Int32), (101 : Int32), (99 : Int32), (116 : Int32)].getD ix36.toNatClampNeg 0), .unset]) rfl k_) ?_
      refine hG _ _ (fun t_ k_ => XS.aload X34.here hx rfl (hb hby at_134) rfl rfl k_) ?_
      refine hG _ _ (fun t_ k_ => XS.iload X34.here hx rfl (hb hby at_136) rfl k_) ?_
      refine hG _ _ (fun t_ k_ => XS.iload X34.here hx rfl (hb hby at_138) rfl k_) ?_
      obtain ⟨c38, Ar38, q38, S38, M38, H38, G38⟩ := id r34_0
      obtain ⟨T38, h38, X38, e38, W38, st38⟩ := stC X34 hx hZ e34 Ar38 (j := ix36) (inb_of S38 ⟨hixb.1, hixb.2.1⟩) (g := (mkF m 140 #[oi i0, oi i1, oi i2, oi i3, oi i4, oi i5, oi 0, oa d0, oi c3, oi 2, oa u_34, oi ix36, oi ([(99 : Int32), (111 : Int32), (110 : Int32), (110 : Int32), (101 : Int32), (99 : Int32), (116 : Int32)].getD ix36.toNatClampNeg 0), .unset] [(.int c3), (.int ix36), (.ref u_34)])) rfl rfl (hb hby at_140)
      refine hG _ _ st38 ?_
      have sf39 : Safe Z consts_1 _ h34 u_34 := (Safe.keep J34 all0 H0 (Safe.new y34_0))
      have R38 := (CHr.wr W38 sf39 R34.1)
      have C38 := C34.trans R38
      have K38 : Keep h0 h38 [] := K34.wr W38 (Or.inr (Nat.le_trans (Keep.refl h0 []).1 y34_0))
      have O38 : own_Old Z h38 := O34.wr W38 (own_ge O0 y34_0)
      have V38 : Arv Z h38 u_34 ku_34 .char (7 : Int32) ([(.int 99), (.int 111), (.int 110), (.int 110), (.int 101), (.int 99), (.int 116)].set ix36.toNatClampNeg (.int (nar .char c3))) (.int 0) := Arv.set Ar38 q38 S38 M38 H38 G38 (fits_nar_char _) W38 ix36.toNatClampNeg rfl hixb.2.2
      have N38 := Fr.snoc X38 N34 (own_ge O0 y34_0)
      show G (T38.setTop (mkF m 141 #[oi i0, oi i1, oi i2, oi i3, oi i4, oi i5, oi 0, oa d0, oi c3, oi 2, oa u_34, oi ix36, oi ([(99 : Int32), (111 : Int32), (110 : Int32), (110 : Int32), (101 : Int32), (99 : Int32), (116 : Int32)].getD ix36.toNatClampNeg 0), .unset] []))
      rw [own_narC hr_c3] at V38
      have VV40 : Arv Z h38 u_34 ku_34 .char (Int32.ofNat ([(99 : Int32), (111 : Int32), (110 : Int32), (110 : Int32), (101 : Int32), (99 : Int32), (116 : Int32)].set ix36.toNatClampNeg c3).length) (([(99 : Int32), (111 : Int32), (110 : Int32), (110 : Int32), (101 : Int32), (99 : Int32), (116 : Int32)].set ix36.toNatClampNeg c3).map Value.int) (.int 0) := by rw [List.length_set, List.map_set]; exact V38
      show G (T38.setTop (mkF m 141 #[oi i0, oi i1, oi i2, oi i3, oi i4, oi i5, oi 0, oa d0, oi c3, oi 2, oa u_34, oi ix36, oi ([(99 : Int32), (111 : Int32), (110 : Int32), (110 : Int32), (101 : Int32), (99 : Int32), (116 : Int32)].getD ix36.toNatClampNeg 0), .unset] []))
      refine hG _ _ (fun t_ k_ => XS.iload X38.here hx rfl (hb hby at_141) rfl k_) ?_
      refine hG _ _ (fun t_ k_ => XS.iload X38.here hx rfl (hb hby at_143) rfl k_) ?_
      show G (T38.setTop (mkF m 145 #[oi i0, oi i1, oi i2, oi i3, oi i4, oi i5, oi 0, oa d0, oi c3, oi 2, oa u_34, oi ix36, oi ([(99 : Int32), (111 : Int32), (110 : Int32), (110 : Int32), (101 : Int32), (99 : Int32), (116 : Int32)].getD ix36.toNatClampNeg 0), .unset] [(.int ([(99 : Int32), (111 : Int32), (110 : Int32), (110 : Int32), (101 : Int32), (99 : Int32), (116 : Int32)].getD ix36.toNatClampNeg 0)), (.int c3)]))
      by_cases hc145_41 : c3 = ([(99 : Int32), (111 : Int32), (110 : Int32), (110 : Int32), (101 : Int32), (99 : Int32), (116 : Int32)].getD ix36.toNatClampNeg 0)
      · skip
        refine hG _ _ (fun t_ k_ => XS.icmpNo X38.here hx rfl (hb hby at_145) rfl (teq hc145_41).2 k_) ?_
        show G (T38.setTop (mkF m 148 #[oi i0, oi i1, oi i2, oi i3, oi i4, oi i5, oi 0, oa d0, oi c3, oi 2, oa u_34, oi ix36, oi ([(99 : Int32), (111 : Int32), (110 : Int32), (110 : Int32), (101 : Int32), (99 : Int32), (116 : Int32)].getD ix36.toNatClampNeg 0), .unset] []))
        refine hG _ _ (fun t_ k_ => XS.aload X38.here hx rfl (hb hby at_148) rfl rfl k_) ?_
        refine hG _ _ (fun t_ k_ => XS.goto X38.here hx rfl (pc0 := 150) (pc' := 154) rfl (hb hby at_150) (by decide) (by decide) k_) ?_
        refine hG _ _ (fun t_ k_ => XS.astore X38.here hx rfl (hb hby at_154) rfl rfl (l' := #[oi i0, oi i1, oi i2, oi i3, oi i4, oi i5, oi 0, oa d0, oi c3, oi 2, oa u_34, oi ix36, oi ([(99 : Int32), (111 : Int32), (110 : Int32), (110 : Int32), (101 : Int32), (99 : Int32), (116 : Int32)].getD ix36.toNatClampNeg 0), oa d0]) rfl k_) ?_
        obtain ⟨T42, h42, X42, e42, E42, A42, D42, -, st42⟩ := newO X38 hx hZ hown (ow hw 39 rfl) (ow hw 40 rfl) (ow hw 36 rfl) e38 (g := (mkF m 156 #[oi i0, oi i1, oi i2, oi i3, oi i4, oi i5, oi 0, oa d0, oi c3, oi 2, oa u_34, oi ix36, oi ([(99 : Int32), (111 : Int32), (110 : Int32), (110 : Int32), (101 : Int32), (99 : Int32), (116 : Int32)].getD ix36.toNatClampNeg 0), oa d0] [])) rfl (hb hby at_156) (by decide) (by decide)
        obtain ⟨b42, z42⟩ : ∃ z, z = h38.size := ⟨_, rfl⟩
        rw [← z42] at A42 D42 st42
        refine hG _ _ st42 ?_
        have R42 := (CHr.ext E42 R38.1)
        have C42 := C38.trans R42
        have K42 : Keep h0 h42 [] := K38.ext E42
        have O42 : own_Old Z h42 := O38.ext E42
        refine hG _ _ (fun t_ k_ => XS.dup X42.here hx rfl (hb hby at_159) rfl rfl k_) ?_
        refine hG _ _ (fun t_ k_ => XS.aload X42.here hx rfl (hb hby at_160) rfl rfl k_) ?_
        show G (T42.setTop (mkF m 162 #[oi i0, oi i1, oi i2, oi i3, oi i4, oi i5, oi 0, oa d0, oi c3, oi 2, oa u_34, oi ix36, oi ([(99 : Int32), (111 : Int32), (110 : Int32), (110 : Int32), (101 : Int32), (99 : Int32), (116 : Int32)].getD ix36.toNatClampNeg 0), oa d0] [(.ref u_34), (.ref b42), (.ref b42)]))
        have f44 := (VV40.ext E42)
        refine own_callI X42 hx hZ hG hown rfl (ow hw 46 rfl) (ow hw 47 rfl) (ow hw 36 rfl) (ow hw 48 rfl) (by decide) 1 (own_gstr1 l Z a0 hw b42 u_34 ku_34 ([(99 : Int32), (111 : Int32), (110 : Int32), (110 : Int32), (101 : Int32), (99 : Int32), (116 : Int32)].set ix36.toNatClampNeg c3) cpt (.int 0) .null h42 O42 A42 (D42 (Or.inr (ow hw 69 rfl)) (ty := .byte) (by decide)) (D42 (Or.inr (ow hw 71 rfl)) (ty := (.array .byte)) (by decide)) (own_ge O38 (Nat.le_of_eq z42.symm)) f44 (by rw [List.length_set]; decide) (by rw [List.length_set]; decide) (own_setrng (fun c h => own_8to16 (own_rk0 c h)) hr_c3) g0_S g1_hcpt g2_S g3_S g4_S) (by decide) (by decide) e42 (by rw [hml]; rfl) (lenOf own_pd8 rfl) (argsL := [(.ref u_34)]) (rest := [(.ref b42)]) rfl rfl (Nat.le_of_eq rfl) (hb hby at_162) (by decide) (by decide) ?_
        intro T43 h43 v43 L43 X43 e43 q43
        obtain ⟨t_43, kt_43, cd_43, nb_43, vs_43, rfl, M43, J43, y43_0, r43_0, r43_1, r43_2, r43_3, r43_4⟩ := q43
        have N43 := Fr.app N38 M43
        have sf45 : Safe Z consts_1 _ h42 b42 := (own_safeStr hZ.alike A42 (D42 (Or.inr (ow hw 71 rfl)) (ty := (.array .byte)) (by decide)))
        have R43 := (CHr.keep J43 (allS sf45 all0) R42.1)
        have C43 := C42.trans R43
        have K43 : Keep h0 h43 [] := K42.trans J43 (allS (Or.inr (Nat.le_trans K38.1 (Nat.le_of_eq z42.symm))) all0)
        have O43 : own_Old Z h43 := O42.keep J43 (allS (own_ge O38 (Nat.le_of_eq z42.symm)) all0)
        show G (T43.setTop (mkF m 165 #[oi i0, oi i1, oi i2, oi i3, oi i4, oi i5, oi 0, oa d0, oi c3, oi 2, oa u_34, oi ix36, oi ([(99 : Int32), (111 : Int32), (110 : Int32), (110 : Int32), (101 : Int32), (99 : Int32), (116 : Int32)].getD ix36.toNatClampNeg 0), oa d0] [(.ref b42)]))
        have f47 := ((((g9_E.keep J34).wr W38).ext E42).keep J43)
        have f48 := ((((g10_V.keep J34 nin0).other W38 (own_ne g9_E.lt y34_0)).ext E42).keep J43 (ninS (own_ne (Nat.lt_of_lt_of_le (Nat.lt_of_lt_of_le g9_E.lt J34.1) (Keep.of_wr W38).1) (Nat.le_of_eq z42.symm)) nin0))
        have f49 := ((((g11_E.keep J34).wr W38).ext E42).keep J43)
        have f50 := ((((g12_F.keep J34 nin0).other W38 (Or.inl (own_ne g11_E.lt y34_0))).ext E42).keep J43 (ninS (own_ne (Nat.lt_of_lt_of_le (Nat.lt_of_lt_of_le g11_E.lt J34.1) (Keep.of_wr W38).1) (Nat.le_of_eq z42.symm)) nin0))
        have f51 := ((((g13_E.keep J34).wr W38).ext E42).keep J43)
        have f52 := ((((g14_F.keep J34 nin0).other W38 (Or.inl (own_ne g13_E.lt y34_0))).ext E42).keep J43 (ninS (own_ne (Nat.lt_of_lt_of_le (Nat.lt_of_lt_of_le g13_E.lt J34.1) (Keep.of_wr W38).1) (Nat.le_of_eq z42.symm)) nin0))
        have f53 := ((((g15_F.keep J34 nin0).other W38 (Or.inl (own_ne g13_E.lt y34_0))).ext E42).keep J43 (ninS (own_ne (Nat.lt_of_lt_of_le (Nat.lt_of_lt_of_le g13_E.lt J34.1) (Keep.of_wr W38).1) (Nat.le_of_eq z42.symm)) nin0))
        have f54 := ((((g16_V.keep J34 nin0).other W38 (own_ne g16_V.lt y34_0)).ext E42).keep J43 (ninS (own_ne (Nat.lt_of_lt_of_le (Nat.lt_of_lt_of_le g16_V.lt J34.1) (Keep.of_wr W38).1) (Nat.le_of_eq z42.symm)) nin0))
        have f55 := ((((g17_E.keep J34).wr W38).ext E42).keep J43)
        have f56 := ((((g18_F.keep J34 nin0).other W38 (Or.inl (own_ne g17_E.lt y34_0))).ext E42).keep J43 (ninS (own_ne (Nat.lt_of_lt_of_le (Nat.lt_of_lt_of_le g17_E.lt J34.1) (Keep.of_wr W38).1) (Nat.le_of_eq z42.symm)) nin0))
        have f57 := ((((g19_E.keep J34).wr W38).ext E42).keep J43)
        have f58 := ((((g20_F.keep J34 nin0).other W38 (Or.inl (own_ne g19_E.lt y34_0))).ext E42).keep J43 (ninS (own_ne (Nat.lt_of_lt_of_le (Nat.lt_of_lt_of_le g19_E.lt J34.1) (Keep.of_wr W38).1) (Nat.le_of_eq z42.symm)) nin0))
        have f59 := ((((g21_F.keep J34 nin0).other W38 (Or.inl (own_ne g19_E.lt y34_0))).ext E42).keep J43 (ninS (own_ne (Nat.lt_of_lt_of_le (Nat.lt_of_lt_of_le g19_E.lt J34.1) (Keep.of_wr W38).1) (Nat.le_of_eq z42.symm)) nin0))
        have f60 := ((((g22_V.keep J34 nin0).other W38 (own_ne g22_V.lt y34_0)).ext E42).keep J43 (ninS (own_ne (Nat.lt_of_lt_of_le (Nat.lt_of_lt_of_le g22_V.lt J34.1) (Keep.of_wr W38).1) (Nat.le_of_eq z42.symm)) nin0))
        have f61 := ((((g23_E.keep J34).wr W38).ext E42).keep J43)
        have f62 := ((((g24_F.keep J34 nin0).other W38 (Or.inl (own_ne g23_E.lt y34_0))).ext E42).keep J43 (ninS (own_ne (Nat.lt_of_lt_of_le (Nat.lt_of_lt_of_le g23_E.lt J34.1) (Keep.of_wr W38).1) (Nat.le_of_eq z42.symm)) nin0))
        have f63 := ((((g25_E.keep J34).wr W38).ext E42).keep J43)
        have f64 := ((((g26_F.keep J34 nin0).other W38 (Or.inl (own_ne g25_E.lt y34_0))).ext E42).keep J43 (ninS (own_ne (Nat.lt_of_lt_of_le (Nat.lt_of_lt_of_le g25_E.lt J34.1) (Keep.of_wr W38).1) (Nat.le_of_eq z42.symm)) nin0))
        have f65 := ((((g27_F.keep J34 nin0).other W38 (Or.inl (own_ne g25_E.lt y34_0))).ext E42).keep J43 (ninS (own_ne (Nat.lt_of_lt_of_le (Nat.lt_of_lt_of_le g25_E.lt J34.1) (Keep.of_wr W38).1) (Nat.le_of_eq z42.symm)) nin0))
        have f66 := ((((g28_V.keep J34 nin0).other W38 (own_ne g28_V.lt y34_0)).ext E42).keep J43 (ninS (own_ne (Nat.lt_of_lt_of_le (Nat.lt_of_lt_of_le g28_V.lt J34.1) (Keep.of_wr W38).1) (Nat.le_of_eq z42.symm)) nin0))
        refine own_callS X43 hx hZ hG hown (ow hw 12 rfl) (ow hw 13 rfl) (ow hw 2 rfl) (ow hw 14 rfl) (by decide) 0 (own_find0 l Z a0 hw b42 t_43 kt_43 ([(99 : Int32), (111 : Int32), (110 : Int32), (110 : Int32), (101 : Int32), (99 : Int32), (116 : Int32)].set ix36.toNatClampNeg c3) cd_43 nb_43 vs_43 cpt d0 d1 d2 t0 t1 t2 v0 v1 v2 kv0 kv1 kv2 vals kl h43 O43 r43_0 r43_1 r43_2 r43_3 r43_4 (by rw [List.length_set]; decide) (own_setrng (fun c h => own_8to16 (own_rk0 c h)) hr_c3) g0_S g1_hcpt g8_S f47 f48 f49 f50 f51 f52 f53 f54 f55 f56 f57 f58 f59 f60 f61 f62 f63 f64 f65 f66 (own_ne (Nat.lt_of_lt_of_le (Nat.lt_of_lt_of_le g13_E.lt J34.1) (Keep.of_wr W38).1) (Nat.le_of_eq z42.symm)) (by rw [hc145_41]; exact own_set_same hixb.2.2)) (by decide) (by decide) e43 (by rw [hml]; rfl) (lenOf own_pd13 rfl) (argsL := [(.ref b42)]) (rest := []) rfl rfl (Nat.le_of_eq rfl) (hb hby at_165) (by decide) (by decide) ?_
        intro T46 h46 v46 L46 X46 e46 q46
        obtain ⟨rfl, M46, J46⟩ := q46
        have N46 := Fr.app N43 M46
        have R46 := (CHr.keep J46 all0 R43.1)
        have C46 := C43.trans R46
        have K46 : Keep h0 h46 [] := K43.trans J46 all0
        have O46 : own_Old Z h46 := O43.keep J46 all0
        refine hG _ _ (fun t_ k_ => XS.aload X46.here hx rfl (hb hby at_168) rfl rfl k_) ?_
        show G (T46.setTop (mkF m 170 #[oi i0, oi i1, oi i2, oi i3, oi i4, oi i5, oi 0, oa d0, oi c3, oi 2, oa u_34, oi ix36, oi ([(99 : Int32), (111 : Int32), (110 : Int32), (110 : Int32), (101 : Int32), (99 : Int32), (116 : Int32)].getD ix36.toNatClampNeg 0), oa d0] [(.ref d0), (.ref d0)]))
        refine hG _ _ (fun t_ k_ => Jvm.RoadKit.acmp (g := (mkF m 170 #[oi i0, oi i1, oi i2, oi i3, oi i4, oi i5, oi 0, oa d0, oi c3, oi 2, oa u_34, oi ix36, oi ([(99 : Int32), (111 : Int32), (110 : Int32), (110 : Int32), (101 : Int32), (99 : Int32), (116 : Int32)].getD ix36.toNatClampNeg 0), oa d0] [(.ref d0), (.ref d0)])) X46 hx rfl rfl rfl (pc0 := 170) (pc' := 173) (same := true) rfl (hb hby at_170) rfl (decide_eq_true rfl) (by decide) (by decide) k_) ?_
        show G (T46.setTop (mkF m 173 #[oi i0, oi i1, oi i2, oi i3, oi i4, oi i5, oi 0, oa d0, oi c3, oi 2, oa u_34, oi ix36, oi ([(99 : Int32), (111 : Int32), (110 : Int32), (110 : Int32), (101 : Int32), (99 : Int32), (116 : Int32)].getD ix36.toNatClampNeg 0), oa d0] []))
        refine hG _ _ (fun t_ k_ => XS.iconst X46.here hx rfl (hb hby at_173) k_) ?_
        refine hG _ _ (fun t_ k_ => XS.goto X46.here hx rfl (pc0 := 174) (pc' := 178) rfl (hb hby at_174) (by decide) (by decide) k_) ?_
        show G (T46.setTop (mkF m 178 #[oi i0, oi i1, oi i2, oi i3, oi i4, oi i5, oi 0, oa d0, oi c3, oi 2, oa u_34, oi ix36, oi ([(99 : Int32), (111 : Int32), (110 : Int32), (110 : Int32), (101 : Int32), (99 : Int32), (116 : Int32)].getD ix36.toNatClampNeg 0), oa d0] [(.int 1)]))
        exact own_retNW hR hret (by simp) X46 hx (hb hby at_178) e46 SI0 (Nat.le_trans (Nat.le_trans (Nat.le_trans (Nat.le_trans (Nat.le_trans (Nat.le_refl _) R34.2.1) R38.2.1) R42.2.1) R43.2.1) R46.2.1) hZ C46 (by decide) (by decide) ⟨rfl, N46, K46⟩
      · skip
        refine hG _ _ (fun t_ k_ => XS.icmpYes X38.here hx rfl (pc0 := 145) (pc' := 153) rfl (hb hby at_145) rfl (feq hc145_41).2 (by decide) (by decide) k_) ?_
        show G (T38.setTop (mkF m 153 #[oi i0, oi i1, oi i2, oi i3, oi i4, oi i5, oi 0, oa d0, oi c3, oi 2, oa u_34, oi ix36, oi ([(99 : Int32), (111 : Int32), (110 : Int32), (110 : Int32), (101 : Int32), (99 : Int32), (116 : Int32)].getD ix36.toNatClampNeg 0), .unset] []))
        refine hG _ _ (fun t_ k_ => XS.aconstNull X38.here hx rfl (hb hby at_153) k_) ?_
        refine hG _ _ (fun t_ k_ => XS.astore X38.here hx rfl (hb hby at_154) rfl rfl (l' := #[oi i0, oi i1, oi i2, oi i3, oi i4, oi i5, oi 0, oa d0, oi c3, oi 2, oa u_34, oi ix36, oi ([(99 : Int32), (111 : Int32), (110 : Int32), (110 : Int32), (101 : Int32), (99 : Int32), (116 : Int32)].getD ix36.toNatClampNeg 0), .val .null]) rfl k_) ?_
        obtain ⟨T67, h67, X67, e67, E67, A67, D67, -, st67⟩ := newO X38 hx hZ hown (ow hw 39 rfl) (ow hw 40 rfl) (ow hw 36 rfl) e38 (g := (mkF m 156 #[oi i0, oi i1, oi i2, oi i3, oi i4, oi i5, oi 0, oa d0, oi c3, oi 2, oa u_34, oi ix36, oi ([(99 : Int32), (111 : Int32), (110 : Int32), (110 : Int32), (101 : Int32), (99 : Int32), (116 : Int32)].getD ix36.toNatClampNeg 0), .val .null] [])) rfl (hb hby at_156) (by decide) (by decide)
        obtain ⟨b67, z67⟩ : ∃ z, z = h38.size := ⟨_, rfl⟩
        rw [← z67] at A67 D67 st67
        refine hG _ _ st67 ?_
        have R67 := (CHr.ext E67 R38.1)
        have C67 := C38.trans R67
        have K67 : Keep h0 h67 [] := K38.ext E67
        have O67 : own_Old Z h67 := O38.ext E67
        refine hG _ _ (fun t_ k_ => XS.dup X67.here hx rfl (hb hby at_159) rfl rfl k_) ?_
        refine hG _ _ (fun t_ k_ => XS.aload X67.here hx rfl (hb hby at_160) rfl rfl k_) ?_
        show G (T67.setTop (mkF m 162 #[oi i0, oi i1, oi i2, oi i3, oi i4, oi i5, oi 0, oa d0, oi c3, oi 2, oa u_34, oi ix36, oi ([(99 : Int32), (111 : Int32), (110 : Int32), (110 : Int32), (101 : Int32), (99 : Int32), (116 : Int32)].getD ix36.toNatClampNeg 0), .val .null] [(.ref u_34), (.ref b67), (.ref b67)]))
        have f69 := (VV40.ext E67)
        refine own_callI X67 hx hZ hG hown rfl (ow hw 46 rfl) (ow hw 47 rfl) (ow hw 36 rfl) (ow hw 48 rfl) (by decide) 1 (own_gstr1 l Z a0 hw b67 u_34 ku_34 ([(99 : Int32), (111 : Int32), (110 : Int32), (110 : Int32), (101 : Int32), (99 : Int32), (116 : Int32)].set ix36.toNatClampNeg c3) cpt (.int 0) .null h67 O67 A67 (D67 (Or.inr (ow hw 69 rfl)) (ty := .byte) (by decide)) (D67 (Or.inr (ow hw 71 rfl)) (ty := (.array .byte)) (by decide)) (own_ge O38 (Nat.le_of_eq z67.symm)) f69 (by rw [List.length_set]; decide) (by rw [List.length_set]; decide) (own_setrng (fun c h => own_8to16 (own_rk0 c h)) hr_c3) g0_S g1_hcpt g2_S g3_S g4_S) (by decide) (by decide) e67 (by rw [hml]; rfl) (lenOf own_pd8 rfl) (argsL := [(.ref u_34)]) (rest := [(.ref b67)]) rfl rfl (Nat.le_of_eq rfl) (hb hby at_162) (by decide) (by decide) ?_
        intro T68 h68 v68 L68 X68 e68 q68
        obtain ⟨t_68, kt_68, cd_68, nb_68, vs_68, rfl, M68, J68, y68_0, r68_0, r68_1, r68_2, r68_3, r68_4⟩ := q68
        have N68 := Fr.app N38 M68
        have sf70 : Safe Z consts_1 _ h67 b67 := (own_safeStr hZ.alike A67 (D67 (Or.inr (ow hw 71 rfl)) (ty := (.array .byte)) (by decide)))
        have R68 := (CHr.keep J68 (allS sf70 all0) R67.1)
        have C68 := C67.trans R68
        have K68 : Keep h0 h68 [] := K67.trans J68 (allS (Or.inr (Nat.le_trans K38.1 (Nat.le_of_eq z67.symm))) all0)
        have O68 : own_Old Z h68 := O67.keep J68 (allS (own_ge O38 (Nat.le_of_eq z67.symm)) all0)
        show G (T68.setTop (mkF m 165 #[oi i0, oi i1, oi i2, oi i3, oi i4, oi i5, oi 0, oa d0, oi c3, oi 2, oa u_34, oi ix36, oi ([(99 : Int32), (111 : Int32), (110 : Int32), (110 : Int32), (101 : Int32), (99 : Int32), (116 : Int32)].getD ix36.toNatClampNeg 0), .val .null] [(.ref b67)]))
        have f72 := ((((g9_E.keep J34).wr W38).ext E67).keep J68)
        have f73 := ((((g10_V.keep J34 nin0).other W38 (own_ne g9_E.lt y34_0)).ext E67).keep J68 (ninS (own_ne (Nat.lt_of_lt_of_le (Nat.lt_of_lt_of_le g9_E.lt J34.1) (Keep.of_wr W38).1) (Nat.le_of_eq z67.symm)) nin0))
        have f74 := ((((g11_E.keep J34).wr W38).ext E67).keep J68)
        have f75 := ((((g12_F.keep J34 nin0).other W38 (Or.inl (own_ne g11_E.lt y34_0))).ext E67).keep J68 (ninS (own_ne (Nat.lt_of_lt_of_le (Nat.lt_of_lt_of_le g11_E.lt J34.1) (Keep.of_wr W38).1) (Nat.le_of_eq z67.symm)) nin0))
        have f76 := ((((g13_E.keep J34).wr W38).ext E67).keep J68)
        have f77 := ((((g14_F.keep J34 nin0).other W38 (Or.inl (own_ne g13_E.lt y34_0))).ext E67).keep J68 (ninS (own_ne (Nat.lt_of_lt_of_le (Nat.lt_of_lt_of_le g13_E.lt J34.1) (Keep.of_wr W38).1) (Nat.le_of_eq z67.symm)) nin0))
        have f78 := ((((g15_F.keep J34 nin0).other W38 (Or.inl (own_ne g13_E.lt y34_0))).ext E67).keep J68 (ninS (own_ne (Nat.lt_of_lt_of_le (Nat.lt_of_lt_of_le g13_E.lt J34.1) (Keep.of_wr W38).1) (Nat.le_of_eq z67.symm)) nin0))
        have f79 := ((((g16_V.keep J34 nin0).other W38 (own_ne g16_V.lt y34_0)).ext E67).keep J68 (ninS (own_ne (Nat.lt_of_lt_of_le (Nat.lt_of_lt_of_le g16_V.lt J34.1) (Keep.of_wr W38).1) (Nat.le_of_eq z67.symm)) nin0))
        have f80 := ((((g17_E.keep J34).wr W38).ext E67).keep J68)
        have f81 := ((((g18_F.keep J34 nin0).other W38 (Or.inl (own_ne g17_E.lt y34_0))).ext E67).keep J68 (ninS (own_ne (Nat.lt_of_lt_of_le (Nat.lt_of_lt_of_le g17_E.lt J34.1) (Keep.of_wr W38).1) (Nat.le_of_eq z67.symm)) nin0))
        have f82 := ((((g19_E.keep J34).wr W38).ext E67).keep J68)
        have f83 := ((((g20_F.keep J34 nin0).other W38 (Or.inl (own_ne g19_E.lt y34_0))).ext E67).keep J68 (ninS (own_ne (Nat.lt_of_lt_of_le (Nat.lt_of_lt_of_le g19_E.lt J34.1) (Keep.of_wr W38).1) (Nat.le_of_eq z67.symm)) nin0))
        have f84 := ((((g21_F.keep J34 nin0).other W38 (Or.inl (own_ne g19_E.lt y34_0))).ext E67).keep J68 (ninS (own_ne (Nat.lt_of_lt_of_le (Nat.lt_of_lt_of_le g19_E.lt J34.1) (Keep.of_wr W38).1) (Nat.le_of_eq z67.symm)) nin0))
        have f85 := ((((g22_V.keep J34 nin0).other W38 (own_ne g22_V.lt y34_0)).ext E67).keep J68 (ninS (own_ne (Nat.lt_of_lt_of_le (Nat.lt_of_lt_of_le g22_V.lt J34.1) (Keep.of_wr W38).1) (Nat.le_of_eq z67.symm)) nin0))
        have f86 := ((((g23_E.keep J34).wr W38).ext E67).keep J68)
        have f87 := ((((g24_F.keep J34 nin0).other W38 (Or.inl (own_ne g23_E.lt y34_0))).ext E67).keep J68 (ninS (own_ne (Nat.lt_of_lt_of_le (Nat.lt_of_lt_of_le g23_E.lt J34.1) (Keep.of_wr W38).1) (Nat.le_of_eq z67.symm)) nin0))
        have f88 := ((((g25_E.keep J34).wr W38).ext E67).keep J68)
        have f89 := ((((g26_F.keep J34 nin0).other W38 (Or.inl (own_ne g25_E.lt y34_0))).ext E67).keep J68 (ninS (own_ne (Nat.lt_of_lt_of_le (Nat.lt_of_lt_of_le g25_E.lt J34.1) (Keep.of_wr W38).1) (Nat.le_of_eq z67.symm)) nin0))
        have f90 := ((((g27_F.keep J34 nin0).other W38 (Or.inl (own_ne g25_E.lt y34_0))).ext E67).keep J68 (ninS (own_ne (Nat.lt_of_lt_of_le (Nat.lt_of_lt_of_le g25_E.lt J34.1) (Keep.of_wr W38).1) (Nat.le_of_eq z67.symm)) nin0))
        have f91 := ((((g28_V.keep J34 nin0).other W38 (own_ne g28_V.lt y34_0)).ext E67).keep J68 (ninS (own_ne (Nat.lt_of_lt_of_le (Nat.lt_of_lt_of_le g28_V.lt J34.1) (Keep.of_wr W38).1) (Nat.le_of_eq z67.symm)) nin0))
        refine own_callS X68 hx hZ hG hown (ow hw 12 rfl) (ow hw 13 rfl) (ow hw 2 rfl) (ow hw 14 rfl) (by decide) 0 (own_findN l Z a0 hw b67 t_68 kt_68 ([(99 : Int32), (111 : Int32), (110 : Int32), (110 : Int32), (101 : Int32), (99 : Int32), (116 : Int32)].set ix36.toNatClampNeg c3) cd_68 nb_68 vs_68 cpt d0 d1 d2 t0 t1 t2 v0 v1 v2 kv0 kv1 kv2 vals kl h68 O68 r68_0 r68_1 r68_2 r68_3 r68_4 (by rw [List.length_set]; decide) (own_setrng (fun c h => own_8to16 (own_rk0 c h)) hr_c3) g0_S g1_hcpt g8_S f72 f73 f74 f75 f76 f77 f78 f79 f80 f81 f82 f83 f84 f85 f86 f87 f88 f89 f90 f91 (own_ne (Nat.lt_of_lt_of_le (Nat.lt_of_lt_of_le g13_E.lt J34.1) (Keep.of_wr W38).1) (Nat.le_of_eq z67.symm)) (own_ne (Nat.lt_of_lt_of_le (Nat.lt_of_lt_of_le g19_E.lt J34.1) (Keep.of_wr W38).1) (Nat.le_of_eq z67.symm)) (own_ne (Nat.lt_of_lt_of_le (Nat.lt_of_lt_of_le g25_E.lt J34.1) (Keep.of_wr W38).1) (Nat.le_of_eq z67.symm)) (own_set_ne hixb.2.2 hc145_41) (own_ne_len (by rw [List.length_set]; decide)) (own_ne_len (by rw [List.length_set]; decide))) (by decide) (by decide) e68 (by rw [hml]; rfl) (lenOf own_pd13 rfl) (argsL := [(.ref b67)]) (rest := []) rfl rfl (Nat.le_of_eq rfl) (hb hby at_165) (by decide) (by decide) ?_
        intro T71 h71 v71 L71 X71 e71 q71
        obtain ⟨rfl, M71, J71⟩ := q71
        have N71 := Fr.app N68 M71
        have R71 := (CHr.keep J71 all0 R68.1)
        have C71 := C68.trans R71
        have K71 : Keep h0 h71 [] := K68.trans J71 all0
        have O71 : own_Old Z h71 := O68.keep J71 all0
        refine hG _ _ (fun t_ k_ => XS.aload X71.here hx rfl (hb hby at_168) rfl rfl k_) ?_
        show G (T71.setTop (mkF m 170 #[oi i0, oi i1, oi i2, oi i3, oi i4, oi i5, oi 0, oa d0, oi c3, oi 2, oa u_34, oi ix36, oi ([(99 : Int32), (111 : Int32), (110 : Int32), (110 : Int32), (101 : Int32), (99 : Int32), (116 : Int32)].getD ix36.toNatClampNeg 0), .val .null] [.null, .null]))
        refine hG _ _ (fun t_ k_ => Jvm.RoadKit.acmp (g := (mkF m 170 #[oi i0, oi i1, oi i2, oi i3, oi i4, oi i5, oi 0, oa d0, oi c3, oi 2, oa u_34, oi ix36, oi ([(99 : Int32), (111 : Int32), (110 : Int32), (110 : Int32), (101 : Int32), (99 : Int32), (116 : Int32)].getD ix36.toNatClampNeg 0), .val .null] [.null, .null])) X71 hx rfl rfl rfl (pc0 := 170) (pc' := 173) (same := true) rfl (hb hby at_170) rfl (decide_eq_true rfl) (by decide) (by decide) k_) ?_
        show G (T71.setTop (mkF m 173 #[oi i0, oi i1, oi i2, oi i3, oi i4, oi i5, oi 0, oa d0, oi c3, oi 2, oa u_34, oi ix36, oi ([(99 : Int32), (111 : Int32), (110 : Int32), (110 : Int32), (101 : Int32), (99 : Int32), (116 : Int32)].getD ix36.toNatClampNeg 0), .val .null] []))
        refine hG _ _ (fun t_ k_ => XS.iconst X71.here hx rfl (hb hby at_173) k_) ?_
        refine hG _ _ (fun t_ k_ => XS.goto X71.here hx rfl (pc0 := 174) (pc' := 178) rfl (hb hby at_174) (by decide) (by decide) k_) ?_
        show G (T71.setTop (mkF m 178 #[oi i0, oi i1, oi i2, oi i3, oi i4, oi i5, oi 0, oa d0, oi c3, oi 2, oa u_34, oi ix36, oi ([(99 : Int32), (111 : Int32), (110 : Int32), (110 : Int32), (101 : Int32), (99 : Int32), (116 : Int32)].getD ix36.toNatClampNeg 0), .val .null] [(.int 1)]))
        exact own_retNW hR hret (by simp) X71 hx (hb hby at_178) e71 SI0 (Nat.le_trans (Nat.le_trans (Nat.le_trans (Nat.le_trans (Nat.le_trans (Nat.le_refl _) R34.2.1) R38.2.1) R67.2.1) R68.2.1) R71.2.1) hZ C71 (by decide) (by decide) ⟨rfl, N71, K71⟩
    · skip
      show G (T2.setTop (mkF m 52 #[oi i0, oi i1, oi i2, oi i3, oi i4, oi i5, oi 0, oa d0, oi c3, oi 3, .unset, .unset, .unset, .unset] []))
      refine hG _ _ (fun t_ k_ => XS.iload X2.here hx rfl (hb hby at_52) rfl k_) ?_
      show G (T2.setTop (mkF m 54 #[oi i0, oi i1, oi i2, oi i3, oi i4, oi i5, oi 0, oa d0, oi c3, oi 3, .unset, .unset, .unset, .unset] [(.int 3)]))
      refine hG _ _ (fun t_ k_ => XS.ifYes X2.here hx rfl (pc0 := 54) (pc' := 76) rfl (hb hby at_54) rfl ((if0 _ _).trans (feq (by decide)).2) (by decide) (by decide) k_) ?_
      show G (T2.setTop (mkF m 76 #[oi i0, oi i1, oi i2, oi i3, oi i4, oi i5, oi 0, oa d0, oi c3, oi 3, .unset, .unset, .unset, .unset] []))
      refine hG _ _ (fun t_ k_ => XS.iload X2.here hx rfl (hb hby at_76) rfl k_) ?_
      refine hG _ _ (fun t_ k_ => XS.iconst X2.here hx rfl (hb hby at_78) k_) ?_
      show G (T2.setTop (mkF m 79 #[oi i0, oi i1, oi i2, oi i3, oi i4, oi i5, oi 0, oa d0, oi c3, oi 3, .unset, .unset, .unset, .unset] [(.int 1), (.int 3)]))
      refine hG _ _ (fun t_ k_ => XS.icmpYes X2.here hx rfl (pc0 := 79) (pc' := 104) rfl (hb hby at_79) rfl (feq (by decide)).2 (by decide) (by decide) k_) ?_
      show G (T2.setTop (mkF m 104 #[oi i0, oi i1, oi i2, oi i3, oi i4, oi i5, oi 0, oa d0, oi c3, oi 3, .unset, .unset, .unset, .unset] []))
      refine hG _ _ (fun t_ k_ => XS.iload X2.here hx rfl (hb hby at_104) rfl k_) ?_
      refine hG _ _ (fun t_ k_ => XS.iconst X2.here hx rfl (hb hby at_106) k_) ?_
      show G (T2.setTop (mkF m 107 #[oi i0, oi i1, oi i2, oi i3, oi i4, oi i5, oi 0, oa d0, oi c3, oi 3, .unset, .unset, .unset, .unset] [(.int 2), (.int 3)]))
      refine hG _ _ (fun t_ k_ => XS.icmpYes X2.here hx rfl (pc0 := 107) (pc' := 179) rfl (hb hby at_107) rfl (feq (by decide)).2 (by decide) (by decide) k_) ?_
      show G (T2.setTop (mkF m 179 #[oi i0, oi i1, oi i2, oi i3, oi i4, oi i5, oi 0, oa d0, oi c3, oi 3, .unset, .unset, .unset, .unset] []))
      refine hG _ _ (fun t_ k_ => XS.iload X2.here hx rfl (hb hby at_179) rfl k_) ?_
      refine hG _ _ (fun t_ k_ => XS.iconst X2.here hx rfl (hb hby at_181) k_) ?_
      show G (T2.setTop (mkF m 182 #[oi i0, oi i1, oi i2, oi i3, oi i4, oi i5, oi 0, oa d0, oi c3, oi 3, .unset, .unset, .unset, .unset] [(.int 3), (.int 3)]))
      refine hG _ _ (fun t_ k_ => XS.icmpNo X2.here hx rfl (hb hby at_182) rfl (teq (by decide)).2 k_) ?_
      show G (T2.setTop (mkF m 185 #[oi i0, oi i1, oi i2, oi i3, oi i4, oi i5, oi 0, oa d0, oi c3, oi 3, .unset, .unset, .unset, .unset] []))
      obtain ⟨T92, h92, X92, e92, E92, A92, D92, -, st92⟩ := newO X2 hx hZ hown (ow hw 39 rfl) (ow hw 40 rfl) (ow hw 36 rfl) e2 (g := (mkF m 185 #[oi i0, oi i1, oi i2, oi i3, oi i4, oi i5, oi 0, oa d0, oi c3, oi 3, .unset, .unset, .unset, .unset] [])) rfl (hb hby at_185) (by decide) (by decide)
      obtain ⟨b92, z92⟩ : ∃ z, z = h0.size := ⟨_, rfl⟩
      rw [← z92] at A92 D92 st92
      refine hG _ _ st92 ?_
      have R92 := (CHr.ext E92 H0)
      have C92 := (CHr.refl H0).trans R92
      have K92 : Keep h0 h92 [] := (Keep.refl h0 []).ext E92
      have O92 : own_Old Z h92 := O0.ext E92
      refine hG _ _ (fun t_ k_ => XS.dup X92.here hx rfl (hb hby at_188) rfl rfl k_) ?_
      refine hG _ _ (fun t_ k_ => XS.iload X92.here hx rfl (hb hby at_189) rfl k_) ?_
      refine hG _ _ (fun t_ k_ => XS.iload X92.here hx rfl (hb hby at_191) rfl k_) ?_
      show G (T92.setTop (mkF m 193 #[oi i0, oi i1, oi i2, oi i3, oi i4, oi i5, oi 0, oa d0, oi c3, oi 3, .unset, .unset, .unset, .unset] [(.int c3), (.int 0), (.ref b92), (.ref b92)]))
      refine own_callS X92 hx hZ hG hown (ow hw 84 rfl) (ow hw 85 rfl) (ow hw 43 rfl) (ow hw 86 rfl) (by decide) 2 (own_mk_ext_0 l Z a0 hw c3 h92 O92 hr_c3) (by decide) (by decide) e92 (by rw [hml]; rfl) (lenOf own_pd15 rfl) (argsL := [(.int 0), (.int c3)]) (rest := [(.ref b92), (.ref b92)]) rfl rfl (Nat.le_of_eq rfl) (hb hby at_193) (by decide) (by decide) ?_
      intro T93 h93 v93 L93 X93 e93 q93
      obtain ⟨u_93, ku_93, rfl, M93, J93, y93_0, r93_0⟩ := q93
      have N93 := Fr.app N0 M93
      have R93 := (CHr.keep J93 all0 R92.1)
      have C93 := C92.trans R93
      have K93 : Keep h0 h93 [] := K92.trans J93 all0
      have O93 : own_Old Z h93 := O92.keep J93 all0
      show G (T93.setTop (mkF m 196 #[oi i0, oi i1, oi i2, oi i3, oi i4, oi i5, oi 0, oa d0, oi c3, oi 3, .unset, .unset, .unset, .unset] [(.ref u_93), (.ref b92), (.ref b92)]))
      have f95 := (A92.keep J93)
      have f96 := ((D92 (Or.inr (ow hw 69 rfl)) (ty := .byte) (by decide)).keep J93 nin0)
      have f97 := ((D92 (Or.inr (ow hw 71 rfl)) (ty := (.array .byte)) (by decide)).keep J93 nin0)
      refine own_callI X93 hx hZ hG hown rfl (ow hw 46 rfl) (ow hw 47 rfl) (ow hw 36 rfl) (ow hw 48 rfl) (by decide) 1 (own_gstr1 l Z a0 hw b92 u_93 ku_93 [(99 : Int32), (111 : Int32), (110 : Int32), (110 : Int32), (101 : Int32), (99 : Int32), (116 : Int32), c3] cpt (.int 0) .null h93 O93 f95 f96 f97 (own_ge O0 (Nat.le_of_eq z92.symm)) r93_0 (Nat.le_of_ble_eq_true rfl) (Nat.le_of_ble_eq_true rfl) (own_allc (by decide) (own_allc (by decide) (own_allc (by decide) (own_allc (by decide) (own_allc (by decide) (own_allc (by decide) (own_allc (by decide) (own_allc hr_c3 own_alln)))))))) g0_S g1_hcpt g2_S g3_S g4_S) (by decide) (by decide) e93 (by rw [hml]; rfl) (lenOf own_pd8 rfl) (argsL := [(.ref u_93)]) (rest := [(.ref b92)]) rfl rfl (Nat.le_of_eq rfl) (hb hby at_196) (by decide) (by decide) ?_
      intro T94 h94 v94 L94 X94 e94 q94
      obtain ⟨t_94, kt_94, cd_94, nb_94, vs_94, rfl, M94, J94, y94_0, r94_0, r94_1, r94_2, r94_3, r94_4⟩ := q94
      have N94 := Fr.app N93 M94
      have sf98 : Safe Z consts_1 _ h93 b92 := (own_safeStr hZ.alike f95 f97)
      have R94 := (CHr.keep J94 (allS sf98 all0) R93.1)
      have C94 := C93.trans R94
      have K94 : Keep h0 h94 [] := K93.trans J94 (allS (Or.inr (Nat.le_trans (Keep.refl h0 []).1 (Nat.le_of_eq z92.symm))) all0)
      have O94 : own_Old Z h94 := O93.keep J94 (allS (own_ge O0 (Nat.le_of_eq z92.symm)) all0)
      show G (T94.setTop (mkF m 199 #[oi i0, oi i1, oi i2, oi i3, oi i4, oi i5, oi 0, oa d0, oi c3, oi 3, .unset, .unset, .unset, .unset] [(.ref b92)]))
      have f100 := (((g9_E.ext E92).keep J93).keep J94)
      have f101 := (((g10_V.ext E92).keep J93 nin0).keep J94 (ninS (own_ne g9_E.lt (Nat.le_of_eq z92.symm)) nin0))
      have f102 := (((g11_E.ext E92).keep J93).keep J94)
      have f103 := (((g12_F.ext E92).keep J93 nin0).keep J94 (ninS (own_ne g11_E.lt (Nat.le_of_eq z92.symm)) nin0))
      have f104 := (((g13_E.ext E92).keep J93).keep J94)
      have f105 := (((g14_F.ext E92).keep J93 nin0).keep J94 (ninS (own_ne g13_E.lt (Nat.le_of_eq z92.symm)) nin0))
      have f106 := (((g15_F.ext E92).keep J93 nin0).keep J94 (ninS (own_ne g13_E.lt (Nat.le_of_eq z92.symm)) nin0))
      have f107 := (((g16_V.ext E92).keep J93 nin0).keep J94 (ninS (own_ne g16_V.lt (Nat.le_of_eq z92.symm)) nin0))
      have f108 := (((g17_E.ext E92).keep J93).keep J94)
      have f109 := (((g18_F.ext E92).keep J93 nin0).keep J94 (ninS (own_ne g17_E.lt (Nat.le_of_eq z92.symm)) nin0))
      have f110 := (((g19_E.ext E92).keep J93).keep J94)
      have f111 := (((g20_F.ext E92).keep J93 nin0).keep J94 (ninS (own_ne g19_E.lt (Nat.le_of_eq z92.symm)) nin0))
      have f112 := (((g21_F.ext E92).keep J93 nin0).keep J94 (ninS (own_ne g19_E.lt (Nat.le_of_eq z92.symm)) nin0))
      have f113 := (((g22_V.ext E92).keep J93 nin0).keep J94 (ninS (own_ne g22_V.lt (Nat.le_of_eq z92.symm)) nin0))
      have f114 := (((g23_E.ext E92).keep J93).keep J94)
      have f115 := (((g24_F.ext E92).keep J93 nin0).keep J94 (ninS (own_ne g23_E.lt (Nat.le_of_eq z92.symm)) nin0))
      have f116 := (((g25_E.ext E92).keep J93).keep J94)
      have f117 := (((g26_F.ext E92).keep J93 nin0).keep J94 (ninS (own_ne g25_E.lt (Nat.le_of_eq z92.symm)) nin0))
      have f118 := (((g27_F.ext E92).keep J93 nin0).keep J94 (ninS (own_ne g25_E.lt (Nat.le_of_eq z92.symm)) nin0))
      have f119 := (((g28_V.ext E92).keep J93 nin0).keep J94 (ninS (own_ne g28_V.lt (Nat.le_of_eq z92.symm)) nin0))
      refine own_callS X94 hx hZ hG hown (ow hw 12 rfl) (ow hw 13 rfl) (ow hw 2 rfl) (ow hw 14 rfl) (by decide) 0 (own_findN l Z a0 hw b92 t_94 kt_94 [(99 : Int32), (111 : Int32), (110 : Int32), (110 : Int32), (101 : Int32), (99 : Int32), (116 : Int32), c3] cd_94 nb_94 vs_94 cpt d0 d1 d2 t0 t1 t2 v0 v1 v2 kv0 kv1 kv2 vals kl h94 O94 r94_0 r94_1 r94_2 r94_3 r94_4 (Nat.le_of_ble_eq_true rfl) (own_allc (by decide) (own_allc (by decide) (own_allc (by decide) (own_allc (by decide) (own_allc (by decide) (own_allc (by decide) (own_allc (by decide) (own_allc hr_c3 own_alln)))))))) g0_S g1_hcpt g8_S f100 f101 f102 f103 f104 f105 f106 f107 f108 f109 f110 f111 f112 f113 f114 f115 f116 f117 f118 f119 (own_ne g13_E.lt (Nat.le_of_eq z92.symm)) (own_ne g19_E.lt (Nat.le_of_eq z92.symm)) (own_ne g25_E.lt (Nat.le_of_eq z92.symm)) (own_ne_len (fun q => by simp at q)) (own_ne_len (fun q => by simp at q)) (own_ne_len (fun q => by simp at q))) (by decide) (by decide) e94 (by rw [hml]; rfl) (lenOf own_pd13 rfl) (argsL := [(.ref b92)]) (rest := []) rfl rfl (Nat.le_of_eq rfl) (hb hby at_199) (by decide) (by decide) ?_
      intro T99 h99 v99 L99 X99 e99 q99
      obtain ⟨rfl, M99, J99⟩ := q99
      have N99 := Fr.app N94 M99
      have R99 := (CHr.keep J99 all0 R94.1)
      have C99 := C94.trans R99
      have K99 : Keep h0 h99 [] := K94.trans J99 all0
      have O99 : own_Old Z h99 := O94.keep J99 all0
      show G (T99.setTop (mkF m 202 #[oi i0, oi i1, oi i2, oi i3, oi i4, oi i5, oi 0, oa d0, oi c3, oi 3, .unset, .unset, .unset, .unset] [.null]))
      refine hG _ _ (fun t_ k_ => XS.ifnonnullNo X99.here hx rfl (hb hby at_202) rfl k_) ?_
      refine hG _ _ (fun t_ k_ => XS.iconst X99.here hx rfl (hb hby at_205) k_) ?_
      refine hG _ _ (fun t_ k_ => XS.goto X99.here hx rfl (pc0 := 206) (pc' := 210) rfl (hb hby at_206) (by decide) (by decide) k_) ?_
      show G (T99.setTop (mkF m 210 #[oi i0, oi i1, oi i2, oi i3, oi i4, oi i5, oi 0, oa d0, oi c3, oi 3, .unset, .unset, .unset, .unset] [(.int 1)]))
      exact own_retNW hR hret (by simp) X99 hx (hb hby at_210) e99 SI0 (Nat.le_trans (Nat.le_trans (Nat.le_trans (Nat.le_trans (Nat.le_refl _) R92.2.1) R93.2.1) R94.2.1) R99.2.1) hZ C99 (by decide) (by decide) ⟨rfl, N99, K99⟩
    · skip
      show G (T2.setTop (mkF m 52 #[oi i0, oi i1, oi i2, oi i3, oi i4, oi i5, oi 0, oa d0, oi c3, oi 4, .unset, .unset, .unset, .unset] []))
      refine hG _ _ (fun t_ k_ => XS.iload X2.here hx rfl (hb hby at_52) rfl k_) ?_
      show G (T2.setTop (mkF m 54 #[oi i0, oi i1, oi i2, oi i3, oi i4, oi i5, oi 0, oa d0, oi c3, oi 4, .unset, .unset, .unset, .unset] [(.int 4)]))
      refine hG _ _ (fun t_ k_ => XS.ifYes X2.here hx rfl (pc0 := 54) (pc' := 76) rfl (hb hby at_54) rfl ((if0 _ _).trans (feq (by decide)).2) (by decide) (by decide) k_) ?_
      show G (T2.setTop (mkF m 76 #[oi i0, oi i1, oi i2, oi i3, oi i4, oi i5, oi 0, oa d0, oi c3, oi 4, .unset, .unset, .unset, .unset] []))
      refine hG _ _ (fun t_ k_ => XS.iload X2.here hx rfl (hb hby at_76) rfl k_) ?_
      refine hG _ _ (fun t_ k_ => XS.iconst X2.here hx rfl (hb hby at_78) k_) ?_
      show G (T2.setTop (mkF m 79 #[oi i0, oi i1, oi i2, oi i3, oi i4, oi i5, oi 0, oa d0, oi c3, oi 4, .unset, .unset, .unset, .unset] [(.int 1), (.int 4)]))
      refine hG _ _ (fun t_ k_ => XS.icmpYes X2.here hx rfl (pc0 := 79) (pc' := 104) rfl (hb hby at_79) rfl (feq (by decide)).2 (by decide) (by decide) k_) ?_
      show G (T2.setTop (mkF m 104 #[oi i0, oi i1, oi i2, oi i3, oi i4, oi i5, oi 0, oa d0, oi c3, oi 4, .unset, .unset, .unset, .unset] []))
      refine hG _ _ (fun t_ k_ => XS.iload X2.here hx rfl (hb hby at_104) rfl k_) ?_
      refine hG _ _ (fun t_ k_ => XS.iconst X2.here hx rfl (hb hby at_106) k_) ?_
      show G (T2.setTop (mkF m 107 #[oi i0, oi i1, oi i2, oi i3, oi i4, oi i5, oi 0, oa d0, oi c3, oi 4, .unset, .unset, .unset, .unset] [(.int 2), (.int 4)]))
      refine hG _ _ (fun t_ k_ => XS.icmpYes X2.here hx rfl (pc0 := 107) (pc' := 179) rfl (hb hby at_107) rfl (feq (by decide)).2 (by decide) (by decide) k_) ?_
      show G (T2.setTop (mkF m 179 #[oi i0, oi i1, oi i2, oi i3, oi i4, oi i5, oi 0, oa d0, oi c3, oi 4, .unset, .unset, .unset, .unset] []))
      refine hG _ _ (fun t_ k_ => XS.iload X2.here hx rfl (hb hby at_179) rfl k_) ?_
      refine hG _ _ (fun t_ k_ => XS.iconst X2.here hx rfl (hb hby at_181) k_) ?_
      show G (T2.setTop (mkF m 182 #[oi i0, oi i1, oi i2, oi i3, oi i4, oi i5, oi 0, oa d0, oi c3, oi 4, .unset, .unset, .unset, .unset] [(.int 3), (.int 4)]))
      refine hG _ _ (fun t_ k_ => XS.icmpYes X2.here hx rfl (pc0 := 182) (pc' := 211) rfl (hb hby at_182) rfl (feq (by decide)).2 (by decide) (by decide) k_) ?_
      show G (T2.setTop (mkF m 211 #[oi i0, oi i1, oi i2, oi i3, oi i4, oi i5, oi 0, oa d0, oi c3, oi 4, .unset, .unset, .unset, .unset] []))
      refine hG _ _ (fun t_ k_ => XS.iload X2.here hx rfl (hb hby at_211) rfl k_) ?_
      refine hG _ _ (fun t_ k_ => XS.iconst X2.here hx rfl (hb hby at_213) k_) ?_
      show G (T2.setTop (mkF m 214 #[oi i0, oi i1, oi i2, oi i3, oi i4, oi i5, oi 0, oa d0, oi c3, oi 4, .unset, .unset, .unset, .unset] [(.int 4), (.int 4)]))
      refine hG _ _ (fun t_ k_ => XS.icmpNo X2.here hx rfl (hb hby at_214) rfl (teq (by decide)).2 k_) ?_
      show G (T2.setTop (mkF m 217 #[oi i0, oi i1, oi i2, oi i3, oi i4, oi i5, oi 0, oa d0, oi c3, oi 4, .unset, .unset, .unset, .unset] []))
      obtain ⟨T120, h120, X120, e120, E120, A120, D120, -, st120⟩ := newO X2 hx hZ hown (ow hw 39 rfl) (ow hw 40 rfl) (ow hw 36 rfl) e2 (g := (mkF m 217 #[oi i0, oi i1, oi i2, oi i3, oi i4, oi i5, oi 0, oa d0, oi c3, oi 4, .unset, .unset, .unset, .unset] [])) rfl (hb hby at_217) (by decide) (by decide)
      obtain ⟨b120, z120⟩ : ∃ z, z = h0.size := ⟨_, rfl⟩
      rw [← z120] at A120 D120 st120
      refine hG _ _ st120 ?_
      have R120 := (CHr.ext E120 H0)
      have C120 := (CHr.refl H0).trans R120
      have K120 : Keep h0 h120 [] := (Keep.refl h0 []).ext E120
      have O120 : own_Old Z h120 := O0.ext E120
      refine hG _ _ (fun t_ k_ => XS.dup X120.here hx rfl (hb hby at_220) rfl rfl k_) ?_
      refine hG _ _ (fun t_ k_ => XS.iload X120.here hx rfl (hb hby at_221) rfl k_) ?_
      refine hG _ _ (fun t_ k_ => XS.iload X120.here hx rfl (hb hby at_223) rfl k_) ?_
      show G (T120.setTop (mkF m 225 #[oi i0, oi i1, oi i2, oi i3, oi i4, oi i5, oi 0, oa d0, oi c3, oi 4, .unset, .unset, .unset, .unset] [(.int c3), (.int 0), (.ref b120), (.ref b120)]))
      refine own_callS X120 hx hZ hG hown (ow hw 41 rfl) (ow hw 42 rfl) (ow hw 43 rfl) (ow hw 44 rfl) (by decide) 2 (own_mk_pre_0 l Z a0 hw c3 h120 O120 hr_c3) (by decide) (by decide) e120 (by rw [hml]; rfl) (lenOf own_pd15 rfl) (argsL := [(.int 0), (.int c3)]) (rest := [(.ref b120), (.ref b120)]) rfl rfl (Nat.le_of_eq rfl) (hb hby at_225) (by decide) (by decide) ?_
      intro T121 h121 v121 L121 X121 e121 q121
      obtain ⟨u_121, ku_121, rfl, M121, J121, y121_0, r121_0⟩ := q121
      have N121 := Fr.app N0 M121
      have R121 := (CHr.keep J121 all0 R120.1)
      have C121 := C120.trans R121
      have K121 : Keep h0 h121 [] := K120.trans J121 all0
      have O121 : own_Old Z h121 := O120.keep J121 all0
      show G (T121.setTop (mkF m 228 #[oi i0, oi i1, oi i2, oi i3, oi i4, oi i5, oi 0, oa d0, oi c3, oi 4, .unset, .unset, .unset, .unset] [(.ref u_121), (.ref b120), (.ref b120)]))
      have f123 := (A120.keep J121)
      have f124 := ((D120 (Or.inr (ow hw 69 rfl)) (ty := .byte) (by decide)).keep J121 nin0)
      have f125 := ((D120 (Or.inr (ow hw 71 rfl)) (ty := (.array .byte)) (by decide)).keep J121 nin0)
      refine own_callI X121 hx hZ hG hown rfl (ow hw 46 rfl) (ow hw 47 rfl) (ow hw 36 rfl) (ow hw 48 rfl) (by decide) 1 (own_gstr1 l Z a0 hw b120 u_121 ku_121 [c3, (99 : Int32), (111 : Int32), (110 : Int32), (110 : Int32), (101 : Int32), (99 : Int32), (116 : Int32)] cpt (.int 0) .null h121 O121 f123 f124 f125 (own_ge O0 (Nat.le_of_eq z120.symm)) r121_0 (Nat.le_of_ble_eq_true rfl) (Nat.le_of_ble_eq_true rfl) (own_allc hr_c3 (own_allc (by decide) (own_allc (by decide) (own_allc (by decide) (own_allc (by decide) (own_allc (by decide) (own_allc (by decide) (own_allc (by decide) own_alln)))))))) g0_S g1_hcpt g2_S g3_S g4_S) (by decide) (by decide) e121 (by rw [hml]; rfl) (lenOf own_pd8 rfl) (argsL := [(.ref u_121)]) (rest := [(.ref b120)]) rfl rfl (Nat.le_of_eq rfl) (hb hby at_228) (by decide) (by decide) ?_
      intro T122 h122 v122 L122 X122 e122 q122
      obtain ⟨t_122, kt_122, cd_122, nb_122, vs_122, rfl, M122, J122, y122_0, r122_0, r122_1, r122_2, r122_3, r122_4⟩ := q122
      have N122 := Fr.app N121 M122
      have sf126 : Safe Z consts_1 _ h121 b120 := (own_safeStr hZ.alike f123 f125)
      have R122 := (CHr.keep J122 (allS sf126 all0) R121.1)
      have C122 := C121.trans R122
      have K122 : Keep h0 h122 [] := K121.trans J122 (allS (Or.inr (Nat.le_trans (Keep.refl h0 []).1 (Nat.le_of_eq z120.symm))) all0)
      have O122 : own_Old Z h122 := O121.keep J122 (allS (own_ge O0 (Nat.le_of_eq z120.symm)) all0)
      show G (T122.setTop (mkF m 231 #[oi i0, oi i1, oi i2, oi i3, oi i4, oi i5, oi 0, oa d0, oi c3, oi 4, .unset, .unset, .unset, .unset] [(.ref b120)]))
      have f128 := (((g9_E.ext E120).keep J121).keep J122)
      have f129 := (((g10_V.ext E120).keep J121 nin0).keep J122 (ninS (own_ne g9_E.lt (Nat.le_of_eq z120.symm)) nin0))
      have f130 := (((g11_E.ext E120).keep J121).keep J122)
      have f131 := (((g12_F.ext E120).keep J121 nin0).keep J122 (ninS (own_ne g11_E.lt (Nat.le_of_eq z120.symm)) nin0))
      have f132 := (((g13_E.ext E120).keep J121).keep J122)
      have f133 := (((g14_F.ext E120).keep J121 nin0).keep J122 (ninS (own_ne g13_E.lt (Nat.le_of_eq z120.symm)) nin0))
      have f134 := (((g15_F.ext E120).keep J121 nin0).keep J122 (ninS (own_ne g13_E.lt (Nat.le_of_eq z120.symm)) nin0))
      have f135 := (((g16_V.ext E120).keep J121 nin0).keep J122 (ninS (own_ne g16_V.lt (Nat.le_of_eq z120.symm)) nin0))
      have f136 := (((g17_E.ext E120).keep J121).keep J122)
      have f137 := (((g18_F.ext E120).keep J121 nin0).keep J122 (ninS (own_ne g17_E.lt (Nat.le_of_eq z120.symm)) nin0))
      have f138 := (((g19_E.ext E120).keep J121).keep J122)
      have f139 := (((g20_F.ext E120).keep J121 nin0).keep J122 (ninS (own_ne g19_E.lt (Nat.le_of_eq z120.symm)) nin0))
      have f140 := (((g21_F.ext E120).keep J121 nin0).keep J122 (ninS (own_ne g19_E.lt (Nat.le_of_eq z120.symm)) nin0))
      have f141 := (((g22_V.ext E120).keep J121 nin0).keep J122 (ninS (own_ne g22_V.lt (Nat.le_of_eq z120.symm)) nin0))
      have f142 := (((g23_E.ext E120).keep J121).keep J122)
      have f143 := (((g24_F.ext E120).keep J121 nin0).keep J122 (ninS (own_ne g23_E.lt (Nat.le_of_eq z120.symm)) nin0))
      have f144 := (((g25_E.ext E120).keep J121).keep J122)
      have f145 := (((g26_F.ext E120).keep J121 nin0).keep J122 (ninS (own_ne g25_E.lt (Nat.le_of_eq z120.symm)) nin0))
      have f146 := (((g27_F.ext E120).keep J121 nin0).keep J122 (ninS (own_ne g25_E.lt (Nat.le_of_eq z120.symm)) nin0))
      have f147 := (((g28_V.ext E120).keep J121 nin0).keep J122 (ninS (own_ne g28_V.lt (Nat.le_of_eq z120.symm)) nin0))
      refine own_callS X122 hx hZ hG hown (ow hw 12 rfl) (ow hw 13 rfl) (ow hw 2 rfl) (ow hw 14 rfl) (by decide) 0 (own_findN l Z a0 hw b120 t_122 kt_122 [c3, (99 : Int32), (111 : Int32), (110 : Int32), (110 : Int32), (101 : Int32), (99 : Int32), (116 : Int32)] cd_122 nb_122 vs_122 cpt d0 d1 d2 t0 t1 t2 v0 v1 v2 kv0 kv1 kv2 vals kl h122 O122 r122_0 r122_1 r122_2 r122_3 r122_4 (Nat.le_of_ble_eq_true rfl) (own_allc hr_c3 (own_allc (by decide) (own_allc (by decide) (own_allc (by decide) (own_allc (by decide) (own_allc (by decide) (own_allc (by decide) (own_allc (by decide) own_alln)))))))) g0_S g1_hcpt g8_S f128 f129 f130 f131 f132 f133 f134 f135 f136 f137 f138 f139 f140 f141 f142 f143 f144 f145 f146 f147 (own_ne g13_E.lt (Nat.le_of_eq z120.symm)) (own_ne g19_E.lt (Nat.le_of_eq z120.symm)) (own_ne g25_E.lt (Nat.le_of_eq z120.symm)) (own_ne_len (fun q => by simp at q)) (own_ne_len (fun q => by simp at q)) (own_ne_len (fun q => by simp at q))) (by decide) (by decide) e122 (by rw [hml]; rfl) (lenOf own_pd13 rfl) (argsL := [(.ref b120)]) (rest := []) rfl rfl (Nat.le_of_eq rfl) (hb hby at_231) (by decide) (by decide) ?_
      intro T127 h127 v127 L127 X127 e127 q127
      obtain ⟨rfl, M127, J127⟩ := q127
      have N127 := Fr.app N122 M127
      have R127 := (CHr.keep J127 all0 R122.1)
      have C127 := C122.trans R127
      have K127 : Keep h0 h127 [] := K122.trans J127 all0
      have O127 : own_Old Z h127 := O122.keep J127 all0
      show G (T127.setTop (mkF m 234 #[oi i0, oi i1, oi i2, oi i3, oi i4, oi i5, oi 0, oa d0, oi c3, oi 4, .unset, .unset, .unset, .unset] [.null]))
      refine hG _ _ (fun t_ k_ => XS.ifnonnullNo X127.here hx rfl (hb hby at_234) rfl k_) ?_
      refine hG _ _ (fun t_ k_ => XS.iconst X127.here hx rfl (hb hby at_237) k_) ?_
      refine hG _ _ (fun t_ k_ => XS.goto X127.here hx rfl (pc0 := 238) (pc' := 242) rfl (hb hby at_238) (by decide) (by decide) k_) ?_
      show G (T127.setTop (mkF m 242 #[oi i0, oi i1, oi i2, oi i3, oi i4, oi i5, oi 0, oa d0, oi c3, oi 4, .unset, .unset, .unset, .unset] [(.int 1)]))
      exact own_retNW hR hret (by simp) X127 hx (hb hby at_242) e127 SI0 (Nat.le_trans (Nat.le_trans (Nat.le_trans (Nat.le_trans (Nat.le_refl _) R120.2.1) R121.2.1) R122.2.1) R127.2.1) hZ C127 (by decide) (by decide) ⟨rfl, N127, K127⟩
    · skip
      show G (T2.setTop (mkF m 52 #[oi i0, oi i1, oi i2, oi i3, oi i4, oi i5, oi 0, oa d0, oi c3, oi 5, .unset, .unset, .unset, .unset] []))
      refine hG _ _ (fun t_ k_ => XS.iload X2.here hx rfl (hb hby at_52) rfl k_) ?_
      show G (T2.setTop (mkF m 54 #[oi i0, oi i1, oi i2, oi i3, oi i4, oi i5, oi 0, oa d0, oi c3, oi 5, .unset, .unset, .unset, .unset] [(.int 5)]))
      refine hG _ _ (fun t_ k_ => XS.ifYes X2.here hx rfl (pc0 := 54) (pc' := 76) rfl (hb hby at_54) rfl ((if0 _ _).trans (feq (by decide)).2) (by decide) (by decide) k_) ?_
      show G (T2.setTop (mkF m 76 #[oi i0, oi i1, oi i2, oi i3, oi i4, oi i5, oi 0, oa d0, oi c3, oi 5, .unset, .unset, .unset, .unset] []))
      refine hG _ _ (fun t_ k_ => XS.iload X2.here hx rfl (hb hby at_76) rfl k_) ?_
      refine hG _ _ (fun t_ k_ => XS.iconst X2.here hx rfl (hb hby at_78) k_) ?_
      show G (T2.setTop (mkF m 79 #[oi i0, oi i1, oi i2, oi i3, oi i4, oi i5, oi 0, oa d0, oi c3, oi 5, .unset, .unset, .unset, .unset] [(.int 1), (.int 5)]))
      refine hG _ _ (fun t_ k_ => XS.icmpYes X2.here hx rfl (pc0 := 79) (pc' := 104) rfl (hb hby at_79) rfl (feq (by decide)).2 (by decide) (by decide) k_) ?_
      show G (T2.setTop (mkF m 104 #[oi i0, oi i1, oi i2, oi i3, oi i4, oi i5, oi 0, oa d0, oi c3, oi 5, .unset, .unset, .unset, .unset] []))
      refine hG _ _ (fun t_ k_ => XS.iload X2.here hx rfl (hb hby at_104) rfl k_) ?_
      refine hG _ _ (fun t_ k_ => XS.iconst X2.here hx rfl (hb hby at_106) k_) ?_
      show G (T2.setTop (mkF m 107 #[oi i0, oi i1, oi i2, oi i3, oi i4, oi i5, oi 0, oa d0, oi c3, oi 5, .unset, .unset, .unset, .unset] [(.int 2), (.int 5)]))
      refine hG _ _ (fun t_ k_ => XS.icmpYes X2.here hx rfl (pc0 := 107) (pc' := 179) rfl (hb hby at_107) rfl (feq (by decide)).2 (by decide) (by decide) k_) ?_
      show G (T2.setTop (mkF m 179 #[oi i0, oi i1, oi i2, oi i3, oi i4, oi i5, oi 0, oa d0, oi c3, oi 5, .unset, .unset, .unset, .unset] []))
      refine hG _ _ (fun t_ k_ => XS.iload X2.here hx rfl (hb hby at_179) rfl k_) ?_
      refine hG _ _ (fun t_ k_ => XS.iconst X2.here hx rfl (hb hby at_181) k_) ?_
      show G (T2.setTop (mkF m 182 #[oi i0, oi i1, oi i2, oi i3, oi i4, oi i5, oi 0, oa d0, oi c3, oi 5, .unset, .unset, .unset, .unset] [(.int 3), (.int 5)]))
      refine hG _ _ (fun t_ k_ => XS.icmpYes X2.here hx rfl (pc0 := 182) (pc' := 211) rfl (hb hby at_182) rfl (feq (by decide)).2 (by decide) (by decide) k_) ?_
      show G (T2.setTop (mkF m 211 #[oi i0, oi i1, oi i2, oi i3, oi i4, oi i5, oi 0, oa d0, oi c3, oi 5, .unset, .unset, .unset, .unset] []))
      refine hG _ _ (fun t_ k_ => XS.iload X2.here hx rfl (hb hby at_211) rfl k_) ?_
      refine hG _ _ (fun t_ k_ => XS.iconst X2.here hx rfl (hb hby at_213) k_) ?_
      show G (T2.setTop (mkF m 214 #[oi i0, oi i1, oi i2, oi i3, oi i4, oi i5, oi 0, oa d0, oi c3, oi 5, .unset, .unset, .unset, .unset] [(.int 4), (.int 5)]))
      refine hG _ _ (fun t_ k_ => XS.icmpYes X2.here hx rfl (pc0 := 214) (pc' := 243) rfl (hb hby at_214) rfl (feq (by decide)).2 (by decide) (by decide) k_) ?_
      show G (T2.setTop (mkF m 243 #[oi i0, oi i1, oi i2, oi i3, oi i4, oi i5, oi 0, oa d0, oi c3, oi 5, .unset, .unset, .unset, .unset] []))
      refine hG _ _ (fun t_ k_ => XS.iload X2.here hx rfl (hb hby at_243) rfl k_) ?_
      refine hG _ _ (fun t_ k_ => XS.iconst X2.here hx rfl (hb hby at_245) k_) ?_
      show G (T2.setTop (mkF m 246 #[oi i0, oi i1, oi i2, oi i3, oi i4, oi i5, oi 0, oa d0, oi c3, oi 5, .unset, .unset, .unset, .unset] [(.int 5), (.int 5)]))
      refine hG _ _ (fun t_ k_ => XS.icmpNo X2.here hx rfl (hb hby at_246) rfl (teq (by decide)).2 k_) ?_
      show G (T2.setTop (mkF m 249 #[oi i0, oi i1, oi i2, oi i3, oi i4, oi i5, oi 0, oa d0, oi c3, oi 5, .unset, .unset, .unset, .unset] []))
      obtain ⟨T148, h148, X148, e148, E148, A148, D148, -, st148⟩ := newO X2 hx hZ hown (ow hw 39 rfl) (ow hw 40 rfl) (ow hw 36 rfl) e2 (g := (mkF m 249 #[oi i0, oi i1, oi i2, oi i3, oi i4, oi i5, oi 0, oa d0, oi c3, oi 5, .unset, .unset, .unset, .unset] [])) rfl (hb hby at_249) (by decide) (by decide)
      obtain ⟨b148, z148⟩ : ∃ z, z = h0.size := ⟨_, rfl⟩
      rw [← z148] at A148 D148 st148
      refine hG _ _ st148 ?_
      have R148 := (CHr.ext E148 H0)
      have C148 := (CHr.refl H0).trans R148
      have K148 : Keep h0 h148 [] := (Keep.refl h0 []).ext E148
      have O148 : own_Old Z h148 := O0.ext E148
      refine hG _ _ (fun t_ k_ => XS.dup X148.here hx rfl (hb hby at_252) rfl rfl k_) ?_
      refine hG _ _ (fun t_ k_ => XS.iload X148.here hx rfl (hb hby at_253) rfl k_) ?_
      show G (T148.setTop (mkF m 255 #[oi i0, oi i1, oi i2, oi i3, oi i4, oi i5, oi 0, oa d0, oi c3, oi 5, .unset, .unset, .unset, .unset] [(.int 0), (.ref b148), (.ref b148)]))
      refine own_callS X148 hx hZ hG hown (ow hw 90 rfl) (ow hw 91 rfl) (ow hw 43 rfl) (ow hw 92 rfl) (by decide) 2 (own_mk_cut_0 l Z a0 hw h148 O148) (by decide) (by decide) e148 (by rw [hml]; rfl) (lenOf own_pd14 rfl) (argsL := [(.int 0)]) (rest := [(.ref b148), (.ref b148)]) rfl rfl (Nat.le_of_eq rfl) (hb hby at_255) (by decide) (by decide) ?_
      intro T149 h149 v149 L149 X149 e149 q149
      obtain ⟨u_149, ku_149, rfl, M149, J149, y149_0, r149_0⟩ := q149
      have N149 := Fr.app N0 M149
      have R149 := (CHr.keep J149 all0 R148.1)
      have C149 := C148.trans R149
      have K149 : Keep h0 h149 [] := K148.trans J149 all0
      have O149 : own_Old Z h149 := O148.keep J149 all0
      show G (T149.setTop (mkF m 258 #[oi i0, oi i1, oi i2, oi i3, oi i4, oi i5, oi 0, oa d0, oi c3, oi 5, .unset, .unset, .unset, .unset] [(.ref u_149), (.ref b148), (.ref b148)]))
      have f151 := (A148.keep J149)
      have f152 := ((D148 (Or.inr (ow hw 69 rfl)) (ty := .byte) (by decide)).keep J149 nin0)
      have f153 := ((D148 (Or.inr (ow hw 71 rfl)) (ty := (.array .byte)) (by decide)).keep J149 nin0)
      refine own_callI X149 hx hZ hG hown rfl (ow hw 46 rfl) (ow hw 47 rfl) (ow hw 36 rfl) (ow hw 48 rfl) (by decide) 1 (own_gstr1 l Z a0 hw b148 u_149 ku_149 [(99 : Int32), (111 : Int32), (110 : Int32), (110 : Int32), (101 : Int32), (99 : Int32)] cpt (.int 0) .null h149 O149 f151 f152 f153 (own_ge O0 (Nat.le_of_eq z148.symm)) r149_0 (Nat.le_of_ble_eq_true rfl) (Nat.le_of_ble_eq_true rfl) (own_allc (by decide) (own_allc (by decide) (own_allc (by decide) (own_allc (by decide) (own_allc (by decide) (own_allc (by decide) own_alln)))))) g0_S g1_hcpt g2_S g3_S g4_S) (by decide) (by decide) e149 (by rw [hml]; rfl) (lenOf own_pd8 rfl) (argsL := [(.ref u_149)]) (rest := [(.ref b148)]) rfl rfl (Nat.le_of_eq rfl) (hb hby at_258) (by decide) (by decide) ?_
      intro T150 h150 v150 L150 X150 e150 q150
      obtain ⟨t_150, kt_150, cd_150, nb_150, vs_150, rfl, M150, J150, y150_0, r150_0, r150_1, r150_2, r150_3, r150_4⟩ := q150
      have N150 := Fr.app N149 M150
      have sf154 : Safe Z consts_1 _ h149 b148 := (own_safeStr hZ.alike f151 f153)
      have R150 := (CHr.keep J150 (allS sf154 all0) R149.1)
      have C150 := C149.trans R150
      have K150 : Keep h0 h150 [] := K149.trans J150 (allS (Or.inr (Nat.le_trans (Keep.refl h0 []).1 (Nat.le_of_eq z148.symm))) all0)
      have O150 : own_Old Z h150 := O149.keep J150 (allS (own_ge O0 (Nat.le_of_eq z148.symm)) all0)
      show G (T150.setTop (mkF m 261 #[oi i0, oi i1, oi i2, oi i3, oi i4, oi i5, oi 0, oa d0, oi c3, oi 5, .unset, .unset, .unset, .unset] [(.ref b148)]))
      have f156 := (((g9_E.ext E148).keep J149).keep J150)
      have f157 := (((g10_V.ext E148).keep J149 nin0).keep J150 (ninS (own_ne g9_E.lt (Nat.le_of_eq z148.symm)) nin0))
      have f158 := (((g11_E.ext E148).keep J149).keep J150)
      have f159 := (((g12_F.ext E148).keep J149 nin0).keep J150 (ninS (own_ne g11_E.lt (Nat.le_of_eq z148.symm)) nin0))
      have f160 := (((g13_E.ext E148).keep J149).keep J150)
      have f161 := (((g14_F.ext E148).keep J149 nin0).keep J150 (ninS (own_ne g13_E.lt (Nat.le_of_eq z148.symm)) nin0))
      have f162 := (((g15_F.ext E148).keep J149 nin0).keep J150 (ninS (own_ne g13_E.lt (Nat.le_of_eq z148.symm)) nin0))
      have f163 := (((g16_V.ext E148).keep J149 nin0).keep J150 (ninS (own_ne g16_V.lt (Nat.le_of_eq z148.symm)) nin0))
      have f164 := (((g17_E.ext E148).keep J149).keep J150)
      have f165 := (((g18_F.ext E148).keep J149 nin0).keep J150 (ninS (own_ne g17_E.lt (Nat.le_of_eq z148.symm)) nin0))
      have f166 := (((g19_E.ext E148).keep J149).keep J150)
      have f167 := (((g20_F.ext E148).keep J149 nin0).keep J150 (ninS (own_ne g19_E.lt (Nat.le_of_eq z148.symm)) nin0))
      have f168 := (((g21_F.ext E148).keep J149 nin0).keep J150 (ninS (own_ne g19_E.lt (Nat.le_of_eq z148.symm)) nin0))
      have f169 := (((g22_V.ext E148).keep J149 nin0).keep J150 (ninS (own_ne g22_V.lt (Nat.le_of_eq z148.symm)) nin0))
      have f170 := (((g23_E.ext E148).keep J149).keep J150)
      have f171 := (((g24_F.ext E148).keep J149 nin0).keep J150 (ninS (own_ne g23_E.lt (Nat.le_of_eq z148.symm)) nin0))
      have f172 := (((g25_E.ext E148).keep J149).keep J150)
      have f173 := (((g26_F.ext E148).keep J149 nin0).keep J150 (ninS (own_ne g25_E.lt (Nat.le_of_eq z148.symm)) nin0))
      have f174 := (((g27_F.ext E148).keep J149 nin0).keep J150 (ninS (own_ne g25_E.lt (Nat.le_of_eq z148.symm)) nin0))
      have f175 := (((g28_V.ext E148).keep J149 nin0).keep J150 (ninS (own_ne g28_V.lt (Nat.le_of_eq z148.symm)) nin0))
      refine own_callS X150 hx hZ hG hown (ow hw 12 rfl) (ow hw 13 rfl) (ow hw 2 rfl) (ow hw 14 rfl) (by decide) 0 (own_findN l Z a0 hw b148 t_150 kt_150 [(99 : Int32), (111 : Int32), (110 : Int32), (110 : Int32), (101 : Int32), (99 : Int32)] cd_150 nb_150 vs_150 cpt d0 d1 d2 t0 t1 t2 v0 v1 v2 kv0 kv1 kv2 vals kl h150 O150 r150_0 r150_1 r150_2 r150_3 r150_4 (Nat.le_of_ble_eq_true rfl) (own_allc (by decide) (own_allc (by decide) (own_allc (by decide) (own_allc (by decide) (own_allc (by decide) (own_allc (by decide) own_alln)))))) g0_S g1_hcpt g8_S f156 f157 f158 f159 f160 f161 f162 f163 f164 f165 f166 f167 f168 f169 f170 f171 f172 f173 f174 f175 (own_ne g13_E.lt (Nat.le_of_eq z148.symm)) (own_ne g19_E.lt (Nat.le_of_eq z148.symm)) (own_ne g25_E.lt (Nat.le_of_eq z148.symm)) (own_ne_len (fun q => by simp at q)) (fun q => absurd (List.cons.inj q).1 (by decide)) (own_ne_len (fun q => by simp at q))) (by decide) (by decide) e150 (by rw [hml]; rfl) (lenOf own_pd13 rfl) (argsL := [(.ref b148)]) (rest := []) rfl rfl (Nat.le_of_eq rfl) (hb hby at_261) (by decide) (by decide) ?_
      intro T155 h155 v155 L155 X155 e155 q155
      obtain ⟨rfl, M155, J155⟩ := q155
      have N155 := Fr.app N150 M155
      have R155 := (CHr.keep J155 all0 R150.1)
      have C155 := C150.trans R155
      have K155 : Keep h0 h155 [] := K150.trans J155 all0
      have O155 : own_Old Z h155 := O150.keep J155 all0
      show G (T155.setTop (mkF m 264 #[oi i0, oi i1, oi i2, oi i3, oi i4, oi i5, oi 0, oa d0, oi c3, oi 5, .unset, .unset, .unset, .unset] [.null]))
      refine hG _ _ (fun t_ k_ => XS.ifnonnullNo X155.here hx rfl (hb hby at_264) rfl k_) ?_
      refine hG _ _ (fun t_ k_ => XS.iconst X155.here hx rfl (hb hby at_267) k_) ?_
      refine hG _ _ (fun t_ k_ => XS.goto X155.here hx rfl (pc0 := 268) (pc' := 272) rfl (hb hby at_268) (by decide) (by decide) k_) ?_
      show G (T155.setTop (mkF m 272 #[oi i0, oi i1, oi i2, oi i3, oi i4, oi i5, oi 0, oa d0, oi c3, oi 5, .unset, .unset, .unset, .unset] [(.int 1)]))
      exact own_retNW hR hret (by simp) X155 hx (hb hby at_272) e155 SI0 (Nat.le_trans (Nat.le_trans (Nat.le_trans (Nat.le_trans (Nat.le_refl _) R148.2.1) R149.2.1) R150.2.1) R155.2.1) hZ C155 (by decide) (by decide) ⟨rfl, N155, K155⟩
    · skip
      show G (T2.setTop (mkF m 52 #[oi i0, oi i1, oi i2, oi i3, oi i4, oi i5, oi 0, oa d0, oi c3, oi 6, .unset, .unset, .unset, .unset] []))
      refine hG _ _ (fun t_ k_ => XS.iload X2.here hx rfl (hb hby at_52) rfl k_) ?_
      show G (T2.setTop (mkF m 54 #[oi i0, oi i1, oi i2, oi i3, oi i4, oi i5, oi 0, oa d0, oi c3, oi 6, .unset, .unset, .unset, .unset] [(.int 6)]))
      refine hG _ _ (fun t_ k_ => XS.ifYes X2.here hx rfl (pc0 := 54) (pc' := 76) rfl (hb hby at_54) rfl ((if0 _ _).trans (feq (by decide)).2) (by decide) (by decide) k_) ?_
      show G (T2.setTop (mkF m 76 #[oi i0, oi i1, oi i2, oi i3, oi i4, oi i5, oi 0, oa d0, oi c3, oi 6, .unset, .unset, .unset, .unset] []))
      refine hG _ _ (fun t_ k_ => XS.iload X2.here hx rfl (hb hby at_76) rfl k_) ?_
      refine hG _ _ (fun t_ k_ => XS.iconst X2.here hx rfl (hb hby at_78) k_) ?_
      show G (T2.setTop (mkF m 79 #[oi i0, oi i1, oi i2, oi i3, oi i4, oi i5, oi 0, oa d0, oi c3, oi 6, .unset, .unset, .unset, .unset] [(.int 1), (.int 6)]))
      refine hG _ _ (fun t_ k_ => XS.icmpYes X2.here hx rfl (pc0 := 79) (pc' := 104) rfl (hb hby at_79) rfl (feq (by decide)).2 (by decide) (by decide) k_) ?_
      show G (T2.setTop (mkF m 104 #[oi i0, oi i1, oi i2, oi i3, oi i4, oi i5, oi 0, oa d0, oi c3, oi 6, .unset, .unset, .unset, .unset] []))
      refine hG _ _ (fun t_ k_ => XS.iload X2.here hx rfl (hb hby at_104) rfl k_) ?_
      refine hG _ _ (fun t_ k_ => XS.iconst X2.here hx rfl (hb hby at_106) k_) ?_
      show G (T2.setTop (mkF m 107 #[oi i0, oi i1, oi i2, oi i3, oi i4, oi i5, oi 0, oa d0, oi c3, oi 6, .unset, .unset, .unset, .unset] [(.int 2), (.int 6)]))
      refine hG _ _ (fun t_ k_ => XS.icmpYes X2.here hx rfl (pc0 := 107) (pc' := 179) rfl (hb hby at_107) rfl (feq (by decide)).2 (by decide) (by decide) k_) ?_
      show G (T2.setTop (mkF m 179 #[oi i0, oi i1, oi i2, oi i3, oi i4, oi i5, oi 0, oa d0, oi c3, oi 6, .unset, .unset, .unset, .unset] []))
      refine hG _ _ (fun t_ k_ => XS.iload X2.here hx rfl (hb hby at_179) rfl k_) ?_
      refine hG _ _ (fun t_ k_ => XS.iconst X2.here hx rfl (hb hby at_181) k_) ?_
      show G (T2.setTop (mkF m 182 #[oi i0, oi i1, oi i2, oi i3, oi i4, oi i5, oi 0, oa d0, oi c3, oi 6, .unset, .unset, .unset, .unset] [(.int 3), (.int 6)]))
      refine hG _ _ (fun t_ k_ => XS.icmpYes X2.here hx rfl (pc0 := 182) (pc' := 211) rfl (hb hby at_182) rfl (feq (by decide)).2 (by decide) (by decide) k_) ?_
      show G (T2.setTop (mkF m 211 #[oi i0, oi i1, oi i2, oi i3, oi i4, oi i5, oi 0, oa d0, oi c3, oi 6, .unset, .unset, .unset, .unset] []))
      refine hG _ _ (fun t_ k_ => XS.iload X2.here hx rfl (hb hby at_211) rfl k_) ?_
      refine hG _ _ (fun t_ k_ => XS.iconst X2.here hx rfl (hb hby at_213) k_) ?_
      show G (T2.setTop (mkF m 214 #[oi i0, oi i1, oi i2, oi i3, oi i4, oi i5, oi 0, oa d0, oi c3, oi 6, .unset, .unset, .unset, .unset] [(.int 4), (.int 6)]))
      refine hG _ _ (fun t_ k_ => XS.icmpYes X2.here hx rfl (pc0 := 214) (pc' := 243) rfl (hb hby at_214) rfl (feq (by decide)).2 (by decide) (by decide) k_) ?_
      show G (T2.setTop (mkF m 243 #[oi i0, oi i1, oi i2, oi i3, oi i4, oi i5, oi 0, oa d0, oi c3, oi 6, .unset, .unset, .unset, .unset] []))
      refine hG _ _ (fun t_ k_ => XS.iload X2.here hx rfl (hb hby at_243) rfl k_) ?_
      refine hG _ _ (fun t_ k_ => XS.iconst X2.here hx rfl (hb hby at_245) k_) ?_
      show G (T2.setTop (mkF m 246 #[oi i0, oi i1, oi i2, oi i3, oi i4, oi i5, oi 0, oa d0, oi c3, oi 6, .unset, .unset, .unset, .unset] [(.int 5), (.int 6)]))
      refine hG _ _ (fun t_ k_ => XS.icmpYes X2.here hx rfl (pc0 := 246) (pc' := 273) rfl (hb hby at_246) rfl (feq (by decide)).2 (by decide) (by decide) k_) ?_
      show G (T2.setTop (mkF m 273 #[oi i0, oi i1, oi i2, oi i3, oi i4, oi i5, oi 0, oa d0, oi c3, oi 6, .unset, .unset, .unset, .unset] []))
      obtain ⟨T176, h176, X176, e176, E176, A176, D176, -, st176⟩ := newO X2 hx hZ hown (ow hw 39 rfl) (ow hw 40 rfl) (ow hw 36 rfl) e2 (g := (mkF m 273 #[oi i0, oi i1, oi i2, oi i3, oi i4, oi i5, oi 0, oa d0, oi c3, oi 6, .unset, .unset, .unset, .unset] [])) rfl (hb hby at_273) (by decide) (by decide)
      obtain ⟨b176, z176⟩ : ∃ z, z = h0.size := ⟨_, rfl⟩
      rw [← z176] at A176 D176 st176
      refine hG _ _ st176 ?_
      have R176 := (CHr.ext E176 H0)
      have C176 := (CHr.refl H0).trans R176
      have K176 : Keep h0 h176 [] := (Keep.refl h0 []).ext E176
      have O176 : own_Old Z h176 := O0.ext E176
      refine hG _ _ (fun t_ k_ => XS.dup X176.here hx rfl (hb hby at_276) rfl rfl k_) ?_
      refine hG _ _ (fun t_ k_ => XS.iload X176.here hx rfl (hb hby at_277) rfl k_) ?_
      refine hG _ _ (fun t_ k_ => XS.iconst X176.here hx rfl (hb hby at_279) k_) ?_
      refine hG _ _ (fun t_ k_ => XS.iand X176.here hx rfl (hb hby at_280) rfl k_) ?_
      show G (T176.setTop (mkF m 281 #[oi i0, oi i1, oi i2, oi i3, oi i4, oi i5, oi 0, oa d0, oi c3, oi 6, .unset, .unset, .unset, .unset] [(.int (i4 &&& (3 : Int32))), (.ref b176), (.ref b176)]))
      generalize hn_q177 : (i4 &&& (3 : Int32)) = q177
      rcases own_m3 hn_q177 with rfl | rfl | rfl | rfl
      · skip
        show G (T176.setTop (mkF m 281 #[oi i0, oi i1, oi i2, oi i3, oi i4, oi i5, oi 0, oa d0, oi c3, oi 6, .unset, .unset, .unset, .unset] [(.int 0), (.ref b176), (.ref b176)]))
        refine hG _ _ (fun t_ k_ => XS.iload X176.here hx rfl (hb hby at_281) rfl k_) ?_
        refine hG _ _ (fun t_ k_ => XS.iload X176.here hx rfl (hb hby at_283) rfl k_) ?_
        refine hG _ _ (fun t_ k_ => XS.i2c X176.here hx rfl (hb hby at_285) rfl k_) ?_
        show G (T176.setTop (mkF m 286 #[oi i0, oi i1, oi i2, oi i3, oi i4, oi i5, oi 0, oa d0, oi c3, oi 6, .unset, .unset, .unset, .unset] [(.int (i5.toUInt32.toUInt16.toUInt32.toInt32)), (.int c3), (.int 0), (.ref b176), (.ref b176)]))
        generalize hn_c178 : (i5.toUInt32.toUInt16.toUInt32.toInt32) = c178
        have hr_c178 := own_i2c16 hn_c178
        show G (T176.setTop (mkF m 286 #[oi i0, oi i1, oi i2, oi i3, oi i4, oi i5, oi 0, oa d0, oi c3, oi 6, .unset, .unset, .unset, .unset] [(.int c178), (.int c3), (.int 0), (.ref b176), (.ref b176)]))
        refine hG _ _ (fun t_ k_ => XS.iload X176.here hx rfl (hb hby at_286) rfl k_) ?_
        refine hG _ _ (fun t_ k_ => XS.bipush X176.here hx rfl (hb hby at_288) k_) ?_
        refine hG _ _ (fun t_ k_ => XS.iushr X176.here hx rfl (hb hby at_290) rfl k_) ?_
        refine hG _ _ (fun t_ k_ => XS.i2c X176.here hx rfl (hb hby at_291) rfl k_) ?_
        show G (T176.setTop (mkF m 292 #[oi i0, oi i1, oi i2, oi i3, oi i4, oi i5, oi 0, oa d0, oi c3, oi 6, .unset, .unset, .unset, .unset] [(.int (((i5.toUInt32 >>> ((16 : Int32) &&& 31).toUInt32).toInt32).toUInt32.toUInt16.toUInt32.toInt32)), (.int c178), (.int c3), (.int 0), (.ref b176), (.ref b176)]))
        generalize hn_c179 : (((i5.toUInt32 >>> ((16 : Int32) &&& 31).toUInt32).toInt32).toUInt32.toUInt16.toUInt32.toInt32) = c179
        have hr_c179 := own_i2c16 hn_c179
        show G (T176.setTop (mkF m 292 #[oi i0, oi i1, oi i2, oi i3, oi i4, oi i5, oi 0, oa d0, oi c3, oi 6, .unset, .unset, .unset, .unset] [(.int c179), (.int c178), (.int c3), (.int 0), (.ref b176), (.ref b176)]))
        refine own_callS X176 hx hZ hG hown (ow hw 87 rfl) (ow hw 88 rfl) (ow hw 43 rfl) (ow hw 89 rfl) (by decide) 2 (own_mk_shortChars_0 l Z a0 hw c3 c178 c179 h176 O176 hr_c3 hr_c178 hr_c179) (by decide) (by decide) e176 (by rw [hml]; rfl) (lenOf own_pd16 rfl) (argsL := [(.int 0), (.int c3), (.int c178), (.int c179)]) (rest := [(.ref b176), (.ref b176)]) rfl rfl (Nat.le_of_eq rfl) (hb hby at_292) (by decide) (by decide) ?_
        intro T180 h180 v180 L180 X180 e180 q180
        obtain ⟨u_180, ku_180, rfl, M180, J180, y180_0, r180_0⟩ := q180
        have N180 := Fr.app N0 M180
        have R180 := (CHr.keep J180 all0 R176.1)
        have C180 := C176.trans R180
        have K180 : Keep h0 h180 [] := K176.trans J180 all0
        have O180 : own_Old Z h180 := O176.keep J180 all0
        show G (T180.setTop (mkF m 295 #[oi i0, oi i1, oi i2, oi i3, oi i4, oi i5, oi 0, oa d0, oi c3, oi 6, .unset, .unset, .unset, .unset] [(.ref u_180), (.ref b176), (.ref b176)]))
        have f182 := (A176.keep J180)
        have f183 := ((D176 (Or.inr (ow hw 69 rfl)) (ty := .byte) (by decide)).keep J180 nin0)
        have f184 := ((D176 (Or.inr (ow hw 71 rfl)) (ty := (.array .byte)) (by decide)).keep J180 nin0)
        refine own_callIW X180 hx hZ hG hown rfl (ow hw 46 rfl) (ow hw 47 rfl) (ow hw 36 rfl) (ow hw 48 rfl) (by decide) 1 (own_str1E l Z a0 hw hEL b176 u_180 (.int 0) ku_180 h180 O180 f182 f183 f184 (own_ge O0 (Nat.le_of_eq z176.symm)) r180_0) (by decide) (by decide) e180 SI0 (Nat.le_trans (Nat.le_trans (Nat.le_refl _) R176.2.1) R180.2.1) hEL R180.1 (by rw [hml]; rfl) (lenOf own_pd8 rfl) (argsL := [(.ref u_180)]) (rest := [(.ref b176)]) rfl rfl (Nat.le_of_eq rfl) (hb hby at_295) (by decide) (by decide) ?_
        intro T181 h181 v181 L181 X181 e181 SI181 hZ181 hown181 Y181 q181
        obtain ⟨t_181, kt_181, rfl, M181, J181, r181_0, r181_1, r181_2, r181_3⟩ := q181
        have N181 := Fr.app N180 M181
        have R181 := Y181
        have C181 := C180.trans R181
        have K181 : Keep h0 h181 [] := K180.trans J181 (allS (Or.inr (Nat.le_trans (Keep.refl h0 []).1 (Nat.le_of_eq z176.symm))) all0)
        have O181 : own_Old Z h181 := O180.keep J181 (allS (own_ge O0 (Nat.le_of_eq z176.symm)) all0)
        show G (T181.setTop (mkF m 298 #[oi i0, oi i1, oi i2, oi i3, oi i4, oi i5, oi 0, oa d0, oi c3, oi 6, .unset, .unset, .unset, .unset] [(.ref b176)]))
        have f186 := (((g9_E.ext E176).keep J180).keep J181)
        have f187 := (((g10_V.ext E176).keep J180 nin0).keep J181 (ninS (own_ne g9_E.lt (Nat.le_of_eq z176.symm)) nin0))
        have f188 := (((g11_E.ext E176).keep J180).keep J181)
        have f189 := (((g12_F.ext E176).keep J180 nin0).keep J181 (ninS (own_ne g11_E.lt (Nat.le_of_eq z176.symm)) nin0))
        have f190 := (((g13_E.ext E176).keep J180).keep J181)
        have f191 := (((g14_F.ext E176).keep J180 nin0).keep J181 (ninS (own_ne g13_E.lt (Nat.le_of_eq z176.symm)) nin0))
        have f192 := (((g15_F.ext E176).keep J180 nin0).keep J181 (ninS (own_ne g13_E.lt (Nat.le_of_eq z176.symm)) nin0))
        have f193 := (((g16_V.ext E176).keep J180 nin0).keep J181 (ninS (own_ne g16_V.lt (Nat.le_of_eq z176.symm)) nin0))
        have f194 := (((g17_E.ext E176).keep J180).keep J181)
        have f195 := (((g18_F.ext E176).keep J180 nin0).keep J181 (ninS (own_ne g17_E.lt (Nat.le_of_eq z176.symm)) nin0))
        have f196 := (((g19_E.ext E176).keep J180).keep J181)
        have f197 := (((g20_F.ext E176).keep J180 nin0).keep J181 (ninS (own_ne g19_E.lt (Nat.le_of_eq z176.symm)) nin0))
        have f198 := (((g21_F.ext E176).keep J180 nin0).keep J181 (ninS (own_ne g19_E.lt (Nat.le_of_eq z176.symm)) nin0))
        have f199 := (((g22_V.ext E176).keep J180 nin0).keep J181 (ninS (own_ne g22_V.lt (Nat.le_of_eq z176.symm)) nin0))
        have f200 := (((g23_E.ext E176).keep J180).keep J181)
        have f201 := (((g24_F.ext E176).keep J180 nin0).keep J181 (ninS (own_ne g23_E.lt (Nat.le_of_eq z176.symm)) nin0))
        have f202 := (((g25_E.ext E176).keep J180).keep J181)
        have f203 := (((g26_F.ext E176).keep J180 nin0).keep J181 (ninS (own_ne g25_E.lt (Nat.le_of_eq z176.symm)) nin0))
        have f204 := (((g27_F.ext E176).keep J180 nin0).keep J181 (ninS (own_ne g25_E.lt (Nat.le_of_eq z176.symm)) nin0))
        have f205 := (((g28_V.ext E176).keep J180 nin0).keep J181 (ninS (own_ne g28_V.lt (Nat.le_of_eq z176.symm)) nin0))
        refine own_callS X181 hx hZ181 hG hown181 (ow hw 12 rfl) (ow hw 13 rfl) (ow hw 2 rfl) (ow hw 14 rfl) (by decide) 0 (own_findN l Z a0 hw b176 t_181 kt_181 ([] : List Int32) (0 : Int32) (0 : Int32) [] cpt d0 d1 d2 t0 t1 t2 v0 v1 v2 kv0 kv1 kv2 vals kl h181 O181 r181_0 r181_1 r181_2 r181_3 own_enc_nil (Nat.zero_le _) own_alln g0_S g1_hcpt g8_S f186 f187 f188 f189 f190 f191 f192 f193 f194 f195 f196 f197 f198 f199 f200 f201 f202 f203 f204 f205 (own_ne g13_E.lt (Nat.le_of_eq z176.symm)) (own_ne g19_E.lt (Nat.le_of_eq z176.symm)) (own_ne g25_E.lt (Nat.le_of_eq z176.symm)) (own_ne_len (fun q => by simp at q)) (own_ne_len (fun q => by simp at q)) (own_ne_len (fun q => by simp at q))) (by decide) (by decide) e181 (by rw [hml]; rfl) (lenOf own_pd13 rfl) (argsL := [(.ref b176)]) (rest := []) rfl rfl (Nat.le_of_eq rfl) (hb hby at_298) (by decide) (by decide) ?_
        intro T185 h185 v185 L185 X185 e185 q185
        obtain ⟨rfl, M185, J185⟩ := q185
        have N185 := Fr.app N181 M185
        have R185 := (CHr.keep J185 all0 R181.1)
        have C185 := C181.trans R185
        have K185 : Keep h0 h185 [] := K181.trans J185 all0
        have O185 : own_Old Z h185 := O181.keep J185 all0
        show G (T185.setTop (mkF m 301 #[oi i0, oi i1, oi i2, oi i3, oi i4, oi i5, oi 0, oa d0, oi c3, oi 6, .unset, .unset, .unset, .unset] [.null]))
        refine hG _ _ (fun t_ k_ => XS.ifnonnullNo X185.here hx rfl (hb hby at_301) rfl k_) ?_
        refine hG _ _ (fun t_ k_ => XS.iconst X185.here hx rfl (hb hby at_304) k_) ?_
        refine hG _ _ (fun t_ k_ => XS.goto X185.here hx rfl (pc0 := 305) (pc' := 309) rfl (hb hby at_305) (by decide) (by decide) k_) ?_
        show G (T185.setTop (mkF m 309 #[oi i0, oi i1, oi i2, oi i3, oi i4, oi i5, oi 0, oa d0, oi c3, oi 6, .unset, .unset, .unset, .unset] [(.int 1)]))
        exact own_retNW hR hret (by simp) X185 hx (hb hby at_309) e185 SI181 (Nat.le_trans (Nat.le_refl _) R185.2.1) hZ181 C185 (by decide) (by decide) ⟨rfl, N185, K185⟩
      · skip
        show G (T176.setTop (mkF m 281 #[oi i0, oi i1, oi i2, oi i3, oi i4, oi i5, oi 0, oa d0, oi c3, oi 6, .unset, .unset, .unset, .unset] [(.int 1), (.ref b176), (.ref b176)]))
        refine hG _ _ (fun t_ k_ => XS.iload X176.here hx rfl (hb hby at_281) rfl k_) ?_
        refine hG _ _ (fun t_ k_ => XS.iload X176.here hx rfl (hb hby at_283) rfl k_) ?_
        refine hG _ _ (fun t_ k_ => XS.i2c X176.here hx rfl (hb hby at_285) rfl k_) ?_
        show G (T176.setTop (mkF m 286 #[oi i0, oi i1, oi i2, oi i3, oi i4, oi i5, oi 0, oa d0, oi c3, oi 6, .unset, .unset, .unset, .unset] [(.int (i5.toUInt32.toUInt16.toUInt32.toInt32)), (.int c3), (.int 1), (.ref b176), (.ref b176)]))
        generalize hn_c206 : (i5.toUInt32.toUInt16.toUInt32.toInt32) = c206
        have hr_c206 := own_i2c16 hn_c206
        show G (T176.setTop (mkF m 286 #[oi i0, oi i1, oi i2, oi i3, oi i4, oi i5, oi 0, oa d0, oi c3, oi 6, .unset, .unset, .unset, .unset] [(.int c206), (.int c3), (.int 1), (.ref b176), (.ref b176)]))
        refine hG _ _ (fun t_ k_ => XS.iload X176.here hx rfl (hb hby at_286) rfl k_) ?_
        refine hG _ _ (fun t_ k_ => XS.bipush X176.here hx rfl (hb hby at_288) k_) ?_
        refine hG _ _ (fun t_ k_ => XS.iushr X176.here hx rfl (hb hby at_290) rfl k_) ?_
        refine hG _ _ (fun t_ k_ => XS.i2c X176.here hx rfl (hb hby at_291) rfl k_) ?_
        show G (T176.setTop (mkF m 292 #[oi i0, oi i1, oi i2, oi i3, oi i4, oi i5, oi 0, oa d0, oi c3, oi 6, .unset, .unset, .unset, .unset] [(.int (((i5.toUInt32 >>> ((16 : Int32) &&& 31).toUInt32).toInt32).toUInt32.toUInt16.toUInt32.toInt32)), (.int c206), (.int c3), (.int 1), (.ref b176), (.ref b176)]))
        generalize hn_c207 : (((i5.toUInt32 >>> ((16 : Int32) &&& 31).toUInt32).toInt32).toUInt32.toUInt16.toUInt32.toInt32) = c207
        have hr_c207 := own_i2c16 hn_c207
        show G (T176.setTop (mkF m 292 #[oi i0, oi i1, oi i2, oi i3, oi i4, oi i5, oi 0, oa d0, oi c3, oi 6, .unset, .unset, .unset, .unset] [(.int c207), (.int c206), (.int c3), (.int 1), (.ref b176), (.ref b176)]))
        refine own_callS X176 hx hZ hG hown (ow hw 87 rfl) (ow hw 88 rfl) (ow hw 43 rfl) (ow hw 89 rfl) (by decide) 2 (own_mk_shortChars_1 l Z a0 hw c3 c206 c207 h176 O176 hr_c3 hr_c206 hr_c207) (by decide) (by decide) e176 (by rw [hml]; rfl) (lenOf own_pd16 rfl) (argsL := [(.int 1), (.int c3), (.int c206), (.int c207)]) (rest := [(.ref b176), (.ref b176)]) rfl rfl (Nat.le_of_eq rfl) (hb hby at_292) (by decide) (by decide) ?_
        intro T208 h208 v208 L208 X208 e208 q208
        obtain ⟨u_208, ku_208, rfl, M208, J208, y208_0, r208_0⟩ := q208
        have N208 := Fr.app N0 M208
        have R208 := (CHr.keep J208 all0 R176.1)
        have C208 := C176.trans R208
        have K208 : Keep h0 h208 [] := K176.trans J208 all0
        have O208 : own_Old Z h208 := O176.keep J208 all0
        show G (T208.setTop (mkF m 295 #[oi i0, oi i1, oi i2, oi i3, oi i4, oi i5, oi 0, oa d0, oi c3, oi 6, .unset, .unset, .unset, .unset] [(.ref u_208), (.ref b176), (.ref b176)]))
        have f210 := (A176.keep J208)
        have f211 := ((D176 (Or.inr (ow hw 69 rfl)) (ty := .byte) (by decide)).keep J208 nin0)
        have f212 := ((D176 (Or.inr (ow hw 71 rfl)) (ty := (.array .byte)) (by decide)).keep J208 nin0)
        refine own_callI X208 hx hZ hG hown rfl (ow hw 46 rfl) (ow hw 47 rfl) (ow hw 36 rfl) (ow hw 48 rfl) (by decide) 1 (own_gstr1 l Z a0 hw b176 u_208 ku_208 [c3] cpt (.int 0) .null h208 O208 f210 f211 f212 (own_ge O0 (Nat.le_of_eq z176.symm)) r208_0 (Nat.le_of_ble_eq_true rfl) (Nat.le_of_ble_eq_true rfl) (own_allc hr_c3 own_alln) g0_S g1_hcpt g2_S g3_S g4_S) (by decide) (by decide) e208 (by rw [hml]; rfl) (lenOf own_pd8 rfl) (argsL := [(.ref u_208)]) (rest := [(.ref b176)]) rfl rfl (Nat.le_of_eq rfl) (hb hby at_295) (by decide) (by decide) ?_
        intro T209 h209 v209 L209 X209 e209 q209
        obtain ⟨t_209, kt_209, cd_209, nb_209, vs_209, rfl, M209, J209, y209_0, r209_0, r209_1, r209_2, r209_3, r209_4⟩ := q209
        have N209 := Fr.app N208 M209
        have sf213 : Safe Z consts_1 _ h208 b176 := (own_safeStr hZ.alike f210 f212)
        have R209 := (CHr.keep J209 (allS sf213 all0) R208.1)
        have C209 := C208.trans R209
        have K209 : Keep h0 h209 [] := K208.trans J209 (allS (Or.inr (Nat.le_trans (Keep.refl h0 []).1 (Nat.le_of_eq z176.symm))) all0)
        have O209 : own_Old Z h209 := O208.keep J209 (allS (own_ge O0 (Nat.le_of_eq z176.symm)) all0)
        show G (T209.setTop (mkF m 298 #[oi i0, oi i1, oi i2, oi i3, oi i4, oi i5, oi 0, oa d0, oi c3, oi 6, .unset, .unset, .unset, .unset] [(.ref b176)]))
        have f215 := (((g9_E.ext E176).keep J208).keep J209)
        have f216 := (((g10_V.ext E176).keep J208 nin0).keep J209 (ninS (own_ne g9_E.lt (Nat.le_of_eq z176.symm)) nin0))
        have f217 := (((g11_E.ext E176).keep J208).keep J209)
        have f218 := (((g12_F.ext E176).keep J208 nin0).keep J209 (ninS (own_ne g11_E.lt (Nat.le_of_eq z176.symm)) nin0))
        have f219 := (((g13_E.ext E176).keep J208).keep J209)
        have f220 := (((g14_F.ext E176).keep J208 nin0).keep J209 (ninS (own_ne g13_E.lt (Nat.le_of_eq z176.symm)) nin0))
        have f221 := (((g15_F.ext E176).keep J208 nin0).keep J209 (ninS (own_ne g13_E.lt (Nat.le_of_eq z176.symm)) nin0))
        have f222 := (((g16_V.ext E176).keep J208 nin0).keep J209 (ninS (own_ne g16_V.lt (Nat.le_of_eq z176.symm)) nin0))
        have f223 := (((g17_E.ext E176).keep J208).keep J209)
        have f224 := (((g18_F.ext E176).keep J208 nin0).keep J209 (ninS (own_ne g17_E.lt (Nat.le_of_eq z176.symm)) nin0))
        have f225 := (((g19_E.ext E176).keep J208).keep J209)
        have f226 := (((g20_F.ext E176).keep J208 nin0).keep J209 (ninS (own_ne g19_E.lt (Nat.le_of_eq z176.symm)) nin0))
        have f227 := (((g21_F.ext E176).keep J208 nin0).keep J209 (ninS (own_ne g19_E.lt (Nat.le_of_eq z176.symm)) nin0))
        have f228 := (((g22_V.ext E176).keep J208 nin0).keep J209 (ninS (own_ne g22_V.lt (Nat.le_of_eq z176.symm)) nin0))
        have f229 := (((g23_E.ext E176).keep J208).keep J209)
        have f230 := (((g24_F.ext E176).keep J208 nin0).keep J209 (ninS (own_ne g23_E.lt (Nat.le_of_eq z176.symm)) nin0))
        have f231 := (((g25_E.ext E176).keep J208).keep J209)
        have f232 := (((g26_F.ext E176).keep J208 nin0).keep J209 (ninS (own_ne g25_E.lt (Nat.le_of_eq z176.symm)) nin0))
        have f233 := (((g27_F.ext E176).keep J208 nin0).keep J209 (ninS (own_ne g25_E.lt (Nat.le_of_eq z176.symm)) nin0))
        have f234 := (((g28_V.ext E176).keep J208 nin0).keep J209 (ninS (own_ne g28_V.lt (Nat.le_of_eq z176.symm)) nin0))
        refine own_callS X209 hx hZ hG hown (ow hw 12 rfl) (ow hw 13 rfl) (ow hw 2 rfl) (ow hw 14 rfl) (by decide) 0 (own_findN l Z a0 hw b176 t_209 kt_209 [c3] cd_209 nb_209 vs_209 cpt d0 d1 d2 t0 t1 t2 v0 v1 v2 kv0 kv1 kv2 vals kl h209 O209 r209_0 r209_1 r209_2 r209_3 r209_4 (Nat.le_of_ble_eq_true rfl) (own_allc hr_c3 own_alln) g0_S g1_hcpt g8_S f215 f216 f217 f218 f219 f220 f221 f222 f223 f224 f225 f226 f227 f228 f229 f230 f231 f232 f233 f234 (own_ne g13_E.lt (Nat.le_of_eq z176.symm)) (own_ne g19_E.lt (Nat.le_of_eq z176.symm)) (own_ne g25_E.lt (Nat.le_of_eq z176.symm)) (own_ne_len (fun q => by simp at q)) (own_ne_len (fun q => by simp at q)) (own_ne_len (fun q => by simp at q))) (by decide) (by decide) e209 (by rw [hml]; rfl) (lenOf own_pd13 rfl) (argsL := [(.ref b176)]) (rest := []) rfl rfl (Nat.le_of_eq rfl) (hb hby at_298) (by decide) (by decide) ?_
        intro T214 h214 v214 L214 X214 e214 q214
        obtain ⟨rfl, M214, J214⟩ := q214
        have N214 := Fr.app N209 M214
        have R214 := (CHr.keep J214 all0 R209.1)
        have C214 := C209.trans R214
        have K214 : Keep h0 h214 [] := K209.trans J214 all0
        have O214 : own_Old Z h214 := O209.keep J214 all0
        show G (T214.setTop (mkF m 301 #[oi i0, oi i1, oi i2, oi i3, oi i4, oi i5, oi 0, oa d0, oi c3, oi 6, .unset, .unset, .unset, .unset] [.null]))
        refine hG _ _ (fun t_ k_ => XS.ifnonnullNo X214.here hx rfl (hb hby at_301) rfl k_) ?_
        refine hG _ _ (fun t_ k_ => XS.iconst X214.here hx rfl (hb hby at_304) k_) ?_
        refine hG _ _ (fun t_ k_ => XS.goto X214.here hx rfl (pc0 := 305) (pc' := 309) rfl (hb hby at_305) (by decide) (by decide) k_) ?_
        show G (T214.setTop (mkF m 309 #[oi i0, oi i1, oi i2, oi i3, oi i4, oi i5, oi 0, oa d0, oi c3, oi 6, .unset, .unset, .unset, .unset] [(.int 1)]))
        exact own_retNW hR hret (by simp) X214 hx (hb hby at_309) e214 SI0 (Nat.le_trans (Nat.le_trans (Nat.le_trans (Nat.le_trans (Nat.le_refl _) R176.2.1) R208.2.1) R209.2.1) R214.2.1) hZ C214 (by decide) (by decide) ⟨rfl, N214, K214⟩
      · skip
        show G (T176.setTop (mkF m 281 #[oi i0, oi i1, oi i2, oi i3, oi i4, oi i5, oi 0, oa d0, oi c3, oi 6, .unset, .unset, .unset, .unset] [(.int 2), (.ref b176), (.ref b176)]))
        refine hG _ _ (fun t_ k_ => XS.iload X176.here hx rfl (hb hby at_281) rfl k_) ?_
        refine hG _ _ (fun t_ k_ => XS.iload X176.here hx rfl (hb hby at_283) rfl k_) ?_
        refine hG _ _ (fun t_ k_ => XS.i2c X176.here hx rfl (hb hby at_285) rfl k_) ?_
        show G (T176.setTop (mkF m 286 #[oi i0, oi i1, oi i2, oi i3, oi i4, oi i5, oi 0, oa d0, oi c3, oi 6, .unset, .unset, .unset, .unset] [(.int (i5.toUInt32.toUInt16.toUInt32.toInt32)), (.int c3), (.int 2), (.ref b176), (.ref b176)]))
        generalize hn_c235 : (i5.toUInt32.toUInt16.toUInt32.toInt32) = c235
        have hr_c235 := own_i2c16 hn_c235
        show G (T176.setTop (mkF m 286 #[oi i0, oi i1, oi i2, oi i3, oi i4, oi i5, oi 0, oa d0, oi c3, oi 6, .unset, .unset, .unset, .unset] [(.int c235), (.int c3), (.int 2), (.ref b176), (.ref b176)]))
        refine hG _ _ (fun t_ k_ => XS.iload X176.here hx rfl (hb hby at_286) rfl k_) ?_
        refine hG _ _ (fun t_ k_ => XS.bipush X176.here hx rfl (hb hby at_288) k_) ?_
        refine hG _ _ (fun t_ k_ => XS.iushr X176.here hx rfl (hb hby at_290) rfl k_) ?_
        refine hG _ _ (fun t_ k_ => XS.i2c X176.here hx rfl (hb hby at_291) rfl k_) ?_
        show G (T176.setTop (mkF m 292 #[oi i0, oi i1, oi i2, oi i3, oi i4, oi i5, oi 0, oa d0, oi c3, oi 6, .unset, .unset, .unset, .unset] [(.int (((i5.toUInt32 >>> ((16 : Int32) &&& 31).toUInt32).toInt32).toUInt32.toUInt16.toUInt32.toInt32)), (.int c235), (.int c3), (.int 2), (.ref b176), (.ref b176)]))
        generalize hn_c236 : (((i5.toUInt32 >>> ((16 : Int32) &&& 31).toUInt32).toInt32).toUInt32.toUInt16.toUInt32.toInt32) = c236
        have hr_c236 := own_i2c16 hn_c236
        show G (T176.setTop (mkF m 292 #[oi i0, oi i1, oi i2, oi i3, oi i4, oi i5, oi 0, oa d0, oi c3, oi 6, .unset, .unset, .unset, .unset] [(.int c236), (.int c235), (.int c3), (.int 2), (.ref b176), (.ref b176)]))
        refine own_callS X176 hx hZ hG hown (ow hw 87 rfl) (ow hw 88 rfl) (ow hw 43 rfl) (ow hw 89 rfl) (by decide) 2 (own_mk_shortChars_2 l Z a0 hw c3 c235 c236 h176 O176 hr_c3 hr_c235 hr_c236) (by decide) (by decide) e176 (by rw [hml]; rfl) (lenOf own_pd16 rfl) (argsL := [(.int 2), (.int c3), (.int c235), (.int c236)]) (rest := [(.ref b176), (.ref b176)]) rfl rfl (Nat.le_of_eq rfl) (hb hby at_292) (by decide) (by decide) ?_
        intro T237 h237 v237 L237 X237 e237 q237
        obtain ⟨u_237, ku_237, rfl, M237, J237, y237_0, r237_0⟩ := q237
        have N237 := Fr.app N0 M237
        have R237 := (CHr.keep J237 all0 R176.1)
        have C237 := C176.trans R237
        have K237 : Keep h0 h237 [] := K176.trans J237 all0
        have O237 : own_Old Z h237 := O176.keep J237 all0
        show G (T237.setTop (mkF m 295 #[oi i0, oi i1, oi i2, oi i3, oi i4, oi i5, oi 0, oa d0, oi c3, oi 6, .unset, .unset, .unset, .unset] [(.ref u_237), (.ref b176), (.ref b176)]))
        have f239 := (A176.keep J237)
        have f240 := ((D176 (Or.inr (ow hw 69 rfl)) (ty := .byte) (by decide)).keep J237 nin0)
        have f241 := ((D176 (Or.inr (ow hw 71 rfl)) (ty := (.array .byte)) (by decide)).keep J237 nin0)
        refine own_callI X237 hx hZ hG hown rfl (ow hw 46 rfl) (ow hw 47 rfl) (ow hw 36 rfl) (ow hw 48 rfl) (by decide) 1 (own_gstr1 l Z a0 hw b176 u_237 ku_237 [c3, c235] cpt (.int 0) .null h237 O237 f239 f240 f241 (own_ge O0 (Nat.le_of_eq z176.symm)) r237_0 (Nat.le_of_ble_eq_true rfl) (Nat.le_of_ble_eq_true rfl) (own_allc hr_c3 (own_allc hr_c235 own_alln)) g0_S g1_hcpt g2_S g3_S g4_S) (by decide) (by decide) e237 (by rw [hml]; rfl) (lenOf own_pd8 rfl) (argsL := [(.ref u_237)]) (rest := [(.ref b176)]) rfl rfl (Nat.le_of_eq rfl) (hb hby at_295) (by decide) (by decide) ?_
        intro T238 h238 v238 L238 X238 e238 q238
        obtain ⟨t_238, kt_238, cd_238, nb_238, vs_238, rfl, M238, J238, y238_0, r238_0, r238_1, r238_2, r238_3, r238_4⟩ := q238
        have N238 := Fr.app N237 M238
        have sf242 : Safe Z consts_1 _ h237 b176 := (own_safeStr hZ.alike f239 f241)
        have R238 := (CHr.keep J238 (allS sf242 all0) R237.1)
        have C238 := C237.trans R238
        have K238 : Keep h0 h238 [] := K237.trans J238 (allS (Or.inr (Nat.le_trans (Keep.refl h0 []).1 (Nat.le_of_eq z176.symm))) all0)
        have O238 : own_Old Z h238 := O237.keep J238 (allS (own_ge O0 (Nat.le_of_eq z176.symm)) all0)
        show G (T238.setTop (mkF m 298 #[oi i0, oi i1, oi i2, oi i3, oi i4, oi i5, oi 0, oa d0, oi c3, oi 6, .unset, .unset, .unset, .unset] [(.ref b176)]))
        have f244 := (((g9_E.ext E176).keep J237).keep J238)
        have f245 := (((g10_V.ext E176).keep J237 nin0).keep J238 (ninS (own_ne g9_E.lt (Nat.le_of_eq z176.symm)) nin0))
        have f246 := (((g11_E.ext E176).keep J237).keep J238)
        have f247 := (((g12_F.ext E176).keep J237 nin0).keep J238 (ninS (own_ne g11_E.lt (Nat.le_of_eq z176.symm)) nin0))
        have f248 := (((g13_E.ext E176).keep J237).keep J238)
        have f249 := (((g14_F.ext E176).keep J237 nin0).keep J238 (ninS (own_ne g13_E.lt (Nat.le_of_eq z176.symm)) nin0))
        have f250 := (((g15_F.ext E176).keep J237 nin0).keep J238 (ninS (own_ne g13_E.lt (Nat.le_of_eq z176.symm)) nin0))
        have f251 := (((g16_V.ext E176).keep J237 nin0).keep J238 (ninS (own_ne g16_V.lt (Nat.le_of_eq z176.symm)) nin0))
        have f252 := (((g17_E.ext E176).keep J237).keep J238)
        have f253 := (((g18_F.ext E176).keep J237 nin0).keep J238 (ninS (own_ne g17_E.lt (Nat.le_of_eq z176.symm)) nin0))
        have f254 := (((g19_E.ext E176).keep J237).keep J238)
        have f255 := (((g20_F.ext E176).keep J237 nin0).keep J238 (ninS (own_ne g19_E.lt (Nat.le_of_eq z176.symm)) nin0))
        have f256 := (((g21_F.ext E176).keep J237 nin0).keep J238 (ninS (own_ne g19_E.lt (Nat.le_of_eq z176.symm)) nin0))
        have f257 := (((g22_V.ext E176).keep J237 nin0).keep J238 (ninS (own_ne g22_V.lt (Nat.le_of_eq z176.symm)) nin0))
        have f258 := (((g23_E.ext E176).keep J237).keep J238)
        have f259 := (((g24_F.ext E176).keep J237 nin0).keep J238 (ninS (own_ne g23_E.lt (Nat.le_of_eq z176.symm)) nin0))
        have f260 := (((g25_E.ext E176).keep J237).keep J238)
        have f261 := (((g26_F.ext E176).keep J237 nin0).keep J238 (ninS (own_ne g25_E.lt (Nat.le_of_eq z176.symm)) nin0))
        have f262 := (((g27_F.ext E176).keep J237 nin0).keep J238 (ninS (own_ne g25_E.lt (Nat.le_of_eq z176.symm)) nin0))
        have f263 := (((g28_V.ext E176).keep J237 nin0).keep J238 (ninS (own_ne g28_V.lt (Nat.le_of_eq z176.symm)) nin0))
        refine own_callS X238 hx hZ hG hown (ow hw 12 rfl) (ow hw 13 rfl) (ow hw 2 rfl) (ow hw 14 rfl) (by decide) 0 (own_findN l Z a0 hw b176 t_238 kt_238 [c3, c235] cd_238 nb_238 vs_238 cpt d0 d1 d2 t0 t1 t2 v0 v1 v2 kv0 kv1 kv2 vals kl h238 O238 r238_0 r238_1 r238_2 r238_3 r238_4 (Nat.le_of_ble_eq_true rfl) (own_allc hr_c3 (own_allc hr_c235 own_alln)) g0_S g1_hcpt g8_S f244 f245 f246 f247 f248 f249 f250 f251 f252 f253 f254 f255 f256 f257 f258 f259 f260 f261 f262 f263 (own_ne g13_E.lt (Nat.le_of_eq z176.symm)) (own_ne g19_E.lt (Nat.le_of_eq z176.symm)) (own_ne g25_E.lt (Nat.le_of_eq z176.symm)) (own_ne_len (fun q => by simp at q)) (own_ne_len (fun q => by simp at q)) (own_ne_len (fun q => by simp at q))) (by decide) (by decide) e238 (by rw [hml]; rfl) (lenOf own_pd13 rfl) (argsL := [(.ref b176)]) (rest := []) rfl rfl (Nat.le_of_eq rfl) (hb hby at_298) (by decide) (by decide) ?_
        intro T243 h243 v243 L243 X243 e243 q243
        obtain ⟨rfl, M243, J243⟩ := q243
        have N243 := Fr.app N238 M243
        have R243 := (CHr.keep J243 all0 R238.1)
        have C243 := C238.trans R243
        have K243 : Keep h0 h243 [] := K238.trans J243 all0
        have O243 : own_Old Z h243 := O238.keep J243 all0
        show G (T243.setTop (mkF m 301 #[oi i0, oi i1, oi i2, oi i3, oi i4, oi i5, oi 0, oa d0, oi c3, oi 6, .unset, .unset, .unset, .unset] [.null]))
        refine hG _ _ (fun t_ k_ => XS.ifnonnullNo X243.here hx rfl (hb hby at_301) rfl k_) ?_
        refine hG _ _ (fun t_ k_ => XS.iconst X243.here hx rfl (hb hby at_304) k_) ?_
        refine hG _ _ (fun t_ k_ => XS.goto X243.here hx rfl (pc0 := 305) (pc' := 309) rfl (hb hby at_305) (by decide) (by decide) k_) ?_
        show G (T243.setTop (mkF m 309 #[oi i0, oi i1, oi i2, oi i3, oi i4, oi i5, oi 0, oa d0, oi c3, oi 6, .unset, .unset, .unset, .unset] [(.int 1)]))
        exact own_retNW hR hret (by simp) X243 hx (hb hby at_309) e243 SI0 (Nat.le_trans (Nat.le_trans (Nat.le_trans (Nat.le_trans (Nat.le_refl _) R176.2.1) R237.2.1) R238.2.1) R243.2.1) hZ C243 (by decide) (by decide) ⟨rfl, N243, K243⟩
      · skip
        show G (T176.setTop (mkF m 281 #[oi i0, oi i1, oi i2, oi i3, oi i4, oi i5, oi 0, oa d0, oi c3, oi 6, .unset, .unset, .unset, .unset] [(.int 3), (.ref b176), (.ref b176)]))
        refine hG _ _ (fun t_ k_ => XS.iload X176.here hx rfl (hb hby at_281) rfl k_) ?_
        refine hG _ _ (fun t_ k_ => XS.iload X176.here hx rfl (hb hby at_283) rfl k_) ?_
        refine hG _ _ (fun t_ k_ => XS.i2c X176.here hx rfl (hb hby at_285) rfl k_) ?_
        show G (T176.setTop (mkF m 286 #[oi i0, oi i1, oi i2, oi i3, oi i4, oi i5, oi 0, oa d0, oi c3, oi 6, .unset, .unset, .unset, .unset] [(.int (i5.toUInt32.toUInt16.toUInt32.toInt32)), (.int c3), (.int 3), (.ref b176), (.ref b176)]))
        generalize hn_c264 : (i5.toUInt32.toUInt16.toUInt32.toInt32) = c264
        have hr_c264 := own_i2c16 hn_c264
        show G (T176.setTop (mkF m 286 #[oi i0, oi i1, oi i2, oi i3, oi i4, oi i5, oi 0, oa d0, oi c3, oi 6, .unset, .unset, .unset, .unset] [(.int c264), (.int c3), (.int 3), (.ref b176), (.ref b176)]))
        refine hG _ _ (fun t_ k_ => XS.iload X176.here hx rfl (hb hby at_286) rfl k_) ?_
        refine hG _ _ (fun t_ k_ => XS.bipush X176.here hx rfl (hb hby at_288) k_) ?_
        refine hG _ _ (fun t_ k_ => XS.iushr X176.here hx rfl (hb hby at_290) rfl k_) ?_
        refine hG _ _ (fun t_ k_ => XS.i2c X176.here hx rfl (hb hby at_291) rfl k_) ?_
        show G (T176.setTop (mkF m 292 #[oi i0, oi i1, oi i2, oi i3, oi i4, oi i5, oi 0, oa d0, oi c3, oi 6, .unset, .unset, .unset, .unset] [(.int (((i5.toUInt32 >>> ((16 : Int32) &&& 31).toUInt32).toInt32).toUInt32.toUInt16.toUInt32.toInt32)), (.int c264), (.int c3), (.int 3), (.ref b176), (.ref b176)]))
        generalize hn_c265 : (((i5.toUInt32 >>> ((16 : Int32) &&& 31).toUInt32).toInt32).toUInt32.toUInt16.toUInt32.toInt32) = c265
        have hr_c265 := own_i2c16 hn_c265
        show G (T176.setTop (mkF m 292 #[oi i0, oi i1, oi i2, oi i3, oi i4, oi i5, oi 0, oa d0, oi c3, oi 6, .unset, .unset, .unset, .unset] [(.int c265), (.int c264), (.int c3), (.int 3), (.ref b176), (.ref b176)]))
        refine own_callS X176 hx hZ hG hown (ow hw 87 rfl) (ow hw 88 rfl) (ow hw 43 rfl) (ow hw 89 rfl) (by decide) 2 (own_mk_shortChars_3 l Z a0 hw c3 c264 c265 h176 O176 hr_c3 hr_c264 hr_c265) (by decide) (by decide) e176 (by rw [hml]; rfl) (lenOf own_pd16 rfl) (argsL := [(.int 3), (.int c3), (.int c264), (.int c265)]) (rest := [(.ref b176), (.ref b176)]) rfl rfl (Nat.le_of_eq rfl) (hb hby at_292) (by decide) (by decide) ?_
        intro T266 h266 v266 L266 X266 e266 q266
        obtain ⟨u_266, ku_266, rfl, M266, J266, y266_0, r266_0⟩ := q266
        have N266 := Fr.app N0 M266
        have R266 := (CHr.keep J266 all0 R176.1)
        have C266 := C176.trans R266
        have K266 : Keep h0 h266 [] := K176.trans J266 all0
        have O266 : own_Old Z h266 := O176.keep J266 all0
        show G (T266.setTop (mkF m 295 #[oi i0, oi i1, oi i2, oi i3, oi i4, oi i5, oi 0, oa d0, oi c3, oi 6, .unset, .unset, .unset, .unset] [(.ref u_266), (.ref b176), (.ref b176)]))
        have f268 := (A176.keep J266)
        have f269 := ((D176 (Or.inr (ow hw 69 rfl)) (ty := .byte) (by decide)).keep J266 nin0)
        have f270 := ((D176 (Or.inr (ow hw 71 rfl)) (ty := (.array .byte)) (by decide)).keep J266 nin0)
        refine own_callI X266 hx hZ hG hown rfl (ow hw 46 rfl) (ow hw 47 rfl) (ow hw 36 rfl) (ow hw 48 rfl) (by decide) 1 (own_gstr1 l Z a0 hw b176 u_266 ku_266 [c3, c264, c265] cpt (.int 0) .null h266 O266 f268 f269 f270 (own_ge O0 (Nat.le_of_eq z176.symm)) r266_0 (Nat.le_of_ble_eq_true rfl) (Nat.le_of_ble_eq_true rfl) (own_allc hr_c3 (own_allc hr_c264 (own_allc hr_c265 own_alln))) g0_S g1_hcpt g2_S g3_S g4_S) (by decide) (by decide) e266 (by rw [hml]; rfl) (lenOf own_pd8 rfl) (argsL := [(.ref u_266)]) (rest := [(.ref b176)]) rfl rfl (Nat.le_of_eq rfl) (hb hby at_295) (by decide) (by decide) ?_
        intro T267 h267 v267 L267 X267 e267 q267
        obtain ⟨t_267, kt_267, cd_267, nb_267, vs_267, rfl, M267, J267, y267_0, r267_0, r267_1, r267_2, r267_3, r267_4⟩ := q267
        have N267 := Fr.app N266 M267
        have sf271 : Safe Z consts_1 _ h266 b176 := (own_safeStr hZ.alike f268 f270)
        have R267 := (CHr.keep J267 (allS sf271 all0) R266.1)
        have C267 := C266.trans R267
        have K267 : Keep h0 h267 [] := K266.trans J267 (allS (Or.inr (Nat.le_trans (Keep.refl h0 []).1 (Nat.le_of_eq z176.symm))) all0)
        have O267 : own_Old Z h267 := O266.keep J267 (allS (own_ge O0 (Nat.le_of_eq z176.symm)) all0)
        show G (T267.setTop (mkF m 298 #[oi i0, oi i1, oi i2, oi i3, oi i4, oi i5, oi 0, oa d0, oi c3, oi 6, .unset, .unset, .unset, .unset] [(.ref b176)]))
        have f273 := (((g9_E.ext E176).keep J266).keep J267)
        have f274 := (((g10_V.ext E176).keep J266 nin0).keep J267 (ninS (own_ne g9_E.lt (Nat.le_of_eq z176.symm)) nin0))
        have f275 := (((g11_E.ext E176).keep J266).keep J267)
        have f276 := (((g12_F.ext E176).keep J266 nin0).keep J267 (ninS (own_ne g11_E.lt (Nat.le_of_eq z176.symm)) nin0))
        have f277 := (((g13_E.ext E176).keep J266).keep J267)
        have f278 := (((g14_F.ext E176).keep J266 nin0).keep J267 (ninS (own_ne g13_E.lt (Nat.le_of_eq z176.symm)) nin0))
        have f279 := (((g15_F.ext E176).keep J266 nin0).keep J267 (ninS (own_ne g13_E.lt (Nat.le_of_eq z176.symm)) nin0))
        have f280 := (((g16_V.ext E176).keep J266 nin0).keep J267 (ninS (own_ne g16_V.lt (Nat.le_of_eq z176.symm)) nin0))
        have f281 := (((g17_E.ext E176).keep J266).keep J267)
        have f282 := (((g18_F.ext E176).keep J266 nin0).keep J267 (ninS (own_ne g17_E.lt (Nat.le_of_eq z176.symm)) nin0))
        have f283 := (((g19_E.ext E176).keep J266).keep J267)
        have f284 := (((g20_F.ext E176).keep J266 nin0).keep J267 (ninS (own_ne g19_E.lt (Nat.le_of_eq z176.symm)) nin0))
        have f285 := (((g21_F.ext E176).keep J266 nin0).keep J267 (ninS (own_ne g19_E.lt (Nat.le_of_eq z176.symm)) nin0))
        have f286 := (((g22_V.ext E176).keep J266 nin0).keep J267 (ninS (own_ne g22_V.lt (Nat.le_of_eq z176.symm)) nin0))
        have f287 := (((g23_E.ext E176).keep J266).keep J267)
        have f288 := (((g24_F.ext E176).keep J266 nin0).keep J267 (ninS (own_ne g23_E.lt (Nat.le_of_eq z176.symm)) nin0))
        have f289 := (((g25_E.ext E176).keep J266).keep J267)
        have f290 := (((g26_F.ext E176).keep J266 nin0).keep J267 (ninS (own_ne g25_E.lt (Nat.le_of_eq z176.symm)) nin0))
        have f291 := (((g27_F.ext E176).keep J266 nin0).keep J267 (ninS (own_ne g25_E.lt (Nat.le_of_eq z176.symm)) nin0))
        have f292 := (((g28_V.ext E176).keep J266 nin0).keep J267 (ninS (own_ne g28_V.lt (Nat.le_of_eq z176.symm)) nin0))
        refine own_callS X267 hx hZ hG hown (ow hw 12 rfl) (ow hw 13 rfl) (ow hw 2 rfl) (ow hw 14 rfl) (by decide) 0 (own_findN l Z a0 hw b176 t_267 kt_267 [c3, c264, c265] cd_267 nb_267 vs_267 cpt d0 d1 d2 t0 t1 t2 v0 v1 v2 kv0 kv1 kv2 vals kl h267 O267 r267_0 r267_1 r267_2 r267_3 r267_4 (Nat.le_of_ble_eq_true rfl) (own_allc hr_c3 (own_allc hr_c264 (own_allc hr_c265 own_alln))) g0_S g1_hcpt g8_S f273 f274 f275 f276 f277 f278 f279 f280 f281 f282 f283 f284 f285 f286 f287 f288 f289 f290 f291 f292 (own_ne g13_E.lt (Nat.le_of_eq z176.symm)) (own_ne g19_E.lt (Nat.le_of_eq z176.symm)) (own_ne g25_E.lt (Nat.le_of_eq z176.symm)) (own_ne_len (fun q => by simp at q)) (own_ne_len (fun q => by simp at q)) (own_ne_len (fun q => by simp at q))) (by decide) (by decide) e267 (by rw [hml]; rfl) (lenOf own_pd13 rfl) (argsL := [(.ref b176)]) (rest := []) rfl rfl (Nat.le_of_eq rfl) (hb hby at_298) (by decide) (by decide) ?_
        intro T272 h272 v272 L272 X272 e272 q272
        obtain ⟨rfl, M272, J272⟩ := q272
        have N272 := Fr.app N267 M272
        have R272 := (CHr.keep J272 all0 R267.1)
        have C272 := C267.trans R272
        have K272 : Keep h0 h272 [] := K267.trans J272 all0
        have O272 : own_Old Z h272 := O267.keep J272 all0
        show G (T272.setTop (mkF m 301 #[oi i0, oi i1, oi i2, oi i3, oi i4, oi i5, oi 0, oa d0, oi c3, oi 6, .unset, .unset, .unset, .unset] [.null]))
        refine hG _ _ (fun t_ k_ => XS.ifnonnullNo X272.here hx rfl (hb hby at_301) rfl k_) ?_
        refine hG _ _ (fun t_ k_ => XS.iconst X272.here hx rfl (hb hby at_304) k_) ?_
        refine hG _ _ (fun t_ k_ => XS.goto X272.here hx rfl (pc0 := 305) (pc' := 309) rfl (hb hby at_305) (by decide) (by decide) k_) ?_
        show G (T272.setTop (mkF m 309 #[oi i0, oi i1, oi i2, oi i3, oi i4, oi i5, oi 0, oa d0, oi c3, oi 6, .unset, .unset, .unset, .unset] [(.int 1)]))
        exact own_retNW hR hret (by simp) X272 hx (hb hby at_309) e272 SI0 (Nat.le_trans (Nat.le_trans (Nat.le_trans (Nat.le_trans (Nat.le_refl _) R176.2.1) R266.2.1) R267.2.1) R272.2.1) hZ C272 (by decide) (by decide) ⟨rfl, N272, K272⟩
  · skip
    show G (s₁.setTop (mkF m 8 #[oi i0, oi i1, oi i2, oi i3, oi i4, oi i5, oi 1, .unset, .unset, .unset, .unset, .unset, .unset, .unset] []))
    refine hG _ _ (fun t_ k_ => XS.iload X0.here hx rfl (hb hby at_8) rfl k_) ?_
    show G (s₁.setTop (mkF m 10 #[oi i0, oi i1, oi i2, oi i3, oi i4, oi i5, oi 1, .unset, .unset, .unset, .unset, .unset, .unset, .unset] [(.int 1)]))
    refine hG _ _ (fun t_ k_ => XS.ifYes X0.here hx rfl (pc0 := 10) (pc' := 19) rfl (hb hby at_10) rfl ((if0 _ _).trans (feq (by decide)).2) (by decide) (by decide) k_) ?_
    show G (s₁.setTop (mkF m 19 #[oi i0, oi i1, oi i2, oi i3, oi i4, oi i5, oi 1, .unset, .unset, .unset, .unset, .unset, .unset, .unset] []))
    refine hG _ _ (fun t_ k_ => XS.iload X0.here hx rfl (hb hby at_19) rfl k_) ?_
    refine hG _ _ (fun t_ k_ => XS.iconst X0.here hx rfl (hb hby at_21) k_) ?_
    show G (s₁.setTop (mkF m 22 #[oi i0, oi i1, oi i2, oi i3, oi i4, oi i5, oi 1, .unset, .unset, .unset, .unset, .unset, .unset, .unset] [(.int 1), (.int 1)]))
    refine hG _ _ (fun t_ k_ => XS.icmpNo X0.here hx rfl (hb hby at_22) rfl (teq (by decide)).2 k_) ?_
    show G (s₁.setTop (mkF m 25 #[oi i0, oi i1, oi i2, oi i3, oi i4, oi i5, oi 1, .unset, .unset, .unset, .unset, .unset, .unset, .unset] []))
    obtain ⟨T293, X293, e293, st293⟩ := getS2 X0 hx hZ hown (host := "") (Or.inl (ow hw 38 rfl)) Via.refl e0 (own_sta g6_S O0) (g := (mkF m 25 #[oi i0, oi i1, oi i2, oi i3, oi i4, oi i5, oi 1, .unset, .unset, .unset, .unset, .unset, .unset, .unset] [])) rfl (hb hby at_25)
    refine hG _ _ st293 ?_
    refine hG _ _ (fun t_ k_ => XS.goto X293.here hx rfl (pc0 := 28) (pc' := 34) rfl (hb hby at_28) (by decide) (by decide) k_) ?_
    refine hG _ _ (fun t_ k_ => XS.astore X293.here hx rfl (hb hby at_34) rfl rfl (l' := #[oi i0, oi i1, oi i2, oi i3, oi i4, oi i5, oi 1, oa d1, .unset, .unset, .unset, .unset, .unset, .unset]) rfl k_) ?_
    refine hG _ _ (fun t_ k_ => XS.iloadN X293.here hx rfl (hb hby at_36) rfl k_) ?_
    refine hG _ _ (X293.ldcInt hx hown (mvT hZ (ow hw 4 rfl)) (g := (mkF m 37 #[oi i0, oi i1, oi i2, oi i3, oi i4, oi i5, oi 1, oa d1, .unset, .unset, .unset, .unset, .unset, .unset] [(.int i3)])) rfl (hb hby at_37)) ?_
    refine hG _ _ (fun t_ k_ => XS.iand X293.here hx rfl (hb hby at_39) rfl k_) ?_
    refine hG _ _ (fun t_ k_ => XS.i2c X293.here hx rfl (hb hby at_40) rfl k_) ?_
    show G (T293.setTop (mkF m 41 #[oi i0, oi i1, oi i2, oi i3, oi i4, oi i5, oi 1, oa d1, .unset, .unset, .unset, .unset, .unset, .unset] [(.int ((i3 &&& (65535 : Int32)).toUInt32.toUInt16.toUInt32.toInt32))]))
    generalize hn_c294 : ((i3 &&& (65535 : Int32)).toUInt32.toUInt16.toUInt32.toInt32) = c294
    have hr_c294 := own_i2c16 hn_c294
    show G (T293.setTop (mkF m 41 #[oi i0, oi i1, oi i2, oi i3, oi i4, oi i5, oi 1, oa d1, .unset, .unset, .unset, .unset, .unset, .unset] [(.int c294)]))
    refine hG _ _ (fun t_ k_ => XS.istore X293.here hx rfl (hb hby at_41) rfl (l' := #[oi i0, oi i1, oi i2, oi i3, oi i4, oi i5, oi 1, oa d1, oi c294, .unset, .unset, .unset, .unset, .unset]) rfl k_) ?_
    refine hG _ _ (fun t_ k_ => XS.iloadN X293.here hx rfl (hb hby at_43) rfl k_) ?_
    refine hG _ _ (X293.ldcInt hx hown (mvT hZ (ow hw 0 rfl)) (g := (mkF m 44 #[oi i0, oi i1, oi i2, oi i3, oi i4, oi i5, oi 1, oa d1, oi c294, .unset, .unset, .unset, .unset, .unset] [(.int i0)])) rfl (hb hby at_44)) ?_
    refine hG _ _ (fun t_ k_ => XS.iand X293.here hx rfl (hb hby at_46) rfl k_) ?_
    refine hG _ _ (fun t_ k_ => XS.bipush X293.here hx rfl (hb hby at_47) k_) ?_
    refine hG _ _ (fun t_ k_ => iremM X293 hx rfl (hb hby at_49) rfl (by decide) k_) ?_
    refine hG _ _ (fun t_ k_ => XS.istore X293.here hx rfl (hb hby at_50) rfl (l' := #[oi i0, oi i1, oi i2, oi i3, oi i4, oi i5, oi 1, oa d1, oi c294, oi ((i0 &&& (2147483647 : Int32)) % (7 : Int32)), .unset, .unset, .unset, .unset]) rfl k_) ?_
    show G (T293.setTop (mkF m 52 #[oi i0, oi i1, oi i2, oi i3, oi i4, oi i5, oi 1, oa d1, oi c294, oi ((i0 &&& (2147483647 : Int32)) % (7 : Int32)), .unset, .unset, .unset, .unset] []))
    generalize hn_q295 : ((i0 &&& (2147483647 : Int32)) % (7 : Int32)) = q295
    rcases own_r7 hn_q295 with rfl | rfl | rfl | rfl | rfl | rfl | rfl
    · skip
      show G (T293.setTop (mkF m 52 #[oi i0, oi i1, oi i2, oi i3, oi i4, oi i5, oi 1, oa d1, oi c294, oi 0, .unset, .unset, .unset, .unset] []))
      refine hG _ _ (fun t_ k_ => XS.iload X293.here hx rfl (hb hby at_52) rfl k_) ?_
      show G (T293.setTop (mkF m 54 #[oi i0, oi i1, oi i2, oi i3, oi i4, oi i5, oi 1, oa d1, oi c294, oi 0, .unset, .unset, .unset, .unset] [(.int 0)]))
      refine hG _ _ (fun t_ k_ => XS.ifNo X293.here hx rfl (hb hby at_54) rfl ((if0 _ _).trans (teq (by decide)).2) k_) ?_
      show G (T293.setTop (mkF m 57 #[oi i0, oi i1, oi i2, oi i3, oi i4, oi i5, oi 1, oa d1, oi c294, oi 0, .unset, .unset, .unset, .unset] []))
      refine hG _ _ (fun t_ k_ => XS.aload X293.here hx rfl (hb hby at_57) rfl rfl k_) ?_
      show G (T293.setTop (mkF m 59 #[oi i0, oi i1, oi i2, oi i3, oi i4, oi i5, oi 1, oa d1, oi c294, oi 0, .unset, .unset, .unset, .unset] [(.ref d1)]))
      refine own_callV (C := "com/example/handlewright/handlewright/DomainStatus") X293 hx hZ hG hown (ow hw 5 rfl) (ow hw 6 rfl) (ow hw 8 rfl) (ow hw 7 rfl) (ow hw 2 rfl) (ow hw 9 rfl) (by decide) 0 (own_text l Z a0 hw d1 t1 h0 O0 g18_F) (by decide) (by decide) e293 g17_E (by rw [hml]; rfl) (lenOf own_pd12 rfl) (argsL := []) (rest := []) rfl rfl (Nat.le_of_eq rfl) (hb hby at_59) (by decide) (by decide) ?_
      intro T296 h296 v296 L296 X296 e296 q296
      obtain ⟨rfl, M296, rfl⟩ := q296
      have N296 := Fr.app N0 M296
      show G (T296.setTop (mkF m 62 #[oi i0, oi i1, oi i2, oi i3, oi i4, oi i5, oi 1, oa d1, oi c294, oi 0, .unset, .unset, .unset, .unset] [(.ref t1)]))
      refine own_callS X296 hx hZ hG hown (ow hw 12 rfl) (ow hw 13 rfl) (ow hw 2 rfl) (ow hw 14 rfl) (by decide) 0 (own_findS1 l Z a0 hw d0 d1 d2 t0 t1 t2 v0 v1 v2 kv0 kv1 kv2 vals kl cpt h0 O0 g8_S g9_E g10_V g11_E g12_F g13_E g14_F g15_F g16_V g17_E g18_F g19_E g20_F g21_F g22_V g23_E g24_F g25_E g26_F g27_F g28_V g0_S g1_hcpt g29_n01) (by decide) (by decide) e296 (by rw [hml]; rfl) (lenOf own_pd13 rfl) (argsL := [(.ref t1)]) (rest := []) rfl rfl (Nat.le_of_eq rfl) (hb hby at_62) (by decide) (by decide) ?_
      intro T297 h297 v297 L297 X297 e297 q297
      obtain ⟨rfl, M297, J297⟩ := q297
      have N297 := Fr.app N296 M297
      have R297 := (CHr.keep J297 all0 H0)
      have C297 := (CHr.refl H0).trans R297
      have K297 : Keep h0 h297 [] := (Keep.refl h0 []).trans J297 all0
      have O297 : own_Old Z h297 := O0.keep J297 all0
      refine hG _ _ (fun t_ k_ => XS.aload X297.here hx rfl (hb hby at_65) rfl rfl k_) ?_
      show G (T297.setTop (mkF m 67 #[oi i0, oi i1, oi i2, oi i3, oi i4, oi i5, oi 1, oa d1, oi c294, oi 0, .unset, .unset, .unset, .unset] [(.ref d1), (.ref d1)]))
      refine hG _ _ (fun t_ k_ => Jvm.RoadKit.acmp (g := (mkF m 67 #[oi i0, oi i1, oi i2, oi i3, oi i4, oi i5, oi 1, oa d1, oi c294, oi 0, .unset, .unset, .unset, .unset] [(.ref d1), (.ref d1)])) X297 hx rfl rfl rfl (pc0 := 67) (pc' := 70) (same := true) rfl (hb hby at_67) rfl (decide_eq_true rfl) (by decide) (by decide) k_) ?_
      show G (T297.setTop (mkF m 70 #[oi i0, oi i1, oi i2, oi i3, oi i4, oi i5, oi 1, oa d1, oi c294, oi 0, .unset, .unset, .unset, .unset] []))
      refine hG _ _ (fun t_ k_ => XS.iconst X297.here hx rfl (hb hby at_70) k_) ?_
      refine hG _ _ (fun t_ k_ => XS.goto X297.here hx rfl (pc0 := 71) (pc' := 75) rfl (hb hby at_71) (by decide) (by decide) k_) ?_
      show G (T297.setTop (mkF m 75 #[oi i0, oi i1, oi i2, oi i3, oi i4, oi i5, oi 1, oa d1, oi c294, oi 0, .unset, .unset, .unset, .unset] [(.int 1)]))
      exact own_retNW hR hret (by simp) X297 hx (hb hby at_75) e297 SI0 (Nat.le_trans (Nat.le_refl _) R297.2.1) hZ C297 (by decide) (by decide) ⟨rfl, N297, K297⟩
    · skip
      show G (T293.setTop (mkF m 52 #[oi i0, oi i1, oi i2, oi i3, oi i4, oi i5, oi 1, oa d1, oi c294, oi 1, .unset, .unset, .unset, .unset] []))
      refine hG _ _ (fun t_ k_ => XS.iload X293.here hx rfl (hb hby at_52) rfl k_) ?_
      show G (T293.setTop (mkF m 54 #[oi i0, oi i1, oi i2, oi i3, oi i4, oi i5, oi 1, oa d1, oi c294, oi 1, .unset, .unset, .unset, .unset] [(.int 1)]))
      refine hG _ _ (fun t_ k_ => XS.ifYes X293.here hx rfl (pc0 := 54) (pc' := 76) rfl (hb hby at_54) rfl ((if0 _ _).trans (feq (by decide)).2) (by decide) (by decide) k_) ?_
      show G (T293.setTop (mkF m 76 #[oi i0, oi i1, oi i2, oi i3, oi i4, oi i5, oi 1, oa d1, oi c294, oi 1, .unset, .unset, .unset, .unset] []))
      refine hG _ _ (fun t_ k_ => XS.iload X293.here hx rfl (hb hby at_76) rfl k_) ?_
      refine hG _ _ (fun t_ k_ => XS.iconst X293.here hx rfl (hb hby at_78) k_) ?_
      show G (T293.setTop (mkF m 79 #[oi i0, oi i1, oi i2, oi i3, oi i4, oi i5, oi 1, oa d1, oi c294, oi 1, .unset, .unset, .unset, .unset] [(.int 1), (.int 1)]))
      refine hG _ _ (fun t_ k_ => XS.icmpNo X293.here hx rfl (hb hby at_79) rfl (teq (by decide)).2 k_) ?_
      show G (T293.setTop (mkF m 82 #[oi i0, oi i1, oi i2, oi i3, oi i4, oi i5, oi 1, oa d1, oi c294, oi 1, .unset, .unset, .unset, .unset] []))
      obtain ⟨T298, h298, X298, e298, E298, A298, D298, -, st298⟩ := newO X293 hx hZ hown (ow hw 39 rfl) (ow hw 40 rfl) (ow hw 36 rfl) e293 (g := (mkF m 82 #[oi i0, oi i1, oi i2, oi i3, oi i4, oi i5, oi 1, oa d1, oi c294, oi 1, .unset, .unset, .unset, .unset] [])) rfl (hb hby at_82) (by decide) (by decide)
      obtain ⟨b298, z298⟩ : ∃ z, z = h0.size := ⟨_, rfl⟩
      rw [← z298] at A298 D298 st298
      refine hG _ _ st298 ?_
      have R298 := (CHr.ext E298 H0)
      have C298 := (CHr.refl H0).trans R298
      have K298 : Keep h0 h298 [] := (Keep.refl h0 []).ext E298
      have O298 : own_Old Z h298 := O0.ext E298
      refine hG _ _ (fun t_ k_ => XS.dup X298.here hx rfl (hb hby at_85) rfl rfl k_) ?_
      refine hG _ _ (fun t_ k_ => XS.iconst X298.here hx rfl (hb hby at_86) k_) ?_
      obtain ⟨T299, h299, k299, X299, e299, E299, A299, st299⟩ := newP X298 hx hZ (ow hw 45 rfl) e298 (g := (mkF m 87 #[oi i0, oi i1, oi i2, oi i3, oi i4, oi i5, oi 1, oa d1, oi c294, oi 1, .unset, .unset, .unset, .unset] [(.int 0), (.ref b298), (.ref b298)])) rfl (hb hby at_87) rfl (by decide) (cap := 0) (by decide) (by decide) (by decide) (by decide)
      obtain ⟨b299, z299⟩ : ∃ z, z = h298.size := ⟨_, rfl⟩
      rw [← z299] at A299 st299
      refine hG _ _ st299 ?_
      have R299 := (CHr.ext E299 R298.1)
      have C299 := C298.trans R299
      have K299 : Keep h0 h299 [] := K298.ext E299
      have O299 : own_Old Z h299 := O298.ext E299
      have V299 : Arv Z h299 b299 k299 .char (0 : Int32) [] (.int 0) := (Arv.new A299 (by decide)).pad (pad_rep [] (.int 0) 0)
      show G (T299.setTop (mkF m 89 #[oi i0, oi i1, oi i2, oi i3, oi i4, oi i5, oi 1, oa d1, oi c294, oi 1, .unset, .unset, .unset, .unset] [(.ref b299), (.ref b298), (.ref b298)]))
      have f301 := (A298.ext E299)
      have f302 := ((D298 (Or.inr (ow hw 69 rfl)) (ty := .byte) (by decide)).ext E299)
      have f303 := ((D298 (Or.inr (ow hw 71 rfl)) (ty := (.array .byte)) (by decide)).ext E299)
      refine own_callIW X299 hx hZ hG hown rfl (ow hw 46 rfl) (ow hw 47 rfl) (ow hw 36 rfl) (ow hw 48 rfl) (by decide) 1 (own_str1E l Z a0 hw hEL b298 b299 (.int 0) k299 h299 O299 f301 f302 f303 (own_ge O0 (Nat.le_of_eq z298.symm)) V299) (by decide) (by decide) e299 SI0 (Nat.le_trans (Nat.le_trans (Nat.le_refl _) R298.2.1) R299.2.1) hEL R299.1 (by rw [hml]; rfl) (lenOf own_pd8 rfl) (argsL := [(.ref b299)]) (rest := [(.ref b298)]) rfl rfl (Nat.le_of_eq rfl) (hb hby at_89) (by decide) (by decide) ?_
      intro T300 h300 v300 L300 X300 e300 SI300 hZ300 hown300 Y300 q300
      obtain ⟨t_300, kt_300, rfl, M300, J300, r300_0, r300_1, r300_2, r300_3⟩ := q300
      have N300 := Fr.app N0 M300
      have R300 := Y300
      have C300 := C299.trans R300
      have K300 : Keep h0 h300 [] := K299.trans J300 (allS (Or.inr (Nat.le_trans (Keep.refl h0 []).1 (Nat.le_of_eq z298.symm))) all0)
      have O300 : own_Old Z h300 := O299.keep J300 (allS (own_ge O0 (Nat.le_of_eq z298.symm)) all0)
      show G (T300.setTop (mkF m 92 #[oi i0, oi i1, oi i2, oi i3, oi i4, oi i5, oi 1, oa d1, oi c294, oi 1, .unset, .unset, .unset, .unset] [(.ref b298)]))
      have f305 := (((g9_E.ext E298).ext E299).keep J300)
      have f306 := (((g10_V.ext E298).ext E299).keep J300 (ninS (own_ne g9_E.lt (Nat.le_of_eq z298.symm)) nin0))
      have f307 := (((g11_E.ext E298).ext E299).keep J300)
      have f308 := (((g12_F.ext E298).ext E299).keep J300 (ninS (own_ne g11_E.lt (Nat.le_of_eq z298.symm)) nin0))
      have f309 := (((g13_E.ext E298).ext E299).keep J300)
      have f310 := (((g14_F.ext E298).ext E299).keep J300 (ninS (own_ne g13_E.lt (Nat.le_of_eq z298.symm)) nin0))
      have f311 := (((g15_F.ext E298).ext E299).keep J300 (ninS (own_ne g13_E.lt (Nat.le_of_eq z298.symm)) nin0))
      have f312 := (((g16_V.ext E298).ext E299).keep J300 (ninS (own_ne g16_V.lt (Nat.le_of_eq z298.symm)) nin0))
      have f313 := (((g17_E.ext E298).ext E299).keep J300)
      have f314 := (((g18_F.ext E298).ext E299).keep J300 (ninS (own_ne g17_E.lt (Nat.le_of_eq z298.symm)) nin0))
      have f315 := (((g19_E.ext E298).ext E299).keep J300)
      have f316 := (((g20_F.ext E298).ext E299).keep J300 (ninS (own_ne g19_E.lt (Nat.le_of_eq z298.symm)) nin0))
      have f317 := (((g21_F.ext E298).ext E299).keep J300 (ninS (own_ne g19_E.lt (Nat.le_of_eq z298.symm)) nin0))
      have f318 := (((g22_V.ext E298).ext E299).keep J300 (ninS (own_ne g22_V.lt (Nat.le_of_eq z298.symm)) nin0))
      have f319 := (((g23_E.ext E298).ext E299).keep J300)
      have f320 := (((g24_F.ext E298).ext E299).keep J300 (ninS (own_ne g23_E.lt (Nat.le_of_eq z298.symm)) nin0))
      have f321 := (((g25_E.ext E298).ext E299).keep J300)
      have f322 := (((g26_F.ext E298).ext E299).keep J300 (ninS (own_ne g25_E.lt (Nat.le_of_eq z298.symm)) nin0))
      have f323 := (((g27_F.ext E298).ext E299).keep J300 (ninS (own_ne g25_E.lt (Nat.le_of_eq z298.symm)) nin0))
      have f324 := (((g28_V.ext E298).ext E299).keep J300 (ninS (own_ne g28_V.lt (Nat.le_of_eq z298.symm)) nin0))
      refine own_callS X300 hx hZ300 hG hown300 (ow hw 12 rfl) (ow hw 13 rfl) (ow hw 2 rfl) (ow hw 14 rfl) (by decide) 0 (own_findN l Z a0 hw b298 t_300 kt_300 ([] : List Int32) (0 : Int32) (0 : Int32) [] cpt d0 d1 d2 t0 t1 t2 v0 v1 v2 kv0 kv1 kv2 vals kl h300 O300 r300_0 r300_1 r300_2 r300_3 own_enc_nil (Nat.zero_le _) own_alln g0_S g1_hcpt g8_S f305 f306 f307 f308 f309 f310 f311 f312 f313 f314 f315 f316 f317 f318 f319 f320 f321 f322 f323 f324 (own_ne g13_E.lt (Nat.le_of_eq z298.symm)) (own_ne g19_E.lt (Nat.le_of_eq z298.symm)) (own_ne g25_E.lt (Nat.le_of_eq z298.symm)) (own_ne_len (fun q => by simp at q)) (own_ne_len (fun q => by simp at q)) (own_ne_len (fun q => by simp at q))) (by decide) (by decide) e300 (by rw [hml]; rfl) (lenOf own_pd13 rfl) (argsL := [(.ref b298)]) (rest := []) rfl rfl (Nat.le_of_eq rfl) (hb hby at_92) (by decide) (by decide) ?_
      intro T304 h304 v304 L304 X304 e304 q304
      obtain ⟨rfl, M304, J304⟩ := q304
      have N304 := Fr.app N300 M304
      have R304 := (CHr.keep J304 all0 R300.1)
      have C304 := C300.trans R304
      have K304 : Keep h0 h304 [] := K300.trans J304 all0
      have O304 : own_Old Z h304 := O300.keep J304 all0
      show G (T304.setTop (mkF m 95 #[oi i0, oi i1, oi i2, oi i3, oi i4, oi i5, oi 1, oa d1, oi c294, oi 1, .unset, .unset, .unset, .unset] [.null]))
      refine hG _ _ (fun t_ k_ => XS.ifnonnullNo X304.here hx rfl (hb hby at_95) rfl k_) ?_
      refine hG _ _ (fun t_ k_ => XS.iconst X304.here hx rfl (hb hby at_98) k_) ?_
      refine hG _ _ (fun t_ k_ => XS.goto X304.here hx rfl (pc0 := 99) (pc' := 103) rfl (hb hby at_99) (by decide) (by decide) k_) ?_
      show G (T304.setTop (mkF m 103 #[oi i0, oi i1, oi i2, oi i3, oi i4, oi i5, oi 1, oa d1, oi c294, oi 1, .unset, .unset, .unset, .unset] [(.int 1)]))
      exact own_retNW hR hret (by simp) X304 hx (hb hby at_103) e304 SI300 (Nat.le_trans (Nat.le_refl _) R304.2.1) hZ300 C304 (by decide) (by decide) ⟨rfl, N304, K304⟩
    · skip
      show G (T293.setTop (mkF m 52 #[oi i0, oi i1, oi i2, oi i3, oi i4, oi i5, oi 1, oa d1, oi c294, oi 2, .unset, .unset, .unset, .unset] []))
      refine hG _ _ (fun t_ k_ => XS.iload X293.here hx rfl (hb hby at_52) rfl k_) ?_
      show G (T293.setTop (mkF m 54 #[oi i0, oi i1, oi i2, oi i3, oi i4, oi i5, oi 1, oa d1, oi c294, oi 2, .unset, .unset, .unset, .unset] [(.int 2)]))
      refine hG _ _ (fun t_ k_ => XS.ifYes X293.here hx rfl (pc0 := 54) (pc' := 76) rfl (hb hby at_54) rfl ((if0 _ _).trans (feq (by decide)).2) (by decide) (by decide) k_) ?_
      show G (T293.setTop (mkF m 76 #[oi i0, oi i1, oi i2, oi i3, oi i4, oi i5, oi 1, oa d1, oi c294, oi 2, .unset, .unset, .unset, .unset] []))
      refine hG _ _ (fun t_ k_ => XS.iload X293.here hx rfl (hb hby at_76) rfl k_) ?_
      refine hG _ _ (fun t_ k_ => XS.iconst X293.here hx rfl (hb hby at_78) k_) ?_
      show G (T293.setTop (mkF m 79 #[oi i0, oi i1, oi i2, oi i3, oi i4, oi i5, oi 1, oa d1, oi c294, oi 2, .unset, .unset, .unset, .unset] [(.int 1), (.int 2)]))
      refine hG _ _ (fun t_ k_ => XS.icmpYes X293.here hx rfl (pc0 := 79) (pc' := 104) rfl (hb hby at_79) rfl (feq (by decide)).2 (by decide) (by decide) k_) ?_
      show G (T293.setTop (mkF m 104 #[oi i0, oi i1, oi i2, oi i3, oi i4, oi i5, oi 1, oa d1, oi c294, oi 2, .unset, .unset, .unset, .unset] []))
      refine hG _ _ (fun t_ k_ => XS.iload X293.here hx rfl (hb hby at_104) rfl k_) ?_
      refine hG _ _ (fun t_ k_ => XS.iconst X293.here hx rfl (hb hby at_106) k_) ?_
      show G (T293.setTop (mkF m 107 #[oi i0, oi i1, oi i2, oi i3, oi i4, oi i5, oi 1, oa d1, oi c294, oi 2, .unset, .unset, .unset, .unset] [(.int 2), (.int 2)]))
      refine hG _ _ (fun t_ k_ => XS.icmpNo X293.here hx rfl (hb hby at_107) rfl (teq (by decide)).2 k_) ?_
      show G (T293.setTop (mkF m 110 #[oi i0, oi i1, oi i2, oi i3, oi i4, oi i5, oi 1, oa d1, oi c294, oi 2, .unset, .unset, .unset, .unset] []))
      refine hG _ _ (fun t_ k_ => XS.iload X293.here hx rfl (hb hby at_110) rfl k_) ?_
      show G (T293.setTop (mkF m 112 #[oi i0, oi i1, oi i2, oi i3, oi i4, oi i5, oi 1, oa d1, oi c294, oi 2, .unset, .unset, .unset, .unset] [(.int 1)]))
      refine own_callS X293 hx hZ hG hown (ow hw 78 rfl) (ow hw 79 rfl) (ow hw 43 rfl) (ow hw 80 rfl) (by decide) 0 (own_mk_lit_1 l Z a0 hw h0 O0) (by decide) (by decide) e293 (by rw [hml]; rfl) (lenOf own_pd14 rfl) (argsL := [(.int 1)]) (rest := []) rfl rfl (Nat.le_of_eq rfl) (hb hby at_112) (by decide) (by decide) ?_
      intro T325 h325 v325 L325 X325 e325 q325
      obtain ⟨u_325, ku_325, rfl, M325, J325, y325_0, r325_0⟩ := q325
      have N325 := Fr.app N0 M325
      have R325 := (CHr.keep J325 all0 H0)
      have C325 := (CHr.refl H0).trans R325
      have K325 : Keep h0 h325 [] := (Keep.refl h0 []).trans J325 all0
      have O325 : own_Old Z h325 := O0.keep J325 all0
      refine hG _ _ (fun t_ k_ => XS.astore X325.here hx rfl (hb hby at_115) rfl rfl (l' := #[oi i0, oi i1, oi i2, oi i3, oi i4, oi i5, oi 1, oa d1, oi c294, oi 2, oa u_325, .unset, .unset, .unset]) rfl k_) ?_
      refine hG _ _ (fun t_ k_ => XS.iloadN X325.here hx rfl (hb hby at_117) rfl k_) ?_
      refine hG _ _ (X325.ldcInt hx hown (mvT hZ (ow hw 0 rfl)) (g := (mkF m 118 #[oi i0, oi i1, oi i2, oi i3, oi i4, oi i5, oi 1, oa d1, oi c294, oi 2, oa u_325, .unset, .unset, .unset] [(.int i2)])) rfl (hb hby at_118)) ?_
      refine hG _ _ (fun t_ k_ => XS.iand X325.here hx rfl (hb hby at_120) rfl k_) ?_
      refine hG _ _ (fun t_ k_ => XS.aload X325.here hx rfl (hb hby at_121) rfl rfl k_) ?_
      obtain ⟨c326, Ar326, -, S326, M326, -, -⟩ := id r325_0
      refine hG _ _ (X325.arraylength hx (by rw [e325]; exact Ar326.1) (State.isArrayOf_alike hZ.alike Ar326.2.1) (g := (mkF m 123 #[oi i0, oi i1, oi i2, oi i3, oi i4, oi i5, oi 1, oa d1, oi c294, oi 2, oa u_325, .unset, .unset, .unset] [(.ref u_325), (.int (i2 &&& (2147483647 : Int32)))])) rfl rfl (hb hby at_123)) ?_
      rw [len_of S326 M326]
      refine hG _ _ (fun t_ k_ => iremM X325 hx rfl (hb hby at_124) rfl (by decide) k_) ?_
      refine hG _ _ (fun t_ k_ => XS.istore X325.here hx rfl (hb hby at_125) rfl (l' := #[oi i0, oi i1, oi i2, oi i3, oi i4, oi i5, oi 1, oa d1, oi c294, oi 2, oa u_325, oi ((i2 &&& (2147483647 : Int32)) % (6 : Int32)), .unset, .unset]) rfl k_) ?_
      show G (T325.setTop (mkF m 127 #[oi i0, oi i1, oi i2, oi i3, oi i4, oi i5, oi 1, oa d1, oi c294, oi 2, oa u_325, oi ((i2 &&& (2147483647 : Int32)) % (6 : Int32)), .unset, .unset] []))
      generalize hn_ix327 : ((i2 &&& (2147483647 : Int32)) % (6 : Int32)) = ix327
      have hixb := own_ixb (k := 6) (own_ixl (by decide) hn_ix327) (by decide)
      show G (T325.setTop (mkF m 127 #[oi i0, oi i1, oi i2, oi i3, oi i4, oi i5, oi 1, oa d1, oi c294, oi 2, oa u_325, oi ix327, .unset, .unset] []))
      refine hG _ _ (fun t_ k_ => XS.aload X325.here hx rfl (hb hby at_127) rfl rfl k_) ?_
      refine hG _ _ (fun t_ k_ => XS.iload X325.here hx rfl (hb hby at_129) rfl k_) ?_
      obtain ⟨c328, Ar328, q328, S328, M328, H328, G328⟩ := id r325_0
      have hin328 : ¬ (ix327 < 0 ∨ c328.slots.size ≤ ix327.toNatClampNeg) := inb_of S328 ⟨hixb.1, hixb.2.1⟩
      refine hG _ _ (X325.caload hx (j := ix327) (v := (.int ([(102 : Int32), (97 : Int32), (105 : Int32), (108 : Int32), (101 : Int32), (100 : Int32)].getD ix327.toNatClampNeg 0))) (by rw [e325]; exact Ar328.1) (State.isArrayOf_alike hZ.alike Ar328.2.1) Ar328.2.2 hin328 (Has.at H328 hin328 (own_getD_map Value.int [(102 : Int32), (97 : Int32), (105 : Int32), (108 : Int32), (101 : Int32), (100 : Int32)] ix327.toNatClampNeg _ 0 hixb.2.2)) (g := (mkF m 131 #[oi i0, oi i1, oi i2, oi i3, oi i4, oi i5, oi 1, oa d1, oi c294, oi 2, oa u_325, oi ix327, .unset, .unset] [(.int ix327), (.ref u_325)])) rfl rfl (hb hby at_131)) ?_
      refine hG _ _ (fun t_ k_ => XS.istore X325.here hx rfl (hb hby at_132) rfl (l' := #[oi i0, oi i1, oi i2, oi i3, oi i4, oi i5, oi 1, oa d1, oi c294, oi 2, oa u_325, oi ix327, oi ([(102 : Int32), (97 : Int32), (105 : Int32), (108 : Int32), (101 : Int32), (100 : Int32)].getD ix327.toNatClampNeg 0), .unset]) rfl k_) ?_
      refine hG _ _ (fun t_ k_ => XS.aload X325.here hx rfl (hb hby at_134) rfl rfl k_) ?_
      refine hG _ _ (fun t_ k_ => XS.iload X325.here hx rfl (hb hby at_136) rfl k_) ?_
      refine hG _ _ (fun t_ k_ => XS.iload X325.here hx rfl (hb hby at_138) rfl k_) ?_
      obtain ⟨c329, Ar329, q329, S329, M329, H329, G329⟩ := id r325_0
      obtain ⟨T329, h329, X329, e329, W329, st329⟩ := stC X325 hx hZ e325 Ar329 (j := ix327) (inb_of S329 ⟨hixb.1, hixb.2.1⟩) (g := (mkF m 140 #[oi i0, oi i1, oi i2, oi i3, oi i4, oi i5, oi 1, oa d1, oi c294, oi 2, oa u_325, oi ix327, oi ([(102 : Int32), (97 : Int32), (105 : Int32), (108 : Int32), (101 : Int32), (100 : Int32)].getD ix327.toNatClampNeg 0), .unset] [(.int c294), (.int ix327), (.ref u_325)])) rfl rfl (hb hby at_140)
      refine hG _ _ st329 ?_
      have sf330 : Safe Z consts_1 _ h325 u_325 := (Safe.keep J325 all0 H0 (Safe.new y325_0))
      have R329 := (CHr.wr W329 sf330 R325.1)
      have C329 := C325.trans R329
      have K329 : Keep h0 h329 [] := K325.wr W329 (Or.inr (Nat.le_trans (Keep.refl h0 []).1 y325_0))
      have O329 : own_Old Z h329 := O325.wr W329 (own_ge O0 y325_0)
      have V329 : Arv Z h329 u_325 ku_325 .char (6 : Int32) ([(.int 102), (.int 97), (.int 105), (.int 108), (.int 101), (.int 100)].set ix327.toNatClampNeg (.int (nar .char c294))) (.int 0) := Arv.set Ar329 q329 S329 M329 H329 G329 (fits_nar_char _) W329 ix327.toNatClampNeg rfl hixb.2.2
      have N329 := Fr.snoc X329 N325 (own_ge O0 y325_0)
      show G (T329.setTop (mkF m 141 #[oi i0, oi i1, oi i2, oi i3, oi i4, oi i5, oi 1, oa d1, oi c294, oi 2, oa u_325, oi ix327, oi ([(102 : Int32), (97 : Int32), (105 : Int32), (108 : Int32), (101 : Int32), (100 : Int32)].getD ix327.toNatClampNeg 0), .unset] []))
      rw [own_narC hr_c294] at V329
      have VV331 : Arv Z h329 u_325 ku_325 .char (Int32.ofNat ([(102 : Int32), (97 : Int32), (105 : Int32), (108 : Int32), (101 : Int32), (100 : Int32)].set ix327.toNatClampNeg c294).length) (([(102 : Int32), (97 : Int32), (105 : Int32), (108 : Int32), (101 : Int32), (100 : Int32)].set ix327.toNatClampNeg c294).map Value.int) (.int 0) := by rw [List.length_set, List.map_set]; exact V329
      show G (T329.setTop (mkF m 141 #[oi i0, oi i1, oi i2, oi i3, oi i4, oi i5, oi 1, oa d1, oi c294, oi 2, oa u_325, oi ix327, oi ([(102 : Int32), (97 : Int32), (105 : Int32), (108 : Int32), (101 : Int32), (100 : Int32)].getD ix327.toNatClampNeg 0), .unset] []))
      refine hG _ _ (fun t_ k_ => XS.iload X329.here hx rfl (hb hby at_141) rfl k_) ?_
      refine hG _ _ (fun t_ k_ => XS.iload X329.here hx rfl (hb hby at_143) rfl k_) ?_
      show G (T329.setTop (mkF m 145 #[oi i0, oi i1, oi i2, oi i3, oi i4, oi i5, oi 1, oa d1, oi c294, oi 2, oa u_325, oi ix327, oi ([(102 : Int32), (97 : Int32), (105 : Int32), (108 : Int32), (101 : Int32), (100 : Int32)].getD ix327.toNatClampNeg 0), .unset] [(.int ([(102 : Int32), (97 : Int32), (105 : Int32), (108 : Int32), (101 : Int32), (100 : Int32)].getD ix327.toNatClampNeg 0)), (.int c294)]))
      by_cases hc145_332 : c294 = ([(102 : Int32), (97 : Int32), (105 : Int32), (108 : Int32), (101 : Int32), (100 : Int32)].getD ix327.toNatClampNeg 0)
      · skip
        refine hG _ _ (fun t_ k_ => XS.icmpNo X329.here hx rfl (hb hby at_145) rfl (teq hc145_332).2 k_) ?_
        show G (T329.setTop (mkF m 148 #[oi i0, oi i1, oi i2, oi i3, oi i4, oi i5, oi 1, oa d1, oi c294, oi 2, oa u_325, oi ix327, oi ([(102 : Int32), (97 : Int32), (105 : Int32), (108 : Int32), (101 : Int32), (100 : Int32)].getD ix327.toNatClampNeg 0), .unset] []))
        refine hG _ _ (fun t_ k_ => XS.aload X329.here hx rfl (hb hby at_148) rfl rfl k_) ?_
        refine hG _ _ (fun t_ k_ => XS.goto X329.here hx rfl (pc0 := 150) (pc' := 154) rfl (hb hby at_150) (by decide) (by decide) k_) ?_
        refine hG _ _ (fun t_ k_ => XS.astore X329.here hx rfl (hb hby at_154) rfl rfl (l' := #[oi i0, oi i1, oi i2, oi i3, oi i4, oi i5, oi 1, oa d1, oi c294, oi 2, oa u_325, oi ix327, oi ([(102 : Int32), (97 : Int32), (105 : Int32), (108 : Int32), (101 : Int32), (100 : Int32)].getD ix327.toNatClampNeg 0), oa d1]) rfl k_) ?_
        obtain ⟨T333, h333, X333, e333, E333, A333, D333, -, st333⟩ := newO X329 hx hZ hown (ow hw 39 rfl) (ow hw 40 rfl) (ow hw 36 rfl) e329 (g := (mkF m 156 #[oi i0, oi i1, oi i2, oi i3, oi i4, oi i5, oi 1, oa d1, oi c294, oi 2, oa u_325, oi ix327, oi ([(102 : Int32), (97 : Int32), (105 : Int32), (108 : Int32), (101 : Int32), (100 : Int32)].getD ix327.toNatClampNeg 0), oa d1] [])) rfl (hb hby at_156) (by decide) (by decide)
        obtain ⟨b333, z333⟩ : ∃ z, z = h329.size := ⟨_, rfl⟩
        rw [← z333] at A333 D333 st333
        refine hG _ _ st333 ?_
        have R333 := (CHr.ext E333 R329.1)
        have C333 := C329.trans R333
        have K333 : Keep h0 h333 [] := K329.ext E333
        have O333 : own_Old Z h333 := O329.ext E333
        refine hG _ _ (fun t_ k_ => XS.dup X333.here hx rfl (hb hby at_159) rfl rfl k_) ?_
        refine hG _ _ (fun t_ k_ => XS.aload X333.here hx rfl (hb hby at_160) rfl rfl k_) ?_
        show G (T333.setTop (mkF m 162 #[oi i0, oi i1, oi i2, oi i3, oi i4, oi i5, oi 1, oa d1, oi c294, oi 2, oa u_325, oi ix327, oi ([(102 : Int32), (97 : Int32), (105 : Int32), (108 : Int32), (101 : Int32), (100 : Int32)].getD ix327.toNatClampNeg 0), oa d1] [(.ref u_325), (.ref b333), (.ref b333)]))
        have f335 := (VV331.ext E333)
        refine own_callI X333 hx hZ hG hown rfl (ow hw 46 rfl) (ow hw 47 rfl) (ow hw 36 rfl) (ow hw 48 rfl) (by decide) 1 (own_gstr1 l Z a0 hw b333 u_325 ku_325 ([(102 : Int32), (97 : Int32), (105 : Int32), (108 : Int32), (101 : Int32), (100 : Int32)].set ix327.toNatClampNeg c294) cpt (.int 0) .null h333 O333 A333 (D333 (Or.inr (ow hw 69 rfl)) (ty := .byte) (by decide)) (D333 (Or.inr (ow hw 71 rfl)) (ty := (.array .byte)) (by decide)) (own_ge O329 (Nat.le_of_eq z333.symm)) f335 (by rw [List.length_set]; decide) (by rw [List.length_set]; decide) (own_setrng (fun c h => own_8to16 (own_rk1 c h)) hr_c294) g0_S g1_hcpt g2_S g3_S g4_S) (by decide) (by decide) e333 (by rw [hml]; rfl) (lenOf own_pd8 rfl) (argsL := [(.ref u_325)]) (rest := [(.ref b333)]) rfl rfl (Nat.le_of_eq rfl) (hb hby at_162) (by decide) (by decide) ?_
        intro T334 h334 v334 L334 X334 e334 q334
        obtain ⟨t_334, kt_334, cd_334, nb_334, vs_334, rfl, M334, J334, y334_0, r334_0, r334_1, r334_2, r334_3, r334_4⟩ := q334
        have N334 := Fr.app N329 M334
        have sf336 : Safe Z consts_1 _ h333 b333 := (own_safeStr hZ.alike A333 (D333 (Or.inr (ow hw 71 rfl)) (ty := (.array .byte)) (by decide)))
        have R334 := (CHr.keep J334 (allS sf336 all0) R333.1)
        have C334 := C333.trans R334
        have K334 : Keep h0 h334 [] := K333.trans J334 (allS (Or.inr (Nat.le_trans K329.1 (Nat.le_of_eq z333.symm))) all0)
        have O334 : own_Old Z h334 := O333.keep J334 (allS (own_ge O329 (Nat.le_of_eq z333.symm)) all0)
        show G (T334.setTop (mkF m 165 #[oi i0, oi i1, oi i2, oi i3, oi i4, oi i5, oi 1, oa d1, oi c294, oi 2, oa u_325, oi ix327, oi ([(102 : Int32), (97 : Int32), (105 : Int32), (108 : Int32), (101 : Int32), (100 : Int32)].getD ix327.toNatClampNeg 0), oa d1] [(.ref b333)]))
        have f338 := ((((g9_E.keep J325).wr W329).ext E333).keep J334)
        have f339 := ((((g10_V.keep J325 nin0).other W329 (own_ne g9_E.lt y325_0)).ext E333).keep J334 (ninS (own_ne (Nat.lt_of_lt_of_le (Nat.lt_of_lt_of_le g9_E.lt J325.1) (Keep.of_wr W329).1) (Nat.le_of_eq z333.symm)) nin0))
        have f340 := ((((g11_E.keep J325).wr W329).ext E333).keep J334)
        have f341 := ((((g12_F.keep J325 nin0).other W329 (Or.inl (own_ne g11_E.lt y325_0))).ext E333).keep J334 (ninS (own_ne (Nat.lt_of_lt_of_le (Nat.lt_of_lt_of_le g11_E.lt J325.1) (Keep.of_wr W329).1) (Nat.le_of_eq z333.symm)) nin0))
        have f342 := ((((g13_E.keep J325).wr W329).ext E333).keep J334)
        have f343 := ((((g14_F.keep J325 nin0).other W329 (Or.inl (own_ne g13_E.lt y325_0))).ext E333).keep J334 (ninS (own_ne (Nat.lt_of_lt_of_le (Nat.lt_of_lt_of_le g13_E.lt J325.1) (Keep.of_wr W329).1) (Nat.le_of_eq z333.symm)) nin0))
        have f344 := ((((g15_F.keep J325 nin0).other W329 (Or.inl (own_ne g13_E.lt y325_0))).ext E333).keep J334 (ninS (own_ne (Nat.lt_of_lt_of_le (Nat.lt_of_lt_of_le g13_E.lt J325.1) (Keep.of_wr W329).1) (Nat.le_of_eq z333.symm)) nin0))
        have f345 := ((((g16_V.keep J325 nin0).other W329 (own_ne g16_V.lt y325_0)).ext E333).keep J334 (ninS (own_ne (Nat.lt_of_lt_of_le (Nat.lt_of_lt_of_le g16_V.lt J325.1) (Keep.of_wr W329).1) (Nat.le_of_eq z333.symm)) nin0))
        have f346 := ((((g17_E.keep J325).wr W329).ext E333).keep J334)
        have f347 := ((((g18_F.keep J325 nin0).other W329 (Or.inl (own_ne g17_E.lt y325_0))).ext E333).keep J334 (ninS (own_ne (Nat.lt_of_lt_of_le (Nat.lt_of_lt_of_le g17_E.lt J325.1) (Keep.of_wr W329).1) (Nat.le_of_eq z333.symm)) nin0))
        have f348 := ((((g19_E.keep J325).wr W329).ext E333).keep J334)
        have f349 := ((((g20_F.keep J325 nin0).other W329 (Or.inl (own_ne g19_E.lt y325_0))).ext E333).keep J334 (ninS (own_ne (Nat.lt_of_lt_of_le (Nat.lt_of_lt_of_le g19_E.lt J325.1) (Keep.of_wr W329).1) (Nat.le_of_eq z333.symm)) nin0))
        have f350 := ((((g21_F.keep J325 nin0).other W329 (Or.inl (own_ne g19_E.lt y325_0))).ext E333).keep J334 (ninS (own_ne (Nat.lt_of_lt_of_le (Nat.lt_of_lt_of_le g19_E.lt J325.1) (Keep.of_wr W329).1) (Nat.le_of_eq z333.symm)) nin0))
        have f351 := ((((g22_V.keep J325 nin0).other W329 (own_ne g22_V.lt y325_0)).ext E333).keep J334 (ninS (own_ne (Nat.lt_of_lt_of_le (Nat.lt_of_lt_of_le g22_V.lt J325.1) (Keep.of_wr W329).1) (Nat.le_of_eq z333.symm)) nin0))
        have f352 := ((((g23_E.keep J325).wr W329).ext E333).keep J334)
        have f353 := ((((g24_F.keep J325 nin0).other W329 (Or.inl (own_ne g23_E.lt y325_0))).ext E333).keep J334 (ninS (own_ne (Nat.lt_of_lt_of_le (Nat.lt_of_lt_of_le g23_E.lt J325.1) (Keep.of_wr W329).1) (Nat.le_of_eq z333.symm)) nin0))
        have f354 := ((((g25_E.keep J325).wr W329).ext E333).keep J334)
        have f355 := ((((g26_F.keep J325 nin0).other W329 (Or.inl (own_ne g25_E.lt y325_0))).ext E333).keep J334 (ninS (own_ne (Nat.lt_of_lt_of_le (Nat.lt_of_lt_of_le g25_E.lt J325.1) (Keep.of_wr W329).1) (Nat.le_of_eq z333.symm)) nin0))
        have f356 := ((((g27_F.keep J325 nin0).other W329 (Or.inl (own_ne g25_E.lt y325_0))).ext E333).keep J334 (ninS (own_ne (Nat.lt_of_lt_of_le (Nat.lt_of_lt_of_le g25_E.lt J325.1) (Keep.of_wr W329).1) (Nat.le_of_eq z333.symm)) nin0))
        have f357 := ((((g28_V.keep J325 nin0).other W329 (own_ne g28_V.lt y325_0)).ext E333).keep J334 (ninS (own_ne (Nat.lt_of_lt_of_le (Nat.lt_of_lt_of_le g28_V.lt J325.1) (Keep.of_wr W329).1) (Nat.le_of_eq z333.symm)) nin0))
        refine own_callS X334 hx hZ hG hown (ow hw 12 rfl) (ow hw 13 rfl) (ow hw 2 rfl) (ow hw 14 rfl) (by decide) 0 (own_find1 l Z a0 hw b333 t_334 kt_334 ([(102 : Int32), (97 : Int32), (105 : Int32), (108 : Int32), (101 : Int32), (100 : Int32)].set ix327.toNatClampNeg c294) cd_334 nb_334 vs_334 cpt d0 d1 d2 t0 t1 t2 v0 v1 v2 kv0 kv1 kv2 vals kl h334 O334 r334_0 r334_1 r334_2 r334_3 r334_4 (by rw [List.length_set]; decide) (own_setrng (fun c h => own_8to16 (own_rk1 c h)) hr_c294) g0_S g1_hcpt g8_S f338 f339 f340 f341 f342 f343 f344 f345 f346 f347 f348 f349 f350 f351 f352 f353 f354 f355 f356 f357 (own_ne (Nat.lt_of_lt_of_le (Nat.lt_of_lt_of_le g13_E.lt J325.1) (Keep.of_wr W329).1) (Nat.le_of_eq z333.symm)) (own_ne (Nat.lt_of_lt_of_le (Nat.lt_of_lt_of_le g19_E.lt J325.1) (Keep.of_wr W329).1) (Nat.le_of_eq z333.symm)) (by rw [hc145_332]; exact own_set_same hixb.2.2)) (by decide) (by decide) e334 (by rw [hml]; rfl) (lenOf own_pd13 rfl) (argsL := [(.ref b333)]) (rest := []) rfl rfl (Nat.le_of_eq rfl) (hb hby at_165) (by decide) (by decide) ?_
        intro T337 h337 v337 L337 X337 e337 q337
        obtain ⟨rfl, M337, J337⟩ := q337
        have N337 := Fr.app N334 M337
        have R337 := (CHr.keep J337 all0 R334.1)
        have C337 := C334.trans R337
        have K337 : Keep h0 h337 [] := K334.trans J337 all0
        have O337 : own_Old Z h337 := O334.keep J337 all0
        refine hG _ _ (fun t_ k_ => XS.aload X337.here hx rfl (hb hby at_168) rfl rfl k_) ?_
        show G (T337.setTop (mkF m 170 #[oi i0, oi i1, oi i2, oi i3, oi i4, oi i5, oi 1, oa d1, oi c294, oi 2, oa u_325, oi ix327, oi ([(102 : Int32), (97 : Int32), (105 : Int32), (108 : Int32), (101 : Int32), (100 : Int32)].getD ix327.toNatClampNeg 0), oa d1] [(.ref d1), (.ref d1)]))
        refine hG _ _ (fun t_ k_ => Jvm.RoadKit.acmp (g := (mkF m 170 #[oi i0, oi i1, oi i2, oi i3, oi i4, oi i5, oi 1, oa d1, oi c294, oi 2, oa u_325, oi ix327, oi ([(102 : Int32), (97 : Int32), (105 : Int32), (108 : Int32), (101 : Int32), (100 : Int32)].getD ix327.toNatClampNeg 0), oa d1] [(.ref d1), (.ref d1)])) X337 hx rfl rfl rfl (pc0 := 170) (pc' := 173) (same := true) rfl (hb hby at_170) rfl (decide_eq_true rfl) (by decide) (by decide) k_) ?_
        show G (T337.setTop (mkF m 173 #[oi i0, oi i1, oi i2, oi i3, oi i4, oi i5, oi 1, oa d1, oi c294, oi 2, oa u_325, oi ix327, oi ([(102 : Int32), (97 : Int32), (105 : Int32), (108 : Int32), (101 : Int32), (100 : Int32)].getD ix327.toNatClampNeg 0), oa d1] []))
        refine hG _ _ (fun t_ k_ => XS.iconst X337.here hx rfl (hb hby at_173) k_) ?_
        refine hG _ _ (fun t_ k_ => XS.goto X337.here hx rfl (pc0 := 174) (pc' := 178) rfl (hb hby at_174) (by decide) (by decide) k_) ?_
        show G (T337.setTop (mkF m 178 #[oi i0, oi i1, oi i2, oi i3, oi i4, oi i5, oi 1, oa d1, oi c294, oi 2, oa u_325, oi ix327, oi ([(102 : Int32), (97 : Int32), (105 : Int32), (108 : Int32), (101 : Int32), (100 : Int32)].getD ix327.toNatClampNeg 0), oa d1] [(.int 1)]))
        exact own_retNW hR hret (by simp) X337 hx (hb hby at_178) e337 SI0 (Nat.le_trans (Nat.le_trans (Nat.le_trans (Nat.le_trans (Nat.le_trans (Nat.le_refl _) R325.2.1) R329.2.1) R333.2.1) R334.2.1) R337.2.1) hZ C337 (by decide) (by decide) ⟨rfl, N337, K337⟩
      · skip
        refine hG _ _ (fun t_ k_ => XS.icmpYes X329.here hx rfl (pc0 := 145) (pc' := 153) rfl (hb hby at_145) rfl (feq hc145_332).2 (by decide) (by decide) k_) ?_
        show G (T329.setTop (mkF m 153 #[oi i0, oi i1, oi i2, oi i3, oi i4, oi i5, oi 1, oa d1, oi c294, oi 2, oa u_325, oi ix327, oi ([(102 : Int32), (97 : Int32), (105 : Int32), (108 : Int32), (101 : Int32), (100 : Int32)].getD ix327.toNatClampNeg 0), .unset] []))
        refine hG _ _ (fun t_ k_ => XS.aconstNull X329.here hx rfl (hb hby at_153) k_) ?_
        refine hG _ _ (fun t_ k_ => XS.astore X329.here hx rfl (hb hby at_154) rfl rfl (l' := #[oi i0, oi i1, oi i2, oi i3, oi i4, oi i5, oi 1, oa d1, oi c294, oi 2, oa u_325, oi ix327, oi ([(102 : Int32), (97 : Int32), (105 : Int32), (108 : Int32), (101 : Int32), (100 : Int32)].getD ix327.toNatClampNeg 0), .val .null]) rfl k_) ?_
        obtain ⟨T358, h358, X358, e358, E358, A358, D358, -, st358⟩ := newO X329 hx hZ hown (ow hw 39 rfl) (ow hw 40 rfl) (ow hw 36 rfl) e329 (g := (mkF m 156 #[oi i0, oi i1, oi i2, oi i3, oi i4, oi i5, oi 1, oa d1, oi c294, oi 2, oa u_325, oi ix327, oi ([(102 : Int32), (97 : Int32), (105 : Int32), (108 : Int32), (101 : Int32), (100 : Int32)].getD ix327.toNatClampNeg 0), .val .null] [])) rfl (hb hby at_156) (by decide) (by decide)
        obtain ⟨b358, z358⟩ : ∃ z, z = h329.size := ⟨_, rfl⟩
        rw [← z358] at A358 D358 st358
        refine hG _ _ st358 ?_
        have R358 := (CHr.ext E358 R329.1)
        have C358 := C329.trans R358
        have K358 : Keep h0 h358 [] := K329.ext E358
        have O358 : own_Old Z h358 := O329.ext E358
        refine hG _ _ (fun t_ k_ => XS.dup X358.here hx rfl (hb hby at_159) rfl rfl k_) ?_
        refine hG _ _ (fun t_ k_ => XS.aload X358.here hx rfl (hb hby at_160) rfl rfl k_) ?_
        show G (T358.setTop (mkF m 162 #[oi i0, oi i1, oi i2, oi i3, oi i4, oi i5, oi 1, oa d1, oi c294, oi 2, oa u_325, oi ix327, oi ([(102 : Int32), (97 : Int32), (105 : Int32), (108 : Int32), (101 : Int32), (100 : Int32)].getD ix327.toNatClampNeg 0), .val .null] [(.ref u_325), (.ref b358), (.ref b358)]))
        have f360 := (VV331.ext E358)
        refine own_callI X358 hx hZ hG hown rfl (ow hw 46 rfl) (ow hw 47 rfl) (ow hw 36 rfl) (ow hw 48 rfl) (by decide) 1 (own_gstr1 l Z a0 hw b358 u_325 ku_325 ([(102 : Int32), (97 : Int32), (105 : Int32), (108 : Int32), (101 : Int32), (100 : Int32)].set ix327.toNatClampNeg c294) cpt (.int 0) .null h358 O358 A358 (D358 (Or.inr (ow hw 69 rfl)) (ty := .byte) (by decide)) (D358 (Or.inr (ow hw 71 rfl)) (ty := (.array .byte)) (by decide)) (own_ge O329 (Nat.le_of_eq z358.symm)) f360 (by rw [List.length_set]; decide) (by rw [List.length_set]; decide) (own_setrng (fun c h => own_8to16 (own_rk1 c h)) hr_c294) g0_S g1_hcpt g2_S g3_S g4_S) (by decide) (by decide) e358 (by rw [hml]; rfl) (lenOf own_pd8 rfl) (argsL := [(.ref u_325)]) (rest := [(.ref b358)]) rfl rfl (Nat.le_of_eq rfl) (hb hby at_162) (by decide) (by decide) ?_
        intro T359 h359 v359 L359 X359 e359 q359
        obtain ⟨t_359, kt_359, cd_359, nb_359, vs_359, rfl, M359, J359, y359_0, r359_0, r359_1, r359_2, r359_3, r359_4⟩ := q359
        have N359 := Fr.app N329 M359
        have sf361 : Safe Z consts_1 _ h358 b358 := (own_safeStr hZ.alike A358 (D358 (Or.inr (ow hw 71 rfl)) (ty := (.array .byte)) (by decide)))
        have R359 := (CHr.keep J359 (allS sf361 all0) R358.1)
        have C359 := C358.trans R359
        have K359 : Keep h0 h359 [] := K358.trans J359 (allS (Or.inr (Nat.le_trans K329.1 (Nat.le_of_eq z358.symm))) all0)
        have O359 : own_Old Z h359 := O358.keep J359 (allS (own_ge O329 (Nat.le_of_eq z358.symm)) all0)
        show G (T359.setTop (mkF m 165 #[oi i0, oi i1, oi i2, oi i3, oi i4, oi i5, oi 1, oa d1, oi c294, oi 2, oa u_325, oi ix327, oi ([(102 : Int32), (97 : Int32), (105 : Int32), (108 : Int32), (101 : Int32), (100 : Int32)].getD ix327.toNatClampNeg 0), .val .null] [(.ref b358)]))
        have f363 := ((((g9_E.keep J325).wr W329).ext E358).keep J359)
        have f364 := ((((g10_V.keep J325 nin0).other W329 (own_ne g9_E.lt y325_0)).ext E358).keep J359 (ninS (own_ne (Nat.lt_of_lt_of_le (Nat.lt_of_lt_of_le g9_E.lt J325.1) (Keep.of_wr W329).1) (Nat.le_of_eq z358.symm)) nin0))
        have f365 := ((((g11_E.keep J325).wr W329).ext E358).keep J359)
        have f366 := ((((g12_F.keep J325 nin0).other W329 (Or.inl (own_ne g11_E.lt y325_0))).ext E358).keep J359 (ninS (own_ne (Nat.lt_of_lt_of_le (Nat.lt_of_lt_of_le g11_E.lt J325.1) (Keep.of_wr W329).1) (Nat.le_of_eq z358.symm)) nin0))
        have f367 := ((((g13_E.keep J325).wr W329).ext E358).keep J359)
        have f368 := ((((g14_F.keep J325 nin0).other W329 (Or.inl (own_ne g13_E.lt y325_0))).ext E358).keep J359 (ninS (own_ne (Nat.lt_of_lt_of_le (Nat.lt_of_lt_of_le g13_E.lt J325.1) (Keep.of_wr W329).1) (Nat.le_of_eq z358.symm)) nin0))
        have f369 := ((((g15_F.keep J325 nin0).other W329 (Or.inl (own_ne g13_E.lt y325_0))).ext E358).keep J359 (ninS (own_ne (Nat.lt_of_lt_of_le (Nat.lt_of_lt_of_le g13_E.lt J325.1) (Keep.of_wr W329).1) (Nat.le_of_eq z358.symm)) nin0))
        have f370 := ((((g16_V.keep J325 nin0).other W329 (own_ne g16_V.lt y325_0)).ext E358).keep J359 (ninS (own_ne (Nat.lt_of_lt_of_le (Nat.lt_of_lt_of_le g16_V.lt J325.1) (Keep.of_wr W329).1) (Nat.le_of_eq z358.symm)) nin0))
        have f371 := ((((g17_E.keep J325).wr W329).ext E358).keep J359)
        have f372 := ((((g18_F.keep J325 nin0).other W329 (Or.inl (own_ne g17_E.lt y325_0))).ext E358).keep J359 (ninS (own_ne (Nat.lt_of_lt_of_le (Nat.lt_of_lt_of_le g17_E.lt J325.1) (Keep.of_wr W329).1) (Nat.le_of_eq z358.symm)) nin0))
        have f373 := ((((g19_E.keep J325).wr W329).ext E358).keep J359)
        have f374 := ((((g20_F.keep J325 nin0).other W329 (Or.inl (own_ne g19_E.lt y325_0))).ext E358).keep J359 (ninS (own_ne (Nat.lt_of_lt_of_le (Nat.lt_of_lt_of_le g19_E.lt J325.1) (Keep.of_wr W329).1) (Nat.le_of_eq z358.symm)) nin0))
        have f375 := ((((g21_F.keep J325 nin0).other W329 (Or.inl (own_ne g19_E.lt y325_0))).ext E358).keep J359 (ninS (own_ne (Nat.lt_of_lt_of_le (Nat.lt_of_lt_of_le g19_E.lt J325.1) (Keep.of_wr W329).1) (Nat.le_of_eq z358.symm)) nin0))
        have f376 := ((((g22_V.keep J325 nin0).other W329 (own_ne g22_V.lt y325_0)).ext E358).keep J359 (ninS (own_ne (Nat.lt_of_lt_of_le (Nat.lt_of_lt_of_le g22_V.lt J325.1) (Keep.of_wr W329).1) (Nat.le_of_eq z358.symm)) nin0))
        have f377 := ((((g23_E.keep J325).wr W329).ext E358).keep J359)
        have f378 := ((((g24_F.keep J325 nin0).other W329 (Or.inl (own_ne g23_E.lt y325_0))).ext E358).keep J359 (ninS (own_ne (Nat.lt_of_lt_of_le (Nat.lt_of_lt_of_le g23_E.lt J325.1) (Keep.of_wr W329).1) (Nat.le_of_eq z358.symm)) nin0))
        have f379 := ((((g25_E.keep J325).wr W329).ext E358).keep J359)
        have f380 := ((((g26_F.keep J325 nin0).other W329 (Or.inl (own_ne g25_E.lt y325_0))).ext E358).keep J359 (ninS (own_ne (Nat.lt_of_lt_of_le (Nat.lt_of_lt_of_le g25_E.lt J325.1) (Keep.of_wr W329).1) (Nat.le_of_eq z358.symm)) nin0))
        have f381 := ((((g27_F.keep J325 nin0).other W329 (Or.inl (own_ne g25_E.lt y325_0))).ext E358).keep J359 (ninS (own_ne (Nat.lt_of_lt_of_le (Nat.lt_of_lt_of_le g25_E.lt J325.1) (Keep.of_wr W329).1) (Nat.le_of_eq z358.symm)) nin0))
        have f382 := ((((g28_V.keep J325 nin0).other W329 (own_ne g28_V.lt y325_0)).ext E358).keep J359 (ninS (own_ne (Nat.lt_of_lt_of_le (Nat.lt_of_lt_of_le g28_V.lt J325.1) (Keep.of_wr W329).1) (Nat.le_of_eq z358.symm)) nin0))
        refine own_callS X359 hx hZ hG hown (ow hw 12 rfl) (ow hw 13 rfl) (ow hw 2 rfl) (ow hw 14 rfl) (by decide) 0 (own_findN l Z a0 hw b358 t_359 kt_359 ([(102 : Int32), (97 : Int32), (105 : Int32), (108 : Int32), (101 : Int32), (100 : Int32)].set ix327.toNatClampNeg c294) cd_359 nb_359 vs_359 cpt d0 d1 d2 t0 t1 t2 v0 v1 v2 kv0 kv1 kv2 vals kl h359 O359 r359_0 r359_1 r359_2 r359_3 r359_4 (by rw [List.length_set]; decide) (own_setrng (fun c h => own_8to16 (own_rk1 c h)) hr_c294) g0_S g1_hcpt g8_S f363 f364 f365 f366 f367 f368 f369 f370 f371 f372 f373 f374 f375 f376 f377 f378 f379 f380 f381 f382 (own_ne (Nat.lt_of_lt_of_le (Nat.lt_of_lt_of_le g13_E.lt J325.1) (Keep.of_wr W329).1) (Nat.le_of_eq z358.symm)) (own_ne (Nat.lt_of_lt_of_le (Nat.lt_of_lt_of_le g19_E.lt J325.1) (Keep.of_wr W329).1) (Nat.le_of_eq z358.symm)) (own_ne (Nat.lt_of_lt_of_le (Nat.lt_of_lt_of_le g25_E.lt J325.1) (Keep.of_wr W329).1) (Nat.le_of_eq z358.symm)) (own_ne_len (by rw [List.length_set]; decide)) (own_set_ne hixb.2.2 hc145_332) (own_ne_len (by rw [List.length_set]; decide))) (by decide) (by decide) e359 (by rw [hml]; rfl) (lenOf own_pd13 rfl) (argsL := [(.ref b358)]) (rest := []) rfl rfl (Nat.le_of_eq rfl) (hb hby at_165) (by decide) (by decide) ?_
        intro T362 h362 v362 L362 X362 e362 q362
        obtain ⟨rfl, M362, J362⟩ := q362
        have N362 := Fr.app N359 M362
        have R362 := (CHr.keep J362 all0 R359.1)
        have C362 := C359.trans R362
        have K362 : Keep h0 h362 [] := K359.trans J362 all0
        have O362 : own_Old Z h362 := O359.keep J362 all0
        refine hG _ _ (fun t_ k_ => XS.aload X362.here hx rfl (hb hby at_168) rfl rfl k_) ?_
        show G (T362.setTop (mkF m 170 #[oi i0, oi i1, oi i2, oi i3, oi i4, oi i5, oi 1, oa d1, oi c294, oi 2, oa u_325, oi ix327, oi ([(102 : Int32), (97 : Int32), (105 : Int32), (108 : Int32), (101 : Int32), (100 : Int32)].getD ix327.toNatClampNeg 0), .val .null] [.null, .null]))
        refine hG _ _ (fun t_ k_ => Jvm.RoadKit.acmp (g := (mkF m 170 #[oi i0, oi i1, oi i2, oi i3, oi i4, oi i5, oi 1, oa d1, oi c294, oi 2, oa u_325, oi ix327, oi ([(102 : Int32), (97 : Int32), (105 : Int32), (108 : Int32), (101 : Int32), (100 : Int32)].getD ix327.toNatClampNeg 0), .val .null] [.null, .null])) X362 hx rfl rfl rfl (pc0 := 170) (pc' := 173) (same := true) rfl (hb hby at_170) rfl (decide_eq_true rfl) (by decide) (by decide) k_) ?_
        show G (T362.setTop (mkF m 173 #[oi i0, oi i1, oi i2, oi i3, oi i4, oi i5, oi 1, oa d1, oi c294, oi 2, oa u_325, oi ix327, oi ([(102 : Int32), (97 : Int32), (105 : Int32), (108 : Int32), (101 : Int32), (100 : Int32)].getD ix327.toNatClampNeg 0), .val .null] []))
        refine hG _ _ (fun t_ k_ => XS.iconst X362.here hx rfl (hb hby at_173) k_) ?_
        refine hG _ _ (fun t_ k_ => XS.goto X362.here hx rfl (pc0 := 174) (pc' := 178) rfl (hb hby at_174) (by decide) (by decide) k_) ?_
        show G (T362.setTop (mkF m 178 #[oi i0, oi i1, oi i2, oi i3, oi i4, oi i5, oi 1, oa d1, oi c294, oi 2, oa u_325, oi ix327, oi ([(102 : Int32), (97 : Int32), (105 : Int32), (108 : Int32), (101 : Int32), (100 : Int32)].getD ix327.toNatClampNeg 0), .val .null] [(.int 1)]))
        exact own_retNW hR hret (by simp) X362 hx (hb hby at_178) e362 SI0 (Nat.le_trans (Nat.le_trans (Nat.le_trans (Nat.le_trans (Nat.le_trans (Nat.le_refl _) R325.2.1) R329.2.1) R358.2.1) R359.2.1) R362.2.1) hZ C362 (by decide) (by decide) ⟨rfl, N362, K362⟩
    · skip
      show G (T293.setTop (mkF m 52 #[oi i0, oi i1, oi i2, oi i3, oi i4, oi i5, oi 1, oa d1, oi c294, oi 3, .unset, .unset, .unset, .unset] []))
      refine hG _ _ (fun t_ k_ => XS.iload X293.here hx rfl (hb hby at_52) rfl k_) ?_
      show G (T293.setTop (mkF m 54 #[oi i0, oi i1, oi i2, oi i3, oi i4, oi i5, oi 1, oa d1, oi c294, oi 3, .unset, .unset, .unset, .unset] [(.int 3)]))
      refine hG _ _ (fun t_ k_ => XS.ifYes X293.here hx rfl (pc0 := 54) (pc' := 76) rfl (hb hby at_54) rfl ((if0 _ _).trans (feq (by decide)).2) (by decide) (by decide) k_) ?_
      show G (T293.setTop (mkF m 76 #[oi i0, oi i1, oi i2, oi i3, oi i4, oi i5, oi 1, oa d1, oi c294, oi 3, .unset, .unset, .unset, .unset] []))
      refine hG _ _ (fun t_ k_ => XS.iload X293.here hx rfl (hb hby at_76) rfl k_) ?_
      refine hG _ _ (fun t_ k_ => XS.iconst X293.here hx rfl (hb hby at_78) k_) ?_
      show G (T293.setTop (mkF m 79 #[oi i0, oi i1, oi i2, oi i3, oi i4, oi i5, oi 1, oa d1, oi c294, oi 3, .unset, .unset, .unset, .unset] [(.int 1), (.int 3)]))
      refine hG _ _ (fun t_ k_ => XS.icmpYes X293.here hx rfl (pc0 := 79) (pc' := 104) rfl (hb hby at_79) rfl (feq (by decide)).2 (by decide) (by decide) k_) ?_
      show G (T293.setTop (mkF m 104 #[oi i0, oi i1, oi i2, oi i3, oi i4, oi i5, oi 1, oa d1, oi c294, oi 3, .unset, .unset, .unset, .unset] []))
      refine hG _ _ (fun t_ k_ => XS.iload X293.here hx rfl (hb hby at_104) rfl k_) ?_
      refine hG _ _ (fun t_ k_ => XS.iconst X293.here hx rfl (hb hby at_106) k_) ?_
      show G (T293.setTop (mkF m 107 #[oi i0, oi i1, oi i2, oi i3, oi i4, oi i5, oi 1, oa d1, oi c294, oi 3, .unset, .unset, .unset, .unset] [(.int 2), (.int 3)]))
      refine hG _ _ (fun t_ k_ => XS.icmpYes X293.here hx rfl (pc0 := 107) (pc' := 179) rfl (hb hby at_107) rfl (feq (by decide)).2 (by decide) (by decide) k_) ?_
      show G (T293.setTop (mkF m 179 #[oi i0, oi i1, oi i2, oi i3, oi i4, oi i5, oi 1, oa d1, oi c294, oi 3, .unset, .unset, .unset, .unset] []))
      refine hG _ _ (fun t_ k_ => XS.iload X293.here hx rfl (hb hby at_179) rfl k_) ?_
      refine hG _ _ (fun t_ k_ => XS.iconst X293.here hx rfl (hb hby at_181) k_) ?_
      show G (T293.setTop (mkF m 182 #[oi i0, oi i1, oi i2, oi i3, oi i4, oi i5, oi 1, oa d1, oi c294, oi 3, .unset, .unset, .unset, .unset] [(.int 3), (.int 3)]))
      refine hG _ _ (fun t_ k_ => XS.icmpNo X293.here hx rfl (hb hby at_182) rfl (teq (by decide)).2 k_) ?_
      show G (T293.setTop (mkF m 185 #[oi i0, oi i1, oi i2, oi i3, oi i4, oi i5, oi 1, oa d1, oi c294, oi 3, .unset, .unset, .unset, .unset] []))
      obtain ⟨T383, h383, X383, e383, E383, A383, D383, -, st383⟩ := newO X293 hx hZ hown (ow hw 39 rfl) (ow hw 40 rfl) (ow hw 36 rfl) e293 (g := (mkF m 185 #[oi i0, oi i1, oi i2, oi i3, oi i4, oi i5, oi 1, oa d1, oi c294, oi 3, .unset, .unset, .unset, .unset] [])) rfl (hb hby at_185) (by decide) (by decide)
      obtain ⟨b383, z383⟩ : ∃ z, z = h0.size := ⟨_, rfl⟩
      rw [← z383] at A383 D383 st383
      refine hG _ _ st383 ?_
      have R383 := (CHr.ext E383 H0)
      have C383 := (CHr.refl H0).trans R383
      have K383 : Keep h0 h383 [] := (Keep.refl h0 []).ext E383
      have O383 : own_Old Z h383 := O0.ext E383
      refine hG _ _ (fun t_ k_ => XS.dup X383.here hx rfl (hb hby at_188) rfl rfl k_) ?_
      refine hG _ _ (fun t_ k_ => XS.iload X383.here hx rfl (hb hby at_189) rfl k_) ?_
      refine hG _ _ (fun t_ k_ => XS.iload X383.here hx rfl (hb hby at_191) rfl k_) ?_
      show G (T383.setTop (mkF m 193 #[oi i0, oi i1, oi i2, oi i3, oi i4, oi i5, oi 1, oa d1, oi c294, oi 3, .unset, .unset, .unset, .unset] [(.int c294), (.int 1), (.ref b383), (.ref b383)]))
      refine own_callS X383 hx hZ hG hown (ow hw 84 rfl) (ow hw 85 rfl) (ow hw 43 rfl) (ow hw 86 rfl) (by decide) 2 (own_mk_ext_1 l Z a0 hw c294 h383 O383 hr_c294) (by decide) (by decide) e383 (by rw [hml]; rfl) (lenOf own_pd15 rfl) (argsL := [(.int 1), (.int c294)]) (rest := [(.ref b383), (.ref b383)]) rfl rfl (Nat.le_of_eq rfl) (hb hby at_193) (by decide) (by decide) ?_
      intro T384 h384 v384 L384 X384 e384 q384
      obtain ⟨u_384, ku_384, rfl, M384, J384, y384_0, r384_0⟩ := q384
      have N384 := Fr.app N0 M384
      have R384 := (CHr.keep J384 all0 R383.1)
      have C384 := C383.trans R384
      have K384 : Keep h0 h384 [] := K383.trans J384 all0
      have O384 : own_Old Z h384 := O383.keep J384 all0
      show G (T384.setTop (mkF m 196 #[oi i0, oi i1, oi i2, oi i3, oi i4, oi i5, oi 1, oa d1, oi c294, oi 3, .unset, .unset, .unset, .unset] [(.ref u_384), (.ref b383), (.ref b383)]))
      have f386 := (A383.keep J384)
      have f387 := ((D383 (Or.inr (ow hw 69 rfl)) (ty := .byte) (by decide)).keep J384 nin0)
      have f388 := ((D383 (Or.inr (ow hw 71 rfl)) (ty := (.array .byte)) (by decide)).keep J384 nin0)
      refine own_callI X384 hx hZ hG hown rfl (ow hw 46 rfl) (ow hw 47 rfl) (ow hw 36 rfl) (ow hw 48 rfl) (by decide) 1 (own_gstr1 l Z a0 hw b383 u_384 ku_384 [(102 : Int32), (97 : Int32), (105 : Int32), (108 : Int32), (101 : Int32), (100 : Int32), c294] cpt (.int 0) .null h384 O384 f386 f387 f388 (own_ge O0 (Nat.le_of_eq z383.symm)) r384_0 (Nat.le_of_ble_eq_true rfl) (Nat.le_of_ble_eq_true rfl) (own_allc (by decide) (own_allc (by decide) (own_allc (by decide) (own_allc (by decide) (own_allc (by decide) (own_allc (by decide) (own_allc hr_c294 own_alln))))))) g0_S g1_hcpt g2_S g3_S g4_S) (by decide) (by decide) e384 (by rw [hml]; rfl) (lenOf own_pd8 rfl) (argsL := [(.ref u_384)]) (rest := [(.ref b383)]) rfl rfl (Nat.le_of_eq rfl) (hb hby at_196) (by decide) (by decide) ?_
      intro T385 h385 v385 L385 X385 e385 q385
      obtain ⟨t_385, kt_385, cd_385, nb_385, vs_385, rfl, M385, J385, y385_0, r385_0, r385_1, r385_2, r385_3, r385_4⟩ := q385
      have N385 := Fr.app N384 M385
      have sf389 : Safe Z consts_1 _ h384 b383 := (own_safeStr hZ.alike f386 f388)
      have R385 := (CHr.keep J385 (allS sf389 all0) R384.1)
      have C385 := C384.trans R385
      have K385 : Keep h0 h385 [] := K384.trans J385 (allS (Or.inr (Nat.le_trans (Keep.refl h0 []).1 (Nat.le_of_eq z383.symm))) all0)
      have O385 : own_Old Z h385 := O384.keep J385 (allS (own_ge O0 (Nat.le_of_eq z383.symm)) all0)
      show G (T385.setTop (mkF m 199 #[oi i0, oi i1, oi i2, oi i3, oi i4, oi i5, oi 1, oa d1, oi c294, oi 3, .unset, .unset, .unset, .unset] [(.ref b383)]))
      have f391 := (((g9_E.ext E383).keep J384).keep J385)
      have f392 := (((g10_V.ext E383).keep J384 nin0).keep J385 (ninS (own_ne g9_E.lt (Nat.le_of_eq z383.symm)) nin0))
      have f393 := (((g11_E.ext E383).keep J384).keep J385)
      have f394 := (((g12_F.ext E383).keep J384 nin0).keep J385 (ninS (own_ne g11_E.lt (Nat.le_of_eq z383.symm)) nin0))
      have f395 := (((g13_E.ext E383).keep J384).keep J385)
      have f396 := (((g14_F.ext E383).keep J384 nin0).keep J385 (ninS (own_ne g13_E.lt (Nat.le_of_eq z383.symm)) nin0))
      have f397 := (((g15_F.ext E383).keep J384 nin0).keep J385 (ninS (own_ne g13_E.lt (Nat.le_of_eq z383.symm)) nin0))
      have f398 := (((g16_V.ext E383).keep J384 nin0).keep J385 (ninS (own_ne g16_V.lt (Nat.le_of_eq z383.symm)) nin0))
      have f399 := (((g17_E.ext E383).keep J384).keep J385)
      have f400 := (((g18_F.ext E383).keep J384 nin0).keep J385 (ninS (own_ne g17_E.lt (Nat.le_of_eq z383.symm)) nin0))
      have f401 := (((g19_E.ext E383).keep J384).keep J385)
      have f402 := (((g20_F.ext E383).keep J384 nin0).keep J385 (ninS (own_ne g19_E.lt (Nat.le_of_eq z383.symm)) nin0))
      have f403 := (((g21_F.ext E383).keep J384 nin0).keep J385 (ninS (own_ne g19_E.lt (Nat.le_of_eq z383.symm)) nin0))
      have f404 := (((g22_V.ext E383).keep J384 nin0).keep J385 (ninS (own_ne g22_V.lt (Nat.le_of_eq z383.symm)) nin0))
      have f405 := (((g23_E.ext E383).keep J384).keep J385)
      have f406 := (((g24_F.ext E383).keep J384 nin0).keep J385 (ninS (own_ne g23_E.lt (Nat.le_of_eq z383.symm)) nin0))
      have f407 := (((g25_E.ext E383).keep J384).keep J385)
      have f408 := (((g26_F.ext E383).keep J384 nin0).keep J385 (ninS (own_ne g25_E.lt (Nat.le_of_eq z383.symm)) nin0))
      have f409 := (((g27_F.ext E383).keep J384 nin0).keep J385 (ninS (own_ne g25_E.lt (Nat.le_of_eq z383.symm)) nin0))
      have f410 := (((g28_V.ext E383).keep J384 nin0).keep J385 (ninS (own_ne g28_V.lt (Nat.le_of_eq z383.symm)) nin0))
      refine own_callS X385 hx hZ hG hown (ow hw 12 rfl) (ow hw 13 rfl) (ow hw 2 rfl) (ow hw 14 rfl) (by decide) 0 (own_findN l Z a0 hw b383 t_385 kt_385 [(102 : Int32), (97 : Int32), (105 : Int32), (108 : Int32), (101 : Int32), (100 : Int32), c294] cd_385 nb_385 vs_385 cpt d0 d1 d2 t0 t1 t2 v0 v1 v2 kv0 kv1 kv2 vals kl h385 O385 r385_0 r385_1 r385_2 r385_3 r385_4 (Nat.le_of_ble_eq_true rfl) (own_allc (by decide) (own_allc (by decide) (own_allc (by decide) (own_allc (by decide) (own_allc (by decide) (own_allc (by decide) (own_allc hr_c294 own_alln))))))) g0_S g1_hcpt g8_S f391 f392 f393 f394 f395 f396 f397 f398 f399 f400 f401 f402 f403 f404 f405 f406 f407 f408 f409 f410 (own_ne g13_E.lt (Nat.le_of_eq z383.symm)) (own_ne g19_E.lt (Nat.le_of_eq z383.symm)) (own_ne g25_E.lt (Nat.le_of_eq z383.symm)) (fun q => absurd (List.cons.inj q).1 (by decide)) (own_ne_len (fun q => by simp at q)) (own_ne_len (fun q => by simp at q))) (by decide) (by decide) e385 (by rw [hml]; rfl) (lenOf own_pd13 rfl) (argsL := [(.ref b383)]) (rest := []) rfl rfl (Nat.le_of_eq rfl) (hb hby at_199) (by decide) (by decide) ?_
      intro T390 h390 v390 L390 X390 e390 q390
      obtain ⟨rfl, M390, J390⟩ := q390
      have N390 := Fr.app N385 M390
      have R390 := (CHr.keep J390 all0 R385.1)
      have C390 := C385.trans R390
      have K390 : Keep h0 h390 [] := K385.trans J390 all0
      have O390 : own_Old Z h390 := O385.keep J390 all0
      show G (T390.setTop (mkF m 202 #[oi i0, oi i1, oi i2, oi i3, oi i4, oi i5, oi 1, oa d1, oi c294, oi 3, .unset, .unset, .unset, .unset] [.null]))
      refine hG _ _ (fun t_ k_ => XS.ifnonnullNo X390.here hx rfl (hb hby at_202) rfl k_) ?_
      refine hG _ _ (fun t_ k_ => XS.iconst X390.here hx rfl (hb hby at_205) k_) ?_
      refine hG _ _ (fun t_ k_ => XS.goto X390.here hx rfl (pc0 := 206) (pc' := 210) rfl (hb hby at_206) (by decide) (by decide) k_) ?_
      show G (T390.setTop (mkF m 210 #[oi i0, oi i1, oi i2, oi i3, oi i4, oi i5, oi 1, oa d1, oi c294, oi 3, .unset, .unset, .unset, .unset] [(.int 1)]))
      exact own_retNW hR hret (by simp) X390 hx (hb hby at_210) e390 SI0 (Nat.le_trans (Nat.le_trans (Nat.le_trans (Nat.le_trans (Nat.le_refl _) R383.2.1) R384.2.1) R385.2.1) R390.2.1) hZ C390 (by decide) (by decide) ⟨rfl, N390, K390⟩
    · skip
      show G (T293.setTop (mkF m 52 #[oi i0, oi i1, oi i2, oi i3, oi i4, oi i5, oi 1, oa d1, oi c294, oi 4, .unset, .unset, .unset, .unset] []))
      refine hG _ _ (fun t_ k_ => XS.iload X293.here hx rfl (hb hby at_52) rfl k_) ?_
      show G (T293.setTop (mkF m 54 #[oi i0, oi i1, oi i2, oi i3, oi i4, oi i5, oi 1, oa d1, oi c294, oi 4, .unset, .unset, .unset, .unset] [(.int 4)]))
      refine hG _ _ (fun t_ k_ => XS.ifYes X293.here hx rfl (pc0 := 54) (pc' := 76) rfl (hb hby at_54) rfl ((if0 _ _).trans (feq (by decide)).2) (by decide) (by decide) k_) ?_
      show G (T293.setTop (mkF m 76 #[oi i0, oi i1, oi i2, oi i3, oi i4, oi i5, oi 1, oa d1, oi c294, oi 4, .unset, .unset, .unset, .unset] []))
      refine hG _ _ (fun t_ k_ => XS.iload X293.here hx rfl (hb hby at_76) rfl k_) ?_
      refine hG _ _ (fun t_ k_ => XS.iconst X293.here hx rfl (hb hby at_78) k_) ?_
      show G (T293.setTop (mkF m 79 #[oi i0, oi i1, oi i2, oi i3, oi i4, oi i5, oi 1, oa d1, oi c294, oi 4, .unset, .unset, .unset, .unset] [(.int 1), (.int 4)]))
      refine hG _ _ (fun t_ k_ => XS.icmpYes X293.here hx rfl (pc0 := 79) (pc' := 104) rfl (hb hby at_79) rfl (feq (by decide)).2 (by decide) (by decide) k_) ?_
      show G (T293.setTop (mkF m 104 #[oi i0, oi i1, oi i2, oi i3, oi i4, oi i5, oi 1, oa d1, oi c294, oi 4, .unset, .unset, .unset, .unset] []))
      refine hG _ _ (fun t_ k_ => XS.iload X293.here hx rfl (hb hby at_104) rfl k_) ?_
      refine hG _ _ (fun t_ k_ => XS.iconst X293.here hx rfl (hb hby at_106) k_) ?_
      show G (T293.setTop (mkF m 107 #[oi i0, oi i1, oi i2, oi i3, oi i4, oi i5, oi 1, oa d1, oi c294, oi 4, .unset, .unset, .unset, .unset] [(.int 2), (.int 4)]))
      refine hG _ _ (fun t_ k_ => XS.icmpYes X293.here hx rfl (pc0 := 107) (pc' := 179) rfl (hb hby at_107) rfl (feq (by decide)).2 (by decide) (by decide) k_) ?_
      show G (T293.setTop (mkF m 179 #[oi i0, oi i1, oi i2, oi i3, oi i4, oi i5, oi 1, oa d1, oi c294, oi 4, .unset, .unset, .unset, .unset] []))
      refine hG _ _ (fun t_ k_ => XS.iload X293.here hx rfl (hb hby at_179) rfl k_) ?_
      refine hG _ _ (fun t_ k_ => XS.iconst X293.here hx rfl (hb hby at_181) k_) ?_
      show G (T293.setTop (mkF m 182 #[oi i0, oi i1, oi i2, oi i3, oi i4, oi i5, oi 1, oa d1, oi c294, oi 4, .unset, .unset, .unset, .unset] [(.int 3), (.int 4)]))
      refine hG _ _ (fun t_ k_ => XS.icmpYes X293.here hx rfl (pc0 := 182) (pc' := 211) rfl (hb hby at_182) rfl (feq (by decide)).2 (by decide) (by decide) k_) ?_
      show G (T293.setTop (mkF m 211 #[oi i0, oi i1, oi i2, oi i3, oi i4, oi i5, oi 1, oa d1, oi c294, oi 4, .unset, .unset, .unset, .unset] []))
      refine hG _ _ (fun t_ k_ => XS.iload X293.here hx rfl (hb hby at_211) rfl k_) ?_
      refine hG _ _ (fun t_ k_ => XS.iconst X293.here hx rfl (hb hby at_213) k_) ?_
      show G (T293.setTop (mkF m 214 #[oi i0, oi i1, oi i2, oi i3, oi i4, oi i5, oi 1, oa d1, oi c294, oi 4, .unset, .unset, .unset, .unset] [(.int 4), (.int 4)]))
      refine hG _ _ (fun t_ k_ => XS.icmpNo X293.here hx rfl (hb hby at_214) rfl (teq (by decide)).2 k_) ?_
      show G (T293.setTop (mkF m 217 #[oi i0, oi i1, oi i2, oi i3, oi i4, oi i5, oi 1, oa d1, oi c294, oi 4, .unset, .unset, .unset, .unset] []))
      obtain ⟨T411, h411, X411, e411, E411, A411, D411, -, st411⟩ := newO X293 hx hZ hown (ow hw 39 rfl) (ow hw 40 rfl) (ow hw 36 rfl) e293 (g := (mkF m 217 #[oi i0, oi i1, oi i2, oi i3, oi i4, oi i5, oi 1, oa d1, oi c294, oi 4, .unset, .unset, .unset, .unset] [])) rfl (hb hby at_217) (by decide) (by decide)
      obtain ⟨b411, z411⟩ : ∃ z, z = h0.size := ⟨_, rfl⟩
      rw [← z411] at A411 D411 st411
      refine hG _ _ st411 ?_
      have R411 := (CHr.ext E411 H0)
      have C411 := (CHr.refl H0).trans R411
      have K411 : Keep h0 h411 [] := (Keep.refl h0 []).ext E411
      have O411 : own_Old Z h411 := O0.ext E411
      refine hG _ _ (fun t_ k_ => XS.dup X411.here hx rfl (hb hby at_220) rfl rfl k_) ?_
      refine hG _ _ (fun t_ k_ => XS.iload X411.here hx rfl (hb hby at_221) rfl k_) ?_
      refine hG _ _ (fun t_ k_ => XS.iload X411.here hx rfl (hb hby at_223) rfl k_) ?_
      show G (T411.setTop (mkF m 225 #[oi i0, oi i1, oi i2, oi i3, oi i4, oi i5, oi 1, oa d1, oi c294, oi 4, .unset, .unset, .unset, .unset] [(.int c294), (.int 1), (.ref b411), (.ref b411)]))
      refine own_callS X411 hx hZ hG hown (ow hw 41 rfl) (ow hw 42 rfl) (ow hw 43 rfl) (ow hw 44 rfl) (by decide) 2 (own_mk_pre_1 l Z a0 hw c294 h411 O411 hr_c294) (by decide) (by decide) e411 (by rw [hml]; rfl) (lenOf own_pd15 rfl) (argsL := [(.int 1), (.int c294)]) (rest := [(.ref b411), (.ref b411)]) rfl rfl (Nat.le_of_eq rfl) (hb hby at_225) (by decide) (by decide) ?_
      intro T412 h412 v412 L412 X412 e412 q412
      obtain ⟨u_412, ku_412, rfl, M412, J412, y412_0, r412_0⟩ := q412
      have N412 := Fr.app N0 M412
      have R412 := (CHr.keep J412 all0 R411.1)
      have C412 := C411.trans R412
      have K412 : Keep h0 h412 [] := K411.trans J412 all0
      have O412 : own_Old Z h412 := O411.keep J412 all0
      show G (T412.setTop (mkF m 228 #[oi i0, oi i1, oi i2, oi i3, oi i4, oi i5, oi 1, oa d1, oi c294, oi 4, .unset, .unset, .unset, .unset] [(.ref u_412), (.ref b411), (.ref b411)]))
      have f414 := (A411.keep J412)
      have f415 := ((D411 (Or.inr (ow hw 69 rfl)) (ty := .byte) (by decide)).keep J412 nin0)
      have f416 := ((D411 (Or.inr (ow hw 71 rfl)) (ty := (.array .byte)) (by decide)).keep J412 nin0)
      refine own_callI X412 hx hZ hG hown rfl (ow hw 46 rfl) (ow hw 47 rfl) (ow hw 36 rfl) (ow hw 48 rfl) (by decide) 1 (own_gstr1 l Z a0 hw b411 u_412 ku_412 [c294, (102 : Int32), (97 : Int32), (105 : Int32), (108 : Int32), (101 : Int32), (100 : Int32)] cpt (.int 0) .null h412 O412 f414 f415 f416 (own_ge O0 (Nat.le_of_eq z411.symm)) r412_0 (Nat.le_of_ble_eq_true rfl) (Nat.le_of_ble_eq_true rfl) (own_allc hr_c294 (own_allc (by decide) (own_allc (by decide) (own_allc (by decide) (own_allc (by decide) (own_allc (by decide) (own_allc (by decide) own_alln))))))) g0_S g1_hcpt g2_S g3_S g4_S) (by decide) (by decide) e412 (by rw [hml]; rfl) (lenOf own_pd8 rfl) (argsL := [(.ref u_412)]) (rest := [(.ref b411)]) rfl rfl (Nat.le_of_eq rfl) (hb hby at_228) (by decide) (by decide) ?_
      intro T413 h413 v413 L413 X413 e413 q413
      obtain ⟨t_413, kt_413, cd_413, nb_413, vs_413, rfl, M413, J413, y413_0, r413_0, r413_1, r413_2, r413_3, r413_4⟩ := q413
      have N413 := Fr.app N412 M413
      have sf417 : Safe Z consts_1 _ h412 b411 := (own_safeStr hZ.alike f414 f416)
      have R413 := (CHr.keep J413 (allS sf417 all0) R412.1)
      have C413 := C412.trans R413
      have K413 : Keep h0 h413 [] := K412.trans J413 (allS (Or.inr (Nat.le_trans (Keep.refl h0 []).1 (Nat.le_of_eq z411.symm))) all0)
      have O413 : own_Old Z h413 := O412.keep J413 (allS (own_ge O0 (Nat.le_of_eq z411.symm)) all0)
      show G (T413.setTop (mkF m 231 #[oi i0, oi i1, oi i2, oi i3, oi i4, oi i5, oi 1, oa d1, oi c294, oi 4, .unset, .unset, .unset, .unset] [(.ref b411)]))
      have f419 := (((g9_E.ext E411).keep J412).keep J413)
      have f420 := (((g10_V.ext E411).keep J412 nin0).keep J413 (ninS (own_ne g9_E.lt (Nat.le_of_eq z411.symm)) nin0))
      have f421 := (((g11_E.ext E411).keep J412).keep J413)
      have f422 := (((g12_F.ext E411).keep J412 nin0).keep J413 (ninS (own_ne g11_E.lt (Nat.le_of_eq z411.symm)) nin0))
      have f423 := (((g13_E.ext E411).keep J412).keep J413)
      have f424 := (((g14_F.ext E411).keep J412 nin0).keep J413 (ninS (own_ne g13_E.lt (Nat.le_of_eq z411.symm)) nin0))
      have f425 := (((g15_F.ext E411).keep J412 nin0).keep J413 (ninS (own_ne g13_E.lt (Nat.le_of_eq z411.symm)) nin0))
      have f426 := (((g16_V.ext E411).keep J412 nin0).keep J413 (ninS (own_ne g16_V.lt (Nat.le_of_eq z411.symm)) nin0))
      have f427 := (((g17_E.ext E411).keep J412).keep J413)
      have f428 := (((g18_F.ext E411).keep J412 nin0).keep J413 (ninS (own_ne g17_E.lt (Nat.le_of_eq z411.symm)) nin0))
      have f429 := (((g19_E.ext E411).keep J412).keep J413)
      have f430 := (((g20_F.ext E411).keep J412 nin0).keep J413 (ninS (own_ne g19_E.lt (Nat.le_of_eq z411.symm)) nin0))
      have f431 := (((g21_F.ext E411).keep J412 nin0).keep J413 (ninS (own_ne g19_E.lt (Nat.le_of_eq z411.symm)) nin0))
      have f432 := (((g22_V.ext E411).keep J412 nin0).keep J413 (ninS (own_ne g22_V.lt (Nat.le_of_eq z411.symm)) nin0))
      have f433 := (((g23_E.ext E411).keep J412).keep J413)
      have f434 := (((g24_F.ext E411).keep J412 nin0).keep J413 (ninS (own_ne g23_E.lt (Nat.le_of_eq z411.symm)) nin0))
      have f435 := (((g25_E.ext E411).keep J412).keep J413)
      have f436 := (((g26_F.ext E411).keep J412 nin0).keep J413 (ninS (own_ne g25_E.lt (Nat.le_of_eq z411.symm)) nin0))
      have f437 := (((g27_F.ext E411).keep J412 nin0).keep J413 (ninS (own_ne g25_E.lt (Nat.le_of_eq z411.symm)) nin0))
      have f438 := (((g28_V.ext E411).keep J412 nin0).keep J413 (ninS (own_ne g28_V.lt (Nat.le_of_eq z411.symm)) nin0))
      refine own_callS X413 hx hZ hG hown (ow hw 12 rfl) (ow hw 13 rfl) (ow hw 2 rfl) (ow hw 14 rfl) (by decide) 0 (own_findN l Z a0 hw b411 t_413 kt_413 [c294, (102 : Int32), (97 : Int32), (105 : Int32), (108 : Int32), (101 : Int32), (100 : Int32)] cd_413 nb_413 vs_413 cpt d0 d1 d2 t0 t1 t2 v0 v1 v2 kv0 kv1 kv2 vals kl h413 O413 r413_0 r413_1 r413_2 r413_3 r413_4 (Nat.le_of_ble_eq_true rfl) (own_allc hr_c294 (own_allc (by decide) (own_allc (by decide) (own_allc (by decide) (own_allc (by decide) (own_allc (by decide) (own_allc (by decide) own_alln))))))) g0_S g1_hcpt g8_S f419 f420 f421 f422 f423 f424 f425 f426 f427 f428 f429 f430 f431 f432 f433 f434 f435 f436 f437 f438 (own_ne g13_E.lt (Nat.le_of_eq z411.symm)) (own_ne g19_E.lt (Nat.le_of_eq z411.symm)) (own_ne g25_E.lt (Nat.le_of_eq z411.symm)) (fun q => absurd (List.cons.inj (List.cons.inj q).2).1 (by decide)) (own_ne_len (fun q => by simp at q)) (own_ne_len (fun q => by simp at q))) (by decide) (by decide) e413 (by rw [hml]; rfl) (lenOf own_pd13 rfl) (argsL := [(.ref b411)]) (rest := []) rfl rfl (Nat.le_of_eq rfl) (hb hby at_231) (by decide) (by decide) ?_
      intro T418 h418 v418 L418 X418 e418 q418
      obtain ⟨rfl, M418, J418⟩ := q418
      have N418 := Fr.app N413 M418
      have R418 := (CHr.keep J418 all0 R413.1)
      have C418 := C413.trans R418
      have K418 : Keep h0 h418 [] := K413.trans J418 all0
      have O418 : own_Old Z h418 := O413.keep J418 all0
      show G (T418.setTop (mkF m 234 #[oi i0, oi i1, oi i2, oi i3, oi i4, oi i5, oi 1, oa d1, oi c294, oi 4, .unset, .unset, .unset, .unset] [.null]))
      refine hG _ _ (fun t_ k_ => XS.ifnonnullNo X418.here hx rfl (hb hby at_234) rfl k_) ?_
      refine hG _ _ (fun t_ k_ => XS.iconst X418.here hx rfl (hb hby at_237) k_) ?_
      refine hG _ _ (fun t_ k_ => XS.goto X418.here hx rfl (pc0 := 238) (pc' := 242) rfl (hb hby at_238) (by decide) (by decide) k_) ?_
      show G (T418.setTop (mkF m 242 #[oi i0, oi i1, oi i2, oi i3, oi i4, oi i5, oi 1, oa d1, oi c294, oi 4, .unset, .unset, .unset, .unset] [(.int 1)]))
      exact own_retNW hR hret (by simp) X418 hx (hb hby at_242) e418 SI0 (Nat.le_trans (Nat.le_trans (Nat.le_trans (Nat.le_trans (Nat.le_refl _) R411.2.1) R412.2.1) R413.2.1) R418.2.1) hZ C418 (by decide) (by decide) ⟨rfl, N418, K418⟩
    · skip
      show G (T293.setTop (mkF m 52 #[oi i0, oi i1, oi i2, oi i3, oi i4, oi i5, oi 1, oa d1, oi c294, oi 5, .unset, .unset, .unset, .unset] []))
      refine hG _ _ (fun t_ k_ => XS.iload X293.here hx rfl (hb hby at_52) rfl k_) ?_
      show G (T293.setTop (mkF m 54 #[oi i0, oi i1, oi i2, oi i3, oi i4, oi i5, oi 1, oa d1, oi c294, oi 5, .unset, .unset, .unset, .unset] [(.int 5)]))
      refine hG _ _ (fun t_ k_ => XS.ifYes X293.here hx rfl (pc0 := 54) (pc' := 76) rfl (hb hby at_54) rfl ((if0 _ _).trans (feq (by decide)).2) (by decide) (by decide) k_) ?_
      show G (T293.setTop (mkF m 76 #[oi i0, oi i1, oi i2, oi i3, oi i4, oi i5, oi 1, oa d1, oi c294, oi 5, .unset, .unset, .unset, .unset] []))
      refine hG _ _ (fun t_ k_ => XS.iload X293.here hx rfl (hb hby at_76) rfl k_) ?_
      refine hG _ _ (fun t_ k_ => XS.iconst X293.here hx rfl (hb hby at_78) k_) ?_
      show G (T293.setTop (mkF m 79 #[oi i0, oi i1, oi i2, oi i3, oi i4, oi i5, oi 1, oa d1, oi c294, oi 5, .unset, .unset, .unset, .unset] [(.int 1), (.int 5)]))
      refine hG _ _ (fun t_ k_ => XS.icmpYes X293.here hx rfl (pc0 := 79) (pc' := 104) rfl (hb hby at_79) rfl (feq (by decide)).2 (by decide) (by decide) k_) ?_
      show G (T293.setTop (mkF m 104 #[oi i0, oi i1, oi i2, oi i3, oi i4, oi i5, oi 1, oa d1, oi c294, oi 5, .unset, .unset, .unset, .unset] []))
      refine hG _ _ (fun t_ k_ => XS.iload X293.here hx rfl (hb hby at_104) rfl k_) ?_
      refine hG _ _ (fun t_ k_ => XS.iconst X293.here hx rfl (hb hby at_106) k_) ?_
      show G (T293.setTop (mkF m 107 #[oi i0, oi i1, oi i2, oi i3, oi i4, oi i5, oi 1, oa d1, oi c294, oi 5, .unset, .unset, .unset, .unset] [(.int 2), (.int 5)]))
      refine hG _ _ (fun t_ k_ => XS.icmpYes X293.here hx rfl (pc0 := 107) (pc' := 179) rfl (hb hby at_107) rfl (feq (by decide)).2 (by decide) (by decide) k_) ?_
      show G (T293.setTop (mkF m 179 #[oi i0, oi i1, oi i2, oi i3, oi i4, oi i5, oi 1, oa d1, oi c294, oi 5, .unset, .unset, .unset, .unset] []))
      refine hG _ _ (fun t_ k_ => XS.iload X293.here hx rfl (hb hby at_179) rfl k_) ?_
      refine hG _ _ (fun t_ k_ => XS.iconst X293.here hx rfl (hb hby at_181) k_) ?_
      show G (T293.setTop (mkF m 182 #[oi i0, oi i1, oi i2, oi i3, oi i4, oi i5, oi 1, oa d1, oi c294, oi 5, .unset, .unset, .unset, .unset] [(.int 3), (.int 5)]))
      refine hG _ _ (fun t_ k_ => XS.icmpYes X293.here hx rfl (pc0 := 182) (pc' := 211) rfl (hb hby at_182) rfl (feq (by decide)).2 (by decide) (by decide) k_) ?_
      show G (T293.setTop (mkF m 211 #[oi i0, oi i1, oi i2, oi i3, oi i4, oi i5, oi 1, oa d1, oi c294, oi 5, .unset, .unset, .unset, .unset] []))
      refine hG _ _ (fun t_ k_ => XS.iload X293.here hx rfl (hb hby at_211) rfl k_) ?_
      refine hG _ _ (fun t_ k_ => XS.iconst X293.here hx rfl (hb hby at_213) k_) ?_
      show G (T293.setTop (mkF m 214 #[oi i0, oi i1, oi i2, oi i3, oi i4, oi i5, oi 1, oa d1, oi c294, oi 5, .unset, .unset, .unset, .unset] [(.int 4), (.int 5)]))
      refine hG _ _ (fun t_ k_ => XS.icmpYes X293.here hx rfl (pc0 := 214) (pc' := 243) rfl (hb hby at_214) rfl (feq (by decide)).2 (by decide) (by decide) k_) ?_
      show G (T293.setTop (mkF m 243 #[oi i0, oi i1, oi i2, oi i3, oi i4, oi i5, oi 1, oa d1, oi c294, oi 5, .unset, .unset, .unset, .unset] []))
      refine hG _ _ (fun t_ k_ => XS.iload X293.here hx rfl (hb hby at_243) rfl k_) ?_
      refine hG _ _ (fun t_ k_ => XS.iconst X293.here hx rfl (hb hby at_245) k_) ?_
      show G (T293.setTop (mkF m 246 #[oi i0, oi i1, oi i2, oi i3, oi i4, oi i5, oi 1, oa d1, oi c294, oi 5, .unset, .unset, .unset, .unset] [(.int 5), (.int 5)]))
      refine hG _ _ (fun t_ k_ => XS.icmpNo X293.here hx rfl (hb hby at_246) rfl (teq (by decide)).2 k_) ?_
      show G (T293.setTop (mkF m 249 #[oi i0, oi i1, oi i2, oi i3, oi i4, oi i5, oi 1, oa d1, oi c294, oi 5, .unset, .unset, .unset, .unset] []))
      obtain ⟨T439, h439, X439, e439, E439, A439, D439, -, st439⟩ := newO X293 hx hZ hown (ow hw 39 rfl) (ow hw 40 rfl) (ow hw 36 rfl) e293 (g := (mkF m 249 #[oi i0, oi i1, oi i2, oi i3, oi i4, oi i5, oi 1, oa d1, oi c294, oi 5, .unset, .unset, .unset, .unset] [])) rfl (hb hby at_249) (by decide) (by decide)
      obtain ⟨b439, z439⟩ : ∃ z, z = h0.size := ⟨_, rfl⟩
      rw [← z439] at A439 D439 st439
      refine hG _ _ st439 ?_
      have R439 := (CHr.ext E439 H0)
      have C439 := (CHr.refl H0).trans R439
      have K439 : Keep h0 h439 [] := (Keep.refl h0 []).ext E439
      have O439 : own_Old Z h439 := O0.ext E439
      refine hG _ _ (fun t_ k_ => XS.dup X439.here hx rfl (hb hby at_252) rfl rfl k_) ?_
      refine hG _ _ (fun t_ k_ => XS.iload X439.here hx rfl (hb hby at_253) rfl k_) ?_
      show G (T439.setTop (mkF m 255 #[oi i0, oi i1, oi i2, oi i3, oi i4, oi i5, oi 1, oa d1, oi c294, oi 5, .unset, .unset, .unset, .unset] [(.int 1), (.ref b439), (.ref b439)]))
      refine own_callS X439 hx hZ hG hown (ow hw 90 rfl) (ow hw 91 rfl) (ow hw 43 rfl) (ow hw 92 rfl) (by decide) 2 (own_mk_cut_1 l Z a0 hw h439 O439) (by decide) (by decide) e439 (by rw [hml]; rfl) (lenOf own_pd14 rfl) (argsL := [(.int 1)]) (rest := [(.ref b439), (.ref b439)]) rfl rfl (Nat.le_of_eq rfl) (hb hby at_255) (by decide) (by decide) ?_
      intro T440 h440 v440 L440 X440 e440 q440
      obtain ⟨u_440, ku_440, rfl, M440, J440, y440_0, r440_0⟩ := q440
      have N440 := Fr.app N0 M440
      have R440 := (CHr.keep J440 all0 R439.1)
      have C440 := C439.trans R440
      have K440 : Keep h0 h440 [] := K439.trans J440 all0
      have O440 : own_Old Z h440 := O439.keep J440 all0
      show G (T440.setTop (mkF m 258 #[oi i0, oi i1, oi i2, oi i3, oi i4, oi i5, oi 1, oa d1, oi c294, oi 5, .unset, .unset, .unset, .unset] [(.ref u_440), (.ref b439), (.ref b439)]))
      have f442 := (A439.keep J440)
      have f443 := ((D439 (Or.inr (ow hw 69 rfl)) (ty := .byte) (by decide)).keep J440 nin0)
      have f444 := ((D439 (Or.inr (ow hw 71 rfl)) (ty := (.array .byte)) (by decide)).keep J440 nin0)
      refine own_callI X440 hx hZ hG hown rfl (ow hw 46 rfl) (ow hw 47 rfl) (ow hw 36 rfl) (ow hw 48 rfl) (by decide) 1 (own_gstr1 l Z a0 hw b439 u_440 ku_440 [(102 : Int32), (97 : Int32), (105 : Int32), (108 : Int32), (101 : Int32)] cpt (.int 0) .null h440 O440 f442 f443 f444 (own_ge O0 (Nat.le_of_eq z439.symm)) r440_0 (Nat.le_of_ble_eq_true rfl) (Nat.le_of_ble_eq_true rfl) (own_allc (by decide) (own_allc (by decide) (own_allc (by decide) (own_allc (by decide) (own_allc (by decide) own_alln))))) g0_S g1_hcpt g2_S g3_S g4_S) (by decide) (by decide) e440 (by rw [hml]; rfl) (lenOf own_pd8 rfl) (argsL := [(.ref u_440)]) (rest := [(.ref b439)]) rfl rfl (Nat.le_of_eq rfl) (hb hby at_258) (by decide) (by decide) ?_
      intro T441 h441 v441 L441 X441 e441 q441
      obtain ⟨t_441, kt_441, cd_441, nb_441, vs_441, rfl, M441, J441, y441_0, r441_0, r441_1, r441_2, r441_3, r441_4⟩ := q441
      have N441 := Fr.app N440 M441
      have sf445 : Safe Z consts_1 _ h440 b439 := (own_safeStr hZ.alike f442 f444)
      have R441 := (CHr.keep J441 (allS sf445 all0) R440.1)
      have C441 := C440.trans R441
      have K441 : Keep h0 h441 [] := K440.trans J441 (allS (Or.inr (Nat.le_trans (Keep.refl h0 []).1 (Nat.le_of_eq z439.symm))) all0)
      have O441 : own_Old Z h441 := O440.keep J441 (allS (own_ge O0 (Nat.le_of_eq z439.symm)) all0)
      show G (T441.setTop (mkF m 261 #[oi i0, oi i1, oi i2, oi i3, oi i4, oi i5, oi 1, oa d1, oi c294, oi 5, .unset, .unset, .unset, .unset] [(.ref b439)]))
      have f447 := (((g9_E.ext E439).keep J440).keep J441)
      have f448 := (((g10_V.ext E439).keep J440 nin0).keep J441 (ninS (own_ne g9_E.lt (Nat.le_of_eq z439.symm)) nin0))
      have f449 := (((g11_E.ext E439).keep J440).keep J441)
      have f450 := (((g12_F.ext E439).keep J440 nin0).keep J441 (ninS (own_ne g11_E.lt (Nat.le_of_eq z439.symm)) nin0))
      have f451 := (((g13_E.ext E439).keep J440).keep J441)
      have f452 := (((g14_F.ext E439).keep J440 nin0).keep J441 (ninS (own_ne g13_E.lt (Nat.le_of_eq z439.symm)) nin0))
      have f453 := (((g15_F.ext E439).keep J440 nin0).keep J441 (ninS (own_ne g13_E.lt (Nat.le_of_eq z439.symm)) nin0))
      have f454 := (((g16_V.ext E439).keep J440 nin0).keep J441 (ninS (own_ne g16_V.lt (Nat.le_of_eq z439.symm)) nin0))
      have f455 := (((g17_E.ext E439).keep J440).keep J441)
      have f456 := (((g18_F.ext E439).keep J440 nin0).keep J441 (ninS (own_ne g17_E.lt (Nat.le_of_eq z439.symm)) nin0))
      have f457 := (((g19_E.ext E439).keep J440).keep J441)
      have f458 := (((g20_F.ext E439).keep J440 nin0).keep J441 (ninS (own_ne g19_E.lt (Nat.le_of_eq z439.symm)) nin0))
      have f459 := (((g21_F.ext E439).keep J440 nin0).keep J441 (ninS (own_ne g19_E.lt (Nat.le_of_eq z439.symm)) nin0))
      have f460 := (((g22_V.ext E439).keep J440 nin0).keep J441 (ninS (own_ne g22_V.lt (Nat.le_of_eq z439.symm)) nin0))
      have f461 := (((g23_E.ext E439).keep J440).keep J441)
      have f462 := (((g24_F.ext E439).keep J440 nin0).keep J441 (ninS (own_ne g23_E.lt (Nat.le_of_eq z439.symm)) nin0))
      have f463 := (((g25_E.ext E439).keep J440).keep J441)
      have f464 := (((g26_F.ext E439).keep J440 nin0).keep J441 (ninS (own_ne g25_E.lt (Nat.le_of_eq z439.symm)) nin0))
      have f465 := (((g27_F.ext E439).keep J440 nin0).keep J441 (ninS (own_ne g25_E.lt (Nat.le_of_eq z439.symm)) nin0))
      have f466 := (((g28_V.ext E439).keep J440 nin0).keep J441 (ninS (own_ne g28_V.lt (Nat.le_of_eq z439.symm)) nin0))
      refine own_callS X441 hx hZ hG hown (ow hw 12 rfl) (ow hw 13 rfl) (ow hw 2 rfl) (ow hw 14 rfl) (by decide) 0 (own_findN l Z a0 hw b439 t_441 kt_441 [(102 : Int32), (97 : Int32), (105 : Int32), (108 : Int32), (101 : Int32)] cd_441 nb_441 vs_441 cpt d0 d1 d2 t0 t1 t2 v0 v1 v2 kv0 kv1 kv2 vals kl h441 O441 r441_0 r441_1 r441_2 r441_3 r441_4 (Nat.le_of_ble_eq_true rfl) (own_allc (by decide) (own_allc (by decide) (own_allc (by decide) (own_allc (by decide) (own_allc (by decide) own_alln))))) g0_S g1_hcpt g8_S f447 f448 f449 f450 f451 f452 f453 f454 f455 f456 f457 f458 f459 f460 f461 f462 f463 f464 f465 f466 (own_ne g13_E.lt (Nat.le_of_eq z439.symm)) (own_ne g19_E.lt (Nat.le_of_eq z439.symm)) (own_ne g25_E.lt (Nat.le_of_eq z439.symm)) (own_ne_len (fun q => by simp at q)) (own_ne_len (fun q => by simp at q)) (own_ne_len (fun q => by simp at q))) (by decide) (by decide) e441 (by rw [hml]; rfl) (lenOf own_pd13 rfl) (argsL := [(.ref b439)]) (rest := []) rfl rfl (Nat.le_of_eq rfl) (hb hby at_261) (by decide) (by decide) ?_
      intro T446 h446 v446 L446 X446 e446 q446
      obtain ⟨rfl, M446, J446⟩ := q446
      have N446 := Fr.app N441 M446
      have R446 := (CHr.keep J446 all0 R441.1)
      have C446 := C441.trans R446
      have K446 : Keep h0 h446 [] := K441.trans J446 all0
      have O446 : own_Old Z h446 := O441.keep J446 all0
      show G (T446.setTop (mkF m 264 #[oi i0, oi i1, oi i2, oi i3, oi i4, oi i5, oi 1, oa d1, oi c294, oi 5, .unset, .unset, .unset, .unset] [.null]))
      refine hG _ _ (fun t_ k_ => XS.ifnonnullNo X446.here hx rfl (hb hby at_264) rfl k_) ?_
      refine hG _ _ (fun t_ k_ => XS.iconst X446.here hx rfl (hb hby at_267) k_) ?_
      refine hG _ _ (fun t_ k_ => XS.goto X446.here hx rfl (pc0 := 268) (pc' := 272) rfl (hb hby at_268) (by decide) (by decide) k_) ?_
      show G (T446.setTop (mkF m 272 #[oi i0, oi i1, oi i2, oi i3, oi i4, oi i5, oi 1, oa d1, oi c294, oi 5, .unset, .unset, .unset, .unset] [(.int 1)]))
      exact own_retNW hR hret (by simp) X446 hx (hb hby at_272) e446 SI0 (Nat.le_trans (Nat.le_trans (Nat.le_trans (Nat.le_trans (Nat.le_refl _) R439.2.1) R440.2.1) R441.2.1) R446.2.1) hZ C446 (by decide) (by decide) ⟨rfl, N446, K446⟩
    · skip
      show G (T293.setTop (mkF m 52 #[oi i0, oi i1, oi i2, oi i3, oi i4, oi i5, oi 1, oa d1, oi c294, oi 6, .unset, .unset, .unset, .unset] []))
      refine hG _ _ (fun t_ k_ => XS.iload X293.here hx rfl (hb hby at_52) rfl k_) ?_
      show G (T293.setTop (mkF m 54 #[oi i0, oi i1, oi i2, oi i3, oi i4, oi i5, oi 1, oa d1, oi c294, oi 6, .unset, .unset, .unset, .unset] [(.int 6)]))
      refine hG _ _ (fun t_ k_ => XS.ifYes X293.here hx rfl (pc0 := 54) (pc' := 76) rfl (hb hby at_54) rfl ((if0 _ _).trans (feq (by decide)).2) (by decide) (by decide) k_) ?_
      show G (T293.setTop (mkF m 76 #[oi i0, oi i1, oi i2, oi i3, oi i4, oi i5, oi 1, oa d1, oi c294, oi 6, .unset, .unset, .unset, .unset] []))
      refine hG _ _ (fun t_ k_ => XS.iload X293.here hx rfl (hb hby at_76) rfl k_) ?_
      refine hG _ _ (fun t_ k_ => XS.iconst X293.here hx rfl (hb hby at_78) k_) ?_
      show G (T293.setTop (mkF m 79 #[oi i0, oi i1, oi i2, oi i3, oi i4, oi i5, oi 1, oa d1, oi c294, oi 6, .unset, .unset, .unset, .unset] [(.int 1), (.int 6)]))
      refine hG _ _ (fun t_ k_ => XS.icmpYes X293.here hx rfl (pc0 := 79) (pc' := 104) rfl (hb hby at_79) rfl (feq (by decide)).2 (by decide) (by decide) k_) ?_
      show G (T293.setTop (mkF m 104 #[oi i0, oi i1, oi i2, oi i3, oi i4, oi i5, oi 1, oa d1, oi c294, oi 6, .unset, .unset, .unset, .unset] []))
      refine hG _ _ (fun t_ k_ => XS.iload X293.here hx rfl (hb hby at_104) rfl k_) ?_
      refine hG _ _ (fun t_ k_ => XS.iconst X293.here hx rfl (hb hby at_106) k_) ?_
      show G (T293.setTop (mkF m 107 #[oi i0, oi i1, oi i2, oi i3, oi i4, oi i5, oi 1, oa d1, oi c294, oi 6, .unset, .unset, .unset, .unset] [(.int 2), (.int 6)]))
      refine hG _ _ (fun t_ k_ => XS.icmpYes X293.here hx rfl (pc0 := 107) (pc' := 179) rfl (hb hby at_107) rfl (feq (by decide)).2 (by decide) (by decide) k_) ?_
      show G (T293.setTop (mkF m 179 #[oi i0, oi i1, oi i2, oi i3, oi i4, oi i5, oi 1, oa d1, oi c294, oi 6, .unset, .unset, .unset, .unset] []))
      refine hG _ _ (fun t_ k_ => XS.iload X293.here hx rfl (hb hby at_179) rfl k_) ?_
      refine hG _ _ (fun t_ k_ => XS.iconst X293.here hx rfl (hb hby at_181) k_) ?_
      show G (T293.setTop (mkF m 182 #[oi i0, oi i1, oi i2, oi i3, oi i4, oi i5, oi 1, oa d1, oi c294, oi 6, .unset, .unset, .unset, .unset] [(.int 3), (.int 6)]))
      refine hG _ _ (fun t_ k_ => XS.icmpYes X293.here hx rfl (pc0 := 182) (pc' := 211) rfl (hb hby at_182) rfl (feq (by decide)).2 (by decide) (by decide) k_) ?_
      show G (T293.setTop (mkF m 211 #[oi i0, oi i1, oi i2, oi i3, oi i4, oi i5, oi 1, oa d1, oi c294, oi 6, .unset, .unset, .unset, .unset] []))
      refine hG _ _ (fun t_ k_ => XS.iload X293.here hx rfl (hb hby at_211) rfl k_) ?_
      refine hG _ _ (fun t_ k_ => XS.iconst X293.here hx rfl (hb hby at_213) k_) ?_
      show G (T293.setTop (mkF m 214 #[oi i0, oi i1, oi i2, oi i3, oi i4, oi i5, oi 1, oa d1, oi c294, oi 6, .unset, .unset, .unset, .unset] [(.int 4), (.int 6)]))
      refine hG _ _ (fun t_ k_ => XS.icmpYes X293.here hx rfl (pc0 := 214) (pc' := 243) rfl (hb hby at_214) rfl (feq (by decide)).2 (by decide) (by decide) k_) ?_
      show G (T293.setTop (mkF m 243 #[oi i0, oi i1, oi i2, oi i3, oi i4, oi i5, oi 1, oa d1, oi c294, oi 6, .unset, .unset, .unset, .unset] []))
      refine hG _ _ (fun t_ k_ => XS.iload X293.here hx rfl (hb hby at_243) rfl k_) ?_
      refine hG _ _ (fun t_ k_ => XS.iconst X293.here hx rfl (hb hby at_245) k_) ?_
      show G (T293.setTop (mkF m 246 #[oi i0, oi i1, oi i2, oi i3, oi i4, oi i5, oi 1, oa d1, oi c294, oi 6, .unset, .unset, .unset, .unset] [(.int 5), (.int 6)]))
      refine hG _ _ (fun t_ k_ => XS.icmpYes X293.here hx rfl (pc0 := 246) (pc' := 273) rfl (hb hby at_246) rfl (feq (by decide)).2 (by decide) (by decide) k_) ?_
      show G (T293.setTop (mkF m 273 #[oi i0, oi i1, oi i2, oi i3, oi i4, oi i5, oi 1, oa d1, oi c294, oi 6, .unset, .unset, .unset, .unset] []))
      obtain ⟨T467, h467, X467, e467, E467, A467, D467, -, st467⟩ := newO X293 hx hZ hown (ow hw 39 rfl) (ow hw 40 rfl) (ow hw 36 rfl) e293 (g := (mkF m 273 #[oi i0, oi i1, oi i2, oi i3, oi i4, oi i5, oi 1, oa d1, oi c294, oi 6, .unset, .unset, .unset, .unset] [])) rfl (hb hby at_273) (by decide) (by decide)
      obtain ⟨b467, z467⟩ : ∃ z, z = h0.size := ⟨_, rfl⟩
      rw [← z467] at A467 D467 st467
      refine hG _ _ st467 ?_
      have R467 := (CHr.ext E467 H0)
      have C467 := (CHr.refl H0).trans R467
      have K467 : Keep h0 h467 [] := (Keep.refl h0 []).ext E467
      have O467 : own_Old Z h467 := O0.ext E467
      refine hG _ _ (fun t_ k_ => XS.dup X467.here hx rfl (hb hby at_276) rfl rfl k_) ?_
      refine hG _ _ (fun t_ k_ => XS.iload X467.here hx rfl (hb hby at_277) rfl k_) ?_
      refine hG _ _ (fun t_ k_ => XS.iconst X467.here hx rfl (hb hby at_279) k_) ?_
      refine hG _ _ (fun t_ k_ => XS.iand X467.here hx rfl (hb hby at_280) rfl k_) ?_
      show G (T467.setTop (mkF m 281 #[oi i0, oi i1, oi i2, oi i3, oi i4, oi i5, oi 1, oa d1, oi c294, oi 6, .unset, .unset, .unset, .unset] [(.int (i4 &&& (3 : Int32))), (.ref b467), (.ref b467)]))
      generalize hn_q468 : (i4 &&& (3 : Int32)) = q468
      rcases own_m3 hn_q468 with rfl | rfl | rfl | rfl
      · skip
        show G (T467.setTop (mkF m 281 #[oi i0, oi i1, oi i2, oi i3, oi i4, oi i5, oi 1, oa d1, oi c294, oi 6, .unset, .unset, .unset, .unset] [(.int 0), (.ref b467), (.ref b467)]))
        refine hG _ _ (fun t_ k_ => XS.iload X467.here hx rfl (hb hby at_281) rfl k_) ?_
        refine hG _ _ (fun t_ k_ => XS.iload X467.here hx rfl (hb hby at_283) rfl k_) ?_
        refine hG _ _ (fun t_ k_ => XS.i2c X467.here hx rfl (hb hby at_285) rfl k_) ?_
        show G (T467.setTop (mkF m 286 #[oi i0, oi i1, oi i2, oi i3, oi i4, oi i5, oi 1, oa d1, oi c294, oi 6, .unset, .unset, .unset, .unset] [(.int (i5.toUInt32.toUInt16.toUInt32.toInt32)), (.int c294), (.int 0), (.ref b467), (.ref b467)]))
        generalize hn_c469 : (i5.toUInt32.toUInt16.toUInt32.toInt32) = c469
        have hr_c469 := own_i2c16 hn_c469
        show G (T467.setTop (mkF m 286 #[oi i0, oi i1, oi i2, oi i3, oi i4, oi i5, oi 1, oa d1, oi c294, oi 6, .unset, .unset, .unset, .unset] [(.int c469), (.int c294), (.int 0), (.ref b467), (.ref b467)]))
        refine hG _ _ (fun t_ k_ => XS.iload X467.here hx rfl (hb hby at_286) rfl k_) ?_
        refine hG _ _ (fun t_ k_ => XS.bipush X467.here hx rfl (hb hby at_288) k_) ?_
        refine hG _ _ (fun t_ k_ => XS.iushr X467.here hx rfl (hb hby at_290) rfl k_) ?_
        refine hG _ _ (fun t_ k_ => XS.i2c X467.here hx rfl (hb hby at_291) rfl k_) ?_
        show G (T467.setTop (mkF m 292 #[oi i0, oi i1, oi i2, oi i3, oi i4, oi i5, oi 1, oa d1, oi c294, oi 6, .unset, .unset, .unset, .unset] [(.int (((i5.toUInt32 >>> ((16 : Int32) &&& 31).toUInt32).toInt32).toUInt32.toUInt16.toUInt32.toInt32)), (.int c469), (.int c294), (.int 0), (.ref b467), (.ref b467)]))
        generalize hn_c470 : (((i5.toUInt32 >>> ((16 : Int32) &&& 31).toUInt32).toInt32).toUInt32.toUInt16.toUInt32.toInt32) = c470
        have hr_c470 := own_i2c16 hn_c470
        show G (T467.setTop (mkF m 292 #[oi i0, oi i1, oi i2, oi i3, oi i4, oi i5, oi 1, oa d1, oi c294, oi 6, .unset, .unset, .unset, .unset] [(.int c470), (.int c469), (.int c294), (.int 0), (.ref b467), (.ref b467)]))
        refine own_callS X467 hx hZ hG hown (ow hw 87 rfl) (ow hw 88 rfl) (ow hw 43 rfl) (ow hw 89 rfl) (by decide) 2 (own_mk_shortChars_0 l Z a0 hw c294 c469 c470 h467 O467 hr_c294 hr_c469 hr_c470) (by decide) (by decide) e467 (by rw [hml]; rfl) (lenOf own_pd16 rfl) (argsL := [(.int 0), (.int c294), (.int c469), (.int c470)]) (rest := [(.ref b467), (.ref b467)]) rfl rfl (Nat.le_of_eq rfl) (hb hby at_292) (by decide) (by decide) ?_
        intro T471 h471 v471 L471 X471 e471 q471
        obtain ⟨u_471, ku_471, rfl, M471, J471, y471_0, r471_0⟩ := q471
        have N471 := Fr.app N0 M471
        have R471 := (CHr.keep J471 all0 R467.1)
        have C471 := C467.trans R471
        have K471 : Keep h0 h471 [] := K467.trans J471 all0
        have O471 : own_Old Z h471 := O467.keep J471 all0
        show G (T471.setTop (mkF m 295 #[oi i0, oi i1, oi i2, oi i3, oi i4, oi i5, oi 1, oa d1, oi c294, oi 6, .unset, .unset, .unset, .unset] [(.ref u_471), (.ref b467), (.ref b467)]))
        have f473 := (A467.keep J471)
        have f474 := ((D467 (Or.inr (ow hw 69 rfl)) (ty := .byte) (by decide)).keep J471 nin0)
        have f475 := ((D467 (Or.inr (ow hw 71 rfl)) (ty := (.array .byte)) (by decide)).keep J471 nin0)
        refine own_callIW X471 hx hZ hG hown rfl (ow hw 46 rfl) (ow hw 47 rfl) (ow hw 36 rfl) (ow hw 48 rfl) (by decide) 1 (own_str1E l Z a0 hw hEL b467 u_471 (.int 0) ku_471 h471 O471 f473 f474 f475 (own_ge O0 (Nat.le_of_eq z467.symm)) r471_0) (by decide) (by decide) e471 SI0 (Nat.le_trans (Nat.le_trans (Nat.le_refl _) R467.2.1) R471.2.1) hEL R471.1 (by rw [hml]; rfl) (lenOf own_pd8 rfl) (argsL := [(.ref u_471)]) (rest := [(.ref b467)]) rfl rfl (Nat.le_of_eq rfl) (hb hby at_295) (by decide) (by decide) ?_
        intro T472 h472 v472 L472 X472 e472 SI472 hZ472 hown472 Y472 q472
        obtain ⟨t_472, kt_472, rfl, M472, J472, r472_0, r472_1, r472_2, r472_3⟩ := q472
        have N472 := Fr.app N471 M472
        have R472 := Y472
        have C472 := C471.trans R472
        have K472 : Keep h0 h472 [] := K471.trans J472 (allS (Or.inr (Nat.le_trans (Keep.refl h0 []).1 (Nat.le_of_eq z467.symm))) all0)
        have O472 : own_Old Z h472 := O471.keep J472 (allS (own_ge O0 (Nat.le_of_eq z467.symm)) all0)
        show G (T472.setTop (mkF m 298 #[oi i0, oi i1, oi i2, oi i3, oi i4, oi i5, oi 1, oa d1, oi c294, oi 6, .unset, .unset, .unset, .unset] [(.ref b467)]))
        have f477 := (((g9_E.ext E467).keep J471).keep J472)
        have f478 := (((g10_V.ext E467).keep J471 nin0).keep J472 (ninS (own_ne g9_E.lt (Nat.le_of_eq z467.symm)) nin0))
        have f479 := (((g11_E.ext E467).keep J471).keep J472)
        have f480 := (((g12_F.ext E467).keep J471 nin0).keep J472 (ninS (own_ne g11_E.lt (Nat.le_of_eq z467.symm)) nin0))
        have f481 := (((g13_E.ext E467).keep J471).keep J472)
        have f482 := (((g14_F.ext E467).keep J471 nin0).keep J472 (ninS (own_ne g13_E.lt (Nat.le_of_eq z467.symm)) nin0))
        have f483 := (((g15_F.ext E467).keep J471 nin0).keep J472 (ninS (own_ne g13_E.lt (Nat.le_of_eq z467.symm)) nin0))
        have f484 := (((g16_V.ext E467).keep J471 nin0).keep J472 (ninS (own_ne g16_V.lt (Nat.le_of_eq z467.symm)) nin0))
        have f485 := (((g17_E.ext E467).keep J471).keep J472)
        have f486 := (((g18_F.ext E467).keep J471 nin0).keep J472 (ninS (own_ne g17_E.lt (Nat.le_of_eq z467.symm)) nin0))
        have f487 := (((g19_E.ext E467).keep J471).keep J472)
        have f488 := (((g20_F.ext E467).keep J471 nin0).keep J472 (ninS (own_ne g19_E.lt (Nat.le_of_eq z467.symm)) nin0))
        have f489 := (((g21_F.ext E467).keep J471 nin0).keep J472 (ninS (own_ne g19_E.lt (Nat.le_of_eq z467.symm)) nin0))
        have f490 := (((g22_V.ext E467).keep J471 nin0).keep J472 (ninS (own_ne g22_V.lt (Nat.le_of_eq z467.symm)) nin0))
        have f491 := (((g23_E.ext E467).keep J471).keep J472)
        have f492 := (((g24_F.ext E467).keep J471 nin0).keep J472 (ninS (own_ne g23_E.lt (Nat.le_of_eq z467.symm)) nin0))
        have f493 := (((g25_E.ext E467).keep J471).keep J472)
        have f494 := (((g26_F.ext E467).keep J471 nin0).keep J472 (ninS (own_ne g25_E.lt (Nat.le_of_eq z467.symm)) nin0))
        have f495 := (((g27_F.ext E467).keep J471 nin0).keep J472 (ninS (own_ne g25_E.lt (Nat.le_of_eq z467.symm)) nin0))
        have f496 := (((g28_V.ext E467).keep J471 nin0).keep J472 (ninS (own_ne g28_V.lt (Nat.le_of_eq z467.symm)) nin0))
        refine own_callS X472 hx hZ472 hG hown472 (ow hw 12 rfl) (ow hw 13 rfl) (ow hw 2 rfl) (ow hw 14 rfl) (by decide) 0 (own_findN l Z a0 hw b467 t_472 kt_472 ([] : List Int32) (0 : Int32) (0 : Int32) [] cpt d0 d1 d2 t0 t1 t2 v0 v1 v2 kv0 kv1 kv2 vals kl h472 O472 r472_0 r472_1 r472_2 r472_3 own_enc_nil (Nat.zero_le _) own_alln g0_S g1_hcpt g8_S f477 f478 f479 f480 f481 f482 f483 f484 f485 f486 f487 f488 f489 f490 f491 f492 f493 f494 f495 f496 (own_ne g13_E.lt (Nat.le_of_eq z467.symm)) (own_ne g19_E.lt (Nat.le_of_eq z467.symm)) (own_ne g25_E.lt (Nat.le_of_eq z467.symm)) (own_ne_len (fun q => by simp at q)) (own_ne_len (fun q => by simp at q)) (own_ne_len (fun q => by simp at q))) (by decide) (by decide) e472 (by rw [hml]; rfl) (lenOf own_pd13 rfl) (argsL := [(.ref b467)]) (rest := []) rfl rfl (Nat.le_of_eq rfl) (hb hby at_298) (by decide) (by decide) ?_
        intro T476 h476 v476 L476 X476 e476 q476
        obtain ⟨rfl, M476, J476⟩ := q476
        have N476 := Fr.app N472 M476
        have R476 := (CHr.keep J476 all0 R472.1)
        have C476 := C472.trans R476
        have K476 : Keep h0 h476 [] := K472.trans J476 all0
        have O476 : own_Old Z h476 := O472.keep J476 all0
        show G (T476.setTop (mkF m 301 #[oi i0, oi i1, oi i2, oi i3, oi i4, oi i5, oi 1, oa d1, oi c294, oi 6, .unset, .unset, .unset, .unset] [.null]))
        refine hG _ _ (fun t_ k_ => XS.ifnonnullNo X476.here hx rfl (hb hby at_301) rfl k_) ?_
        refine hG _ _ (fun t_ k_ => XS.iconst X476.here hx rfl (hb hby at_304) k_) ?_
        refine hG _ _ (fun t_ k_ => XS.goto X476.here hx rfl (pc0 := 305) (pc' := 309) rfl (hb hby at_305) (by decide) (by decide) k_) ?_
        show G (T476.setTop (mkF m 309 #[oi i0, oi i1, oi i2, oi i3, oi i4, oi i5, oi 1, oa d1, oi c294, oi 6, .unset, .unset, .unset, .unset] [(.int 1)]))
        exact own_retNW hR hret (by simp) X476 hx (hb hby at_309) e476 SI472 (Nat.le_trans (Nat.le_refl _) R476.2.1) hZ472 C476 (by decide) (by decide) ⟨rfl, N476, K476⟩
      · skip
        show G (T467.setTop (mkF m 281 #[oi i0, oi i1, oi i2, oi i3, oi i4, oi i5, oi 1, oa d1, oi c294, oi 6, .unset, .unset, .unset, .unset] [(.int 1), (.ref b467), (.ref b467)]))
        refine hG _ _ (fun t_ k_ => XS.iload X467.here hx rfl (hb hby at_281) rfl k_) ?_
        refine hG _ _ (fun t_ k_ => XS.iload X467.here hx rfl (hb hby at_283) rfl k_) ?_
        refine hG _ _ (fun t_ k_ => XS.i2c X467.here hx rfl (hb hby at_285) rfl k_) ?_
        show G (T467.setTop (mkF m 286 #[oi i0, oi i1, oi i2, oi i3, oi i4, oi i5, oi 1, oa d1, oi c294, oi 6, .unset, .unset, .unset, .unset] [(.int (i5.toUInt32.toUInt16.toUInt32.toInt32)), (.int c294), (.int 1), (.ref b467), (.ref b467)]))
        generalize hn_c497 : (i5.toUInt32.toUInt16.toUInt32.toInt32) = c497
        have hr_c497 := own_i2c16 hn_c497
        show G (T467.setTop (mkF m 286 #[oi i0, oi i1, oi i2, oi i3, oi i4, oi i5, oi 1, oa d1, oi c294, oi 6, .unset, .unset, .unset, .unset] [(.int c497), (.int c294), (.int 1), (.ref b467), (.ref b467)]))
        refine hG _ _ (fun t_ k_ => XS.iload X467.here hx rfl (hb hby at_286) rfl k_) ?_
        refine hG _ _ (fun t_ k_ => XS.bipush X467.here hx rfl (hb hby at_288) k_) ?_
        refine hG _ _ (fun t_ k_ => XS.iushr X467.here hx rfl (hb hby at_290) rfl k_) ?_
        refine hG _ _ (fun t_ k_ => XS.i2c X467.here hx rfl (hb hby at_291) rfl k_) ?_
        show G (T467.setTop (mkF m 292 #[oi i0, oi i1, oi i2, oi i3, oi i4, oi i5, oi 1, oa d1, oi c294, oi 6, .unset, .unset, .unset, .unset] [(.int (((i5.toUInt32 >>> ((16 : Int32) &&& 31).toUInt32).toInt32).toUInt32.toUInt16.toUInt32.toInt32)), (.int c497), (.int c294), (.int 1), (.ref b467), (.ref b467)]))
        generalize hn_c498 : (((i5.toUInt32 >>> ((16 : Int32) &&& 31).toUInt32).toInt32).toUInt32.toUInt16.toUInt32.toInt32) = c498
        have hr_c498 := own_i2c16 hn_c498
        show G (T467.setTop (mkF m 292 #[oi i0, oi i1, oi i2, oi i3, oi i4, oi i5, oi 1, oa d1, oi c294, oi 6, .unset, .unset, .unset, .unset] [(.int c498), (.int c497), (.int c294), (.int 1), (.ref b467), (.ref b467)]))
        refine own_callS X467 hx hZ hG hown (ow hw 87 rfl) (ow hw 88 rfl) (ow hw 43 rfl) (ow hw 89 rfl) (by decide) 2 (own_mk_shortChars_1 l Z a0 hw c294 c497 c498 h467 O467 hr_c294 hr_c497 hr_c498) (by decide) (by decide) e467 (by rw [hml]; rfl) (lenOf own_pd16 rfl) (argsL := [(.int 1), (.int c294), (.int c497), (.int c498)]) (rest := [(.ref b467), (.ref b467)]) rfl rfl (Nat.le_of_eq rfl) (hb hby at_292) (by decide) (by decide) ?_
        intro T499 h499 v499 L499 X499 e499 q499
        obtain ⟨u_499, ku_499, rfl, M499, J499, y499_0, r499_0⟩ := q499
        have N499 := Fr.app N0 M499
        have R499 := (CHr.keep J499 all0 R467.1)
        have C499 := C467.trans R499
        have K499 : Keep h0 h499 [] := K467.trans J499 all0
        have O499 : own_Old Z h499 := O467.keep J499 all0
        show G (T499.setTop (mkF m 295 #[oi i0, oi i1, oi i2, oi i3, oi i4, oi i5, oi 1, oa d1, oi c294, oi 6, .unset, .unset, .unset, .unset] [(.ref u_499), (.ref b467), (.ref b467)]))
        have f501 := (A467.keep J499)
        have f502 := ((D467 (Or.inr (ow hw 69 rfl)) (ty := .byte) (by decide)).keep J499 nin0)
        have f503 := ((D467 (Or.inr (ow hw 71 rfl)) (ty := (.array .byte)) (by decide)).keep J499 nin0)
        refine own_callI X499 hx hZ hG hown rfl (ow hw 46 rfl) (ow hw 47 rfl) (ow hw 36 rfl) (ow hw 48 rfl) (by decide) 1 (own_gstr1 l Z a0 hw b467 u_499 ku_499 [c294] cpt (.int 0) .null h499 O499 f501 f502 f503 (own_ge O0 (Nat.le_of_eq z467.symm)) r499_0 (Nat.le_of_ble_eq_true rfl) (Nat.le_of_ble_eq_true rfl) (own_allc hr_c294 own_alln) g0_S g1_hcpt g2_S g3_S g4_S) (by decide) (by decide) e499 (by rw [hml]; rfl) (lenOf own_pd8 rfl) (argsL := [(.ref u_499)]) (rest := [(.ref b467)]) rfl rfl (Nat.le_of_eq rfl) (hb hby at_295) (by decide) (by decide) ?_
        intro T500 h500 v500 L500 X500 e500 q500
        obtain ⟨t_500, kt_500, cd_500, nb_500, vs_500, rfl, M500, J500, y500_0, r500_0, r500_1, r500_2, r500_3, r500_4⟩ := q500
        have N500 := Fr.app N499 M500
        have sf504 : Safe Z consts_1 _ h499 b467 := (own_safeStr hZ.alike f501 f503)
        have R500 := (CHr.keep J500 (allS sf504 all0) R499.1)
        have C500 := C499.trans R500
        have K500 : Keep h0 h500 [] := K499.trans J500 (allS (Or.inr (Nat.le_trans (Keep.refl h0 []).1 (Nat.le_of_eq z467.symm))) all0)
        have O500 : own_Old Z h500 := O499.keep J500 (allS (own_ge O0 (Nat.le_of_eq z467.symm)) all0)
        show G (T500.setTop (mkF m 298 #[oi i0, oi i1, oi i2, oi i3, oi i4, oi i5, oi 1, oa d1, oi c294, oi 6, .unset, .unset, .unset, .unset] [(.ref b467)]))
        have f506 := (((g9_E.ext E467).keep J499).keep J500)
        have f507 := (((g10_V.ext E467).keep J499 nin0).keep J500 (ninS (own_ne g9_E.lt (Nat.le_of_eq z467.symm)) nin0))
        have f508 := (((g11_E.ext E467).keep J499).keep J500)
        have f509 := (((g12_F.ext E467).keep J499 nin0).keep J500 (ninS (own_ne g11_E.lt (Nat.le_of_eq z467.symm)) nin0))
        have f510 := (((g13_E.ext E467).keep J499).keep J500)
        have f511 := (((g14_F.ext E467).keep J499 nin0).keep J500 (ninS (own_ne g13_E.lt (Nat.le_of_eq z467.symm)) nin0))
        have f512 := (((g15_F.ext E467).keep J499 nin0).keep J500 (ninS (own_ne g13_E.lt (Nat.le_of_eq z467.symm)) nin0))
        have f513 := (((g16_V.ext E467).keep J499 nin0).keep J500 (ninS (own_ne g16_V.lt (Nat.le_of_eq z467.symm)) nin0))
        have f514 := (((g17_E.ext E467).keep J499).keep J500)
        have f515 := (((g18_F.ext E467).keep J499 nin0).keep J500 (ninS (own_ne g17_E.lt (Nat.le_of_eq z467.symm)) nin0))
        have f516 := (((g19_E.ext E467).keep J499).keep J500)
        have f517 := (((g20_F.ext E467).keep J499 nin0).keep J500 (ninS (own_ne g19_E.lt (Nat.le_of_eq z467.symm)) nin0))
        have f518 := (((g21_F.ext E467).keep J499 nin0).keep J500 (ninS (own_ne g19_E.lt (Nat.le_of_eq z467.symm)) nin0))
        have f519 := (((g22_V.ext E467).keep J499 nin0).keep J500 (ninS (own_ne g22_V.lt (Nat.le_of_eq z467.symm)) nin0))
        have f520 := (((g23_E.ext E467).keep J499).keep J500)
        have f521 := (((g24_F.ext E467).keep J499 nin0).keep J500 (ninS (own_ne g23_E.lt (Nat.le_of_eq z467.symm)) nin0))
        have f522 := (((g25_E.ext E467).keep J499).keep J500)
        have f523 := (((g26_F.ext E467).keep J499 nin0).keep J500 (ninS (own_ne g25_E.lt (Nat.le_of_eq z467.symm)) nin0))
        have f524 := (((g27_F.ext E467).keep J499 nin0).keep J500 (ninS (own_ne g25_E.lt (Nat.le_of_eq z467.symm)) nin0))
        have f525 := (((g28_V.ext E467).keep J499 nin0).keep J500 (ninS (own_ne g28_V.lt (Nat.le_of_eq z467.symm)) nin0))
        refine own_callS X500 hx hZ hG hown (ow hw 12 rfl) (ow hw 13 rfl) (ow hw 2 rfl) (ow hw 14 rfl) (by decide) 0 (own_findN l Z a0 hw b467 t_500 kt_500 [c294] cd_500 nb_500 vs_500 cpt d0 d1 d2 t0 t1 t2 v0 v1 v2 kv0 kv1 kv2 vals kl h500 O500 r500_0 r500_1 r500_2 r500_3 r500_4 (Nat.le_of_ble_eq_true rfl) (own_allc hr_c294 own_alln) g0_S g1_hcpt g8_S f506 f507 f508 f509 f510 f511 f512 f513 f514 f515 f516 f517 f518 f519 f520 f521 f522 f523 f524 f525 (own_ne g13_E.lt (Nat.le_of_eq z467.symm)) (own_ne g19_E.lt (Nat.le_of_eq z467.symm)) (own_ne g25_E.lt (Nat.le_of_eq z467.symm)) (own_ne_len (fun q => by simp at q)) (own_ne_len (fun q => by simp at q)) (own_ne_len (fun q => by simp at q))) (by decide) (by decide) e500 (by rw [hml]; rfl) (lenOf own_pd13 rfl) (argsL := [(.ref b467)]) (rest := []) rfl rfl (Nat.le_of_eq rfl) (hb hby at_298) (by decide) (by decide) ?_
        intro T505 h505 v505 L505 X505 e505 q505
        obtain ⟨rfl, M505, J505⟩ := q505
        have N505 := Fr.app N500 M505
        have R505 := (CHr.keep J505 all0 R500.1)
        have C505 := C500.trans R505
        have K505 : Keep h0 h505 [] := K500.trans J505 all0
        have O505 : own_Old Z h505 := O500.keep J505 all0
        show G (T505.setTop (mkF m 301 #[oi i0, oi i1, oi i2, oi i3, oi i4, oi i5, oi 1, oa d1, oi c294, oi 6, .unset, .unset, .unset, .unset] [.null]))
        refine hG _ _ (fun t_ k_ => XS.ifnonnullNo X505.here hx rfl (hb hby at_301) rfl k_) ?_
        refine hG _ _ (fun t_ k_ => XS.iconst X505.here hx rfl (hb hby at_304) k_) ?_
        refine hG _ _ (fun t_ k_ => XS.goto X505.here hx rfl (pc0 := 305) (pc' := 309) rfl (hb hby at_305) (by decide) (by decide) k_) ?_
        show G (T505.setTop (mkF m 309 #[oi i0, oi i1, oi i2, oi i3, oi i4, oi i5, oi 1, oa d1, oi c294, oi 6, .unset, .unset, .unset, .unset] [(.int 1)]))
        exact own_retNW hR hret (by simp) X505 hx (hb hby at_309) e505 SI0 (Nat.le_trans (Nat.le_trans (Nat.le_trans (Nat.le_trans (Nat.le_refl _) R467.2.1) R499.2.1) R500.2.1) R505.2.1) hZ C505 (by decide) (by decide) ⟨rfl, N505, K505⟩
      · skip
        show G (T467.setTop (mkF m 281 #[oi i0, oi i1, oi i2, oi i3, oi i4, oi i5, oi 1, oa d1, oi c294, oi 6, .unset, .unset, .unset, .unset] [(.int 2), (.ref b467), (.ref b467)]))
        refine hG _ _ (fun t_ k_ => XS.iload X467.here hx rfl (hb hby at_281) rfl k_) ?_
        refine hG _ _ (fun t_ k_ => XS.iload X467.here hx rfl (hb hby at_283) rfl k_) ?_
        refine hG _ _ (fun t_ k_ => XS.i2c X467.here hx rfl (hb hby at_285) rfl k_) ?_
        show G (T467.setTop (mkF m 286 #[oi i0, oi i1, oi i2, oi i3, oi i4, oi i5, oi 1, oa d1, oi c294, oi 6, .unset, .unset, .unset, .unset] [(.int (i5.toUInt32.toUInt16.toUInt32.toInt32)), (.int c294), (.int 2), (.ref b467), (.ref b467)]))
        generalize hn_c526 : (i5.toUInt32.toUInt16.toUInt32.toInt32) = c526
        have hr_c526 := own_i2c16 hn_c526
        show G (T467.setTop (mkF m 286 #[oi i0, oi i1, oi i2, oi i3, oi i4, oi i5, oi 1, oa d1, oi c294, oi 6, .unset, .unset, .unset, .unset] [(.int c526), (.int c294), (.int 2), (.ref b467), (.ref b467)]))
        refine hG _ _ (fun t_ k_ => XS.iload X467.here hx rfl (hb hby at_286) rfl k_) ?_
        refine hG _ _ (fun t_ k_ => XS.bipush X467.here hx rfl (hb hby at_288) k_) ?_
        refine hG _ _ (fun t_ k_ => XS.iushr X467.here hx rfl (hb hby at_290) rfl k_) ?_
        refine hG _ _ (fun t_ k_ => XS.i2c X467.here hx rfl (hb hby at_291) rfl k_) ?_
        show G (T467.setTop (mkF m 292 #[oi i0, oi i1, oi i2, oi i3, oi i4, oi i5, oi 1, oa d1, oi c294, oi 6, .unset, .unset, .unset, .unset] [(.int (((i5.toUInt32 >>> ((16 : Int32) &&& 31).toUInt32).toInt32).toUInt32.toUInt16.toUInt32.toInt32)), (.int c526), (.int c294), (.int 2), (.ref b467), (.ref b467)]))
        generalize hn_c527 : (((i5.toUInt32 >>> ((16 : Int32) &&& 31).toUInt32).toInt32).toUInt32.toUInt16.toUInt32.toInt32) = c527
        have hr_c527 := own_i2c16 hn_c527
        show G (T467.setTop (mkF m 292 #[oi i0, oi i1, oi i2, oi i3, oi i4, oi i5, oi 1, oa d1, oi c294, oi 6, .unset, .unset, .unset, .unset] [(.int c527), (.int c526), (.int c294), (.int 2), (.ref b467), (.ref b467)]))
        refine own_callS X467 hx hZ hG hown (ow hw 87 rfl) (ow hw 88 rfl) (ow hw 43 rfl) (ow hw 89 rfl) (by decide) 2 (own_mk_shortChars_2 l Z a0 hw c294 c526 c527 h467 O467 hr_c294 hr_c526 hr_c527) (by decide) (by decide) e467 (by rw [hml]; rfl) (lenOf own_pd16 rfl) (argsL := [(.int 2), (.int c294), (.int c526), (.int c527)]) (rest := [(.ref b467), (.ref b467)]) rfl rfl (Nat.le_of_eq rfl) (hb hby at_292) (by decide) (by decide) ?_
        intro T528 h528 v528 L528 X528 e528 q528
        obtain ⟨u_528, ku_528, rfl, M528, J528, y528_0, r528_0⟩ := q528
        have N528 := Fr.app N0 M528
        have R528 := (CHr.keep J528 all0 R467.1)
        have C528 := C467.trans R528
        have K528 : Keep h0 h528 [] := K467.trans J528 all0
        have O528 : own_Old Z h528 := O467.keep J528 all0
        show G (T528.setTop (mkF m 295 #[oi i0, oi i1, oi i2, oi i3, oi i4, oi i5, oi 1, oa d1, oi c294, oi 6, .unset, .unset, .unset, .unset] [(.ref u_528), (.ref b467), (.ref b467)]))
        have f530 := (A467.keep J528)
        have f531 := ((D467 (Or.inr (ow hw 69 rfl)) (ty := .byte) (by decide)).keep J528 nin0)
        have f532 := ((D467 (Or.inr (ow hw 71 rfl)) (ty := (.array .byte)) (by decide)).keep J528 nin0)
        refine own_callI X528 hx hZ hG hown rfl (ow hw 46 rfl) (ow hw 47 rfl) (ow hw 36 rfl) (ow hw 48 rfl) (by decide) 1 (own_gstr1 l Z a0 hw b467 u_528 ku_528 [c294, c526] cpt (.int 0) .null h528 O528 f530 f531 f532 (own_ge O0 (Nat.le_of_eq z467.symm)) r528_0 (Nat.le_of_ble_eq_true rfl) (Nat.le_of_ble_eq_true rfl) (own_allc hr_c294 (own_allc hr_c526 own_alln)) g0_S g1_hcpt g2_S g3_S g4_S) (by decide) (by decide) e528 (by rw [hml]; rfl) (lenOf own_pd8 rfl) (argsL := [(.ref u_528)]) (rest := [(.ref b467)]) rfl rfl (Nat.le_of_eq rfl) (hb hby at_295) (by decide) (by decide) ?_
        intro T529 h529 v529 L529 X529 e529 q529
        obtain ⟨t_529, kt_529, cd_529, nb_529, vs_529, rfl, M529, J529, y529_0, r529_0, r529_1, r529_2, r529_3, r529_4⟩ := q529
        have N529 := Fr.app N528 M529
        have sf533 : Safe Z consts_1 _ h528 b467 := (own_safeStr hZ.alike f530 f532)
        have R529 := (CHr.keep J529 (allS sf533 all0) R528.1)
        have C529 := C528.trans R529
        have K529 : Keep h0 h529 [] := K528.trans J529 (allS (Or.inr (Nat.le_trans (Keep.refl h0 []).1 (Nat.le_of_eq z467.symm))) all0)
        have O529 : own_Old Z h529 := O528.keep J529 (allS (own_ge O0 (Nat.le_of_eq z467.symm)) all0)
        show G (T529.setTop (mkF m 298 #[oi i0, oi i1, oi i2, oi i3, oi i4, oi i5, oi 1, oa d1, oi c294, oi 6, .unset, .unset, .unset, .unset] [(.ref b467)]))
        have f535 := (((g9_E.ext E467).keep J528).keep J529)
        have f536 := (((g10_V.ext E467).keep J528 nin0).keep J529 (ninS (own_ne g9_E.lt (Nat.le_of_eq z467.symm)) nin0))
        have f537 := (((g11_E.ext E467).keep J528).keep J529)
        have f538 := (((g12_F.ext E467).keep J528 nin0).keep J529 (ninS (own_ne g11_E.lt (Nat.le_of_eq z467.symm)) nin0))
        have f539 := (((g13_E.ext E467).keep J528).keep J529)
        have f540 := (((g14_F.ext E467).keep J528 nin0).keep J529 (ninS (own_ne g13_E.lt (Nat.le_of_eq z467.symm)) nin0))
        have f541 := (((g15_F.ext E467).keep J528 nin0).keep J529 (ninS (own_ne g13_E.lt (Nat.le_of_eq z467.symm)) nin0))
        have f542 := (((g16_V.ext E467).keep J528 nin0).keep J529 (ninS (own_ne g16_V.lt (Nat.le_of_eq z467.symm)) nin0))
        have f543 := (((g17_E.ext E467).keep J528).keep J529)
        have f544 := (((g18_F.ext E467).keep J528 nin0).keep J529 (ninS (own_ne g17_E.lt (Nat.le_of_eq z467.symm)) nin0))
        have f545 := (((g19_E.ext E467).keep J528).keep J529)
        have f546 := (((g20_F.ext E467).keep J528 nin0).keep J529 (ninS (own_ne g19_E.lt (Nat.le_of_eq z467.symm)) nin0))
        have f547 := (((g21_F.ext E467).keep J528 nin0).keep J529 (ninS (own_ne g19_E.lt (Nat.le_of_eq z467.symm)) nin0))
        have f548 := (((g22_V.ext E467).keep J528 nin0).keep J529 (ninS (own_ne g22_V.lt (Nat.le_of_eq z467.symm)) nin0))
        have f549 := (((g23_E.ext E467).keep J528).keep J529)
        have f550 := (((g24_F.ext E467).keep J528 nin0).keep J529 (ninS (own_ne g23_E.lt (Nat.le_of_eq z467.symm)) nin0))
        have f551 := (((g25_E.ext E467).keep J528).keep J529)
        have f552 := (((g26_F.ext E467).keep J528 nin0).keep J529 (ninS (own_ne g25_E.lt (Nat.le_of_eq z467.symm)) nin0))
        have f553 := (((g27_F.ext E467).keep J528 nin0).keep J529 (ninS (own_ne g25_E.lt (Nat.le_of_eq z467.symm)) nin0))
        have f554 := (((g28_V.ext E467).keep J528 nin0).keep J529 (ninS (own_ne g28_V.lt (Nat.le_of_eq z467.symm)) nin0))
        refine own_callS X529 hx hZ hG hown (ow hw 12 rfl) (ow hw 13 rfl) (ow hw 2 rfl) (ow hw 14 rfl) (by decide) 0 (own_findN l Z a0 hw b467 t_529 kt_529 [c294, c526] cd_529 nb_529 vs_529 cpt d0 d1 d2 t0 t1 t2 v0 v1 v2 kv0 kv1 kv2 vals kl h529 O529 r529_0 r529_1 r529_2 r529_3 r529_4 (Nat.le_of_ble_eq_true rfl) (own_allc hr_c294 (own_allc hr_c526 own_alln)) g0_S g1_hcpt g8_S f535 f536 f537 f538 f539 f540 f541 f542 f543 f544 f545 f546 f547 f548 f549 f550 f551 f552 f553 f554 (own_ne g13_E.lt (Nat.le_of_eq z467.symm)) (own_ne g19_E.lt (Nat.le_of_eq z467.symm)) (own_ne g25_E.lt (Nat.le_of_eq z467.symm)) (own_ne_len (fun q => by simp at q)) (own_ne_len (fun q => by simp at q)) (own_ne_len (fun q => by simp at q))) (by decide) (by decide) e529 (by rw [hml]; rfl) (lenOf own_pd13 rfl) (argsL := [(.ref b467)]) (rest := []) rfl rfl (Nat.le_of_eq rfl) (hb hby at_298) (by decide) (by decide) ?_
        intro T534 h534 v534 L534 X534 e534 q534
        obtain ⟨rfl, M534, J534⟩ := q534
        have N534 := Fr.app N529 M534
        have R534 := (CHr.keep J534 all0 R529.1)
        have C534 := C529.trans R534
        have K534 : Keep h0 h534 [] := K529.trans J534 all0
        have O534 : own_Old Z h534 := O529.keep J534 all0
        show G (T534.setTop (mkF m 301 #[oi i0, oi i1, oi i2, oi i3, oi i4, oi i5, oi 1, oa d1, oi c294, oi 6, .unset, .unset, .unset, .unset] [.null]))
        refine hG _ _ (fun t_ k_ => XS.ifnonnullNo X534.here hx rfl (hb hby at_301) rfl k_) ?_
        refine hG _ _ (fun t_ k_ => XS.iconst X534.here hx rfl (hb hby at_304) k_) ?_
        refine hG _ _ (fun t_ k_ => XS.goto X534.here hx rfl (pc0 := 305) (pc' := 309) rfl (hb hby at_305) (by decide) (by decide) k_) ?_
        show G (T534.setTop (mkF m 309 #[oi i0, oi i1, oi i2, oi i3, oi i4, oi i5, oi 1, oa d1, oi c294, oi 6, .unset, .unset, .unset, .unset] [(.int 1)]))
        exact own_retNW hR hret (by simp) X534 hx (hb hby at_309) e534 SI0 (Nat.le_trans (Nat.le_trans (Nat.le_trans (Nat.le_trans (Nat.le_refl _) R467.2.1) R528.2.1) R529.2.1) R534.2.1) hZ C534 (by decide) (by decide) ⟨rfl, N534, K534⟩
      · skip
        show G (T467.setTop (mkF m 281 #[oi i0, oi i1, oi i2, oi i3, oi i4, oi i5, oi 1, oa d1, oi c294, oi 6, .unset, .unset, .unset, .unset] [(.int 3), (.ref b467), (.ref b467)]))
        refine hG _ _ (fun t_ k_ => XS.iload X467.here hx rfl (hb hby at_281) rfl k_) ?_
        refine hG _ _ (fun t_ k_ => XS.iload X467.here hx rfl (hb hby at_283) rfl k_) ?_
        refine hG _ _ (fun t_ k_ => XS.i2c X467.here hx rfl (hb hby at_285) rfl k_) ?_
        show G (T467.setTop (mkF m 286 #[oi i0, oi i1, oi i2, oi i3, oi i4, oi i5, oi 1, oa d1, oi c294, oi 6, .unset, .unset, .unset, .unset] [(.int (i5.toUInt32.toUInt16.toUInt32.toInt32)), (.int c294), (.int 3), (.ref b467), (.ref b467)]))
        generalize hn_c555 : (i5.toUInt32.toUInt16.toUInt32.toInt32) = c555
        have hr_c555 := own_i2c16 hn_c555
        show G (T467.setTop (mkF m 286 #[oi i0, oi i1, oi i2, oi i3, oi i4, oi i5, oi 1, oa d1, oi c294, oi 6, .unset, .unset, .unset, .unset] [(.int c555), (.int c294), (.int 3), (.ref b467), (.ref b467)]))
        refine hG _ _ (fun t_ k_ => XS.iload X467.here hx rfl (hb hby at_286) rfl k_) ?_
        refine hG _ _ (fun t_ k_ => XS.bipush X467.here hx rfl (hb hby at_288) k_) ?_
        refine hG _ _ (fun t_ k_ => XS.iushr X467.here hx rfl (hb hby at_290) rfl k_) ?_
        refine hG _ _ (fun t_ k_ => XS.i2c X467.here hx rfl (hb hby at_291) rfl k_) ?_
        show G (T467.setTop (mkF m 292 #[oi i0, oi i1, oi i2, oi i3, oi i4, oi i5, oi 1, oa d1, oi c294, oi 6, .unset, .unset, .unset, .unset] [(.int (((i5.toUInt32 >>> ((16 : Int32) &&& 31).toUInt32).toInt32).toUInt32.toUInt16.toUInt32.toInt32)), (.int c555), (.int c294), (.int 3), (.ref b467), (.ref b467)]))
        generalize hn_c556 : (((i5.toUInt32 >>> ((16 : Int32) &&& 31).toUInt32).toInt32).toUInt32.toUInt16.toUInt32.toInt32) = c556
        have hr_c556 := own_i2c16 hn_c556
        show G (T467.setTop (mkF m 292 #[oi i0, oi i1, oi i2, oi i3, oi i4, oi i5, oi 1, oa d1, oi c294, oi 6, .unset, .unset, .unset, .unset] [(.int c556), (.int c555), (.int c294), (.int 3), (.ref b467), (.ref b467)]))
        refine own_callS X467 hx hZ hG hown (ow hw 87 rfl) (ow hw 88 rfl) (ow hw 43 rfl) (ow hw 89 rfl) (by decide) 2 (own_mk_shortChars_3 l Z a0 hw c294 c555 c556 h467 O467 hr_c294 hr_c555 hr_c556) (by decide) (by decide) e467 (by rw [hml]; rfl) (lenOf own_pd16 rfl) (argsL := [(.int 3), (.int c294), (.int c555), (.int c556)]) (rest := [(.ref b467), (.ref b467)]) rfl rfl (Nat.le_of_eq rfl) (hb hby at_292) (by decide) (by decide) ?_
        intro T557 h557 v557 L557 X557 e557 q557
        obtain ⟨u_557, ku_557, rfl, M557, J557, y557_0, r557_0⟩ := q557
        have N557 := Fr.app N0 M557
        have R557 := (CHr.keep J557 all0 R467.1)
        have C557 := C467.trans R557
        have K557 : Keep h0 h557 [] := K467.trans J557 all0
        have O557 : own_Old Z h557 := O467.keep J557 all0
        show G (T557.setTop (mkF m 295 #[oi i0, oi i1, oi i2, oi i3, oi i4, oi i5, oi 1, oa d1, oi c294, oi 6, .unset, .unset, .unset, .unset] [(.ref u_557), (.ref b467), (.ref b467)]))
        have f559 := (A467.keep J557)
        have f560 := ((D467 (Or.inr (ow hw 69 rfl)) (ty := .byte) (by decide)).keep J557 nin0)
        have f561 := ((D467 (Or.inr (ow hw 71 rfl)) (ty := (.array .byte)) (by decide)).keep J557 nin0)
        refine own_callI X557 hx hZ hG hown rfl (ow hw 46 rfl) (ow hw 47 rfl) (ow hw 36 rfl) (ow hw 48 rfl) (by decide) 1 (own_gstr1 l Z a0 hw b467 u_557 ku_557 [c294, c555, c556] cpt (.int 0) .null h557 O557 f559 f560 f561 (own_ge O0 (Nat.le_of_eq z467.symm)) r557_0 (Nat.le_of_ble_eq_true rfl) (Nat.le_of_ble_eq_true rfl) (own_allc hr_c294 (own_allc hr_c555 (own_allc hr_c556 own_alln))) g0_S g1_hcpt g2_S g3_S g4_S) (by decide) (by decide) e557 (by rw [hml]; rfl) (lenOf own_pd8 rfl) (argsL := [(.ref u_557)]) (rest := [(.ref b467)]) rfl rfl (Nat.le_of_eq rfl) (hb hby at_295) (by decide) (by decide) ?_
        intro T558 h558 v558 L558 X558 e558 q558
        obtain ⟨t_558, kt_558, cd_558, nb_558, vs_558, rfl, M558, J558, y558_0, r558_0, r558_1, r558_2, r558_3, r558_4⟩ := q558
        have N558 := Fr.app N557 M558
        have sf562 : Safe Z consts_1 _ h557 b467 := (own_safeStr hZ.alike f559 f561)
        have R558 := (CHr.keep J558 (allS sf562 all0) R557.1)
        have C558 := C557.trans R558
        have K558 : Keep h0 h558 [] := K557.trans J558 (allS (Or.inr (Nat.le_trans (Keep.refl h0 []).1 (Nat.le_of_eq z467.symm))) all0)
        have O558 : own_Old Z h558 := O557.keep J558 (allS (own_ge O0 (Nat.le_of_eq z467.symm)) all0)
        show G (T558.setTop (mkF m 298 #[oi i0, oi i1, oi i2, oi i3, oi i4, oi i5, oi 1, oa d1, oi c294, oi 6, .unset, .unset, .unset, .unset] [(.ref b467)]))
        have f564 := (((g9_E.ext E467).keep J557).keep J558)
        have f565 := (((g10_V.ext E467).keep J557 nin0).keep J558 (ninS (own_ne g9_E.lt (Nat.le_of_eq z467.symm)) nin0))
        have f566 := (((g11_E.ext E467).keep J557).keep J558)
        have f567 := (((g12_F.ext E467).keep J557 nin0).keep J558 (ninS (own_ne g11_E.lt (Nat.le_of_eq z467.symm)) nin0))
        have f568 := (((g13_E.ext E467).keep J557).keep J558)
        have f569 := (((g14_F.ext E467).keep J557 nin0).keep J558 (ninS (own_ne g13_E.lt (Nat.le_of_eq z467.symm)) nin0))
        have f570 := (((g15_F.ext E467).keep J557 nin0).keep J558 (ninS (own_ne g13_E.lt (Nat.le_of_eq z467.symm)) nin0))
        have f571 := (((g16_V.ext E467).keep J557 nin0).keep J558 (ninS (own_ne g16_V.lt (Nat.le_of_eq z467.symm)) nin0))
        have f572 := (((g17_E.ext E467).keep J557).keep J558)
        have f573 := (((g18_F.ext E467).keep J557 nin0).keep J558 (ninS (own_ne g17_E.lt (Nat.le_of_eq z467.symm)) nin0))
        have f574 := (((g19_E.ext E467).keep J557).keep J558)
        have f575 := (((g20_F.ext E467).keep J557 nin0).keep J558 (ninS (own_ne g19_E.lt (Nat.le_of_eq z467.symm)) nin0))
        have f576 := (((g21_F.ext E467).keep J557 nin0).keep J558 (ninS (own_ne g19_E.lt (Nat.le_of_eq z467.symm)) nin0))
        have f577 := (((g22_V.ext E467).keep J557 nin0).keep J558 (ninS (own_ne g22_V.lt (Nat.le_of_eq z467.symm)) nin0))
        have f578 := (((g23_E.ext E467).keep J557).keep J558)
        have f579 := (((g24_F.ext E467).keep J557 nin0).keep J558 (ninS (own_ne g23_E.lt (Nat.le_of_eq z467.symm)) nin0))
        have f580 := (((g25_E.ext E467).keep J557).keep J558)
        have f581 := (((g26_F.ext E467).keep J557 nin0).keep J558 (ninS (own_ne g25_E.lt (Nat.le_of_eq z467.symm)) nin0))
        have f582 := (((g27_F.ext E467).keep J557 nin0).keep J558 (ninS (own_ne g25_E.lt (Nat.le_of_eq z467.symm)) nin0))
        have f583 := (((g28_V.ext E467).keep J557 nin0).keep J558 (ninS (own_ne g28_V.lt (Nat.le_of_eq z467.symm)) nin0))
        refine own_callS X558 hx hZ hG hown (ow hw 12 rfl) (ow hw 13 rfl) (ow hw 2 rfl) (ow hw 14 rfl) (by decide) 0 (own_findN l Z a0 hw b467 t_558 kt_558 [c294, c555, c556] cd_558 nb_558 vs_558 cpt d0 d1 d2 t0 t1 t2 v0 v1 v2 kv0 kv1 kv2 vals kl h558 O558 r558_0 r558_1 r558_2 r558_3 r558_4 (Nat.le_of_ble_eq_true rfl) (own_allc hr_c294 (own_allc hr_c555 (own_allc hr_c556 own_alln))) g0_S g1_hcpt g8_S f564 f565 f566 f567 f568 f569 f570 f571 f572 f573 f574 f575 f576 f577 f578 f579 f580 f581 f582 f583 (own_ne g13_E.lt (Nat.le_of_eq z467.symm)) (own_ne g19_E.lt (Nat.le_of_eq z467.symm)) (own_ne g25_E.lt (Nat.le_of_eq z467.symm)) (own_ne_len (fun q => by simp at q)) (own_ne_len (fun q => by simp at q)) (own_ne_len (fun q => by simp at q))) (by decide) (by decide) e558 (by rw [hml]; rfl) (lenOf own_pd13 rfl) (argsL := [(.ref b467)]) (rest := []) rfl rfl (Nat.le_of_eq rfl) (hb hby at_298) (by decide) (by decide) ?_
        intro T563 h563 v563 L563 X563 e563 q563
        obtain ⟨rfl, M563, J563⟩ := q563
        have N563 := Fr.app N558 M563
        have R563 := (CHr.keep J563 all0 R558.1)
        have C563 := C558.trans R563
        have K563 : Keep h0 h563 [] := K558.trans J563 all0
        have O563 : own_Old Z h563 := O558.keep J563 all0
        show G (T563.setTop (mkF m 301 #[oi i0, oi i1, oi i2, oi i3, oi i4, oi i5, oi 1, oa d1, oi c294, oi 6, .unset, .unset, .unset, .unset] [.null]))
        refine hG _ _ (fun t_ k_ => XS.ifnonnullNo X563.here hx rfl (hb hby at_301) rfl k_) ?_
        refine hG _ _ (fun t_ k_ => XS.iconst X563.here hx rfl (hb hby at_304) k_) ?_
        refine hG _ _ (fun t_ k_ => XS.goto X563.here hx rfl (pc0 := 305) (pc' := 309) rfl (hb hby at_305) (by decide) (by decide) k_) ?_
        show G (T563.setTop (mkF m 309 #[oi i0, oi i1, oi i2, oi i3, oi i4, oi i5, oi 1, oa d1, oi c294, oi 6, .unset, .unset, .unset, .unset] [(.int 1)]))
        exact own_retNW hR hret (by simp) X563 hx (hb hby at_309) e563 SI0 (Nat.le_trans (Nat.le_trans (Nat.le_trans (Nat.le_trans (Nat.le_refl _) R467.2.1) R557.2.1) R558.2.1) R563.2.1) hZ C563 (by decide) (by decide) ⟨rfl, N563, K563⟩
  · skip
    show G (s₁.setTop (mkF m 8 #[oi i0, oi i1, oi i2, oi i3, oi i4, oi i5, oi 2, .unset, .unset, .unset, .unset, .unset, .unset, .unset] []))
    refine hG _ _ (fun t_ k_ => XS.iload X0.here hx rfl (hb hby at_8) rfl k_) ?_
    show G (s₁.setTop (mkF m 10 #[oi i0, oi i1, oi i2, oi i3, oi i4, oi i5, oi 2, .unset, .unset, .unset, .unset, .unset, .unset, .unset] [(.int 2)]))
    refine hG _ _ (fun t_ k_ => XS.ifYes X0.here hx rfl (pc0 := 10) (pc' := 19) rfl (hb hby at_10) rfl ((if0 _ _).trans (feq (by decide)).2) (by decide) (by decide) k_) ?_
    show G (s₁.setTop (mkF m 19 #[oi i0, oi i1, oi i2, oi i3, oi i4, oi i5, oi 2, .unset, .unset, .unset, .unset, .unset, .unset, .unset] []))
    refine hG _ _ (fun t_ k_ => XS.iload X0.here hx rfl (hb hby at_19) rfl k_) ?_
    refine hG _ _ (fun t_ k_ => XS.iconst X0.here hx rfl (hb hby at_21) k_) ?_
    show G (s₁.setTop (mkF m 22 #[oi i0, oi i1, oi i2, oi i3, oi i4, oi i5, oi 2, .unset, .unset, .unset, .unset, .unset, .unset, .unset] [(.int 1), (.int 2)]))
    refine hG _ _ (fun t_ k_ => XS.icmpYes X0.here hx rfl (pc0 := 22) (pc' := 31) rfl (hb hby at_22) rfl (feq (by decide)).2 (by decide) (by decide) k_) ?_
    show G (s₁.setTop (mkF m 31 #[oi i0, oi i1, oi i2, oi i3, oi i4, oi i5, oi 2, .unset, .unset, .unset, .unset, .unset, .unset, .unset] []))
    obtain ⟨T584, X584, e584, st584⟩ := getS2 X0 hx hZ hown (host := "") (Or.inl (ow hw 77 rfl)) Via.refl e0 (own_sta g7_S O0) (g := (mkF m 31 #[oi i0, oi i1, oi i2, oi i3, oi i4, oi i5, oi 2, .unset, .unset, .unset, .unset, .unset, .unset, .unset] [])) rfl (hb hby at_31)
    refine hG _ _ st584 ?_
    refine hG _ _ (fun t_ k_ => XS.astore X584.here hx rfl (hb hby at_34) rfl rfl (l' := #[oi i0, oi i1, oi i2, oi i3, oi i4, oi i5, oi 2, oa d2, .unset, .unset, .unset, .unset, .unset, .unset]) rfl k_) ?_
    refine hG _ _ (fun t_ k_ => XS.iloadN X584.here hx rfl (hb hby at_36) rfl k_) ?_
    refine hG _ _ (X584.ldcInt hx hown (mvT hZ (ow hw 4 rfl)) (g := (mkF m 37 #[oi i0, oi i1, oi i2, oi i3, oi i4, oi i5, oi 2, oa d2, .unset, .unset, .unset, .unset, .unset, .unset] [(.int i3)])) rfl (hb hby at_37)) ?_
    refine hG _ _ (fun t_ k_ => XS.iand X584.here hx rfl (hb hby at_39) rfl k_) ?_
    refine hG _ _ (fun t_ k_ => XS.i2c X584.here hx rfl (hb hby at_40) rfl k_) ?_
    show G (T584.setTop (mkF m 41 #[oi i0, oi i1, oi i2, oi i3, oi i4, oi i5, oi 2, oa d2, .unset, .unset, .unset, .unset, .unset, .unset] [(.int ((i3 &&& (65535 : Int32)).toUInt32.toUInt16.toUInt32.toInt32))]))
    generalize hn_c585 : ((i3 &&& (65535 : Int32)).toUInt32.toUInt16.toUInt32.toInt32) = c585
    have hr_c585 := own_i2c16 hn_c585
    show G (T584.setTop (mkF m 41 #[oi i0, oi i1, oi i2, oi i3, oi i4, oi i5, oi 2, oa d2, .unset, .unset, .unset, .unset, .unset, .unset] [(.int c585)]))
    refine hG _ _ (fun t_ k_ => XS.istore X584.here hx rfl (hb hby at_41) rfl (l' := #[oi i0, oi i1, oi i2, oi i3, oi i4, oi i5, oi 2, oa d2, oi c585, .unset, .unset, .unset, .unset, .unset]) rfl k_) ?_
    refine hG _ _ (fun t_ k_ => XS.iloadN X584.here hx rfl (hb hby at_43) rfl k_) ?_
    refine hG _ _ (X584.ldcInt hx hown (mvT hZ (ow hw 0 rfl)) (g := (mkF m 44 #[oi i0, oi i1, oi i2, oi i3, oi i4, oi i5, oi 2, oa d2, oi c585, .unset, .unset, .unset, .unset, .unset] [(.int i0)])) rfl (hb hby at_44)) ?_
    refine hG _ _ (fun t_ k_ => XS.iand X584.here hx rfl (hb hby at_46) rfl k_) ?_
    refine hG _ _ (fun t_ k_ => XS.bipush X584.here hx rfl (hb hby at_47) k_) ?_
    refine hG _ _ (fun t_ k_ => iremM X584 hx rfl (hb hby at_49) rfl (by decide) k_) ?_
    refine hG _ _ (fun t_ k_ => XS.istore X584.here hx rfl (hb hby at_50) rfl (l' := #[oi i0, oi i1, oi i2, oi i3, oi i4, oi i5, oi 2, oa d2, oi c585, oi ((i0 &&& (2147483647 : Int32)) % (7 : Int32)), .unset, .unset, .unset, .unset]) rfl k_) ?_
    show G (T584.setTop (mkF m 52 #[oi i0, oi i1, oi i2, oi i3, oi i4, oi i5, oi 2, oa d2, oi c585, oi ((i0 &&& (2147483647 : Int32)) % (7 : Int32)), .unset, .unset, .unset, .unset] []))
    generalize hn_q586 : ((i0 &&& (2147483647 : Int32)) % (7 : Int32)) = q586
    rcases own_r7 hn_q586 with rfl | rfl | rfl | rfl | rfl | rfl | rfl
    · skip
      show G (T584.setTop (mkF m 52 #[oi i0, oi i1, oi i2, oi i3, oi i4, oi i5, oi 2, oa d2, oi c585, oi 0, .unset, .unset, .unset, .unset] []))
      refine hG _ _ (fun t_ k_ => XS.iload X584.here hx rfl (hb hby at_52) rfl k_) ?_
      show G (T584.setTop (mkF m 54 #[oi i0, oi i1, oi i2, oi i3, oi i4, oi i5, oi 2, oa d2, oi c585, oi 0, .unset, .unset, .unset, .unset] [(.int 0)]))
      refine hG _ _ (fun t_ k_ => XS.ifNo X584.here hx rfl (hb hby at_54) rfl ((if0 _ _).trans (teq (by decide)).2) k_) ?_
      show G (T584.setTop (mkF m 57 #[oi i0, oi i1, oi i2, oi i3, oi i4, oi i5, oi 2, oa d2, oi c585, oi 0, .unset, .unset, .unset, .unset] []))
      refine hG _ _ (fun t_ k_ => XS.aload X584.here hx rfl (hb hby at_57) rfl rfl k_) ?_
      show G (T584.setTop (mkF m 59 #[oi i0, oi i1, oi i2, oi i3, oi i4, oi i5, oi 2, oa d2, oi c585, oi 0, .unset, .unset, .unset, .unset] [(.ref d2)]))
      refine own_callV (C := "com/example/handlewright/handlewright/DomainStatus") X584 hx hZ hG hown (ow hw 5 rfl) (ow hw 6 rfl) (ow hw 8 rfl) (ow hw 7 rfl) (ow hw 2 rfl) (ow hw 9 rfl) (by decide) 0 (own_text l Z a0 hw d2 t2 h0 O0 g24_F) (by decide) (by decide) e584 g23_E (by rw [hml]; rfl) (lenOf own_pd12 rfl) (argsL := []) (rest := []) rfl rfl (Nat.le_of_eq rfl) (hb hby at_59) (by decide) (by decide) ?_
      intro T587 h587 v587 L587 X587 e587 q587
      obtain ⟨rfl, M587, rfl⟩ := q587
      have N587 := Fr.app N0 M587
      show G (T587.setTop (mkF m 62 #[oi i0, oi i1, oi i2, oi i3, oi i4, oi i5, oi 2, oa d2, oi c585, oi 0, .unset, .unset, .unset, .unset] [(.ref t2)]))
      refine own_callS X587 hx hZ hG hown (ow hw 12 rfl) (ow hw 13 rfl) (ow hw 2 rfl) (ow hw 14 rfl) (by decide) 0 (own_findS2 l Z a0 hw d0 d1 d2 t0 t1 t2 v0 v1 v2 kv0 kv1 kv2 vals kl cpt h0 O0 g8_S g9_E g10_V g11_E g12_F g13_E g14_F g15_F g16_V g17_E g18_F g19_E g20_F g21_F g22_V g23_E g24_F g25_E g26_F g27_F g28_V g0_S g1_hcpt g30_n02 g31_n12) (by decide) (by decide) e587 (by rw [hml]; rfl) (lenOf own_pd13 rfl) (argsL := [(.ref t2)]) (rest := []) rfl rfl (Nat.le_of_eq rfl) (hb hby at_62) (by decide) (by decide) ?_
      intro T588 h588 v588 L588 X588 e588 q588
      obtain ⟨rfl, M588, J588⟩ := q588
      have N588 := Fr.app N587 M588
      have R588 := (CHr.keep J588 all0 H0)
      have C588 := (CHr.refl H0).trans R588
      have K588 : Keep h0 h588 [] := (Keep.refl h0 []).trans J588 all0
      have O588 : own_Old Z h588 := O0.keep J588 all0
      refine hG _ _ (fun t_ k_ => XS.aload X588.here hx rfl (hb hby at_65) rfl rfl k_) ?_
      show G (T588.setTop (mkF m 67 #[oi i0, oi i1, oi i2, oi i3, oi i4, oi i5, oi 2, oa d2, oi c585, oi 0, .unset, .unset, .unset, .unset] [(.ref d2), (.ref d2)]))
      refine hG _ _ (fun t_ k_ => Jvm.RoadKit.acmp (g := (mkF m 67 #[oi i0, oi i1, oi i2, oi i3, oi i4, oi i5, oi 2, oa d2, oi c585, oi 0, .unset, .unset, .unset, .unset] [(.ref d2), (.ref d2)])) X588 hx rfl rfl rfl (pc0 := 67) (pc' := 70) (same := true) rfl (hb hby at_67) rfl (decide_eq_true rfl) (by decide) (by decide) k_) ?_
      show G (T588.setTop (mkF m 70 #[oi i0, oi i1, oi i2, oi i3, oi i4, oi i5, oi 2, oa d2, oi c585, oi 0, .unset, .unset, .unset, .unset] []))
      refine hG _ _ (fun t_ k_ => XS.iconst X588.here hx rfl (hb hby at_70) k_) ?_
      refine hG _ _ (fun t_ k_ => XS.goto X588.here hx rfl (pc0 := 71) (pc' := 75) rfl (hb hby at_71) (by decide) (by decide) k_) ?_
      show G (T588.setTop (mkF m 75 #[oi i0, oi i1, oi i2, oi i3, oi i4, oi i5, oi 2, oa d2, oi c585, oi 0, .unset, .unset, .unset, .unset] [(.int 1)]))
      exact own_retNW hR hret (by simp) X588 hx (hb hby at_75) e588 SI0 (Nat.le_trans (Nat.le_refl _) R588.2.1) hZ C588 (by decide) (by decide) ⟨rfl, N588, K588⟩
    · skip
      show G (T584.setTop (mkF m 52 #[oi i0, oi i1, oi i2, oi i3, oi i4, oi i5, oi 2, oa d2, oi c585, oi 1, .unset, .unset, .unset, .unset] []))
      refine hG _ _ (fun t_ k_ => XS.iload X584.here hx rfl (hb hby at_52) rfl k_) ?_
      show G (T584.setTop (mkF m 54 #[oi i0, oi i1, oi i2, oi i3, oi i4, oi i5, oi 2, oa d2, oi c585, oi 1, .unset, .unset, .unset, .unset] [(.int 1)]))
      refine hG _ _ (fun t_ k_ => XS.ifYes X584.here hx rfl (pc0 := 54) (pc' := 76) rfl (hb hby at_54) rfl ((if0 _ _).trans (feq (by decide)).2) (by decide) (by decide) k_) ?_
      show G (T584.setTop (mkF m 76 #[oi i0, oi i1, oi i2, oi i3, oi i4, oi i5, oi 2, oa d2, oi c585, oi 1, .unset, .unset, .unset, .unset] []))
      refine hG _ _ (fun t_ k_ => XS.iload X584.here hx rfl (hb hby at_76) rfl k_) ?_
      refine hG _ _ (fun t_ k_ => XS.iconst X584.here hx rfl (hb hby at_78) k_) ?_
      show G (T584.setTop (mkF m 79 #[oi i0, oi i1, oi i2, oi i3, oi i4, oi i5, oi 2, oa d2, oi c585, oi 1, .unset, .unset, .unset, .unset] [(.int 1), (.int 1)]))
      refine hG _ _ (fun t_ k_ => XS.icmpNo X584.here hx rfl (hb hby at_79) rfl (teq (by decide)).2 k_) ?_
      show G (T584.setTop (mkF m 82 #[oi i0, oi i1, oi i2, oi i3, oi i4, oi i5, oi 2, oa d2, oi c585, oi 1, .unset, .unset, .unset, .unset] []))
      obtain ⟨T589, h589, X589, e589, E589, A589, D589, -, st589⟩ := newO X584 hx hZ hown (ow hw 39 rfl) (ow hw 40 rfl) (ow hw 36 rfl) e584 (g := (mkF m 82 #[oi i0, oi i1, oi i2, oi i3, oi i4, oi i5, oi 2, oa d2, oi c585, oi 1, .unset, .unset, .unset, .unset] [])) rfl (hb hby at_82) (by decide) (by decide)
      obtain ⟨b589, z589⟩ : ∃ z, z = h0.size := ⟨_, rfl⟩
      rw [← z589] at A589 D589 st589
      refine hG _ _ st589 ?_
      have R589 := (CHr.ext E589 H0)
      have C589 := (CHr.refl H0).trans R589
      have K589 : Keep h0 h589 [] := (Keep.refl h0 []).ext E589
      have O589 : own_Old Z h589 := O0.ext E589
      refine hG _ _ (fun t_ k_ => XS.dup X589.here hx rfl (hb hby at_85) rfl rfl k_) ?_
      refine hG _ _ (fun t_ k_ => XS.iconst X589.here hx rfl (hb hby at_86) k_) ?_
      obtain ⟨T590, h590, k590, X590, e590, E590, A590, st590⟩ := newP X589 hx hZ (ow hw 45 rfl) e589 (g := (mkF m 87 #[oi i0, oi i1, oi i2, oi i3, oi i4, oi i5, oi 2, oa d2, oi c585, oi 1, .unset, .unset, .unset, .unset] [(.int 0), (.ref b589), (.ref b589)])) rfl (hb hby at_87) rfl (by decide) (cap := 0) (by decide) (by decide) (by decide) (by decide)
      obtain ⟨b590, z590⟩ : ∃ z, z = h589.size := ⟨_, rfl⟩
      rw [← z590] at A590 st590
      refine hG _ _ st590 ?_
      have R590 := (CHr.ext E590 R589.1)
      have C590 := C589.trans R590
      have K590 : Keep h0 h590 [] := K589.ext E590
      have O590 : own_Old Z h590 := O589.ext E590
      have V590 : Arv Z h590 b590 k590 .char (0 : Int32) [] (.int 0) := (Arv.new A590 (by decide)).pad (pad_rep [] (.int 0) 0)
      show G (T590.setTop (mkF m 89 #[oi i0, oi i1, oi i2, oi i3, oi i4, oi i5, oi 2, oa d2, oi c585, oi 1, .unset, .unset, .unset, .unset] [(.ref b590), (.ref b589), (.ref b589)]))
      have f592 := (A589.ext E590)
      have f593 := ((D589 (Or.inr (ow hw 69 rfl)) (ty := .byte) (by decide)).ext E590)
      have f594 := ((D589 (Or.inr (ow hw 71 rfl)) (ty := (.array .byte)) (by decide)).ext E590)
      refine own_callIW X590 hx hZ hG hown rfl (ow hw 46 rfl) (ow hw 47 rfl) (ow hw 36 rfl) (ow hw 48 rfl) (by decide) 1 (own_str1E l Z a0 hw hEL b589 b590 (.int 0) k590 h590 O590 f592 f593 f594 (own_ge O0 (Nat.le_of_eq z589.symm)) V590) (by decide) (by decide) e590 SI0 (Nat.le_trans (Nat.le_trans (Nat.le_refl _) R589.2.1) R590.2.1) hEL R590.1 (by rw [hml]; rfl) (lenOf own_pd8 rfl) (argsL := [(.ref b590)]) (rest := [(.ref b589)]) rfl rfl (Nat.le_of_eq rfl) (hb hby at_89) (by decide) (by decide) ?_
      intro T591 h591 v591 L591 X591 e591 SI591 hZ591 hown591 Y591 q591
      obtain ⟨t_591, kt_591, rfl, M591, J591, r591_0, r591_1, r591_2, r591_3⟩ := q591
      have N591 := Fr.app N0 M591
      have R591 := Y591
      have C591 := C590.trans R591
      have K591 : Keep h0 h591 [] := K590.trans J591 (allS (Or.inr (Nat.le_trans (Keep.refl h0 []).1 (Nat.le_of_eq z589.symm))) all0)
      have O591 : own_Old Z h591 := O590.keep J591 (allS (own_ge O0 (Nat.le_of_eq z589.symm)) all0)
      show G (T591.setTop (mkF m 92 #[oi i0, oi i1, oi i2, oi i3, oi i4, oi i5, oi 2, oa d2, oi c585, oi 1, .unset, .unset, .unset, .unset] [(.ref b589)]))
      have f596 := (((g9_E.ext E589).ext E590).keep J591)
      have f597 := (((g10_V.ext E589).ext E590).keep J591 (ninS (own_ne g9_E.lt (Nat.le_of_eq z589.symm)) nin0))
      have f598 := (((g11_E.ext E589).ext E590).keep J591)
      have f599 := (((g12_F.ext E589).ext E590).keep J591 (ninS (own_ne g11_E.lt (Nat.le_of_eq z589.symm)) nin0))
      have f600 := (((g13_E.ext E589).ext E590).keep J591)
      have f601 := (((g14_F.ext E589).ext E590).keep J591 (ninS (own_ne g13_E.lt (Nat.le_of_eq z589.symm)) nin0))
      have f602 := (((g15_F.ext E589).ext E590).keep J591 (ninS (own_ne g13_E.lt (Nat.le_of_eq z589.symm)) nin0))
      have f603 := (((g16_V.ext E589).ext E590).keep J591 (ninS (own_ne g16_V.lt (Nat.le_of_eq z589.symm)) nin0))
      have f604 := (((g17_E.ext E589).ext E590).keep J591)
      have f605 := (((g18_F.ext E589).ext E590).keep J591 (ninS (own_ne g17_E.lt (Nat.le_of_eq z589.symm)) nin0))
      have f606 := (((g19_E.ext E589).ext E590).keep J591)
      have f607 := (((g20_F.ext E589).ext E590).keep J591 (ninS (own_ne g19_E.lt (Nat.le_of_eq z589.symm)) nin0))
      have f608 := (((g21_F.ext E589).ext E590).keep J591 (ninS (own_ne g19_E.lt (Nat.le_of_eq z589.symm)) nin0))
      have f609 := (((g22_V.ext E589).ext E590).keep J591 (ninS (own_ne g22_V.lt (Nat.le_of_eq z589.symm)) nin0))
      have f610 := (((g23_E.ext E589).ext E590).keep J591)
      have f611 := (((g24_F.ext E589).ext E590).keep J591 (ninS (own_ne g23_E.lt (Nat.le_of_eq z589.symm)) nin0))
      have f612 := (((g25_E.ext E589).ext E590).keep J591)
      have f613 := (((g26_F.ext E589).ext E590).keep J591 (ninS (own_ne g25_E.lt (Nat.le_of_eq z589.symm)) nin0))
      have f614 := (((g27_F.ext E589).ext E590).keep J591 (ninS (own_ne g25_E.lt (Nat.le_of_eq z589.symm)) nin0))
      have f615 := (((g28_V.ext E589).ext E590).keep J591 (ninS (own_ne g28_V.lt (Nat.le_of_eq z589.symm)) nin0))
      refine own_callS X591 hx hZ591 hG hown591 (ow hw 12 rfl) (ow hw 13 rfl) (ow hw 2 rfl) (ow hw 14 rfl) (by decide) 0 (own_findN l Z a0 hw b589 t_591 kt_591 ([] : List Int32) (0 : Int32) (0 : Int32) [] cpt d0 d1 d2 t0 t1 t2 v0 v1 v2 kv0 kv1 kv2 vals kl h591 O591 r591_0 r591_1 r591_2 r591_3 own_enc_nil (Nat.zero_le _) own_alln g0_S g1_hcpt g8_S f596 f597 f598 f599 f600 f601 f602 f603 f604 f605 f606 f607 f608 f609 f610 f611 f612 f613 f614 f615 (own_ne g13_E.lt (Nat.le_of_eq z589.symm)) (own_ne g19_E.lt (Nat.le_of_eq z589.symm)) (own_ne g25_E.lt (Nat.le_of_eq z589.symm)) (own_ne_len (fun q => by simp at q)) (own_ne_len (fun q => by simp at q)) (own_ne_len (fun q => by simp at q))) (by decide) (by decide) e591 (by rw [hml]; rfl) (lenOf own_pd13 rfl) (argsL := [(.ref b589)]) (rest := []) rfl rfl (Nat.le_of_eq rfl) (hb hby at_92) (by decide) (by decide) ?_
      intro T595 h595 v595 L595 X595 e595 q595
      obtain ⟨rfl, M595, J595⟩ := q595
      have N595 := Fr.app N591 M595
      have R595 := (CHr.keep J595 all0 R591.1)
      have C595 := C591.trans R595
      have K595 : Keep h0 h595 [] := K591.trans J595 all0
      have O595 : own_Old Z h595 := O591.keep J595 all0
      show G (T595.setTop (mkF m 95 #[oi i0, oi i1, oi i2, oi i3, oi i4, oi i5, oi 2, oa d2, oi c585, oi 1, .unset, .unset, .unset, .unset] [.null]))
      refine hG _ _ (fun t_ k_ => XS.ifnonnullNo X595.here hx rfl (hb hby at_95) rfl k_) ?_
      refine hG _ _ (fun t_ k_ => XS.iconst X595.here hx rfl (hb hby at_98) k_) ?_
      refine hG _ _ (fun t_ k_ => XS.goto X595.here hx rfl (pc0 := 99) (pc' := 103) rfl (hb hby at_99) (by decide) (by decide) k_) ?_
      show G (T595.setTop (mkF m 103 #[oi i0, oi i1, oi i2, oi i3, oi i4, oi i5, oi 2, oa d2, oi c585, oi 1, .unset, .unset, .unset, .unset] [(.int 1)]))
      exact own_retNW hR hret (by simp) X595 hx (hb hby at_103) e595 SI591 (Nat.le_trans (Nat.le_refl _) R595.2.1) hZ591 C595 (by decide) (by decide) ⟨rfl, N595, K595⟩
    · skip
      show G (T584.setTop (mkF m 52 #[oi i0, oi i1, oi i2, oi i3, oi i4, oi i5, oi 2, oa d2, oi c585, oi 2, .unset, .unset, .unset, .unset] []))
      refine hG _ _ (fun t_ k_ => XS.iload X584.here hx rfl (hb hby at_52) rfl k_) ?_
      show G (T584.setTop (mkF m 54 #[oi i0, oi i1, oi i2, oi i3, oi i4, oi i5, oi 2, oa d2, oi c585, oi 2, .unset, .unset, .unset, .unset] [(.int 2)]))
      refine hG _ _ (fun t_ k_ => XS.ifYes X584.here hx rfl (pc0 := 54) (pc' := 76) rfl (hb hby at_54) rfl ((if0 _ _).trans (feq (by decide)).2) (by decide) (by decide) k_) ?_
      show G (T584.setTop (mkF m 76 #[oi i0, oi i1, oi i2, oi i3, oi i4, oi i5, oi 2, oa d2, oi c585, oi 2, .unset, .unset, .unset, .unset] []))
      refine hG _ _ (fun t_ k_ => XS.iload X584.here hx rfl (hb hby at_76) rfl k_) ?_
      refine hG _ _ (fun t_ k_ => XS.iconst X584.here hx rfl (hb hby at_78) k_) ?_
      show G (T584.setTop (mkF m 79 #[oi i0, oi i1, oi i2, oi i3, oi i4, oi i5, oi 2, oa d2, oi c585, oi 2, .unset, .unset, .unset, .unset] [(.int 1), (.int 2)]))
      refine hG _ _ (fun t_ k_ => XS.icmpYes X584.here hx rfl (pc0 := 79) (pc' := 104) rfl (hb hby at_79) rfl (feq (by decide)).2 (by decide) (by decide) k_) ?_
      show G (T584.setTop (mkF m 104 #[oi i0, oi i1, oi i2, oi i3, oi i4, oi i5, oi 2, oa d2, oi c585, oi 2, .unset, .unset, .unset, .unset] []))
      refine hG _ _ (fun t_ k_ => XS.iload X584.here hx rfl (hb hby at_104) rfl k_) ?_
      refine hG _ _ (fun t_ k_ => XS.iconst X584.here hx rfl (hb hby at_106) k_) ?_
      show G (T584.setTop (mkF m 107 #[oi i0, oi i1, oi i2, oi i3, oi i4, oi i5, oi 2, oa d2, oi c585, oi 2, .unset, .unset, .unset, .unset] [(.int 2), (.int 2)]))
      refine hG _ _ (fun t_ k_ => XS.icmpNo X584.here hx rfl (hb hby at_107) rfl (teq (by decide)).2 k_) ?_
      show G (T584.setTop (mkF m 110 #[oi i0, oi i1, oi i2, oi i3, oi i4, oi i5, oi 2, oa d2, oi c585, oi 2, .unset, .unset, .unset, .unset] []))
      refine hG _ _ (fun t_ k_ => XS.iload X584.here hx rfl (hb hby at_110) rfl k_) ?_
      show G (T584.setTop (mkF m 112 #[oi i0, oi i1, oi i2, oi i3, oi i4, oi i5, oi 2, oa d2, oi c585, oi 2, .unset, .unset, .unset, .unset] [(.int 2)]))
      refine own_callS X584 hx hZ hG hown (ow hw 78 rfl) (ow hw 79 rfl) (ow hw 43 rfl) (ow hw 80 rfl) (by decide) 0 (own_mk_lit_2 l Z a0 hw h0 O0) (by decide) (by decide) e584 (by rw [hml]; rfl) (lenOf own_pd14 rfl) (argsL := [(.int 2)]) (rest := []) rfl rfl (Nat.le_of_eq rfl) (hb hby at_112) (by decide) (by decide) ?_
      intro T616 h616 v616 L616 X616 e616 q616
      obtain ⟨u_616, ku_616, rfl, M616, J616, y616_0, r616_0⟩ := q616
      have N616 := Fr.app N0 M616
      have R616 := (CHr.keep J616 all0 H0)
      have C616 := (CHr.refl H0).trans R616
      have K616 : Keep h0 h616 [] := (Keep.refl h0 []).trans J616 all0
      have O616 : own_Old Z h616 := O0.keep J616 all0
      refine hG _ _ (fun t_ k_ => XS.astore X616.here hx rfl (hb hby at_115) rfl rfl (l' := #[oi i0, oi i1, oi i2, oi i3, oi i4, oi i5, oi 2, oa d2, oi c585, oi 2, oa u_616, .unset, .unset, .unset]) rfl k_) ?_
      refine hG _ _ (fun t_ k_ => XS.iloadN X616.here hx rfl (hb hby at_117) rfl k_) ?_
      refine hG _ _ (X616.ldcInt hx hown (mvT hZ (ow hw 0 rfl)) (g := (mkF m 118 #[oi i0, oi i1, oi i2, oi i3, oi i4, oi i5, oi 2, oa d2, oi c585, oi 2, oa u_616, .unset, .unset, .unset] [(.int i2)])) rfl (hb hby at_118)) ?_
      refine hG _ _ (fun t_ k_ => XS.iand X616.here hx rfl (hb hby at_120) rfl k_) ?_
      refine hG _ _ (fun t_ k_ => XS.aload X616.here hx rfl (hb hby at_121) rfl rfl k_) ?_
      obtain ⟨c617, Ar617, -, S617, M617, -, -⟩ := id r616_0
      refine hG _ _ (X616.arraylength hx (by rw [e616]; exact Ar617.1) (State.isArrayOf_alike hZ.alike Ar617.2.1) (g := (mkF m 123 #[oi i0, oi i1, oi i2, oi i3, oi i4, oi i5, oi 2, oa d2, oi c585, oi 2, oa u_616, .unset, .unset, .unset] [(.ref u_616), (.int (i2 &&& (2147483647 : Int32)))])) rfl rfl (hb hby at_123)) ?_
      rw [len_of S617 M617]
      refine hG _ _ (fun t_ k_ => iremM X616 hx rfl (hb hby at_124) rfl (by decide) k_) ?_
      refine hG _ _ (fun t_ k_ => XS.istore X616.here hx rfl (hb hby at_125) rfl (l' := #[oi i0, oi i1, oi i2, oi i3, oi i4, oi i5, oi 2, oa d2, oi c585, oi 2, oa u_616, oi ((i2 &&& (2147483647 : Int32)) % (13 : Int32)), .unset, .unset]) rfl k_) ?_
      show G (T616.setTop (mkF m 127 #[oi i0, oi i1, oi i2, oi i3, oi i4, oi i5, oi 2, oa d2, oi c585, oi 2, oa u_616, oi ((i2 &&& (2147483647 : Int32)) % (13 : Int32)), .unset, .unset] []))
      generalize hn_ix618 : ((i2 &&& (2147483647 : Int32)) % (13 : Int32)) = ix618
      have hixb := own_ixb (k := 13) (own_ixl (by decide) hn_ix618) (by decide)
      show G (T616.setTop (mkF m 127 #[oi i0, oi i1, oi i2, oi i3, oi i4, oi i5, oi 2, oa d2, oi c585, oi 2, oa u_616, oi ix618, .unset, .unset] []))
      refine hG _ _ (fun t_ k_ => XS.aload X616.here hx rfl (hb hby at_127) rfl rfl k_) ?_
      refine hG _ _ (fun t_ k_ => XS.iload X616.here hx rfl (hb hby at_129) rfl k_) ?_
      obtain ⟨c619, Ar619, q619, S619, M619, H619, G619⟩ := id r616_0
      have hin619 : ¬ (ix618 < 0 ∨ c619.slots.size ≤ ix618.toNatClampNeg) := inb_of S619 ⟨hixb.1, hixb.2.1⟩
      refine hG _ _ (X616.caload hx (j := ix618) (v := (.int ([(112 : Int32), (101 : Int32), (110 : Int32), (100 : Int32), (105 : Int32), (110 : Int32), (103 : Int32), (67 : Int32), (114 : Int32), (101 : Int32), (97 : Int32), (116 : Int32), (101 : Int32)].getD ix618.toNatClampNeg 0))) (by rw [e616]; exact Ar619.1) (State.isArrayOf_alike hZ.alike Ar619.2.1) Ar619.2.2 hin619 (Has.at H619 hin619 (own_getD_map Value.int [(112 : Int32), (101 : Int32), (110 : Int32), (100 : Int32), (105 : Int32), (110 : Int32), (103 : Int32), (67 : Int32), (114 : Int32), (101 : Int32), (97 : Int32), (116 : Int32), (101 : Int32)] ix618.toNatClampNeg _ 0 hixb.2.2)) (g := (mkF m 131 #[oi i0, oi i1, oi i2, oi i3, oi i4, oi i5, oi 2, oa d2, oi c585, oi 2, oa u_616, oi ix618, .unset, .unset] [(.int ix618), (.ref u_616)])) rfl rfl (hb hby at_131)) ?_
      refine hG _ _ (fun t_ k_ => XS.istore X616.here hx rfl (hb hby at_132) rfl (l' := #[oi i0, oi i1, oi i2, oi i3, oi i4, oi i5, oi 2, oa d2, oi c585, oi 2, oa u_616, oi ix618, oi ([(112 : Int32), (101 : Int32), (110 : Int32), (100 : Int32), (105 : Int32), (110 : Int32), (103 : Int32), (67 : Int32), (114 : Int32), (101 : Int32), (97 : Int32), (116 : Int32), (101 : Int32)].getD ix618.toNatClampNeg 0), .unset]) rfl k_) ?_
      refine hG _ _ (fun t_ k_ => XS.aload X616.here hx rfl (hb hby at_134) rfl rfl k_) ?_
      refine hG _ _ (fun t_ k_ => XS.iload X616.here hx rfl (hb hby at_136) rfl k_) ?_
      refine hG _ _ (fun t_ k_ => XS.iload X616.here hx rfl (hb hby at_138) rfl k_) ?_
      obtain ⟨c620, Ar620, q620, S620, M620, H620, G620⟩ := id r616_0
      obtain ⟨T620, h620, X620, e620, W620, st620⟩ := stC X616 hx hZ e616 Ar620 (j := ix618) (inb_of S620 ⟨hixb.1, hixb.2.1⟩) (g := (mkF m 140 #[oi i0, oi i1, oi i2, oi i3, oi i4, oi i5, oi 2, oa d2, oi c585, oi 2, oa u_616, oi ix618, oi ([(112 : Int32), (101 : Int32), (110 : Int32), (100 : Int32), (105 : Int32), (110 : Int32), (103 : Int32), (67 : Int32), (114 : Int32), (101 : Int32), (97 : Int32), (116 : Int32), (101 : Int32)].getD ix618.toNatClampNeg 0), .unset] [(.int c585), (.int ix618), (.ref u_616)])) rfl rfl (hb hby at_140)
      refine hG _ _ st620 ?_
      have sf621 : Safe Z consts_1 _ h616 u_616 := (Safe.keep J616 all0 H0 (Safe.new y616_0))
      have R620 := (CHr.wr W620 sf621 R616.1)
      have C620 := C616.trans R620
      have K620 : Keep h0 h620 [] := K616.wr W620 (Or.inr (Nat.le_trans (Keep.refl h0 []).1 y616_0))
      have O620 : own_Old Z h620 := O616.wr W620 (own_ge O0 y616_0)
      have V620 : Arv Z h620 u_616 ku_616 .char (13 : Int32) ([(.int 112), (.int 101), (.int 110), (.int 100), (.int 105), (.int 110), (.int 103), (.int 67), (.int 114), (.int 101), (.int 97), (.int 116), (.int 101)].set ix618.toNatClampNeg (.int (nar .char c585))) (.int 0) := Arv.set Ar620 q620 S620 M620 H620 G620 (fits_nar_char _) W620 ix618.toNatClampNeg rfl hixb.2.2
      have N620 := Fr.snoc X620 N616 (own_ge O0 y616_0)
      show G (T620.setTop (mkF m 141 #[oi i0, oi i1, oi i2, oi i3, oi i4, oi i5, oi 2, oa d2, oi c585, oi 2, oa u_616, oi ix618, oi ([(112 : Int32), (101 : Int32), (110 : Int32), (100 : Int32), (105 : Int32), (110 : Int32), (103 : Int32), (67 : Int32), (114 : Int32), (101 : Int32), (97 : Int32), (116 : Int32), (101 : Int32)].getD ix618.toNatClampNeg 0), .unset] []))
      rw [own_narC hr_c585] at V620
      have VV622 : Arv Z h620 u_616 ku_616 .char (Int32.ofNat ([(112 : Int32), (101 : Int32), (110 : Int32), (100 : Int32), (105 : Int32), (110 : Int32), (103 : Int32), (67 : Int32), (114 : Int32), (101 : Int32), (97 : Int32), (116 : Int32), (101 : Int32)].set ix618.toNatClampNeg c585).length) (([(112 : Int32), (101 : Int32), (110 : Int32), (100 : Int32), (105 : Int32), (110 : Int32), (103 : Int32), (67 : Int32), (114 : Int32), (101 : Int32), (97 : Int32), (116 : Int32), (101 : Int32)].set ix618.toNatClampNeg c585).map Value.int) (.int 0) := by rw [List.length_set, List.map_set]; exact V620
      show G (T620.setTop (mkF m 141 #[oi i0, oi i1, oi i2, oi i3, oi i4, oi i5, oi 2, oa d2, oi c585, oi 2, oa u_616, oi ix618, oi ([(112 : Int32), (101 : Int32), (110 : Int32), (100 : Int32), (105 : Int32), (110 : Int32), (103 : Int32), (67 : Int32), (114 : Int32), (101 : Int32), (97 : Int32), (116 : Int32), (101 : Int32)].getD ix618.toNatClampNeg 0), .unset] []))
      refine hG _ _ (fun t_ k_ => XS.iload X620.here hx rfl (hb hby at_141) rfl k_) ?_
      refine hG _ _ (fun t_ k_ => XS.iload X620.here hx rfl (hb hby at_143) rfl k_) ?_
      show G (T620.setTop (mkF m 145 #[oi i0, oi i1, oi i2, oi i3, oi i4, oi i5, oi 2, oa d2, oi c585, oi 2, oa u_616, oi ix618, oi ([(112 : Int32), (101 : Int32), (110 : Int32), (100 : Int32), (105 : Int32), (110 : Int32), (103 : Int32), (67 : Int32), (114 : Int32), (101 : Int32), (97 : Int32), (116 : Int32), (101 : Int32)].getD ix618.toNatClampNeg 0), .unset] [(.int ([(112 : Int32), (101 : Int32), (110 : Int32), (100 : Int32), (105 : Int32), (110 : Int32), (103 : Int32), (67 : Int32), (114 : Int32), (101 : Int32), (97 : Int32), (116 : Int32), (101 : Int32)].getD ix618.toNatClampNeg 0)), (.int c585)]))
      by_cases hc145_623 : c585 = ([(112 : Int32), (101 : Int32), (110 : Int32), (100 : Int32), (105 : Int32), (110 : Int32), (103 : Int32), (67 : Int32), (114 : Int32), (101 : Int32), (97 : Int32), (116 : Int32), (101 : Int32)].getD ix618.toNatClampNeg 0)
      · skip
        refine hG _ _ (fun t_ k_ => XS.icmpNo X620.here hx rfl (hb hby at_145) rfl (teq hc145_623).2 k_) ?_
        show G (T620.setTop (mkF m 148 #[oi i0, oi i1, oi i2, oi i3, oi i4, oi i5, oi 2, oa d2, oi c585, oi 2, oa u_616, oi ix618, oi ([(112 : Int32), (101 : Int32), (110 : Int32), (100 : Int32), (105 : Int32), (110 : Int32), (103 : Int32), (67 : Int32), (114 : Int32), (101 : Int32), (97 : Int32), (116 : Int32), (101 : Int32)].getD ix618.toNatClampNeg 0), .unset] []))
        refine hG _ _ (fun t_ k_ => XS.aload X620.here hx rfl (hb hby at_148) rfl rfl k_) ?_
        refine hG _ _ (fun t_ k_ => XS.goto X620.here hx rfl (pc0 := 150) (pc' := 154) rfl (hb hby at_150) (by decide) (by decide) k_) ?_
        refine hG _ _ (fun t_ k_ => XS.astore X620.here hx rfl (hb hby at_154) rfl rfl (l' := #[oi i0, oi i1, oi i2, oi i3, oi i4, oi i5, oi 2, oa d2, oi c585, oi 2, oa u_616, oi ix618, oi ([(112 : Int32), (101 : Int32), (110 : Int32), (100 : Int32), (105 : Int32), (110 : Int32), (103 : Int32), (67 : Int32), (114 : Int32), (101 : Int32), (97 : Int32), (116 : Int32), (101 : Int32)].getD ix618.toNatClampNeg 0), oa d2]) rfl k_) ?_
        obtain ⟨T624, h624, X624, e624, E624, A624, D624, -, st624⟩ := newO X620 hx hZ hown (ow hw 39 rfl) (ow hw 40 rfl) (ow hw 36 rfl) e620 (g := (mkF m 156 #[oi i0, oi i1, oi i2, oi i3, oi i4, oi i5, oi 2, oa d2, oi c585, oi 2, oa u_616, oi ix618, oi ([(112 : Int32), (101 : Int32), (110 : Int32), (100 : Int32), (105 : Int32), (110 : Int32), (103 : Int32), (67 : Int32), (114 : Int32), (101 : Int32), (97 : Int32), (116 : Int32), (101 : Int32)].getD ix618.toNatClampNeg 0), oa d2] [])) rfl (hb hby at_156) (by decide) (by decide)
        obtain ⟨b624, z624⟩ : ∃ z, z = h620.size := ⟨_, rfl⟩
        rw [← z624] at A624 D624 st624
        refine hG _ _ st624 ?_
        have R624 := (CHr.ext E624 R620.1)
        have C624 := C620.trans R624
        have K624 : Keep h0 h624 [] := K620.ext E624
        have O624 : own_Old Z h624 := O620.ext E624
        refine hG _ _ (fun t_ k_ => XS.dup X624.here hx rfl (hb hby at_159) rfl rfl k_) ?_
        refine hG _ _ (fun t_ k_ => XS.aload X624.here hx rfl (hb hby at_160) rfl rfl k_) ?_
        show G (T624.setTop (mkF m 162 #[oi i0, oi i1, oi i2, oi i3, oi i4, oi i5, oi 2, oa d2, oi c585, oi 2, oa u_616, oi ix618, oi ([(112 : Int32), (101 : Int32), (110 : Int32), (100 : Int32), (105 : Int32), (110 : Int32), (103 : Int32), (67 : Int32), (114 : Int32), (101 : Int32), (97 : Int32), (116 : Int32), (101 : Int32)].getD ix618.toNatClampNeg 0), oa d2] [(.ref u_616), (.ref b624), (.ref b624)]))
        have f626 := (VV622.ext E624)
        refine own_callI X624 hx hZ hG hown rfl (ow hw 46 rfl) (ow hw 47 rfl) (ow hw 36 rfl) (ow hw 48 rfl) (by decide) 1 (own_gstr1 l Z a0 hw b624 u_616 ku_616 ([(112 : Int32), (101 : Int32), (110 : Int32), (100 : Int32), (105 : Int32), (110 : Int32), (103 : Int32), (67 : Int32), (114 : Int32), (101 : Int32), (97 : Int32), (116 : Int32), (101 : Int32)].set ix618.toNatClampNeg c585) cpt (.int 0) .null h624 O624 A624 (D624 (Or.inr (ow hw 69 rfl)) (ty := .byte) (by decide)) (D624 (Or.inr (ow hw 71 rfl)) (ty := (.array .byte)) (by decide)) (own_ge O620 (Nat.le_of_eq z624.symm)) f626 (by rw [List.length_set]; decide) (by rw [List.length_set]; decide) (own_setrng (fun c h => own_8to16 (own_rk2 c h)) hr_c585) g0_S g1_hcpt g2_S g3_S g4_S) (by decide) (by decide) e624 (by rw [hml]; rfl) (lenOf own_pd8 rfl) (argsL := [(.ref u_616)]) (rest := [(.ref b624)]) rfl rfl (Nat.le_of_eq rfl) (hb hby at_162) (by decide) (by decide) ?_
        intro T625 h625 v625 L625 X625 e625 q625
        obtain ⟨t_625, kt_625, cd_625, nb_625, vs_625, rfl, M625, J625, y625_0, r625_0, r625_1, r625_2, r625_3, r625_4⟩ := q625
        have N625 := Fr.app N620 M625
        have sf627 : Safe Z consts_1 _ h624 b624 := (own_safeStr hZ.alike A624 (D624 (Or.inr (ow hw 71 rfl)) (ty := (.array .byte)) (by decide)))
        have R625 := (CHr.keep J625 (allS sf627 all0) R624.1)
        have C625 := C624.trans R625
        have K625 : Keep h0 h625 [] := K624.trans J625 (allS (Or.inr (Nat.le_trans K620.1 (Nat.le_of_eq z624.symm))) all0)
        have O625 : own_Old Z h625 := O624.keep J625 (allS (own_ge O620 (Nat.le_of_eq z624.symm)) all0)
        show G (T625.setTop (mkF m 165 #[oi i0, oi i1, oi i2, oi i3, oi i4, oi i5, oi 2, oa d2, oi c585, oi 2, oa u_616, oi ix618, oi ([(112 : Int32), (101 : Int32), (110 : Int32), (100 : Int32), (105 : Int32), (110 : Int32), (103 : Int32), (67 : Int32), (114 : Int32), (101 : Int32), (97 : Int32), (116 : Int32), (101 : Int32)].getD ix618.toNatClampNeg 0), oa d2] [(.ref b624)]))
        have f629 := ((((g9_E.keep J616).wr W620).ext E624).keep J625)
        have f630 := ((((g10_V.keep J616 nin0).other W620 (own_ne g9_E.lt y616_0)).ext E624).keep J625 (ninS (own_ne (Nat.lt_of_lt_of_le (Nat.lt_of_lt_of_le g9_E.lt J616.1) (Keep.of_wr W620).1) (Nat.le_of_eq z624.symm)) nin0))
        have f631 := ((((g11_E.keep J616).wr W620).ext E624).keep J625)
        have f632 := ((((g12_F.keep J616 nin0).other W620 (Or.inl (own_ne g11_E.lt y616_0))).ext E624).keep J625 (ninS (own_ne (Nat.lt_of_lt_of_le (Nat.lt_of_lt_of_le g11_E.lt J616.1) (Keep.of_wr W620).1) (Nat.le_of_eq z624.symm)) nin0))
        have f633 := ((((g13_E.keep J616).wr W620).ext E624).keep J625)
        have f634 := ((((g14_F.keep J616 nin0).other W620 (Or.inl (own_ne g13_E.lt y616_0))).ext E624).keep J625 (ninS (own_ne (Nat.lt_of_lt_of_le (Nat.lt_of_lt_of_le g13_E.lt J616.1) (Keep.of_wr W620).1) (Nat.le_of_eq z624.symm)) nin0))
        have f635 := ((((g15_F.keep J616 nin0).other W620 (Or.inl (own_ne g13_E.lt y616_0))).ext E624).keep J625 (ninS (own_ne (Nat.lt_of_lt_of_le (Nat.lt_of_lt_of_le g13_E.lt J616.1) (Keep.of_wr W620).1) (Nat.le_of_eq z624.symm)) nin0))
        have f636 := ((((g16_V.keep J616 nin0).other W620 (own_ne g16_V.lt y616_0)).ext E624).keep J625 (ninS (own_ne (Nat.lt_of_lt_of_le (Nat.lt_of_lt_of_le g16_V.lt J616.1) (Keep.of_wr W620).1) (Nat.le_of_eq z624.symm)) nin0))
        have f637 := ((((g17_E.keep J616).wr W620).ext E624).keep J625)
        have f638 := ((((g18_F.keep J616 nin0).other W620 (Or.inl (own_ne g17_E.lt y616_0))).ext E624).keep J625 (ninS (own_ne (Nat.lt_of_lt_of_le (Nat.lt_of_lt_of_le g17_E.lt J616.1) (Keep.of_wr W620).1) (Nat.le_of_eq z624.symm)) nin0))
        have f639 := ((((g19_E.keep J616).wr W620).ext E624).keep J625)
        have f640 := ((((g20_F.keep J616 nin0).other W620 (Or.inl (own_ne g19_E.lt y616_0))).ext E624).keep J625 (ninS (own_ne (Nat.lt_of_lt_of_le (Nat.lt_of_lt_of_le g19_E.lt J616.1) (Keep.of_wr W620).1) (Nat.le_of_eq z624.symm)) nin0))
        have f641 := ((((g21_F.keep J616 nin0).other W620 (Or.inl (own_ne g19_E.lt y616_0))).ext E624).keep J625 (ninS (own_ne (Nat.lt_of_lt_of_le (Nat.lt_of_lt_of_le g19_E.lt J616.1) (Keep.of_wr W620).1) (Nat.le_of_eq z624.symm)) nin0))
        have f642 := ((((g22_V.keep J616 nin0).other W620 (own_ne g22_V.lt y616_0)).ext E624).keep J625 (ninS (own_ne (Nat.lt_of_lt_of_le (Nat.lt_of_lt_of_le g22_V.lt J616.1) (Keep.of_wr W620).1) (Nat.le_of_eq z624.symm)) nin0))
        have f643 := ((((g23_E.keep J616).wr W620).ext E624).keep J625)
        have f644 := ((((g24_F.keep J616 nin0).other W620 (Or.inl (own_ne g23_E.lt y616_0))).ext E624).keep J625 (ninS (own_ne (Nat.lt_of_lt_of_le (Nat.lt_of_lt_of_le g23_E.lt J616.1) (Keep.of_wr W620).1) (Nat.le_of_eq z624.symm)) nin0))
        have f645 := ((((g25_E.keep J616).wr W620).ext E624).keep J625)
        have f646 := ((((g26_F.keep J616 nin0).other W620 (Or.inl (own_ne g25_E.lt y616_0))).ext E624).keep J625 (ninS (own_ne (Nat.lt_of_lt_of_le (Nat.lt_of_lt_of_le g25_E.lt J616.1) (Keep.of_wr W620).1) (Nat.le_of_eq z624.symm)) nin0))
        have f647 := ((((g27_F.keep J616 nin0).other W620 (Or.inl (own_ne g25_E.lt y616_0))).ext E624).keep J625 (ninS (own_ne (Nat.lt_of_lt_of_le (Nat.lt_of_lt_of_le g25_E.lt J616.1) (Keep.of_wr W620).1) (Nat.le_of_eq z624.symm)) nin0))
        have f648 := ((((g28_V.keep J616 nin0).other W620 (own_ne g28_V.lt y616_0)).ext E624).keep J625 (ninS (own_ne (Nat.lt_of_lt_of_le (Nat.lt_of_lt_of_le g28_V.lt J616.1) (Keep.of_wr W620).1) (Nat.le_of_eq z624.symm)) nin0))
        refine own_callS X625 hx hZ hG hown (ow hw 12 rfl) (ow hw 13 rfl) (ow hw 2 rfl) (ow hw 14 rfl) (by decide) 0 (own_find2 l Z a0 hw b624 t_625 kt_625 ([(112 : Int32), (101 : Int32), (110 : Int32), (100 : Int32), (105 : Int32), (110 : Int32), (103 : Int32), (67 : Int32), (114 : Int32), (101 : Int32), (97 : Int32), (116 : Int32), (101 : Int32)].set ix618.toNatClampNeg c585) cd_625 nb_625 vs_625 cpt d0 d1 d2 t0 t1 t2 v0 v1 v2 kv0 kv1 kv2 vals kl h625 O625 r625_0 r625_1 r625_2 r625_3 r625_4 (by rw [List.length_set]; decide) (own_setrng (fun c h => own_8to16 (own_rk2 c h)) hr_c585) g0_S g1_hcpt g8_S f629 f630 f631 f632 f633 f634 f635 f636 f637 f638 f639 f640 f641 f642 f643 f644 f645 f646 f647 f648 (own_ne (Nat.lt_of_lt_of_le (Nat.lt_of_lt_of_le g13_E.lt J616.1) (Keep.of_wr W620).1) (Nat.le_of_eq z624.symm)) (own_ne (Nat.lt_of_lt_of_le (Nat.lt_of_lt_of_le g19_E.lt J616.1) (Keep.of_wr W620).1) (Nat.le_of_eq z624.symm)) (own_ne (Nat.lt_of_lt_of_le (Nat.lt_of_lt_of_le g25_E.lt J616.1) (Keep.of_wr W620).1) (Nat.le_of_eq z624.symm)) (by rw [hc145_623]; exact own_set_same hixb.2.2)) (by decide) (by decide) e625 (by rw [hml]; rfl) (lenOf own_pd13 rfl) (argsL := [(.ref b624)]) (rest := []) rfl rfl (Nat.le_of_eq rfl) (hb hby at_165) (by decide) (by decide) ?_
        intro T628 h628 v628 L628 X628 e628 q628
        obtain ⟨rfl, M628, J628⟩ := q628
        have N628 := Fr.app N625 M628
        have R628 := (CHr.keep J628 all0 R625.1)
        have C628 := C625.trans R628
        have K628 : Keep h0 h628 [] := K625.trans J628 all0
        have O628 : own_Old Z h628 := O625.keep J628 all0
        refine hG _ _ (fun t_ k_ => XS.aload X628.here hx rfl (hb hby at_168) rfl rfl k_) ?_
        show G (T628.setTop (mkF m 170 #[oi i0, oi i1, oi i2, oi i3, oi i4, oi i5, oi 2, oa d2, oi c585, oi 2, oa u_616, oi ix618, oi ([(112 : Int32), (101 : Int32), (110 : Int32), (100 : Int32), (105 : Int32), (110 : Int32), (103 : Int32), (67 : Int32), (114 : Int32), (101 : Int32), (97 : Int32), (116 : Int32), (101 : Int32)].getD ix618.toNatClampNeg 0), oa d2] [(.ref d2), (.ref d2)]))
        refine hG _ _ (fun t_ k_ => Jvm.RoadKit.acmp (g := (mkF m 170 #[oi i0, oi i1, oi i2, oi i3, oi i4, oi i5, oi 2, oa d2, oi c585, oi 2, oa u_616, oi ix618, oi ([(112 : Int32), (101 : Int32), (110 : Int32), (100 : Int32), (105 : Int32), (110 : Int32), (103 : Int32), (67 : Int32), (114 : Int32), (101 : Int32), (97 : Int32), (116 : Int32), (101 : Int32)].getD ix618.toNatClampNeg 0), oa d2] [(.ref d2), (.ref d2)])) X628 hx rfl rfl rfl (pc0 := 170) (pc' := 173) (same := true) rfl (hb hby at_170) rfl (decide_eq_true rfl) (by decide) (by decide) k_) ?_
        show G (T628.setTop (mkF m 173 #[oi i0, oi i1, oi i2, oi i3, oi i4, oi i5, oi 2, oa d2, oi c585, oi 2, oa u_616, oi ix618, oi ([(112 : Int32), (101 : Int32), (110 : Int32), (100 : Int32), (105 : Int32), (110 : Int32), (103 : Int32), (67 : Int32), (114 : Int32), (101 : Int32), (97 : Int32), (116 : Int32), (101 : Int32)].getD ix618.toNatClampNeg 0), oa d2] []))
        refine hG _ _ (fun t_ k_ => XS.iconst X628.here hx rfl (hb hby at_173) k_) ?_
        refine hG _ _ (fun t_ k_ => XS.goto X628.here hx rfl (pc0 := 174) (pc' := 178) rfl (hb hby at_174) (by decide) (by decide) k_) ?_
        show G (T628.setTop (mkF m 178 #[oi i0, oi i1, oi i2, oi i3, oi i4, oi i5, oi 2, oa d2, oi c585, oi 2, oa u_616, oi ix618, oi ([(112 : Int32), (101 : Int32), (110 : Int32), (100 : Int32), (105 : Int32), (110 : Int32), (103 : Int32), (67 : Int32), (114 : Int32), (101 : Int32), (97 : Int32), (116 : Int32), (101 : Int32)].getD ix618.toNatClampNeg 0), oa d2] [(.int 1)]))
        exact own_retNW hR hret (by simp) X628 hx (hb hby at_178) e628 SI0 (Nat.le_trans (Nat.le_trans (Nat.le_trans (Nat.le_trans (Nat.le_trans (Nat.le_refl _) R616.2.1) R620.2.1) R624.2.1) R625.2.1) R628.2.1) hZ C628 (by decide) (by decide) ⟨rfl, N628, K628⟩
      · skip
        refine hG _ _ (fun t_ k_ => XS.icmpYes X620.here hx rfl (pc0 := 145) (pc' := 153) rfl (hb hby at_145) rfl (feq hc145_623).2 (by decide) (by decide) k_) ?_
        show G (T620.setTop (mkF m 153 #[oi i0, oi i1, oi i2, oi i3, oi i4, oi i5, oi 2, oa d2, oi c585, oi 2, oa u_616, oi ix618, oi ([(112 : Int32), (101 : Int32), (110 : Int32), (100 : Int32), (105 : Int32), (110 : Int32), (103 : Int32), (67 : Int32), (114 : Int32), (101 : Int32), (97 : Int32), (116 : Int32), (101 : Int32)].getD ix618.toNatClampNeg 0), .unset] []))
        refine hG _ _ (fun t_ k_ => XS.aconstNull X620.here hx rfl (hb hby at_153) k_) ?_
        refine hG _ _ (fun t_ k_ => XS.astore X620.here hx rfl (hb hby at_154) rfl rfl (l' := #[oi i0, oi i1, oi i2, oi i3, oi i4, oi i5, oi 2, oa d2, oi c585, oi 2, oa u_616, oi ix618, oi ([(112 : Int32), (101 : Int32), (110 : Int32), (100 : Int32), (105 : Int32), (110 : Int32), (103 : Int32), (67 : Int32), (114 : Int32), (101 : Int32), (97 : Int32), (116 : Int32), (101 : Int32)].getD ix618.toNatClampNeg 0), .val .null]) rfl k_) ?_
        obtain ⟨T649, h649, X649, e649, E649, A649, D649, -, st649⟩ := newO X620 hx hZ hown (ow hw 39 rfl) (ow hw 40 rfl) (ow hw 36 rfl) e620 (g := (mkF m 156 #[oi i0, oi i1, oi i2, oi i3, oi i4, oi i5, oi 2, oa d2, oi c585, oi 2, oa u_616, oi ix618, oi ([(112 : Int32), (101 : Int32), (110 : Int32), (100 : Int32), (105 : Int32), (110 : Int32), (103 : Int32), (67 : Int32), (114 : Int32), (101 : Int32), (97 : Int32), (116 : Int32), (101 : Int32)].getD ix618.toNatClampNeg 0), .val .null] [])) rfl (hb hby at_156) (by decide) (by decide)
        obtain ⟨b649, z649⟩ : ∃ z, z = h620.size := ⟨_, rfl⟩
        rw [← z649] at A649 D649 st649
        refine hG _ _ st649 ?_
        have R649 := (CHr.ext E649 R620.1)
        have C649 := C620.trans R649
        have K649 : Keep h0 h649 [] := K620.ext E649
        have O649 : own_Old Z h649 := O620.ext E649
        refine hG _ _ (fun t_ k_ => XS.dup X649.here hx rfl (hb hby at_159) rfl rfl k_) ?_
        refine hG _ _ (fun t_ k_ => XS.aload X649.here hx rfl (hb hby at_160) rfl rfl k_) ?_
        show G (T649.setTop (mkF m 162 #[oi i0, oi i1, oi i2, oi i3, oi i4, oi i5, oi 2, oa d2, oi c585, oi 2, oa u_616, oi ix618, oi ([(112 : Int32), (101 : Int32), (110 : Int32), (100 : Int32), (105 : Int32), (110 : Int32), (103 : Int32), (67 : Int32), (114 : Int32), (101 : Int32), (97 : Int32), (116 : Int32), (101 : Int32)].getD ix618.toNatClampNeg 0), .val .null] [(.ref u_616), (.ref b649), (.ref b649)]))
        have f651 := (VV622.ext E649)
        refine own_callI X649 hx hZ hG hown rfl (ow hw 46 rfl) (ow hw 47 rfl) (ow hw 36 rfl) (ow hw 48 rfl) (by decide) 1 (own_gstr1 l Z a0 hw b649 u_616 ku_616 ([(112 : Int32), (101 : Int32), (110 : Int32), (100 : Int32), (105 : Int32), (110 : Int32), (103 : Int32), (67 : Int32), (114 : Int32), (101 : Int32), (97 : Int32), (116 : Int32), (101 : Int32)].set ix618.toNatClampNeg c585) cpt (.int 0) .null h649 O649 A649 (D649 (Or.inr (ow hw 69 rfl)) (ty := .byte) (by decide)) (D649 (Or.inr (ow hw 71 rfl)) (ty := (.array .byte)) (by decide)) (own_ge O620 (Nat.le_of_eq z649.symm)) f651 (by rw [List.length_set]; decide) (by rw [List.length_set]; decide) (own_setrng (fun c h => own_8to16 (own_rk2 c h)) hr_c585) g0_S g1_hcpt g2_S g3_S g4_S) (by decide) (by decide) e649 (by rw [hml]; rfl) (lenOf own_pd8 rfl) (argsL := [(.ref u_616)]) (rest := [(.ref b649)]) rfl rfl (Nat.le_of_eq rfl) (hb hby at_162) (by decide) (by decide) ?_
        intro T650 h650 v650 L650 X650 e650 q650
        obtain ⟨t_650, kt_650, cd_650, nb_650, vs_650, rfl, M650, J650, y650_0, r650_0, r650_1, r650_2, r650_3, r650_4⟩ := q650
        have N650 := Fr.app N620 M650
        have sf652 : Safe Z consts_1 _ h649 b649 := (own_safeStr hZ.alike A649 (D649 (Or.inr (ow hw 71 rfl)) (ty := (.array .byte)) (by decide)))
        have R650 := (CHr.keep J650 (allS sf652 all0) R649.1)
        have C650 := C649.trans R650
        have K650 : Keep h0 h650 [] := K649.trans J650 (allS (Or.inr (Nat.le_trans K620.1 (Nat.le_of_eq z649.symm))) all0)
        have O650 : own_Old Z h650 := O649.keep J650 (allS (own_ge O620 (Nat.le_of_eq z649.symm)) all0)
        show G (T650.setTop (mkF m 165 #[oi i0, oi i1, oi i2, oi i3, oi i4, oi i5, oi 2, oa d2, oi c585, oi 2, oa u_616, oi ix618, oi ([(112 : Int32), (101 : Int32), (110 : Int32), (100 : Int32), (105 : Int32), (110 : Int32), (103 : Int32), (67 : Int32), (114 : Int32), (101 : Int32), (97 : Int32), (116 : Int32), (101 : Int32)].getD ix618.toNatClampNeg 0), .val .null] [(.ref b649)]))
        have f654 := ((((g9_E.keep J616).wr W620).ext E649).keep J650)
        have f655 := ((((g10_V.keep J616 nin0).other W620 (own_ne g9_E.lt y616_0)).ext E649).keep J650 (ninS (own_ne (Nat.lt_of_lt_of_le (Nat.lt_of_lt_of_le g9_E.lt J616.1) (Keep.of_wr W620).1) (Nat.le_of_eq z649.symm)) nin0))
        have f656 := ((((g11_E.keep J616).wr W620).ext E649).keep J650)
        have f657 := ((((g12_F.keep J616 nin0).other W620 (Or.inl (own_ne g11_E.lt y616_0))).ext E649).keep J650 (ninS (own_ne (Nat.lt_of_lt_of_le (Nat.lt_of_lt_of_le g11_E.lt J616.1) (Keep.of_wr W620).1) (Nat.le_of_eq z649.symm)) nin0))
        have f658 := ((((g13_E.keep J616).wr W620).ext E649).keep J650)
        have f659 := ((((g14_F.keep J616 nin0).other W620 (Or.inl (own_ne g13_E.lt y616_0))).ext E649).keep J650 (ninS (own_ne (Nat.lt_of_lt_of_le (Nat.lt_of_lt_of_le g13_E.lt J616.1) (Keep.of_wr W620).1) (Nat.le_of_eq z649.symm)) nin0))
        have f660 := ((((g15_F.keep J616 nin0).other W620 (Or.inl (own_ne g13_E.lt y616_0))).ext E649).keep J650 (ninS (own_ne (Nat.lt_of_lt_of_le (Nat.lt_of_lt_of_le g13_E.lt J616.1) (Keep.of_wr W620).1) (Nat.le_of_eq z649.symm)) nin0))
        have f661 := ((((g16_V.keep J616 nin0).other W620 (own_ne g16_V.lt y616_0)).ext E649).keep J650 (ninS (own_ne (Nat.lt_of_lt_of_le (Nat.lt_of_lt_of_le g16_V.lt J616.1) (Keep.of_wr W620).1) (Nat.le_of_eq z649.symm)) nin0))
        have f662 := ((((g17_E.keep J616).wr W620).ext E649).keep J650)
        have f663 := ((((g18_F.keep J616 nin0).other W620 (Or.inl (own_ne g17_E.lt y616_0))).ext E649).keep J650 (ninS (own_ne (Nat.lt_of_lt_of_le (Nat.lt_of_lt_of_le g17_E.lt J616.1) (Keep.of_wr W620).1) (Nat.le_of_eq z649.symm)) nin0))
        have f664 := ((((g19_E.keep J616).wr W620).ext E649).keep J650)
        have f665 := ((((g20_F.keep J616 nin0).other W620 (Or.inl (own_ne g19_E.lt y616_0))).ext E649).keep J650 (ninS (own_ne (Nat.lt_of_lt_of_le (Nat.lt_of_lt_of_le g19_E.lt J616.1) (Keep.of_wr W620).1) (Nat.le_of_eq z649.symm)) nin0))
        have f666 := ((((g21_F.keep J616 nin0).other W620 (Or.inl (own_ne g19_E.lt y616_0))).ext E649).keep J650 (ninS (own_ne (Nat.lt_of_lt_of_le (Nat.lt_of_lt_of_le g19_E.lt J616.1) (Keep.of_wr W620).1) (Nat.le_of_eq z649.symm)) nin0))
        have f667 := ((((g22_V.keep J616 nin0).other W620 (own_ne g22_V.lt y616_0)).ext E649).keep J650 (ninS (own_ne (Nat.lt_of_lt_of_le (Nat.lt_of_lt_of_le g22_V.lt J616.1) (Keep.of_wr W620).1) (Nat.le_of_eq z649.symm)) nin0))
        have f668 := ((((g23_E.keep J616).wr W620).ext E649).keep J650)
        have f669 := ((((g24_F.keep J616 nin0).other W620 (Or.inl (own_ne g23_E.lt y616_0))).ext E649).keep J650 (ninS (own_ne (Nat.lt_of_lt_of_le (Nat.lt_of_lt_of_le g23_E.lt J616.1) (Keep.of_wr W620).1) (Nat.le_of_eq z649.symm)) nin0))
        have f670 := ((((g25_E.keep J616).wr W620).ext E649).keep J650)
        have f671 := ((((g26_F.keep J616 nin0).other W620 (Or.inl (own_ne g25_E.lt y616_0))).ext E649).keep J650 (ninS (own_ne (Nat.lt_of_lt_of_le (Nat.lt_of_lt_of_le g25_E.lt J616.1) (Keep.of_wr W620).1) (Nat.le_of_eq z649.symm)) nin0))
        have f672 := ((((g27_F.keep J616 nin0).other W620 (Or.inl (own_ne g25_E.lt y616_0))).ext E649).keep J650 (ninS (own_ne (Nat.lt_of_lt_of_le (Nat.lt_of_lt_of_le g25_E.lt J616.1) (Keep.of_wr W620).1) (Nat.le_of_eq z649.symm)) nin0))
        have f673 := ((((g28_V.keep J616 nin0).other W620 (own_ne g28_V.lt y616_0)).ext E649).keep J650 (ninS (own_ne (Nat.lt_of_lt_of_le (Nat.lt_of_lt_of_le g28_V.lt J616.1) (Keep.of_wr W620).1) (Nat.le_of_eq z649.symm)) nin0))
        refine own_callS X650 hx hZ hG hown (ow hw 12 rfl) (ow hw 13 rfl) (ow hw 2 rfl) (ow hw 14 rfl) (by decide) 0 (own_findN l Z a0 hw b649 t_650 kt_650 ([(112 : Int32), (101 : Int32), (110 : Int32), (100 : Int32), (105 : Int32), (110 : Int32), (103 : Int32), (67 : Int32), (114 : Int32), (101 : Int32), (97 : Int32), (116 : Int32), (101 : Int32)].set ix618.toNatClampNeg c585) cd_650 nb_650 vs_650 cpt d0 d1 d2 t0 t1 t2 v0 v1 v2 kv0 kv1 kv2 vals kl h650 O650 r650_0 r650_1 r650_2 r650_3 r650_4 (by rw [List.length_set]; decide) (own_setrng (fun c h => own_8to16 (own_rk2 c h)) hr_c585) g0_S g1_hcpt g8_S f654 f655 f656 f657 f658 f659 f660 f661 f662 f663 f664 f665 f666 f667 f668 f669 f670 f671 f672 f673 (own_ne (Nat.lt_of_lt_of_le (Nat.lt_of_lt_of_le g13_E.lt J616.1) (Keep.of_wr W620).1) (Nat.le_of_eq z649.symm)) (own_ne (Nat.lt_of_lt_of_le (Nat.lt_of_lt_of_le g19_E.lt J616.1) (Keep.of_wr W620).1) (Nat.le_of_eq z649.symm)) (own_ne (Nat.lt_of_lt_of_le (Nat.lt_of_lt_of_le g25_E.lt J616.1) (Keep.of_wr W620).1) (Nat.le_of_eq z649.symm)) (own_ne_len (by rw [List.length_set]; decide)) (own_ne_len (by rw [List.length_set]; decide)) (own_set_ne hixb.2.2 hc145_623)) (by decide) (by decide) e650 (by rw [hml]; rfl) (lenOf own_pd13 rfl) (argsL := [(.ref b649)]) (rest := []) rfl rfl (Nat.le_of_eq rfl) (hb hby at_165) (by decide) (by decide) ?_
        intro T653 h653 v653 L653 X653 e653 q653
        obtain ⟨rfl, M653, J653⟩ := q653
        have N653 := Fr.app N650 M653
        have R653 := (CHr.keep J653 all0 R650.1)
        have C653 := C650.trans R653
        have K653 : Keep h0 h653 [] := K650.trans J653 all0
        have O653 : own_Old Z h653 := O650.keep J653 all0
        refine hG _ _ (fun t_ k_ => XS.aload X653.here hx rfl (hb hby at_168) rfl rfl k_) ?_
        show G (T653.setTop (mkF m 170 #[oi i0, oi i1, oi i2, oi i3, oi i4, oi i5, oi 2, oa d2, oi c585, oi 2, oa u_616, oi ix618, oi ([(112 : Int32), (101 : Int32), (110 : Int32), (100 : Int32), (105 : Int32), (110 : Int32), (103 : Int32), (67 : Int32), (114 : Int32), (101 : Int32), (97 : Int32), (116 : Int32), (101 : Int32)].getD ix618.toNatClampNeg 0), .val .null] [.null, .null]))
        refine hG _ _ (fun t_ k_ => Jvm.RoadKit.acmp (g := (mkF m 170 #[oi i0, oi i1, oi i2, oi i3, oi i4, oi i5, oi 2, oa d2, oi c585, oi 2, oa u_616, oi ix618, oi ([(112 : Int32), (101 : Int32), (110 : Int32), (100 : Int32), (105 : Int32), (110 : Int32), (103 : Int32), (67 : Int32), (114 : Int32), (101 : Int32), (97 : Int32), (116 : Int32), (101 : Int32)].getD ix618.toNatClampNeg 0), .val .null] [.null, .null])) X653 hx rfl rfl rfl (pc0 := 170) (pc' := 173) (same := true) rfl (hb hby at_170) rfl (decide_eq_true rfl) (by decide) (by decide) k_) ?_
        show G (T653.setTop (mkF m 173 #[oi i0, oi i1, oi i2, oi i3, oi i4, oi i5, oi 2, oa d2, oi c585, oi 2, oa u_616, oi ix618, oi ([(112 : Int32), (101 : Int32), (110 : Int32), (100 : Int32), (105 : Int32), (110 : Int32), (103 : Int32), (67 : Int32), (114 : Int32), (101 : Int32), (97 : Int32), (116 : Int32), (101 : Int32)].getD ix618.toNatClampNeg 0), .val .null] []))
        refine hG _ _ (fun t_ k_ => XS.iconst X653.here hx rfl (hb hby at_173) k_) ?_
        refine hG _ _ (fun t_ k_ => XS.goto X653.here hx rfl (pc0 := 174) (pc' := 178) rfl (hb hby at_174) (by decide) (by decide) k_) ?_
        show G (T653.setTop (mkF m 178 #[oi i0, oi i1, oi i2, oi i3, oi i4, oi i5, oi 2, oa d2, oi c585, oi 2, oa u_616, oi ix618, oi ([(112 : Int32), (101 : Int32), (110 : Int32), (100 : Int32), (105 : Int32), (110 : Int32), (103 : Int32), (67 : Int32), (114 : Int32), (101 : Int32), (97 : Int32), (116 : Int32), (101 : Int32)].getD ix618.toNatClampNeg 0), .val .null] [(.int 1)]))
        exact own_retNW hR hret (by simp) X653 hx (hb hby at_178) e653 SI0 (Nat.le_trans (Nat.le_trans (Nat.le_trans (Nat.le_trans (Nat.le_trans (Nat.le_refl _) R616.2.1) R620.2.1) R649.2.1) R650.2.1) R653.2.1) hZ C653 (by decide) (by decide) ⟨rfl, N653, K653⟩
    · skip
      show G (T584.setTop (mkF m 52 #[oi i0, oi i1, oi i2, oi i3, oi i4, oi i5, oi 2, oa d2, oi c585, oi 3, .unset, .unset, .unset, .unset] []))
      refine hG _ _ (fun t_ k_ => XS.iload X584.here hx rfl (hb hby at_52) rfl k_) ?_
      show G (T584.setTop (mkF m 54 #[oi i0, oi i1, oi i2, oi i3, oi i4, oi i5, oi 2, oa d2, oi c585, oi 3, .unset, .unset, .unset, .unset] [(.int 3)]))
      refine hG _ _ (fun t_ k_ => XS.ifYes X584.here hx rfl (pc0 := 54) (pc' := 76) rfl (hb hby at_54) rfl ((if0 _ _).trans (feq (by decide)).2) (by decide) (by decide) k_) ?_
      show G (T584.setTop (mkF m 76 #[oi i0, oi i1, oi i2, oi i3, oi i4, oi i5, oi 2, oa d2, oi c585, oi 3, .unset, .unset, .unset, .unset] []))
      refine hG _ _ (fun t_ k_ => XS.iload X584.here hx rfl (hb hby at_76) rfl k_) ?_
      refine hG _ _ (fun t_ k_ => XS.iconst X584.here hx rfl (hb hby at_78) k_) ?_
      show G (T584.setTop (mkF m 79 #[oi i0, oi i1, oi i2, oi i3, oi i4, oi i5, oi 2, oa d2, oi c585, oi 3, .unset, .unset, .unset, .unset] [(.int 1), (.int 3)]))
      refine hG _ _ (fun t_ k_ => XS.icmpYes X584.here hx rfl (pc0 := 79) (pc' := 104) rfl (hb hby at_79) rfl (feq (by decide)).2 (by decide) (by decide) k_) ?_
      show G (T584.setTop (mkF m 104 #[oi i0, oi i1, oi i2, oi i3, oi i4, oi i5, oi 2, oa d2, oi c585, oi 3, .unset, .unset, .unset, .unset] []))
      refine hG _ _ (fun t_ k_ => XS.iload X584.here hx rfl (hb hby at_104) rfl k_) ?_
      refine hG _ _ (fun t_ k_ => XS.iconst X584.here hx rfl (hb hby at_106) k_) ?_
      show G (T584.setTop (mkF m 107 #[oi i0, oi i1, oi i2, oi i3, oi i4, oi i5, oi 2, oa d2, oi c585, oi 3, .unset, .unset, .unset, .unset] [(.int 2), (.int 3)]))
      refine hG _ _ (fun t_ k_ => XS.icmpYes X584.here hx rfl (pc0 := 107) (pc' := 179) rfl (hb hby at_107) rfl (feq (by decide)).2 (by decide) (by decide) k_) ?_
      show G (T584.setTop (mkF m 179 #[oi i0, oi i1, oi i2, oi i3, oi i4, oi i5, oi 2, oa d2, oi c585, oi 3, .unset, .unset, .unset, .unset] []))
      refine hG _ _ (fun t_ k_ => XS.iload X584.here hx rfl (hb hby at_179) rfl k_) ?_
      refine hG _ _ (fun t_ k_ => XS.iconst X584.here hx rfl (hb hby at_181) k_) ?_
      show G (T584.setTop (mkF m 182 #[oi i0, oi i1, oi i2, oi i3, oi i4, oi i5, oi 2, oa d2, oi c585, oi 3, .unset, .unset, .unset, .unset] [(.int 3), (.int 3)]))
      refine hG _ _ (fun t_ k_ => XS.icmpNo X584.here hx rfl (hb hby at_182) rfl (teq (by decide)).2 k_) ?_
      show G (T584.setTop (mkF m 185 #[oi i0, oi i1, oi i2, oi i3, oi i4, oi i5, oi 2, oa d2, oi c585, oi 3, .unset, .unset, .unset, .unset] []))
      obtain ⟨T674, h674, X674, e674, E674, A674, D674, -, st674⟩ := newO X584 hx hZ hown (ow hw 39 rfl) (ow hw 40 rfl) (ow hw 36 rfl) e584 (g := (mkF m 185 #[oi i0, oi i1, oi i2, oi i3, oi i4, oi i5, oi 2, oa d2, oi c585, oi 3, .unset, .unset, .unset, .unset] [])) rfl (hb hby at_185) (by decide) (by decide)
      obtain ⟨b674, z674⟩ : ∃ z, z = h0.size := ⟨_, rfl⟩
      rw [← z674] at A674 D674 st674
      refine hG _ _ st674 ?_
      have R674 := (CHr.ext E674 H0)
      have C674 := (CHr.refl H0).trans R674
      have K674 : Keep h0 h674 [] := (Keep.refl h0 []).ext E674
      have O674 : own_Old Z h674 := O0.ext E674
      refine hG _ _ (fun t_ k_ => XS.dup X674.here hx rfl (hb hby at_188) rfl rfl k_) ?_
      refine hG _ _ (fun t_ k_ => XS.iload X674.here hx rfl (hb hby at_189) rfl k_) ?_
      refine hG _ _ (fun t_ k_ => XS.iload X674.here hx rfl (hb hby at_191) rfl k_) ?_
      show G (T674.setTop (mkF m 193 #[oi i0, oi i1, oi i2, oi i3, oi i4, oi i5, oi 2, oa d2, oi c585, oi 3, .unset, .unset, .unset, .unset] [(.int c585), (.int 2), (.ref b674), (.ref b674)]))
      refine own_callS X674 hx hZ hG hown (ow hw 84 rfl) (ow hw 85 rfl) (ow hw 43 rfl) (ow hw 86 rfl) (by decide) 2 (own_mk_ext_2 l Z a0 hw c585 h674 O674 hr_c585) (by decide) (by decide) e674 (by rw [hml]; rfl) (lenOf own_pd15 rfl) (argsL := [(.int 2), (.int c585)]) (rest := [(.ref b674), (.ref b674)]) rfl rfl (Nat.le_of_eq rfl) (hb hby at_193) (by decide) (by decide) ?_
      intro T675 h675 v675 L675 X675 e675 q675
      obtain ⟨u_675, ku_675, rfl, M675, J675, y675_0, r675_0⟩ := q675
      have N675 := Fr.app N0 M675
      have R675 := (CHr.keep J675 all0 R674.1)
      have C675 := C674.trans R675
      have K675 : Keep h0 h675 [] := K674.trans J675 all0
      have O675 : own_Old Z h675 := O674.keep J675 all0
      show G (T675.setTop (mkF m 196 #[oi i0, oi i1, oi i2, oi i3, oi i4, oi i5, oi 2, oa d2, oi c585, oi 3, .unset, .unset, .unset, .unset] [(.ref u_675), (.ref b674), (.ref b674)]))
      have f677 := (A674.keep J675)
      have f678 := ((D674 (Or.inr (ow hw 69 rfl)) (ty := .byte) (by decide)).keep J675 nin0)
      have f679 := ((D674 (Or.inr (ow hw 71 rfl)) (ty := (.array .byte)) (by decide)).keep J675 nin0)
      refine own_callI X675 hx hZ hG hown rfl (ow hw 46 rfl) (ow hw 47 rfl) (ow hw 36 rfl) (ow hw 48 rfl) (by decide) 1 (own_gstr1 l Z a0 hw b674 u_675 ku_675 [(112 : Int32), (101 : Int32), (110 : Int32), (100 : Int32), (105 : Int32), (110 : Int32), (103 : Int32), (67 : Int32), (114 : Int32), (101 : Int32), (97 : Int32), (116 : Int32), (101 : Int32), c585] cpt (.int 0) .null h675 O675 f677 f678 f679 (own_ge O0 (Nat.le_of_eq z674.symm)) r675_0 (Nat.le_of_ble_eq_true rfl) (Nat.le_of_ble_eq_true rfl) (own_allc (by decide) (own_allc (by decide) (own_allc (by decide) (own_allc (by decide) (own_allc (by decide) (own_allc (by decide) (own_allc (by decide) (own_allc (by decide) (own_allc (by decide) (own_allc (by decide) (own_allc (by decide) (own_allc (by decide) (own_allc (by decide) (own_allc hr_c585 own_alln)))))))))))))) g0_S g1_hcpt g2_S g3_S g4_S) (by decide) (by decide) e675 (by rw [hml]; rfl) (lenOf own_pd8 rfl) (argsL := [(.ref u_675)]) (rest := [(.ref b674)]) rfl rfl (Nat.le_of_eq rfl) (hb hby at_196) (by decide) (by decide) ?_
      intro T676 h676 v676 L676 X676 e676 q676
      obtain ⟨t_676, kt_676, cd_676, nb_676, vs_676, rfl, M676, J676, y676_0, r676_0, r676_1, r676_2, r676_3, r676_4⟩ := q676
      have N676 := Fr.app N675 M676
      have sf680 : Safe Z consts_1 _ h675 b674 := (own_safeStr hZ.alike f677 f679)
      have R676 := (CHr.keep J676 (allS sf680 all0) R675.1)
      have C676 := C675.trans R676
      have K676 : Keep h0 h676 [] := K675.trans J676 (allS (Or.inr (Nat.le_trans (Keep.refl h0 []).1 (Nat.le_of_eq z674.symm))) all0)
      have O676 : own_Old Z h676 := O675.keep J676 (allS (own_ge O0 (Nat.le_of_eq z674.symm)) all0)
      show G (T676.setTop (mkF m 199 #[oi i0, oi i1, oi i2, oi i3, oi i4, oi i5, oi 2, oa d2, oi c585, oi 3, .unset, .unset, .unset, .unset] [(.ref b674)]))
      have f682 := (((g9_E.ext E674).keep J675).keep J676)
      have f683 := (((g10_V.ext E674).keep J675 nin0).keep J676 (ninS (own_ne g9_E.lt (Nat.le_of_eq z674.symm)) nin0))
      have f684 := (((g11_E.ext E674).keep J675).keep J676)
      have f685 := (((g12_F.ext E674).keep J675 nin0).keep J676 (ninS (own_ne g11_E.lt (Nat.le_of_eq z674.symm)) nin0))
      have f686 := (((g13_E.ext E674).keep J675).keep J676)
      have f687 := (((g14_F.ext E674).keep J675 nin0).keep J676 (ninS (own_ne g13_E.lt (Nat.le_of_eq z674.symm)) nin0))
      have f688 := (((g15_F.ext E674).keep J675 nin0).keep J676 (ninS (own_ne g13_E.lt (Nat.le_of_eq z674.symm)) nin0))
      have f689 := (((g16_V.ext E674).keep J675 nin0).keep J676 (ninS (own_ne g16_V.lt (Nat.le_of_eq z674.symm)) nin0))
      have f690 := (((g17_E.ext E674).keep J675).keep J676)
      have f691 := (((g18_F.ext E674).keep J675 nin0).keep J676 (ninS (own_ne g17_E.lt (Nat.le_of_eq z674.symm)) nin0))
      have f692 := (((g19_E.ext E674).keep J675).keep J676)
      have f693 := (((g20_F.ext E674).keep J675 nin0).keep J676 (ninS (own_ne g19_E.lt (Nat.le_of_eq z674.symm)) nin0))
      have f694 := (((g21_F.ext E674).keep J675 nin0).keep J676 (ninS (own_ne g19_E.lt (Nat.le_of_eq z674.symm)) nin0))
      have f695 := (((g22_V.ext E674).keep J675 nin0).keep J676 (ninS (own_ne g22_V.lt (Nat.le_of_eq z674.symm)) nin0))
      have f696 := (((g23_E.ext E674).keep J675).keep J676)
      have f697 := (((g24_F.ext E674).keep J675 nin0).keep J676 (ninS (own_ne g23_E.lt (Nat.le_of_eq z674.symm)) nin0))
      have f698 := (((g25_E.ext E674).keep J675).keep J676)
      have f699 := (((g26_F.ext E674).keep J675 nin0).keep J676 (ninS (own_ne g25_E.lt (Nat.le_of_eq z674.symm)) nin0))
      have f700 := (((g27_F.ext E674).keep J675 nin0).keep J676 (ninS (own_ne g25_E.lt (Nat.le_of_eq z674.symm)) nin0))
      have f701 := (((g28_V.ext E674).keep J675 nin0).keep J676 (ninS (own_ne g28_V.lt (Nat.le_of_eq z674.symm)) nin0))
      refine own_callS X676 hx hZ hG hown (ow hw 12 rfl) (ow hw 13 rfl) (ow hw 2 rfl) (ow hw 14 rfl) (by decide) 0 (own_findN l Z a0 hw b674 t_676 kt_676 [(112 : Int32), (101 : Int32), (110 : Int32), (100 : Int32), (105 : Int32), (110 : Int32), (103 : Int32), (67 : Int32), (114 : Int32), (101 : Int32), (97 : Int32), (116 : Int32), (101 : Int32), c585] cd_676 nb_676 vs_676 cpt d0 d1 d2 t0 t1 t2 v0 v1 v2 kv0 kv1 kv2 vals kl h676 O676 r676_0 r676_1 r676_2 r676_3 r676_4 (Nat.le_of_ble_eq_true rfl) (own_allc (by decide) (own_allc (by decide) (own_allc (by decide) (own_allc (by decide) (own_allc (by decide) (own_allc (by decide) (own_allc (by decide) (own_allc (by decide) (own_allc (by decide) (own_allc (by decide) (own_allc (by decide) (own_allc (by decide) (own_allc (by decide) (own_allc hr_c585 own_alln)))))))))))))) g0_S g1_hcpt g8_S f682 f683 f684 f685 f686 f687 f688 f689 f690 f691 f692 f693 f694 f695 f696 f697 f698 f699 f700 f701 (own_ne g13_E.lt (Nat.le_of_eq z674.symm)) (own_ne g19_E.lt (Nat.le_of_eq z674.symm)) (own_ne g25_E.lt (Nat.le_of_eq z674.symm)) (own_ne_len (fun q => by simp at q)) (own_ne_len (fun q => by simp at q)) (own_ne_len (fun q => by simp at q))) (by decide) (by decide) e676 (by rw [hml]; rfl) (lenOf own_pd13 rfl) (argsL := [(.ref b674)]) (rest := []) rfl rfl (Nat.le_of_eq rfl) (hb hby at_199) (by decide) (by decide) ?_
      intro T681 h681 v681 L681 X681 e681 q681
      obtain ⟨rfl, M681, J681⟩ := q681
      have N681 := Fr.app N676 M681
      have R681 := (CHr.keep J681 all0 R676.1)
      have C681 := C676.trans R681
      have K681 : Keep h0 h681 [] := K676.trans J681 all0
      have O681 : own_Old Z h681 := O676.keep J681 all0
      show G (T681.setTop (mkF m 202 #[oi i0, oi i1, oi i2, oi i3, oi i4, oi i5, oi 2, oa d2, oi c585, oi 3, .unset, .unset, .unset, .unset] [.null]))
      refine hG _ _ (fun t_ k_ => XS.ifnonnullNo X681.here hx rfl (hb hby at_202) rfl k_) ?_
      refine hG _ _ (fun t_ k_ => XS.iconst X681.here hx rfl (hb hby at_205) k_) ?_
      refine hG _ _ (fun t_ k_ => XS.goto X681.here hx rfl (pc0 := 206) (pc' := 210) rfl (hb hby at_206) (by decide) (by decide) k_) ?_
      show G (T681.setTop (mkF m 210 #[oi i0, oi i1, oi i2, oi i3, oi i4, oi i5, oi 2, oa d2, oi c585, oi 3, .unset, .unset, .unset, .unset] [(.int 1)]))
      exact own_retNW hR hret (by simp) X681 hx (hb hby at_210) e681 SI0 (Nat.le_trans (Nat.le_trans (Nat.le_trans (Nat.le_trans (Nat.le_refl _) R674.2.1) R675.2.1) R676.2.1) R681.2.1) hZ C681 (by decide) (by decide) ⟨rfl, N681, K681⟩
    · skip
      show G (T584.setTop (mkF m 52 #[oi i0, oi i1, oi i2, oi i3, oi i4, oi i5, oi 2, oa d2, oi c585, oi 4, .unset, .unset, .unset, .unset] []))
      refine hG _ _ (fun t_ k_ => XS.iload X584.here hx rfl (hb hby at_52) rfl k_) ?_
      show G (T584.setTop (mkF m 54 #[oi i0, oi i1, oi i2, oi i3, oi i4, oi i5, oi 2, oa d2, oi c585, oi 4, .unset, .unset, .unset, .unset] [(.int 4)]))
      refine hG _ _ (fun t_ k_ => XS.ifYes X584.here hx rfl (pc0 := 54) (pc' := 76) rfl (hb hby at_54) rfl ((if0 _ _).trans (feq (by decide)).2) (by decide) (by decide) k_) ?_
      show G (T584.setTop (mkF m 76 #[oi i0, oi i1, oi i2, oi i3, oi i4, oi i5, oi 2, oa d2, oi c585, oi 4, .unset, .unset, .unset, .unset] []))
      refine hG _ _ (fun t_ k_ => XS.iload X584.here hx rfl (hb hby at_76) rfl k_) ?_
      refine hG _ _ (fun t_ k_ => XS.iconst X584.here hx rfl (hb hby at_78) k_) ?_
      show G (T584.setTop (mkF m 79 #[oi i0, oi i1, oi i2, oi i3, oi i4, oi i5, oi 2, oa d2, oi c585, oi 4, .unset, .unset, .unset, .unset] [(.int 1), (.int 4)]))
      refine hG _ _ (fun t_ k_ => XS.icmpYes X584.here hx rfl (pc0 := 79) (pc' := 104) rfl (hb hby at_79) rfl (feq (by decide)).2 (by decide) (by decide) k_) ?_
      show G (T584.setTop (mkF m 104 #[oi i0, oi i1, oi i2, oi i3, oi i4, oi i5, oi 2, oa d2, oi c585, oi 4, .unset, .unset, .unset, .unset] []))
      refine hG _ _ (fun t_ k_ => XS.iload X584.here hx rfl (hb hby at_104) rfl k_) ?_
      refine hG _ _ (fun t_ k_ => XS.iconst X584.here hx rfl (hb hby at_106) k_) ?_
      show G (T584.setTop (mkF m 107 #[oi i0, oi i1, oi i2, oi i3, oi i4, oi i5, oi 2, oa d2, oi c585, oi 4, .unset, .unset, .unset, .unset] [(.int 2), (.int 4)]))
      refine hG _ _ (fun t_ k_ => XS.icmpYes X584.here hx rfl (pc0 := 107) (pc' := 179) rfl (hb hby at_107) rfl (feq (by decide)).2 (by decide) (by decide) k_) ?_
      show G (T584.setTop (mkF m 179 #[oi i0, oi i1, oi i2, oi i3, oi i4, oi i5, oi 2, oa d2, oi c585, oi 4, .unset, .unset, .unset, .unset] []))
      refine hG _ _ (fun t_ k_ => XS.iload X584.here hx rfl (hb hby at_179) rfl k_) ?_
      refine hG _ _ (fun t_ k_ => XS.iconst X584.here hx rfl (hb hby at_181) k_) ?_
      show G (T584.setTop (mkF m 182 #[oi i0, oi i1, oi i2, oi i3, oi i4, oi i5, oi 2, oa d2, oi c585, oi 4, .unset, .unset, .unset, .unset] [(.int 3), (.int 4)]))
      refine hG _ _ (fun t_ k_ => XS.icmpYes X584.here hx rfl (pc0 := 182) (pc' := 211) rfl (hb hby at_182) rfl (feq (by decide)).2 (by decide) (by decide) k_) ?_
      show G (T584.setTop (mkF m 211 #[oi i0, oi i1, oi i2, oi i3, oi i4, oi i5, oi 2, oa d2, oi c585, oi 4, .unset, .unset, .unset, .unset] []))
      refine hG _ _ (fun t_ k_ => XS.iload X584.here hx rfl (hb hby at_211) rfl k_) ?_
      refine hG _ _ (fun t_ k_ => XS.iconst X584.here hx rfl (hb hby at_213) k_) ?_
      show G (T584.setTop (mkF m 214 #[oi i0, oi i1, oi i2, oi i3, oi i4, oi i5, oi 2, oa d2, oi c585, oi 4, .unset, .unset, .unset, .unset] [(.int 4), (.int 4)]))
      refine hG _ _ (fun t_ k_ => XS.icmpNo X584.here hx rfl (hb hby at_214) rfl (teq (by decide)).2 k_) ?_
      show G (T584.setTop (mkF m 217 #[oi i0, oi i1, oi i2, oi i3, oi i4, oi i5, oi 2, oa d2, oi c585, oi 4, .unset, .unset, .unset, .unset] []))
      obtain ⟨T702, h702, X702, e702, E702, A702, D702, -, st702⟩ := newO X584 hx hZ hown (ow hw 39 rfl) (ow hw 40 rfl) (ow hw 36 rfl) e584 (g := (mkF m 217 #[oi i0, oi i1, oi i2, oi i3, oi i4, oi i5, oi 2, oa d2, oi c585, oi 4, .unset, .unset, .unset, .unset] [])) rfl (hb hby at_217) (by decide) (by decide)
      obtain ⟨b702, z702⟩ : ∃ z, z = h0.size := ⟨_, rfl⟩
      rw [← z702] at A702 D702 st702
      refine hG _ _ st702 ?_
      have R702 := (CHr.ext E702 H0)
      have C702 := (CHr.refl H0).trans R702
      have K702 : Keep h0 h702 [] := (Keep.refl h0 []).ext E702
      have O702 : own_Old Z h702 := O0.ext E702
      refine hG _ _ (fun t_ k_ => XS.dup X702.here hx rfl (hb hby at_220) rfl rfl k_) ?_
      refine hG _ _ (fun t_ k_ => XS.iload X702.here hx rfl (hb hby at_221) rfl k_) ?_
      refine hG _ _ (fun t_ k_ => XS.iload X702.here hx rfl (hb hby at_223) rfl k_) ?_
      show G (T702.setTop (mkF m 225 #[oi i0, oi i1, oi i2, oi i3, oi i4, oi i5, oi 2, oa d2, oi c585, oi 4, .unset, .unset, .unset, .unset] [(.int c585), (.int 2), (.ref b702), (.ref b702)]))
      refine own_callS X702 hx hZ hG hown (ow hw 41 rfl) (ow hw 42 rfl) (ow hw 43 rfl) (ow hw 44 rfl) (by decide) 2 (own_mk_pre_2 l Z a0 hw c585 h702 O702 hr_c585) (by decide) (by decide) e702 (by rw [hml]; rfl) (lenOf own_pd15 rfl) (argsL := [(.int 2), (.int c585)]) (rest := [(.ref b702), (.ref b702)]) rfl rfl (Nat.le_of_eq rfl) (hb hby at_225) (by decide) (by decide) ?_
      intro T703 h703 v703 L703 X703 e703 q703
      obtain ⟨u_703, ku_703, rfl, M703, J703, y703_0, r703_0⟩ := q703
      have N703 := Fr.app N0 M703
      have R703 := (CHr.keep J703 all0 R702.1)
      have C703 := C702.trans R703
      have K703 : Keep h0 h703 [] := K702.trans J703 all0
      have O703 : own_Old Z h703 := O702.keep J703 all0
      show G (T703.setTop (mkF m 228 #[oi i0, oi i1, oi i2, oi i3, oi i4, oi i5, oi 2, oa d2, oi c585, oi 4, .unset, .unset, .unset, .unset] [(.ref u_703), (.ref b702), (.ref b702)]))
      have f705 := (A702.keep J703)
      have f706 := ((D702 (Or.inr (ow hw 69 rfl)) (ty := .byte) (by decide)).keep J703 nin0)
      have f707 := ((D702 (Or.inr (ow hw 71 rfl)) (ty := (.array .byte)) (by decide)).keep J703 nin0)
      refine own_callI X703 hx hZ hG hown rfl (ow hw 46 rfl) (ow hw 47 rfl) (ow hw 36 rfl) (ow hw 48 rfl) (by decide) 1 (own_gstr1 l Z a0 hw b702 u_703 ku_703 [c585, (112 : Int32), (101 : Int32), (110 : Int32), (100 : Int32), (105 : Int32), (110 : Int32), (103 : Int32), (67 : Int32), (114 : Int32), (101 : Int32), (97 : Int32), (116 : Int32), (101 : Int32)] cpt (.int 0) .null h703 O703 f705 f706 f707 (own_ge O0 (Nat.le_of_eq z702.symm)) r703_0 (Nat.le_of_ble_eq_true rfl) (Nat.le_of_ble_eq_true rfl) (own_allc hr_c585 (own_allc (by decide) (own_allc (by decide) (own_allc (by decide) (own_allc (by decide) (own_allc (by decide) (own_allc (by decide) (own_allc (by decide) (own_allc (by decide) (own_allc (by decide) (own_allc (by decide) (own_allc (by decide) (own_allc (by decide) (own_allc (by decide) own_alln)))))))))))))) g0_S g1_hcpt g2_S g3_S g4_S) (by decide) (by decide) e703 (by rw [hml]; rfl) (lenOf own_pd8 rfl) (argsL := [(.ref u_703)]) (rest := [(.ref b702)]) rfl rfl (Nat.le_of_eq rfl) (hb hby at_228) (by decide) (by decide) ?_
      intro T704 h704 v704 L704 X704 e704 q704
      obtain ⟨t_704, kt_704, cd_704, nb_704, vs_704, rfl, M704, J704, y704_0, r704_0, r704_1, r704_2, r704_3, r704_4⟩ := q704
      have N704 := Fr.app N703 M704
      have sf708 : Safe Z consts_1 _ h703 b702 := (own_safeStr hZ.alike f705 f707)
      have R704 := (CHr.keep J704 (allS sf708 all0) R703.1)
      have C704 := C703.trans R704
      have K704 : Keep h0 h704 [] := K703.trans J704 (allS (Or.inr (Nat.le_trans (Keep.refl h0 []).1 (Nat.le_of_eq z702.symm))) all0)
      have O704 : own_Old Z h704 := O703.keep J704 (allS (own_ge O0 (Nat.le_of_eq z702.symm)) all0)
      show G (T704.setTop (mkF m 231 #[oi i0, oi i1, oi i2, oi i3, oi i4, oi i5, oi 2, oa d2, oi c585, oi 4, .unset, .unset, .unset, .unset] [(.ref b702)]))
      have f710 := (((g9_E.ext E702).keep J703).keep J704)
      have f711 := (((g10_V.ext E702).keep J703 nin0).keep J704 (ninS (own_ne g9_E.lt (Nat.le_of_eq z702.symm)) nin0))
      have f712 := (((g11_E.ext E702).keep J703).keep J704)
      have f713 := (((g12_F.ext E702).keep J703 nin0).keep J704 (ninS (own_ne g11_E.lt (Nat.le_of_eq z702.symm)) nin0))
      have f714 := (((g13_E.ext E702).keep J703).keep J704)
      have f715 := (((g14_F.ext E702).keep J703 nin0).keep J704 (ninS (own_ne g13_E.lt (Nat.le_of_eq z702.symm)) nin0))
      have f716 := (((g15_F.ext E702).keep J703 nin0).keep J704 (ninS (own_ne g13_E.lt (Nat.le_of_eq z702.symm)) nin0))
      have f717 := (((g16_V.ext E702).keep J703 nin0).keep J704 (ninS (own_ne g16_V.lt (Nat.le_of_eq z702.symm)) nin0))
      have f718 := (((g17_E.ext E702).keep J703).keep J704)
      have f719 := (((g18_F.ext E702).keep J703 nin0).keep J704 (ninS (own_ne g17_E.lt (Nat.le_of_eq z702.symm)) nin0))
      have f720 := (((g19_E.ext E702).keep J703).keep J704)
      have f721 := (((g20_F.ext E702).keep J703 nin0).keep J704 (ninS (own_ne g19_E.lt (Nat.le_of_eq z702.symm)) nin0))
      have f722 := (((g21_F.ext E702).keep J703 nin0).keep J704 (ninS (own_ne g19_E.lt (Nat.le_of_eq z702.symm)) nin0))
      have f723 := (((g22_V.ext E702).keep J703 nin0).keep J704 (ninS (own_ne g22_V.lt (Nat.le_of_eq z702.symm)) nin0))
      have f724 := (((g23_E.ext E702).keep J703).keep J704)
      have f725 := (((g24_F.ext E702).keep J703 nin0).keep J704 (ninS (own_ne g23_E.lt (Nat.le_of_eq z702.symm)) nin0))
      have f726 := (((g25_E.ext E702).keep J703).keep J704)
      have f727 := (((g26_F.ext E702).keep J703 nin0).keep J704 (ninS (own_ne g25_E.lt (Nat.le_of_eq z702.symm)) nin0))
      have f728 := (((g27_F.ext E702).keep J703 nin0).keep J704 (ninS (own_ne g25_E.lt (Nat.le_of_eq z702.symm)) nin0))
      have f729 := (((g28_V.ext E702).keep J703 nin0).keep J704 (ninS (own_ne g28_V.lt (Nat.le_of_eq z702.symm)) nin0))
      refine own_callS X704 hx hZ hG hown (ow hw 12 rfl) (ow hw 13 rfl) (ow hw 2 rfl) (ow hw 14 rfl) (by decide) 0 (own_findN l Z a0 hw b702 t_704 kt_704 [c585, (112 : Int32), (101 : Int32), (110 : Int32), (100 : Int32), (105 : Int32), (110 : Int32), (103 : Int32), (67 : Int32), (114 : Int32), (101 : Int32), (97 : Int32), (116 : Int32), (101 : Int32)] cd_704 nb_704 vs_704 cpt d0 d1 d2 t0 t1 t2 v0 v1 v2 kv0 kv1 kv2 vals kl h704 O704 r704_0 r704_1 r704_2 r704_3 r704_4 (Nat.le_of_ble_eq_true rfl) (own_allc hr_c585 (own_allc (by decide) (own_allc (by decide) (own_allc (by decide) (own_allc (by decide) (own_allc (by decide) (own_allc (by decide) (own_allc (by decide) (own_allc (by decide) (own_allc (by decide) (own_allc (by decide) (own_allc (by decide) (own_allc (by decide) (own_allc (by decide) own_alln)))))))))))))) g0_S g1_hcpt g8_S f710 f711 f712 f713 f714 f715 f716 f717 f718 f719 f720 f721 f722 f723 f724 f725 f726 f727 f728 f729 (own_ne g13_E.lt (Nat.le_of_eq z702.symm)) (own_ne g19_E.lt (Nat.le_of_eq z702.symm)) (own_ne g25_E.lt (Nat.le_of_eq z702.symm)) (own_ne_len (fun q => by simp at q)) (own_ne_len (fun q => by simp at q)) (own_ne_len (fun q => by simp at q))) (by decide) (by decide) e704 (by rw [hml]; rfl) (lenOf own_pd13 rfl) (argsL := [(.ref b702)]) (rest := []) rfl rfl (Nat.le_of_eq rfl) (hb hby at_231) (by decide) (by decide) ?_
      intro T709 h709 v709 L709 X709 e709 q709
      obtain ⟨rfl, M709, J709⟩ := q709
      have N709 := Fr.app N704 M709
      have R709 := (CHr.keep J709 all0 R704.1)
      have C709 := C704.trans R709
      have K709 : Keep h0 h709 [] := K704.trans J709 all0
      have O709 : own_Old Z h709 := O704.keep J709 all0
      show G (T709.setTop (mkF m 234 #[oi i0, oi i1, oi i2, oi i3, oi i4, oi i5, oi 2, oa d2, oi c585, oi 4, .unset, .unset, .unset, .unset] [.null]))
      refine hG _ _ (fun t_ k_ => XS.ifnonnullNo X709.here hx rfl (hb hby at_234) rfl k_) ?_
      refine hG _ _ (fun t_ k_ => XS.iconst X709.here hx rfl (hb hby at_237) k_) ?_
      refine hG _ _ (fun t_ k_ => XS.goto X709.here hx rfl (pc0 := 238) (pc' := 242) rfl (hb hby at_238) (by decide) (by decide) k_) ?_
      show G (T709.setTop (mkF m 242 #[oi i0, oi i1, oi i2, oi i3, oi i4, oi i5, oi 2, oa d2, oi c585, oi 4, .unset, .unset, .unset, .unset] [(.int 1)]))
      exact own_retNW hR hret (by simp) X709 hx (hb hby at_242) e709 SI0 (Nat.le_trans (Nat.le_trans (Nat.le_trans (Nat.le_trans (Nat.le_refl _) R702.2.1) R703.2.1) R704.2.1) R709.2.1) hZ C709 (by decide) (by decide) ⟨rfl, N709, K709⟩
    · skip
      show G (T584.setTop (mkF m 52 #[oi i0, oi i1, oi i2, oi i3, oi i4, oi i5, oi 2, oa d2, oi c585, oi 5, .unset, .unset, .unset, .unset] []))
      refine hG _ _ (fun t_ k_ => XS.iload X584.here hx rfl (hb hby at_52) rfl k_) ?_
      show G (T584.setTop (mkF m 54 #[oi i0, oi i1, oi i2, oi i3, oi i4, oi i5, oi 2, oa d2, oi c585, oi 5, .unset, .unset, .unset, .unset] [(.int 5)]))
      refine hG _ _ (fun t_ k_ => XS.ifYes X584.here hx rfl (pc0 := 54) (pc' := 76) rfl (hb hby at_54) rfl ((if0 _ _).trans (feq (by decide)).2) (by decide) (by decide) k_) ?_
      show G (T584.setTop (mkF m 76 #[oi i0, oi i1, oi i2, oi i3, oi i4, oi i5, oi 2, oa d2, oi c585, oi 5, .unset, .unset, .unset, .unset] []))
      refine hG _ _ (fun t_ k_ => XS.iload X584.here hx rfl (hb hby at_76) rfl k_) ?_
      refine hG _ _ (fun t_ k_ => XS.iconst X584.here hx rfl (hb hby at_78) k_) ?_
      show G (T584.setTop (mkF m 79 #[oi i0, oi i1, oi i2, oi i3, oi i4, oi i5, oi 2, oa d2, oi c585, oi 5, .unset, .unset, .unset, .unset] [(.int 1), (.int 5)]))
      refine hG _ _ (fun t_ k_ => XS.icmpYes X584.here hx rfl (pc0 := 79) (pc' := 104) rfl (hb hby at_79) rfl (feq (by decide)).2 (by decide) (by decide) k_) ?_
      show G (T584.setTop (mkF m 104 #[oi i0, oi i1, oi i2, oi i3, oi i4, oi i5, oi 2, oa d2, oi c585, oi 5, .unset, .unset, .unset, .unset] []))
      refine hG _ _ (fun t_ k_ => XS.iload X584.here hx rfl (hb hby at_104) rfl k_) ?_
      refine hG _ _ (fun t_ k_ => XS.iconst X584.here hx rfl (hb hby at_106) k_) ?_
      show G (T584.setTop (mkF m 107 #[oi i0, oi i1, oi i2, oi i3, oi i4, oi i5, oi 2, oa d2, oi c585, oi 5, .unset, .unset, .unset, .unset] [(.int 2), (.int 5)]))
      refine hG _ _ (fun t_ k_ => XS.icmpYes X584.here hx rfl (pc0 := 107) (pc' := 179) rfl (hb hby at_107) rfl (feq (by decide)).2 (by decide) (by decide) k_) ?_
      show G (T584.setTop (mkF m 179 #[oi i0, oi i1, oi i2, oi i3, oi i4, oi i5, oi 2, oa d2, oi c585, oi 5, .unset, .unset, .unset, .unset] []))
      refine hG _ _ (fun t_ k_ => XS.iload X584.here hx rfl (hb hby at_179) rfl k_) ?_
      refine hG _ _ (fun t_ k_ => XS.iconst X584.here hx rfl (hb hby at_181) k_) ?_
      show G (T584.setTop (mkF m 182 #[oi i0, oi i1, oi i2, oi i3, oi i4, oi i5, oi 2, oa d2, oi c585, oi 5, .unset, .unset, .unset, .unset] [(.int 3), (.int 5)]))
      refine hG _ _ (fun t_ k_ => XS.icmpYes X584.here hx rfl (pc0 := 182) (pc' := 211) rfl (hb hby at_182) rfl (feq (by decide)).2 (by decide) (by decide) k_) ?_
      show G (T584.setTop (mkF m 211 #[oi i0, oi i1, oi i2, oi i3, oi i4, oi i5, oi 2, oa d2, oi c585, oi 5, .unset, .unset, .unset, .unset] []))
      refine hG _ _ (fun t_ k_ => XS.iload X584.here hx rfl (hb hby at_211) rfl k_) ?_
      refine hG _ _ (fun t_ k_ => XS.iconst X584.here hx rfl (hb hby at_213) k_) ?_
      show G (T584.setTop (mkF m 214 #[oi i0, oi i1, oi i2, oi i3, oi i4, oi i5, oi 2, oa d2, oi c585, oi 5, .unset, .unset, .unset, .unset] [(.int 4), (.int 5)]))
      refine hG _ _ (fun t_ k_ => XS.icmpYes X584.here hx rfl (pc0 := 214) (pc' := 243) rfl (hb hby at_214) rfl (feq (by decide)).2 (by decide) (by decide) k_) ?_
      show G (T584.setTop (mkF m 243 #[oi i0, oi i1, oi i2, oi i3, oi i4, oi i5, oi 2, oa d2, oi c585, oi 5, .unset, .unset, .unset, .unset] []))
      refine hG _ _ (fun t_ k_ => XS.iload X584.here hx rfl (hb hby at_243) rfl k_) ?_
      refine hG _ _ (fun t_ k_ => XS.iconst X584.here hx rfl (hb hby at_245) k_) ?_
      show G (T584.setTop (mkF m 246 #[oi i0, oi i1, oi i2, oi i3, oi i4, oi i5, oi 2, oa d2, oi c585, oi 5, .unset, .unset, .unset, .unset] [(.int 5), (.int 5)]))
      refine hG _ _ (fun t_ k_ => XS.icmpNo X584.here hx rfl (hb hby at_246) rfl (teq (by decide)).2 k_) ?_
      show G (T584.setTop (mkF m 249 #[oi i0, oi i1, oi i2, oi i3, oi i4, oi i5, oi 2, oa d2, oi c585, oi 5, .unset, .unset, .unset, .unset] []))
      obtain ⟨T730, h730, X730, e730, E730, A730, D730, -, st730⟩ := newO X584 hx hZ hown (ow hw 39 rfl) (ow hw 40 rfl) (ow hw 36 rfl) e584 (g := (mkF m 249 #[oi i0, oi i1, oi i2, oi i3, oi i4, oi i5, oi 2, oa d2, oi c585, oi 5, .unset, .unset, .unset, .unset] [])) rfl (hb hby at_249) (by decide) (by decide)
      obtain ⟨b730, z730⟩ : ∃ z, z = h0.size := ⟨_, rfl⟩
      rw [← z730] at A730 D730 st730
      refine hG _ _ st730 ?_
      have R730 := (CHr.ext E730 H0)
      have C730 := (CHr.refl H0).trans R730
      have K730 : Keep h0 h730 [] := (Keep.refl h0 []).ext E730
      have O730 : own_Old Z h730 := O0.ext E730
      refine hG _ _ (fun t_ k_ => XS.dup X730.here hx rfl (hb hby at_252) rfl rfl k_) ?_
      refine hG _ _ (fun t_ k_ => XS.iload X730.here hx rfl (hb hby at_253) rfl k_) ?_
      show G (T730.setTop (mkF m 255 #[oi i0, oi i1, oi i2, oi i3, oi i4, oi i5, oi 2, oa d2, oi c585, oi 5, .unset, .unset, .unset, .unset] [(.int 2), (.ref b730), (.ref b730)]))
      refine own_callS X730 hx hZ hG hown (ow hw 90 rfl) (ow hw 91 rfl) (ow hw 43 rfl) (ow hw 92 rfl) (by decide) 2 (own_mk_cut_2 l Z a0 hw h730 O730) (by decide) (by decide) e730 (by rw [hml]; rfl) (lenOf own_pd14 rfl) (argsL := [(.int 2)]) (rest := [(.ref b730), (.ref b730)]) rfl rfl (Nat.le_of_eq rfl) (hb hby at_255) (by decide) (by decide) ?_
      intro T731 h731 v731 L731 X731 e731 q731
      obtain ⟨u_731, ku_731, rfl, M731, J731, y731_0, r731_0⟩ := q731
      have N731 := Fr.app N0 M731
      have R731 := (CHr.keep J731 all0 R730.1)
      have C731 := C730.trans R731
      have K731 : Keep h0 h731 [] := K730.trans J731 all0
      have O731 : own_Old Z h731 := O730.keep J731 all0
      show G (T731.setTop (mkF m 258 #[oi i0, oi i1, oi i2, oi i3, oi i4, oi i5, oi 2, oa d2, oi c585, oi 5, .unset, .unset, .unset, .unset] [(.ref u_731), (.ref b730), (.ref b730)]))
      have f733 := (A730.keep J731)
      have f734 := ((D730 (Or.inr (ow hw 69 rfl)) (ty := .byte) (by decide)).keep J731 nin0)
      have f735 := ((D730 (Or.inr (ow hw 71 rfl)) (ty := (.array .byte)) (by decide)).keep J731 nin0)
      refine own_callI X731 hx hZ hG hown rfl (ow hw 46 rfl) (ow hw 47 rfl) (ow hw 36 rfl) (ow hw 48 rfl) (by decide) 1 (own_gstr1 l Z a0 hw b730 u_731 ku_731 [(112 : Int32), (101 : Int32), (110 : Int32), (100 : Int32), (105 : Int32), (110 : Int32), (103 : Int32), (67 : Int32), (114 : Int32), (101 : Int32), (97 : Int32), (116 : Int32)] cpt (.int 0) .null h731 O731 f733 f734 f735 (own_ge O0 (Nat.le_of_eq z730.symm)) r731_0 (Nat.le_of_ble_eq_true rfl) (Nat.le_of_ble_eq_true rfl) (own_allc (by decide) (own_allc (by decide) (own_allc (by decide) (own_allc (by decide) (own_allc (by decide) (own_allc (by decide) (own_allc (by decide) (own_allc (by decide) (own_allc (by decide) (own_allc (by decide) (own_allc (by decide) (own_allc (by decide) own_alln)))))))))))) g0_S g1_hcpt g2_S g3_S g4_S) (by decide) (by decide) e731 (by rw [hml]; rfl) (lenOf own_pd8 rfl) (argsL := [(.ref u_731)]) (rest := [(.ref b730)]) rfl rfl (Nat.le_of_eq rfl) (hb hby at_258) (by decide) (by decide) ?_
      intro T732 h732 v732 L732 X732 e732 q732
      obtain ⟨t_732, kt_732, cd_732, nb_732, vs_732, rfl, M732, J732, y732_0, r732_0, r732_1, r732_2, r732_3, r732_4⟩ := q732
      have N732 := Fr.app N731 M732
      have sf736 : Safe Z consts_1 _ h731 b730 := (own_safeStr hZ.alike f733 f735)
      have R732 := (CHr.keep J732 (allS sf736 all0) R731.1)
      have C732 := C731.trans R732
      have K732 : Keep h0 h732 [] := K731.trans J732 (allS (Or.inr (Nat.le_trans (Keep.refl h0 []).1 (Nat.le_of_eq z730.symm))) all0)
      have O732 : own_Old Z h732 := O731.keep J732 (allS (own_ge O0 (Nat.le_of_eq z730.symm)) all0)
      show G (T732.setTop (mkF m 261 #[oi i0, oi i1, oi i2, oi i3, oi i4, oi i5, oi 2, oa d2, oi c585, oi 5, .unset, .unset, .unset, .unset] [(.ref b730)]))
      have f738 := (((g9_E.ext E730).keep J731).keep J732)
      have f739 := (((g10_V.ext E730).keep J731 nin0).keep J732 (ninS (own_ne g9_E.lt (Nat.le_of_eq z730.symm)) nin0))
      have f740 := (((g11_E.ext E730).keep J731).keep J732)
      have f741 := (((g12_F.ext E730).keep J731 nin0).keep J732 (ninS (own_ne g11_E.lt (Nat.le_of_eq z730.symm)) nin0))
      have f742 := (((g13_E.ext E730).keep J731).keep J732)
      have f743 := (((g14_F.ext E730).keep J731 nin0).keep J732 (ninS (own_ne g13_E.lt (Nat.le_of_eq z730.symm)) nin0))
      have f744 := (((g15_F.ext E730).keep J731 nin0).keep J732 (ninS (own_ne g13_E.lt (Nat.le_of_eq z730.symm)) nin0))
      have f745 := (((g16_V.ext E730).keep J731 nin0).keep J732 (ninS (own_ne g16_V.lt (Nat.le_of_eq z730.symm)) nin0))
      have f746 := (((g17_E.ext E730).keep J731).keep J732)
      have f747 := (((g18_F.ext E730).keep J731 nin0).keep J732 (ninS (own_ne g17_E.lt (Nat.le_of_eq z730.symm)) nin0))
      have f748 := (((g19_E.ext E730).keep J731).keep J732)
      have f749 := (((g20_F.ext E730).keep J731 nin0).keep J732 (ninS (own_ne g19_E.lt (Nat.le_of_eq z730.symm)) nin0))
      have f750 := (((g21_F.ext E730).keep J731 nin0).keep J732 (ninS (own_ne g19_E.lt (Nat.le_of_eq z730.symm)) nin0))
      have f751 := (((g22_V.ext E730).keep J731 nin0).keep J732 (ninS (own_ne g22_V.lt (Nat.le_of_eq z730.symm)) nin0))
      have f752 := (((g23_E.ext E730).keep J731).keep J732)
      have f753 := (((g24_F.ext E730).keep J731 nin0).keep J732 (ninS (own_ne g23_E.lt (Nat.le_of_eq z730.symm)) nin0))
      have f754 := (((g25_E.ext E730).keep J731).keep J732)
      have f755 := (((g26_F.ext E730).keep J731 nin0).keep J732 (ninS (own_ne g25_E.lt (Nat.le_of_eq z730.symm)) nin0))
      have f756 := (((g27_F.ext E730).keep J731 nin0).keep J732 (ninS (own_ne g25_E.lt (Nat.le_of_eq z730.symm)) nin0))
      have f757 := (((g28_V.ext E730).keep J731 nin0).keep J732 (ninS (own_ne g28_V.lt (Nat.le_of_eq z730.symm)) nin0))
      refine own_callS X732 hx hZ hG hown (ow hw 12 rfl) (ow hw 13 rfl) (ow hw 2 rfl) (ow hw 14 rfl) (by decide) 0 (own_findN l Z a0 hw b730 t_732 kt_732 [(112 : Int32), (101 : Int32), (110 : Int32), (100 : Int32), (105 : Int32), (110 : Int32), (103 : Int32), (67 : Int32), (114 : Int32), (101 : Int32), (97 : Int32), (116 : Int32)] cd_732 nb_732 vs_732 cpt d0 d1 d2 t0 t1 t2 v0 v1 v2 kv0 kv1 kv2 vals kl h732 O732 r732_0 r732_1 r732_2 r732_3 r732_4 (Nat.le_of_ble_eq_true rfl) (own_allc (by decide) (own_allc (by decide) (own_allc (by decide) (own_allc (by decide) (own_allc (by decide) (own_allc (by decide) (own_allc (by decide) (own_allc (by decide) (own_allc (by decide) (own_allc (by decide) (own_allc (by decide) (own_allc (by decide) own_alln)))))))))))) g0_S g1_hcpt g8_S f738 f739 f740 f741 f742 f743 f744 f745 f746 f747 f748 f749 f750 f751 f752 f753 f754 f755 f756 f757 (own_ne g13_E.lt (Nat.le_of_eq z730.symm)) (own_ne g19_E.lt (Nat.le_of_eq z730.symm)) (own_ne g25_E.lt (Nat.le_of_eq z730.symm)) (own_ne_len (fun q => by simp at q)) (own_ne_len (fun q => by simp at q)) (own_ne_len (fun q => by simp at q))) (by decide) (by decide) e732 (by rw [hml]; rfl) (lenOf own_pd13 rfl) (argsL := [(.ref b730)]) (rest := []) rfl rfl (Nat.le_of_eq rfl) (hb hby at_261) (by decide) (by decide) ?_
      intro T737 h737 v737 L737 X737 e737 q737
      obtain ⟨rfl, M737, J737⟩ := q737
      have N737 := Fr.app N732 M737
      have R737 := (CHr.keep J737 all0 R732.1)
      have C737 := C732.trans R737
      have K737 : Keep h0 h737 [] := K732.trans J737 all0
      have O737 : own_Old Z h737 := O732.keep J737 all0
      show G (T737.setTop (mkF m 264 #[oi i0, oi i1, oi i2, oi i3, oi i4, oi i5, oi 2, oa d2, oi c585, oi 5, .unset, .unset, .unset, .unset] [.null]))
      refine hG _ _ (fun t_ k_ => XS.ifnonnullNo X737.here hx rfl (hb hby at_264) rfl k_) ?_
      refine hG _ _ (fun t_ k_ => XS.iconst X737.here hx rfl (hb hby at_267) k_) ?_
      refine hG _ _ (fun t_ k_ => XS.goto X737.here hx rfl (pc0 := 268) (pc' := 272) rfl (hb hby at_268) (by decide) (by decide) k_) ?_
      show G (T737.setTop (mkF m 272 #[oi i0, oi i1, oi i2, oi i3, oi i4, oi i5, oi 2, oa d2, oi c585, oi 5, .unset, .unset, .unset, .unset] [(.int 1)]))
      exact own_retNW hR hret (by simp) X737 hx (hb hby at_272) e737 SI0 (Nat.le_trans (Nat.le_trans (Nat.le_trans (Nat.le_trans (Nat.le_refl _) R730.2.1) R731.2.1) R732.2.1) R737.2.1) hZ C737 (by decide) (by decide) ⟨rfl, N737, K737⟩
    · skip
      show G (T584.setTop (mkF m 52 #[oi i0, oi i1, oi i2, oi i3, oi i4, oi i5, oi 2, oa d2, oi c585, oi 6, .unset, .unset, .unset, .unset] []))
      refine hG _ _ (fun t_ k_ => XS.iload X584.here hx rfl (hb hby at_52) rfl k_) ?_
      show G (T584.setTop (mkF m 54 #[oi i0, oi i1, oi i2, oi i3, oi i4, oi i5, oi 2, oa d2, oi c585, oi 6, .unset, .unset, .unset, .unset] [(.int 6)]))
      refine hG _ _ (fun t_ k_ => XS.ifYes X584.here hx rfl (pc0 := 54) (pc' := 76) rfl (hb hby at_54) rfl ((if0 _ _).trans (feq (by decide)).2) (by decide) (by decide) k_) ?_
      show G (T584.setTop (mkF m 76 #[oi i0, oi i1, oi i2, oi i3, oi i4, oi i5, oi 2, oa d2, oi c585, oi 6, .unset, .unset, .unset, .unset] []))
      refine hG _ _ (fun t_ k_ => XS.iload X584.here hx rfl (hb hby at_76) rfl k_) ?_
      refine hG _ _ (fun t_ k_ => XS.iconst X584.here hx rfl (hb hby at_78) k_) ?_
      show G (T584.setTop (mkF m 79 #[oi i0, oi i1, oi i2, oi i3, oi i4, oi i5, oi 2, oa d2, oi c585, oi 6, .unset, .unset, .unset, .unset] [(.int 1), (.int 6)]))
      refine hG _ _ (fun t_ k_ => XS.icmpYes X584.here hx rfl (pc0 := 79) (pc' := 104) rfl (hb hby at_79) rfl (feq (by decide)).2 (by decide) (by decide) k_) ?_
      show G (T584.setTop (mkF m 104 #[oi i0, oi i1, oi i2, oi i3, oi i4, oi i5, oi 2, oa d2, oi c585, oi 6, .unset, .unset, .unset, .unset] []))
      refine hG _ _ (fun t_ k_ => XS.iload X584.here hx rfl (hb hby at_104) rfl k_) ?_
      refine hG _ _ (fun t_ k_ => XS.iconst X584.here hx rfl (hb hby at_106) k_) ?_
      show G (T584.setTop (mkF m 107 #[oi i0, oi i1, oi i2, oi i3, oi i4, oi i5, oi 2, oa d2, oi c585, oi 6, .unset, .unset, .unset, .unset] [(.int 2), (.int 6)]))
      refine hG _ _ (fun t_ k_ => XS.icmpYes X584.here hx rfl (pc0 := 107) (pc' := 179) rfl (hb hby at_107) rfl (feq (by decide)).2 (by decide) (by decide) k_) ?_
      show G (T584.setTop (mkF m 179 #[oi i0, oi i1, oi i2, oi i3, oi i4, oi i5, oi 2, oa d2, oi c585, oi 6, .unset, .unset, .unset, .unset] []))
      refine hG _ _ (fun t_ k_ => XS.iload X584.here hx rfl (hb hby at_179) rfl k_) ?_
      refine hG _ _ (fun t_ k_ => XS.iconst X584.here hx rfl (hb hby at_181) k_) ?_
      show G (T584.setTop (mkF m 182 #[oi i0, oi i1, oi i2, oi i3, oi i4, oi i5, oi 2, oa d2, oi c585, oi 6, .unset, .unset, .unset, .unset] [(.int 3), (.int 6)]))
      refine hG _ _ (fun t_ k_ => XS.icmpYes X584.here hx rfl (pc0 := 182) (pc' := 211) rfl (hb hby at_182) rfl (feq (by decide)).2 (by decide) (by decide) k_) ?_
      show G (T584.setTop (mkF m 211 #[oi i0, oi i1, oi i2, oi i3, oi i4, oi i5, oi 2, oa d2, oi c585, oi 6, .unset, .unset, .unset, .unset] []))
      refine hG _ _ (fun t_ k_ => XS.iload X584.here hx rfl (hb hby at_211) rfl k_) ?_
      refine hG _ _ (fun t_ k_ => XS.iconst X584.here hx rfl (hb hby at_213) k_) ?_
      show G (T584.setTop (mkF m 214 #[oi i0, oi i1, oi i2, oi i3, oi i4, oi i5, oi 2, oa d2, oi c585, oi 6, .unset, .unset, .unset, .unset] [(.int 4), (.int 6)]))
      refine hG _ _ (fun t_ k_ => XS.icmpYes X584.here hx rfl (pc0 := 214) (pc' := 243) rfl (hb hby at_214) rfl (feq (by decide)).2 (by decide) (by decide) k_) ?_
      show G (T584.setTop (mkF m 243 #[oi i0, oi i1, oi i2, oi i3, oi i4, oi i5, oi 2, oa d2, oi c585, oi 6, .unset, .unset, .unset, .unset] []))
      refine hG _ _ (fun t_ k_ => XS.iload X584.here hx rfl (hb hby at_243) rfl k_) ?_
      refine hG _ _ (fun t_ k_ => XS.iconst X584.here hx rfl (hb hby at_245) k_) ?_
      show G (T584.setTop (mkF m 246 #[oi i0, oi i1, oi i2, oi i3, oi i4, oi i5, oi 2, oa d2, oi c585, oi 6, .unset, .unset, .unset, .unset] [(.int 5), (.int 6)]))
      refine hG _ _ (fun t_ k_ => XS.icmpYes X584.here hx rfl (pc0 := 246) (pc' := 273) rfl (hb hby at_246) rfl (feq (by decide)).2 (by decide) (by decide) k_) ?_
      show G (T584.setTop (mkF m 273 #[oi i0, oi i1, oi i2, oi i3, oi i4, oi i5, oi 2, oa d2, oi c585, oi 6, .unset, .unset, .unset, .unset] []))
      obtain ⟨T758, h758, X758, e758, E758, A758, D758, -, st758⟩ := newO X584 hx hZ hown (ow hw 39 rfl) (ow hw 40 rfl) (ow hw 36 rfl) e584 (g := (mkF m 273 #[oi i0, oi i1, oi i2, oi i3, oi i4, oi i5, oi 2, oa d2, oi c585, oi 6, .unset, .unset, .unset, .unset] [])) rfl (hb hby at_273) (by decide) (by decide)
      obtain ⟨b758, z758⟩ : ∃ z, z = h0.size := ⟨_, rfl⟩
      rw [← z758] at A758 D758 st758
      refine hG _ _ st758 ?_
      have R758 := (CHr.ext E758 H0)
      have C758 := (CHr.refl H0).trans R758
      have K758 : Keep h0 h758 [] := (Keep.refl h0 []).ext E758
      have O758 : own_Old Z h758 := O0.ext E758
      refine hG _ _ (fun t_ k_ => XS.dup X758.here hx rfl (hb hby at_276) rfl rfl k_) ?_
      refine hG _ _ (fun t_ k_ => XS.iload X758.here hx rfl (hb hby at_277) rfl k_) ?_
      refine hG _ _ (fun t_ k_ => XS.iconst X758.here hx rfl (hb hby at_279) k_) ?_
      refine hG _ _ (fun t_ k_ => XS.iand X758.here hx rfl (hb hby at_280) rfl k_) ?_
      show G (T758.setTop (mkF m 281 #[oi i0, oi i1, oi i2, oi i3, oi i4, oi i5, oi 2, oa d2, oi c585, oi 6, .unset, .unset, .unset, .unset] [(.int (i4 &&& (3 : Int32))), (.ref b758), (.ref b758)]))
      generalize hn_q759 : (i4 &&& (3 : Int32)) = q759
      rcases own_m3 hn_q759 with rfl | rfl | rfl | rfl
      · skip
        show G (T758.setTop (mkF m 281 #[oi i0, oi i1, oi i2, oi i3, oi i4, oi i5, oi 2, oa d2, oi c585, oi 6, .unset, .unset, .unset, .unset] [(.int 0), (.ref b758), (.ref b758)]))
        refine hG _ _ (fun t_ k_ => XS.iload X758.here hx rfl (hb hby at_281) rfl k_) ?_
        refine hG _ _ (fun t_ k_ => XS.iload X758.here hx rfl (hb hby at_283) rfl k_) ?_
        refine hG _ _ (fun t_ k_ => XS.i2c X758.here hx rfl (hb hby at_285) rfl k_) ?_
        show G (T758.setTop (mkF m 286 #[oi i0, oi i1, oi i2, oi i3, oi i4, oi i5, oi 2, oa d2, oi c585, oi 6, .unset, .unset, .unset, .unset] [(.int (i5.toUInt32.toUInt16.toUInt32.toInt32)), (.int c585), (.int 0), (.ref b758), (.ref b758)]))
        generalize hn_c760 : (i5.toUInt32.toUInt16.toUInt32.toInt32) = c760
        have hr_c760 := own_i2c16 hn_c760
        show G (T758.setTop (mkF m 286 #[oi i0, oi i1, oi i2, oi i3, oi i4, oi i5, oi 2, oa d2, oi c585, oi 6, .unset, .unset, .unset, .unset] [(.int c760), (.int c585), (.int 0), (.ref b758), (.ref b758)]))
        refine hG _ _ (fun t_ k_ => XS.iload X758.here hx rfl (hb hby at_286) rfl k_) ?_
        refine hG _ _ (fun t_ k_ => XS.bipush X758.here hx rfl (hb hby at_288) k_) ?_
        refine hG _ _ (fun t_ k_ => XS.iushr X758.here hx rfl (hb hby at_290) rfl k_) ?_
        refine hG _ _ (fun t_ k_ => XS.i2c X758.here hx rfl (hb hby at_291) rfl k_) ?_
        show G (T758.setTop (mkF m 292 #[oi i0, oi i1, oi i2, oi i3, oi i4, oi i5, oi 2, oa d2, oi c585, oi 6, .unset, .unset, .unset, .unset] [(.int (((i5.toUInt32 >>> ((16 : Int32) &&& 31).toUInt32).toInt32).toUInt32.toUInt16.toUInt32.toInt32)), (.int c760), (.int c585), (.int 0), (.ref b758), (.ref b758)]))
        generalize hn_c761 : (((i5.toUInt32 >>> ((16 : Int32) &&& 31).toUInt32).toInt32).toUInt32.toUInt16.toUInt32.toInt32) = c761
        have hr_c761 := own_i2c16 hn_c761
        show G (T758.setTop (mkF m 292 #[oi i0, oi i1, oi i2, oi i3, oi i4, oi i5, oi 2, oa d2, oi c585, oi 6, .unset, .unset, .unset, .unset] [(.int c761), (.int c760), (.int c585), (.int 0), (.ref b758), (.ref b758)]))
        refine own_callS X758 hx hZ hG hown (ow hw 87 rfl) (ow hw 88 rfl) (ow hw 43 rfl) (ow hw 89 rfl) (by decide) 2 (own_mk_shortChars_0 l Z a0 hw c585 c760 c761 h758 O758 hr_c585 hr_c760 hr_c761) (by decide) (by decide) e758 (by rw [hml]; rfl) (lenOf own_pd16 rfl) (argsL := [(.int 0), (.int c585), (.int c760), (.int c761)]) (rest := [(.ref b758), (.ref b758)]) rfl rfl (Nat.le_of_eq rfl) (hb hby at_292) (by decide) (by decide) ?_
        intro T762 h762 v762 L762 X762 e762 q762
        obtain ⟨u_762, ku_762, rfl, M762, J762, y762_0, r762_0⟩ := q762
        have N762 := Fr.app N0 M762
        have R762 := (CHr.keep J762 all0 R758.1)
        have C762 := C758.trans R762
        have K762 : Keep h0 h762 [] := K758.trans J762 all0
        have O762 : own_Old Z h762 := O758.keep J762 all0
        show G (T762.setTop (mkF m 295 #[oi i0, oi i1, oi i2, oi i3, oi i4, oi i5, oi 2, oa d2, oi c585, oi 6, .unset, .unset, .unset, .unset] [(.ref u_762), (.ref b758), (.ref b758)]))
        have f764 := (A758.keep J762)
        have f765 := ((D758 (Or.inr (ow hw 69 rfl)) (ty := .byte) (by decide)).keep J762 nin0)
        have f766 := ((D758 (Or.inr (ow hw 71 rfl)) (ty := (.array .byte)) (by decide)).keep J762 nin0)
        refine own_callIW X762 hx hZ hG hown rfl (ow hw 46 rfl) (ow hw 47 rfl) (ow hw 36 rfl) (ow hw 48 rfl) (by decide) 1 (own_str1E l Z a0 hw hEL b758 u_762 (.int 0) ku_762 h762 O762 f764 f765 f766 (own_ge O0 (Nat.le_of_eq z758.symm)) r762_0) (by decide) (by decide) e762 SI0 (Nat.le_trans (Nat.le_trans (Nat.le_refl _) R758.2.1) R762.2.1) hEL R762.1 (by rw [hml]; rfl) (lenOf own_pd8 rfl) (argsL := [(.ref u_762)]) (rest := [(.ref b758)]) rfl rfl (Nat.le_of_eq rfl) (hb hby at_295) (by decide) (by decide) ?_
        intro T763 h763 v763 L763 X763 e763 SI763 hZ763 hown763 Y763 q763
        obtain ⟨t_763, kt_763, rfl, M763, J763, r763_0, r763_1, r763_2, r763_3⟩ := q763
        have N763 := Fr.app N762 M763
        have R763 := Y763
        have C763 := C762.trans R763
        have K763 : Keep h0 h763 [] := K762.trans J763 (allS (Or.inr (Nat.le_trans (Keep.refl h0 []).1 (Nat.le_of_eq z758.symm))) all0)
        have O763 : own_Old Z h763 := O762.keep J763 (allS (own_ge O0 (Nat.le_of_eq z758.symm)) all0)
        show G (T763.setTop (mkF m 298 #[oi i0, oi i1, oi i2, oi i3, oi i4, oi i5, oi 2, oa d2, oi c585, oi 6, .unset, .unset, .unset, .unset] [(.ref b758)]))
        have f768 := (((g9_E.ext E758).keep J762).keep J763)
        have f769 := (((g10_V.ext E758).keep J762 nin0).keep J763 (ninS (own_ne g9_E.lt (Nat.le_of_eq z758.symm)) nin0))
        have f770 := (((g11_E.ext E758).keep J762).keep J763)
        have f771 := (((g12_F.ext E758).keep J762 nin0).keep J763 (ninS (own_ne g11_E.lt (Nat.le_of_eq z758.symm)) nin0))
        have f772 := (((g13_E.ext E758).keep J762).keep J763)
        have f773 := (((g14_F.ext E758).keep J762 nin0).keep J763 (ninS (own_ne g13_E.lt (Nat.le_of_eq z758.symm)) nin0))
        have f774 := (((g15_F.ext E758).keep J762 nin0).keep J763 (ninS (own_ne g13_E.lt (Nat.le_of_eq z758.symm)) nin0))
        have f775 := (((g16_V.ext E758).keep J762 nin0).keep J763 (ninS (own_ne g16_V.lt (Nat.le_of_eq z758.symm)) nin0))
        have f776 := (((g17_E.ext E758).keep J762).keep J763)
        have f777 := (((g18_F.ext E758).keep J762 nin0).keep J763 (ninS (own_ne g17_E.lt (Nat.le_of_eq z758.symm)) nin0))
        have f778 := (((g19_E.ext E758).keep J762).keep J763)
        have f779 := (((g20_F.ext E758).keep J762 nin0).keep J763 (ninS (own_ne g19_E.lt (Nat.le_of_eq z758.symm)) nin0))
        have f780 := (((g21_F.ext E758).keep J762 nin0).keep J763 (ninS (own_ne g19_E.lt (Nat.le_of_eq z758.symm)) nin0))
        have f781 := (((g22_V.ext E758).keep J762 nin0).keep J763 (ninS (own_ne g22_V.lt (Nat.le_of_eq z758.symm)) nin0))
        have f782 := (((g23_E.ext E758).keep J762).keep J763)
        have f783 := (((g24_F.ext E758).keep J762 nin0).keep J763 (ninS (own_ne g23_E.lt (Nat.le_of_eq z758.symm)) nin0))
        have f784 := (((g25_E.ext E758).keep J762).keep J763)
        have f785 := (((g26_F.ext E758).keep J762 nin0).keep J763 (ninS (own_ne g25_E.lt (Nat.le_of_eq z758.symm)) nin0))
        have f786 := (((g27_F.ext E758).keep J762 nin0).keep J763 (ninS (own_ne g25_E.lt (Nat.le_of_eq z758.symm)) nin0))
        have f787 := (((g28_V.ext E758).keep J762 nin0).keep J763 (ninS (own_ne g28_V.lt (Nat.le_of_eq z758.symm)) nin0))
        refine own_callS X763 hx hZ763 hG hown763 (ow hw 12 rfl) (ow hw 13 rfl) (ow hw 2 rfl) (ow hw 14 rfl) (by decide) 0 (own_findN l Z a0 hw b758 t_763 kt_763 ([] : List Int32) (0 : Int32) (0 : Int32) [] cpt d0 d1 d2 t0 t1 t2 v0 v1 v2 kv0 kv1 kv2 vals kl h763 O763 r763_0 r763_1 r763_2 r763_3 own_enc_nil (Nat.zero_le _) own_alln g0_S g1_hcpt g8_S f768 f769 f770 f771 f772 f773 f774 f775 f776 f777 f778 f779 f780 f781 f782 f783 f784 f785 f786 f787 (own_ne g13_E.lt (Nat.le_of_eq z758.symm)) (own_ne g19_E.lt (Nat.le_of_eq z758.symm)) (own_ne g25_E.lt (Nat.le_of_eq z758.symm)) (own_ne_len (fun q => by simp at q)) (own_ne_len (fun q => by simp at q)) (own_ne_len (fun q => by simp at q))) (by decide) (by decide) e763 (by rw [hml]; rfl) (lenOf own_pd13 rfl) (argsL := [(.ref b758)]) (rest := []) rfl rfl (Nat.le_of_eq rfl) (hb hby at_298) (by decide) (by decide) ?_
        intro T767 h767 v767 L767 X767 e767 q767
        obtain ⟨rfl, M767, J767⟩ := q767
        have N767 := Fr.app N763 M767
        have R767 := (CHr.keep J767 all0 R763.1)
        have C767 := C763.trans R767
        have K767 : Keep h0 h767 [] := K763.trans J767 all0
        have O767 : own_Old Z h767 := O763.keep J767 all0
        show G (T767.setTop (mkF m 301 #[oi i0, oi i1, oi i2, oi i3, oi i4, oi i5, oi 2, oa d2, oi c585, oi 6, .unset, .unset, .unset, .unset] [.null]))
        refine hG _ _ (fun t_ k_ => XS.ifnonnullNo X767.here hx rfl (hb hby at_301) rfl k_) ?_
        refine hG _ _ (fun t_ k_ => XS.iconst X767.here hx rfl (hb hby at_304) k_) ?_
        refine hG _ _ (fun t_ k_ => XS.goto X767.here hx rfl (pc0 := 305) (pc' := 309) rfl (hb hby at_305) (by decide) (by decide) k_) ?_
        show G (T767.setTop (mkF m 309 #[oi i0, oi i1, oi i2, oi i3, oi i4, oi i5, oi 2, oa d2, oi c585, oi 6, .unset, .unset, .unset, .unset] [(.int 1)]))
        exact own_retNW hR hret (by simp) X767 hx (hb hby at_309) e767 SI763 (Nat.le_trans (Nat.le_refl _) R767.2.1) hZ763 C767 (by decide) (by decide) ⟨rfl, N767, K767⟩
      · skip
        show G (T758.setTop (mkF m 281 #[oi i0, oi i1, oi i2, oi i3, oi i4, oi i5, oi 2, oa d2, oi c585, oi 6, .unset, .unset, .unset, .unset] [(.int 1), (.ref b758), (.ref b758)]))
        refine hG _ _ (fun t_ k_ => XS.iload X758.here hx rfl (hb hby at_281) rfl k_) ?_
        refine hG _ _ (fun t_ k_ => XS.iload X758.here hx rfl (hb hby at_283) rfl k_) ?_
        refine hG _ _ (fun t_ k_ => XS.i2c X758.here hx rfl (hb hby at_285) rfl k_) ?_
        show G (T758.setTop (mkF m 286 #[oi i0, oi i1, oi i2, oi i3, oi i4, oi i5, oi 2, oa d2, oi c585, oi 6, .unset, .unset, .unset, .unset] [(.int (i5.toUInt32.toUInt16.toUInt32.toInt32)), (.int c585), (.int 1), (.ref b758), (.ref b758)]))
        generalize hn_c788 : (i5.toUInt32.toUInt16.toUInt32.toInt32) = c788
        have hr_c788 := own_i2c16 hn_c788
        show G (T758.setTop (mkF m 286 #[oi i0, oi i1, oi i2, oi i3, oi i4, oi i5, oi 2, oa d2, oi c585, oi 6, .unset, .unset, .unset, .unset] [(.int c788), (.int c585), (.int 1), (.ref b758), (.ref b758)]))
        refine hG _ _ (fun t_ k_ => XS.iload X758.here hx rfl (hb hby at_286) rfl k_) ?_
        refine hG _ _ (fun t_ k_ => XS.bipush X758.here hx rfl (hb hby at_288) k_) ?_
        refine hG _ _ (fun t_ k_ => XS.iushr X758.here hx rfl (hb hby at_290) rfl k_) ?_
        refine hG _ _ (fun t_ k_ => XS.i2c X758.here hx rfl (hb hby at_291) rfl k_) ?_
        show G (T758.setTop (mkF m 292 #[oi i0, oi i1, oi i2, oi i3, oi i4, oi i5, oi 2, oa d2, oi c585, oi 6, .unset, .unset, .unset, .unset] [(.int (((i5.toUInt32 >>> ((16 : Int32) &&& 31).toUInt32).toInt32).toUInt32.toUInt16.toUInt32.toInt32)), (.int c788), (.int c585), (.int 1), (.ref b758), (.ref b758)]))
        generalize hn_c789 : (((i5.toUInt32 >>> ((16 : Int32) &&& 31).toUInt32).toInt32).toUInt32.toUInt16.toUInt32.toInt32) = c789
        have hr_c789 := own_i2c16 hn_c789
        show G (T758.setTop (mkF m 292 #[oi i0, oi i1, oi i2, oi i3, oi i4, oi i5, oi 2, oa d2, oi c585, oi 6, .unset, .unset, .unset, .unset] [(.int c789), (.int c788), (.int c585), (.int 1), (.ref b758), (.ref b758)]))
        refine own_callS X758 hx hZ hG hown (ow hw 87 rfl) (ow hw 88 rfl) (ow hw 43 rfl) (ow hw 89 rfl) (by decide) 2 (own_mk_shortChars_1 l Z a0 hw c585 c788 c789 h758 O758 hr_c585 hr_c788 hr_c789) (by decide) (by decide) e758 (by rw [hml]; rfl) (lenOf own_pd16 rfl) (argsL := [(.int 1), (.int c585), (.int c788), (.int c789)]) (rest := [(.ref b758), (.ref b758)]) rfl rfl (Nat.le_of_eq rfl) (hb hby at_292) (by decide) (by decide) ?_
        intro T790 h790 v790 L790 X790 e790 q790
        obtain ⟨u_790, ku_790, rfl, M790, J790, y790_0, r790_0⟩ := q790
        have N790 := Fr.app N0 M790
        have R790 := (CHr.keep J790 all0 R758.1)
        have C790 := C758.trans R790
        have K790 : Keep h0 h790 [] := K758.trans J790 all0
        have O790 : own_Old Z h790 := O758.keep J790 all0
        show G (T790.setTop (mkF m 295 #[oi i0, oi i1, oi i2, oi i3, oi i4, oi i5, oi 2, oa d2, oi c585, oi 6, .unset, .unset, .unset, .unset] [(.ref u_790), (.ref b758), (.ref b758)]))
        have f792 := (A758.keep J790)
        have f793 := ((D758 (Or.inr (ow hw 69 rfl)) (ty := .byte) (by decide)).keep J790 nin0)
        have f794 := ((D758 (Or.inr (ow hw 71 rfl)) (ty := (.array .byte)) (by decide)).keep J790 nin0)
        refine own_callI X790 hx hZ hG hown rfl (ow hw 46 rfl) (ow hw 47 rfl) (ow hw 36 rfl) (ow hw 48 rfl) (by decide) 1 (own_gstr1 l Z a0 hw b758 u_790 ku_790 [c585] cpt (.int 0) .null h790 O790 f792 f793 f794 (own_ge O0 (Nat.le_of_eq z758.symm)) r790_0 (Nat.le_of_ble_eq_true rfl) (Nat.le_of_ble_eq_true rfl) (own_allc hr_c585 own_alln) g0_S g1_hcpt g2_S g3_S g4_S) (by decide) (by decide) e790 (by rw [hml]; rfl) (lenOf own_pd8 rfl) (argsL := [(.ref u_790)]) (rest := [(.ref b758)]) rfl rfl (Nat.le_of_eq rfl) (hb hby at_295) (by decide) (by decide) ?_
        intro T791 h791 v791 L791 X791 e791 q791
        obtain ⟨t_791, kt_791, cd_791, nb_791, vs_791, rfl, M791, J791, y791_0, r791_0, r791_1, r791_2, r791_3, r791_4⟩ := q791
        have N791 := Fr.app N790 M791
        have sf795 : Safe Z consts_1 _ h790 b758 := (own_safeStr hZ.alike f792 f794)
        have R791 := (CHr.keep J791 (allS sf795 all0) R790.1)
        have C791 := C790.trans R791
        have K791 : Keep h0 h791 [] := K790.trans J791 (allS (Or.inr (Nat.le_trans (Keep.refl h0 []).1 (Nat.le_of_eq z758.symm))) all0)
        have O791 : own_Old Z h791 := O790.keep J791 (allS (own_ge O0 (Nat.le_of_eq z758.symm)) all0)
        show G (T791.setTop (mkF m 298 #[oi i0, oi i1, oi i2, oi i3, oi i4, oi i5, oi 2, oa d2, oi c585, oi 6, .unset, .unset, .unset, .unset] [(.ref b758)]))
        have f797 := (((g9_E.ext E758).keep J790).keep J791)
        have f798 := (((g10_V.ext E758).keep J790 nin0).keep J791 (ninS (own_ne g9_E.lt (Nat.le_of_eq z758.symm)) nin0))
        have f799 := (((g11_E.ext E758).keep J790).keep J791)
        have f800 := (((g12_F.ext E758).keep J790 nin0).keep J791 (ninS (own_ne g11_E.lt (Nat.le_of_eq z758.symm)) nin0))
        have f801 := (((g13_E.ext E758).keep J790).keep J791)
        have f802 := (((g14_F.ext E758).keep J790 nin0).keep J791 (ninS (own_ne g13_E.lt (Nat.le_of_eq z758.symm)) nin0))
        have f803 := (((g15_F.ext E758).keep J790 nin0).keep J791 (ninS (own_ne g13_E.lt (Nat.le_of_eq z758.symm)) nin0))
        have f804 := (((g16_V.ext E758).keep J790 nin0).keep J791 (ninS (own_ne g16_V.lt (Nat.le_of_eq z758.symm)) nin0))
        have f805 := (((g17_E.ext E758).keep J790).keep J791)
        have f806 := (((g18_F.ext E758).keep J790 nin0).keep J791 (ninS (own_ne g17_E.lt (Nat.le_of_eq z758.symm)) nin0))
        have f807 := (((g19_E.ext E758).keep J790).keep J791)
        have f808 := (((g20_F.ext E758).keep J790 nin0).keep J791 (ninS (own_ne g19_E.lt (Nat.le_of_eq z758.symm)) nin0))
        have f809 := (((g21_F.ext E758).keep J790 nin0).keep J791 (ninS (own_ne g19_E.lt (Nat.le_of_eq z758.symm)) nin0))
        have f810 := (((g22_V.ext E758).keep J790 nin0).keep J791 (ninS (own_ne g22_V.lt (Nat.le_of_eq z758.symm)) nin0))
        have f811 := (((g23_E.ext E758).keep J790).keep J791)
        have f812 := (((g24_F.ext E758).keep J790 nin0).keep J791 (ninS (own_ne g23_E.lt (Nat.le_of_eq z758.symm)) nin0))
        have f813 := (((g25_E.ext E758).keep J790).keep J791)
        have f814 := (((g26_F.ext E758).keep J790 nin0).keep J791 (ninS (own_ne g25_E.lt (Nat.le_of_eq z758.symm)) nin0))
        have f815 := (((g27_F.ext E758).keep J790 nin0).keep J791 (ninS (own_ne g25_E.lt (Nat.le_of_eq z758.symm)) nin0))
        have f816 := (((g28_V.ext E758).keep J790 nin0).keep J791 (ninS (own_ne g28_V.lt (Nat.le_of_eq z758.symm)) nin0))
        refine own_callS X791 hx hZ hG hown (ow hw 12 rfl) (ow hw 13 rfl) (ow hw 2 rfl) (ow hw 14 rfl) (by decide) 0 (own_findN l Z a0 hw b758 t_791 kt_791 [c585] cd_791 nb_791 vs_791 cpt d0 d1 d2 t0 t1 t2 v0 v1 v2 kv0 kv1 kv2 vals kl h791 O791 r791_0 r791_1 r791_2 r791_3 r791_4 (Nat.le_of_ble_eq_true rfl) (own_allc hr_c585 own_alln) g0_S g1_hcpt g8_S f797 f798 f799 f800 f801 f802 f803 f804 f805 f806 f807 f808 f809 f810 f811 f812 f813 f814 f815 f816 (own_ne g13_E.lt (Nat.le_of_eq z758.symm)) (own_ne g19_E.lt (Nat.le_of_eq z758.symm)) (own_ne g25_E.lt (Nat.le_of_eq z758.symm)) (own_ne_len (fun q => by simp at q)) (own_ne_len (fun q => by simp at q)) (own_ne_len (fun q => by simp at q))) (by decide) (by decide) e791 (by rw [hml]; rfl) (lenOf own_pd13 rfl) (argsL := [(.ref b758)]) (rest := []) rfl rfl (Nat.le_of_eq rfl) (hb hby at_298) (by decide) (by decide) ?_
        intro T796 h796 v796 L796 X796 e796 q796
        obtain ⟨rfl, M796, J796⟩ := q796
        have N796 := Fr.app N791 M796
        have R796 := (CHr.keep J796 all0 R791.1)
        have C796 := C791.trans R796
        have K796 : Keep h0 h796 [] := K791.trans J796 all0
        have O796 : own_Old Z h796 := O791.keep J796 all0
        show G (T796.setTop (mkF m 301 #[oi i0, oi i1, oi i2, oi i3, oi i4, oi i5, oi 2, oa d2, oi c585, oi 6, .unset, .unset, .unset, .unset] [.null]))
        refine hG _ _ (fun t_ k_ => XS.ifnonnullNo X796.here hx rfl (hb hby at_301) rfl k_) ?_
        refine hG _ _ (fun t_ k_ => XS.iconst X796.here hx rfl (hb hby at_304) k_) ?_
        refine hG _ _ (fun t_ k_ => XS.goto X796.here hx rfl (pc0 := 305) (pc' := 309) rfl (hb hby at_305) (by decide) (by decide) k_) ?_
        show G (T796.setTop (mkF m 309 #[oi i0, oi i1, oi i2, oi i3, oi i4, oi i5, oi 2, oa d2, oi c585, oi 6, .unset, .unset, .unset, .unset] [(.int 1)]))
        exact own_retNW hR hret (by simp) X796 hx (hb hby at_309) e796 SI0 (Nat.le_trans (Nat.le_trans (Nat.le_trans (Nat.le_trans (Nat.le_refl _) R758.2.1) R790.2.1) R791.2.1) R796.2.1) hZ C796 (by decide) (by decide) ⟨rfl, N796, K796⟩
      · skip
        show G (T758.setTop (mkF m 281 #[oi i0, oi i1, oi i2, oi i3, oi i4, oi i5, oi 2, oa d2, oi c585, oi 6, .unset, .unset, .unset, .unset] [(.int 2), (.ref b758), (.ref b758)]))
        refine hG _ _ (fun t_ k_ => XS.iload X758.here hx rfl (hb hby at_281) rfl k_) ?_
        refine hG _ _ (fun t_ k_ => XS.iload X758.here hx rfl (hb hby at_283) rfl k_) ?_
        refine hG _ _ (fun t_ k_ => XS.i2c X758.here hx rfl (hb hby at_285) rfl k_) ?_
        show G (T758.setTop (mkF m 286 #[oi i0, oi i1, oi i2, oi i3, oi i4, oi i5, oi 2, oa d2, oi c585, oi 6, .unset, .unset, .unset, .unset] [(.int (i5.toUInt32.toUInt16.toUInt32.toInt32)), (.int c585), (.int 2), (.ref b758), (.ref b758)]))
        generalize hn_c817 : (i5.toUInt32.toUInt16.toUInt32.toInt32) = c817
        have hr_c817 := own_i2c16 hn_c817
        show G (T758.setTop (mkF m 286 #[oi i0, oi i1, oi i2, oi i3, oi i4, oi i5, oi 2, oa d2, oi c585, oi 6, .unset, .unset, .unset, .unset] [(.int c817), (.int c585), (.int 2), (.ref b758), (.ref b758)]))
        refine hG _ _ (fun t_ k_ => XS.iload X758.here hx rfl (hb hby at_286) rfl k_) ?_
        refine hG _ _ (fun t_ k_ => XS.bipush X758.here hx rfl (hb hby at_288) k_) ?_
        refine hG _ _ (fun t_ k_ => XS.iushr X758.here hx rfl (hb hby at_290) rfl k_) ?_
        refine hG _ _ (fun t_ k_ => XS.i2c X758.here hx rfl (hb hby at_291) rfl k_) ?_
        show G (T758.setTop (mkF m 292 #[oi i0, oi i1, oi i2, oi i3, oi i4, oi i5, oi 2, oa d2, oi c585, oi 6, .unset, .unset, .unset, .unset] [(.int (((i5.toUInt32 >>> ((16 : Int32) &&& 31).toUInt32).toInt32).toUInt32.toUInt16.toUInt32.toInt32)), (.int c817), (.int c585), (.int 2), (.ref b758), (.ref b758)]))
        generalize hn_c818 : (((i5.toUInt32 >>> ((16 : Int32) &&& 31).toUInt32).toInt32).toUInt32.toUInt16.toUInt32.toInt32) = c818
        have hr_c818 := own_i2c16 hn_c818
        show G (T758.setTop (mkF m 292 #[oi i0, oi i1, oi i2, oi i3, oi i4, oi i5, oi 2, oa d2, oi c585, oi 6, .unset, .unset, .unset, .unset] [(.int c818), (.int c817), (.int c585), (.int 2), (.ref b758), (.ref b758)]))
        refine own_callS X758 hx hZ hG hown (ow hw 87 rfl) (ow hw 88 rfl) (ow hw 43 rfl) (ow hw 89 rfl) (by decide) 2 (own_mk_shortChars_2 l Z a0 hw c585 c817 c818 h758 O758 hr_c585 hr_c817 hr_c818) (by decide) (by decide) e758 (by rw [hml]; rfl) (lenOf own_pd16 rfl) (argsL := [(.int 2), (.int c585), (.int c817), (.int c818)]) (rest := [(.ref b758), (.ref b758)]) rfl rfl (Nat.le_of_eq rfl) (hb hby at_292) (by decide) (by decide) ?_
        intro T819 h819 v819 L819 X819 e819 q819
        obtain ⟨u_819, ku_819, rfl, M819, J819, y819_0, r819_0⟩ := q819
        have N819 := Fr.app N0 M819
        have R819 := (CHr.keep J819 all0 R758.1)
        have C819 := C758.trans R819
        have K819 : Keep h0 h819 [] := K758.trans J819 all0
        have O819 : own_Old Z h819 := O758.keep J819 all0
        show G (T819.setTop (mkF m 295 #[oi i0, oi i1, oi i2, oi i3, oi i4, oi i5, oi 2, oa d2, oi c585, oi 6, .unset, .unset, .unset, .unset] [(.ref u_819), (.ref b758), (.ref b758)]))
        have f821 := (A758.keep J819)
        have f822 := ((D758 (Or.inr (ow hw 69 rfl)) (ty := .byte) (by decide)).keep J819 nin0)
        have f823 := ((D758 (Or.inr (ow hw 71 rfl)) (ty := (.array .byte)) (by decide)).keep J819 nin0)
        refine own_callI X819 hx hZ hG hown rfl (ow hw 46 rfl) (ow hw 47 rfl) (ow hw 36 rfl) (ow hw 48 rfl) (by decide) 1 (own_gstr1 l Z a0 hw b758 u_819 ku_819 [c585, c817] cpt (.int 0) .null h819 O819 f821 f822 f823 (own_ge O0 (Nat.le_of_eq z758.symm)) r819_0 (Nat.le_of_ble_eq_true rfl) (Nat.le_of_ble_eq_true rfl) (own_allc hr_c585 (own_allc hr_c817 own_alln)) g0_S g1_hcpt g2_S g3_S g4_S) (by decide) (by decide) e819 (by rw [hml]; rfl) (lenOf own_pd8 rfl) (argsL := [(.ref u_819)]) (rest := [(.ref b758)]) rfl rfl (Nat.le_of_eq rfl) (hb hby at_295) (by decide) (by decide) ?_
        intro T820 h820 v820 L820 X820 e820 q820
        obtain ⟨t_820, kt_820, cd_820, nb_820, vs_820, rfl, M820, J820, y820_0, r820_0, r820_1, r820_2, r820_3, r820_4⟩ := q820
        have N820 := Fr.app N819 M820
        have sf824 : Safe Z consts_1 _ h819 b758 := (own_safeStr hZ.alike f821 f823)
        have R820 := (CHr.keep J820 (allS sf824 all0) R819.1)
        have C820 := C819.trans R820
        have K820 : Keep h0 h820 [] := K819.trans J820 (allS (Or.inr (Nat.le_trans (Keep.refl h0 []).1 (Nat.le_of_eq z758.symm))) all0)
        have O820 : own_Old Z h820 := O819.keep J820 (allS (own_ge O0 (Nat.le_of_eq z758.symm)) all0)
        show G (T820.setTop (mkF m 298 #[oi i0, oi i1, oi i2, oi i3, oi i4, oi i5, oi 2, oa d2, oi c585, oi 6, .unset, .unset, .unset, .unset] [(.ref b758)]))
        have f826 := (((g9_E.ext E758).keep J819).keep J820)
        have f827 := (((g10_V.ext E758).keep J819 nin0).keep J820 (ninS (own_ne g9_E.lt (Nat.le_of_eq z758.symm)) nin0))
        have f828 := (((g11_E.ext E758).keep J819).keep J820)
        have f829 := (((g12_F.ext E758).keep J819 nin0).keep J820 (ninS (own_ne g11_E.lt (Nat.le_of_eq z758.symm)) nin0))
        have f830 := (((g13_E.ext E758).keep J819).keep J820)
        have f831 := (((g14_F.ext E758).keep J819 nin0).keep J820 (ninS (own_ne g13_E.lt (Nat.le_of_eq z758.symm)) nin0))
        have f832 := (((g15_F.ext E758).keep J819 nin0).keep J820 (ninS (own_ne g13_E.lt (Nat.le_of_eq z758.symm)) nin0))
        have f833 := (((g16_V.ext E758).keep J819 nin0).keep J820 (ninS (own_ne g16_V.lt (Nat.le_of_eq z758.symm)) nin0))
        have f834 := (((g17_E.ext E758).keep J819).keep J820)
        have f835 := (((g18_F.ext E758).keep J819 nin0).keep J820 (ninS (own_ne g17_E.lt (Nat.le_of_eq z758.symm)) nin0))
        have f836 := (((g19_E.ext E758).keep J819).keep J820)
        have f837 := (((g20_F.ext E758).keep J819 nin0).keep J820 (ninS (own_ne g19_E.lt (Nat.le_of_eq z758.symm)) nin0))
        have f838 := (((g21_F.ext E758).keep J819 nin0).keep J820 (ninS (own_ne g19_E.lt (Nat.le_of_eq z758.symm)) nin0))
        have f839 := (((g22_V.ext E758).keep J819 nin0).keep J820 (ninS (own_ne g22_V.lt (Nat.le_of_eq z758.symm)) nin0))
        have f840 := (((g23_E.ext E758).keep J819).keep J820)
        have f841 := (((g24_F.ext E758).keep J819 nin0).keep J820 (ninS (own_ne g23_E.lt (Nat.le_of_eq z758.symm)) nin0))
        have f842 := (((g25_E.ext E758).keep J819).keep J820)
        have f843 := (((g26_F.ext E758).keep J819 nin0).keep J820 (ninS (own_ne g25_E.lt (Nat.le_of_eq z758.symm)) nin0))
        have f844 := (((g27_F.ext E758).keep J819 nin0).keep J820 (ninS (own_ne g25_E.lt (Nat.le_of_eq z758.symm)) nin0))
        have f845 := (((g28_V.ext E758).keep J819 nin0).keep J820 (ninS (own_ne g28_V.lt (Nat.le_of_eq z758.symm)) nin0))
        refine own_callS X820 hx hZ hG hown (ow hw 12 rfl) (ow hw 13 rfl) (ow hw 2 rfl) (ow hw 14 rfl) (by decide) 0 (own_findN l Z a0 hw b758 t_820 kt_820 [c585, c817] cd_820 nb_820 vs_820 cpt d0 d1 d2 t0 t1 t2 v0 v1 v2 kv0 kv1 kv2 vals kl h820 O820 r820_0 r820_1 r820_2 r820_3 r820_4 (Nat.le_of_ble_eq_true rfl) (own_allc hr_c585 (own_allc hr_c817 own_alln)) g0_S g1_hcpt g8_S f826 f827 f828 f829 f830 f831 f832 f833 f834 f835 f836 f837 f838 f839 f840 f841 f842 f843 f844 f845 (own_ne g13_E.lt (Nat.le_of_eq z758.symm)) (own_ne g19_E.lt (Nat.le_of_eq z758.symm)) (own_ne g25_E.lt (Nat.le_of_eq z758.symm)) (own_ne_len (fun q => by simp at q)) (own_ne_len (fun q => by simp at q)) (own_ne_len (fun q => by simp at q))) (by decide) (by decide) e820 (by rw [hml]; rfl) (lenOf own_pd13 rfl) (argsL := [(.ref b758)]) (rest := []) rfl rfl (Nat.le_of_eq rfl) (hb hby at_298) (by decide) (by decide) ?_
        intro T825 h825 v825 L825 X825 e825 q825
        obtain ⟨rfl, M825, J825⟩ := q825
        have N825 := Fr.app N820 M825
        have R825 := (CHr.keep J825 all0 R820.1)
        have C825 := C820.trans R825
        have K825 : Keep h0 h825 [] := K820.trans J825 all0
        have O825 : own_Old Z h825 := O820.keep J825 all0
        show G (T825.setTop (mkF m 301 #[oi i0, oi i1, oi i2, oi i3, oi i4, oi i5, oi 2, oa d2, oi c585, oi 6, .unset, .unset, .unset, .unset] [.null]))
        refine hG _ _ (fun t_ k_ => XS.ifnonnullNo X825.here hx rfl (hb hby at_301) rfl k_) ?_
        refine hG _ _ (fun t_ k_ => XS.iconst X825.here hx rfl (hb hby at_304) k_) ?_
        refine hG _ _ (fun t_ k_ => XS.goto X825.here hx rfl (pc0 := 305) (pc' := 309) rfl (hb hby at_305) (by decide) (by decide) k_) ?_
        show G (T825.setTop (mkF m 309 #[oi i0, oi i1, oi i2, oi i3, oi i4, oi i5, oi 2, oa d2, oi c585, oi 6, .unset, .unset, .unset, .unset] [(.int 1)]))
        exact own_retNW hR hret (by simp) X825 hx (hb hby at_309) e825 SI0 (Nat.le_trans (Nat.le_trans (Nat.le_trans (Nat.le_trans (Nat.le_refl _) R758.2.1) R819.2.1) R820.2.1) R825.2.1) hZ C825 (by decide) (by decide) ⟨rfl, N825, K825⟩
      · skip
        show G (T758.setTop (mkF m 281 #[oi i0, oi i1, oi i2, oi i3, oi i4, oi i5, oi 2, oa d2, oi c585, oi 6, .unset, .unset, .unset, .unset] [(.int 3), (.ref b758), (.ref b758)]))
        refine hG _ _ (fun t_ k_ => XS.iload X758.here hx rfl (hb hby at_281) rfl k_) ?_
        refine hG _ _ (fun t_ k_ => XS.iload X758.here hx rfl (hb hby at_283) rfl k_) ?_
        refine hG _ _ (fun t_ k_ => XS.i2c X758.here hx rfl (hb hby at_285) rfl k_) ?_
        show G (T758.setTop (mkF m 286 #[oi i0, oi i1, oi i2, oi i3, oi i4, oi i5, oi 2, oa d2, oi c585, oi 6, .unset, .unset, .unset, .unset] [(.int (i5.toUInt32.toUInt16.toUInt32.toInt32)), (.int c585), (.int 3), (.ref b758), (.ref b758)]))
        generalize hn_c846 : (i5.toUInt32.toUInt16.toUInt32.toInt32) = c846
        have hr_c846 := own_i2c16 hn_c846
        show G (T758.setTop (mkF m 286 #[oi i0, oi i1, oi i2, oi i3, oi i4, oi i5, oi 2, oa d2, oi c585, oi 6, .unset, .unset, .unset, .unset] [(.int c846), (.int c585), (.int 3), (.ref b758), (.ref b758)]))
        refine hG _ _ (fun t_ k_ => XS.iload X758.here hx rfl (hb hby at_286) rfl k_) ?_
        refine hG _ _ (fun t_ k_ => XS.bipush X758.here hx rfl (hb hby at_288) k_) ?_
        refine hG _ _ (fun t_ k_ => XS.iushr X758.here hx rfl (hb hby at_290) rfl k_) ?_
        refine hG _ _ (fun t_ k_ => XS.i2c X758.here hx rfl (hb hby at_291) rfl k_) ?_
        show G (T758.setTop (mkF m 292 #[oi i0, oi i1, oi i2, oi i3, oi i4, oi i5, oi 2, oa d2, oi c585, oi 6, .unset, .unset, .unset, .unset] [(.int (((i5.toUInt32 >>> ((16 : Int32) &&& 31).toUInt32).toInt32).toUInt32.toUInt16.toUInt32.toInt32)), (.int c846), (.int c585), (.int 3), (.ref b758), (.ref b758)]))
        generalize hn_c847 : (((i5.toUInt32 >>> ((16 : Int32) &&& 31).toUInt32).toInt32).toUInt32.toUInt16.toUInt32.toInt32) = c847
        have hr_c847 := own_i2c16 hn_c847
        show G (T758.setTop (mkF m 292 #[oi i0, oi i1, oi i2, oi i3, oi i4, oi i5, oi 2, oa d2, oi c585, oi 6, .unset, .unset, .unset, .unset] [(.int c847), (.int c846), (.int c585), (.int 3), (.ref b758), (.ref b758)]))
        refine own_callS X758 hx hZ hG hown (ow hw 87 rfl) (ow hw 88 rfl) (ow hw 43 rfl) (ow hw 89 rfl) (by decide) 2 (own_mk_shortChars_3 l Z a0 hw c585 c846 c847 h758 O758 hr_c585 hr_c846 hr_c847) (by decide) (by decide) e758 (by rw [hml]; rfl) (lenOf own_pd16 rfl) (argsL := [(.int 3), (.int c585), (.int c846), (.int c847)]) (rest := [(.ref b758), (.ref b758)]) rfl rfl (Nat.le_of_eq rfl) (hb hby at_292) (by decide) (by decide) ?_
        intro T848 h848 v848 L848 X848 e848 q848
        obtain ⟨u_848, ku_848, rfl, M848, J848, y848_0, r848_0⟩ := q848
        have N848 := Fr.app N0 M848
        have R848 := (CHr.keep J848 all0 R758.1)
        have C848 := C758.trans R848
        have K848 : Keep h0 h848 [] := K758.trans J848 all0
        have O848 : own_Old Z h848 := O758.keep J848 all0
        show G (T848.setTop (mkF m 295 #[oi i0, oi i1, oi i2, oi i3, oi i4, oi i5, oi 2, oa d2, oi c585, oi 6, .unset, .unset, .unset, .unset] [(.ref u_848), (.ref b758), (.ref b758)]))
        have f850 := (A758.keep J848)
        have f851 := ((D758 (Or.inr (ow hw 69 rfl)) (ty := .byte) (by decide)).keep J848 nin0)
        have f852 := ((D758 (Or.inr (ow hw 71 rfl)) (ty := (.array .byte)) (by decide)).keep J848 nin0)
        refine own_callI X848 hx hZ hG hown rfl (ow hw 46 rfl) (ow hw 47 rfl) (ow hw 36 rfl) (ow hw 48 rfl) (by decide) 1 (own_gstr1 l Z a0 hw b758 u_848 ku_848 [c585, c846, c847] cpt (.int 0) .null h848 O848 f850 f851 f852 (own_ge O0 (Nat.le_of_eq z758.symm)) r848_0 (Nat.le_of_ble_eq_true rfl) (Nat.le_of_ble_eq_true rfl) (own_allc hr_c585 (own_allc hr_c846 (own_allc hr_c847 own_alln))) g0_S g1_hcpt g2_S g3_S g4_S) (by decide) (by decide) e848 (by rw [hml]; rfl) (lenOf own_pd8 rfl) (argsL := [(.ref u_848)]) (rest := [(.ref b758)]) rfl rfl (Nat.le_of_eq rfl) (hb hby at_295) (by decide) (by decide) ?_
        intro T849 h849 v849 L849 X849 e849 q849
        obtain ⟨t_849, kt_849, cd_849, nb_849, vs_849, rfl, M849, J849, y849_0, r849_0, r849_1, r849_2, r849_3, r849_4⟩ := q849
        have N849 := Fr.app N848 M849
        have sf853 : Safe Z consts_1 _ h848 b758 := (own_safeStr hZ.alike f850 f852)
        have R849 := (CHr.keep J849 (allS sf853 all0) R848.1)
        have C849 := C848.trans R849
        have K849 : Keep h0 h849 [] := K848.trans J849 (allS (Or.inr (Nat.le_trans (Keep.refl h0 []).1 (Nat.le_of_eq z758.symm))) all0)
        have O849 : own_Old Z h849 := O848.keep J849 (allS (own_ge O0 (Nat.le_of_eq z758.symm)) all0)
        show G (T849.setTop (mkF m 298 #[oi i0, oi i1, oi i2, oi i3, oi i4, oi i5, oi 2, oa d2, oi c585, oi 6, .unset, .unset, .unset, .unset] [(.ref b758)]))
        have f855 := (((g9_E.ext E758).keep J848).keep J849)
        have f856 := (((g10_V.ext E758).keep J848 nin0).keep J849 (ninS (own_ne g9_E.lt (Nat.le_of_eq z758.symm)) nin0))
        have f857 := (((g11_E.ext E758).keep J848).keep J849)
        have f858 := (((g12_F.ext E758).keep J848 nin0).keep J849 (ninS (own_ne g11_E.lt (Nat.le_of_eq z758.symm)) nin0))
        have f859 := (((g13_E.ext E758).keep J848).keep J849)
        have f860 := (((g14_F.ext E758).keep J848 nin0).keep J849 (ninS (own_ne g13_E.lt (Nat.le_of_eq z758.symm)) nin0))
        have f861 := (((g15_F.ext E758).keep J848 nin0).keep J849 (ninS (own_ne g13_E.lt (Nat.le_of_eq z758.symm)) nin0))
        have f862 := (((g16_V.ext E758).keep J848 nin0).keep J849 (ninS (own_ne g16_V.lt (Nat.le_of_eq z758.symm)) nin0))
        have f863 := (((g17_E.ext E758).keep J848).keep J849)
        have f864 := (((g18_F.ext E758).keep J848 nin0).keep J849 (ninS (own_ne g17_E.lt (Nat.le_of_eq z758.symm)) nin0))
        have f865 := (((g19_E.ext E758).keep J848).keep J849)
        have f866 := (((g20_F.ext E758).keep J848 nin0).keep J849 (ninS (own_ne g19_E.lt (Nat.le_of_eq z758.symm)) nin0))
        have f867 := (((g21_F.ext E758).keep J848 nin0).keep J849 (ninS (own_ne g19_E.lt (Nat.le_of_eq z758.symm)) nin0))
        have f868 := (((g22_V.ext E758).keep J848 nin0).keep J849 (ninS (own_ne g22_V.lt (Nat.le_of_eq z758.symm)) nin0))
        have f869 := (((g23_E.ext E758).keep J848).keep J849)
        have f870 := (((g24_F.ext E758).keep J848 nin0).keep J849 (ninS (own_ne g23_E.lt (Nat.le_of_eq z758.symm)) nin0))
        have f871 := (((g25_E.ext E758).keep J848).keep J849)
        have f872 := (((g26_F.ext E758).keep J848 nin0).keep J849 (ninS (own_ne g25_E.lt (Nat.le_of_eq z758.symm)) nin0))
        have f873 := (((g27_F.ext E758).keep J848 nin0).keep J849 (ninS (own_ne g25_E.lt (Nat.le_of_eq z758.symm)) nin0))
        have f874 := (((g28_V.ext E758).keep J848 nin0).keep J849 (ninS (own_ne g28_V.lt (Nat.le_of_eq z758.symm)) nin0))
        refine own_callS X849 hx hZ hG hown (ow hw 12 rfl) (ow hw 13 rfl) (ow hw 2 rfl) (ow hw 14 rfl) (by decide) 0 (own_findN l Z a0 hw b758 t_849 kt_849 [c585, c846, c847] cd_849 nb_849 vs_849 cpt d0 d1 d2 t0 t1 t2 v0 v1 v2 kv0 kv1 kv2 vals kl h849 O849 r849_0 r849_1 r849_2 r849_3 r849_4 (Nat.le_of_ble_eq_true rfl) (own_allc hr_c585 (own_allc hr_c846 (own_allc hr_c847 own_alln))) g0_S g1_hcpt g8_S f855 f856 f857 f858 f859 f860 f861 f862 f863 f864 f865 f866 f867 f868 f869 f870 f871 f872 f873 f874 (own_ne g13_E.lt (Nat.le_of_eq z758.symm)) (own_ne g19_E.lt (Nat.le_of_eq z758.symm)) (own_ne g25_E.lt (Nat.le_of_eq z758.symm)) (own_ne_len (fun q => by simp at q)) (own_ne_len (fun q => by simp at q)) (own_ne_len (fun q => by simp at q))) (by decide) (by decide) e849 (by rw [hml]; rfl) (lenOf own_pd13 rfl) (argsL := [(.ref b758)]) (rest := []) rfl rfl (Nat.le_of_eq rfl) (hb hby at_298) (by decide) (by decide) ?_
        intro T854 h854 v854 L854 X854 e854 q854
        obtain ⟨rfl, M854, J854⟩ := q854
        have N854 := Fr.app N849 M854
        have R854 := (CHr.keep J854 all0 R849.1)
        have C854 := C849.trans R854
        have K854 : Keep h0 h854 [] := K849.trans J854 all0
        have O854 : own_Old Z h854 := O849.keep J854 all0
        show G (T854.setTop (mkF m 301 #[oi i0, oi i1, oi i2, oi i3, oi i4, oi i5, oi 2, oa d2, oi c585, oi 6, .unset, .unset, .unset, .unset] [.null]))
        refine hG _ _ (fun t_ k_ => XS.ifnonnullNo X854.here hx rfl (hb hby at_301) rfl k_) ?_
        refine hG _ _ (fun t_ k_ => XS.iconst X854.here hx rfl (hb hby at_304) k_) ?_
        refine hG _ _ (fun t_ k_ => XS.goto X854.here hx rfl (pc0 := 305) (pc' := 309) rfl (hb hby at_305) (by decide) (by decide) k_) ?_
        show G (T854.setTop (mkF m 309 #[oi i0, oi i1, oi i2, oi i3, oi i4, oi i5, oi 2, oa d2, oi c585, oi 6, .unset, .unset, .unset, .unset] [(.int 1)]))
        exact own_retNW hR hret (by simp) X854 hx (hb hby at_309) e854 SI0 (Nat.le_trans (Nat.le_trans (Nat.le_trans (Nat.le_trans (Nat.le_refl _) R758.2.1) R848.2.1) R849.2.1) R854.2.1) hZ C854 (by decide) (by decide) ⟨rfl, N854, K854⟩
theorem own_comes {Post : Tables → Env → Array Value → State → Outcome → State → Prop} (hpost : ∀ tb e args s v u, (limb_1_1.after args s (.returned v) u = true ∧ limb_1_2.after args s (.returned v) u = true ∧ True) → ReturnedEndW s (.returned v) u (Jvm.fieldLocs frame_1_writes args s ++ Jvm.arrayLocs frame_1_arrays args s ++ Jvm.staticLocs frame_1_statics s) 24 1280 → Post tb e args s (.returned v) u) :
    ArmFor flags0 classFile x code maxLocals ret World_1 tables_1 room_1 Calls_1 rest_1 Pre_1 Post := by
  intro l hfl _ _ p e ha hc hk s m args below hf hA hF happ hP
  obtain ⟨hcalls, hrest, hpre⟩ := hP
  obtain ⟨-, -, -, hnamed, -, -, -, hat⟩ := (Spec.applies_iff hf).mp happ
  obtain ⟨hg, hn⟩ := and_e (Cond.before_iff.mp (show (Jvm.Cond.and given_1 narrow_1).before args s = true from hpre))
  obtain ⟨hcnt, hg⟩ := and_e hg
  obtain ⟨g0, hg⟩ := and_e hg
  obtain ⟨g1, hg⟩ := and_e hg
  obtain ⟨g2, hg⟩ := and_e hg
  obtain ⟨g3, hg⟩ := and_e hg
  obtain ⟨g4, hg⟩ := and_e hg
  have g5 := hg
  obtain ⟨w0, w1, w2, w3, w4, w5, rfl⟩ : ∃ w0 w1 w2 w3 w4 w5 : Value, args = #[w0, w1, w2, w3, w4, w5] := by
    have hs : args.size = 6 := by simpa [Cond.value, given_1] using hcnt
    obtain ⟨L⟩ := args
    match L, hs with
    | [w0, w1, w2, w3, w4, w5], _ => exact ⟨w0, w1, w2, w3, w4, w5, rfl⟩
  have hw := fun d (hd : d ∈ tables_1) => atoms_spec (ws := Jvm.Cond.code x code maxLocals ret :: tables_1) hat d (List.mem_cons_of_mem _ hd)
  have hfit : Fit s := fun {y c} hc i hi => by
    obtain ⟨ha, rfl⟩ := Array.getElem?_eq_some_iff.mp hc
    have q := List.all_eq_true.mp ((Array.all_eq_true_iff_forall_mem.mp hF) _ (Array.getElem_mem ha)) i (List.mem_range.mpr hi)
    simpa [Array.getElem?_eq_getElem hi] using q
  obtain ⟨hsets, hown0⟩ := atoms_of _ (rest_1_c_eq ▸ (show rest_1_c.before _ s = true from hrest))
  have hr0 := Cond.before_iff.mp hown0
  obtain ⟨i0, ei0⟩ := is_v g0
  obtain rfl : w0 = (.int i0) := Option.some.inj ei0
  obtain ⟨i1, ei1⟩ := is_v g1
  obtain rfl : w1 = (.int i1) := Option.some.inj ei1
  obtain ⟨i2, ei2⟩ := is_v g2
  obtain rfl : w2 = (.int i2) := Option.some.inj ei2
  obtain ⟨i3, ei3⟩ := is_v g3
  obtain rfl : w3 = (.int i3) := Option.some.inj ei3
  obtain ⟨i4, ei4⟩ := is_v g4
  obtain rfl : w4 = (.int i4) := Option.some.inj ei4
  obtain ⟨i5, ei5⟩ := is_v g5
  obtain rfl : w5 = (.int i5) := Option.some.inj ei5
  obtain ⟨cpt, ecpt⟩ := is_v (Cond.before_iff.mp (hsets _ (List.mem_of_getElem? (i := 1) rfl)))
  have S_cpt : Sta s s.heap "java/lang/String" "COMPACT_STRINGS" "Z" (.int cpt) := Sta.start ecpt (Or.inl (hsets _ (List.mem_of_getElem? (i := 0) rfl)))
  have h_cpt : ¬ (cpt = (0 : Int32)) := gotF (Cond.eq_ints ecpt (Term.int_eval (0))) (not_v (Cond.before_iff.mp (hsets _ (List.mem_of_getElem? (i := 2) rfl))))
  have S_ad : Sta s s.heap "java/lang/StringUTF16" "$assertionsDisabled" "Z" (.int 1) := Sta.start (Cond.eq_int (hsets _ (List.mem_of_getElem? (i := 12) rfl)) rfl) (Or.inl (hsets _ (List.mem_of_getElem? (i := 11) rfl)))
  have S_hs : Sta s s.heap "java/lang/StringUTF16" "HI_BYTE_SHIFT" "I" (.int 0) := Sta.start (Cond.eq_int (hsets _ (List.mem_of_getElem? (i := 15) rfl)) rfl) (Or.inl (hsets _ (List.mem_of_getElem? (i := 14) rfl)))
  have S_ls : Sta s s.heap "java/lang/StringUTF16" "LO_BYTE_SHIFT" "I" (.int 8) := Sta.start (Cond.eq_int (hsets _ (List.mem_of_getElem? (i := 18) rfl)) rfl) (Or.inl (hsets _ (List.mem_of_getElem? (i := 17) rfl)))
  obtain ⟨c0, hn⟩ := and_e hn
  obtain ⟨c1, hn⟩ := and_e hn
  obtain ⟨c2, hn⟩ := and_e hn
  obtain ⟨c3, hn⟩ := and_e hn
  obtain ⟨c4, hn⟩ := and_e hn
  obtain ⟨c5, hn⟩ := and_e hn
  obtain ⟨c6, hn⟩ := and_e hn
  obtain ⟨c7, hn⟩ := and_e hn
  obtain ⟨c8, hn⟩ := and_e hn
  obtain ⟨c9, hn⟩ := and_e hn
  obtain ⟨c10, hn⟩ := and_e hn
  obtain ⟨c11, hn⟩ := and_e hn
  obtain ⟨c12, hn⟩ := and_e hn
  obtain ⟨c13, hn⟩ := and_e hn
  obtain ⟨c14, hn⟩ := and_e hn
  obtain ⟨c15, hn⟩ := and_e hn
  obtain ⟨c16, hn⟩ := and_e hn
  obtain ⟨c17, hn⟩ := and_e hn
  obtain ⟨c18, hn⟩ := and_e hn
  obtain ⟨c19, hn⟩ := and_e hn
  obtain ⟨c20, hn⟩ := and_e hn
  obtain ⟨c21, hn⟩ := and_e hn
  obtain ⟨c22, hn⟩ := and_e hn
  obtain ⟨c23, hn⟩ := and_e hn
  obtain ⟨c24, hn⟩ := and_e hn
  obtain ⟨c25, hn⟩ := and_e hn
  obtain ⟨c26, hn⟩ := and_e hn
  obtain ⟨c27, hn⟩ := and_e hn
  obtain ⟨c28, hn⟩ := and_e hn
  obtain ⟨c29, hn⟩ := and_e hn
  obtain ⟨c30, hn⟩ := and_e hn
  obtain ⟨c31, hn⟩ := and_e hn
  obtain ⟨c32, hn⟩ := and_e hn
  obtain ⟨c33, hn⟩ := and_e hn
  obtain ⟨c34, hn⟩ := and_e hn
  obtain ⟨c35, hn⟩ := and_e hn
  obtain ⟨c36, hn⟩ := and_e hn
  obtain ⟨c37, hn⟩ := and_e hn
  obtain ⟨c38, hn⟩ := and_e hn
  obtain ⟨c39, hn⟩ := and_e hn
  obtain ⟨c40, hn⟩ := and_e hn
  obtain ⟨c41, hn⟩ := and_e hn
  obtain ⟨c42, hn⟩ := and_e hn
  obtain ⟨c43, hn⟩ := and_e hn
  obtain ⟨c44, hn⟩ := and_e hn
  obtain ⟨c45, hn⟩ := and_e hn
  obtain ⟨c46, hn⟩ := and_e hn
  obtain ⟨c47, hn⟩ := and_e hn
  obtain ⟨c48, hn⟩ := and_e hn
  have c49 := hn
  obtain ⟨d0, ed0⟩ := exa_v c0
  have Ed0 := Exa.start ed0 c0
  have Sd0 : Sta s s.heap "com/example/handlewright/handlewright/DomainStatus" "CONNECT" "Lcom/example/handlewright/handlewright/DomainStatus;" (.ref d0) := Sta.start ed0 (Or.inr ⟨(ow hw 2 rfl), (ow hw 3 rfl)⟩)
  obtain ⟨t0, et0⟩ := exa_v c1
  have Et0 := Exa.start et0 c1
  have Ft0 := own_fldS ed0 et0
  have Fc0 := own_fldS et0 (own_eqI c10 (Term.int_eval (0)))
  obtain ⟨v0, ev0⟩ := arr_v c11
  have Fv0 := own_fldS et0 ev0
  obtain ⟨cl0, Av0⟩ := Arr.start ev0 c11
  have Vv0 : Arv s s.heap v0 cl0.cls .byte (Int32.ofNat [(99 : Int32), (111 : Int32), (110 : Int32), (110 : Int32), (101 : Int32), (99 : Int32), (116 : Int32)].length) ([(99 : Int32), (111 : Int32), (110 : Int32), (110 : Int32), (101 : Int32), (99 : Int32), (116 : Int32)].map fun c => Value.int c.toInt8.toInt32) (.int 0) := own_listArv hfit ev0 Av0 (own_eqI c12 (Term.int_eval (7))) (by decide) rfl (by decide) (fun i hi => by match i, hi with | 0, _ => exact own_eqI c24 (Term.int_eval (99)) | 1, _ => exact own_eqI c25 (Term.int_eval (111)) | 2, _ => exact own_eqI c26 (Term.int_eval (110)) | 3, _ => exact own_eqI c27 (Term.int_eval (110)) | 4, _ => exact own_eqI c28 (Term.int_eval (101)) | 5, _ => exact own_eqI c29 (Term.int_eval (99)) | 6, _ => exact own_eqI c30 (Term.int_eval (116)))
  obtain ⟨d1, ed1⟩ := exa_v c6
  have Ed1 := Exa.start ed1 c6
  have Sd1 : Sta s s.heap "com/example/handlewright/handlewright/DomainStatus" "FAILED" "Lcom/example/handlewright/handlewright/DomainStatus;" (.ref d1) := Sta.start ed1 (Or.inr ⟨(ow hw 2 rfl), (ow hw 27 rfl)⟩)
  obtain ⟨t1, et1⟩ := exa_v c13
  have Et1 := Exa.start et1 c13
  have Ft1 := own_fldS ed1 et1
  have Fc1 := own_fldS et1 (own_eqI c14 (Term.int_eval (0)))
  obtain ⟨v1, ev1⟩ := arr_v c15
  have Fv1 := own_fldS et1 ev1
  obtain ⟨cl1, Av1⟩ := Arr.start ev1 c15
  have Vv1 : Arv s s.heap v1 cl1.cls .byte (Int32.ofNat [(102 : Int32), (97 : Int32), (105 : Int32), (108 : Int32), (101 : Int32), (100 : Int32)].length) ([(102 : Int32), (97 : Int32), (105 : Int32), (108 : Int32), (101 : Int32), (100 : Int32)].map fun c => Value.int c.toInt8.toInt32) (.int 0) := own_listArv hfit ev1 Av1 (own_eqI c16 (Term.int_eval (6))) (by decide) rfl (by decide) (fun i hi => by match i, hi with | 0, _ => exact own_eqI c31 (Term.int_eval (102)) | 1, _ => exact own_eqI c32 (Term.int_eval (97)) | 2, _ => exact own_eqI c33 (Term.int_eval (105)) | 3, _ => exact own_eqI c34 (Term.int_eval (108)) | 4, _ => exact own_eqI c35 (Term.int_eval (101)) | 5, _ => exact own_eqI c36 (Term.int_eval (100)))
  obtain ⟨d2, ed2⟩ := exa_v c8
  have Ed2 := Exa.start ed2 c8
  have Sd2 : Sta s s.heap "com/example/handlewright/handlewright/DomainStatus" "PENDING_CREATE" "Lcom/example/handlewright/handlewright/DomainStatus;" (.ref d2) := Sta.start ed2 (Or.inr ⟨(ow hw 2 rfl), (ow hw 28 rfl)⟩)
  obtain ⟨t2, et2⟩ := exa_v c17
  have Et2 := Exa.start et2 c17
  have Ft2 := own_fldS ed2 et2
  have Fc2 := own_fldS et2 (own_eqI c18 (Term.int_eval (0)))
  obtain ⟨v2, ev2⟩ := arr_v c19
  have Fv2 := own_fldS et2 ev2
  obtain ⟨cl2, Av2⟩ := Arr.start ev2 c19
  have Vv2 : Arv s s.heap v2 cl2.cls .byte (Int32.ofNat [(112 : Int32), (101 : Int32), (110 : Int32), (100 : Int32), (105 : Int32), (110 : Int32), (103 : Int32), (67 : Int32), (114 : Int32), (101 : Int32), (97 : Int32), (116 : Int32), (101 : Int32)].length) ([(112 : Int32), (101 : Int32), (110 : Int32), (100 : Int32), (105 : Int32), (110 : Int32), (103 : Int32), (67 : Int32), (114 : Int32), (101 : Int32), (97 : Int32), (116 : Int32), (101 : Int32)].map fun c => Value.int c.toInt8.toInt32) (.int 0) := own_listArv hfit ev2 Av2 (own_eqI c20 (Term.int_eval (13))) (by decide) rfl (by decide) (fun i hi => by match i, hi with | 0, _ => exact own_eqI c37 (Term.int_eval (112)) | 1, _ => exact own_eqI c38 (Term.int_eval (101)) | 2, _ => exact own_eqI c39 (Term.int_eval (110)) | 3, _ => exact own_eqI c40 (Term.int_eval (100)) | 4, _ => exact own_eqI c41 (Term.int_eval (105)) | 5, _ => exact own_eqI c42 (Term.int_eval (110)) | 6, _ => exact own_eqI c43 (Term.int_eval (103)) | 7, _ => exact own_eqI c44 (Term.int_eval (67)) | 8, _ => exact own_eqI c45 (Term.int_eval (114)) | 9, _ => exact own_eqI c46 (Term.int_eval (101)) | 10, _ => exact own_eqI c47 (Term.int_eval (97)) | 11, _ => exact own_eqI c48 (Term.int_eval (116)) | 12, _ => exact own_eqI c49 (Term.int_eval (101)))
  obtain ⟨vals, evl⟩ := arr_v c2
  have Evl := Exa.start evl c3
  have Svl : Sta s s.heap "com/example/handlewright/handlewright/DomainStatus" "$VALUES" "[Lcom/example/handlewright/handlewright/DomainStatus;" (.ref vals) := Sta.start evl (Or.inr ⟨(ow hw 2 rfl), (ow hw 19 rfl)⟩)
  obtain ⟨cll, All⟩ := Arr.start evl c2
  have Vll : Arv s s.heap vals cll.cls (.object "com/example/handlewright/handlewright/DomainStatus") (3 : Int32) [.ref d0, .ref d1, .ref d2] .null := own_listArv hfit evl All (own_eqI c4 (Term.int_eval (3))) (by decide) rfl (Nat.le_of_ble_eq_true rfl) (fun i hi => by match i, hi with | 0, _ => exact own_eqR c5 ed0 | 1, _ => exact own_eqR c7 ed1 | 2, _ => exact own_eqR c9 ed2)
  have n01 := own_neR c21 et0 et1
  have n02 := own_neR c22 et0 et2
  have n12 := own_neR c23 et1 et2
  have hEL : EW s _ consts_1 := (EW.cons (ow hw 81 rfl) (by decide) EW.nil)
  have H0 : CHv s consts_1 s.vm s.heap := CHv.start hEL (show ∀ p ∈ consts_1, Jvm.Lit.constHeld s p.1 p.2 from hcalls.1) (hsets _ (List.mem_of_getElem? (i := 2) rfl)) (ow hw 61 rfl) (ow hw 40 rfl)
  obtain ⟨n, o, h1, h2, h3, _, L, rfl, ⟨rfl, N, K⟩, hC, hq⟩ := own_law l s _ hw tables_1 hEL i0 i1 i2 i3 i4 i5 cpt d0 d1 d2 t0 t1 t2 v0 v1 v2 cl0.cls cl1.cls cl2.cls vals cll.cls s.heap (Old.start s) S_cpt h_cpt S_ad S_hs S_ls Sd0 Sd1 Sd2 Svl Evl Vll Ed0 Ft0 Et0 Fc0 Fv0 Vv0 Ed1 Ft1 Et1 Fc1 Fv1 Vv1 Ed2 Ft2 Et2 Fc2 Fv2 Vv2 n01 n02 n12 p e ha hc hk s m _ below hf ((Spec.applies_iff_loose hf).mp happ).1 ⟨rfl, State.Warmed39.refl s, rfl, H0⟩ trivial
  refine ⟨n, _, h1, h2, h3, hpost _ _ _ _ _ _ ⟨Cond.after_iff.mpr rfl, Cond.after_iff.mpr (eq_i res_at (Term.int_eval (1)) rfl), trivial⟩ ⟨hq.1, hq.2.1, hq.2.2.1, (hq.2.2.2.sift fun y hy => Or.inr (N y hy)).mono (by decide) (by decide)⟩⟩
theorem main_1_1 : Claimed_1_1 := own_comes fun _ _ _ _ _ _ h hF => ⟨h.1, hF⟩
theorem main_1_2 : Claimed_1_2 := own_comes fun _ _ _ _ _ _ h hF => ⟨h.2.1, hF⟩
end Jvm.Pilot.@@N@@
namespace Jvm.Pilot.@@N@@
open Jvm Jvm.ClassFile Sem Op Lib Jvm.Free Jvm.Stand Jvm.Pilot.@@N@@.Jvm.D
/-! MADE BY PROGRAM (witnessworld.py) out of the Statement's table words and the real class files: 22 classes; the members and pool entries that the words name. The judged class is class 1, her method 1. -/
namespace start1
open Jvm.ClassFile
def u (s : String) : CpInfo := .utf8 (stringToUtf16 s)
/-- a pool by its gaps: so many unusable entries, then the entry; so many at the end -/
def gap : Nat → List CpInfo → List CpInfo
  | 0, r => r
  | n + 1, r => .unusable :: gap n r
def poolList (es : List (Nat × CpInfo)) (last : Nat) : List CpInfo := es.foldr (fun e r => gap e.1 (e.2 :: r)) (gap last [])
def pool (es : List (Nat × CpInfo)) (last : Nat) : Array CpInfo := ⟨poolList es last⟩
def fileOf (pool : Array CpInfo) (this : Nat) (attrs : Array Attribute := #[]) (ms : Array MethodInfo := #[]) (fl : Nat := 33) (sup : Nat := 0) (ifs : Array Nat := #[]) (fds : Array FieldInfo := #[]) : ClassFile where
  minorVersion := 0
  majorVersion := 65
  constantPool := pool
  accessFlags := fl
  thisClass := this
  superClass := sup
  interfaces := ifs
  fields := fds
  methods := ms
  attributes := attrs
def plain (name : String) (sup : Option ClassId) : Class where
  name := name
  kind := .ordinary
  loader := none
  accessFlags := 33
  super := sup
  interfaces := #[]
  cf := none
  fields := #[]
  methods := #[]
  instanceTypes := #[]
  staticTypes := #[]
  resolved := #[]
  callSites := []
  init := .initialized
  statics := none
  mirror := none

def pool0 : Array CpInfo := pool [(5, u "<init>"), (0, u "()V"), (1, .class_ 10), (1, u "java/lang/Object"), (85, u "clone"), (0, u "()Ljava/lang/Object;")] 26

def k0c0 : Code := { maxStack := 0, maxLocals := 1, code := object_method_1_code, exceptionTable := #[], attributes := #[] }
def k0m0 : Method := { name := "<init>", desc := "()V", sig := { parameters := [], returnType := none }, accessFlags := 1, code := some k0c0 }
def k0m1 : Method := { name := "clone", desc := "()Ljava/lang/Object;", sig := { parameters := [], returnType := some (.object "java/lang/Object") }, accessFlags := 260, code := none }
/-- java/lang/Object -/
def k0 : Class := { plain "java/lang/Object" none with
  accessFlags := 33
  interfaces := #[]
  cf := some (fileOf pool0 8 #[] #[{ accessFlags := 1, nameIndex := 5, descriptorIndex := 6, attributes := #[] }, { accessFlags := 260, nameIndex := 96, descriptorIndex := 97, attributes := #[] }] 33 0 #[] #[])
  fields := #[]
  methods := #[k0m0, k0m1]
  instanceTypes := #[]
  staticTypes := #[]
  resolved := Array.replicate 124 none
  statics := none }

def pool1 : Array CpInfo := pool [(2, .class_ 4), (1, u "java/lang/Object"), (0, u "<init>"), (0, u "()V"), (0, .integer 2147483647), (0, .fieldref 9 10), (0, .class_ 11), (0, .nameAndType 12 13), (0, u "com/example/handlewright/handlewright/DomainStatus"), (0, u "CONNECT"), (0, u "Lcom/example/handlewright/handlewright/DomainStatus;"), (0, .fieldref 9 15), (0, .nameAndType 16 13), (0, u "FAILED"), (0, .fieldref 9 18), (0, .nameAndType 19 13), (0, u "PENDING_CREATE"), (0, .integer 65535), (0, .methodref 9 22), (0, .nameAndType 23 24), (0, u "text"), (0, u "()Ljava/lang/String;"), (0, .methodref 9 26), (0, .nameAndType 27 28), (0, u "find"), (0, u "(Ljava/lang/String;)Lcom/example/handlewright/handlewright/DomainStatus;"), (0, .class_ 30), (0, u "java/lang/String"), (0, .methodref 29 32), (0, .nameAndType 5 33), (0, u "([C)V"), (0, .methodref 35 36), (0, .class_ 37), (0, .nameAndType 38 39), (0, u "com/example/handlewright/handlewright/DomainStatusFindPinLaw"), (0, u "lit"), (0, u "(I)[C"), (0, .methodref 35 41), (0, .nameAndType 42 43), (0, u "ext"), (0, u "(IC)[C"), (0, .methodref 35 45), (0, .nameAndType 46 43), (0, u "pre"), (0, .methodref 35 48), (0, .nameAndType 49 39), (0, u "cut"), (0, .methodref 35 51), (0, .nameAndType 52 53), (0, u "shortChars"), (0, u "(ICCC)[C"), (2, u "law"), (0, u "(IIIIII)Z")] 5

def k1m0 : Method := { name := "<init>", desc := "()V", sig := { parameters := [], returnType := none }, accessFlags := 2, code := none }
def k1c1 : Code := { maxStack := 7, maxLocals := 14, code := code, exceptionTable := #[], attributes := #[] }
def k1m1 : Method := { name := "law", desc := "(IIIIII)Z", sig := { parameters := [.int, .int, .int, .int, .int, .int], returnType := some .boolean }, accessFlags := 9, code := some k1c1 }
def k1c2 : Code := { maxStack := 4, maxLocals := 1, code := method_3_code, exceptionTable := #[], attributes := #[] }
def k1m2 : Method := { name := "lit", desc := "(I)[C", sig := { parameters := [.int], returnType := some (.array .char) }, accessFlags := 10, code := some k1c2 }
def k1c3 : Code := { maxStack := 4, maxLocals := 2, code := method_4_code, exceptionTable := #[], attributes := #[] }
def k1m3 : Method := { name := "ext", desc := "(IC)[C", sig := { parameters := [.int, .char], returnType := some (.array .char) }, accessFlags := 10, code := some k1c3 }
def k1c4 : Code := { maxStack := 4, maxLocals := 2, code := method_5_code, exceptionTable := #[], attributes := #[] }
def k1m4 : Method := { name := "pre", desc := "(IC)[C", sig := { parameters := [.int, .char], returnType := some (.array .char) }, accessFlags := 10, code := some k1c4 }
def k1c5 : Code := { maxStack := 4, maxLocals := 1, code := method_6_code, exceptionTable := #[], attributes := #[] }
def k1m5 : Method := { name := "cut", desc := "(I)[C", sig := { parameters := [.int], returnType := some (.array .char) }, accessFlags := 10, code := some k1c5 }
def k1c6 : Code := { maxStack := 4, maxLocals := 4, code := method_7_code, exceptionTable := #[], attributes := #[] }
def k1m6 : Method := { name := "shortChars", desc := "(ICCC)[C", sig := { parameters := [.int, .char, .char, .char], returnType := some (.array .char) }, accessFlags := 10, code := some k1c6 }
/-- com/example/handlewright/handlewright/DomainStatusFindPinLaw -/
def k1 : Class := { plain "com/example/handlewright/handlewright/DomainStatusFindPinLaw" (some 0) with
  accessFlags := 49
  interfaces := #[]
  cf := some (fileOf pool1 35 #[] #[{ accessFlags := 2, nameIndex := 5, descriptorIndex := 6, attributes := #[] }, { accessFlags := 9, nameIndex := 56, descriptorIndex := 57, attributes := #[] }, { accessFlags := 10, nameIndex := 38, descriptorIndex := 39, attributes := #[] }, { accessFlags := 10, nameIndex := 42, descriptorIndex := 43, attributes := #[] }, { accessFlags := 10, nameIndex := 46, descriptorIndex := 43, attributes := #[] }, { accessFlags := 10, nameIndex := 49, descriptorIndex := 39, attributes := #[] }, { accessFlags := 10, nameIndex := 52, descriptorIndex := 53, attributes := #[] }] 49 2 #[] #[])
  fields := #[]
  methods := #[k1m0, k1m1, k1m2, k1m3, k1m4, k1m5, k1m6]
  instanceTypes := #[]
  staticTypes := #[]
  resolved := Array.replicate 63 none
  statics := none }

def pool2 : Array CpInfo := pool [(1, .class_ 2), (0, u "java/lang/constant/Constable"), (0, .class_ 4), (0, u "java/lang/Object")] 6

/-- java/lang/constant/Constable -/
def k2 : Class := { plain "java/lang/constant/Constable" (some 0) with
  accessFlags := 1537
  interfaces := #[]
  cf := some (fileOf pool2 1 #[] #[] 1537 3 #[] #[])
  fields := #[]
  methods := #[]
  instanceTypes := #[]
  staticTypes := #[]
  resolved := Array.replicate 11 none
  statics := none }

def pool3 : Array CpInfo := pool [(1, .class_ 2), (0, u "java/lang/Comparable"), (0, .class_ 4), (0, u "java/lang/Object")] 7

/-- java/lang/Comparable -/
def k3 : Class := { plain "java/lang/Comparable" (some 0) with
  accessFlags := 1537
  interfaces := #[]
  cf := some (fileOf pool3 1 #[] #[] 1537 3 #[] #[])
  fields := #[]
  methods := #[]
  instanceTypes := #[]
  staticTypes := #[]
  resolved := Array.replicate 12 none
  statics := none }

def pool4 : Array CpInfo := pool [(1, .class_ 2), (0, u "java/io/Serializable"), (0, .class_ 4), (0, u "java/lang/Object")] 2

/-- java/io/Serializable -/
def k4 : Class := { plain "java/io/Serializable" (some 0) with
  accessFlags := 1537
  interfaces := #[]
  cf := some (fileOf pool4 1 #[] #[] 1537 3 #[] #[])
  fields := #[]
  methods := #[]
  instanceTypes := #[]
  staticTypes := #[]
  resolved := Array.replicate 7 none
  statics := none }

def pool5 : Array CpInfo := pool [(2, .class_ 4), (1, u "java/lang/Enum"), (0, u "name"), (0, u "Ljava/lang/String;"), (2, u "ordinal"), (0, u "I"), (1, .class_ 14), (1, u "java/lang/Object"), (4, u "hash"), (86, .class_ 108), (1, u "java/lang/Enum$EnumDesc"), (2, .class_ 112), (0, u "java/lang/constant/Constable"), (0, .class_ 114), (0, u "java/lang/Comparable"), (0, .class_ 116), (0, u "java/io/Serializable")] 87

/-- java/lang/Enum -/
def k5 : Class := { plain "java/lang/Enum" (some 0) with
  accessFlags := 1057
  interfaces := #[2, 3, 4]
  cf := some (fileOf pool5 2 #[.nestMembers #[106]] #[] 1057 12 #[111, 113, 115] #[{ accessFlags := 18, nameIndex := 5, descriptorIndex := 6, attributes := #[] }, { accessFlags := 18, nameIndex := 9, descriptorIndex := 10, attributes := #[] }, { accessFlags := 2, nameIndex := 19, descriptorIndex := 10, attributes := #[] }])
  fields := #[{ name := "name", type := (.object "java/lang/String"), accessFlags := 18, slot := 0, constantValue := 0 }, { name := "ordinal", type := .int, accessFlags := 18, slot := 1, constantValue := 0 }, { name := "hash", type := .int, accessFlags := 2, slot := 2, constantValue := 0 }]
  methods := #[]
  instanceTypes := #[(.object "java/lang/String"), .int, .int]
  staticTypes := #[]
  resolved := Array.replicate 204 none
  statics := none }

def pool6 : Array CpInfo := pool [(1, .class_ 2), (0, u "com/example/handlewright/handlewright/DomainStatus"), (2, u "CONNECT"), (0, u "Lcom/example/handlewright/handlewright/DomainStatus;"), (2, u "FAILED"), (2, u "PENDING_CREATE"), (0, .fieldref 1 14), (0, .nameAndType 15 16), (0, u "$VALUES"), (0, u "[Lcom/example/handlewright/handlewright/DomainStatus;"), (0, .methodref 18 19), (0, .class_ 16), (0, .nameAndType 20 21), (0, u "clone"), (0, u "()Ljava/lang/Object;"), (1, .class_ 25), (1, u "java/lang/Enum"), (6, .fieldref 1 33), (0, .nameAndType 34 35), (0, u "text"), (0, u "Ljava/lang/String;"), (0, .methodref 1 37), (0, .nameAndType 38 39), (0, u "values"), (0, u "()[Lcom/example/handlewright/handlewright/DomainStatus;"), (0, .methodref 41 42), (0, .class_ 43), (0, .nameAndType 44 45), (0, u "java/lang/String"), (0, u "equals"), (0, u "(Ljava/lang/Object;)Z"), (17, u "(Ljava/lang/String;)Lcom/example/handlewright/handlewright/DomainStatus;"), (3, u "()Ljava/lang/String;"), (0, u "find")] 6

def k6c0 : Code := { maxStack := 1, maxLocals := 0, code := prog_8_method_1_code, exceptionTable := #[], attributes := #[] }
def k6m0 : Method := { name := "values", desc := "()[Lcom/example/handlewright/handlewright/DomainStatus;", sig := { parameters := [], returnType := some (.array (.object "com/example/handlewright/handlewright/DomainStatus")) }, accessFlags := 9, code := some k6c0 }
def k6c1 : Code := { maxStack := 1, maxLocals := 1, code := prog_8_method_4_code, exceptionTable := #[], attributes := #[] }
def k6m1 : Method := { name := "text", desc := "()Ljava/lang/String;", sig := { parameters := [], returnType := some (.object "java/lang/String") }, accessFlags := 0, code := some k6c1 }
def k6c2 : Code := { maxStack := 2, maxLocals := 5, code := prog_8_method_5_code, exceptionTable := #[], attributes := #[] }
def k6m2 : Method := { name := "find", desc := "(Ljava/lang/String;)Lcom/example/handlewright/handlewright/DomainStatus;", sig := { parameters := [(.object "java/lang/String")], returnType := some (.object "com/example/handlewright/handlewright/DomainStatus") }, accessFlags := 8, code := some k6c2 }
/-- com/example/handlewright/handlewright/DomainStatus -/
def k6 : Class := { plain "com/example/handlewright/handlewright/DomainStatus" (some 5) with
  accessFlags := 16432
  interfaces := #[]
  cf := some (fileOf pool6 1 #[] #[{ accessFlags := 9, nameIndex := 38, descriptorIndex := 39, attributes := #[] }, { accessFlags := 0, nameIndex := 34, descriptorIndex := 67, attributes := #[] }, { accessFlags := 8, nameIndex := 68, descriptorIndex := 63, attributes := #[] }] 16432 23 #[] #[{ accessFlags := 16409, nameIndex := 5, descriptorIndex := 6, attributes := #[] }, { accessFlags := 16409, nameIndex := 9, descriptorIndex := 6, attributes := #[] }, { accessFlags := 16409, nameIndex := 12, descriptorIndex := 6, attributes := #[] }, { accessFlags := 18, nameIndex := 34, descriptorIndex := 35, attributes := #[] }, { accessFlags := 4122, nameIndex := 15, descriptorIndex := 16, attributes := #[] }])
  fields := #[{ name := "CONNECT", type := (.object "com/example/handlewright/handlewright/DomainStatus"), accessFlags := 16409, slot := 0, constantValue := 0 }, { name := "FAILED", type := (.object "com/example/handlewright/handlewright/DomainStatus"), accessFlags := 16409, slot := 1, constantValue := 0 }, { name := "PENDING_CREATE", type := (.object "com/example/handlewright/handlewright/DomainStatus"), accessFlags := 16409, slot := 2, constantValue := 0 }, { name := "text", type := (.object "java/lang/String"), accessFlags := 18, slot := 3, constantValue := 0 }, { name := "$VALUES", type := (.array (.object "com/example/handlewright/handlewright/DomainStatus")), accessFlags := 4122, slot := 3, constantValue := 0 }]
  methods := #[k6m0, k6m1, k6m2]
  instanceTypes := #[(.object "java/lang/String"), .int, .int, (.object "java/lang/String")]
  staticTypes := #[(.object "com/example/handlewright/handlewright/DomainStatus"), (.object "com/example/handlewright/handlewright/DomainStatus"), (.object "com/example/handlewright/handlewright/DomainStatus"), (.array (.object "com/example/handlewright/handlewright/DomainStatus"))]
  resolved := Array.replicate 75 none
  statics := some 0 }

def pool7 : Array CpInfo := pool [(1, .class_ 2), (0, u "java/lang/Cloneable"), (0, .class_ 4), (0, u "java/lang/Object")] 2

/-- java/lang/Cloneable -/
def k7 : Class := { plain "java/lang/Cloneable" (some 0) with
  accessFlags := 1537
  interfaces := #[]
  cf := some (fileOf pool7 1 #[] #[] 1537 3 #[] #[])
  fields := #[]
  methods := #[]
  instanceTypes := #[]
  staticTypes := #[]
  resolved := Array.replicate 7 none
  statics := none }

def pool8 : Array CpInfo := pool [(2, .class_ 4), (1, u "java/lang/CharSequence"), (42, .class_ 48), (0, u "java/lang/CharSequence$1CodePointIterator"), (10, .class_ 60), (0, u "java/lang/CharSequence$1CharIterator"), (5, .class_ 67), (0, u "java/lang/Object")] 63

/-- java/lang/CharSequence -/
def k8 : Class := { plain "java/lang/CharSequence" (some 0) with
  accessFlags := 1537
  interfaces := #[]
  cf := some (fileOf pool8 2 #[.nestMembers #[47, 59]] #[] 1537 66 #[] #[])
  fields := #[]
  methods := #[]
  instanceTypes := #[]
  staticTypes := #[]
  resolved := Array.replicate 131 none
  statics := none }

def pool9 : Array CpInfo := pool [(1, .class_ 2), (0, u "java/lang/constant/ConstantDesc"), (0, .class_ 4), (0, u "java/lang/Object")] 32

/-- java/lang/constant/ConstantDesc -/
def k9 : Class := { plain "java/lang/constant/ConstantDesc" (some 0) with
  accessFlags := 1537
  interfaces := #[]
  cf := some (fileOf pool9 1 #[] #[] 1537 3 #[] #[])
  fields := #[]
  methods := #[]
  instanceTypes := #[]
  staticTypes := #[]
  resolved := Array.replicate 37 none
  statics := none }

def pool10 : Array CpInfo := pool [(1, .methodref 2 3), (0, .class_ 4), (0, .nameAndType 5 6), (0, u "java/lang/Object"), (0, u "<init>"), (0, u "()V"), (0, .string 8), (0, u ""), (0, .fieldref 10 11), (0, .class_ 12), (0, .nameAndType 13 14), (0, u "java/lang/String"), (0, u "value"), (0, u "[B"), (0, .fieldref 10 16), (0, .nameAndType 17 18), (0, u "coder"), (0, u "B"), (2, u "hash"), (0, u "I"), (2, u "hashIsZero"), (0, u "Z"), (0, .methodref 10 28), (0, .nameAndType 5 29), (0, u "([CIILjava/lang/Void;)V"), (8, .fieldref 10 39), (0, .nameAndType 40 26), (0, u "COMPACT_STRINGS"), (1, .class_ 44), (1, u "java/lang/StringUTF16"), (0, u "compress"), (1, .methodref 42 48), (0, .nameAndType 49 50), (0, u "coderFromArrayLen"), (0, u "([BI)B"), (56, .class_ 109), (1, u "java/lang/StringLatin1"), (67, .methodref 42 178), (0, .nameAndType 45 179), (0, u "([CII)[B"), (361, .methodref 107 542), (0, .nameAndType 543 544), (0, u "equals"), (0, u "([B[B)Z"), (28, u "(Ljava/lang/Object;)Z"), (1, .class_ 576), (0, u "java/lang/CharSequence"), (22, u "CASE_INSENSITIVE_ORDER"), (0, u "Ljava/util/Comparator;"), (409, u "([C)V"), (90, u "serialPersistentFields"), (0, u "[Ljava/io/ObjectStreamField;"), (0, .class_ 1104), (0, u "java/lang/String$CaseInsensitiveComparator"), (1, .class_ 1107), (0, u "java/io/Serializable"), (0, .class_ 1109), (0, u "java/lang/Comparable"), (0, .class_ 1111), (0, u "java/lang/constant/Constable"), (0, .class_ 1113), (0, u "java/lang/constant/ConstantDesc"), (2, u "serialVersionUID"), (0, u "J"), (3, u "REPL"), (0, u "C"), (2, u "LATIN1"), (1, u "UTF16")] 323

def k10m0 : Method := { name := "<init>", desc := "()V", sig := { parameters := [], returnType := none }, accessFlags := 1, code := none }
def k10c1 : Code := { maxStack := 5, maxLocals := 2, code := jdk_42_method_3_code, exceptionTable := #[], attributes := #[] }
def k10m1 : Method := { name := "<init>", desc := "([C)V", sig := { parameters := [(.array .char)], returnType := none }, accessFlags := 1, code := some k10c1 }
def k10c2 : Code := { maxStack := 2, maxLocals := 3, code := jdk_42_method_66_code, exceptionTable := #[], attributes := #[] }
def k10m2 : Method := { name := "equals", desc := "(Ljava/lang/Object;)Z", sig := { parameters := [(.object "java/lang/Object")], returnType := some .boolean }, accessFlags := 1, code := some k10c2 }
def k10c3 : Code := { maxStack := 4, maxLocals := 6, code := jdk_42_method_149_code, exceptionTable := #[], attributes := #[] }
def k10m3 : Method := { name := "<init>", desc := "([CIILjava/lang/Void;)V", sig := { parameters := [(.array .char), .int, .int, (.object "java/lang/Void")], returnType := none }, accessFlags := 2, code := some k10c3 }
/-- java/lang/String -/
def k10 : Class := { plain "java/lang/String" (some 0) with
  accessFlags := 49
  interfaces := #[4, 3, 8, 2, 9]
  cf := some (fileOf pool10 10 #[.nestMembers #[1103]] #[{ accessFlags := 1, nameIndex := 5, descriptorIndex := 6, attributes := #[] }, { accessFlags := 1, nameIndex := 5, descriptorIndex := 1010, attributes := #[] }, { accessFlags := 1, nameIndex := 543, descriptorIndex := 573, attributes := #[] }, { accessFlags := 2, nameIndex := 5, descriptorIndex := 29, attributes := #[] }] 49 2 #[1106, 1108, 575, 1110, 1112] #[{ accessFlags := 18, nameIndex := 13, descriptorIndex := 14, attributes := #[] }, { accessFlags := 18, nameIndex := 17, descriptorIndex := 18, attributes := #[] }, { accessFlags := 2, nameIndex := 21, descriptorIndex := 22, attributes := #[] }, { accessFlags := 2, nameIndex := 25, descriptorIndex := 26, attributes := #[] }, { accessFlags := 26, nameIndex := 1116, descriptorIndex := 1117, attributes := #[] }, { accessFlags := 24, nameIndex := 40, descriptorIndex := 26, attributes := #[] }, { accessFlags := 26, nameIndex := 1101, descriptorIndex := 1102, attributes := #[] }, { accessFlags := 26, nameIndex := 1121, descriptorIndex := 1122, attributes := #[] }, { accessFlags := 25, nameIndex := 599, descriptorIndex := 600, attributes := #[] }, { accessFlags := 24, nameIndex := 1125, descriptorIndex := 18, attributes := #[] }, { accessFlags := 24, nameIndex := 1127, descriptorIndex := 18, attributes := #[] }])
  fields := #[{ name := "value", type := (.array .byte), accessFlags := 18, slot := 0, constantValue := 0 }, { name := "coder", type := .byte, accessFlags := 18, slot := 1, constantValue := 0 }, { name := "hash", type := .int, accessFlags := 2, slot := 2, constantValue := 0 }, { name := "hashIsZero", type := .boolean, accessFlags := 2, slot := 3, constantValue := 0 }, { name := "serialVersionUID", type := .long, accessFlags := 26, slot := 0, constantValue := 0 }, { name := "COMPACT_STRINGS", type := .boolean, accessFlags := 24, slot := 1, constantValue := 0 }, { name := "serialPersistentFields", type := (.array (.object "java/io/ObjectStreamField")), accessFlags := 26, slot := 2, constantValue := 0 }, { name := "REPL", type := .char, accessFlags := 26, slot := 3, constantValue := 0 }, { name := "CASE_INSENSITIVE_ORDER", type := (.object "java/util/Comparator"), accessFlags := 25, slot := 4, constantValue := 0 }, { name := "LATIN1", type := .byte, accessFlags := 24, slot := 5, constantValue := 0 }, { name := "UTF16", type := .byte, accessFlags := 24, slot := 6, constantValue := 0 }]
  methods := #[k10m0, k10m1, k10m2, k10m3]
  instanceTypes := #[(.array .byte), .byte, .int, .boolean]
  staticTypes := #[.long, .boolean, (.array (.object "java/io/ObjectStreamField")), .char, (.object "java/util/Comparator"), .byte, .byte]
  resolved := Array.replicate 1451 none
  statics := some 1 }

def pool11 : Array CpInfo := pool [(6, .class_ 8), (1, u "java/lang/Object"), (0, u "<init>"), (0, u "()V"), (0, .methodref 12 13), (0, .class_ 14), (0, .nameAndType 15 16), (0, u "java/lang/StringUTF16"), (0, u "newBytesLength"), (0, u "(I)I"), (3, .integer 1073741823), (23, .fieldref 12 45), (0, .nameAndType 46 47), (0, u "$assertionsDisabled"), (0, u "Z"), (11, .fieldref 12 60), (0, .nameAndType 61 62), (0, u "HI_BYTE_SHIFT"), (0, u "I"), (0, .fieldref 12 64), (0, .nameAndType 65 62), (0, u "LO_BYTE_SHIFT"), (5, .methodref 12 72), (0, .nameAndType 73 74), (0, u "getChar"), (0, u "([BI)C"), (32, .methodref 12 108), (0, .nameAndType 109 110), (0, u "newBytesFor"), (0, u "(I)[B"), (0, .methodref 12 112), (0, .nameAndType 113 114), (0, u "putChar"), (0, u "([BII)V"), (0, .methodref 12 116), (0, .nameAndType 117 118), (0, u "compress"), (0, u "([CI[BII)I"), (0, .methodref 12 120), (0, .nameAndType 121 122), (0, u "toBytes"), (0, u "([CII)[B"), (138, u "coderFromArrayLen"), (0, u "([BI)B"), (106, .class_ 371), (1, u "java/lang/StringUTF16$LinesSpliterator"), (58, u "MAX_LENGTH"), (196, .class_ 628), (0, u "java/lang/StringUTF16$CodePointsSpliterator"), (0, .class_ 630), (0, u "java/lang/StringUTF16$CharsSpliterator")] 4

def k11m0 : Method := { name := "<init>", desc := "()V", sig := { parameters := [], returnType := none }, accessFlags := 0, code := none }
def k11c1 : Code := { maxStack := 1, maxLocals := 1, code := jdk_52_method_2_code, exceptionTable := #[], attributes := #[] }
def k11m1 : Method := { name := "newBytesFor", desc := "(I)[B", sig := { parameters := [.int], returnType := some (.array .byte) }, accessFlags := 9, code := some k11c1 }
def k11c2 : Code := { maxStack := 4, maxLocals := 1, code := jdk_52_method_3_code, exceptionTable := #[], attributes := #[] }
def k11m2 : Method := { name := "newBytesLength", desc := "(I)I", sig := { parameters := [.int], returnType := some .int }, accessFlags := 9, code := some k11c2 }
def k11c3 : Code := { maxStack := 4, maxLocals := 3, code := jdk_52_method_4_code, exceptionTable := #[], attributes := #[] }
def k11m3 : Method := { name := "putChar", desc := "([BII)V", sig := { parameters := [(.array .byte), .int, .int], returnType := none }, accessFlags := 8, code := some k11c3 }
def k11c4 : Code := { maxStack := 3, maxLocals := 2, code := jdk_52_method_5_code, exceptionTable := #[], attributes := #[] }
def k11m4 : Method := { name := "getChar", desc := "([BI)C", sig := { parameters := [(.array .byte), .int], returnType := some .char }, accessFlags := 8, code := some k11c4 }
def k11c5 : Code := { maxStack := 4, maxLocals := 5, code := jdk_52_method_14_code, exceptionTable := #[], attributes := #[] }
def k11m5 : Method := { name := "toBytes", desc := "([CII)[B", sig := { parameters := [(.array .char), .int, .int], returnType := some (.array .byte) }, accessFlags := 9, code := some k11c5 }
def k11c6 : Code := { maxStack := 2, maxLocals := 2, code := jdk_52_method_15_code, exceptionTable := #[], attributes := #[] }
def k11m6 : Method := { name := "coderFromArrayLen", desc := "([BI)B", sig := { parameters := [(.array .byte), .int], returnType := some .byte }, accessFlags := 8, code := some k11c6 }
def k11c7 : Code := { maxStack := 5, maxLocals := 6, code := jdk_52_method_16_code, exceptionTable := #[], attributes := #[] }
def k11m7 : Method := { name := "compress", desc := "([CII)[B", sig := { parameters := [(.array .char), .int, .int], returnType := some (.array .byte) }, accessFlags := 9, code := some k11c7 }
def k11c8 : Code := { maxStack := 3, maxLocals := 7, code := jdk_52_method_21_code, exceptionTable := #[], attributes := #[] }
def k11m8 : Method := { name := "compress", desc := "([CI[BII)I", sig := { parameters := [(.array .char), .int, (.array .byte), .int, .int], returnType := some .int }, accessFlags := 9, code := some k11c8 }
/-- java/lang/StringUTF16 -/
def k11 : Class := { plain "java/lang/StringUTF16" (some 0) with
  accessFlags := 48
  interfaces := #[]
  cf := some (fileOf pool11 12 #[.nestMembers #[627, 629, 369]] #[{ accessFlags := 0, nameIndex := 9, descriptorIndex := 10, attributes := #[] }, { accessFlags := 9, nameIndex := 109, descriptorIndex := 110, attributes := #[] }, { accessFlags := 9, nameIndex := 15, descriptorIndex := 16, attributes := #[] }, { accessFlags := 8, nameIndex := 113, descriptorIndex := 114, attributes := #[] }, { accessFlags := 8, nameIndex := 73, descriptorIndex := 74, attributes := #[] }, { accessFlags := 9, nameIndex := 121, descriptorIndex := 122, attributes := #[] }, { accessFlags := 8, nameIndex := 261, descriptorIndex := 262, attributes := #[] }, { accessFlags := 9, nameIndex := 117, descriptorIndex := 122, attributes := #[] }, { accessFlags := 9, nameIndex := 117, descriptorIndex := 118, attributes := #[] }] 48 6 #[] #[{ accessFlags := 26, nameIndex := 61, descriptorIndex := 62, attributes := #[] }, { accessFlags := 26, nameIndex := 65, descriptorIndex := 62, attributes := #[] }, { accessFlags := 24, nameIndex := 430, descriptorIndex := 62, attributes := #[] }, { accessFlags := 4120, nameIndex := 46, descriptorIndex := 47, attributes := #[] }])
  fields := #[{ name := "HI_BYTE_SHIFT", type := .int, accessFlags := 26, slot := 0, constantValue := 0 }, { name := "LO_BYTE_SHIFT", type := .int, accessFlags := 26, slot := 1, constantValue := 0 }, { name := "MAX_LENGTH", type := .int, accessFlags := 24, slot := 2, constantValue := 0 }, { name := "$assertionsDisabled", type := .boolean, accessFlags := 4120, slot := 3, constantValue := 0 }]
  methods := #[k11m0, k11m1, k11m2, k11m3, k11m4, k11m5, k11m6, k11m7, k11m8]
  instanceTypes := #[]
  staticTypes := #[.int, .int, .int, .boolean]
  resolved := Array.replicate 635 none
  statics := some 2 }

def pool12 : Array CpInfo := pool [(4, .class_ 6), (1, u "java/lang/Object"), (0, u "<init>"), (0, u "()V"), (5, .class_ 16), (1, u "java/lang/StringLatin1"), (104, u "$assertionsDisabled"), (0, u "Z"), (98, .class_ 223), (1, u "java/lang/StringLatin1$LinesSpliterator"), (57, u "equals"), (0, u "([B[B)Z"), (107, .class_ 391), (0, u "java/lang/StringLatin1$CharsSpliterator")] 3

def k12m0 : Method := { name := "<init>", desc := "()V", sig := { parameters := [], returnType := none }, accessFlags := 0, code := none }
def k12c1 : Code := { maxStack := 3, maxLocals := 3, code := jdk_43_method_13_code, exceptionTable := #[], attributes := #[] }
def k12m1 : Method := { name := "equals", desc := "([B[B)Z", sig := { parameters := [(.array .byte), (.array .byte)], returnType := some .boolean }, accessFlags := 9, code := some k12c1 }
/-- java/lang/StringLatin1 -/
def k12 : Class := { plain "java/lang/StringLatin1" (some 0) with
  accessFlags := 48
  interfaces := #[]
  cf := some (fileOf pool12 14 #[.nestMembers #[390, 221]] #[{ accessFlags := 0, nameIndex := 7, descriptorIndex := 8, attributes := #[] }, { accessFlags := 9, nameIndex := 281, descriptorIndex := 282, attributes := #[] }] 48 4 #[] #[{ accessFlags := 4120, nameIndex := 121, descriptorIndex := 122, attributes := #[] }])
  fields := #[{ name := "$assertionsDisabled", type := .boolean, accessFlags := 4120, slot := 0, constantValue := 0 }]
  methods := #[k12m0, k12m1]
  instanceTypes := #[]
  staticTypes := #[.boolean]
  resolved := Array.replicate 395 none
  statics := none }

def pool13 : Array CpInfo := pool [(2, .class_ 4), (1, u "java/lang/Object"), (0, u "<init>"), (0, u "()V"), (17, .class_ 26), (1, u "jdk/internal/util/Preconditions"), (28, .class_ 56), (0, u "jdk/internal/util/Preconditions$4"), (57, .class_ 115), (0, u "jdk/internal/util/Preconditions$1"), (7, u "SIOOBE_FORMATTER"), (0, u "Ljava/util/function/BiFunction;"), (0, .class_ 126), (0, u "jdk/internal/util/Preconditions$2"), (3, u "AIOOBE_FORMATTER"), (0, .class_ 132), (0, u "jdk/internal/util/Preconditions$3"), (3, u "IOOBE_FORMATTER")] 57

def k13m0 : Method := { name := "<init>", desc := "()V", sig := { parameters := [], returnType := none }, accessFlags := 1, code := none }
/-- jdk/internal/util/Preconditions -/
def k13 : Class := { plain "jdk/internal/util/Preconditions" (some 0) with
  accessFlags := 33
  interfaces := #[]
  cf := some (fileOf pool13 24 #[.nestMembers #[55, 131, 125, 114]] #[{ accessFlags := 1, nameIndex := 5, descriptorIndex := 6, attributes := #[] }] 33 2 #[] #[{ accessFlags := 25, nameIndex := 123, descriptorIndex := 124, attributes := #[] }, { accessFlags := 25, nameIndex := 130, descriptorIndex := 124, attributes := #[] }, { accessFlags := 25, nameIndex := 136, descriptorIndex := 124, attributes := #[] }])
  fields := #[{ name := "SIOOBE_FORMATTER", type := (.object "java/util/function/BiFunction"), accessFlags := 25, slot := 0, constantValue := 0 }, { name := "AIOOBE_FORMATTER", type := (.object "java/util/function/BiFunction"), accessFlags := 25, slot := 1, constantValue := 0 }, { name := "IOOBE_FORMATTER", type := (.object "java/util/function/BiFunction"), accessFlags := 25, slot := 2, constantValue := 0 }]
  methods := #[k13m0]
  instanceTypes := #[]
  staticTypes := #[(.object "java/util/function/BiFunction"), (.object "java/util/function/BiFunction"), (.object "java/util/function/BiFunction")]
  resolved := Array.replicate 194 none
  statics := some 3 }

def pool14 : Array CpInfo := pool [(9, u "<init>"), (6, .class_ 18), (1, u "java/lang/Object"), (0, u "()V"), (1, .class_ 23), (1, u "jdk/internal/util/ArraysSupport"), (0, u "LOG2_ARRAY_LONG_INDEX_SCALE"), (0, u "I"), (2, u "U"), (0, u "Ljdk/internal/misc/Unsafe;"), (8, u "BIG_ENDIAN"), (0, u "Z"), (8, u "LOG2_BYTE_BIT_SIZE"), (4, u "LOG2_ARRAY_INT_INDEX_SCALE"), (54, u "JLA"), (0, u "Ljdk/internal/access/JavaLangAccess;"), (11, u "LOG2_ARRAY_BOOLEAN_INDEX_SCALE"), (9, u "LOG2_ARRAY_BYTE_INDEX_SCALE"), (5, u "LOG2_ARRAY_CHAR_INDEX_SCALE"), (5, u "LOG2_ARRAY_SHORT_INDEX_SCALE"), (18, u "LOG2_ARRAY_FLOAT_INDEX_SCALE"), (24, u "LOG2_ARRAY_DOUBLE_INDEX_SCALE"), (89, u "T_BOOLEAN"), (2, u "T_CHAR"), (1, u "T_FLOAT"), (1, u "T_DOUBLE"), (1, u "T_BYTE"), (1, u "T_SHORT"), (1, u "T_INT"), (1, u "T_LONG"), (1, u "SOFT_MAX_ARRAY_LENGTH")] 83

def k14m0 : Method := { name := "<init>", desc := "()V", sig := { parameters := [], returnType := none }, accessFlags := 2, code := none }
/-- jdk/internal/util/ArraysSupport -/
def k14 : Class := { plain "jdk/internal/util/ArraysSupport" (some 0) with
  accessFlags := 33
  interfaces := #[]
  cf := some (fileOf pool14 21 #[] #[{ accessFlags := 2, nameIndex := 9, descriptorIndex := 19, attributes := #[] }] 33 16 #[] #[{ accessFlags := 24, nameIndex := 28, descriptorIndex := 29, attributes := #[] }, { accessFlags := 26, nameIndex := 38, descriptorIndex := 39, attributes := #[] }, { accessFlags := 25, nameIndex := 121, descriptorIndex := 25, attributes := #[] }, { accessFlags := 25, nameIndex := 131, descriptorIndex := 25, attributes := #[] }, { accessFlags := 25, nameIndex := 137, descriptorIndex := 25, attributes := #[] }, { accessFlags := 25, nameIndex := 143, descriptorIndex := 25, attributes := #[] }, { accessFlags := 25, nameIndex := 53, descriptorIndex := 25, attributes := #[] }, { accessFlags := 25, nameIndex := 24, descriptorIndex := 25, attributes := #[] }, { accessFlags := 25, nameIndex := 162, descriptorIndex := 25, attributes := #[] }, { accessFlags := 25, nameIndex := 187, descriptorIndex := 25, attributes := #[] }, { accessFlags := 26, nameIndex := 48, descriptorIndex := 25, attributes := #[] }, { accessFlags := 25, nameIndex := 277, descriptorIndex := 25, attributes := #[] }, { accessFlags := 25, nameIndex := 280, descriptorIndex := 25, attributes := #[] }, { accessFlags := 25, nameIndex := 282, descriptorIndex := 25, attributes := #[] }, { accessFlags := 25, nameIndex := 284, descriptorIndex := 25, attributes := #[] }, { accessFlags := 25, nameIndex := 286, descriptorIndex := 25, attributes := #[] }, { accessFlags := 25, nameIndex := 288, descriptorIndex := 25, attributes := #[] }, { accessFlags := 25, nameIndex := 290, descriptorIndex := 25, attributes := #[] }, { accessFlags := 25, nameIndex := 292, descriptorIndex := 25, attributes := #[] }, { accessFlags := 26, nameIndex := 108, descriptorIndex := 109, attributes := #[] }, { accessFlags := 25, nameIndex := 294, descriptorIndex := 25, attributes := #[] }])
  fields := #[{ name := "U", type := (.object "jdk/internal/misc/Unsafe"), accessFlags := 24, slot := 0, constantValue := 0 }, { name := "BIG_ENDIAN", type := .boolean, accessFlags := 26, slot := 1, constantValue := 0 }, { name := "LOG2_ARRAY_BOOLEAN_INDEX_SCALE", type := .int, accessFlags := 25, slot := 2, constantValue := 0 }, { name := "LOG2_ARRAY_BYTE_INDEX_SCALE", type := .int, accessFlags := 25, slot := 3, constantValue := 0 }, { name := "LOG2_ARRAY_CHAR_INDEX_SCALE", type := .int, accessFlags := 25, slot := 4, constantValue := 0 }, { name := "LOG2_ARRAY_SHORT_INDEX_SCALE", type := .int, accessFlags := 25, slot := 5, constantValue := 0 }, { name := "LOG2_ARRAY_INT_INDEX_SCALE", type := .int, accessFlags := 25, slot := 6, constantValue := 0 }, { name := "LOG2_ARRAY_LONG_INDEX_SCALE", type := .int, accessFlags := 25, slot := 7, constantValue := 0 }, { name := "LOG2_ARRAY_FLOAT_INDEX_SCALE", type := .int, accessFlags := 25, slot := 8, constantValue := 0 }, { name := "LOG2_ARRAY_DOUBLE_INDEX_SCALE", type := .int, accessFlags := 25, slot := 9, constantValue := 0 }, { name := "LOG2_BYTE_BIT_SIZE", type := .int, accessFlags := 26, slot := 10, constantValue := 0 }, { name := "T_BOOLEAN", type := .int, accessFlags := 25, slot := 11, constantValue := 0 }, { name := "T_CHAR", type := .int, accessFlags := 25, slot := 12, constantValue := 0 }, { name := "T_FLOAT", type := .int, accessFlags := 25, slot := 13, constantValue := 0 }, { name := "T_DOUBLE", type := .int, accessFlags := 25, slot := 14, constantValue := 0 }, { name := "T_BYTE", type := .int, accessFlags := 25, slot := 15, constantValue := 0 }, { name := "T_SHORT", type := .int, accessFlags := 25, slot := 16, constantValue := 0 }, { name := "T_INT", type := .int, accessFlags := 25, slot := 17, constantValue := 0 }, { name := "T_LONG", type := .int, accessFlags := 25, slot := 18, constantValue := 0 }, { name := "JLA", type := (.object "jdk/internal/access/JavaLangAccess"), accessFlags := 26, slot := 19, constantValue := 0 }, { name := "SOFT_MAX_ARRAY_LENGTH", type := .int, accessFlags := 25, slot := 20, constantValue := 0 }]
  methods := #[k14m0]
  instanceTypes := #[]
  staticTypes := #[(.object "jdk/internal/misc/Unsafe"), .boolean, .int, .int, .int, .int, .int, .int, .int, .int, .int, .int, .int, .int, .int, .int, .int, .int, .int, (.object "jdk/internal/access/JavaLangAccess"), .int]
  resolved := Array.replicate 378 none
  statics := none }

/-- the primitive byte -/
def k15 : Class := { plain "byte" none with kind := .primitive 'B', accessFlags := 0x411 }
/-- [B -/
def k16 : Class := { plain "[B" (some 0) with kind := .array 15 .byte, interfaces := #[7, 4], accessFlags := 1041 }

/-- the primitive char -/
def k17 : Class := { plain "char" none with kind := .primitive 'C', accessFlags := 0x411 }
/-- [C -/
def k18 : Class := { plain "[C" (some 0) with kind := .array 17 .char, interfaces := #[7, 4], accessFlags := 1041 }

/-- the primitive int -/
def k19 : Class := { plain "int" none with kind := .primitive 'I', accessFlags := 0x411 }
/-- [I -/
def k20 : Class := { plain "[I" (some 0) with kind := .array 19 .int, interfaces := #[7, 4], accessFlags := 1041 }

/-- [Lcom/example/handlewright/handlewright/DomainStatus; -/
def k21 : Class := { plain "[Lcom/example/handlewright/handlewright/DomainStatus;" (some 0) with kind := .array 6 (.object "com/example/handlewright/handlewright/DomainStatus"), interfaces := #[7, 4], accessFlags := 1041 }

def heap : Heap := #[{ cls := 6, slots := #[.ref 11, .ref 12, .ref 13, .ref 4], vm := .statics 6 },
  { cls := 10, slots := #[.long 0, .int 1, .null, .int 0, .null, .int 0, .int 0], vm := .statics 10 },
  { cls := 11, slots := #[.int 0, .int 8, .int 0, .int 1], vm := .statics 11 },
  { cls := 13, slots := #[.null, .null, .null], vm := .statics 13 },
  { cls := 21, slots := #[.ref 11, .ref 12, .ref 13], vm := .none },
  { cls := 16, slots := #[.int 99, .int 111, .int 110, .int 110, .int 101, .int 99, .int 116], vm := .none },
  { cls := 16, slots := #[.int 102, .int 97, .int 105, .int 108, .int 101, .int 100], vm := .none },
  { cls := 16, slots := #[.int 112, .int 101, .int 110, .int 100, .int 105, .int 110, .int 103, .int 67, .int 114, .int 101, .int 97, .int 116, .int 101], vm := .none },
  { cls := 10, slots := #[.ref 5, .int 0, .int 0, .int 0], vm := .none },
  { cls := 10, slots := #[.ref 6, .int 0, .int 0, .int 0], vm := .none },
  { cls := 10, slots := #[.ref 7, .int 0, .int 0, .int 0], vm := .none },
  { cls := 6, slots := #[.null, .int 0, .int 0, .ref 8], vm := .none },
  { cls := 6, slots := #[.null, .int 0, .int 0, .ref 9], vm := .none },
  { cls := 6, slots := #[.null, .int 0, .int 0, .ref 10], vm := .none }]
def classes : Array Class := #[k0, k1, k2, k3, k4, k5, k6, k7, k8, k9, k10, k11, k12, k13, k14, k15, k16, k17, k18, k19, k20, k21]
def interned : List (Array UInt16 × Addr) := []
def slotsUsed : Nat := 71
def theMethod : MethodId := ⟨1, 1⟩
def args0 : Array Value := #[.int 5, .int 5, .int 5, .int 5, .int 5, .int 5]
def aboutOver (below : List Frame) : State where
  vm := { classes := classes, interned := interned.toArray }
  heap := heap
  slotsUsed := slotsUsed
  threads := #[{ frames := .invoking theMethod args0 :: below }]
def below0 : List Frame := [.native { method := ⟨0, 0⟩, args := #[] }]
def about1 : State := aboutOver below0
def p0 : Program := .bare "" "" ""
def e0 : Env := launch0.env 0 0 0
theorem w_frames : about1.frames = Frame.invoking theMethod args0 :: below0 := rfl
set_option maxRecDepth 65536 in
theorem w_args : argsFit about1.vm theMethod args0 = true := by decide +kernel
set_option maxRecDepth 65536 in
theorem w_heap : heapFits about1 = true := by decide +kernel
set_option maxRecDepth 65536 in
theorem w_runnable : about1.curStatus? = some .runnable := by decide +kernel
set_option maxRecDepth 65536 in
theorem w_alone : about1.alone = true := by decide +kernel
set_option maxRecDepth 65536 in
theorem w_named : about1.methodNamed? x = some theMethod := by decide +kernel
set_option maxRecDepth 65536 in
theorem w_hears : about1.hears theMethod below0 = true := by decide +kernel
set_option maxRecDepth 65536 in
theorem w_ripe : about1.ripe theMethod args0 below0 = true := by decide +kernel
theorem w_running : about1.status = .running := rfl
set_option maxRecDepth 65536 in
theorem w_room : about1.hasRoom e0.platform room_1 = true :=
  launch0.hasRoom_least _ room_1 (by decide +kernel) (by decide +kernel) (by decide +kernel) (by decide +kernel) (by decide +kernel) (by decide +kernel)
theorem allAtoms_all (ts : List Jvm.Cond) (a : Array Jvm.Value) (st : Jvm.State) : (allAtoms ts).before a st = ts.all (fun c => c.before a st) := by
  induction ts with
  | nil => rfl
  | cons c t ih =>
    show (Jvm.Cond.and c (allAtoms t)).before a st = _
    rw [Jvm.Cond.before_and, ih, List.all_cons]
def words1 : List Jvm.Cond := Jvm.Cond.code x code maxLocals ret :: tables_1
/-- a 'code' word, met by the world's own term for the bytes: nothing is compared byte by byte -/
theorem code_word {y : MethodName} {bytes : ByteArray} {mx : Nat} {rt : Option FieldType} {a : Array Value} {s : State} {m : MethodId} {meth : Method} {c : Code} (h1 : s.methodNamed? y = some m) (h2 : s.vm.method? m = some meth) (h3 : meth.code = some c) (h4 : c.code = bytes)
    (h5 : (c.maxLocals == mx && c.exceptionTable.isEmpty && decide (c.maxStack ≤ mostOperands) && decide (meth.sig.returnType = rt) && !meth.locks && decide (parseMethodDescriptor y.desc = some meth.sig)) = true) : (Jvm.Cond.code y bytes mx rt).before a s = true := by
  simp only [Bool.and_eq_true, beq_iff_eq, Bool.not_eq_true', decide_eq_true_eq] at h5
  obtain ⟨⟨⟨⟨⟨g1, g2⟩, g3⟩, g4⟩, g5⟩, g6⟩ := h5
  simp [Cond.before, Cond.holds, Cond.value, h1, h2, h3, h4, g1, g2, g3, g4, g5, g6]
def isCode : Jvm.Cond → Bool
  | .code _ _ _ _ => true
  | _ => false
theorem all_split {L : List Jvm.Cond} {P : Jvm.Cond → Bool} (h1 : L.all (fun c => isCode c || P c) = true) (h2 : ∀ c ∈ L.filter isCode, P c = true) : L.all P = true := by
  refine List.all_eq_true.mpr fun c hc => ?_
  have h := List.all_eq_true.mp h1 c hc
  rcases Bool.eq_false_or_eq_true (isCode c) with hi | hi
  · exact h2 c (List.mem_filter.mpr ⟨hc, hi⟩)
  · simpa [hi] using h
set_option maxRecDepth 65536 in
theorem w_c0 : (Jvm.Cond.code x code maxLocals ret).before args0 about1 = true := code_word (m := ⟨1, 1⟩) (meth := k1m1) (c := k1c1) (by decide +kernel) rfl rfl rfl (by decide +kernel)
set_option maxRecDepth 65536 in
theorem w_c1 : (Jvm.Cond.code ({ cls := "com/example/handlewright/handlewright/DomainStatus", name := "text", desc := "()Ljava/lang/String;" } : Jvm.MethodName) prog_8_method_4_code (1 : Nat) (Option.some (Jvm.ClassFile.FieldType.object "java/lang/String"))).before args0 about1 = true := code_word (m := ⟨6, 1⟩) (meth := k6m1) (c := k6c1) (by decide +kernel) rfl rfl rfl (by decide +kernel)
set_option maxRecDepth 65536 in
theorem w_c2 : (Jvm.Cond.code ({ cls := "com/example/handlewright/handlewright/DomainStatus", name := "find", desc := "(Ljava/lang/String;)Lcom/example/handlewright/handlewright/DomainStatus;" } : Jvm.MethodName) prog_8_method_5_code (5 : Nat) (Option.some (Jvm.ClassFile.FieldType.object "com/example/handlewright/handlewright/DomainStatus"))).before args0 about1 = true := code_word (m := ⟨6, 2⟩) (meth := k6m2) (c := k6c2) (by decide +kernel) rfl rfl rfl (by decide +kernel)
set_option maxRecDepth 65536 in
theorem w_c3 : (Jvm.Cond.code ({ cls := "com/example/handlewright/handlewright/DomainStatus", name := "values", desc := "()[Lcom/example/handlewright/handlewright/DomainStatus;" } : Jvm.MethodName) prog_8_method_1_code (0 : Nat) (Option.some (Jvm.ClassFile.FieldType.array (Jvm.ClassFile.FieldType.object "com/example/handlewright/handlewright/DomainStatus")))).before args0 about1 = true := code_word (m := ⟨6, 0⟩) (meth := k6m0) (c := k6c0) (by decide +kernel) rfl rfl rfl (by decide +kernel)
set_option maxRecDepth 65536 in
theorem w_c4 : (Jvm.Cond.code ({ cls := "java/lang/String", name := "equals", desc := "(Ljava/lang/Object;)Z" } : Jvm.MethodName) jdk_42_method_66_code (3 : Nat) (Option.some Jvm.ClassFile.FieldType.boolean)).before args0 about1 = true := code_word (m := ⟨10, 2⟩) (meth := k10m2) (c := k10c2) (by decide +kernel) rfl rfl rfl (by decide +kernel)
set_option maxRecDepth 65536 in
theorem w_c5 : (Jvm.Cond.code ({ cls := "com/example/handlewright/handlewright/DomainStatusFindPinLaw", name := "pre", desc := "(IC)[C" } : Jvm.MethodName) method_5_code (2 : Nat) (Option.some (Jvm.ClassFile.FieldType.array Jvm.ClassFile.FieldType.char))).before args0 about1 = true := code_word (m := ⟨1, 4⟩) (meth := k1m4) (c := k1c4) (by decide +kernel) rfl rfl rfl (by decide +kernel)
set_option maxRecDepth 65536 in
theorem w_c6 : (Jvm.Cond.code ({ cls := "java/lang/String", name := "<init>", desc := "([C)V" } : Jvm.MethodName) jdk_42_method_3_code (2 : Nat) (Option.none : Option Jvm.ClassFile.FieldType)).before args0 about1 = true := code_word (m := ⟨10, 1⟩) (meth := k10m1) (c := k10c1) (by decide +kernel) rfl rfl rfl (by decide +kernel)
set_option maxRecDepth 65536 in
theorem w_c7 : (Jvm.Cond.code ({ cls := "java/lang/String", name := "<init>", desc := "([CIILjava/lang/Void;)V" } : Jvm.MethodName) jdk_42_method_149_code (6 : Nat) (Option.none : Option Jvm.ClassFile.FieldType)).before args0 about1 = true := code_word (m := ⟨10, 3⟩) (meth := k10m3) (c := k10c3) (by decide +kernel) rfl rfl rfl (by decide +kernel)
set_option maxRecDepth 65536 in
theorem w_c8 : (Jvm.Cond.code ({ cls := "java/lang/Object", name := "<init>", desc := "()V" } : Jvm.MethodName) object_method_1_code (1 : Nat) (Option.none : Option Jvm.ClassFile.FieldType)).before args0 about1 = true := code_word (m := ⟨0, 0⟩) (meth := k0m0) (c := k0c0) (by decide +kernel) rfl rfl rfl (by decide +kernel)
set_option maxRecDepth 65536 in
theorem w_c9 : (Jvm.Cond.code ({ cls := "java/lang/StringUTF16", name := "compress", desc := "([CII)[B" } : Jvm.MethodName) jdk_52_method_16_code (6 : Nat) (Option.some (Jvm.ClassFile.FieldType.array Jvm.ClassFile.FieldType.byte))).before args0 about1 = true := code_word (m := ⟨11, 7⟩) (meth := k11m7) (c := k11c7) (by decide +kernel) rfl rfl rfl (by decide +kernel)
set_option maxRecDepth 65536 in
theorem w_c10 : (Jvm.Cond.code ({ cls := "java/lang/StringUTF16", name := "compress", desc := "([CI[BII)I" } : Jvm.MethodName) jdk_52_method_21_code (7 : Nat) (Option.some Jvm.ClassFile.FieldType.int)).before args0 about1 = true := code_word (m := ⟨11, 8⟩) (meth := k11m8) (c := k11c8) (by decide +kernel) rfl rfl rfl (by decide +kernel)
set_option maxRecDepth 65536 in
theorem w_c11 : (Jvm.Cond.code ({ cls := "java/lang/StringUTF16", name := "coderFromArrayLen", desc := "([BI)B" } : Jvm.MethodName) jdk_52_method_15_code (2 : Nat) (Option.some Jvm.ClassFile.FieldType.byte)).before args0 about1 = true := code_word (m := ⟨11, 6⟩) (meth := k11m6) (c := k11c6) (by decide +kernel) rfl rfl rfl (by decide +kernel)
set_option maxRecDepth 65536 in
theorem w_c12 : (Jvm.Cond.code ({ cls := "java/lang/StringLatin1", name := "equals", desc := "([B[B)Z" } : Jvm.MethodName) jdk_43_method_13_code (3 : Nat) (Option.some Jvm.ClassFile.FieldType.boolean)).before args0 about1 = true := code_word (m := ⟨12, 1⟩) (meth := k12m1) (c := k12c1) (by decide +kernel) rfl rfl rfl (by decide +kernel)
set_option maxRecDepth 65536 in
theorem w_c13 : (Jvm.Cond.code ({ cls := "com/example/handlewright/handlewright/DomainStatusFindPinLaw", name := "lit", desc := "(I)[C" } : Jvm.MethodName) method_3_code (1 : Nat) (Option.some (Jvm.ClassFile.FieldType.array Jvm.ClassFile.FieldType.char))).before args0 about1 = true := code_word (m := ⟨1, 2⟩) (meth := k1m2) (c := k1c2) (by decide +kernel) rfl rfl rfl (by decide +kernel)
set_option maxRecDepth 65536 in
theorem w_c14 : (Jvm.Cond.code ({ cls := "com/example/handlewright/handlewright/DomainStatusFindPinLaw", name := "ext", desc := "(IC)[C" } : Jvm.MethodName) method_4_code (2 : Nat) (Option.some (Jvm.ClassFile.FieldType.array Jvm.ClassFile.FieldType.char))).before args0 about1 = true := code_word (m := ⟨1, 3⟩) (meth := k1m3) (c := k1c3) (by decide +kernel) rfl rfl rfl (by decide +kernel)
set_option maxRecDepth 65536 in
theorem w_c15 : (Jvm.Cond.code ({ cls := "com/example/handlewright/handlewright/DomainStatusFindPinLaw", name := "shortChars", desc := "(ICCC)[C" } : Jvm.MethodName) method_7_code (4 : Nat) (Option.some (Jvm.ClassFile.FieldType.array Jvm.ClassFile.FieldType.char))).before args0 about1 = true := code_word (m := ⟨1, 6⟩) (meth := k1m6) (c := k1c6) (by decide +kernel) rfl rfl rfl (by decide +kernel)
set_option maxRecDepth 65536 in
theorem w_c16 : (Jvm.Cond.code ({ cls := "com/example/handlewright/handlewright/DomainStatusFindPinLaw", name := "cut", desc := "(I)[C" } : Jvm.MethodName) method_6_code (1 : Nat) (Option.some (Jvm.ClassFile.FieldType.array Jvm.ClassFile.FieldType.char))).before args0 about1 = true := code_word (m := ⟨1, 5⟩) (meth := k1m5) (c := k1c5) (by decide +kernel) rfl rfl rfl (by decide +kernel)
set_option maxRecDepth 65536 in
theorem w_c17 : (Jvm.Cond.code ({ cls := "java/lang/StringUTF16", name := "toBytes", desc := "([CII)[B" } : Jvm.MethodName) jdk_52_method_14_code (5 : Nat) (Option.some (Jvm.ClassFile.FieldType.array Jvm.ClassFile.FieldType.byte))).before args0 about1 = true := code_word (m := ⟨11, 5⟩) (meth := k11m5) (c := k11c5) (by decide +kernel) rfl rfl rfl (by decide +kernel)
set_option maxRecDepth 65536 in
theorem w_c18 : (Jvm.Cond.code ({ cls := "java/lang/StringUTF16", name := "newBytesFor", desc := "(I)[B" } : Jvm.MethodName) jdk_52_method_2_code (1 : Nat) (Option.some (Jvm.ClassFile.FieldType.array Jvm.ClassFile.FieldType.byte))).before args0 about1 = true := code_word (m := ⟨11, 1⟩) (meth := k11m1) (c := k11c1) (by decide +kernel) rfl rfl rfl (by decide +kernel)
set_option maxRecDepth 65536 in
theorem w_c19 : (Jvm.Cond.code ({ cls := "java/lang/StringUTF16", name := "newBytesLength", desc := "(I)I" } : Jvm.MethodName) jdk_52_method_3_code (1 : Nat) (Option.some Jvm.ClassFile.FieldType.int)).before args0 about1 = true := code_word (m := ⟨11, 2⟩) (meth := k11m2) (c := k11c2) (by decide +kernel) rfl rfl rfl (by decide +kernel)
set_option maxRecDepth 65536 in
theorem w_c20 : (Jvm.Cond.code ({ cls := "java/lang/StringUTF16", name := "putChar", desc := "([BII)V" } : Jvm.MethodName) jdk_52_method_4_code (3 : Nat) (Option.none : Option Jvm.ClassFile.FieldType)).before args0 about1 = true := code_word (m := ⟨11, 3⟩) (meth := k11m3) (c := k11c3) (by decide +kernel) rfl rfl rfl (by decide +kernel)
set_option maxRecDepth 65536 in
theorem w_c21 : (Jvm.Cond.code ({ cls := "java/lang/StringUTF16", name := "getChar", desc := "([BI)C" } : Jvm.MethodName) jdk_52_method_5_code (2 : Nat) (Option.some Jvm.ClassFile.FieldType.char)).before args0 about1 = true := code_word (m := ⟨11, 4⟩) (meth := k11m4) (c := k11c4) (by decide +kernel) rfl rfl rfl (by decide +kernel)
def codes1 : List Jvm.Cond := [Jvm.Cond.code x code maxLocals ret, Jvm.Cond.code ({ cls := "com/example/handlewright/handlewright/DomainStatus", name := "text", desc := "()Ljava/lang/String;" } : Jvm.MethodName) prog_8_method_4_code (1 : Nat) (Option.some (Jvm.ClassFile.FieldType.object "java/lang/String")), Jvm.Cond.code ({ cls := "com/example/handlewright/handlewright/DomainStatus", name := "find", desc := "(Ljava/lang/String;)Lcom/example/handlewright/handlewright/DomainStatus;" } : Jvm.MethodName) prog_8_method_5_code (5 : Nat) (Option.some (Jvm.ClassFile.FieldType.object "com/example/handlewright/handlewright/DomainStatus")), Jvm.Cond.code ({ cls := "com/example/handlewright/handlewright/DomainStatus", name := "values", desc := "()[Lcom/example/handlewright/handlewright/DomainStatus;" } : Jvm.MethodName) prog_8_method_1_code (0 : Nat) (Option.some (Jvm.ClassFile.FieldType.array (Jvm.ClassFile.FieldType.object "com/example/handlewright/handlewright/DomainStatus"))), Jvm.Cond.code ({ cls := "java/lang/String", name := "equals", desc := "(Ljava/lang/Object;)Z" } : Jvm.MethodName) jdk_42_method_66_code (3 : Nat) (Option.some Jvm.ClassFile.FieldType.boolean), Jvm.Cond.code ({ cls := "com/example/handlewright/handlewright/DomainStatusFindPinLaw", name := "pre", desc := "(IC)[C" } : Jvm.MethodName) method_5_code (2 : Nat) (Option.some (Jvm.ClassFile.FieldType.array Jvm.ClassFile.FieldType.char)), Jvm.Cond.code ({ cls := "java/lang/String", name := "<init>", desc := "([C)V" } : Jvm.MethodName) jdk_42_method_3_code (2 : Nat) (Option.none : Option Jvm.ClassFile.FieldType), Jvm.Cond.code ({ cls := "java/lang/String", name := "<init>", desc := "([CIILjava/lang/Void;)V" } : Jvm.MethodName) jdk_42_method_149_code (6 : Nat) (Option.none : Option Jvm.ClassFile.FieldType), Jvm.Cond.code ({ cls := "java/lang/Object", name := "<init>", desc := "()V" } : Jvm.MethodName) object_method_1_code (1 : Nat) (Option.none : Option Jvm.ClassFile.FieldType), Jvm.Cond.code ({ cls := "java/lang/StringUTF16", name := "compress", desc := "([CII)[B" } : Jvm.MethodName) jdk_52_method_16_code (6 : Nat) (Option.some (Jvm.ClassFile.FieldType.array Jvm.ClassFile.FieldType.byte)), Jvm.Cond.code ({ cls := "java/lang/StringUTF16", name := "compress", desc := "([CI[BII)I" } : Jvm.MethodName) jdk_52_method_21_code (7 : Nat) (Option.some Jvm.ClassFile.FieldType.int), Jvm.Cond.code ({ cls := "java/lang/StringUTF16", name := "coderFromArrayLen", desc := "([BI)B" } : Jvm.MethodName) jdk_52_method_15_code (2 : Nat) (Option.some Jvm.ClassFile.FieldType.byte), Jvm.Cond.code ({ cls := "java/lang/StringLatin1", name := "equals", desc := "([B[B)Z" } : Jvm.MethodName) jdk_43_method_13_code (3 : Nat) (Option.some Jvm.ClassFile.FieldType.boolean), Jvm.Cond.code ({ cls := "com/example/handlewright/handlewright/DomainStatusFindPinLaw", name := "lit", desc := "(I)[C" } : Jvm.MethodName) method_3_code (1 : Nat) (Option.some (Jvm.ClassFile.FieldType.array Jvm.ClassFile.FieldType.char)), Jvm.Cond.code ({ cls := "com/example/handlewright/handlewright/DomainStatusFindPinLaw", name := "ext", desc := "(IC)[C" } : Jvm.MethodName) method_4_code (2 : Nat) (Option.some (Jvm.ClassFile.FieldType.array Jvm.ClassFile.FieldType.char)), Jvm.Cond.code ({ cls := "com/example/handlewright/handlewright/DomainStatusFindPinLaw", name := "shortChars", desc := "(ICCC)[C" } : Jvm.MethodName) method_7_code (4 : Nat) (Option.some (Jvm.ClassFile.FieldType.array Jvm.ClassFile.FieldType.char)), Jvm.Cond.code ({ cls := "com/example/handlewright/handlewright/DomainStatusFindPinLaw", name := "cut", desc := "(I)[C" } : Jvm.MethodName) method_6_code (1 : Nat) (Option.some (Jvm.ClassFile.FieldType.array Jvm.ClassFile.FieldType.char)), Jvm.Cond.code ({ cls := "java/lang/StringUTF16", name := "toBytes", desc := "([CII)[B" } : Jvm.MethodName) jdk_52_method_14_code (5 : Nat) (Option.some (Jvm.ClassFile.FieldType.array Jvm.ClassFile.FieldType.byte)), Jvm.Cond.code ({ cls := "java/lang/StringUTF16", name := "newBytesFor", desc := "(I)[B" } : Jvm.MethodName) jdk_52_method_2_code (1 : Nat) (Option.some (Jvm.ClassFile.FieldType.array Jvm.ClassFile.FieldType.byte)), Jvm.Cond.code ({ cls := "java/lang/StringUTF16", name := "newBytesLength", desc := "(I)I" } : Jvm.MethodName) jdk_52_method_3_code (1 : Nat) (Option.some Jvm.ClassFile.FieldType.int), Jvm.Cond.code ({ cls := "java/lang/StringUTF16", name := "putChar", desc := "([BII)V" } : Jvm.MethodName) jdk_52_method_4_code (3 : Nat) (Option.none : Option Jvm.ClassFile.FieldType), Jvm.Cond.code ({ cls := "java/lang/StringUTF16", name := "getChar", desc := "([BI)C" } : Jvm.MethodName) jdk_52_method_5_code (2 : Nat) (Option.some Jvm.ClassFile.FieldType.char)]
set_option maxRecDepth 65536 in
theorem codes_eq : words1.filter isCode = codes1 := rfl
theorem w_codes : ∀ c ∈ words1.filter isCode, c.before args0 about1 = true := by
  rw [codes_eq]
  intro c hc
  simp only [codes1, List.mem_cons, List.not_mem_nil, or_false] at hc
  rcases hc with rfl | rfl | rfl | rfl | rfl | rfl | rfl | rfl | rfl | rfl | rfl | rfl | rfl | rfl | rfl | rfl | rfl | rfl | rfl | rfl | rfl | rfl
  · exact w_c0
  · exact w_c1
  · exact w_c2
  · exact w_c3
  · exact w_c4
  · exact w_c5
  · exact w_c6
  · exact w_c7
  · exact w_c8
  · exact w_c9
  · exact w_c10
  · exact w_c11
  · exact w_c12
  · exact w_c13
  · exact w_c14
  · exact w_c15
  · exact w_c16
  · exact w_c17
  · exact w_c18
  · exact w_c19
  · exact w_c20
  · exact w_c21
set_option maxRecDepth 65536 in
theorem w_t1 : (words1.take 24).all (fun c => isCode c || c.before args0 about1) = true := by decide +kernel
set_option maxRecDepth 65536 in
theorem w_t2 : ((words1.drop 24).take 24).all (fun c => isCode c || c.before args0 about1) = true := by decide +kernel
set_option maxRecDepth 65536 in
theorem w_t3 : (((words1.drop 24).drop 24).take 24).all (fun c => isCode c || c.before args0 about1) = true := by decide +kernel
set_option maxRecDepth 65536 in
theorem w_t4 : ((((words1.drop 24).drop 24).drop 24).take 24).all (fun c => isCode c || c.before args0 about1) = true := by decide +kernel
set_option maxRecDepth 65536 in
theorem w_t5 : ((((words1.drop 24).drop 24).drop 24).drop 24).all (fun c => isCode c || c.before args0 about1) = true := by decide +kernel
theorem w_tables : (allAtoms (Jvm.Cond.code x code maxLocals ret :: tables_1)).before args0 about1 = true := by
  rw [allAtoms_all]
  show words1.all (fun c => c.before args0 about1) = true
  refine all_split ?_ w_codes
  rw [← List.take_append_drop 24 words1, List.all_append, w_t1, ← List.take_append_drop 24 (words1.drop 24), List.all_append, w_t2, ← List.take_append_drop 24 ((words1.drop 24).drop 24), List.all_append, w_t3, ← List.take_append_drop 24 (((words1.drop 24).drop 24).drop 24), List.all_append, w_t4, w_t5]
  rfl
set_option maxRecDepth 65536 in
theorem w_rest : rest_1_c.before args0 about1 = true := by decide +kernel
set_option maxRecDepth 65536 in
theorem w_case : (Jvm.Cond.and given_1 narrow_1).before args0 about1 = true := by decide +kernel
set_option maxRecDepth 65536 in
theorem w_consts : constsHeld consts_1 about1 := Jvm.Lit.constsHeldB_iff.mp (by decide +kernel)
theorem w_applies : (headSpec (Jvm.Cond.code x code maxLocals ret :: tables_1) room_1).applies x e0.platform about1 = true :=
  (Spec.applies_iff w_frames).mpr ⟨w_running, w_runnable, w_alone, w_named, w_hears, w_ripe, w_room, w_tables⟩
theorem atStart : AtStart classFile x code maxLocals ret World_1 tables_1 room_1 Calls_1 rest_1 Pre_1 launch0 p0 e0 about1 theMethod args0 below0 :=
  ⟨lists_1, trivial, launch0.admits_env _ _ _, launch0.least_env, fairChoices_fair.cas, fairChoices_fair.clock, w_frames, w_args, w_heap, w_applies, ⟨w_consts, trivial⟩, w_rest, w_case⟩
end start1
theorem witness_1 : WitnessClaimed_1 := ⟨start1.p0, start1.e0, start1.about1, start1.theMethod, start1.args0, start1.below0, start1.atStart⟩
end Jvm.Pilot.@@N@@
