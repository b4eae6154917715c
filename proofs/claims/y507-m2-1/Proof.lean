import JvmDerived
import JvmDerived.Pilot.@@N@@Statement
import JvmDerived.Pilot.@@N@@Code
set_option linter.unusedVariables false
set_option linter.unusedSimpArgs false
namespace Jvm.Pilot.@@N@@
open Jvm Jvm.ClassFile Sem Op Lib Jvm.Free Jvm.Stand Jvm.LawKit Jvm.RoadKit Bundle Jvm.Pilot.@@N@@.Jvm.D
section OwnKit
variable {p : Program} {l : Launch} {e : Env} {R : Room} {s : State} {m : MethodId} {args : Array Value} {below : List Frame} {meth : Method} {c : Code} {T : State} {locs : List Loc} {cells slots : Nat}
/-- the contract of a body at given arguments and a given heap -/
def own_Con (l : Launch) (Z : State) (y : MethodName) (bytes : ByteArray) (maxL : Nat) (ret : Option FieldType) (ws : List Jvm.Cond) (rm : Room) (as' : Array Value) (h0 : Heap) (Q : Option Value → Heap → List Loc → Prop) : Prop :=
  MetFree l y (head1 (Jvm.Cond.code y bytes maxL ret :: ws) rm) (fun a U => a = as' ∧ Z.Warmed39 U.vm ∧ U.heap = h0) (fun _ _ _ _ _ => True) (fun _ U o U' => ∃ v L, o = .returned v ∧ Q v U'.heap L ∧ FrameEnd U o U' L rm.cells rm.slots)
/-- G holds of a state where the walk is owed; it goes backwards over steps -/
def own_Bk (p : Program) (e : Env) (below : List Frame) (G : State → Prop) : Prop := ∀ S S', (∀ t, Steps p.tables e below S' t → Steps p.tables e below S t) → G S' → G S
/-- a walk may end where its body returns -/
def own_Rt (p : Program) (l : Launch) (e : Env) (rm : Room) (s : State) (m : MethodId) (as' : Array Value) (below : List Frame) (meth : Method) (c : Code) (ret : Option FieldType) (Q : Option Value → Heap → List Loc → Prop) (G : State → Prop) : Prop :=
  ∀ T locs cells slots v S, Stand p l e rm s m as' below meth c T locs cells slots → cells ≤ rm.cells → slots ≤ rm.slots → (ret = none → v = none) → Q v T.heap locs →
    (∀ fs, (∀ (f : JFrame) (acts : List Action), f.method = m → f.locked = none → f.entered = [] → (doReturn e (T.setTop f) acts v).1 = T.setFrames fs) → Steps p.tables e below S (T.setFrames fs)) → G S
theorem own_intro {Z : State} {y : MethodName} {bytes : ByteArray} {maxL : Nat} {ret : Option FieldType} {ws : List Jvm.Cond} {rm : Room} {as' : Array Value} {h0 : Heap} {Q : Option Value → Heap → List Loc → Prop} (hpn : plainFor y = true)
    (H : ∀ (p : Program) (e : Env) (s : State) (m : MethodId) (below : List Frame) (meth : Method) (c : Code) (s₁ : State) (G : State → Prop), p.tables.exec = Jvm.exec → c.code = bytes → c.maxLocals = maxL → s.vm.findClass y.cls = some m.cls → meth.name = y.name → meth.sig.returnType = ret → Z.Warmed39 s.vm →
      Stand p l e rm s m as' below meth c s₁ [] 0 0 → s₁.heap = h0 → own_Bk p e below G → own_Rt p l e rm s m as' below meth c ret Q G → G (s₁.setTop (entryFrame m as' maxL))) : own_Con l Z y bytes maxL ret ws rm as' h0 Q := by
  refine MetFree.of_bodySF hpn hisR ?_
  intro p e s m args below meth c s₁ Bd hml hP hK
  obtain ⟨rfl, hZ, hh⟩ := hP
  refine H p e s m below meth c s₁ (fun S => ∃ s₂ o, Steps p.tables e below S s₂ ∧ s₂.status = .running ∧ Ended s₂ below o ∧ ∃ v L, o = .returned v ∧ Q v s₂.heap L ∧ FrameEnd s o s₂ L rm.cells rm.slots) Bd.exec Bd.bytes hml (findClass_of_methodNamed Bd.named) (name_of_methodNamed Bd.named Bd.method).1 Bd.returns hZ (Stand.of_body Bd) (by rw [← hh, Bd.state]; rfl) ?_ ?_
  · rintro S S' st ⟨s₂, o, h1, h2⟩
    exact ⟨s₂, o, st _ h1, h2⟩
  · intro T locs cells slots v S X hc hs hv hQ hst
    obtain ⟨fs, hr, hrun, hended, hW, hsame⟩ := X.leave (v := v) (fun h => hv (Bd.returns ▸ h))
    exact ⟨_, _, hst fs hr, hrun, hended, v, locs, rfl, hQ, ⟨_, rfl⟩, hW, hsame.mono hc hs⟩
section Rets
variable {Q : Option Value → Heap → List Loc → Prop} {G : State → Prop} {ret : Option FieldType} {pc : Nat} {Ls : Array Slot} {rest : List Value}
theorem own_retV (hR : own_Rt p l e R s m args below meth c none Q G) (hret : meth.sig.returnType = none) (X : Stand p l e R s m args below meth c T locs cells slots) (hx : p.tables.exec = Jvm.exec) (hd : decode c.code pc = .ok (.return_, 1)) (hc : cells ≤ R.cells) (hs : slots ≤ R.slots) (hQ : Q none T.heap locs) : G (T.setTop (mkF m pc Ls [])) :=
  hR T locs cells slots none _ X hc hs (fun _ => rfl) hQ fun fs hr => X.returnOut hx hret hd hr
theorem own_retA {t : FieldType} {v : Value} (hR : own_Rt p l e R s m args below meth c (some t) Q G) (hret : meth.sig.returnType = some t) (ht : t.isReference = true) (hv : v.isRef = true) (X : Stand p l e R s m args below meth c T locs cells slots) (hx : p.tables.exec = Jvm.exec) (hd : decode c.code pc = .ok (.areturn, 1)) (hc : cells ≤ R.cells) (hs : slots ≤ R.slots) (hQ : Q (some v) T.heap locs) : G (T.setTop (mkF m pc Ls (v :: rest))) :=
  hR T locs cells slots (some v) _ X hc hs (fun h => nomatch h) hQ fun fs hr => retOut X hx hret (by cases t <;> simp_all [FieldType.isReference, narrow]) (Or.inr (Or.inr (Or.inr (Or.inr ⟨rfl, ht, hv⟩)))) hd hr
theorem own_retI {z : Int32} (hR : own_Rt p l e R s m args below meth c (some .int) Q G) (hret : meth.sig.returnType = some .int) (X : Stand p l e R s m args below meth c T locs cells slots) (hx : p.tables.exec = Jvm.exec) (hd : decode c.code pc = .ok (.ireturn, 1)) (hc : cells ≤ R.cells) (hs : slots ≤ R.slots) (hQ : Q (some (.int z)) T.heap locs) : G (T.setTop (mkF m pc Ls (.int z :: rest))) :=
  hR T locs cells slots (some (.int z)) _ X hc hs (fun h => nomatch h) hQ fun fs hr => retOut X hx hret rfl (Or.inl ⟨rfl, Or.inl rfl, z, rfl⟩) hd hr
theorem own_retL {z : Int64} (hR : own_Rt p l e R s m args below meth c (some .long) Q G) (hret : meth.sig.returnType = some .long) (X : Stand p l e R s m args below meth c T locs cells slots) (hx : p.tables.exec = Jvm.exec) (hd : decode c.code pc = .ok (.lreturn, 1)) (hc : cells ≤ R.cells) (hs : slots ≤ R.slots) (hQ : Q (some (.long z)) T.heap locs) : G (T.setTop (mkF m pc Ls (.long z :: rest))) :=
  hR T locs cells slots (some (.long z)) _ X hc hs (fun h => nomatch h) hQ fun fs hr => retOut X hx hret rfl (Or.inr (Or.inl ⟨rfl, rfl, z, rfl⟩)) hd hr
theorem own_retN {z : Int32} {t : FieldType} (hR : own_Rt p l e R s m args below meth c (some t) Q G) (hret : meth.sig.returnType = some t) (ht : t = .boolean ∨ t = .byte ∨ t = .char ∨ t = .short) (X : Stand p l e R s m args below meth c T locs cells slots) (hx : p.tables.exec = Jvm.exec) (hd : decode c.code pc = .ok (.ireturn, 1)) (hc : cells ≤ R.cells) (hs : slots ≤ R.slots) (hQ : Q (some (.int (nar t z))) T.heap locs) : G (T.setTop (mkF m pc Ls (.int z :: rest))) :=
  hR T locs cells slots (some (.int (nar t z))) _ X hc hs (fun h => nomatch h) hQ fun fs hr => retN X hx hret ht hd hr
end Rets
section Calls
variable {Z : State} {a0 : Array Value} {own : String} {index : Nat} {y z : MethodName} {bytes : ByteArray} {maxL : Nat} {ret : Option FieldType} {rm : Room} {as' : Array Value} {h : Heap} {Q : Option Value → Heap → List Loc → Prop} {G : State → Prop} {pc : Nat} {Ls : Array Slot} {stk argsL rest : List Value}
theorem own_callS (X : Stand p l e R s m args below meth c T locs cells slots) (hx : p.tables.exec = Jvm.exec) (hZ : Z.Warmed39 s.vm) (hG : own_Bk p e below G) (hown : s.vm.findClass own = some m.cls)
    (w1 : (Jvm.Cond.methodLink own index y).before a0 Z = true) (w2 : (Jvm.Cond.static y).before a0 Z = true) (w3 : (Jvm.Cond.initialized y.cls).before a0 Z = true) (w4 : (Jvm.Cond.code y bytes maxL ret).before a0 Z = true)
    (hy : y.cls ≠ "java/lang/invoke/MethodHandle" ∧ y.cls ≠ "java/lang/invoke/VarHandle") (W : Nat) (hM : own_Con l Z y bytes maxL ret [] rm as' h Q) (hf : rm.frames + 1 ≤ R.frames) (hlo : W + (maxL + 11) + rm.locals ≤ R.locals) (eT : T.heap = h)
    (hsize : Ls.size = c.maxLocals) (hlen : ∀ sig, parseMethodDescriptor y.desc = some sig → argsL.length = sig.parameters.length) (has : argsL.toArray = as') (hst : stk = argsL.reverse ++ rest) (hW : (rest.map fun v => v.category).sum ≤ W)
    (hd : decode c.code pc = .ok (.invokestatic index, 3)) (hc : cells + rm.cells ≤ R.cells) (hs : slots + rm.slots ≤ R.slots)
    (k : ∀ T' h' v L, Stand p l e R s m args below meth c T' (locs ++ L) (cells + rm.cells) (slots + rm.slots) → T'.heap = h' → Q v h' L → G (T'.setTop (mkF m (pc + 3) Ls (v.toList ++ rest)))) : G (T.setTop (mkF m pc Ls stk)) := by
  obtain ⟨v, _, ⟨T1, L1, k1, n1⟩, -, X1, ⟨L, hQ, rfl, rfl, rfl⟩, st⟩ := Jvm.LawKit.callS X hx (y := y) hown (mvT hZ w1) (mvT hZ w2) (mvT hZ w3) (mvT hZ w4) hy (backOf (W := W) hM hZ w4 w3 hf hlo) (g := mkF m pc Ls stk) rfl hsize (argsL := argsL) (rest := rest) hlen hst (by show 2 * 0 + _ ≤ _; rw [Nat.mul_zero, Nat.zero_add]; exact hW) hd (fun _ _ => ⟨has, eT, hc, hs⟩)
  exact hG _ _ st (k T1 _ v L X1 rfl hQ)
theorem own_callI (X : Stand p l e R s m args below meth c T locs cells slots) (hx : p.tables.exec = Jvm.exec) (hZ : Z.Warmed39 s.vm) (hG : own_Bk p e below G) (hown : s.vm.findClass own = some m.cls) (hy1 : y.name = "<init>")
    (w1 : (Jvm.Cond.methodLink own index y).before a0 Z = true) (w2 : (Jvm.Cond.instanceMethod y).before a0 Z = true) (w3 : (Jvm.Cond.initialized y.cls).before a0 Z = true) (w4 : (Jvm.Cond.code y bytes maxL none).before a0 Z = true)
    (hy : y.cls ≠ "java/lang/invoke/MethodHandle" ∧ y.cls ≠ "java/lang/invoke/VarHandle") (W : Nat) (hM : own_Con l Z y bytes maxL none [] rm as' h Q) (hf : rm.frames + 1 ≤ R.frames) (hlo : W + (maxL + 11) + rm.locals ≤ R.locals) (eT : T.heap = h)
    (hsize : Ls.size = c.maxLocals) (hlen : ∀ sig, parseMethodDescriptor y.desc = some sig → argsL.length = sig.parameters.length) {a : Addr} (has : (.ref a :: argsL).toArray = as') (hst : stk = argsL.reverse ++ .ref a :: rest) (hW : (rest.map fun v => v.category).sum ≤ W)
    (hd : decode c.code pc = .ok (.invokespecial index, 3)) (hc : cells + rm.cells ≤ R.cells) (hs : slots + rm.slots ≤ R.slots)
    (k : ∀ T' h' v L, Stand p l e R s m args below meth c T' (locs ++ L) (cells + rm.cells) (slots + rm.slots) → T'.heap = h' → Q v h' L → G (T'.setTop (mkF m (pc + 3) Ls (v.toList ++ rest)))) : G (T.setTop (mkF m pc Ls stk)) := by
  obtain ⟨v, _, ⟨T1, L1, k1, n1⟩, -, X1, ⟨L, hQ, rfl, rfl, rfl⟩, st⟩ := X.specialBack hx (y := y) hy1 hown (mvT hZ w1) (mvT hZ w2) (mvT hZ w4) hy (backOf (W := W) hM hZ w4 w3 hf hlo) (g := mkF m pc Ls stk) rfl hsize (Steps.refl _) (a := a) (argsL := argsL) (rest := rest) hlen hst (by show 2 * 0 + _ ≤ _; rw [Nat.mul_zero, Nat.zero_add]; exact hW) hd (fun _ _ => ⟨has, eT, hc, hs⟩)
  exact hG _ _ (fun t kk => st.trans kk) (k T1 _ v L X1 rfl hQ)
theorem own_callV {C : String} (X : Stand p l e R s m args below meth c T locs cells slots) (hx : p.tables.exec = Jvm.exec) (hZ : Z.Warmed39 s.vm) (hG : own_Bk p e below G) (hown : s.vm.findClass own = some m.cls)
    (w1 : (Jvm.Cond.methodLink own index y).before a0 Z = true) (w2 : (Jvm.Cond.declares y).before a0 Z = true) (w3 : (Jvm.Cond.selects C y y).before a0 Z = true) (w4 : (Jvm.Cond.instanceMethod y).before a0 Z = true) (w5 : (Jvm.Cond.initialized y.cls).before a0 Z = true) (w6 : (Jvm.Cond.code y bytes maxL ret).before a0 Z = true)
    (hy : y.cls ≠ "java/lang/invoke/MethodHandle" ∧ y.cls ≠ "java/lang/invoke/VarHandle") (W : Nat) (hM : own_Con l Z y bytes maxL ret [] rm as' h Q) (hf : rm.frames + 1 ≤ R.frames) (hlo : W + (maxL + 11) + rm.locals ≤ R.locals) (eT : T.heap = h) {b : Addr} (E : Exa Z h b C)
    (hsize : Ls.size = c.maxLocals) (hlen : ∀ sig, parseMethodDescriptor y.desc = some sig → argsL.length = sig.parameters.length) (has : (.ref b :: argsL).toArray = as') (hst : stk = argsL.reverse ++ .ref b :: rest) (hW : (rest.map fun v => v.category).sum ≤ W)
    (hd : decode c.code pc = .ok (.invokevirtual index, 3)) (hc : cells + rm.cells ≤ R.cells) (hs : slots + rm.slots ≤ R.slots)
    (k : ∀ T' h' v L, Stand p l e R s m args below meth c T' (locs ++ L) (cells + rm.cells) (slots + rm.slots) → T'.heap = h' → Q v h' L → G (T'.setTop (mkF m (pc + 3) Ls (v.toList ++ rest)))) : G (T.setTop (mkF m pc Ls stk)) := by
  obtain ⟨cq, kq, qa, qb, qc⟩ := isOf hZ eT E
  obtain ⟨v, _, ⟨T1, L1, k1, n1⟩, -, X1, ⟨L, hQ, rfl, rfl, rfl⟩, st⟩ := X.virtualBack hx (y := y) (z := y) hown (mvT hZ w1) (mvT hZ w2) (notFace_of_selects (args := #[]) (mvT hZ w3)) (mvT hZ w3) (mvT hZ w4) hy (backOf (W := W) hM hZ w6 w5 hf hlo) qa qc (g := mkF m pc Ls stk) rfl hsize (Steps.refl _) (argsL := argsL) (rest := rest) hlen hst (by show 2 * 0 + _ ≤ _; rw [Nat.mul_zero, Nat.zero_add]; exact hW) hd (fun _ _ => ⟨has, eT, hc, hs⟩)
  exact hG _ _ (fun t kk => st.trans kk) (k T1 _ v L X1 rfl hQ)
theorem own_callP (X : Stand p l e R s m args below meth c T locs cells slots) (hx : p.tables.exec = Jvm.exec) (hZ : Z.Warmed39 s.vm) (hG : own_Bk p e below G) (hown : s.vm.findClass own = some m.cls)
    (w1 : (Jvm.Cond.methodLink own index y).before a0 Z = true) (w2 : (Jvm.Cond.instanceMethod y).before a0 Z = true) (w3 : (Jvm.Cond.selects y.cls y y).before a0 Z = true) (wp : (Jvm.Cond.privateMethod y).before a0 Z = true) (w5 : (Jvm.Cond.initialized y.cls).before a0 Z = true) (w6 : (Jvm.Cond.code y bytes maxL ret).before a0 Z = true)
    (hy : y.cls ≠ "java/lang/invoke/MethodHandle" ∧ y.cls ≠ "java/lang/invoke/VarHandle") (W : Nat) (hM : own_Con l Z y bytes maxL ret [] rm as' h Q) (hf : rm.frames + 1 ≤ R.frames) (hlo : W + (maxL + 11) + rm.locals ≤ R.locals) (eT : T.heap = h) {b : Addr} {C : String} (E : Exa Z h b C)
    (hsize : Ls.size = c.maxLocals) (hlen : ∀ sig, parseMethodDescriptor y.desc = some sig → argsL.length = sig.parameters.length) (has : (.ref b :: argsL).toArray = as') (hst : stk = argsL.reverse ++ .ref b :: rest) (hW : (rest.map fun v => v.category).sum ≤ W)
    (hd : decode c.code pc = .ok (.invokevirtual index, 3)) (hc : cells + rm.cells ≤ R.cells) (hs : slots + rm.slots ≤ R.slots)
    (k : ∀ T' h' v L, Stand p l e R s m args below meth c T' (locs ++ L) (cells + rm.cells) (slots + rm.slots) → T'.heap = h' → Q v h' L → G (T'.setTop (mkF m (pc + 3) Ls (v.toList ++ rest)))) : G (T.setTop (mkF m pc Ls stk)) := by
  obtain ⟨cell, hc1, hc2⟩ := (Ins.self E).cell
  obtain ⟨v, _, ⟨T1, L1, k1, n1⟩, -, X1, ⟨L, hQ, rfl, rfl, rfl⟩, st⟩ := X.privateBack hx (y := y) hown (mvT hZ w1) (mvT hZ w2) (mvT hZ w3) (Cond.privateMethod_at (mvP hZ wp (args := #[]))) (mvT hZ w6) hy (backOf (W := W) hM hZ w6 w5 hf hlo) (g := mkF m pc Ls stk) rfl hsize (Steps.refl _) (a := b) (by rw [eT]; exact hc1) hc2 (argsL := argsL) (rest := rest) hlen hst (by show 2 * 0 + _ ≤ _; rw [Nat.mul_zero, Nat.zero_add]; exact hW) hd (fun _ _ => ⟨has, eT, hc, hs⟩)
  exact hG _ _ (fun t kk => st.trans kk) (k T1 _ v L X1 rfl hQ)
theorem own_callF {C : String} {count : Nat} (X : Stand p l e R s m args below meth c T locs cells slots) (hx : p.tables.exec = Jvm.exec) (hZ : Z.Warmed39 s.vm) (hG : own_Bk p e below G) (hown : s.vm.findClass own = some m.cls)
    (w1 : (Jvm.Cond.methodLink own index z).before a0 Z = true) (w2 : (Jvm.Cond.declares z).before a0 Z = true) (wf : ∀ s' : State, Z.Warmed39 s'.vm → (Jvm.Cond.interfaceMethod z.cls z.cls z.name z.desc).before args s' = true) (w3 : (Jvm.Cond.selects C z y).before a0 Z = true) (w4 : (Jvm.Cond.instanceMethod y).before a0 Z = true) (wp : (Jvm.Cond.publicMethod y).before a0 Z = true) (wu : (Jvm.Cond.unhidden C z.name z.desc).before a0 Z = true) (wc : (Jvm.Cond.castable C z.cls).before a0 Z = true) (w5 : (Jvm.Cond.initialized y.cls).before a0 Z = true) (w6 : (Jvm.Cond.code y bytes maxL ret).before a0 Z = true)
    (hy : z.cls ≠ "java/lang/invoke/MethodHandle" ∧ z.cls ≠ "java/lang/invoke/VarHandle") (W : Nat) (hM : own_Con l Z y bytes maxL ret [] rm as' h Q) (hf : rm.frames + 1 ≤ R.frames) (hlo : W + (maxL + 11) + rm.locals ≤ R.locals) (eT : T.heap = h) {b : Addr} (E : Exa Z h b C)
    (hsize : Ls.size = c.maxLocals) (hlen : ∀ sig, parseMethodDescriptor z.desc = some sig → argsL.length = sig.parameters.length) (has : (.ref b :: argsL).toArray = as') (hst : stk = argsL.reverse ++ .ref b :: rest) (hW : (rest.map fun v => v.category).sum ≤ W)
    (hd : decode c.code pc = .ok (.invokeinterface index count, 5)) (hc : cells + rm.cells ≤ R.cells) (hs : slots + rm.slots ≤ R.slots)
    (k : ∀ T' h' v L, Stand p l e R s m args below meth c T' (locs ++ L) (cells + rm.cells) (slots + rm.slots) → T'.heap = h' → Q v h' L → G (T'.setTop (mkF m (pc + 5) Ls (v.toList ++ rest)))) : G (T.setTop (mkF m pc Ls stk)) := by
  obtain ⟨cq, kq, qa, qb, qc⟩ := isOf hZ eT E
  obtain ⟨v, _, ⟨T1, L1, k1, n1⟩, -, X1, ⟨L, hQ, rfl, rfl, rfl⟩, st⟩ := X.interfaceBack hx (xi := z) (y := y) hown (mvT hZ w1) (mvT hZ w2) (wf s hZ) (mvT hZ w3) (mvT hZ w4) (mvT hZ wp) (mvT hZ wu) (mvT hZ wc) hy (backOf (W := W) hM hZ w6 w5 hf hlo) qa qb qc (g := mkF m pc Ls stk) rfl hsize (Steps.refl _) (argsL := argsL) (rest := rest) hlen hst (by show 2 * 0 + _ ≤ _; rw [Nat.mul_zero, Nat.zero_add]; exact hW) hd (fun _ _ => ⟨has, eT, hc, hs⟩)
  exact hG _ _ (fun t kk => st.trans kk) (k T1 _ v L X1 rfl hQ)
end Calls
theorem own_entry {G : State → Prop} {n : Nat} {Ls : Array Slot} (q : entryFrame m args n = mkF m 0 Ls []) (k : G (T.setTop (mkF m 0 Ls []))) : G (T.setTop (entryFrame m args n)) := q ▸ k
abbrev own_Old (Z : State) (h : Heap) : Prop := Old Z Z.heap.size h
abbrev own_Fr (Z : State) (L : List Loc) : Prop := Fr Z.heap.size L
theorem own_ge {Z : State} {h : Heap} (O : own_Old Z h) {b : Addr} (q : h.size ≤ b) : Z.heap.size ≤ b := Nat.le_trans O.2.1 q
theorem own_sta {Z : State} {h : Heap} {C n d : String} {v : Value} (S : Sta Z Z.heap C n d v) (O : own_Old Z h) : Sta Z h C n d v := S.ext O.2
theorem own_ne {h : Heap} {a b : Addr} (q : a < h.size) (r : h.size ≤ b) : a ≠ b := Nat.ne_of_lt (Nat.lt_of_lt_of_le q r)
end OwnKit
theorem own_toInt {i : Nat} (h : i < 2147483648) : (Int32.ofNat i).toInt = i := Int32.toInt_ofNat_of_lt (by omega)
theorem own_clamp {i : Nat} (h : i < 2147483648) : (Int32.ofNat i).toNatClampNeg = i := by
  show ((Int32.ofNat i).toInt).toNat = i
  rw [own_toInt h]; rfl
theorem own_inc (i : Nat) : Int32.ofNat i + 1 = Int32.ofNat (i + 1) := (Int32.ofNat_add i 1).symm
theorem own_nn {i : Nat} (h : i < 2147483648) : ¬ Int32.ofNat i < 0 := by
  rw [Int32.lt_iff_toInt_lt, own_toInt h]; simp
theorem own_lt {i n : Nat} (h : i < n) (hn : n < 2147483648) : Int32.ofNat i < Int32.ofNat n := by
  rw [Int32.lt_iff_toInt_lt, own_toInt (by omega), own_toInt hn]; omega
theorem own_nlt {i n : Nat} (h : n ≤ i) (hi : i < 2147483648) : ¬ Int32.ofNat i < Int32.ofNat n := by
  rw [Int32.lt_iff_toInt_lt, own_toInt hi, own_toInt (by omega)]; omega
theorem own_ofNat_inj {i n : Nat} (hi : i < 2147483648) (hn : n < 2147483648) (h : Int32.ofNat i = Int32.ofNat n) : i = n := by
  have := congrArg Int32.toInt h
  rw [own_toInt hi, own_toInt hn] at this; omega
theorem own_getD_set {α : Type} (vs : List α) (i j : Nat) (x d : α) (h : i < vs.length) : (vs.set i x).getD j d = if j = i then x else vs.getD j d := by
  simp only [List.getD_eq_getElem?_getD, List.getElem?_set]
  by_cases e : i = j
  · subst e; simp [h]
  · simp [e, Ne.symm e]
theorem own_getD_map {α β : Type} (f : α → β) (cs : List α) (j : Nat) (d : β) (e : α) (h : j < cs.length) : (cs.map f).getD j d = f (cs.getD j e) := by
  simp [List.getD_eq_getElem?_getD, List.getElem?_map, h]
theorem own_mapEq {α β : Type} (f : α → β) (cs : List α) (vs : List β) (d : β) (e : α) (hl : vs.length = cs.length) (h : ∀ j, j < cs.length → vs.getD j d = f (cs.getD j e)) : vs = cs.map f := by
  apply List.ext_getElem (by simpa using hl)
  intro j h1 h2
  have q := h j (by simpa using h2)
  have h3 : j < cs.length := by simpa using h2
  simp [List.getD_eq_getElem?_getD, h1, h3] at q
  simpa using q
theorem own_narR {t : FieldType} {v : Value} (ht : t.isReference = true) (hv : v.isRef = true) : narrow t v = v := by cases t <;> simp_all [FieldType.isReference, narrow]
theorem own_nb (x : Int32) : nar .byte x.toInt8.toInt32 = x.toInt8.toInt32 := by
  show x.toInt8.toInt32.toInt8.toInt32 = _
  rw [Int8.toInt8_toInt32]
theorem own_nc (x : Int32) : nar .char x.toUInt32.toUInt16.toUInt32.toInt32 = x.toUInt32.toUInt16.toUInt32.toInt32 := by
  simp only [nar, UInt32.toUInt32_toInt32, UInt16.toUInt16_toUInt32]
theorem own_getD_mem {α : Type} (cs : List α) (i : Nat) (d : α) (h : i < cs.length) : cs.getD i d ∈ cs := by
  rw [List.getD_eq_getElem?_getD, List.getElem?_eq_getElem h]; exact List.getElem_mem h
theorem own_alln {α : Type} {P : α → Prop} : ∀ c ∈ ([] : List α), P c := fun _ q => nomatch q
theorem own_allc {α : Type} {P : α → Prop} {x : α} {L : List α} (q : P x) (r : ∀ c ∈ L, P c) : ∀ c ∈ x :: L, P c := fun c z => (List.mem_cons.mp z).elim (fun u => u ▸ q) (r c)
theorem own_and255 (x : Int32) : 0 ≤ (x &&& 255).toInt ∧ (x &&& 255).toInt ≤ 255 := by
  rw [c_mask x 255 8 (by decide) (by decide)]
  have h1 := Int.emod_nonneg x.toInt (show ((2 ^ 8 : Nat) : Int) ≠ 0 by decide)
  have h2 := Int.emod_lt_of_pos x.toInt (show (0 : Int) < ((2 ^ 8 : Nat) : Int) by decide)
  omega
theorem own_mask8 {x c : Int32} (h : (x &&& 255).toUInt32.toUInt16.toUInt32.toInt32 = c) : 0 ≤ c.toInt ∧ c.toInt ≤ 255 := by
  rw [i2c_mask] at h; subst h; exact own_and255 x
theorem own_narC {c : Int32} (h : 0 ≤ c.toInt ∧ c.toInt ≤ 65535) : nar .char c = c := by
  apply Int32.toInt_inj.mp
  have q := c_i2c c
  show c.toUInt32.toUInt16.toUInt32.toInt32.toInt = c.toInt
  omega
theorem own_le255 {c : Int32} (h : 0 ≤ c.toInt ∧ c.toInt ≤ 255) : ¬ ((255 : Int32) < c) := by
  rw [Int32.lt_iff_toInt_lt]
  have : (255 : Int32).toInt = 255 := by decide
  omega
theorem own_nar8 {c : Int32} (h : 0 ≤ c.toInt ∧ c.toInt ≤ 255) : ¬ ((255 : Int32) < nar .char c) := by
  rw [own_narC ⟨h.1, by omega⟩]; exact own_le255 h
theorem own_setNext {vs : List Value} {cs : List Int32} {i : Nat} (f : Int32 → Value) (d x : Value) (hi : i < vs.length) (hx : x = f (cs.getD i 0)) (hv : ∀ j, j < i → vs.getD j d = f (cs.getD j 0)) : ∀ j, j < i + 1 → (vs.set i x).getD j d = f (cs.getD j 0) := by
  intro j hj
  rw [own_getD_set _ _ _ _ _ hi]
  by_cases e : j = i
  · subst e; rw [if_pos rfl]; exact hx
  · rw [if_neg e]; exact hv j (by omega)
theorem own_fitR {t : FieldType} {v : Value} (ht : t.isReference = true) (hv : v.isRef = true) : fits t v = true := by
  rcases ref_cases hv with rfl | ⟨a, rfl⟩ <;> cases t <;> simp_all [FieldType.isReference, fits]
theorem own_fitC {c : Int32} (h : 0 ≤ c.toInt ∧ c.toInt ≤ 65535) : fits .char (.int c) = true := by
  have q := fits_nar_char c
  rw [own_narC h] at q; exact q
theorem own_zero1 : (0 : Int32) + (1 : Int32) = (1 : Int32) := by decide
theorem own_emptyArv {s : State} {args : Array Value} {t : Term} {a : Addr} {cl : Cell} {ty : FieldType} {dv : Value} (hf : Fit s) (ev : t.eval args s none [] s = some (.ref a)) (A : Arr s s.heap a cl ty) (hl : (Term.length t).eval args s none [] s = some (.int (0 : Int32))) : Arv s s.heap a cl.cls ty (0 : Int32) [] dv := by
  obtain ⟨x, cl', e1, e2, -⟩ := Term.length_spec hl
  cases ev.symm.trans e1
  have hc : s.arrayAt? a = some cl := A.fin (Vm.Alike.refl _)
  cases e2.symm.trans hc
  have h31 := Jvm.Free.SBG.length_lt e1 hc hl
  have e : (Term.length t).eval args s none [] s = some (.int (Int32.ofNat cl.slots.size)) := by simp [Term.eval, e1, hc, h31]
  have q : Int32.ofNat cl.slots.size = (0 : Int32) := by simpa using Option.some.inj (e.symm.trans hl)
  exact Arv.start hf A h31 q (by decide) rfl trivial
theorem own_sz {x n : Int32} (h : ((1 : Int32) + (x &&& (3 : Int32))) = n) : 1 ≤ n.toInt ∧ n.toInt ≤ 4 := by
  have q : (x &&& (3 : Int32)).toInt = x.toInt % (2 ^ 2 : Nat) := c_mask x 3 2 (by decide) (by decide)
  have e := c_iadd 1 (x &&& (3 : Int32)); rw [h] at e
  have e1 : (1 : Int32).toInt = 1 := by decide
  have r := rng32 n
  omega
theorem own_sz0 {n : Int32} (h : 1 ≤ n.toInt ∧ n.toInt ≤ 4) : n ≠ 0 := fun e => by rw [e] at h; exact absurd h.1 (by decide)
theorem own_ixr {x n r : Int32} (h : 1 ≤ n.toInt ∧ n.toInt ≤ 4) (hr : ((x &&& (2147483647 : Int32)) % n) = r) : 0 ≤ r.toInt ∧ r.toInt < n.toInt := by
  have q := c_and x 2147483647 (by decide)
  have c := (c_iremV (x &&& 2147483647) n).1 q.1 (by omega)
  rw [hr] at c
  exact ⟨c.1, c.2.1⟩
theorem own_szb {n k : Int32} {m : Int} (h : ¬ (k < n)) (hk : k.toInt = m) : n.toInt ≤ m := by
  rw [Int32.lt_iff_toInt_lt] at h; omega
theorem own_ix1 {i n : Int32} (h0 : 0 ≤ i.toInt) (h1 : i.toInt < n.toInt) (h2 : n.toInt ≤ 1) : i = (0 : Int32) := Int32.toInt_inj.mp (by have : (0 : Int32).toInt = 0 := (by decide); omega)
theorem own_ix2 {i n : Int32} (h0 : 0 ≤ i.toInt) (h1 : i.toInt < n.toInt) (h2 : n.toInt ≤ 2) : i = (0 : Int32) ∨ i = (1 : Int32) := by
  have e0 : (0 : Int32).toInt = 0 := by decide
  have e1 : (1 : Int32).toInt = 1 := by decide
  simp only [← Int32.toInt_inj]; omega
theorem own_ix3 {i n : Int32} (h0 : 0 ≤ i.toInt) (h1 : i.toInt < n.toInt) (h2 : n.toInt ≤ 3) : i = (0 : Int32) ∨ i = (1 : Int32) ∨ i = (2 : Int32) := by
  have e0 : (0 : Int32).toInt = 0 := by decide
  have e1 : (1 : Int32).toInt = 1 := by decide
  have e2 : (2 : Int32).toInt = 2 := by decide
  simp only [← Int32.toInt_inj]; omega
theorem own_ix4 {i n : Int32} (h0 : 0 ≤ i.toInt) (h1 : i.toInt < n.toInt) (h2 : n.toInt ≤ 4) : i = (0 : Int32) ∨ i = (1 : Int32) ∨ i = (2 : Int32) ∨ i = (3 : Int32) := by
  have e0 : (0 : Int32).toInt = 0 := by decide
  have e1 : (1 : Int32).toInt = 1 := by decide
  have e2 : (2 : Int32).toInt = 2 := by decide
  have e3 : (3 : Int32).toInt = 3 := by decide
  simp only [← Int32.toInt_inj]; omega
theorem ow {Z : State} {a0 : Array Value} (hw : ∀ d ∈ tables_1, d.before a0 Z = true) (i : Nat) {d : Jvm.Cond} (h : tables_1[i]? = some d) : d.before a0 Z = true := hw d (List.mem_of_getElem? h)
section OwnKitW
variable {p : Program} {l : Launch} {e : Env} {R : Room} {s : State} {m : MethodId} {args : Array Value} {below : List Frame} {meth : Method} {c : Code} {T : State} {locs : List Loc} {cells slots : Nat} {EL : List (String × Nat)} {Z : State} {a0 : Array Value}
/-- the contract of a body that may load String constants -/
def own_ConW (l : Launch) (Z : State) (EL : List (String × Nat)) (y : MethodName) (bytes : ByteArray) (maxL : Nat) (ret : Option FieldType) (ws : List Jvm.Cond) (rm : Room) (as' : Array Value) (h0 : Heap) (Q : Option Value → Heap → List Loc → Prop) : Prop :=
  MetFree l y (head1 (Jvm.Cond.code y bytes maxL ret :: ws) rm) (fun a U => a = as' ∧ Z.Warmed39 U.vm ∧ U.heap = h0 ∧ CHv Z EL U.vm h0) (fun _ _ _ _ _ => True) (fun _ U o U' => ∃ v L, o = .returned v ∧ Q v U'.heap L ∧ CHr Z EL U.vm U.heap U'.vm U'.heap ∧ ReturnedEndW U o U' L rm.cells rm.slots)
def own_RtW (p : Program) (l : Launch) (e : Env) (Z : State) (EL : List (String × Nat)) (rm : Room) (s : State) (m : MethodId) (as' : Array Value) (below : List Frame) (meth : Method) (c : Code) (ret : Option FieldType) (h0 : Heap) (Q : Option Value → Heap → List Loc → Prop) (G : State → Prop) : Prop :=
  ∀ T locs cells slots v S vm0 k0, Stand p l e rm (s.setVm vm0) m as' below meth c T locs cells slots → s.Since vm0 k0 → k0 ≤ T.heap.size → Z.Warmed39 vm0 → CHr Z EL s.vm h0 vm0 T.heap → cells ≤ rm.cells → slots ≤ rm.slots → (ret = none → v = none) → Q v T.heap locs →
    (∀ fs, (∀ (f : JFrame) (acts : List Action), f.method = m → f.locked = none → f.entered = [] → (doReturn e (T.setTop f) acts v).1 = T.setFrames fs) → Steps p.tables e below S (T.setFrames fs)) → G S
theorem own_introW {y : MethodName} {bytes : ByteArray} {maxL : Nat} {ret : Option FieldType} {ws : List Jvm.Cond} {rm : Room} {as' : Array Value} {h0 : Heap} {Q : Option Value → Heap → List Loc → Prop} (hEL : EW Z a0 EL) (hpn : plainFor y = true)
    (H : ∀ (p : Program) (e : Env) (s : State) (m : MethodId) (below : List Frame) (meth : Method) (c : Code) (s₁ : State) (G : State → Prop), p.tables.exec = Jvm.exec → c.code = bytes → c.maxLocals = maxL → (s.setVm s.vm).vm.findClass y.cls = some m.cls → meth.name = y.name → meth.sig.returnType = ret → Z.Warmed39 (s.setVm s.vm).vm →
      Stand p l e rm (s.setVm s.vm) m as' below meth c s₁ [] 0 0 → s₁.heap = h0 → CHv Z EL s.vm h0 → s.Since s.vm h0.size → own_Bk p e below G → own_RtW p l e Z EL rm s m as' below meth c ret h0 Q G → G (s₁.setTop (entryFrame m as' maxL))) : own_ConW l Z EL y bytes maxL ret ws rm as' h0 Q := by
  refine MetFree.of_bodySF hpn hisR ?_
  intro p e s m args below meth c s₁ Bd hml hP hK
  obtain ⟨rfl, hZ, hh, hC⟩ := hP
  refine H p e s m below meth c s₁ (fun S => ∃ s₂ o, Steps p.tables e below S s₂ ∧ s₂.status = .running ∧ Ended s₂ below o ∧ ∃ v L, o = .returned v ∧ Q v s₂.heap L ∧ CHr Z EL s.vm s.heap s₂.vm s₂.heap ∧ ReturnedEndW s o s₂ L rm.cells rm.slots) Bd.exec Bd.bytes hml (findClass_of_methodNamed Bd.named) (name_of_methodNamed Bd.named Bd.method).1 Bd.returns hZ (Stand.of_body Bd) (by rw [← hh, Bd.state]; rfl) hC ((State.WarmedH.refl s).since _) ?_ ?_
  · rintro S S' st ⟨s₂, o, h1, h2⟩
    exact ⟨s₂, o, st _ h1, h2⟩
  · intro T locs cells slots v S vm0 k0 X hS hk hZ0 hC0 hc hs hv hQ hst
    obtain ⟨fs, hr, hrun, hended, hW, hsame⟩ := X.leave (v := v) (fun h => hv (Bd.returns ▸ h)) Bd.notSynchronized
    obtain ⟨q1, q2, q3⟩ := hS.ended (U := T.setFrames fs) hW hk hsame
    have hA : CHr Z EL vm0 T.heap T.vm T.heap := CHv.at X hZ0 hEL hC0.1
    refine ⟨_, _, hst fs hr, hrun, hended, v, locs, rfl, hQ, ?_, ⟨_, rfl⟩, q1, q2, q3.mono hc hs⟩
    rw [hh]
    exact hC0.trans hA
section Rets
variable {Q : Option Value → Heap → List Loc → Prop} {G : State → Prop} {pc : Nat} {Ls : Array Slot} {rest : List Value} {h0 h : Heap} {vm0 : Vm} {k0 : Nat}
theorem own_retVW (hR : own_RtW p l e Z EL R s m args below meth c none h0 Q G) (hret : meth.sig.returnType = none) (X : Stand p l e R (s.setVm vm0) m args below meth c T locs cells slots) (hx : p.tables.exec = Jvm.exec) (hd : decode c.code pc = .ok (.return_, 1)) (eT : T.heap = h) (hS : s.Since vm0 k0) (hk : k0 ≤ h.size) (hZ : Z.Warmed39 (s.setVm vm0).vm) (hC : CHr Z EL s.vm h0 vm0 h) (hc : cells ≤ R.cells) (hs : slots ≤ R.slots) (hQ : Q none h locs) : G (T.setTop (mkF m pc Ls [])) :=
  hR T locs cells slots none _ vm0 k0 X hS (by rw [eT]; exact hk) hZ (by rw [eT]; exact hC) hc hs (fun _ => rfl) (by rw [eT]; exact hQ) fun fs hr => X.returnOut hx hret hd hr
theorem own_retAW {t : FieldType} {v : Value} (hR : own_RtW p l e Z EL R s m args below meth c (some t) h0 Q G) (hret : meth.sig.returnType = some t) (ht : t.isReference = true) (hv : v.isRef = true) (X : Stand p l e R (s.setVm vm0) m args below meth c T locs cells slots) (hx : p.tables.exec = Jvm.exec) (hd : decode c.code pc = .ok (.areturn, 1)) (eT : T.heap = h) (hS : s.Since vm0 k0) (hk : k0 ≤ h.size) (hZ : Z.Warmed39 (s.setVm vm0).vm) (hC : CHr Z EL s.vm h0 vm0 h) (hc : cells ≤ R.cells) (hs : slots ≤ R.slots) (hQ : Q (some v) h locs) : G (T.setTop (mkF m pc Ls (v :: rest))) :=
  hR T locs cells slots (some v) _ vm0 k0 X hS (by rw [eT]; exact hk) hZ (by rw [eT]; exact hC) hc hs (fun h => nomatch h) (by rw [eT]; exact hQ) fun fs hr => retOut X hx hret (by cases t <;> simp_all [FieldType.isReference, narrow]) (Or.inr (Or.inr (Or.inr (Or.inr ⟨rfl, ht, hv⟩)))) hd hr
theorem own_retNW {z : Int32} {t : FieldType} (hR : own_RtW p l e Z EL R s m args below meth c (some t) h0 Q G) (hret : meth.sig.returnType = some t) (ht : t = .boolean ∨ t = .byte ∨ t = .char ∨ t = .short) (X : Stand p l e R (s.setVm vm0) m args below meth c T locs cells slots) (hx : p.tables.exec = Jvm.exec) (hd : decode c.code pc = .ok (.ireturn, 1)) (eT : T.heap = h) (hS : s.Since vm0 k0) (hk : k0 ≤ h.size) (hZ : Z.Warmed39 (s.setVm vm0).vm) (hC : CHr Z EL s.vm h0 vm0 h) (hc : cells ≤ R.cells) (hs : slots ≤ R.slots) (hQ : Q (some (.int (nar t z))) h locs) : G (T.setTop (mkF m pc Ls (.int z :: rest))) :=
  hR T locs cells slots (some (.int (nar t z))) _ vm0 k0 X hS (by rw [eT]; exact hk) hZ (by rw [eT]; exact hC) hc hs (fun h => nomatch h) (by rw [eT]; exact hQ) fun fs hr => retN X hx hret ht hd hr
end Rets
section Calls
variable {own : String} {index : Nat} {y : MethodName} {bytes : ByteArray} {maxL : Nat} {ret : Option FieldType} {rm : Room} {as' : Array Value} {h : Heap} {Q : Option Value → Heap → List Loc → Prop} {G : State → Prop} {pc : Nat} {Ls : Array Slot} {stk argsL rest : List Value} {vm0 : Vm} {k0 : Nat}
theorem own_callSW (X : Stand p l e R (s.setVm vm0) m args below meth c T locs cells slots) (hx : p.tables.exec = Jvm.exec) (hZ : Z.Warmed39 (s.setVm vm0).vm) (hG : own_Bk p e below G) (hown : (s.setVm vm0).vm.findClass own = some m.cls)
    (w1 : (Jvm.Cond.methodLink own index y).before a0 Z = true) (w2 : (Jvm.Cond.static y).before a0 Z = true) (w3 : (Jvm.Cond.initialized y.cls).before a0 Z = true) (w4 : (Jvm.Cond.code y bytes maxL ret).before a0 Z = true)
    (hy : y.cls ≠ "java/lang/invoke/MethodHandle" ∧ y.cls ≠ "java/lang/invoke/VarHandle") (W : Nat) (hM : own_ConW l Z EL y bytes maxL ret [] rm as' h Q) (hf : rm.frames + 1 ≤ R.frames) (hlo : W + (maxL + 11) + rm.locals ≤ R.locals) (eT : T.heap = h)
    (hS : s.Since vm0 k0) (hk : k0 ≤ h.size) (hEL : EW Z a0 EL) (H : CHv Z EL vm0 h)
    (hsize : Ls.size = c.maxLocals) (hlen : ∀ sig, parseMethodDescriptor y.desc = some sig → argsL.length = sig.parameters.length) (has : argsL.toArray = as') (hst : stk = argsL.reverse ++ rest) (hW : (rest.map fun v => v.category).sum ≤ W)
    (hd : decode c.code pc = .ok (.invokestatic index, 3)) (hc : cells + rm.cells ≤ R.cells) (hs : slots + rm.slots ≤ R.slots)
    (k : ∀ T' h' v L, Stand p l e R (s.setVm T'.vm) m args below meth c T' (locs ++ L) (cells + rm.cells) (slots + rm.slots) → T'.heap = h' → s.Since T'.vm h'.size → Z.Warmed39 (s.setVm T'.vm).vm → (s.setVm T'.vm).vm.findClass own = some m.cls → CHr Z EL vm0 h T'.vm h' → Q v h' L → G (T'.setTop (mkF m (pc + 3) Ls (v.toList ++ rest)))) : G (T.setTop (mkF m pc Ls stk)) := by
  obtain ⟨v, _, ⟨T1, L1, k1, n1⟩, -, X1, hS1, hg1, ⟨L, hQ, rfl, rfl, rfl, hC⟩, st⟩ := callSS X hx (y := y) hown (mvT hZ w1) (mvT hZ w2) (mvT hZ w3) (mvT hZ w4) hy (backOfSH (W := W) hM hZ w4 w3 hf hlo hEL H) (g := mkF m pc Ls stk) rfl hsize (argsL := argsL) (rest := rest) hlen hst (by show 2 * 0 + _ ≤ _; rw [Nat.mul_zero, Nat.zero_add]; exact hW) hd (fun _ _ => ⟨has, eT, hc, hs⟩)
  obtain ⟨X2, hS2, hZ2, hown2⟩ := rebS hS (by rw [eT]; exact hk) X1 hS1 hg1 hZ hown
  exact hG _ _ (fun t kk => st.trans kk) (k T1 _ v L X2 rfl hS2 hZ2 hown2 hC hQ)
theorem own_callIW (X : Stand p l e R (s.setVm vm0) m args below meth c T locs cells slots) (hx : p.tables.exec = Jvm.exec) (hZ : Z.Warmed39 (s.setVm vm0).vm) (hG : own_Bk p e below G) (hown : (s.setVm vm0).vm.findClass own = some m.cls) (hy1 : y.name = "<init>")
    (w1 : (Jvm.Cond.methodLink own index y).before a0 Z = true) (w2 : (Jvm.Cond.instanceMethod y).before a0 Z = true) (w3 : (Jvm.Cond.initialized y.cls).before a0 Z = true) (w4 : (Jvm.Cond.code y bytes maxL none).before a0 Z = true)
    (hy : y.cls ≠ "java/lang/invoke/MethodHandle" ∧ y.cls ≠ "java/lang/invoke/VarHandle") (W : Nat) (hM : own_ConW l Z EL y bytes maxL none [] rm as' h Q) (hf : rm.frames + 1 ≤ R.frames) (hlo : W + (maxL + 11) + rm.locals ≤ R.locals) (eT : T.heap = h)
    (hS : s.Since vm0 k0) (hk : k0 ≤ h.size) (hEL : EW Z a0 EL) (H : CHv Z EL vm0 h)
    (hsize : Ls.size = c.maxLocals) (hlen : ∀ sig, parseMethodDescriptor y.desc = some sig → argsL.length = sig.parameters.length) {a : Addr} (has : (.ref a :: argsL).toArray = as') (hst : stk = argsL.reverse ++ .ref a :: rest) (hW : (rest.map fun v => v.category).sum ≤ W)
    (hd : decode c.code pc = .ok (.invokespecial index, 3)) (hc : cells + rm.cells ≤ R.cells) (hs : slots + rm.slots ≤ R.slots)
    (k : ∀ T' h' v L, Stand p l e R (s.setVm T'.vm) m args below meth c T' (locs ++ L) (cells + rm.cells) (slots + rm.slots) → T'.heap = h' → s.Since T'.vm h'.size → Z.Warmed39 (s.setVm T'.vm).vm → (s.setVm T'.vm).vm.findClass own = some m.cls → CHr Z EL vm0 h T'.vm h' → Q v h' L → G (T'.setTop (mkF m (pc + 3) Ls (v.toList ++ rest)))) : G (T.setTop (mkF m pc Ls stk)) := by
  obtain ⟨v, _, ⟨T1, L1, k1, n1⟩, -, X1, hS1, hg1, ⟨L, hQ, rfl, rfl, rfl, hC⟩, st⟩ := X.specialBackS hx (y := y) hy1 hown (mvT hZ w1) (mvT hZ w2) (mvT hZ w4) hy (backOfSH (W := W) hM hZ w4 w3 hf hlo hEL H) (g := mkF m pc Ls stk) rfl hsize (Steps.refl _) (a := a) (argsL := argsL) (rest := rest) hlen hst (by show 2 * 0 + _ ≤ _; rw [Nat.mul_zero, Nat.zero_add]; exact hW) hd (fun _ _ => ⟨has, eT, hc, hs⟩)
  obtain ⟨X2, hS2, hZ2, hown2⟩ := rebS hS (by rw [eT]; exact hk) X1 hS1 hg1 hZ hown
  exact hG _ _ (fun t kk => st.trans kk) (k T1 _ v L X2 rfl hS2 hZ2 hown2 hC hQ)
theorem own_callVW {C : String} (X : Stand p l e R (s.setVm vm0) m args below meth c T locs cells slots) (hx : p.tables.exec = Jvm.exec) (hZ : Z.Warmed39 (s.setVm vm0).vm) (hG : own_Bk p e below G) (hown : (s.setVm vm0).vm.findClass own = some m.cls)
    (w1 : (Jvm.Cond.methodLink own index y).before a0 Z = true) (w2 : (Jvm.Cond.declares y).before a0 Z = true) (w3 : (Jvm.Cond.selects C y y).before a0 Z = true) (w4 : (Jvm.Cond.instanceMethod y).before a0 Z = true) (w5 : (Jvm.Cond.initialized y.cls).before a0 Z = true) (w6 : (Jvm.Cond.code y bytes maxL ret).before a0 Z = true)
    (hy : y.cls ≠ "java/lang/invoke/MethodHandle" ∧ y.cls ≠ "java/lang/invoke/VarHandle") (W : Nat) (hM : own_ConW l Z EL y bytes maxL ret [] rm as' h Q) (hf : rm.frames + 1 ≤ R.frames) (hlo : W + (maxL + 11) + rm.locals ≤ R.locals) (eT : T.heap = h)
    (hS : s.Since vm0 k0) (hk : k0 ≤ h.size) (hEL : EW Z a0 EL) (H : CHv Z EL vm0 h) {b : Addr} (E : Exa Z h b C)
    (hsize : Ls.size = c.maxLocals) (hlen : ∀ sig, parseMethodDescriptor y.desc = some sig → argsL.length = sig.parameters.length) (has : (.ref b :: argsL).toArray = as') (hst : stk = argsL.reverse ++ .ref b :: rest) (hW : (rest.map fun v => v.category).sum ≤ W)
    (hd : decode c.code pc = .ok (.invokevirtual index, 3)) (hc : cells + rm.cells ≤ R.cells) (hs : slots + rm.slots ≤ R.slots)
    (k : ∀ T' h' v L, Stand p l e R (s.setVm T'.vm) m args below meth c T' (locs ++ L) (cells + rm.cells) (slots + rm.slots) → T'.heap = h' → s.Since T'.vm h'.size → Z.Warmed39 (s.setVm T'.vm).vm → (s.setVm T'.vm).vm.findClass own = some m.cls → CHr Z EL vm0 h T'.vm h' → Q v h' L → G (T'.setTop (mkF m (pc + 3) Ls (v.toList ++ rest)))) : G (T.setTop (mkF m pc Ls stk)) := by
  obtain ⟨cq, kq, qa, qb, qc⟩ := isOf hZ eT E
  obtain ⟨v, _, ⟨T1, L1, k1, n1⟩, -, X1, hS1, hg1, ⟨L, hQ, rfl, rfl, rfl, hC⟩, st⟩ := X.virtualBackS hx (y := y) (z := y) hown (mvT hZ w1) (mvT hZ w2) (notFace_of_selects (args := #[]) (mvT hZ w3)) (mvT hZ w3) (mvT hZ w4) hy (backOfSH (W := W) hM hZ w6 w5 hf hlo hEL H) qa qc (g := mkF m pc Ls stk) rfl hsize (Steps.refl _) (argsL := argsL) (rest := rest) hlen hst (by show 2 * 0 + _ ≤ _; rw [Nat.mul_zero, Nat.zero_add]; exact hW) hd (fun _ _ => ⟨has, eT, hc, hs⟩)
  obtain ⟨X2, hS2, hZ2, hown2⟩ := rebS hS (by rw [eT]; exact hk) X1 hS1 hg1 hZ hown
  exact hG _ _ (fun t kk => st.trans kk) (k T1 _ v L X2 rfl hS2 hZ2 hown2 hC hQ)
end Calls
/-- a String whose value is still null is none that the JVM holds for a constant -/
theorem own_safeStr {vm : Vm} {h : Heap} {a : Addr} (hal : Z.vm.Alike vm) (E : Exa Z h a "java/lang/String") (F : Fld Z h a "java/lang/String" "value" "[B" .null) : Safe Z EL vm h a := fun B => by
  obtain ⟨p0, hp0, u, a', hb, q, hqa, S, hy⟩ := B
  obtain ⟨cS, ⟨⟨s1, s2, s3, ⟨cv, kv, iv, s4, s4'⟩, ⟨cc, kc, ic, s5, s5'⟩, s6, s7, s8, s9, s10, -⟩, hfS, hcS⟩, -, hB, -⟩ := S
  obtain ⟨kv', z4⟩ := ff_back (U := Wst Z vm h) hal s4
  rcases hy with rfl | rfl
  · have G : Fld Z h q.sa "java/lang/String" "value" "[B" (.ref q.sd) := ⟨q.sC, cv, kv', iv, q.fSV, s1, z4, s6, s2, s3, by rw [← hal.assignable]; exact s4', s8⟩
    exact Fld.ne F G (by simp) rfl
  · obtain ⟨cell, k, e1, e2, -⟩ := E
    have s10' : h[q.sd]? = some q.SA := s10
    cases s10'.symm.trans e1
    have hB' : vm.findClass "[B" = some q.SA.cls := hB
    have hBZ : Z.vm.findClass "[B" = some q.SA.cls := by rw [← hal.findClass]; exact hB'
    obtain ⟨k1, x1, x2⟩ := Vm.findClass_spec e2
    obtain ⟨k2, y1, y2⟩ := Vm.findClass_spec hBZ
    cases x1.symm.trans y1
    exact absurd (x2.symm.trans y2) (by decide)
theorem own_safeArv {vm : Vm} {h : Heap} {a : Addr} {k : ClassId} {ty : FieldType} {z : Int32} {vs : List Value} {d : Value} (hal : Z.vm.Alike vm) (A : Arv Z h a k ty z vs d) (ht : ty ≠ .byte) : Safe Z EL vm h a := by
  obtain ⟨cl, Ar, -⟩ := A
  exact Safe.arr hal Ar ht
end OwnKitW

def own_lo (ch : Int32) : Int32 := nar .byte ((ch >>> ((0 : Int32) &&& 31)).toInt8.toInt32)
def own_hi (ch : Int32) : Int32 := nar .byte ((ch >>> ((8 : Int32) &&& 31)).toInt8.toInt32)
def own_join (x y : Int32) : Int32 := nar .char ((((x &&& (255 : Int32)) <<< ((0 : Int32) &&& 31)) ||| ((y &&& (255 : Int32)) <<< ((8 : Int32) &&& 31))).toUInt32.toUInt16.toUInt32.toInt32)
def own_is16 (cs : List Int32) (vs : List Value) : Prop := vs.length = 2 * cs.length ∧ ∀ j, j < cs.length → vs.getD (2 * j) (.int 0) = .int (own_lo (cs.getD j 0)) ∧ vs.getD (2 * j + 1) (.int 0) = .int (own_hi (cs.getD j 0))
/-- the bytes of a String of these chars -/
def own_enc (cs : List Int32) (cd nb : Int32) (vs : List Value) : Prop :=
  ((∀ c ∈ cs, ¬ ((255 : Int32) < c)) ∧ cd = 0 ∧ nb = Int32.ofNat cs.length ∧ vs = (cs.map fun c => Value.int c.toInt8.toInt32)) ∨
    ((∃ k, k < cs.length ∧ (255 : Int32) < cs.getD k 0) ∧ cd = 1 ∧ nb = Int32.ofNat (2 * cs.length) ∧ own_is16 cs vs)
theorem own_shl1 (i : Nat) : Int32.ofNat i <<< ((1 : Int32) &&& 31) = Int32.ofNat (2 * i) := by
  rw [shlm (x := Int32.ofNat i) (k := 1) (m := 2) (by decide), Nat.mul_comm, Int32.ofNat_mul]; rfl
theorem own_lo_rng (ch : Int32) : (own_lo ch).toInt % 256 = ch.toInt % 256 := by
  have h0 : (ch >>> ((0 : Int32) &&& 31)).toInt = ch.toInt / (2 ^ 0 : Nat) := c_ishr ch 0 0 (by decide)
  have h1 := c_i2b (ch >>> ((0 : Int32) &&& 31))
  show (nar .byte _).toInt % 256 = _
  rw [own_nb]
  omega
theorem own_hi_rng (ch : Int32) : (own_hi ch).toInt % 256 = (ch.toInt / 256) % 256 := by
  have h0 : (ch >>> ((8 : Int32) &&& 31)).toInt = ch.toInt / (2 ^ 8 : Nat) := c_ishr ch 8 8 (by decide)
  have h1 := c_i2b (ch >>> ((8 : Int32) &&& 31))
  show (nar .byte _).toInt % 256 = _
  rw [own_nb]
  omega
theorem own_join_eq {ch : Int32} (h : 0 ≤ ch.toInt ∧ ch.toInt ≤ 65535) : own_join (own_lo ch) (own_hi ch) = ch := by
  have l := own_lo_rng ch; have g := own_hi_rng ch
  unfold own_join
  rw [own_nc]
  generalize own_lo ch = x at *
  generalize own_hi ch = y at *
  have m1 : (x &&& (255 : Int32)).toInt = x.toInt % 256 := c_mask x 255 8 (by decide) (by decide)
  have m2 : (y &&& (255 : Int32)).toInt = y.toInt % 256 := c_mask y 255 8 (by decide) (by decide)
  have s1 : ((x &&& (255 : Int32)) <<< ((0 : Int32) &&& 31)) = (x &&& (255 : Int32)) := by
    rw [shlm (m := 1) (by decide)]; simp
  have s2 := c_ishl (y &&& (255 : Int32)) 8 8 (by decide)
  rw [s1]
  generalize (x &&& (255 : Int32)) = X at *
  generalize ((y &&& (255 : Int32)) <<< ((8 : Int32) &&& 31)) = Y at *
  have rY := rng32 Y
  have eY : Y.toInt = (y.toInt % 256) * 256 := by omega
  have o := c_or' X Y 8 (by decide) 256 rfl (by omega) (by omega) (by omega)
  have rO := rng32 (X ||| Y)
  have c2 := c_i2c (X ||| Y)
  apply Int32.toInt_inj.mp
  omega
theorem own_coder0 (n : Int32) : nar .byte ((((n - n).toUInt32 >>> ((31 : Int32) &&& 31).toUInt32).toInt32).toInt8.toInt32) = 0 := by rw [Int32.sub_self]; rfl
theorem own_coder1 {n : Nat} (h0 : 0 < n) (h : n < 536870912) : nar .byte ((((Int32.ofNat n - Int32.ofNat (2 * n)).toUInt32 >>> ((31 : Int32) &&& 31).toUInt32).toInt32).toInt8.toInt32) = 1 := by
  have e := c_isub (Int32.ofNat n) (Int32.ofNat (2 * n))
  rw [own_toInt (by omega), own_toInt (by omega)] at e
  have r := rng32 (Int32.ofNat n - Int32.ofNat (2 * n))
  have s := c_iushr (Int32.ofNat n - Int32.ofNat (2 * n)) 31 31 (by decide) (by decide)
  generalize Int32.ofNat n - Int32.ofNat (2 * n) = D at *
  generalize ((D.toUInt32 >>> ((31 : Int32) &&& 31).toUInt32).toInt32) = S at *
  have hS : S.toInt = 1 := by rw [s]; omega
  have : S = 1 := Int32.toInt_inj.mp (by rw [hS]; rfl)
  rw [this]; rfl
theorem own_mask16 {x c : Int32} (h : (x &&& 65535).toUInt32.toUInt16.toUInt32.toInt32 = c) : 0 ≤ c.toInt ∧ c.toInt ≤ 65535 := by
  have q := c_i2c (x &&& 65535); rw [h] at q; omega
theorem own_i2c16 {x c : Int32} (h : x.toUInt32.toUInt16.toUInt32.toInt32 = c) : 0 ≤ c.toInt ∧ c.toInt ≤ 65535 := by
  have q := c_i2c x; rw [h] at q; omega
theorem own_nar16 {c : Int32} (h : 0 ≤ c.toInt ∧ c.toInt ≤ 65535) : 0 ≤ (nar .char c).toInt ∧ (nar .char c).toInt ≤ 65535 := by rw [own_narC h]; exact h
theorem own_ltK {n : Nat} (h : n < 1073741823) : Int32.ofNat n < (1073741823 : Int32) := by
  rw [Int32.lt_iff_toInt_lt, own_toInt (by omega)]
  have : (1073741823 : Int32).toInt = 1073741823 := by decide
  omega
theorem own_ofNat_ne {i n : Nat} (h : i < n) (hn : n < 2147483648) : ¬ (Int32.ofNat i = Int32.ofNat n) := fun e => by
  have := own_ofNat_inj (by omega) hn e; omega
theorem own_set16 {cs : List Int32} {vs : List Value} {i : Nat} (hl : vs.length = 2 * cs.length) (hi : i < cs.length)
    (hv : ∀ j, j < i → vs.getD (2 * j) (.int 0) = .int (own_lo (cs.getD j 0)) ∧ vs.getD (2 * j + 1) (.int 0) = .int (own_hi (cs.getD j 0))) :
    ∀ j, j < i + 1 → ((vs.set (2 * i) (.int (own_lo (cs.getD i 0)))).set (2 * i + 1) (.int (own_hi (cs.getD i 0)))).getD (2 * j) (.int 0) = .int (own_lo (cs.getD j 0)) ∧ ((vs.set (2 * i) (.int (own_lo (cs.getD i 0)))).set (2 * i + 1) (.int (own_hi (cs.getD i 0)))).getD (2 * j + 1) (.int 0) = .int (own_hi (cs.getD j 0)) := by
  intro j hj
  have h1 : 2 * i + 1 < (vs.set (2 * i) (Value.int (own_lo (cs.getD i 0)))).length := by rw [List.length_set]; omega
  have h2 : 2 * i < vs.length := by omega
  rw [own_getD_set _ _ _ _ _ h1, own_getD_set _ _ _ _ _ h2, own_getD_set _ _ _ _ _ h1, own_getD_set _ _ _ _ _ h2]
  by_cases e : j = i
  · subst e
    rw [if_neg (by omega), if_pos rfl, if_pos rfl]; exact ⟨rfl, rfl⟩
  · rw [if_neg (by omega), if_neg (by omega), if_neg (by omega), if_neg (by omega)]; exact hv j (by omega)
theorem own_allD {α : Type} {P : α → Prop} (cs : List α) (d : α) (h : ∀ j, j < cs.length → P (cs.getD j d)) : ∀ c ∈ cs, P c := by
  intro c hc
  obtain ⟨j, hj, rfl⟩ := List.getElem_of_mem hc
  have q := h j hj
  rw [List.getD_eq_getElem?_getD, List.getElem?_eq_getElem hj] at q
  exact q
theorem own_nextD {P : Int32 → Prop} {cs : List Int32} {i : Nat} (h : ∀ j, j < i → P (cs.getD j 0)) (q : P (cs.getD i 0)) : ∀ j, j < i + 1 → P (cs.getD j 0) := by
  intro j hj
  by_cases e : j = i
  · subst e; exact q
  · exact h j (by omega)
theorem own_is16_1 (ch : Int32) : own_is16 [ch] [.int (own_lo ch), .int (own_hi ch)] := ⟨rfl, fun j hj => by
  have e : j = 0 := by simpa using hj
  subst e; exact ⟨rfl, rfl⟩⟩
theorem own_enc_lat1 {ch : Int32} (h : ¬ ((255 : Int32) < ch)) : own_enc [ch] 0 (1 : Int32) [.int (nar .byte (ch.toInt8.toInt32))] :=
  Or.inl ⟨own_allc h own_alln, rfl, rfl, by rw [own_nb]; rfl⟩
theorem own_enc_u1 {ch : Int32} (h : (255 : Int32) < ch) : own_enc [ch] 1 (2 : Int32) [.int (own_lo ch), .int (own_hi ch)] :=
  Or.inr ⟨⟨0, Nat.zero_lt_one, h⟩, rfl, rfl, own_is16_1 ch⟩
theorem own_enc_nil : own_enc [] 0 (0 : Int32) [] := Or.inl ⟨own_alln, rfl, rfl, rfl⟩
theorem own_8to16 {c : Int32} (h : 0 ≤ c.toInt ∧ c.toInt ≤ 255) : 0 ≤ c.toInt ∧ c.toInt ≤ 65535 := ⟨h.1, by omega⟩
theorem own_narrng (x : Int32) : 0 ≤ (nar .char x).toInt ∧ (nar .char x).toInt ≤ 65535 := by
  have q := c_i2c x
  show 0 ≤ x.toUInt32.toUInt16.toUInt32.toInt32.toInt ∧ x.toUInt32.toUInt16.toUInt32.toInt32.toInt ≤ 65535
  omega
theorem own_shr0 (x : Int32) : x >>> ((0 : Int32) &&& 31) = x := Int32.toInt_inj.mp (by rw [c_ishr x 0 0 (by decide)]; simp)
theorem own_shr1 {n : Nat} (h : n < 1073741824) : Int32.ofNat (2 * n) >>> ((1 : Int32) &&& 31) = Int32.ofNat n := by
  apply Int32.toInt_inj.mp
  rw [c_ishr _ 1 1 (by decide), own_toInt (by omega), own_toInt (by omega)]
  omega
theorem own_byteEq {c d : Int32} (hc : 0 ≤ c.toInt ∧ c.toInt ≤ 255) (hd : 0 ≤ d.toInt ∧ d.toInt ≤ 255) : c.toInt8.toInt32 = d.toInt8.toInt32 ↔ c = d := by
  constructor
  · intro h
    have h1 := c_i2b c; have h2 := c_i2b d
    rw [h] at h1
    exact Int32.toInt_inj.mp (by omega)
  · intro h; rw [h]
theorem own_lat_rng {cs : List Int32} (hall : ∀ c ∈ cs, ¬ ((255 : Int32) < c)) (h16 : ∀ c ∈ cs, 0 ≤ c.toInt ∧ c.toInt ≤ 65535) : ∀ c ∈ cs, 0 ≤ c.toInt ∧ c.toInt ≤ 255 := fun c hc => by
  have q := hall c hc; have r := h16 c hc
  rw [Int32.lt_iff_toInt_lt] at q
  have : (255 : Int32).toInt = 255 := by decide
  omega
theorem own_m1 {P : Int32 → Prop} {cs : List Int32} (h : cs.length = 0) : (-1 : Int32) < (0 : Int32) ↔ ∀ c ∈ cs, P c :=
  ⟨fun _ => by rw [List.eq_nil_of_length_eq_zero h]; exact own_alln, fun _ => by decide⟩
theorem own_pos0 {n : Nat} (h : ¬ (0 : Int32) < Int32.ofNat n) (hn : n < 2147483648) : n = 0 := by
  rcases Nat.eq_zero_or_pos n with e | e
  · exact e
  · exact absurd (own_lt (i := 0) e hn) h
theorem own_n3 {x n : Int32} (h : (x &&& (3 : Int32)) = n) (h0 : ¬ (n = (0 : Int32))) (h1 : ¬ (n = (1 : Int32))) (h2 : ¬ (n = (2 : Int32))) : n = (3 : Int32) := by
  have q : (x &&& (3 : Int32)).toInt = x.toInt % (2 ^ 2 : Nat) := c_mask x 3 2 (by decide) (by decide)
  rw [h] at q
  have a0 := mt Int32.toInt_inj.mp h0; have a1 := mt Int32.toInt_inj.mp h1; have a2 := mt Int32.toInt_inj.mp h2
  have e0 : (0 : Int32).toInt = 0 := by decide
  have e1 : (1 : Int32).toInt = 1 := by decide
  have e2 : (2 : Int32).toInt = 2 := by decide
  have e3 : (3 : Int32).toInt = 3 := by decide
  apply Int32.toInt_inj.mp
  omega

theorem own_byteBack {c : Int32} (h : 0 ≤ c.toInt ∧ c.toInt ≤ 255) : nar .char ((c.toInt8.toInt32 &&& (255 : Int32)).toUInt32.toUInt16.toUInt32.toInt32) = c := by
  have h1 := c_i2b c
  have m1 : (c.toInt8.toInt32 &&& (255 : Int32)).toInt = c.toInt8.toInt32.toInt % 256 := c_mask _ 255 8 (by decide) (by decide)
  rw [i2c_mask, own_narC (by omega)]
  exact Int32.toInt_inj.mp (by omega)
theorem own_getD_rng {cs : List Int32} (h : ∀ c ∈ cs, 0 ≤ c.toInt ∧ c.toInt ≤ 65535) (i : Nat) : 0 ≤ (cs.getD i 0).toInt ∧ (cs.getD i 0).toInt ≤ 65535 := by
  by_cases hi : i < cs.length
  · exact h _ (own_getD_mem cs i 0 hi)
  · rw [List.getD_eq_getElem?_getD, List.getElem?_eq_none (by omega)]; decide

theorem own_subN {a b : Nat} (h : b ≤ a) : Int32.ofNat a - Int32.ofNat b = Int32.ofNat (a - b) := by
  have e : Int32.ofNat a = Int32.ofNat (a - b) + Int32.ofNat b := by rw [← Int32.ofNat_add]; congr 1; omega
  rw [e]; exact Int32.add_sub_cancel _ _
theorem own_addN2 (i j : Nat) : Int32.ofNat i + Int32.ofNat j = Int32.ofNat (i + j) := (Int32.ofNat_add i j).symm
theorem own_antisymm {x y : Int32} (h1 : ¬ (x < y)) (h2 : ¬ (y < x)) : x = y := by
  rw [Int32.lt_iff_toInt_lt] at h1 h2
  exact Int32.toInt_inj.mp (by omega)
/-- what a copied stretch says -/
def own_cut (F K : Nat) (vs us : List Value) : Prop := us.length = K ∧ ∀ j, j < K → us.getD j (.int 0) = vs.getD (F + j) (.int 0)
theorem own_cutR (F K : Nat) (vs : List Value) : own_cut F K vs ((List.range K).map fun i => vs.getD (F + i) (.int 0)) := by
  refine ⟨by simp, fun j hj => ?_⟩
  rw [List.getD_eq_getElem?_getD]; simp [hj]
theorem own_cpL {K : Nat} (f : Nat → Value) (d : Value) (hK : K < 2147483648) : ((List.replicate K d).take (0 : Int32).toNatClampNeg ++ ((List.range (Int32.ofNat K).toNatClampNeg).map f) ++ (List.replicate K d).drop ((0 : Int32).toNatClampNeg + (Int32.ofNat K).toNatClampNeg)) = (List.range K).map f := by
  rw [own_clamp hK]
  have : (0 : Int32).toNatClampNeg = 0 := rfl
  simp [this]
/-- the chars from o on -/
def own_from (cs : List Int32) (o : Nat) (ds : List Int32) : Prop := o + ds.length ≤ cs.length ∧ ∀ j, j < ds.length → ds.getD j 0 = cs.getD (o + j) 0
theorem own_from_sub (cs : List Int32) {B E : Nat} (h1 : B ≤ E) (h2 : E ≤ cs.length) : ((cs.drop B).take (E - B)).length = E - B ∧ own_from cs B ((cs.drop B).take (E - B)) := by
  have hl : ((cs.drop B).take (E - B)).length = E - B := by rw [List.length_take, List.length_drop]; omega
  refine ⟨hl, by omega, fun j hj => ?_⟩
  rw [hl] at hj
  rw [List.getD_eq_getElem?_getD, List.getD_eq_getElem?_getD, List.getElem?_take_of_lt hj, List.getElem?_drop]
theorem own_from_mem {cs ds : List Int32} {o : Nat} {P : Int32 → Prop} (h : own_from cs o ds) (hp : ∀ c ∈ cs, P c) : ∀ c ∈ ds, P c := own_allD ds 0 fun j hj => by
  rw [h.2 j hj]; exact hp _ (own_getD_mem cs (o + j) 0 (by have := h.1; omega))
theorem own_from_all {cs ds : List Int32} (h : own_from cs 0 ds) (hl : ds.length = cs.length) : ds = cs := by
  apply List.ext_getElem? ; intro j
  by_cases hj : j < ds.length
  · have q := h.2 j hj
    rw [List.getD_eq_getElem?_getD, List.getD_eq_getElem?_getD, Nat.zero_add] at q
    rw [List.getElem?_eq_getElem hj, List.getElem?_eq_getElem (by omega)] at q ⊢
    exact congrArg some q
  · rw [List.getElem?_eq_none (by omega), List.getElem?_eq_none (by omega)]
theorem own_lat_cut {cs ds : List Int32} {o : Nat} {us : List Value} (h : own_from cs o ds) (hu : own_cut o ds.length (cs.map fun c => Value.int c.toInt8.toInt32) us) : us = (ds.map fun c => Value.int c.toInt8.toInt32) :=
  own_mapEq (fun c : Int32 => Value.int c.toInt8.toInt32) ds us (.int 0) 0 hu.1 fun j hj => by
    rw [hu.2 j hj, h.2 j hj]
    exact own_getD_map (fun c : Int32 => Value.int c.toInt8.toInt32) cs (o + j) _ 0 (by have := h.1; omega)
theorem own_u16_cut {cs ds : List Int32} {o : Nat} {vs us : List Value} (h : own_from cs o ds) (h16 : own_is16 cs vs) (hu : own_cut (2 * o) (2 * ds.length) vs us) : own_is16 ds us := by
  refine ⟨hu.1, fun j hj => ?_⟩
  have q := h16.2 (o + j) (by have := h.1; omega)
  rw [hu.2 (2 * j) (by omega), hu.2 (2 * j + 1) (by omega), h.2 j hj, show 2 * o + 2 * j = 2 * (o + j) by omega, show 2 * o + (2 * j + 1) = 2 * (o + j) + 1 by omega]
  exact q
theorem own_from_rng {cs ds : List Int32} {o : Nat} (h : own_from cs o ds) (h16 : ∀ c ∈ cs, 0 ≤ c.toInt ∧ c.toInt ≤ 65535) : ∀ c ∈ ds, 0 ≤ c.toInt ∧ c.toInt ≤ 65535 := own_from_mem (P := fun c => 0 ≤ c.toInt ∧ c.toInt ≤ 65535) h h16
theorem own_or3 {a b c : Int32} (ha : ¬ (a < 0)) (hb : ¬ (b < 0)) (hc : ¬ (c < 0)) : ¬ ((((c ||| a) ||| b)) < (0 : Int32)) := by
  have key : ∀ {x y : Int32}, ¬ (x < 0) → ¬ (y < 0) → ¬ ((x ||| y) < 0) := by
    intro x y hx hy
    rw [Int32.lt_iff_toBitVec_slt] at *
    have hx' : ¬ (x.toBitVec.msb = true) := by rw [← BitVec.slt_zero_eq_msb]; exact hx
    have hy' : ¬ (y.toBitVec.msb = true) := by rw [← BitVec.slt_zero_eq_msb]; exact hy
    show ¬ ((x ||| y).toBitVec.slt 0#32 = true)
    rw [BitVec.slt_zero_eq_msb, Int32.toBitVec_or, BitVec.msb_or, Bool.or_eq_true, not_or]
    exact ⟨hx', hy'⟩
  exact key (key hc ha) hb
theorem own_zeroN {n : Nat} (h : Int32.ofNat n = (0 : Int32)) (hn : n < 2147483648) : n = 0 := own_ofNat_inj (n := 0) hn (by decide) h

def own_bl (c : Int32) : Prop := c = (32 : Int32) ∨ c = (9 : Int32)
def own_sol (cs : List Int32) (k : Nat) : Prop := k < cs.length ∧ ¬ own_bl (cs.getD k 0)
def own_st (cs : List Int32) (B E : Nat) : Prop := B ≤ E ∧ E ≤ cs.length ∧ (∀ j, j < B → ¬ own_sol cs j) ∧ (B < cs.length → own_sol cs B) ∧ (∀ j, E ≤ j → ¬ own_sol cs j) ∧ (B < E → own_sol cs (E - 1))
theorem own_dec {n : Nat} (h : 0 < n) : Int32.ofNat n + (-1 : Int32) = Int32.ofNat (n - 1) := by
  rw [← own_subN (b := 1) h, Int32.sub_eq_add_neg]; rfl
theorem own_ltS {P : Nat → Prop} {k : Nat} (h : ∀ j, j < k → P j) (hk : P k) : ∀ j, j < k + 1 → P j := fun j hj => by
  by_cases e : j = k
  · subst e; exact hk
  · exact h j (by omega)
theorem own_lt0 {P : Nat → Prop} : ∀ j, j < 0 → P j := fun j hj => absurd hj (Nat.not_lt_zero j)
theorem own_fst {cs : List Int32} {B E k : Nat} (h : own_st cs B E) (hn : ∀ j, j < k → ¬ own_sol cs j) (hk : own_sol cs k) : B = k := by
  obtain ⟨h1, h2, h3, h4, h5, h6⟩ := h
  rcases Nat.lt_trichotomy B k with q | q | q
  · exact absurd (h4 (by have := hk.1; omega)) (hn B q)
  · exact q
  · exact absurd hk (h3 k q)
theorem own_none {cs : List Int32} {B E : Nat} (h : own_st cs B E) (hl : cs.length ≤ 4) (hn : ∀ j, j < 4 → ¬ own_sol cs j) : B = cs.length ∧ E = cs.length := by
  obtain ⟨h1, h2, h3, h4, h5, h6⟩ := h
  have e : B = cs.length := by
    rcases Nat.lt_or_ge B cs.length with q | q
    · exact absurd (h4 q) (hn B (by omega))
    · omega
  exact ⟨e, by omega⟩
theorem own_lst {cs : List Int32} {B E k : Nat} (h : own_st cs B E) (hl : cs.length ≤ 4) (hn : ∀ j, k < j → j < 4 → ¬ own_sol cs j) (hk : own_sol cs k) : E = k + 1 := by
  obtain ⟨h1, h2, h3, h4, h5, h6⟩ := h
  have hB : B ≤ k := by
    rcases Nat.lt_or_ge k B with q | q
    · exact absurd hk (h3 k q)
    · exact q
  rcases Nat.lt_or_ge k E with q | q
  · rcases Nat.lt_or_ge (k + 1) E with r | r
    · exact absurd (h6 (by omega)) (hn (E - 1) (by omega) (by omega))
    · omega
  · exact absurd hk (h5 k q)
theorem own_litN {x : Int32} {n m : Nat} (h : n = m) (hx : x = Int32.ofNat m) : x = Int32.ofNat n := by rw [h]; exact hx
theorem own_solc {cs : List Int32} {k : Nat} {ki ni x r : Int32} (hr : (r = (1 : Int32) ∧ (ki < ni ∧ ¬ (x = (32 : Int32)) ∧ ¬ (x = (9 : Int32)))) ∨ (r = (0 : Int32) ∧ ¬ (ki < ni ∧ ¬ (x = (32 : Int32)) ∧ ¬ (x = (9 : Int32))))) (hk : ki = Int32.ofNat k) (hn : ni = Int32.ofNat cs.length) (hk4 : k < 2147483648) (hl : cs.length < 2147483648) (hx : k < cs.length → cs.getD k 0 = x) :
    (r = (1 : Int32) ∧ own_sol cs k) ∨ (r = (0 : Int32) ∧ ¬ own_sol cs k) := by
  have iff : own_sol cs k ↔ (ki < ni ∧ ¬ (x = (32 : Int32)) ∧ ¬ (x = (9 : Int32))) := by
    rw [hk, hn, Int32.lt_iff_toInt_lt, own_toInt hk4, own_toInt hl]
    unfold own_sol own_bl
    constructor
    · rintro ⟨q1, q2⟩
      rw [hx q1] at q2
      exact ⟨by omega, fun q => q2 (Or.inl q), fun q => q2 (Or.inr q)⟩
    · rintro ⟨q1, q2, q3⟩
      have q1' : k < cs.length := by omega
      rw [hx q1']
      exact ⟨q1', fun q => q.elim q2 q3⟩
  rcases hr with ⟨h1, h2⟩ | ⟨h1, h2⟩
  · exact Or.inl ⟨h1, iff.mpr h2⟩
  · exact Or.inr ⟨h1, fun q => h2 (iff.mp q)⟩
theorem own_one {r : Int32} {P : Prop} (h : (r = (1 : Int32) ∧ P) ∨ (r = (0 : Int32) ∧ ¬ P)) (q : ¬ (r = (0 : Int32))) : P := h.elim (fun z => z.2) (fun z => absurd z.1 q)
theorem own_zer {r : Int32} {P : Prop} (h : (r = (1 : Int32) ∧ P) ∨ (r = (0 : Int32) ∧ ¬ P)) (q : r = (0 : Int32)) : ¬ P := h.elim (fun z => absurd (z.1.symm.trans q) (by decide)) (fun z => z.2)
theorem own_n4 {x n : Int32} (h : ((x &&& (7 : Int32)) % (5 : Int32)) = n) : n = (0 : Int32) ∨ n = (1 : Int32) ∨ n = (2 : Int32) ∨ n = (3 : Int32) ∨ n = (4 : Int32) := by
  have q := c_and x 7 (by decide)
  have c := (c_iremV (x &&& 7) 5).1 q.1 (by decide)
  rw [h] at c
  have e5 : (5 : Int32).toInt = 5 := by decide
  have e0 : (0 : Int32).toInt = 0 := by decide
  have e1 : (1 : Int32).toInt = 1 := by decide
  have e2 : (2 : Int32).toInt = 2 := by decide
  have e3 : (3 : Int32).toInt = 3 := by decide
  have e4 : (4 : Int32).toInt = 4 := by decide
  simp only [← Int32.toInt_inj]; omega
theorem own_stpos {cs : List Int32} {B E : Nat} (h : own_st cs B E) (hb : ∃ k, k < cs.length ∧ (255 : Int32) < cs.getD k 0) : 0 < ((cs.drop B).take (E - B)).length := by
  obtain ⟨h1, h2, h3, h4, h5, h6⟩ := h
  obtain ⟨k, hk, hg⟩ := hb
  have hs : own_sol cs k := ⟨hk, fun q => by
    rw [Int32.lt_iff_toInt_lt] at hg
    have e255 : (255 : Int32).toInt = 255 := by decide
    have e32 : (32 : Int32).toInt = 32 := by decide
    have e9 : (9 : Int32).toInt = 9 := by decide
    rcases q with q | q <;> rw [q] at hg <;> omega⟩
  have a1 : B ≤ k := by
    rcases Nat.lt_or_ge k B with q | q
    · exact absurd hs (h3 k q)
    · exact q
  have a2 : k < E := by
    rcases Nat.lt_or_ge k E with q | q
    · exact q
    · exact absurd hs (h5 k q)
  rw [(own_from_sub cs h1 h2).1]; omega
theorem own_atc {xs cs : List Int32} {B E m : Nat} (hcs : cs = xs.take m) (hx : xs.length = 4) (h1 : B ≤ E) (h2 : E ≤ cs.length) : ∀ j, j < ((cs.drop B).take (E - B)).length → ((cs.drop B).take (E - B)).getD j 0 = xs.getD (B + j) 0 ∧ B + j < 4 := fun j hj => by
  have f := own_from_sub cs h1 h2
  have hl : cs.length ≤ 4 := by rw [hcs, List.length_take]; omega
  have hm : cs.length ≤ m := by rw [hcs, List.length_take]; omega
  refine ⟨?_, by omega⟩
  rw [f.2.2 j hj]
  have : B + j < m := by omega
  rw [hcs, List.getD_eq_getElem?_getD, List.getD_eq_getElem?_getD, List.getElem?_take_of_lt this]

theorem d1_0 : decode method_2_code 0 = .ok (.iload_n 0, 1) := by decide +kernel
theorem d1_1 : decode method_2_code 1 = .ok (.iconst 3, 1) := by decide +kernel
theorem d1_2 : decode method_2_code 2 = .ok (.iand, 1) := by decide +kernel
theorem d1_3 : decode method_2_code 3 = .ok (.istore_n 1, 1) := by decide +kernel
theorem d1_4 : decode method_2_code 4 = .ok (.iload_n 1, 1) := by decide +kernel
theorem d1_5 : decode method_2_code 5 = .ok (.ifCond .ne 6, 3) := by decide +kernel
theorem d1_8 : decode method_2_code 8 = .ok (.bipush 32, 2) := by decide +kernel
theorem d1_10 : decode method_2_code 10 = .ok (.ireturn, 1) := by decide +kernel
theorem d1_11 : decode method_2_code 11 = .ok (.iload_n 1, 1) := by decide +kernel
theorem d1_12 : decode method_2_code 12 = .ok (.iconst 1, 1) := by decide +kernel
theorem d1_13 : decode method_2_code 13 = .ok (.if_icmp .ne 6, 3) := by decide +kernel
theorem d1_16 : decode method_2_code 16 = .ok (.bipush 9, 2) := by decide +kernel
theorem d1_18 : decode method_2_code 18 = .ok (.ireturn, 1) := by decide +kernel
theorem d1_19 : decode method_2_code 19 = .ok (.iload_n 0, 1) := by decide +kernel
theorem d1_20 : decode method_2_code 20 = .ok (.iconst 2, 1) := by decide +kernel
theorem d1_21 : decode method_2_code 21 = .ok (.iushr, 1) := by decide +kernel
theorem d1_22 : decode method_2_code 22 = .ok (.ldc 7, 2) := by decide +kernel
theorem d1_24 : decode method_2_code 24 = .ok (.iand, 1) := by decide +kernel
theorem d1_25 : decode method_2_code 25 = .ok (.i2c, 1) := by decide +kernel
theorem d1_26 : decode method_2_code 26 = .ok (.ireturn, 1) := by decide +kernel
theorem d2_0 : decode jdk_42_method_3_code 0 = .ok (.aload_n 0, 1) := by decide +kernel
theorem d2_1 : decode jdk_42_method_3_code 1 = .ok (.aload_n 1, 1) := by decide +kernel
theorem d2_2 : decode jdk_42_method_3_code 2 = .ok (.iconst 0, 1) := by decide +kernel
theorem d2_3 : decode jdk_42_method_3_code 3 = .ok (.aload_n 1, 1) := by decide +kernel
theorem d2_4 : decode jdk_42_method_3_code 4 = .ok (.arraylength, 1) := by decide +kernel
theorem d2_5 : decode jdk_42_method_3_code 5 = .ok (.aconst_null, 1) := by decide +kernel
theorem d2_6 : decode jdk_42_method_3_code 6 = .ok (.invokespecial 27, 3) := by decide +kernel
theorem d2_9 : decode jdk_42_method_3_code 9 = .ok (.return_, 1) := by decide +kernel
theorem d3_0 : decode jdk_42_method_149_code 0 = .ok (.aload_n 0, 1) := by decide +kernel
theorem d3_1 : decode jdk_42_method_149_code 1 = .ok (.invokespecial 1, 3) := by decide +kernel
theorem d3_4 : decode jdk_42_method_149_code 4 = .ok (.iload_n 3, 1) := by decide +kernel
theorem d3_5 : decode jdk_42_method_149_code 5 = .ok (.ifCond .ne 22, 3) := by decide +kernel
theorem d3_8 : decode jdk_42_method_149_code 8 = .ok (.aload_n 0, 1) := by decide +kernel
theorem d3_9 : decode jdk_42_method_149_code 9 = .ok (.ldc 7, 2) := by decide +kernel
theorem d3_11 : decode jdk_42_method_149_code 11 = .ok (.getfield 9, 3) := by decide +kernel
theorem d3_14 : decode jdk_42_method_149_code 14 = .ok (.putfield 9, 3) := by decide +kernel
theorem d3_17 : decode jdk_42_method_149_code 17 = .ok (.aload_n 0, 1) := by decide +kernel
theorem d3_18 : decode jdk_42_method_149_code 18 = .ok (.ldc 7, 2) := by decide +kernel
theorem d3_20 : decode jdk_42_method_149_code 20 = .ok (.getfield 15, 3) := by decide +kernel
theorem d3_23 : decode jdk_42_method_149_code 23 = .ok (.putfield 15, 3) := by decide +kernel
theorem d3_26 : decode jdk_42_method_149_code 26 = .ok (.return_, 1) := by decide +kernel
theorem d3_27 : decode jdk_42_method_149_code 27 = .ok (.getstatic 38, 3) := by decide +kernel
theorem d3_30 : decode jdk_42_method_149_code 30 = .ok (.ifCond .eq 28, 3) := by decide +kernel
theorem d3_33 : decode jdk_42_method_149_code 33 = .ok (.aload_n 1, 1) := by decide +kernel
theorem d3_34 : decode jdk_42_method_149_code 34 = .ok (.iload_n 2, 1) := by decide +kernel
theorem d3_35 : decode jdk_42_method_149_code 35 = .ok (.iload_n 3, 1) := by decide +kernel
theorem d3_36 : decode jdk_42_method_149_code 36 = .ok (.invokestatic 177, 3) := by decide +kernel
theorem d3_39 : decode jdk_42_method_149_code 39 = .ok (.astore 5, 2) := by decide +kernel
theorem d3_41 : decode jdk_42_method_149_code 41 = .ok (.aload_n 0, 1) := by decide +kernel
theorem d3_42 : decode jdk_42_method_149_code 42 = .ok (.aload 5, 2) := by decide +kernel
theorem d3_44 : decode jdk_42_method_149_code 44 = .ok (.iload_n 3, 1) := by decide +kernel
theorem d3_45 : decode jdk_42_method_149_code 45 = .ok (.invokestatic 47, 3) := by decide +kernel
theorem d3_48 : decode jdk_42_method_149_code 48 = .ok (.putfield 15, 3) := by decide +kernel
theorem d3_51 : decode jdk_42_method_149_code 51 = .ok (.aload_n 0, 1) := by decide +kernel
theorem d3_52 : decode jdk_42_method_149_code 52 = .ok (.aload 5, 2) := by decide +kernel
theorem d3_54 : decode jdk_42_method_149_code 54 = .ok (.putfield 9, 3) := by decide +kernel
theorem d3_57 : decode jdk_42_method_149_code 57 = .ok (.return_, 1) := by decide +kernel
theorem d5_0 : decode prog_21_method_15_code 0 = .ok (.iconst 0, 1) := by decide +kernel
theorem d5_1 : decode prog_21_method_15_code 1 = .ok (.istore_n 1, 1) := by decide +kernel
theorem d5_2 : decode prog_21_method_15_code 2 = .ok (.aload_n 0, 1) := by decide +kernel
theorem d5_3 : decode prog_21_method_15_code 3 = .ok (.invokevirtual 223, 3) := by decide +kernel
theorem d5_6 : decode prog_21_method_15_code 6 = .ok (.istore_n 2, 1) := by decide +kernel
theorem d5_7 : decode prog_21_method_15_code 7 = .ok (.iload_n 1, 1) := by decide +kernel
theorem d5_8 : decode prog_21_method_15_code 8 = .ok (.iload_n 2, 1) := by decide +kernel
theorem d5_9 : decode prog_21_method_15_code 9 = .ok (.if_icmp .ge 20, 3) := by decide +kernel
theorem d5_12 : decode prog_21_method_15_code 12 = .ok (.aload_n 0, 1) := by decide +kernel
theorem d5_13 : decode prog_21_method_15_code 13 = .ok (.iload_n 1, 1) := by decide +kernel
theorem d5_14 : decode prog_21_method_15_code 14 = .ok (.invokevirtual 226, 3) := by decide +kernel
theorem d5_17 : decode prog_21_method_15_code 17 = .ok (.invokestatic 230, 3) := by decide +kernel
theorem d5_20 : decode prog_21_method_15_code 20 = .ok (.ifCond .eq 9, 3) := by decide +kernel
theorem d5_23 : decode prog_21_method_15_code 23 = .ok (.iinc 1 1, 3) := by decide +kernel
theorem d5_26 : decode prog_21_method_15_code 26 = .ok (.goto (-19), 3) := by decide +kernel
theorem d5_29 : decode prog_21_method_15_code 29 = .ok (.iload_n 2, 1) := by decide +kernel
theorem d5_30 : decode prog_21_method_15_code 30 = .ok (.iload_n 1, 1) := by decide +kernel
theorem d5_31 : decode prog_21_method_15_code 31 = .ok (.if_icmp .le 22, 3) := by decide +kernel
theorem d5_34 : decode prog_21_method_15_code 34 = .ok (.aload_n 0, 1) := by decide +kernel
theorem d5_35 : decode prog_21_method_15_code 35 = .ok (.iload_n 2, 1) := by decide +kernel
theorem d5_36 : decode prog_21_method_15_code 36 = .ok (.iconst 1, 1) := by decide +kernel
theorem d5_37 : decode prog_21_method_15_code 37 = .ok (.isub, 1) := by decide +kernel
theorem d5_38 : decode prog_21_method_15_code 38 = .ok (.invokevirtual 226, 3) := by decide +kernel
theorem d5_41 : decode prog_21_method_15_code 41 = .ok (.invokestatic 230, 3) := by decide +kernel
theorem d5_44 : decode prog_21_method_15_code 44 = .ok (.ifCond .eq 9, 3) := by decide +kernel
theorem d5_47 : decode prog_21_method_15_code 47 = .ok (.iinc 2 (-1), 3) := by decide +kernel
theorem d5_50 : decode prog_21_method_15_code 50 = .ok (.goto (-21), 3) := by decide +kernel
theorem d5_53 : decode prog_21_method_15_code 53 = .ok (.aload_n 0, 1) := by decide +kernel
theorem d5_54 : decode prog_21_method_15_code 54 = .ok (.iload_n 1, 1) := by decide +kernel
theorem d5_55 : decode prog_21_method_15_code 55 = .ok (.iload_n 2, 1) := by decide +kernel
theorem d5_56 : decode prog_21_method_15_code 56 = .ok (.invokevirtual 234, 3) := by decide +kernel
theorem d5_59 : decode prog_21_method_15_code 59 = .ok (.areturn, 1) := by decide +kernel
theorem d6_0 : decode jdk_42_method_54_code 0 = .ok (.aload_n 0, 1) := by decide +kernel
theorem d6_1 : decode jdk_42_method_54_code 1 = .ok (.getfield 9, 3) := by decide +kernel
theorem d6_4 : decode jdk_42_method_54_code 4 = .ok (.arraylength, 1) := by decide +kernel
theorem d6_5 : decode jdk_42_method_54_code 5 = .ok (.aload_n 0, 1) := by decide +kernel
theorem d6_6 : decode jdk_42_method_54_code 6 = .ok (.invokevirtual 335, 3) := by decide +kernel
theorem d6_9 : decode jdk_42_method_54_code 9 = .ok (.ishr, 1) := by decide +kernel
theorem d6_10 : decode jdk_42_method_54_code 10 = .ok (.ireturn, 1) := by decide +kernel
theorem d7_0 : decode jdk_42_method_152_code 0 = .ok (.getstatic 38, 3) := by decide +kernel
theorem d7_3 : decode jdk_42_method_152_code 3 = .ok (.ifCond .eq 10, 3) := by decide +kernel
theorem d7_6 : decode jdk_42_method_152_code 6 = .ok (.aload_n 0, 1) := by decide +kernel
theorem d7_7 : decode jdk_42_method_152_code 7 = .ok (.getfield 15, 3) := by decide +kernel
theorem d7_10 : decode jdk_42_method_152_code 10 = .ok (.goto 4, 3) := by decide +kernel
theorem d7_14 : decode jdk_42_method_152_code 14 = .ok (.ireturn, 1) := by decide +kernel
theorem d8_0 : decode jdk_42_method_92_code 0 = .ok (.aload_n 0, 1) := by decide +kernel
theorem d8_1 : decode jdk_42_method_92_code 1 = .ok (.invokevirtual 505, 3) := by decide +kernel
theorem d8_4 : decode jdk_42_method_92_code 4 = .ok (.istore_n 3, 1) := by decide +kernel
theorem d8_5 : decode jdk_42_method_92_code 5 = .ok (.iload_n 1, 1) := by decide +kernel
theorem d8_6 : decode jdk_42_method_92_code 6 = .ok (.iload_n 2, 1) := by decide +kernel
theorem d8_7 : decode jdk_42_method_92_code 7 = .ok (.iload_n 3, 1) := by decide +kernel
theorem d8_8 : decode jdk_42_method_92_code 8 = .ok (.invokestatic 521, 3) := by decide +kernel
theorem d8_11 : decode jdk_42_method_92_code 11 = .ok (.iload_n 1, 1) := by decide +kernel
theorem d8_12 : decode jdk_42_method_92_code 12 = .ok (.ifCond .ne 10, 3) := by decide +kernel
theorem d8_15 : decode jdk_42_method_92_code 15 = .ok (.iload_n 2, 1) := by decide +kernel
theorem d8_16 : decode jdk_42_method_92_code 16 = .ok (.iload_n 3, 1) := by decide +kernel
theorem d8_17 : decode jdk_42_method_92_code 17 = .ok (.if_icmp .ne 5, 3) := by decide +kernel
theorem d8_20 : decode jdk_42_method_92_code 20 = .ok (.aload_n 0, 1) := by decide +kernel
theorem d8_21 : decode jdk_42_method_92_code 21 = .ok (.areturn, 1) := by decide +kernel
theorem d8_22 : decode jdk_42_method_92_code 22 = .ok (.iload_n 2, 1) := by decide +kernel
theorem d8_23 : decode jdk_42_method_92_code 23 = .ok (.iload_n 1, 1) := by decide +kernel
theorem d8_24 : decode jdk_42_method_92_code 24 = .ok (.isub, 1) := by decide +kernel
theorem d8_25 : decode jdk_42_method_92_code 25 = .ok (.istore 4, 2) := by decide +kernel
theorem d8_27 : decode jdk_42_method_92_code 27 = .ok (.aload_n 0, 1) := by decide +kernel
theorem d8_28 : decode jdk_42_method_92_code 28 = .ok (.invokevirtual 492, 3) := by decide +kernel
theorem d8_31 : decode jdk_42_method_92_code 31 = .ok (.ifCond .eq 16, 3) := by decide +kernel
theorem d8_34 : decode jdk_42_method_92_code 34 = .ok (.aload_n 0, 1) := by decide +kernel
theorem d8_35 : decode jdk_42_method_92_code 35 = .ok (.getfield 9, 3) := by decide +kernel
theorem d8_38 : decode jdk_42_method_92_code 38 = .ok (.iload_n 1, 1) := by decide +kernel
theorem d8_39 : decode jdk_42_method_92_code 39 = .ok (.iload 4, 2) := by decide +kernel
theorem d8_41 : decode jdk_42_method_92_code 41 = .ok (.invokestatic 685, 3) := by decide +kernel
theorem d8_44 : decode jdk_42_method_92_code 44 = .ok (.goto 13, 3) := by decide +kernel
theorem d8_47 : decode jdk_42_method_92_code 47 = .ok (.aload_n 0, 1) := by decide +kernel
theorem d8_48 : decode jdk_42_method_92_code 48 = .ok (.getfield 9, 3) := by decide +kernel
theorem d8_51 : decode jdk_42_method_92_code 51 = .ok (.iload_n 1, 1) := by decide +kernel
theorem d8_52 : decode jdk_42_method_92_code 52 = .ok (.iload 4, 2) := by decide +kernel
theorem d8_54 : decode jdk_42_method_92_code 54 = .ok (.invokestatic 689, 3) := by decide +kernel
theorem d8_57 : decode jdk_42_method_92_code 57 = .ok (.areturn, 1) := by decide +kernel
theorem d9_0 : decode jdk_42_method_158_code 0 = .ok (.iload_n 0, 1) := by decide +kernel
theorem d9_1 : decode jdk_42_method_158_code 1 = .ok (.iload_n 1, 1) := by decide +kernel
theorem d9_2 : decode jdk_42_method_158_code 2 = .ok (.iload_n 2, 1) := by decide +kernel
theorem d9_3 : decode jdk_42_method_158_code 3 = .ok (.getstatic 1053, 3) := by decide +kernel
theorem d9_6 : decode jdk_42_method_158_code 6 = .ok (.invokestatic 1062, 3) := by decide +kernel
theorem d9_9 : decode jdk_42_method_158_code 9 = .ok (.pop, 1) := by decide +kernel
theorem d9_10 : decode jdk_42_method_158_code 10 = .ok (.return_, 1) := by decide +kernel
theorem d10_0 : decode jdk_41_method_12_code 0 = .ok (.iload_n 0, 1) := by decide +kernel
theorem d10_1 : decode jdk_41_method_12_code 1 = .ok (.ifCond .lt 13, 3) := by decide +kernel
theorem d10_4 : decode jdk_41_method_12_code 4 = .ok (.iload_n 0, 1) := by decide +kernel
theorem d10_5 : decode jdk_41_method_12_code 5 = .ok (.iload_n 1, 1) := by decide +kernel
theorem d10_6 : decode jdk_41_method_12_code 6 = .ok (.if_icmp .gt 8, 3) := by decide +kernel
theorem d10_9 : decode jdk_41_method_12_code 9 = .ok (.iload_n 1, 1) := by decide +kernel
theorem d10_10 : decode jdk_41_method_12_code 10 = .ok (.iload_n 2, 1) := by decide +kernel
theorem d10_11 : decode jdk_41_method_12_code 11 = .ok (.if_icmp .le 11, 3) := by decide +kernel
theorem d10_22 : decode jdk_41_method_12_code 22 = .ok (.iload_n 0, 1) := by decide +kernel
theorem d10_23 : decode jdk_41_method_12_code 23 = .ok (.ireturn, 1) := by decide +kernel
theorem d11_0 : decode method_3_code 0 = .ok (.iload_n 2, 1) := by decide +kernel
theorem d11_1 : decode method_3_code 1 = .ok (.iload_n 1, 1) := by decide +kernel
theorem d11_2 : decode method_3_code 2 = .ok (.if_icmp .ge 23, 3) := by decide +kernel
theorem d11_5 : decode method_3_code 5 = .ok (.aload_n 0, 1) := by decide +kernel
theorem d11_6 : decode method_3_code 6 = .ok (.iload_n 2, 1) := by decide +kernel
theorem d11_7 : decode method_3_code 7 = .ok (.caload, 1) := by decide +kernel
theorem d11_8 : decode method_3_code 8 = .ok (.bipush 32, 2) := by decide +kernel
theorem d11_10 : decode method_3_code 10 = .ok (.if_icmp .eq 15, 3) := by decide +kernel
theorem d11_13 : decode method_3_code 13 = .ok (.aload_n 0, 1) := by decide +kernel
theorem d11_14 : decode method_3_code 14 = .ok (.iload_n 2, 1) := by decide +kernel
theorem d11_15 : decode method_3_code 15 = .ok (.caload, 1) := by decide +kernel
theorem d11_16 : decode method_3_code 16 = .ok (.bipush 9, 2) := by decide +kernel
theorem d11_18 : decode method_3_code 18 = .ok (.if_icmp .eq 7, 3) := by decide +kernel
theorem d11_21 : decode method_3_code 21 = .ok (.iconst 1, 1) := by decide +kernel
theorem d11_22 : decode method_3_code 22 = .ok (.goto 4, 3) := by decide +kernel
theorem d11_25 : decode method_3_code 25 = .ok (.iconst 0, 1) := by decide +kernel
theorem d11_26 : decode method_3_code 26 = .ok (.ireturn, 1) := by decide +kernel
theorem d12_0 : decode method_4_code 0 = .ok (.iload 4, 2) := by decide +kernel
theorem d12_2 : decode method_4_code 2 = .ok (.iload_n 1, 1) := by decide +kernel
theorem d12_3 : decode method_4_code 3 = .ok (.if_icmp .ge 18, 3) := by decide +kernel
theorem d12_6 : decode method_4_code 6 = .ok (.aload_n 0, 1) := by decide +kernel
theorem d12_7 : decode method_4_code 7 = .ok (.iload 4, 2) := by decide +kernel
theorem d12_9 : decode method_4_code 9 = .ok (.invokevirtual 8, 3) := by decide +kernel
theorem d12_12 : decode method_4_code 12 = .ok (.aload_n 2, 1) := by decide +kernel
theorem d12_13 : decode method_4_code 13 = .ok (.iload_n 3, 1) := by decide +kernel
theorem d12_14 : decode method_4_code 14 = .ok (.iload 4, 2) := by decide +kernel
theorem d12_16 : decode method_4_code 16 = .ok (.iadd, 1) := by decide +kernel
theorem d12_17 : decode method_4_code 17 = .ok (.caload, 1) := by decide +kernel
theorem d12_18 : decode method_4_code 18 = .ok (.if_icmp .ne 7, 3) := by decide +kernel
theorem d12_21 : decode method_4_code 21 = .ok (.iconst 1, 1) := by decide +kernel
theorem d12_22 : decode method_4_code 22 = .ok (.goto 4, 3) := by decide +kernel
theorem d12_26 : decode method_4_code 26 = .ok (.ireturn, 1) := by decide +kernel
theorem d13_0 : decode jdk_52_method_16_code 0 = .ok (.iload_n 2, 1) := by decide +kernel
theorem d13_1 : decode jdk_52_method_16_code 1 = .ok (.newarray .byte, 2) := by decide +kernel
theorem d13_3 : decode jdk_52_method_16_code 3 = .ok (.astore_n 3, 1) := by decide +kernel
theorem d13_4 : decode jdk_52_method_16_code 4 = .ok (.aload_n 0, 1) := by decide +kernel
theorem d13_5 : decode jdk_52_method_16_code 5 = .ok (.iload_n 1, 1) := by decide +kernel
theorem d13_6 : decode jdk_52_method_16_code 6 = .ok (.aload_n 3, 1) := by decide +kernel
theorem d13_7 : decode jdk_52_method_16_code 7 = .ok (.iconst 0, 1) := by decide +kernel
theorem d13_8 : decode jdk_52_method_16_code 8 = .ok (.iload_n 2, 1) := by decide +kernel
theorem d13_9 : decode jdk_52_method_16_code 9 = .ok (.invokestatic 115, 3) := by decide +kernel
theorem d13_12 : decode jdk_52_method_16_code 12 = .ok (.istore 4, 2) := by decide +kernel
theorem d13_14 : decode jdk_52_method_16_code 14 = .ok (.iload 4, 2) := by decide +kernel
theorem d13_16 : decode jdk_52_method_16_code 16 = .ok (.iload_n 2, 1) := by decide +kernel
theorem d13_17 : decode jdk_52_method_16_code 17 = .ok (.if_icmp .eq 40, 3) := by decide +kernel
theorem d13_20 : decode jdk_52_method_16_code 20 = .ok (.aload_n 0, 1) := by decide +kernel
theorem d13_21 : decode jdk_52_method_16_code 21 = .ok (.iload_n 1, 1) := by decide +kernel
theorem d13_22 : decode jdk_52_method_16_code 22 = .ok (.iload_n 2, 1) := by decide +kernel
theorem d13_23 : decode jdk_52_method_16_code 23 = .ok (.invokestatic 119, 3) := by decide +kernel
theorem d13_26 : decode jdk_52_method_16_code 26 = .ok (.astore 5, 2) := by decide +kernel
theorem d13_28 : decode jdk_52_method_16_code 28 = .ok (.aload 5, 2) := by decide +kernel
theorem d13_30 : decode jdk_52_method_16_code 30 = .ok (.iload 4, 2) := by decide +kernel
theorem d13_32 : decode jdk_52_method_16_code 32 = .ok (.invokestatic 71, 3) := by decide +kernel
theorem d13_35 : decode jdk_52_method_16_code 35 = .ok (.sipush 255, 3) := by decide +kernel
theorem d13_38 : decode jdk_52_method_16_code 38 = .ok (.if_icmp .gt 16, 3) := by decide +kernel
theorem d13_54 : decode jdk_52_method_16_code 54 = .ok (.aload 5, 2) := by decide +kernel
theorem d13_56 : decode jdk_52_method_16_code 56 = .ok (.areturn, 1) := by decide +kernel
theorem d13_57 : decode jdk_52_method_16_code 57 = .ok (.aload_n 3, 1) := by decide +kernel
theorem d13_58 : decode jdk_52_method_16_code 58 = .ok (.areturn, 1) := by decide +kernel
theorem d14_0 : decode jdk_52_method_21_code 0 = .ok (.iconst 0, 1) := by decide +kernel
theorem d14_1 : decode jdk_52_method_21_code 1 = .ok (.istore 5, 2) := by decide +kernel
theorem d14_3 : decode jdk_52_method_21_code 3 = .ok (.iload 5, 2) := by decide +kernel
theorem d14_5 : decode jdk_52_method_21_code 5 = .ok (.iload 4, 2) := by decide +kernel
theorem d14_7 : decode jdk_52_method_21_code 7 = .ok (.if_icmp .ge 37, 3) := by decide +kernel
theorem d14_10 : decode jdk_52_method_21_code 10 = .ok (.aload_n 0, 1) := by decide +kernel
theorem d14_11 : decode jdk_52_method_21_code 11 = .ok (.iload_n 1, 1) := by decide +kernel
theorem d14_12 : decode jdk_52_method_21_code 12 = .ok (.caload, 1) := by decide +kernel
theorem d14_13 : decode jdk_52_method_21_code 13 = .ok (.istore 6, 2) := by decide +kernel
theorem d14_15 : decode jdk_52_method_21_code 15 = .ok (.iload 6, 2) := by decide +kernel
theorem d14_17 : decode jdk_52_method_21_code 17 = .ok (.sipush 255, 3) := by decide +kernel
theorem d14_20 : decode jdk_52_method_21_code 20 = .ok (.if_icmp .le 6, 3) := by decide +kernel
theorem d14_23 : decode jdk_52_method_21_code 23 = .ok (.iload 5, 2) := by decide +kernel
theorem d14_25 : decode jdk_52_method_21_code 25 = .ok (.ireturn, 1) := by decide +kernel
theorem d14_26 : decode jdk_52_method_21_code 26 = .ok (.aload_n 2, 1) := by decide +kernel
theorem d14_27 : decode jdk_52_method_21_code 27 = .ok (.iload_n 3, 1) := by decide +kernel
theorem d14_28 : decode jdk_52_method_21_code 28 = .ok (.iload 6, 2) := by decide +kernel
theorem d14_30 : decode jdk_52_method_21_code 30 = .ok (.i2b, 1) := by decide +kernel
theorem d14_31 : decode jdk_52_method_21_code 31 = .ok (.bastore, 1) := by decide +kernel
theorem d14_32 : decode jdk_52_method_21_code 32 = .ok (.iinc 1 1, 3) := by decide +kernel
theorem d14_35 : decode jdk_52_method_21_code 35 = .ok (.iinc 3 1, 3) := by decide +kernel
theorem d14_38 : decode jdk_52_method_21_code 38 = .ok (.iinc 5 1, 3) := by decide +kernel
theorem d14_41 : decode jdk_52_method_21_code 41 = .ok (.goto (-38), 3) := by decide +kernel
theorem d14_44 : decode jdk_52_method_21_code 44 = .ok (.iload 4, 2) := by decide +kernel
theorem d14_46 : decode jdk_52_method_21_code 46 = .ok (.ireturn, 1) := by decide +kernel
theorem d15_0 : decode jdk_52_method_15_code 0 = .ok (.iload_n 1, 1) := by decide +kernel
theorem d15_1 : decode jdk_52_method_15_code 1 = .ok (.aload_n 0, 1) := by decide +kernel
theorem d15_2 : decode jdk_52_method_15_code 2 = .ok (.arraylength, 1) := by decide +kernel
theorem d15_3 : decode jdk_52_method_15_code 3 = .ok (.isub, 1) := by decide +kernel
theorem d15_4 : decode jdk_52_method_15_code 4 = .ok (.bipush 31, 2) := by decide +kernel
theorem d15_6 : decode jdk_52_method_15_code 6 = .ok (.iushr, 1) := by decide +kernel
theorem d15_7 : decode jdk_52_method_15_code 7 = .ok (.i2b, 1) := by decide +kernel
theorem d15_8 : decode jdk_52_method_15_code 8 = .ok (.ireturn, 1) := by decide +kernel
theorem d16_0 : decode jdk_42_method_56_code 0 = .ok (.aload_n 0, 1) := by decide +kernel
theorem d16_1 : decode jdk_42_method_56_code 1 = .ok (.invokevirtual 492, 3) := by decide +kernel
theorem d16_4 : decode jdk_42_method_56_code 4 = .ok (.ifCond .eq 12, 3) := by decide +kernel
theorem d16_7 : decode jdk_42_method_56_code 7 = .ok (.aload_n 0, 1) := by decide +kernel
theorem d16_8 : decode jdk_42_method_56_code 8 = .ok (.getfield 9, 3) := by decide +kernel
theorem d16_11 : decode jdk_42_method_56_code 11 = .ok (.iload_n 1, 1) := by decide +kernel
theorem d16_12 : decode jdk_42_method_56_code 12 = .ok (.invokestatic 495, 3) := by decide +kernel
theorem d16_15 : decode jdk_42_method_56_code 15 = .ok (.ireturn, 1) := by decide +kernel
theorem d16_16 : decode jdk_42_method_56_code 16 = .ok (.aload_n 0, 1) := by decide +kernel
theorem d16_17 : decode jdk_42_method_56_code 17 = .ok (.getfield 9, 3) := by decide +kernel
theorem d16_20 : decode jdk_42_method_56_code 20 = .ok (.iload_n 1, 1) := by decide +kernel
theorem d16_21 : decode jdk_42_method_56_code 21 = .ok (.invokestatic 498, 3) := by decide +kernel
theorem d16_24 : decode jdk_42_method_56_code 24 = .ok (.ireturn, 1) := by decide +kernel
theorem d17_0 : decode jdk_42_method_154_code 0 = .ok (.getstatic 38, 3) := by decide +kernel
theorem d17_3 : decode jdk_42_method_154_code 3 = .ok (.ifCond .eq 14, 3) := by decide +kernel
theorem d17_6 : decode jdk_42_method_154_code 6 = .ok (.aload_n 0, 1) := by decide +kernel
theorem d17_7 : decode jdk_42_method_154_code 7 = .ok (.getfield 15, 3) := by decide +kernel
theorem d17_10 : decode jdk_42_method_154_code 10 = .ok (.ifCond .ne 7, 3) := by decide +kernel
theorem d17_13 : decode jdk_42_method_154_code 13 = .ok (.iconst 1, 1) := by decide +kernel
theorem d17_14 : decode jdk_42_method_154_code 14 = .ok (.goto 4, 3) := by decide +kernel
theorem d17_17 : decode jdk_42_method_154_code 17 = .ok (.iconst 0, 1) := by decide +kernel
theorem d17_18 : decode jdk_42_method_154_code 18 = .ok (.ireturn, 1) := by decide +kernel
theorem d18_0 : decode jdk_43_method_2_code 0 = .ok (.iload_n 1, 1) := by decide +kernel
theorem d18_1 : decode jdk_43_method_2_code 1 = .ok (.aload_n 0, 1) := by decide +kernel
theorem d18_2 : decode jdk_43_method_2_code 2 = .ok (.arraylength, 1) := by decide +kernel
theorem d18_3 : decode jdk_43_method_2_code 3 = .ok (.invokestatic 9, 3) := by decide +kernel
theorem d18_6 : decode jdk_43_method_2_code 6 = .ok (.aload_n 0, 1) := by decide +kernel
theorem d18_7 : decode jdk_43_method_2_code 7 = .ok (.iload_n 1, 1) := by decide +kernel
theorem d18_8 : decode jdk_43_method_2_code 8 = .ok (.baload, 1) := by decide +kernel
theorem d18_9 : decode jdk_43_method_2_code 9 = .ok (.sipush 255, 3) := by decide +kernel
theorem d18_12 : decode jdk_43_method_2_code 12 = .ok (.iand, 1) := by decide +kernel
theorem d18_13 : decode jdk_43_method_2_code 13 = .ok (.i2c, 1) := by decide +kernel
theorem d18_14 : decode jdk_43_method_2_code 14 = .ok (.ireturn, 1) := by decide +kernel
theorem d19_0 : decode jdk_42_method_155_code 0 = .ok (.iload_n 0, 1) := by decide +kernel
theorem d19_1 : decode jdk_42_method_155_code 1 = .ok (.iload_n 1, 1) := by decide +kernel
theorem d19_2 : decode jdk_42_method_155_code 2 = .ok (.getstatic 1053, 3) := by decide +kernel
theorem d19_5 : decode jdk_42_method_155_code 5 = .ok (.invokestatic 1059, 3) := by decide +kernel
theorem d19_8 : decode jdk_42_method_155_code 8 = .ok (.pop, 1) := by decide +kernel
theorem d19_9 : decode jdk_42_method_155_code 9 = .ok (.return_, 1) := by decide +kernel
theorem d20_0 : decode jdk_41_method_11_code 0 = .ok (.iload_n 0, 1) := by decide +kernel
theorem d20_1 : decode jdk_41_method_11_code 1 = .ok (.ifCond .lt 8, 3) := by decide +kernel
theorem d20_4 : decode jdk_41_method_11_code 4 = .ok (.iload_n 0, 1) := by decide +kernel
theorem d20_5 : decode jdk_41_method_11_code 5 = .ok (.iload_n 1, 1) := by decide +kernel
theorem d20_6 : decode jdk_41_method_11_code 6 = .ok (.if_icmp .lt 10, 3) := by decide +kernel
theorem d20_16 : decode jdk_41_method_11_code 16 = .ok (.iload_n 0, 1) := by decide +kernel
theorem d20_17 : decode jdk_41_method_11_code 17 = .ok (.ireturn, 1) := by decide +kernel
theorem d21_0 : decode prog_21_method_16_code 0 = .ok (.iload_n 0, 1) := by decide +kernel
theorem d21_1 : decode prog_21_method_16_code 1 = .ok (.bipush 32, 2) := by decide +kernel
theorem d21_3 : decode prog_21_method_16_code 3 = .ok (.if_icmp .eq 9, 3) := by decide +kernel
theorem d21_6 : decode prog_21_method_16_code 6 = .ok (.iload_n 0, 1) := by decide +kernel
theorem d21_7 : decode prog_21_method_16_code 7 = .ok (.bipush 9, 2) := by decide +kernel
theorem d21_9 : decode prog_21_method_16_code 9 = .ok (.if_icmp .ne 7, 3) := by decide +kernel
theorem d21_12 : decode prog_21_method_16_code 12 = .ok (.iconst 1, 1) := by decide +kernel
theorem d21_13 : decode prog_21_method_16_code 13 = .ok (.goto 4, 3) := by decide +kernel
theorem d21_16 : decode prog_21_method_16_code 16 = .ok (.iconst 0, 1) := by decide +kernel
theorem d21_17 : decode prog_21_method_16_code 17 = .ok (.ireturn, 1) := by decide +kernel
theorem d22_0 : decode jdk_43_method_47_code 0 = .ok (.iload_n 2, 1) := by decide +kernel
theorem d22_1 : decode jdk_43_method_47_code 1 = .ok (.ifCond .ne 6, 3) := by decide +kernel
theorem d22_4 : decode jdk_43_method_47_code 4 = .ok (.ldc 151, 2) := by decide +kernel
theorem d22_6 : decode jdk_43_method_47_code 6 = .ok (.areturn, 1) := by decide +kernel
theorem d22_7 : decode jdk_43_method_47_code 7 = .ok (.new 1, 3) := by decide +kernel
theorem d22_10 : decode jdk_43_method_47_code 10 = .ok (.dup, 1) := by decide +kernel
theorem d22_11 : decode jdk_43_method_47_code 11 = .ok (.aload_n 0, 1) := by decide +kernel
theorem d22_12 : decode jdk_43_method_47_code 12 = .ok (.iload_n 1, 1) := by decide +kernel
theorem d22_13 : decode jdk_43_method_47_code 13 = .ok (.iload_n 1, 1) := by decide +kernel
theorem d22_14 : decode jdk_43_method_47_code 14 = .ok (.iload_n 2, 1) := by decide +kernel
theorem d22_15 : decode jdk_43_method_47_code 15 = .ok (.iadd, 1) := by decide +kernel
theorem d22_16 : decode jdk_43_method_47_code 16 = .ok (.invokestatic 232, 3) := by decide +kernel
theorem d22_19 : decode jdk_43_method_47_code 19 = .ok (.iconst 0, 1) := by decide +kernel
theorem d22_20 : decode jdk_43_method_47_code 20 = .ok (.invokespecial 112, 3) := by decide +kernel
theorem d22_23 : decode jdk_43_method_47_code 23 = .ok (.areturn, 1) := by decide +kernel
theorem d23_0 : decode jdk_65_method_132_code 0 = .ok (.iload_n 1, 1) := by decide +kernel
theorem d23_1 : decode jdk_65_method_132_code 1 = .ok (.ifCond .ne 9, 3) := by decide +kernel
theorem d23_4 : decode jdk_65_method_132_code 4 = .ok (.iload_n 2, 1) := by decide +kernel
theorem d23_5 : decode jdk_65_method_132_code 5 = .ok (.aload_n 0, 1) := by decide +kernel
theorem d23_6 : decode jdk_65_method_132_code 6 = .ok (.arraylength, 1) := by decide +kernel
theorem d23_7 : decode jdk_65_method_132_code 7 = .ok (.if_icmp .eq 10, 3) := by decide +kernel
theorem d23_10 : decode jdk_65_method_132_code 10 = .ok (.aload_n 0, 1) := by decide +kernel
theorem d23_11 : decode jdk_65_method_132_code 11 = .ok (.iload_n 1, 1) := by decide +kernel
theorem d23_12 : decode jdk_65_method_132_code 12 = .ok (.iload_n 2, 1) := by decide +kernel
theorem d23_13 : decode jdk_65_method_132_code 13 = .ok (.invokestatic 339, 3) := by decide +kernel
theorem d23_16 : decode jdk_65_method_132_code 16 = .ok (.areturn, 1) := by decide +kernel
theorem d24_0 : decode jdk_65_method_133_code 0 = .ok (.iload_n 1, 1) := by decide +kernel
theorem d24_1 : decode jdk_65_method_133_code 1 = .ok (.iload_n 2, 1) := by decide +kernel
theorem d24_2 : decode jdk_65_method_133_code 2 = .ok (.invokestatic 343, 3) := by decide +kernel
theorem d24_5 : decode jdk_65_method_133_code 5 = .ok (.iload_n 2, 1) := by decide +kernel
theorem d24_6 : decode jdk_65_method_133_code 6 = .ok (.iload_n 1, 1) := by decide +kernel
theorem d24_7 : decode jdk_65_method_133_code 7 = .ok (.isub, 1) := by decide +kernel
theorem d24_8 : decode jdk_65_method_133_code 8 = .ok (.istore_n 3, 1) := by decide +kernel
theorem d24_9 : decode jdk_65_method_133_code 9 = .ok (.iload_n 3, 1) := by decide +kernel
theorem d24_10 : decode jdk_65_method_133_code 10 = .ok (.newarray .byte, 2) := by decide +kernel
theorem d24_12 : decode jdk_65_method_133_code 12 = .ok (.astore 4, 2) := by decide +kernel
theorem d24_14 : decode jdk_65_method_133_code 14 = .ok (.aload_n 0, 1) := by decide +kernel
theorem d24_15 : decode jdk_65_method_133_code 15 = .ok (.iload_n 1, 1) := by decide +kernel
theorem d24_16 : decode jdk_65_method_133_code 16 = .ok (.aload 4, 2) := by decide +kernel
theorem d24_18 : decode jdk_65_method_133_code 18 = .ok (.iconst 0, 1) := by decide +kernel
theorem d24_19 : decode jdk_65_method_133_code 19 = .ok (.aload_n 0, 1) := by decide +kernel
theorem d24_20 : decode jdk_65_method_133_code 20 = .ok (.arraylength, 1) := by decide +kernel
theorem d24_21 : decode jdk_65_method_133_code 21 = .ok (.iload_n 1, 1) := by decide +kernel
theorem d24_22 : decode jdk_65_method_133_code 22 = .ok (.isub, 1) := by decide +kernel
theorem d24_23 : decode jdk_65_method_133_code 23 = .ok (.iload_n 3, 1) := by decide +kernel
theorem d24_24 : decode jdk_65_method_133_code 24 = .ok (.invokestatic 304, 3) := by decide +kernel
theorem d24_27 : decode jdk_65_method_133_code 27 = .ok (.invokestatic 150, 3) := by decide +kernel
theorem d24_30 : decode jdk_65_method_133_code 30 = .ok (.aload 4, 2) := by decide +kernel
theorem d24_32 : decode jdk_65_method_133_code 32 = .ok (.areturn, 1) := by decide +kernel
theorem d25_0 : decode jdk_65_method_131_code 0 = .ok (.iload_n 1, 1) := by decide +kernel
theorem d25_1 : decode jdk_65_method_131_code 1 = .ok (.iload_n 0, 1) := by decide +kernel
theorem d25_2 : decode jdk_65_method_131_code 2 = .ok (.if_icmp .ge 35, 3) := by decide +kernel
theorem d25_37 : decode jdk_65_method_131_code 37 = .ok (.return_, 1) := by decide +kernel
theorem d26_0 : decode jdk_29_method_69_code 0 = .ok (.iload_n 0, 1) := by decide +kernel
theorem d26_1 : decode jdk_29_method_69_code 1 = .ok (.iload_n 1, 1) := by decide +kernel
theorem d26_2 : decode jdk_29_method_69_code 2 = .ok (.if_icmp .gt 7, 3) := by decide +kernel
theorem d26_5 : decode jdk_29_method_69_code 5 = .ok (.iload_n 0, 1) := by decide +kernel
theorem d26_6 : decode jdk_29_method_69_code 6 = .ok (.goto 4, 3) := by decide +kernel
theorem d26_9 : decode jdk_29_method_69_code 9 = .ok (.iload_n 1, 1) := by decide +kernel
theorem d26_10 : decode jdk_29_method_69_code 10 = .ok (.ireturn, 1) := by decide +kernel
theorem d27_0 : decode jdk_42_method_151_code 0 = .ok (.aload_n 0, 1) := by decide +kernel
theorem d27_1 : decode jdk_42_method_151_code 1 = .ok (.invokespecial 1, 3) := by decide +kernel
theorem d27_4 : decode jdk_42_method_151_code 4 = .ok (.aload_n 0, 1) := by decide +kernel
theorem d27_5 : decode jdk_42_method_151_code 5 = .ok (.aload_n 1, 1) := by decide +kernel
theorem d27_6 : decode jdk_42_method_151_code 6 = .ok (.putfield 9, 3) := by decide +kernel
theorem d27_9 : decode jdk_42_method_151_code 9 = .ok (.aload_n 0, 1) := by decide +kernel
theorem d27_10 : decode jdk_42_method_151_code 10 = .ok (.iload_n 2, 1) := by decide +kernel
theorem d27_11 : decode jdk_42_method_151_code 11 = .ok (.putfield 15, 3) := by decide +kernel
theorem d27_14 : decode jdk_42_method_151_code 14 = .ok (.return_, 1) := by decide +kernel
theorem d28_0 : decode jdk_52_method_14_code 0 = .ok (.iload_n 2, 1) := by decide +kernel
theorem d28_1 : decode jdk_52_method_14_code 1 = .ok (.invokestatic 107, 3) := by decide +kernel
theorem d28_4 : decode jdk_52_method_14_code 4 = .ok (.astore_n 3, 1) := by decide +kernel
theorem d28_5 : decode jdk_52_method_14_code 5 = .ok (.iconst 0, 1) := by decide +kernel
theorem d28_6 : decode jdk_52_method_14_code 6 = .ok (.istore 4, 2) := by decide +kernel
theorem d28_8 : decode jdk_52_method_14_code 8 = .ok (.iload 4, 2) := by decide +kernel
theorem d28_10 : decode jdk_52_method_14_code 10 = .ok (.iload_n 2, 1) := by decide +kernel
theorem d28_11 : decode jdk_52_method_14_code 11 = .ok (.if_icmp .ge 21, 3) := by decide +kernel
theorem d28_14 : decode jdk_52_method_14_code 14 = .ok (.aload_n 3, 1) := by decide +kernel
theorem d28_15 : decode jdk_52_method_14_code 15 = .ok (.iload 4, 2) := by decide +kernel
theorem d28_17 : decode jdk_52_method_14_code 17 = .ok (.aload_n 0, 1) := by decide +kernel
theorem d28_18 : decode jdk_52_method_14_code 18 = .ok (.iload_n 1, 1) := by decide +kernel
theorem d28_19 : decode jdk_52_method_14_code 19 = .ok (.caload, 1) := by decide +kernel
theorem d28_20 : decode jdk_52_method_14_code 20 = .ok (.invokestatic 111, 3) := by decide +kernel
theorem d28_23 : decode jdk_52_method_14_code 23 = .ok (.iinc 1 1, 3) := by decide +kernel
theorem d28_26 : decode jdk_52_method_14_code 26 = .ok (.iinc 4 1, 3) := by decide +kernel
theorem d28_29 : decode jdk_52_method_14_code 29 = .ok (.goto (-21), 3) := by decide +kernel
theorem d28_32 : decode jdk_52_method_14_code 32 = .ok (.aload_n 3, 1) := by decide +kernel
theorem d28_33 : decode jdk_52_method_14_code 33 = .ok (.areturn, 1) := by decide +kernel
theorem d29_0 : decode jdk_52_method_2_code 0 = .ok (.iload_n 0, 1) := by decide +kernel
theorem d29_1 : decode jdk_52_method_2_code 1 = .ok (.invokestatic 11, 3) := by decide +kernel
theorem d29_4 : decode jdk_52_method_2_code 4 = .ok (.newarray .byte, 2) := by decide +kernel
theorem d29_6 : decode jdk_52_method_2_code 6 = .ok (.areturn, 1) := by decide +kernel
theorem d30_0 : decode jdk_52_method_3_code 0 = .ok (.iload_n 0, 1) := by decide +kernel
theorem d30_1 : decode jdk_52_method_3_code 1 = .ok (.ifCond .ge 11, 3) := by decide +kernel
theorem d30_12 : decode jdk_52_method_3_code 12 = .ok (.iload_n 0, 1) := by decide +kernel
theorem d30_13 : decode jdk_52_method_3_code 13 = .ok (.ldc 20, 2) := by decide +kernel
theorem d30_15 : decode jdk_52_method_3_code 15 = .ok (.if_icmp .lt 40, 3) := by decide +kernel
theorem d30_55 : decode jdk_52_method_3_code 55 = .ok (.iload_n 0, 1) := by decide +kernel
theorem d30_56 : decode jdk_52_method_3_code 56 = .ok (.iconst 1, 1) := by decide +kernel
theorem d30_57 : decode jdk_52_method_3_code 57 = .ok (.ishl, 1) := by decide +kernel
theorem d30_58 : decode jdk_52_method_3_code 58 = .ok (.ireturn, 1) := by decide +kernel
theorem d31_0 : decode jdk_52_method_4_code 0 = .ok (.getstatic 44, 3) := by decide +kernel
theorem d31_3 : decode jdk_52_method_4_code 3 = .ok (.ifCond .ne 25, 3) := by decide +kernel
theorem d31_28 : decode jdk_52_method_4_code 28 = .ok (.iload_n 1, 1) := by decide +kernel
theorem d31_29 : decode jdk_52_method_4_code 29 = .ok (.iconst 1, 1) := by decide +kernel
theorem d31_30 : decode jdk_52_method_4_code 30 = .ok (.ishl, 1) := by decide +kernel
theorem d31_31 : decode jdk_52_method_4_code 31 = .ok (.istore_n 1, 1) := by decide +kernel
theorem d31_32 : decode jdk_52_method_4_code 32 = .ok (.aload_n 0, 1) := by decide +kernel
theorem d31_33 : decode jdk_52_method_4_code 33 = .ok (.iload_n 1, 1) := by decide +kernel
theorem d31_34 : decode jdk_52_method_4_code 34 = .ok (.iinc 1 1, 3) := by decide +kernel
theorem d31_37 : decode jdk_52_method_4_code 37 = .ok (.iload_n 2, 1) := by decide +kernel
theorem d31_38 : decode jdk_52_method_4_code 38 = .ok (.getstatic 59, 3) := by decide +kernel
theorem d31_41 : decode jdk_52_method_4_code 41 = .ok (.ishr, 1) := by decide +kernel
theorem d31_42 : decode jdk_52_method_4_code 42 = .ok (.i2b, 1) := by decide +kernel
theorem d31_43 : decode jdk_52_method_4_code 43 = .ok (.bastore, 1) := by decide +kernel
theorem d31_44 : decode jdk_52_method_4_code 44 = .ok (.aload_n 0, 1) := by decide +kernel
theorem d31_45 : decode jdk_52_method_4_code 45 = .ok (.iload_n 1, 1) := by decide +kernel
theorem d31_46 : decode jdk_52_method_4_code 46 = .ok (.iload_n 2, 1) := by decide +kernel
theorem d31_47 : decode jdk_52_method_4_code 47 = .ok (.getstatic 63, 3) := by decide +kernel
theorem d31_50 : decode jdk_52_method_4_code 50 = .ok (.ishr, 1) := by decide +kernel
theorem d31_51 : decode jdk_52_method_4_code 51 = .ok (.i2b, 1) := by decide +kernel
theorem d31_52 : decode jdk_52_method_4_code 52 = .ok (.bastore, 1) := by decide +kernel
theorem d31_53 : decode jdk_52_method_4_code 53 = .ok (.return_, 1) := by decide +kernel
theorem d32_0 : decode jdk_52_method_5_code 0 = .ok (.getstatic 44, 3) := by decide +kernel
theorem d32_3 : decode jdk_52_method_5_code 3 = .ok (.ifCond .ne 25, 3) := by decide +kernel
theorem d32_28 : decode jdk_52_method_5_code 28 = .ok (.iload_n 1, 1) := by decide +kernel
theorem d32_29 : decode jdk_52_method_5_code 29 = .ok (.iconst 1, 1) := by decide +kernel
theorem d32_30 : decode jdk_52_method_5_code 30 = .ok (.ishl, 1) := by decide +kernel
theorem d32_31 : decode jdk_52_method_5_code 31 = .ok (.istore_n 1, 1) := by decide +kernel
theorem d32_32 : decode jdk_52_method_5_code 32 = .ok (.aload_n 0, 1) := by decide +kernel
theorem d32_33 : decode jdk_52_method_5_code 33 = .ok (.iload_n 1, 1) := by decide +kernel
theorem d32_34 : decode jdk_52_method_5_code 34 = .ok (.iinc 1 1, 3) := by decide +kernel
theorem d32_37 : decode jdk_52_method_5_code 37 = .ok (.baload, 1) := by decide +kernel
theorem d32_38 : decode jdk_52_method_5_code 38 = .ok (.sipush 255, 3) := by decide +kernel
theorem d32_41 : decode jdk_52_method_5_code 41 = .ok (.iand, 1) := by decide +kernel
theorem d32_42 : decode jdk_52_method_5_code 42 = .ok (.getstatic 59, 3) := by decide +kernel
theorem d32_45 : decode jdk_52_method_5_code 45 = .ok (.ishl, 1) := by decide +kernel
theorem d32_46 : decode jdk_52_method_5_code 46 = .ok (.aload_n 0, 1) := by decide +kernel
theorem d32_47 : decode jdk_52_method_5_code 47 = .ok (.iload_n 1, 1) := by decide +kernel
theorem d32_48 : decode jdk_52_method_5_code 48 = .ok (.baload, 1) := by decide +kernel
theorem d32_49 : decode jdk_52_method_5_code 49 = .ok (.sipush 255, 3) := by decide +kernel
theorem d32_52 : decode jdk_52_method_5_code 52 = .ok (.iand, 1) := by decide +kernel
theorem d32_53 : decode jdk_52_method_5_code 53 = .ok (.getstatic 63, 3) := by decide +kernel
theorem d32_56 : decode jdk_52_method_5_code 56 = .ok (.ishl, 1) := by decide +kernel
theorem d32_57 : decode jdk_52_method_5_code 57 = .ok (.ior, 1) := by decide +kernel
theorem d32_58 : decode jdk_52_method_5_code 58 = .ok (.i2c, 1) := by decide +kernel
theorem d32_59 : decode jdk_52_method_5_code 59 = .ok (.ireturn, 1) := by decide +kernel
theorem d33_0 : decode jdk_52_method_83_code 0 = .ok (.iload_n 1, 1) := by decide +kernel
theorem d33_1 : decode jdk_52_method_83_code 1 = .ok (.aload_n 0, 1) := by decide +kernel
theorem d33_2 : decode jdk_52_method_83_code 2 = .ok (.invokestatic 67, 3) := by decide +kernel
theorem d33_5 : decode jdk_52_method_83_code 5 = .ok (.aload_n 0, 1) := by decide +kernel
theorem d33_6 : decode jdk_52_method_83_code 6 = .ok (.iload_n 1, 1) := by decide +kernel
theorem d33_7 : decode jdk_52_method_83_code 7 = .ok (.invokestatic 71, 3) := by decide +kernel
theorem d33_10 : decode jdk_52_method_83_code 10 = .ok (.ireturn, 1) := by decide +kernel
theorem d34_0 : decode jdk_52_method_91_code 0 = .ok (.iload_n 0, 1) := by decide +kernel
theorem d34_1 : decode jdk_52_method_91_code 1 = .ok (.aload_n 1, 1) := by decide +kernel
theorem d34_2 : decode jdk_52_method_91_code 2 = .ok (.invokestatic 48, 3) := by decide +kernel
theorem d34_5 : decode jdk_52_method_91_code 5 = .ok (.invokestatic 414, 3) := by decide +kernel
theorem d34_8 : decode jdk_52_method_91_code 8 = .ok (.return_, 1) := by decide +kernel
theorem d35_0 : decode jdk_52_method_6_code 0 = .ok (.aload_n 0, 1) := by decide +kernel
theorem d35_1 : decode jdk_52_method_6_code 1 = .ok (.arraylength, 1) := by decide +kernel
theorem d35_2 : decode jdk_52_method_6_code 2 = .ok (.iconst 1, 1) := by decide +kernel
theorem d35_3 : decode jdk_52_method_6_code 3 = .ok (.ishr, 1) := by decide +kernel
theorem d35_4 : decode jdk_52_method_6_code 4 = .ok (.ireturn, 1) := by decide +kernel
theorem d36_0 : decode jdk_52_method_69_code 0 = .ok (.iload_n 2, 1) := by decide +kernel
theorem d36_1 : decode jdk_52_method_69_code 1 = .ok (.ifCond .ne 7, 3) := by decide +kernel
theorem d36_8 : decode jdk_52_method_69_code 8 = .ok (.getstatic 251, 3) := by decide +kernel
theorem d36_11 : decode jdk_52_method_69_code 11 = .ok (.ifCond .eq 28, 3) := by decide +kernel
theorem d36_14 : decode jdk_52_method_69_code 14 = .ok (.aload_n 0, 1) := by decide +kernel
theorem d36_15 : decode jdk_52_method_69_code 15 = .ok (.iload_n 1, 1) := by decide +kernel
theorem d36_16 : decode jdk_52_method_69_code 16 = .ok (.iload_n 2, 1) := by decide +kernel
theorem d36_17 : decode jdk_52_method_69_code 17 = .ok (.invokestatic 257, 3) := by decide +kernel
theorem d36_20 : decode jdk_52_method_69_code 20 = .ok (.astore_n 3, 1) := by decide +kernel
theorem d36_21 : decode jdk_52_method_69_code 21 = .ok (.aload_n 3, 1) := by decide +kernel
theorem d36_22 : decode jdk_52_method_69_code 22 = .ok (.iload_n 2, 1) := by decide +kernel
theorem d36_23 : decode jdk_52_method_69_code 23 = .ok (.invokestatic 259, 3) := by decide +kernel
theorem d36_26 : decode jdk_52_method_69_code 26 = .ok (.istore 4, 2) := by decide +kernel
theorem d36_28 : decode jdk_52_method_69_code 28 = .ok (.new 3, 3) := by decide +kernel
theorem d36_31 : decode jdk_52_method_69_code 31 = .ok (.dup, 1) := by decide +kernel
theorem d36_32 : decode jdk_52_method_69_code 32 = .ok (.aload_n 3, 1) := by decide +kernel
theorem d36_33 : decode jdk_52_method_69_code 33 = .ok (.iload 4, 2) := by decide +kernel
theorem d36_35 : decode jdk_52_method_69_code 35 = .ok (.invokespecial 263, 3) := by decide +kernel
theorem d36_38 : decode jdk_52_method_69_code 38 = .ok (.areturn, 1) := by decide +kernel
theorem d37_0 : decode jdk_52_method_17_code 0 = .ok (.iload_n 2, 1) := by decide +kernel
theorem d37_1 : decode jdk_52_method_17_code 1 = .ok (.newarray .byte, 2) := by decide +kernel
theorem d37_3 : decode jdk_52_method_17_code 3 = .ok (.astore_n 3, 1) := by decide +kernel
theorem d37_4 : decode jdk_52_method_17_code 4 = .ok (.aload_n 0, 1) := by decide +kernel
theorem d37_5 : decode jdk_52_method_17_code 5 = .ok (.iload_n 1, 1) := by decide +kernel
theorem d37_6 : decode jdk_52_method_17_code 6 = .ok (.aload_n 3, 1) := by decide +kernel
theorem d37_7 : decode jdk_52_method_17_code 7 = .ok (.iconst 0, 1) := by decide +kernel
theorem d37_8 : decode jdk_52_method_17_code 8 = .ok (.iload_n 2, 1) := by decide +kernel
theorem d37_9 : decode jdk_52_method_17_code 9 = .ok (.invokestatic 123, 3) := by decide +kernel
theorem d37_12 : decode jdk_52_method_17_code 12 = .ok (.istore 4, 2) := by decide +kernel
theorem d37_14 : decode jdk_52_method_17_code 14 = .ok (.iload 4, 2) := by decide +kernel
theorem d37_16 : decode jdk_52_method_17_code 16 = .ok (.iload_n 2, 1) := by decide +kernel
theorem d37_17 : decode jdk_52_method_17_code 17 = .ok (.if_icmp .eq 47, 3) := by decide +kernel
theorem d37_20 : decode jdk_52_method_17_code 20 = .ok (.aload_n 0, 1) := by decide +kernel
theorem d37_21 : decode jdk_52_method_17_code 21 = .ok (.iload_n 1, 1) := by decide +kernel
theorem d37_22 : decode jdk_52_method_17_code 22 = .ok (.iconst 1, 1) := by decide +kernel
theorem d37_23 : decode jdk_52_method_17_code 23 = .ok (.ishl, 1) := by decide +kernel
theorem d37_24 : decode jdk_52_method_17_code 24 = .ok (.iload_n 1, 1) := by decide +kernel
theorem d37_25 : decode jdk_52_method_17_code 25 = .ok (.iload_n 2, 1) := by decide +kernel
theorem d37_26 : decode jdk_52_method_17_code 26 = .ok (.iadd, 1) := by decide +kernel
theorem d37_27 : decode jdk_52_method_17_code 27 = .ok (.invokestatic 11, 3) := by decide +kernel
theorem d37_30 : decode jdk_52_method_17_code 30 = .ok (.invokestatic 126, 3) := by decide +kernel
theorem d37_33 : decode jdk_52_method_17_code 33 = .ok (.astore 5, 2) := by decide +kernel
theorem d37_35 : decode jdk_52_method_17_code 35 = .ok (.aload 5, 2) := by decide +kernel
theorem d37_37 : decode jdk_52_method_17_code 37 = .ok (.iload 4, 2) := by decide +kernel
theorem d37_39 : decode jdk_52_method_17_code 39 = .ok (.invokestatic 71, 3) := by decide +kernel
theorem d37_42 : decode jdk_52_method_17_code 42 = .ok (.sipush 255, 3) := by decide +kernel
theorem d37_45 : decode jdk_52_method_17_code 45 = .ok (.if_icmp .gt 16, 3) := by decide +kernel
theorem d37_61 : decode jdk_52_method_17_code 61 = .ok (.aload 5, 2) := by decide +kernel
theorem d37_63 : decode jdk_52_method_17_code 63 = .ok (.areturn, 1) := by decide +kernel
theorem d37_64 : decode jdk_52_method_17_code 64 = .ok (.aload_n 3, 1) := by decide +kernel
theorem d37_65 : decode jdk_52_method_17_code 65 = .ok (.areturn, 1) := by decide +kernel
theorem d38_0 : decode jdk_52_method_22_code 0 = .ok (.iload_n 1, 1) := by decide +kernel
theorem d38_1 : decode jdk_52_method_22_code 1 = .ok (.iload 4, 2) := by decide +kernel
theorem d38_3 : decode jdk_52_method_22_code 3 = .ok (.aload_n 0, 1) := by decide +kernel
theorem d38_4 : decode jdk_52_method_22_code 4 = .ok (.invokestatic 173, 3) := by decide +kernel
theorem d38_7 : decode jdk_52_method_22_code 7 = .ok (.iconst 0, 1) := by decide +kernel
theorem d38_8 : decode jdk_52_method_22_code 8 = .ok (.istore 5, 2) := by decide +kernel
theorem d38_10 : decode jdk_52_method_22_code 10 = .ok (.iload 5, 2) := by decide +kernel
theorem d38_12 : decode jdk_52_method_22_code 12 = .ok (.iload 4, 2) := by decide +kernel
theorem d38_14 : decode jdk_52_method_22_code 14 = .ok (.if_icmp .ge 39, 3) := by decide +kernel
theorem d38_17 : decode jdk_52_method_22_code 17 = .ok (.aload_n 0, 1) := by decide +kernel
theorem d38_18 : decode jdk_52_method_22_code 18 = .ok (.iload_n 1, 1) := by decide +kernel
theorem d38_19 : decode jdk_52_method_22_code 19 = .ok (.invokestatic 71, 3) := by decide +kernel
theorem d38_22 : decode jdk_52_method_22_code 22 = .ok (.istore 6, 2) := by decide +kernel
theorem d38_24 : decode jdk_52_method_22_code 24 = .ok (.iload 6, 2) := by decide +kernel
theorem d38_26 : decode jdk_52_method_22_code 26 = .ok (.sipush 255, 3) := by decide +kernel
theorem d38_29 : decode jdk_52_method_22_code 29 = .ok (.if_icmp .le 6, 3) := by decide +kernel
theorem d38_32 : decode jdk_52_method_22_code 32 = .ok (.iload 5, 2) := by decide +kernel
theorem d38_34 : decode jdk_52_method_22_code 34 = .ok (.ireturn, 1) := by decide +kernel
theorem d38_35 : decode jdk_52_method_22_code 35 = .ok (.aload_n 2, 1) := by decide +kernel
theorem d38_36 : decode jdk_52_method_22_code 36 = .ok (.iload_n 3, 1) := by decide +kernel
theorem d38_37 : decode jdk_52_method_22_code 37 = .ok (.iload 6, 2) := by decide +kernel
theorem d38_39 : decode jdk_52_method_22_code 39 = .ok (.i2b, 1) := by decide +kernel
theorem d38_40 : decode jdk_52_method_22_code 40 = .ok (.bastore, 1) := by decide +kernel
theorem d38_41 : decode jdk_52_method_22_code 41 = .ok (.iinc 1 1, 3) := by decide +kernel
theorem d38_44 : decode jdk_52_method_22_code 44 = .ok (.iinc 3 1, 3) := by decide +kernel
theorem d38_47 : decode jdk_52_method_22_code 47 = .ok (.iinc 5 1, 3) := by decide +kernel
theorem d38_50 : decode jdk_52_method_22_code 50 = .ok (.goto (-40), 3) := by decide +kernel
theorem d38_53 : decode jdk_52_method_22_code 53 = .ok (.iload 4, 2) := by decide +kernel
theorem d38_55 : decode jdk_52_method_22_code 55 = .ok (.ireturn, 1) := by decide +kernel
theorem d39_0 : decode jdk_52_method_94_code 0 = .ok (.iload_n 0, 1) := by decide +kernel
theorem d39_1 : decode jdk_52_method_94_code 1 = .ok (.iload_n 1, 1) := by decide +kernel
theorem d39_2 : decode jdk_52_method_94_code 2 = .ok (.aload_n 2, 1) := by decide +kernel
theorem d39_3 : decode jdk_52_method_94_code 3 = .ok (.invokestatic 48, 3) := by decide +kernel
theorem d39_6 : decode jdk_52_method_94_code 6 = .ok (.invokestatic 419, 3) := by decide +kernel
theorem d39_9 : decode jdk_52_method_94_code 9 = .ok (.pop, 1) := by decide +kernel
theorem d39_10 : decode jdk_52_method_94_code 10 = .ok (.return_, 1) := by decide +kernel
theorem d40_0 : decode jdk_42_method_157_code 0 = .ok (.iload_n 0, 1) := by decide +kernel
theorem d40_1 : decode jdk_42_method_157_code 1 = .ok (.iload_n 1, 1) := by decide +kernel
theorem d40_2 : decode jdk_42_method_157_code 2 = .ok (.iload_n 2, 1) := by decide +kernel
theorem d40_3 : decode jdk_42_method_157_code 3 = .ok (.getstatic 1053, 3) := by decide +kernel
theorem d40_6 : decode jdk_42_method_157_code 6 = .ok (.invokestatic 1065, 3) := by decide +kernel
theorem d40_9 : decode jdk_42_method_157_code 9 = .ok (.ireturn, 1) := by decide +kernel
theorem d41_0 : decode jdk_41_method_13_code 0 = .ok (.iload_n 2, 1) := by decide +kernel
theorem d41_1 : decode jdk_41_method_13_code 1 = .ok (.iload_n 0, 1) := by decide +kernel
theorem d41_2 : decode jdk_41_method_13_code 2 = .ok (.ior, 1) := by decide +kernel
theorem d41_3 : decode jdk_41_method_13_code 3 = .ok (.iload_n 1, 1) := by decide +kernel
theorem d41_4 : decode jdk_41_method_13_code 4 = .ok (.ior, 1) := by decide +kernel
theorem d41_5 : decode jdk_41_method_13_code 5 = .ok (.ifCond .lt 10, 3) := by decide +kernel
theorem d41_8 : decode jdk_41_method_13_code 8 = .ok (.iload_n 1, 1) := by decide +kernel
theorem d41_9 : decode jdk_41_method_13_code 9 = .ok (.iload_n 2, 1) := by decide +kernel
theorem d41_10 : decode jdk_41_method_13_code 10 = .ok (.iload_n 0, 1) := by decide +kernel
theorem d41_11 : decode jdk_41_method_13_code 11 = .ok (.isub, 1) := by decide +kernel
theorem d41_12 : decode jdk_41_method_13_code 12 = .ok (.if_icmp .le 11, 3) := by decide +kernel
theorem d41_23 : decode jdk_41_method_13_code 23 = .ok (.iload_n 0, 1) := by decide +kernel
theorem d41_24 : decode jdk_41_method_13_code 24 = .ok (.ireturn, 1) := by decide +kernel
theorem own_wS {Z : State} {a0 : Array Value} (hw : ∀ d ∈ tables_1, d.before a0 Z = true) : ∀ a ∈ Bundle.stringAtoms, a.before a0 Z = true := by
  intro a ha
  simp only [Bundle.stringAtoms, List.mem_cons, List.not_mem_nil, or_false] at ha
  rcases ha with rfl | rfl | rfl | rfl | rfl | rfl | rfl
  · exact (ow hw 8 rfl)
  · exact (ow hw 7 rfl)
  · exact (ow hw 20 rfl)
  · exact (ow hw 21 rfl)
  · exact (ow hw 22 rfl)
  · exact (ow hw 23 rfl)
  · exact (ow hw 24 rfl)
theorem own_pd0 : parseMethodDescriptor "([BII)V" = some ⟨[(.array .byte), .int, .int], none⟩ := by decide +kernel
set_option maxRecDepth 65536 in
set_option maxHeartbeats 40000000 in
theorem own_put (l : Launch) (Z : State) (a0 : Array Value) (hw : ∀ d ∈ tables_1, d.before a0 Z = true) (b : Addr) (kb : ClassId) (M : Nat) (vs : List Value) (i : Nat) (ch : Int32) (h0 : Heap) (O0 : own_Old Z h0) (g0_V : Arv Z h0 b kb .byte (Int32.ofNat M) vs (.int 0)) (g1_G : Z.heap.size ≤ b) (g2_hM : M < 2147483648) (g3_hi : 2 * i + 1 < M) (g4_hl : vs.length = M) (g5_S : Sta Z Z.heap "java/lang/StringUTF16" "$assertionsDisabled" "Z" (.int 1)) (g6_S : Sta Z Z.heap "java/lang/StringUTF16" "HI_BYTE_SHIFT" "I" (.int 0)) (g7_S : Sta Z Z.heap "java/lang/StringUTF16" "LO_BYTE_SHIFT" "I" (.int 8)) :
    own_Con l Z (⟨"java/lang/StringUTF16", "putChar", "([BII)V"⟩ : MethodName) jdk_52_method_4_code 3 none [] ({ frames := 0, cells := 0, slots := 0, locals := 0 } : Room) #[(.ref b), (.int (Int32.ofNat i)), (.int ch)] h0 (fun rv rh rL => rv = none ∧ own_Fr Z rL ∧ Keep h0 rh [b] ∧ (Arv Z rh b kb .byte (Int32.ofNat M) ((vs.set (2 * i) (.int (own_lo ch))).set (2 * i + 1) (.int (own_hi ch))) (.int 0))) := by
  refine own_intro (plainFor_of_name (by first | (simp [plainName, overriddenIn]; done) | decide +kernel)) ?_
  intro p e s m below meth c s₁ G hx hby hml hown hnm hret hZ X0 e0 hG hR
  have N0 := Fr.nil Z.heap.size
  refine own_entry (Ls := #[.val (.ref b), .val (.int (Int32.ofNat i)), .val (.int ch)]) (by first | (simp [entryFrame, mkF, argsToLocals, Value.category]; done) | rfl) ?_
  show G (s₁.setTop (mkF m 0 #[.val (.ref b), .val (.int (Int32.ofNat i)), .val (.int ch)] []))
  obtain ⟨T1, X1, e1, st1⟩ := getS2 X0 hx hZ hown (host := "") (Or.inl (ow hw 135 rfl)) Via.refl e0 (own_sta g5_S O0) (g := (mkF m 0 #[.val (.ref b), .val (.int (Int32.ofNat i)), .val (.int ch)] [])) rfl (hb hby d31_0)
  refine hG _ _ st1 ?_
  show G (T1.setTop (mkF m 3 #[.val (.ref b), .val (.int (Int32.ofNat i)), .val (.int ch)] [(.int 1)]))
  refine hG _ _ (fun t_ k_ => XS.ifYes X1.here hx rfl (pc0 := 3) (pc' := 28) rfl (hb hby d31_3) rfl ((if0 _ _).trans (feq (by decide)).2) (by decide) (by decide) k_) ?_
  show G (T1.setTop (mkF m 28 #[.val (.ref b), .val (.int (Int32.ofNat i)), .val (.int ch)] []))
  refine hG _ _ (fun t_ k_ => XS.iloadN X1.here hx rfl (hb hby d31_28) rfl k_) ?_
  refine hG _ _ (fun t_ k_ => XS.iconst X1.here hx rfl (hb hby d31_29) k_) ?_
  refine hG _ _ (fun t_ k_ => XS.ishl X1.here hx rfl (hb hby d31_30) rfl k_) ?_
  refine hG _ _ (fun t_ k_ => XS.istoreN X1.here hx rfl (hb hby d31_31) rfl (l' := #[.val (.ref b), .val (.int ((Int32.ofNat i) <<< ((1 : Int32) &&& 31))), .val (.int ch)]) rfl k_) ?_
  show G (T1.setTop (mkF m 32 #[.val (.ref b), .val (.int ((Int32.ofNat i) <<< ((1 : Int32) &&& 31))), .val (.int ch)] []))
  rw [own_shl1 i]
  show G (T1.setTop (mkF m 32 #[.val (.ref b), .val (.int (Int32.ofNat (2 * i))), .val (.int ch)] []))
  refine hG _ _ (fun t_ k_ => XS.aloadN X1.here hx rfl (hb hby d31_32) rfl rfl k_) ?_
  refine hG _ _ (fun t_ k_ => XS.iloadN X1.here hx rfl (hb hby d31_33) rfl k_) ?_
  refine hG _ _ (fun t_ k_ => XS.iinc X1.here hx rfl (hb hby d31_34) rfl (l' := #[.val (.ref b), .val (.int ((Int32.ofNat (2 * i)) + (1 : Int32))), .val (.int ch)]) rfl k_) ?_
  show G (T1.setTop (mkF m 37 #[.val (.ref b), .val (.int ((Int32.ofNat (2 * i)) + (1 : Int32))), .val (.int ch)] [(.int (Int32.ofNat (2 * i))), (.ref b)]))
  rw [own_inc (2 * i)]
  show G (T1.setTop (mkF m 37 #[.val (.ref b), .val (.int (Int32.ofNat (2 * i + 1))), .val (.int ch)] [(.int (Int32.ofNat (2 * i))), (.ref b)]))
  refine hG _ _ (fun t_ k_ => XS.iloadN X1.here hx rfl (hb hby d31_37) rfl k_) ?_
  show G (T1.setTop (mkF m 38 #[.val (.ref b), .val (.int (Int32.ofNat (2 * i + 1))), .val (.int ch)] [(.int ch), (.int (Int32.ofNat (2 * i))), (.ref b)]))
  obtain ⟨T2, X2, e2, st2⟩ := getS2 X1 hx hZ hown (host := "") (Or.inl (ow hw 136 rfl)) Via.refl e1 (own_sta g6_S O0) (g := (mkF m 38 #[.val (.ref b), .val (.int (Int32.ofNat (2 * i + 1))), .val (.int ch)] [(.int ch), (.int (Int32.ofNat (2 * i))), (.ref b)])) rfl (hb hby d31_38)
  refine hG _ _ st2 ?_
  show G (T2.setTop (mkF m 41 #[.val (.ref b), .val (.int (Int32.ofNat (2 * i + 1))), .val (.int ch)] [(.int 0), (.int ch), (.int (Int32.ofNat (2 * i))), (.ref b)]))
  refine hG _ _ (fun t_ k_ => XS.ishr X2.here hx rfl (hb hby d31_41) rfl k_) ?_
  refine hG _ _ (fun t_ k_ => XS.i2b X2.here hx rfl (hb hby d31_42) rfl k_) ?_
  show G (T2.setTop (mkF m 43 #[.val (.ref b), .val (.int (Int32.ofNat (2 * i + 1))), .val (.int ch)] [(.int ((ch >>> ((0 : Int32) &&& 31)).toInt8.toInt32)), (.int (Int32.ofNat (2 * i))), (.ref b)]))
  obtain ⟨c3, Ar3, q3, S3, M3, H3, G3⟩ := id g0_V
  obtain ⟨T3, h3, X3, e3, W3, st3⟩ := stB X2 hx hZ e2 Ar3 (j := (Int32.ofNat (2 * i))) (inb_of S3 ⟨own_nn (by omega), own_lt (by omega) g2_hM⟩) (g := (mkF m 43 #[.val (.ref b), .val (.int (Int32.ofNat (2 * i + 1))), .val (.int ch)] [(.int ((ch >>> ((0 : Int32) &&& 31)).toInt8.toInt32)), (.int (Int32.ofNat (2 * i))), (.ref b)])) rfl rfl (hb hby d31_43)
  refine hG _ _ st3 ?_
  have K3 : Keep h0 h3 [b] := (Keep.refl h0 [b]).wr W3 (Or.inl (List.mem_of_getElem? (i := 0) rfl))
  have O3 : own_Old Z h3 := O0.wr W3 g1_G
  have V3 : Arv Z h3 b kb .byte (Int32.ofNat M) (vs.set (2 * i) (.int (nar .byte ((ch >>> ((0 : Int32) &&& 31)).toInt8.toInt32)))) (.int 0) := Arv.set Ar3 q3 S3 M3 H3 G3 (fits_nar_byte _) W3 (2 * i) (own_clamp (by omega)) (by omega)
  have N3 := Fr.snoc X3 N0 g1_G
  show G (T3.setTop (mkF m 44 #[.val (.ref b), .val (.int (Int32.ofNat (2 * i + 1))), .val (.int ch)] []))
  refine hG _ _ (fun t_ k_ => XS.aloadN X3.here hx rfl (hb hby d31_44) rfl rfl k_) ?_
  refine hG _ _ (fun t_ k_ => XS.iloadN X3.here hx rfl (hb hby d31_45) rfl k_) ?_
  refine hG _ _ (fun t_ k_ => XS.iloadN X3.here hx rfl (hb hby d31_46) rfl k_) ?_
  show G (T3.setTop (mkF m 47 #[.val (.ref b), .val (.int (Int32.ofNat (2 * i + 1))), .val (.int ch)] [(.int ch), (.int (Int32.ofNat (2 * i + 1))), (.ref b)]))
  obtain ⟨T4, X4, e4, st4⟩ := getS2 X3 hx hZ hown (host := "") (Or.inl (ow hw 137 rfl)) Via.refl e3 (own_sta g7_S O3) (g := (mkF m 47 #[.val (.ref b), .val (.int (Int32.ofNat (2 * i + 1))), .val (.int ch)] [(.int ch), (.int (Int32.ofNat (2 * i + 1))), (.ref b)])) rfl (hb hby d31_47)
  refine hG _ _ st4 ?_
  show G (T4.setTop (mkF m 50 #[.val (.ref b), .val (.int (Int32.ofNat (2 * i + 1))), .val (.int ch)] [(.int 8), (.int ch), (.int (Int32.ofNat (2 * i + 1))), (.ref b)]))
  refine hG _ _ (fun t_ k_ => XS.ishr X4.here hx rfl (hb hby d31_50) rfl k_) ?_
  refine hG _ _ (fun t_ k_ => XS.i2b X4.here hx rfl (hb hby d31_51) rfl k_) ?_
  show G (T4.setTop (mkF m 52 #[.val (.ref b), .val (.int (Int32.ofNat (2 * i + 1))), .val (.int ch)] [(.int ((ch >>> ((8 : Int32) &&& 31)).toInt8.toInt32)), (.int (Int32.ofNat (2 * i + 1))), (.ref b)]))
  obtain ⟨c5, Ar5, q5, S5, M5, H5, G5⟩ := id V3
  obtain ⟨T5, h5, X5, e5, W5, st5⟩ := stB X4 hx hZ e4 Ar5 (j := (Int32.ofNat (2 * i + 1))) (inb_of S5 ⟨own_nn (by omega), own_lt (by omega) g2_hM⟩) (g := (mkF m 52 #[.val (.ref b), .val (.int (Int32.ofNat (2 * i + 1))), .val (.int ch)] [(.int ((ch >>> ((8 : Int32) &&& 31)).toInt8.toInt32)), (.int (Int32.ofNat (2 * i + 1))), (.ref b)])) rfl rfl (hb hby d31_52)
  refine hG _ _ st5 ?_
  have K5 : Keep h0 h5 [b] := K3.wr W5 (Or.inl (List.mem_of_getElem? (i := 0) rfl))
  have O5 : own_Old Z h5 := O3.wr W5 g1_G
  have V5 : Arv Z h5 b kb .byte (Int32.ofNat M) ((vs.set (2 * i) (.int (nar .byte ((ch >>> ((0 : Int32) &&& 31)).toInt8.toInt32)))).set (2 * i + 1) (.int (nar .byte ((ch >>> ((8 : Int32) &&& 31)).toInt8.toInt32)))) (.int 0) := Arv.set Ar5 q5 S5 M5 H5 G5 (fits_nar_byte _) W5 (2 * i + 1) (own_clamp (by omega)) (by rw [List.length_set]; omega)
  have N5 := Fr.snoc X5 N3 g1_G
  show G (T5.setTop (mkF m 53 #[.val (.ref b), .val (.int (Int32.ofNat (2 * i + 1))), .val (.int ch)] []))
  exact own_retV hR hret X5 hx (hb hby d31_53) (by decide) (by decide) (by rw [e5]; exact ⟨rfl, N5, K5, V5⟩)
theorem own_pd1 : parseMethodDescriptor "([BI)C" = some ⟨[(.array .byte), .int], some .char⟩ := by decide +kernel
set_option maxRecDepth 65536 in
set_option maxHeartbeats 40000000 in
theorem own_gch (l : Launch) (Z : State) (a0 : Array Value) (hw : ∀ d ∈ tables_1, d.before a0 Z = true) (b : Addr) (kb : ClassId) (M : Nat) (vs : List Value) (i : Nat) (x : Int32) (y : Int32) (h0 : Heap) (O0 : own_Old Z h0) (g0_V : Arv Z h0 b kb .byte (Int32.ofNat M) vs (.int 0)) (g1_hM : M < 2147483648) (g2_hi : 2 * i + 1 < M) (g3_hx : vs.getD (2 * i) (.int 0) = .int x) (g4_hy : vs.getD (2 * i + 1) (.int 0) = .int y) (g5_S : Sta Z Z.heap "java/lang/StringUTF16" "$assertionsDisabled" "Z" (.int 1)) (g6_S : Sta Z Z.heap "java/lang/StringUTF16" "HI_BYTE_SHIFT" "I" (.int 0)) (g7_S : Sta Z Z.heap "java/lang/StringUTF16" "LO_BYTE_SHIFT" "I" (.int 8)) :
    own_Con l Z (⟨"java/lang/StringUTF16", "getChar", "([BI)C"⟩ : MethodName) jdk_52_method_5_code 2 (some .char) [] ({ frames := 0, cells := 0, slots := 0, locals := 0 } : Room) #[(.ref b), (.int (Int32.ofNat i))] h0 (fun rv rh rL => rv = some (.int (own_join x y)) ∧ own_Fr Z rL ∧ h0 = rh) := by
  refine own_intro (plainFor_of_name (by first | (simp [plainName, overriddenIn]; done) | decide +kernel)) ?_
  intro p e s m below meth c s₁ G hx hby hml hown hnm hret hZ X0 e0 hG hR
  have N0 := Fr.nil Z.heap.size
  refine own_entry (Ls := #[.val (.ref b), .val (.int (Int32.ofNat i))]) (by first | (simp [entryFrame, mkF, argsToLocals, Value.category]; done) | rfl) ?_
  show G (s₁.setTop (mkF m 0 #[.val (.ref b), .val (.int (Int32.ofNat i))] []))
  obtain ⟨T1, X1, e1, st1⟩ := getS2 X0 hx hZ hown (host := "") (Or.inl (ow hw 135 rfl)) Via.refl e0 (own_sta g5_S O0) (g := (mkF m 0 #[.val (.ref b), .val (.int (Int32.ofNat i))] [])) rfl (hb hby d32_0)
  refine hG _ _ st1 ?_
  show G (T1.setTop (mkF m 3 #[.val (.ref b), .val (.int (Int32.ofNat i))] [(.int 1)]))
  refine hG _ _ (fun t_ k_ => XS.ifYes X1.here hx rfl (pc0 := 3) (pc' := 28) rfl (hb hby d32_3) rfl ((if0 _ _).trans (feq (by decide)).2) (by decide) (by decide) k_) ?_
  show G (T1.setTop (mkF m 28 #[.val (.ref b), .val (.int (Int32.ofNat i))] []))
  refine hG _ _ (fun t_ k_ => XS.iloadN X1.here hx rfl (hb hby d32_28) rfl k_) ?_
  refine hG _ _ (fun t_ k_ => XS.iconst X1.here hx rfl (hb hby d32_29) k_) ?_
  refine hG _ _ (fun t_ k_ => XS.ishl X1.here hx rfl (hb hby d32_30) rfl k_) ?_
  refine hG _ _ (fun t_ k_ => XS.istoreN X1.here hx rfl (hb hby d32_31) rfl (l' := #[.val (.ref b), .val (.int ((Int32.ofNat i) <<< ((1 : Int32) &&& 31)))]) rfl k_) ?_
  show G (T1.setTop (mkF m 32 #[.val (.ref b), .val (.int ((Int32.ofNat i) <<< ((1 : Int32) &&& 31)))] []))
  rw [own_shl1 i]
  show G (T1.setTop (mkF m 32 #[.val (.ref b), .val (.int (Int32.ofNat (2 * i)))] []))
  refine hG _ _ (fun t_ k_ => XS.aloadN X1.here hx rfl (hb hby d32_32) rfl rfl k_) ?_
  refine hG _ _ (fun t_ k_ => XS.iloadN X1.here hx rfl (hb hby d32_33) rfl k_) ?_
  refine hG _ _ (fun t_ k_ => XS.iinc X1.here hx rfl (hb hby d32_34) rfl (l' := #[.val (.ref b), .val (.int ((Int32.ofNat (2 * i)) + (1 : Int32)))]) rfl k_) ?_
  show G (T1.setTop (mkF m 37 #[.val (.ref b), .val (.int ((Int32.ofNat (2 * i)) + (1 : Int32)))] [(.int (Int32.ofNat (2 * i))), (.ref b)]))
  rw [own_inc (2 * i)]
  show G (T1.setTop (mkF m 37 #[.val (.ref b), .val (.int (Int32.ofNat (2 * i + 1)))] [(.int (Int32.ofNat (2 * i))), (.ref b)]))
  obtain ⟨c2, Ar2, q2, S2, M2, H2, G2⟩ := id g0_V
  have hin2 : ¬ ((Int32.ofNat (2 * i)) < 0 ∨ c2.slots.size ≤ (Int32.ofNat (2 * i)).toNatClampNeg) := inb_of S2 ⟨own_nn (by omega), own_lt (by omega) g1_hM⟩
  refine hG _ _ (X1.baloadBytes hx (j := (Int32.ofNat (2 * i))) (v := (.int x)) (by rw [e1]; exact Ar2.1) (State.isArrayOf_alike hZ.alike Ar2.2.1) Ar2.2.2 hin2 (Has.at H2 hin2 (by rw [own_clamp (by omega)]; exact g3_hx)) (g := (mkF m 37 #[.val (.ref b), .val (.int (Int32.ofNat (2 * i + 1)))] [(.int (Int32.ofNat (2 * i))), (.ref b)])) rfl rfl (hb hby d32_37)) ?_
  show G (T1.setTop (mkF m 38 #[.val (.ref b), .val (.int (Int32.ofNat (2 * i + 1)))] [(.int x)]))
  refine hG _ _ (fun t_ k_ => XS.sipush X1.here hx rfl (hb hby d32_38) k_) ?_
  refine hG _ _ (fun t_ k_ => XS.iand X1.here hx rfl (hb hby d32_41) rfl k_) ?_
  show G (T1.setTop (mkF m 42 #[.val (.ref b), .val (.int (Int32.ofNat (2 * i + 1)))] [(.int (x &&& (255 : Int32)))]))
  obtain ⟨T3, X3, e3, st3⟩ := getS2 X1 hx hZ hown (host := "") (Or.inl (ow hw 136 rfl)) Via.refl e1 (own_sta g6_S O0) (g := (mkF m 42 #[.val (.ref b), .val (.int (Int32.ofNat (2 * i + 1)))] [(.int (x &&& (255 : Int32)))])) rfl (hb hby d32_42)
  refine hG _ _ st3 ?_
  show G (T3.setTop (mkF m 45 #[.val (.ref b), .val (.int (Int32.ofNat (2 * i + 1)))] [(.int 0), (.int (x &&& (255 : Int32)))]))
  refine hG _ _ (fun t_ k_ => XS.ishl X3.here hx rfl (hb hby d32_45) rfl k_) ?_
  refine hG _ _ (fun t_ k_ => XS.aloadN X3.here hx rfl (hb hby d32_46) rfl rfl k_) ?_
  refine hG _ _ (fun t_ k_ => XS.iloadN X3.here hx rfl (hb hby d32_47) rfl k_) ?_
  show G (T3.setTop (mkF m 48 #[.val (.ref b), .val (.int (Int32.ofNat (2 * i + 1)))] [(.int (Int32.ofNat (2 * i + 1))), (.ref b), (.int ((x &&& (255 : Int32)) <<< ((0 : Int32) &&& 31)))]))
  obtain ⟨c4, Ar4, q4, S4, M4, H4, G4⟩ := id g0_V
  have hin4 : ¬ ((Int32.ofNat (2 * i + 1)) < 0 ∨ c4.slots.size ≤ (Int32.ofNat (2 * i + 1)).toNatClampNeg) := inb_of S4 ⟨own_nn (by omega), own_lt (by omega) g1_hM⟩
  refine hG _ _ (X3.baloadBytes hx (j := (Int32.ofNat (2 * i + 1))) (v := (.int y)) (by rw [e3]; exact Ar4.1) (State.isArrayOf_alike hZ.alike Ar4.2.1) Ar4.2.2 hin4 (Has.at H4 hin4 (by rw [own_clamp (by omega)]; exact g4_hy)) (g := (mkF m 48 #[.val (.ref b), .val (.int (Int32.ofNat (2 * i + 1)))] [(.int (Int32.ofNat (2 * i + 1))), (.ref b), (.int ((x &&& (255 : Int32)) <<< ((0 : Int32) &&& 31)))])) rfl rfl (hb hby d32_48)) ?_
  show G (T3.setTop (mkF m 49 #[.val (.ref b), .val (.int (Int32.ofNat (2 * i + 1)))] [(.int y), (.int ((x &&& (255 : Int32)) <<< ((0 : Int32) &&& 31)))]))
  refine hG _ _ (fun t_ k_ => XS.sipush X3.here hx rfl (hb hby d32_49) k_) ?_
  refine hG _ _ (fun t_ k_ => XS.iand X3.here hx rfl (hb hby d32_52) rfl k_) ?_
  show G (T3.setTop (mkF m 53 #[.val (.ref b), .val (.int (Int32.ofNat (2 * i + 1)))] [(.int (y &&& (255 : Int32))), (.int ((x &&& (255 : Int32)) <<< ((0 : Int32) &&& 31)))]))
  obtain ⟨T5, X5, e5, st5⟩ := getS2 X3 hx hZ hown (host := "") (Or.inl (ow hw 137 rfl)) Via.refl e3 (own_sta g7_S O0) (g := (mkF m 53 #[.val (.ref b), .val (.int (Int32.ofNat (2 * i + 1)))] [(.int (y &&& (255 : Int32))), (.int ((x &&& (255 : Int32)) <<< ((0 : Int32) &&& 31)))])) rfl (hb hby d32_53)
  refine hG _ _ st5 ?_
  show G (T5.setTop (mkF m 56 #[.val (.ref b), .val (.int (Int32.ofNat (2 * i + 1)))] [(.int 8), (.int (y &&& (255 : Int32))), (.int ((x &&& (255 : Int32)) <<< ((0 : Int32) &&& 31)))]))
  refine hG _ _ (fun t_ k_ => XS.ishl X5.here hx rfl (hb hby d32_56) rfl k_) ?_
  refine hG _ _ (fun t_ k_ => XS.ior X5.here hx rfl (hb hby d32_57) rfl k_) ?_
  refine hG _ _ (fun t_ k_ => XS.i2c X5.here hx rfl (hb hby d32_58) rfl k_) ?_
  show G (T5.setTop (mkF m 59 #[.val (.ref b), .val (.int (Int32.ofNat (2 * i + 1)))] [(.int ((((x &&& (255 : Int32)) <<< ((0 : Int32) &&& 31)) ||| ((y &&& (255 : Int32)) <<< ((8 : Int32) &&& 31))).toUInt32.toUInt16.toUInt32.toInt32))]))
  exact own_retN hR hret (by simp) X5 hx (hb hby d32_59) (by decide) (by decide) (by rw [e5]; exact ⟨rfl, N0, rfl⟩)
theorem own_pd2 : parseMethodDescriptor "([CI[BII)I" = some ⟨[(.array .char), .int, (.array .byte), .int, .int], some .int⟩ := by decide +kernel
set_option maxRecDepth 65536 in
set_option maxHeartbeats 40000000 in
theorem own_gcmp5 (l : Launch) (Z : State) (a0 : Array Value) (hw : ∀ d ∈ tables_1, d.before a0 Z = true) (a : Addr) (b : Addr) (ka : ClassId) (kb : ClassId) (cs : List Int32) (h0 : Heap) (O0 : own_Old Z h0) (g0_V : Arv Z h0 a ka .char (Int32.ofNat cs.length) (cs.map Value.int) (.int 0)) (g1_V : Arv Z h0 b kb .byte (Int32.ofNat cs.length) [] (.int 0)) (g2_G : Z.heap.size ≤ b) (g3_hne : a ≠ b) (g4_hlen : cs.length < 2147483648) :
    own_Con l Z (⟨"java/lang/StringUTF16", "compress", "([CI[BII)I"⟩ : MethodName) jdk_52_method_21_code 7 (some .int) [] ({ frames := 0, cells := 0, slots := 0, locals := 0 } : Room) #[(.ref a), (.int 0), (.ref b), (.int 0), (.int (Int32.ofNat cs.length))] h0 (fun rv rh rL => ∃ (r : Int32) (vs : List Value), rv = some (.int r) ∧ own_Fr Z rL ∧ Keep h0 rh [b] ∧ (Arv Z rh b kb .byte (Int32.ofNat cs.length) vs (.int 0)) ∧ ((r = (Int32.ofNat cs.length) ∧ (∀ c ∈ cs, ¬ ((255 : Int32) < c)) ∧ vs = (cs.map fun c => Value.int c.toInt8.toInt32)) ∨ (∃ k, k < cs.length ∧ r = Int32.ofNat k ∧ (255 : Int32) < cs.getD k 0))) := by
  refine own_intro (plainFor_of_name (by first | (simp [plainName, overriddenIn]; done) | decide +kernel)) ?_
  intro p e s m below meth c s₁ G hx hby hml hown hnm hret hZ X0 e0 hG hR
  have N0 := Fr.nil Z.heap.size
  refine own_entry (Ls := #[.val (.ref a), .val (.int 0), .val (.ref b), .val (.int 0), .val (.int (Int32.ofNat cs.length)), .unset, .unset]) (by first | (simp [entryFrame, mkF, argsToLocals, Value.category]; done) | rfl) ?_
  show G (s₁.setTop (mkF m 0 #[.val (.ref a), .val (.int 0), .val (.ref b), .val (.int 0), .val (.int (Int32.ofNat cs.length)), .unset, .unset] []))
  refine hG _ _ (fun t_ k_ => XS.iconst X0.here hx rfl (hb hby d14_0) k_) ?_
  refine hG _ _ (fun t_ k_ => XS.istore X0.here hx rfl (hb hby d14_1) rfl (l' := #[.val (.ref a), .val (.int 0), .val (.ref b), .val (.int 0), .val (.int (Int32.ofNat cs.length)), .val (.int 0), .unset]) rfl k_) ?_
  show G (s₁.setTop (mkF m 3 #[.val (.ref a), .val (.int 0), .val (.ref b), .val (.int 0), .val (.int (Int32.ofNat cs.length)), .val (.int 0), .unset] []))
  have loop : ∀ (r i : Nat) (T : State) (locs : List Loc) (hT : Heap) (vs : List Value) (ch : Slot), r + i = cs.length → Stand p l e ({ frames := 0, cells := 0, slots := 0, locals := 0 } : Room) s m #[(.ref a), (.int 0), (.ref b), (.int 0), (.int (Int32.ofNat cs.length))] below meth c T locs 0 0 → T.heap = hT → Keep h0 hT [b] → own_Old Z hT → own_Fr Z locs → Arv Z hT b kb .byte (Int32.ofNat cs.length) vs (.int 0) → vs.length = cs.length → (∀ j, j < i → vs.getD j (.int 0) = Value.int (cs.getD j 0).toInt8.toInt32) → (∀ j, j < i → ¬ ((255 : Int32) < cs.getD j 0)) → One ch → G (T.setTop (mkF m 3 #[.val (.ref a), .val (.int (Int32.ofNat i)), .val (.ref b), .val (.int (Int32.ofNat i)), .val (.int (Int32.ofNat cs.length)), .val (.int (Int32.ofNat i)), ch] [])) := by
    intro r
    induction r with
    | zero =>
      intro i T locs hT vs ch hri X eT K O N V hl hv hs hch
      have hi : i = cs.length := by omega
      subst hi
      have hvs := own_mapEq (fun c : Int32 => Value.int c.toInt8.toInt32) cs vs (.int 0) 0 hl hv
      refine hG _ _ (fun t_ k_ => XS.iload X.here hx rfl (hb hby d14_3) rfl k_) ?_
      refine hG _ _ (fun t_ k_ => XS.iload X.here hx rfl (hb hby d14_5) rfl k_) ?_
      show G (T.setTop (mkF m 7 #[.val (.ref a), .val (.int (Int32.ofNat cs.length)), .val (.ref b), .val (.int (Int32.ofNat cs.length)), .val (.int (Int32.ofNat cs.length)), .val (.int (Int32.ofNat cs.length)), ch] [(.int (Int32.ofNat cs.length)), (.int (Int32.ofNat cs.length))]))
      refine hG _ _ (fun t_ k_ => XS.icmpYes X.here hx rfl (pc0 := 7) (pc' := 44) rfl (hb hby d14_7) rfl (flt (own_nlt (Nat.le_refl _) g4_hlen)).2.1 (by decide) (by decide) k_) ?_
      show G (T.setTop (mkF m 44 #[.val (.ref a), .val (.int (Int32.ofNat cs.length)), .val (.ref b), .val (.int (Int32.ofNat cs.length)), .val (.int (Int32.ofNat cs.length)), .val (.int (Int32.ofNat cs.length)), ch] []))
      refine hG _ _ (fun t_ k_ => XS.iload X.here hx rfl (hb hby d14_44) rfl k_) ?_
      show G (T.setTop (mkF m 46 #[.val (.ref a), .val (.int (Int32.ofNat cs.length)), .val (.ref b), .val (.int (Int32.ofNat cs.length)), .val (.int (Int32.ofNat cs.length)), .val (.int (Int32.ofNat cs.length)), ch] [(.int (Int32.ofNat cs.length))]))
      exact own_retI hR hret X hx (hb hby d14_46) (by decide) (by decide) (by rw [eT]; exact ⟨(Int32.ofNat cs.length), vs, rfl, N, K, V, (Or.inl ⟨rfl, own_allD cs 0 hs, hvs⟩)⟩)
    | succ r ih =>
      intro i T locs hT vs ch hri X eT K O N V hl hv hs hch
      have hi : i < cs.length := by omega
      refine hG _ _ (fun t_ k_ => XS.iload X.here hx rfl (hb hby d14_3) rfl k_) ?_
      refine hG _ _ (fun t_ k_ => XS.iload X.here hx rfl (hb hby d14_5) rfl k_) ?_
      show G (T.setTop (mkF m 7 #[.val (.ref a), .val (.int (Int32.ofNat i)), .val (.ref b), .val (.int (Int32.ofNat i)), .val (.int (Int32.ofNat cs.length)), .val (.int (Int32.ofNat i)), ch] [(.int (Int32.ofNat cs.length)), (.int (Int32.ofNat i))]))
      refine hG _ _ (fun t_ k_ => XS.icmpNo X.here hx rfl (hb hby d14_7) rfl (tlt (own_lt hi g4_hlen)).2.1 k_) ?_
      show G (T.setTop (mkF m 10 #[.val (.ref a), .val (.int (Int32.ofNat i)), .val (.ref b), .val (.int (Int32.ofNat i)), .val (.int (Int32.ofNat cs.length)), .val (.int (Int32.ofNat i)), ch] []))
      refine hG _ _ (fun t_ k_ => XS.aloadN X.here hx rfl (hb hby d14_10) rfl rfl k_) ?_
      refine hG _ _ (fun t_ k_ => XS.iloadN X.here hx rfl (hb hby d14_11) rfl k_) ?_
      show G (T.setTop (mkF m 12 #[.val (.ref a), .val (.int (Int32.ofNat i)), .val (.ref b), .val (.int (Int32.ofNat i)), .val (.int (Int32.ofNat cs.length)), .val (.int (Int32.ofNat i)), ch] [(.int (Int32.ofNat i)), (.ref a)]))
      obtain ⟨c1, Ar1, q1, S1, M1, H1, G1⟩ := id (g0_V.keep K (ninS g3_hne nin0))
      have hin1 : ¬ ((Int32.ofNat i) < 0 ∨ c1.slots.size ≤ (Int32.ofNat i).toNatClampNeg) := inb_of S1 ⟨own_nn (by omega), own_lt hi g4_hlen⟩
      refine hG _ _ (X.caload hx (j := (Int32.ofNat i)) (v := (.int (cs.getD i 0))) (by rw [eT]; exact Ar1.1) (State.isArrayOf_alike hZ.alike Ar1.2.1) Ar1.2.2 hin1 (Has.at H1 hin1 (by rw [own_clamp (by omega)]; exact own_getD_map Value.int cs i _ 0 hi)) (g := (mkF m 12 #[.val (.ref a), .val (.int (Int32.ofNat i)), .val (.ref b), .val (.int (Int32.ofNat i)), .val (.int (Int32.ofNat cs.length)), .val (.int (Int32.ofNat i)), ch] [(.int (Int32.ofNat i)), (.ref a)])) rfl rfl (hb hby d14_12)) ?_
      show G (T.setTop (mkF m 13 #[.val (.ref a), .val (.int (Int32.ofNat i)), .val (.ref b), .val (.int (Int32.ofNat i)), .val (.int (Int32.ofNat cs.length)), .val (.int (Int32.ofNat i)), ch] [(.int (cs.getD i 0))]))
      refine hG _ _ (fun t_ k_ => XS.istoreS X.here hx rfl (hb hby d14_13) rfl rfl hch k_) ?_
      refine hG _ _ (fun t_ k_ => XS.iload X.here hx rfl (hb hby d14_15) rfl k_) ?_
      refine hG _ _ (fun t_ k_ => XS.sipush X.here hx rfl (hb hby d14_17) k_) ?_
      show G (T.setTop (mkF m 20 #[.val (.ref a), .val (.int (Int32.ofNat i)), .val (.ref b), .val (.int (Int32.ofNat i)), .val (.int (Int32.ofNat cs.length)), .val (.int (Int32.ofNat i)), .val (.int (cs.getD i 0))] [(.int 255), (.int (cs.getD i 0))]))
      by_cases hc20_2 : (255 : Int32) < (cs.getD i 0)
      · skip
        refine hG _ _ (fun t_ k_ => XS.icmpNo X.here hx rfl (hb hby d14_20) rfl (tlt hc20_2).2.2.2 k_) ?_
        show G (T.setTop (mkF m 23 #[.val (.ref a), .val (.int (Int32.ofNat i)), .val (.ref b), .val (.int (Int32.ofNat i)), .val (.int (Int32.ofNat cs.length)), .val (.int (Int32.ofNat i)), .val (.int (cs.getD i 0))] []))
        refine hG _ _ (fun t_ k_ => XS.iload X.here hx rfl (hb hby d14_23) rfl k_) ?_
        show G (T.setTop (mkF m 25 #[.val (.ref a), .val (.int (Int32.ofNat i)), .val (.ref b), .val (.int (Int32.ofNat i)), .val (.int (Int32.ofNat cs.length)), .val (.int (Int32.ofNat i)), .val (.int (cs.getD i 0))] [(.int (Int32.ofNat i))]))
        exact own_retI hR hret X hx (hb hby d14_25) (by decide) (by decide) (by rw [eT]; exact ⟨(Int32.ofNat i), vs, rfl, N, K, V, (Or.inr ⟨i, hi, rfl, hc20_2⟩)⟩)
      · skip
        refine hG _ _ (fun t_ k_ => XS.icmpYes X.here hx rfl (pc0 := 20) (pc' := 26) rfl (hb hby d14_20) rfl (flt hc20_2).2.2.2 (by decide) (by decide) k_) ?_
        show G (T.setTop (mkF m 26 #[.val (.ref a), .val (.int (Int32.ofNat i)), .val (.ref b), .val (.int (Int32.ofNat i)), .val (.int (Int32.ofNat cs.length)), .val (.int (Int32.ofNat i)), .val (.int (cs.getD i 0))] []))
        refine hG _ _ (fun t_ k_ => XS.aloadN X.here hx rfl (hb hby d14_26) rfl rfl k_) ?_
        refine hG _ _ (fun t_ k_ => XS.iloadN X.here hx rfl (hb hby d14_27) rfl k_) ?_
        refine hG _ _ (fun t_ k_ => XS.iload X.here hx rfl (hb hby d14_28) rfl k_) ?_
        refine hG _ _ (fun t_ k_ => XS.i2b X.here hx rfl (hb hby d14_30) rfl k_) ?_
        show G (T.setTop (mkF m 31 #[.val (.ref a), .val (.int (Int32.ofNat i)), .val (.ref b), .val (.int (Int32.ofNat i)), .val (.int (Int32.ofNat cs.length)), .val (.int (Int32.ofNat i)), .val (.int (cs.getD i 0))] [(.int ((cs.getD i 0).toInt8.toInt32)), (.int (Int32.ofNat i)), (.ref b)]))
        obtain ⟨c3, Ar3, q3, S3, M3, H3, G3⟩ := id V
        obtain ⟨T3, h3, X3, e3, W3, st3⟩ := stB X hx hZ eT Ar3 (j := (Int32.ofNat i)) (inb_of S3 ⟨own_nn (by omega), own_lt hi g4_hlen⟩) (g := (mkF m 31 #[.val (.ref a), .val (.int (Int32.ofNat i)), .val (.ref b), .val (.int (Int32.ofNat i)), .val (.int (Int32.ofNat cs.length)), .val (.int (Int32.ofNat i)), .val (.int (cs.getD i 0))] [(.int ((cs.getD i 0).toInt8.toInt32)), (.int (Int32.ofNat i)), (.ref b)])) rfl rfl (hb hby d14_31)
        refine hG _ _ st3 ?_
        have K3 : Keep h0 h3 [b] := K.wr W3 (Or.inl (List.mem_of_getElem? (i := 0) rfl))
        have O3 : own_Old Z h3 := O.wr W3 g2_G
        have V3 : Arv Z h3 b kb .byte (Int32.ofNat cs.length) (vs.set i (.int (nar .byte ((cs.getD i 0).toInt8.toInt32)))) (.int 0) := Arv.set Ar3 q3 S3 M3 H3 G3 (fits_nar_byte _) W3 i (own_clamp (by omega)) (by omega)
        have N3 := Fr.snoc X3 N g2_G
        show G (T3.setTop (mkF m 32 #[.val (.ref a), .val (.int (Int32.ofNat i)), .val (.ref b), .val (.int (Int32.ofNat i)), .val (.int (Int32.ofNat cs.length)), .val (.int (Int32.ofNat i)), .val (.int (cs.getD i 0))] []))
        refine hG _ _ (fun t_ k_ => XS.iinc X3.here hx rfl (hb hby d14_32) rfl (l' := #[.val (.ref a), .val (.int ((Int32.ofNat i) + (1 : Int32))), .val (.ref b), .val (.int (Int32.ofNat i)), .val (.int (Int32.ofNat cs.length)), .val (.int (Int32.ofNat i)), .val (.int (cs.getD i 0))]) rfl k_) ?_
        refine hG _ _ (fun t_ k_ => XS.iinc X3.here hx rfl (hb hby d14_35) rfl (l' := #[.val (.ref a), .val (.int ((Int32.ofNat i) + (1 : Int32))), .val (.ref b), .val (.int ((Int32.ofNat i) + (1 : Int32))), .val (.int (Int32.ofNat cs.length)), .val (.int (Int32.ofNat i)), .val (.int (cs.getD i 0))]) rfl k_) ?_
        refine hG _ _ (fun t_ k_ => XS.iinc X3.here hx rfl (hb hby d14_38) rfl (l' := #[.val (.ref a), .val (.int ((Int32.ofNat i) + (1 : Int32))), .val (.ref b), .val (.int ((Int32.ofNat i) + (1 : Int32))), .val (.int (Int32.ofNat cs.length)), .val (.int ((Int32.ofNat i) + (1 : Int32))), .val (.int (cs.getD i 0))]) rfl k_) ?_
        refine hG _ _ (fun t_ k_ => XS.goto X3.here hx rfl (pc0 := 41) (pc' := 3) rfl (hb hby d14_41) (by decide) (by decide) k_) ?_
        show G (T3.setTop (mkF m 3 #[.val (.ref a), .val (.int ((Int32.ofNat i) + (1 : Int32))), .val (.ref b), .val (.int ((Int32.ofNat i) + (1 : Int32))), .val (.int (Int32.ofNat cs.length)), .val (.int ((Int32.ofNat i) + (1 : Int32))), .val (.int (cs.getD i 0))] []))
        rw [own_inc i]
        exact ih (i + 1) _ _ _ _ _ (by omega) X3 e3 K3 O3 N3 V3 (by rw [List.length_set]; exact hl) (own_setNext (fun c => Value.int c.toInt8.toInt32) _ _ (by omega) (by rw [own_nb]) hv) (own_nextD (P := fun c => ¬ ((255 : Int32) < c)) hs hc20_2) (One.val rfl)
  exact loop cs.length 0 _ _ _ _ _ rfl X0 e0 (Keep.refl h0 [b]) O0 N0 (g1_V.pad (pad_rep [] (.int 0) cs.length)) (by simp) (fun j hj => absurd hj (Nat.not_lt_zero j)) (fun j hj => absurd hj (Nat.not_lt_zero j)) One.u
theorem own_pd3 : parseMethodDescriptor "(I)I" = some ⟨[.int], some .int⟩ := by decide +kernel
set_option maxRecDepth 65536 in
set_option maxHeartbeats 40000000 in
theorem own_nbl (l : Launch) (Z : State) (a0 : Array Value) (hw : ∀ d ∈ tables_1, d.before a0 Z = true) (n : Nat) (h0 : Heap) (O0 : own_Old Z h0) (g0_hn : n < 1073741823) :
    own_Con l Z (⟨"java/lang/StringUTF16", "newBytesLength", "(I)I"⟩ : MethodName) jdk_52_method_3_code 1 (some .int) [] ({ frames := 0, cells := 0, slots := 0, locals := 0 } : Room) #[(.int (Int32.ofNat n))] h0 (fun rv rh rL => rv = some (.int (Int32.ofNat (2 * n))) ∧ own_Fr Z rL ∧ h0 = rh) := by
  refine own_intro (plainFor_of_name (by first | (simp [plainName, overriddenIn]; done) | decide +kernel)) ?_
  intro p e s m below meth c s₁ G hx hby hml hown hnm hret hZ X0 e0 hG hR
  have N0 := Fr.nil Z.heap.size
  refine own_entry (Ls := #[.val (.int (Int32.ofNat n))]) (by first | (simp [entryFrame, mkF, argsToLocals, Value.category]; done) | rfl) ?_
  show G (s₁.setTop (mkF m 0 #[.val (.int (Int32.ofNat n))] []))
  refine hG _ _ (fun t_ k_ => XS.iloadN X0.here hx rfl (hb hby d30_0) rfl k_) ?_
  show G (s₁.setTop (mkF m 1 #[.val (.int (Int32.ofNat n))] [(.int (Int32.ofNat n))]))
  refine hG _ _ (fun t_ k_ => XS.ifYes X0.here hx rfl (pc0 := 1) (pc' := 12) rfl (hb hby d30_1) rfl ((if0 _ _).trans (flt (own_nn (by omega))).2.1) (by decide) (by decide) k_) ?_
  show G (s₁.setTop (mkF m 12 #[.val (.int (Int32.ofNat n))] []))
  refine hG _ _ (fun t_ k_ => XS.iloadN X0.here hx rfl (hb hby d30_12) rfl k_) ?_
  show G (s₁.setTop (mkF m 13 #[.val (.int (Int32.ofNat n))] [(.int (Int32.ofNat n))]))
  refine hG _ _ (X0.ldcInt hx hown (mvT hZ (ow hw 131 rfl)) (g := (mkF m 13 #[.val (.int (Int32.ofNat n))] [(.int (Int32.ofNat n))])) rfl (hb hby d30_13)) ?_
  show G (s₁.setTop (mkF m 15 #[.val (.int (Int32.ofNat n))] [(.int 1073741823), (.int (Int32.ofNat n))]))
  refine hG _ _ (fun t_ k_ => XS.icmpYes X0.here hx rfl (pc0 := 15) (pc' := 55) rfl (hb hby d30_15) rfl (tlt (own_ltK g0_hn)).1 (by decide) (by decide) k_) ?_
  show G (s₁.setTop (mkF m 55 #[.val (.int (Int32.ofNat n))] []))
  refine hG _ _ (fun t_ k_ => XS.iloadN X0.here hx rfl (hb hby d30_55) rfl k_) ?_
  refine hG _ _ (fun t_ k_ => XS.iconst X0.here hx rfl (hb hby d30_56) k_) ?_
  refine hG _ _ (fun t_ k_ => XS.ishl X0.here hx rfl (hb hby d30_57) rfl k_) ?_
  show G (s₁.setTop (mkF m 58 #[.val (.int (Int32.ofNat n))] [(.int ((Int32.ofNat n) <<< ((1 : Int32) &&& 31)))]))
  exact own_retI hR hret X0 hx (hb hby d30_58) (by decide) (by decide) (by rw [e0]; exact ⟨(by rw [own_shl1]), N0, rfl⟩)
theorem own_pd4 : parseMethodDescriptor "(I)[B" = some ⟨[.int], some (.array .byte)⟩ := by decide +kernel
set_option maxRecDepth 65536 in
set_option maxHeartbeats 40000000 in
theorem own_nbf (l : Launch) (Z : State) (a0 : Array Value) (hw : ∀ d ∈ tables_1, d.before a0 Z = true) (n : Nat) (h0 : Heap) (O0 : own_Old Z h0) (g0_hn : n ≤ 4) :
    own_Con l Z (⟨"java/lang/StringUTF16", "newBytesFor", "(I)[B"⟩ : MethodName) jdk_52_method_2_code 1 (some (.array .byte)) [] ({ frames := 1, cells := 1, slots := 8, locals := 12 } : Room) #[(.int (Int32.ofNat n))] h0 (fun rv rh rL => ∃ (t : Addr) (kt : ClassId), rv = some (.ref t) ∧ own_Fr Z rL ∧ Keep h0 rh [] ∧ h0.size ≤ t ∧ (Arv Z rh t kt .byte (Int32.ofNat (2 * n)) [] (.int 0))) := by
  refine own_intro (plainFor_of_name (by first | (simp [plainName, overriddenIn]; done) | decide +kernel)) ?_
  intro p e s m below meth c s₁ G hx hby hml hown hnm hret hZ X0 e0 hG hR
  have N0 := Fr.nil Z.heap.size
  refine own_entry (Ls := #[.val (.int (Int32.ofNat n))]) (by first | (simp [entryFrame, mkF, argsToLocals, Value.category]; done) | rfl) ?_
  show G (s₁.setTop (mkF m 0 #[.val (.int (Int32.ofNat n))] []))
  refine hG _ _ (fun t_ k_ => XS.iloadN X0.here hx rfl (hb hby d29_0) rfl k_) ?_
  show G (s₁.setTop (mkF m 1 #[.val (.int (Int32.ofNat n))] [(.int (Int32.ofNat n))]))
  refine own_callS X0 hx hZ hG hown (ow hw 128 rfl) (ow hw 129 rfl) (ow hw 65 rfl) (ow hw 130 rfl) (by decide) 0 (own_nbl l Z a0 hw n h0 O0 (by omega)) (by decide) (by decide) e0 (by rw [hml]; rfl) (lenOf own_pd3 rfl) (argsL := [(.int (Int32.ofNat n))]) (rest := []) rfl rfl (Nat.le_of_eq rfl) (hb hby d29_1) (by decide) (by decide) ?_
  intro T1 h1 v1 L1 X1 e1 q1
  obtain ⟨rfl, M1, rfl⟩ := q1
  have N1 := Fr.app N0 M1
  show G (T1.setTop (mkF m 4 #[.val (.int (Int32.ofNat n))] [(.int (Int32.ofNat (2 * n)))]))
  obtain ⟨T2, h2, k2, X2, e2, E2, A2, st2⟩ := newP X1 hx hZ (ow hw 20 rfl) e1 (g := (mkF m 4 #[.val (.int (Int32.ofNat n))] [(.int (Int32.ofNat (2 * n)))])) rfl (hb hby d29_4) rfl (own_nn (by omega)) (cap := 8) (by rw [own_clamp (by omega)]; omega) (by decide) (by decide) (by decide)
  obtain ⟨b2, z2⟩ : ∃ z, z = h0.size := ⟨_, rfl⟩
  rw [← z2] at A2 st2
  refine hG _ _ st2 ?_
  have K2 : Keep h0 h2 [] := (Keep.refl h0 []).ext E2
  have O2 : own_Old Z h2 := O0.ext E2
  have V2 : Arv Z h2 b2 k2 .byte (Int32.ofNat (2 * n)) [] (.int 0) := Arv.new A2 (own_nn (by omega))
  show G (T2.setTop (mkF m 6 #[.val (.int (Int32.ofNat n))] [(.ref b2)]))
  exact own_retA hR hret rfl rfl X2 hx (hb hby d29_6) (by decide) (by decide) (by rw [e2]; exact ⟨b2, k2, rfl, N1, K2, (Nat.le_trans (Keep.refl h0 []).1 (Nat.le_of_eq z2.symm)), V2⟩)
theorem own_pd5 : parseMethodDescriptor "([CII)[B" = some ⟨[(.array .char), .int, .int], some (.array .byte)⟩ := by decide +kernel
set_option maxRecDepth 65536 in
set_option maxHeartbeats 40000000 in
theorem own_tob (l : Launch) (Z : State) (a0 : Array Value) (hw : ∀ d ∈ tables_1, d.before a0 Z = true) (a : Addr) (ka : ClassId) (cs : List Int32) (h0 : Heap) (O0 : own_Old Z h0) (g0_V : Arv Z h0 a ka .char (Int32.ofNat cs.length) (cs.map Value.int) (.int 0)) (g1_hcap : cs.length ≤ 4) (g2_S : Sta Z Z.heap "java/lang/StringUTF16" "$assertionsDisabled" "Z" (.int 1)) (g3_S : Sta Z Z.heap "java/lang/StringUTF16" "HI_BYTE_SHIFT" "I" (.int 0)) (g4_S : Sta Z Z.heap "java/lang/StringUTF16" "LO_BYTE_SHIFT" "I" (.int 8)) :
    own_Con l Z (⟨"java/lang/StringUTF16", "toBytes", "([CII)[B"⟩ : MethodName) jdk_52_method_14_code 5 (some (.array .byte)) [] ({ frames := 2, cells := 1, slots := 8, locals := 24 } : Room) #[(.ref a), (.int 0), (.int (Int32.ofNat cs.length))] h0 (fun rv rh rL => ∃ (t : Addr) (kt : ClassId) (vs : List Value), rv = some (.ref t) ∧ own_Fr Z rL ∧ Keep h0 rh [] ∧ h0.size ≤ t ∧ (Arv Z rh t kt .byte (Int32.ofNat (2 * cs.length)) vs (.int 0)) ∧ (own_is16 cs vs)) := by
  refine own_intro (plainFor_of_name (by first | (simp [plainName, overriddenIn]; done) | decide +kernel)) ?_
  intro p e s m below meth c s₁ G hx hby hml hown hnm hret hZ X0 e0 hG hR
  have N0 := Fr.nil Z.heap.size
  refine own_entry (Ls := #[.val (.ref a), .val (.int 0), .val (.int (Int32.ofNat cs.length)), .unset, .unset]) (by first | (simp [entryFrame, mkF, argsToLocals, Value.category]; done) | rfl) ?_
  show G (s₁.setTop (mkF m 0 #[.val (.ref a), .val (.int 0), .val (.int (Int32.ofNat cs.length)), .unset, .unset] []))
  refine hG _ _ (fun t_ k_ => XS.iloadN X0.here hx rfl (hb hby d28_0) rfl k_) ?_
  show G (s₁.setTop (mkF m 1 #[.val (.ref a), .val (.int 0), .val (.int (Int32.ofNat cs.length)), .unset, .unset] [(.int (Int32.ofNat cs.length))]))
  refine own_callS X0 hx hZ hG hown (ow hw 125 rfl) (ow hw 126 rfl) (ow hw 65 rfl) (ow hw 127 rfl) (by decide) 0 (own_nbf l Z a0 hw cs.length h0 O0 g1_hcap) (by decide) (by decide) e0 (by rw [hml]; rfl) (lenOf own_pd4 rfl) (argsL := [(.int (Int32.ofNat cs.length))]) (rest := []) rfl rfl (Nat.le_of_eq rfl) (hb hby d28_1) (by decide) (by decide) ?_
  intro T1 h1 v1 L1 X1 e1 q1
  obtain ⟨t_1, kt_1, rfl, M1, J1, y1_0, r1_0⟩ := q1
  have N1 := Fr.app N0 M1
  have K1 : Keep h0 h1 [] := (Keep.refl h0 []).trans J1 all0
  have O1 : own_Old Z h1 := O0.keep J1 all0
  show G (T1.setTop (mkF m 4 #[.val (.ref a), .val (.int 0), .val (.int (Int32.ofNat cs.length)), .unset, .unset] [(.ref t_1)]))
  refine hG _ _ (fun t_ k_ => XS.astoreN X1.here hx rfl (hb hby d28_4) rfl rfl (l' := #[.val (.ref a), .val (.int 0), .val (.int (Int32.ofNat cs.length)), .val (.ref t_1), .unset]) rfl k_) ?_
  refine hG _ _ (fun t_ k_ => XS.iconst X1.here hx rfl (hb hby d28_5) k_) ?_
  refine hG _ _ (fun t_ k_ => XS.istore X1.here hx rfl (hb hby d28_6) rfl (l' := #[.val (.ref a), .val (.int 0), .val (.int (Int32.ofNat cs.length)), .val (.ref t_1), .val (.int 0)]) rfl k_) ?_
  show G (T1.setTop (mkF m 8 #[.val (.ref a), .val (.int 0), .val (.int (Int32.ofNat cs.length)), .val (.ref t_1), .val (.int 0)] []))
  have loop : ∀ (r i : Nat) (T : State) (locs : List Loc) (hT : Heap) (vs : List Value), r + i = cs.length → Stand p l e ({ frames := 2, cells := 1, slots := 8, locals := 24 } : Room) s m #[(.ref a), (.int 0), (.int (Int32.ofNat cs.length))] below meth c T locs 1 8 → T.heap = hT → Keep h0 hT [] → own_Old Z hT → own_Fr Z locs → Arv Z hT t_1 kt_1 .byte (Int32.ofNat (2 * cs.length)) vs (.int 0) → vs.length = 2 * cs.length → (∀ j, j < i → vs.getD (2 * j) (.int 0) = .int (own_lo (cs.getD j 0)) ∧ vs.getD (2 * j + 1) (.int 0) = .int (own_hi (cs.getD j 0))) → G (T.setTop (mkF m 8 #[.val (.ref a), .val (.int (Int32.ofNat i)), .val (.int (Int32.ofNat cs.length)), .val (.ref t_1), .val (.int (Int32.ofNat i))] [])) := by
    intro r
    induction r with
    | zero =>
      intro i T locs hT vs hri X eT K O N V hl hv
      have hi : i = cs.length := by omega
      subst hi
      refine hG _ _ (fun t_ k_ => XS.iload X.here hx rfl (hb hby d28_8) rfl k_) ?_
      refine hG _ _ (fun t_ k_ => XS.iloadN X.here hx rfl (hb hby d28_10) rfl k_) ?_
      show G (T.setTop (mkF m 11 #[.val (.ref a), .val (.int (Int32.ofNat cs.length)), .val (.int (Int32.ofNat cs.length)), .val (.ref t_1), .val (.int (Int32.ofNat cs.length))] [(.int (Int32.ofNat cs.length)), (.int (Int32.ofNat cs.length))]))
      refine hG _ _ (fun t_ k_ => XS.icmpYes X.here hx rfl (pc0 := 11) (pc' := 32) rfl (hb hby d28_11) rfl (flt (own_nlt (Nat.le_refl _) (by omega))).2.1 (by decide) (by decide) k_) ?_
      show G (T.setTop (mkF m 32 #[.val (.ref a), .val (.int (Int32.ofNat cs.length)), .val (.int (Int32.ofNat cs.length)), .val (.ref t_1), .val (.int (Int32.ofNat cs.length))] []))
      refine hG _ _ (fun t_ k_ => XS.aloadN X.here hx rfl (hb hby d28_32) rfl rfl k_) ?_
      show G (T.setTop (mkF m 33 #[.val (.ref a), .val (.int (Int32.ofNat cs.length)), .val (.int (Int32.ofNat cs.length)), .val (.ref t_1), .val (.int (Int32.ofNat cs.length))] [(.ref t_1)]))
      exact own_retA hR hret rfl rfl X hx (hb hby d28_33) (by decide) (by decide) (by rw [eT]; exact ⟨t_1, kt_1, vs, rfl, N, K, (Nat.le_trans (Keep.refl h0 []).1 y1_0), V, ⟨hl, hv⟩⟩)
    | succ r ih =>
      intro i T locs hT vs hri X eT K O N V hl hv
      have hi : i < cs.length := by omega
      refine hG _ _ (fun t_ k_ => XS.iload X.here hx rfl (hb hby d28_8) rfl k_) ?_
      refine hG _ _ (fun t_ k_ => XS.iloadN X.here hx rfl (hb hby d28_10) rfl k_) ?_
      show G (T.setTop (mkF m 11 #[.val (.ref a), .val (.int (Int32.ofNat i)), .val (.int (Int32.ofNat cs.length)), .val (.ref t_1), .val (.int (Int32.ofNat i))] [(.int (Int32.ofNat cs.length)), (.int (Int32.ofNat i))]))
      refine hG _ _ (fun t_ k_ => XS.icmpNo X.here hx rfl (hb hby d28_11) rfl (tlt (own_lt hi (by omega))).2.1 k_) ?_
      show G (T.setTop (mkF m 14 #[.val (.ref a), .val (.int (Int32.ofNat i)), .val (.int (Int32.ofNat cs.length)), .val (.ref t_1), .val (.int (Int32.ofNat i))] []))
      refine hG _ _ (fun t_ k_ => XS.aloadN X.here hx rfl (hb hby d28_14) rfl rfl k_) ?_
      refine hG _ _ (fun t_ k_ => XS.iload X.here hx rfl (hb hby d28_15) rfl k_) ?_
      refine hG _ _ (fun t_ k_ => XS.aloadN X.here hx rfl (hb hby d28_17) rfl rfl k_) ?_
      refine hG _ _ (fun t_ k_ => XS.iloadN X.here hx rfl (hb hby d28_18) rfl k_) ?_
      show G (T.setTop (mkF m 19 #[.val (.ref a), .val (.int (Int32.ofNat i)), .val (.int (Int32.ofNat cs.length)), .val (.ref t_1), .val (.int (Int32.ofNat i))] [(.int (Int32.ofNat i)), (.ref a), (.int (Int32.ofNat i)), (.ref t_1)]))
      obtain ⟨c2, Ar2, q2, S2, M2, H2, G2⟩ := id (g0_V.keep K nin0)
      have hin2 : ¬ ((Int32.ofNat i) < 0 ∨ c2.slots.size ≤ (Int32.ofNat i).toNatClampNeg) := inb_of S2 ⟨own_nn (by omega), own_lt hi (by omega)⟩
      refine hG _ _ (X.caload hx (j := (Int32.ofNat i)) (v := (.int (cs.getD i 0))) (by rw [eT]; exact Ar2.1) (State.isArrayOf_alike hZ.alike Ar2.2.1) Ar2.2.2 hin2 (Has.at H2 hin2 (by rw [own_clamp (by omega)]; exact own_getD_map Value.int cs i _ 0 hi)) (g := (mkF m 19 #[.val (.ref a), .val (.int (Int32.ofNat i)), .val (.int (Int32.ofNat cs.length)), .val (.ref t_1), .val (.int (Int32.ofNat i))] [(.int (Int32.ofNat i)), (.ref a), (.int (Int32.ofNat i)), (.ref t_1)])) rfl rfl (hb hby d28_19)) ?_
      show G (T.setTop (mkF m 20 #[.val (.ref a), .val (.int (Int32.ofNat i)), .val (.int (Int32.ofNat cs.length)), .val (.ref t_1), .val (.int (Int32.ofNat i))] [(.int (cs.getD i 0)), (.int (Int32.ofNat i)), (.ref t_1)]))
      refine own_callS X hx hZ hG hown (ow hw 132 rfl) (ow hw 133 rfl) (ow hw 65 rfl) (ow hw 134 rfl) (by decide) 0 (own_put l Z a0 hw t_1 kt_1 (2 * cs.length) vs i (cs.getD i 0) hT O V (own_ge O0 y1_0) (by omega) (by omega) hl g2_S g3_S g4_S) (by decide) (by decide) eT (by rw [hml]; rfl) (lenOf own_pd0 rfl) (argsL := [(.ref t_1), (.int (Int32.ofNat i)), (.int (cs.getD i 0))]) (rest := []) rfl rfl (Nat.le_of_eq rfl) (hb hby d28_20) (by decide) (by decide) ?_
      intro T3 h3 v3 L3 X3 e3 q3
      obtain ⟨rfl, M3, J3, r3_0⟩ := q3
      have N3 := Fr.app N M3
      have K3 : Keep h0 h3 [] := K.trans J3 (allS (Or.inr (Nat.le_trans (Keep.refl h0 []).1 y1_0)) all0)
      have O3 : own_Old Z h3 := O.keep J3 (allS (own_ge O0 y1_0) all0)
      show G (T3.setTop (mkF m 23 #[.val (.ref a), .val (.int (Int32.ofNat i)), .val (.int (Int32.ofNat cs.length)), .val (.ref t_1), .val (.int (Int32.ofNat i))] []))
      refine hG _ _ (fun t_ k_ => XS.iinc X3.here hx rfl (hb hby d28_23) rfl (l' := #[.val (.ref a), .val (.int ((Int32.ofNat i) + (1 : Int32))), .val (.int (Int32.ofNat cs.length)), .val (.ref t_1), .val (.int (Int32.ofNat i))]) rfl k_) ?_
      refine hG _ _ (fun t_ k_ => XS.iinc X3.here hx rfl (hb hby d28_26) rfl (l' := #[.val (.ref a), .val (.int ((Int32.ofNat i) + (1 : Int32))), .val (.int (Int32.ofNat cs.length)), .val (.ref t_1), .val (.int ((Int32.ofNat i) + (1 : Int32)))]) rfl k_) ?_
      refine hG _ _ (fun t_ k_ => XS.goto X3.here hx rfl (pc0 := 29) (pc' := 8) rfl (hb hby d28_29) (by decide) (by decide) k_) ?_
      show G (T3.setTop (mkF m 8 #[.val (.ref a), .val (.int ((Int32.ofNat i) + (1 : Int32))), .val (.int (Int32.ofNat cs.length)), .val (.ref t_1), .val (.int ((Int32.ofNat i) + (1 : Int32)))] []))
      rw [own_inc i]
      exact ih (i + 1) _ _ _ _ (by omega) X3 e3 K3 O3 N3 r3_0 (by rw [List.length_set, List.length_set]; exact hl) (own_set16 hl hi hv)
  exact loop cs.length 0 _ _ _ _ rfl X1 e1 K1 O1 N1 (r1_0.pad (pad_rep [] (.int 0) (2 * cs.length))) (by simp) (fun j hj => absurd hj (Nat.not_lt_zero j))
set_option maxRecDepth 65536 in
set_option maxHeartbeats 40000000 in
theorem own_gcmp3 (l : Launch) (Z : State) (a0 : Array Value) (hw : ∀ d ∈ tables_1, d.before a0 Z = true) (a : Addr) (ka : ClassId) (cs : List Int32) (h0 : Heap) (O0 : own_Old Z h0) (g0_V : Arv Z h0 a ka .char (Int32.ofNat cs.length) (cs.map Value.int) (.int 0)) (g1_hcap : cs.length ≤ 4) (g2_h16 : ∀ c ∈ cs, 0 ≤ c.toInt ∧ c.toInt ≤ 65535) (g3_S : Sta Z Z.heap "java/lang/StringUTF16" "$assertionsDisabled" "Z" (.int 1)) (g4_S : Sta Z Z.heap "java/lang/StringUTF16" "HI_BYTE_SHIFT" "I" (.int 0)) (g5_S : Sta Z Z.heap "java/lang/StringUTF16" "LO_BYTE_SHIFT" "I" (.int 8)) :
    own_Con l Z (⟨"java/lang/StringUTF16", "compress", "([CII)[B"⟩ : MethodName) jdk_52_method_16_code 6 (some (.array .byte)) [] ({ frames := 3, cells := 2, slots := 12, locals := 40 } : Room) #[(.ref a), (.int 0), (.int (Int32.ofNat cs.length))] h0 (fun rv rh rL => ∃ (t : Addr) (kt : ClassId) (nb : Int32) (vs : List Value), rv = some (.ref t) ∧ own_Fr Z rL ∧ Keep h0 rh [] ∧ h0.size ≤ t ∧ (Arv Z rh t kt .byte nb vs (.int 0)) ∧ (((∀ c ∈ cs, ¬ ((255 : Int32) < c)) ∧ nb = (Int32.ofNat cs.length) ∧ vs = (cs.map fun c => Value.int c.toInt8.toInt32)) ∨ ((∃ k, k < cs.length ∧ (255 : Int32) < cs.getD k 0) ∧ nb = (Int32.ofNat (2 * cs.length)) ∧ own_is16 cs vs))) := by
  refine own_intro (plainFor_of_name (by first | (simp [plainName, overriddenIn]; done) | decide +kernel)) ?_
  intro p e s m below meth c s₁ G hx hby hml hown hnm hret hZ X0 e0 hG hR
  have N0 := Fr.nil Z.heap.size
  refine own_entry (Ls := #[.val (.ref a), .val (.int 0), .val (.int (Int32.ofNat cs.length)), .unset, .unset, .unset]) (by first | (simp [entryFrame, mkF, argsToLocals, Value.category]; done) | rfl) ?_
  show G (s₁.setTop (mkF m 0 #[.val (.ref a), .val (.int 0), .val (.int (Int32.ofNat cs.length)), .unset, .unset, .unset] []))
  refine hG _ _ (fun t_ k_ => XS.iloadN X0.here hx rfl (hb hby d13_0) rfl k_) ?_
  show G (s₁.setTop (mkF m 1 #[.val (.ref a), .val (.int 0), .val (.int (Int32.ofNat cs.length)), .unset, .unset, .unset] [(.int (Int32.ofNat cs.length))]))
  obtain ⟨T1, h1, k1, X1, e1, E1, A1, st1⟩ := newP X0 hx hZ (ow hw 20 rfl) e0 (g := (mkF m 1 #[.val (.ref a), .val (.int 0), .val (.int (Int32.ofNat cs.length)), .unset, .unset, .unset] [(.int (Int32.ofNat cs.length))])) rfl (hb hby d13_1) rfl (own_nn (by omega)) (cap := 4) (by rw [own_clamp (by omega)]; exact g1_hcap) (by decide) (by decide) (by decide)
  obtain ⟨b1, z1⟩ : ∃ z, z = h0.size := ⟨_, rfl⟩
  rw [← z1] at A1 st1
  refine hG _ _ st1 ?_
  have K1 : Keep h0 h1 [] := (Keep.refl h0 []).ext E1
  have O1 : own_Old Z h1 := O0.ext E1
  have V1 : Arv Z h1 b1 k1 .byte (Int32.ofNat cs.length) [] (.int 0) := Arv.new A1 (own_nn (by omega))
  show G (T1.setTop (mkF m 3 #[.val (.ref a), .val (.int 0), .val (.int (Int32.ofNat cs.length)), .unset, .unset, .unset] [(.ref b1)]))
  refine hG _ _ (fun t_ k_ => XS.astoreN X1.here hx rfl (hb hby d13_3) rfl rfl (l' := #[.val (.ref a), .val (.int 0), .val (.int (Int32.ofNat cs.length)), .val (.ref b1), .unset, .unset]) rfl k_) ?_
  refine hG _ _ (fun t_ k_ => XS.aloadN X1.here hx rfl (hb hby d13_4) rfl rfl k_) ?_
  refine hG _ _ (fun t_ k_ => XS.iloadN X1.here hx rfl (hb hby d13_5) rfl k_) ?_
  refine hG _ _ (fun t_ k_ => XS.aloadN X1.here hx rfl (hb hby d13_6) rfl rfl k_) ?_
  refine hG _ _ (fun t_ k_ => XS.iconst X1.here hx rfl (hb hby d13_7) k_) ?_
  refine hG _ _ (fun t_ k_ => XS.iloadN X1.here hx rfl (hb hby d13_8) rfl k_) ?_
  show G (T1.setTop (mkF m 9 #[.val (.ref a), .val (.int 0), .val (.int (Int32.ofNat cs.length)), .val (.ref b1), .unset, .unset] [(.int (Int32.ofNat cs.length)), (.int 0), (.ref b1), (.int 0), (.ref a)]))
  have f3 := (g0_V.ext E1)
  refine own_callS X1 hx hZ hG hown (ow hw 67 rfl) (ow hw 68 rfl) (ow hw 65 rfl) (ow hw 69 rfl) (by decide) 0 (own_gcmp5 l Z a0 hw a b1 ka k1 cs h1 O1 f3 V1 (own_ge O0 (Nat.le_of_eq z1.symm)) (own_ne g0_V.lt (Nat.le_of_eq z1.symm)) (by omega)) (by decide) (by decide) e1 (by rw [hml]; rfl) (lenOf own_pd2 rfl) (argsL := [(.ref a), (.int 0), (.ref b1), (.int 0), (.int (Int32.ofNat cs.length))]) (rest := []) rfl rfl (Nat.le_of_eq rfl) (hb hby d13_9) (by decide) (by decide) ?_
  intro T2 h2 v2 L2 X2 e2 q2
  obtain ⟨r_2, vs_2, rfl, M2, J2, r2_0, r2_1⟩ := q2
  have N2 := Fr.app N0 M2
  have K2 : Keep h0 h2 [] := K1.trans J2 (allS (Or.inr (Nat.le_trans (Keep.refl h0 []).1 (Nat.le_of_eq z1.symm))) all0)
  have O2 : own_Old Z h2 := O1.keep J2 (allS (own_ge O0 (Nat.le_of_eq z1.symm)) all0)
  show G (T2.setTop (mkF m 12 #[.val (.ref a), .val (.int 0), .val (.int (Int32.ofNat cs.length)), .val (.ref b1), .unset, .unset] [(.int r_2)]))
  rcases r2_1 with ⟨rfl, hall, rfl⟩ | ⟨kq, hkq, rfl, hbig⟩
  · skip
    show G (T2.setTop (mkF m 12 #[.val (.ref a), .val (.int 0), .val (.int (Int32.ofNat cs.length)), .val (.ref b1), .unset, .unset] [(.int (Int32.ofNat cs.length))]))
    refine hG _ _ (fun t_ k_ => XS.istore X2.here hx rfl (hb hby d13_12) rfl (l' := #[.val (.ref a), .val (.int 0), .val (.int (Int32.ofNat cs.length)), .val (.ref b1), .val (.int (Int32.ofNat cs.length)), .unset]) rfl k_) ?_
    refine hG _ _ (fun t_ k_ => XS.iload X2.here hx rfl (hb hby d13_14) rfl k_) ?_
    refine hG _ _ (fun t_ k_ => XS.iloadN X2.here hx rfl (hb hby d13_16) rfl k_) ?_
    show G (T2.setTop (mkF m 17 #[.val (.ref a), .val (.int 0), .val (.int (Int32.ofNat cs.length)), .val (.ref b1), .val (.int (Int32.ofNat cs.length)), .unset] [(.int (Int32.ofNat cs.length)), (.int (Int32.ofNat cs.length))]))
    refine hG _ _ (fun t_ k_ => XS.icmpYes X2.here hx rfl (pc0 := 17) (pc' := 57) rfl (hb hby d13_17) rfl (teq (rfl : (Int32.ofNat cs.length) = (Int32.ofNat cs.length))).1 (by decide) (by decide) k_) ?_
    show G (T2.setTop (mkF m 57 #[.val (.ref a), .val (.int 0), .val (.int (Int32.ofNat cs.length)), .val (.ref b1), .val (.int (Int32.ofNat cs.length)), .unset] []))
    refine hG _ _ (fun t_ k_ => XS.aloadN X2.here hx rfl (hb hby d13_57) rfl rfl k_) ?_
    show G (T2.setTop (mkF m 58 #[.val (.ref a), .val (.int 0), .val (.int (Int32.ofNat cs.length)), .val (.ref b1), .val (.int (Int32.ofNat cs.length)), .unset] [(.ref b1)]))
    exact own_retA hR hret rfl rfl X2 hx (hb hby d13_58) (by decide) (by decide) (by rw [e2]; exact ⟨b1, k1, (Int32.ofNat cs.length), (cs.map fun c => Value.int c.toInt8.toInt32), rfl, N2, K2, (Nat.le_trans (Keep.refl h0 []).1 (Nat.le_of_eq z1.symm)), r2_0, (Or.inl ⟨hall, rfl, rfl⟩)⟩)
  · skip
    show G (T2.setTop (mkF m 12 #[.val (.ref a), .val (.int 0), .val (.int (Int32.ofNat cs.length)), .val (.ref b1), .unset, .unset] [(.int (Int32.ofNat kq))]))
    refine hG _ _ (fun t_ k_ => XS.istore X2.here hx rfl (hb hby d13_12) rfl (l' := #[.val (.ref a), .val (.int 0), .val (.int (Int32.ofNat cs.length)), .val (.ref b1), .val (.int (Int32.ofNat kq)), .unset]) rfl k_) ?_
    refine hG _ _ (fun t_ k_ => XS.iload X2.here hx rfl (hb hby d13_14) rfl k_) ?_
    refine hG _ _ (fun t_ k_ => XS.iloadN X2.here hx rfl (hb hby d13_16) rfl k_) ?_
    show G (T2.setTop (mkF m 17 #[.val (.ref a), .val (.int 0), .val (.int (Int32.ofNat cs.length)), .val (.ref b1), .val (.int (Int32.ofNat kq)), .unset] [(.int (Int32.ofNat cs.length)), (.int (Int32.ofNat kq))]))
    refine hG _ _ (fun t_ k_ => XS.icmpNo X2.here hx rfl (hb hby d13_17) rfl (feq (own_ofNat_ne hkq (by omega))).1 k_) ?_
    show G (T2.setTop (mkF m 20 #[.val (.ref a), .val (.int 0), .val (.int (Int32.ofNat cs.length)), .val (.ref b1), .val (.int (Int32.ofNat kq)), .unset] []))
    refine hG _ _ (fun t_ k_ => XS.aloadN X2.here hx rfl (hb hby d13_20) rfl rfl k_) ?_
    refine hG _ _ (fun t_ k_ => XS.iloadN X2.here hx rfl (hb hby d13_21) rfl k_) ?_
    refine hG _ _ (fun t_ k_ => XS.iloadN X2.here hx rfl (hb hby d13_22) rfl k_) ?_
    show G (T2.setTop (mkF m 23 #[.val (.ref a), .val (.int 0), .val (.int (Int32.ofNat cs.length)), .val (.ref b1), .val (.int (Int32.ofNat kq)), .unset] [(.int (Int32.ofNat cs.length)), (.int 0), (.ref a)]))
    have f5 := (f3.keep J2 (ninS (own_ne g0_V.lt (Nat.le_of_eq z1.symm)) nin0))
    refine own_callS X2 hx hZ hG hown (ow hw 122 rfl) (ow hw 123 rfl) (ow hw 65 rfl) (ow hw 124 rfl) (by decide) 0 (own_tob l Z a0 hw a ka cs h2 O2 f5 g1_hcap g3_S g4_S g5_S) (by decide) (by decide) e2 (by rw [hml]; rfl) (lenOf own_pd5 rfl) (argsL := [(.ref a), (.int 0), (.int (Int32.ofNat cs.length))]) (rest := []) rfl rfl (Nat.le_of_eq rfl) (hb hby d13_23) (by decide) (by decide) ?_
    intro T4 h4 v4 L4 X4 e4 q4
    obtain ⟨t_4, kt_4, vs_4, rfl, M4, J4, y4_0, r4_0, r4_1⟩ := q4
    have N4 := Fr.app N2 M4
    have K4 : Keep h0 h4 [] := K2.trans J4 all0
    have O4 : own_Old Z h4 := O2.keep J4 all0
    show G (T4.setTop (mkF m 26 #[.val (.ref a), .val (.int 0), .val (.int (Int32.ofNat cs.length)), .val (.ref b1), .val (.int (Int32.ofNat kq)), .unset] [(.ref t_4)]))
    refine hG _ _ (fun t_ k_ => XS.astore X4.here hx rfl (hb hby d13_26) rfl rfl (l' := #[.val (.ref a), .val (.int 0), .val (.int (Int32.ofNat cs.length)), .val (.ref b1), .val (.int (Int32.ofNat kq)), .val (.ref t_4)]) rfl k_) ?_
    refine hG _ _ (fun t_ k_ => XS.aload X4.here hx rfl (hb hby d13_28) rfl rfl k_) ?_
    refine hG _ _ (fun t_ k_ => XS.iload X4.here hx rfl (hb hby d13_30) rfl k_) ?_
    show G (T4.setTop (mkF m 32 #[.val (.ref a), .val (.int 0), .val (.int (Int32.ofNat cs.length)), .val (.ref b1), .val (.int (Int32.ofNat kq)), .val (.ref t_4)] [(.int (Int32.ofNat kq)), (.ref t_4)]))
    refine own_callS X4 hx hZ hG hown (ow hw 138 rfl) (ow hw 139 rfl) (ow hw 65 rfl) (ow hw 140 rfl) (by decide) 0 (own_gch l Z a0 hw t_4 kt_4 (2 * cs.length) vs_4 kq (own_lo (cs.getD kq 0)) (own_hi (cs.getD kq 0)) h4 O4 r4_0 (by omega) (by omega) (r4_1.2 kq hkq).1 (r4_1.2 kq hkq).2 g3_S g4_S g5_S) (by decide) (by decide) e4 (by rw [hml]; rfl) (lenOf own_pd1 rfl) (argsL := [(.ref t_4), (.int (Int32.ofNat kq))]) (rest := []) rfl rfl (Nat.le_of_eq rfl) (hb hby d13_32) (by decide) (by decide) ?_
    intro T6 h6 v6 L6 X6 e6 q6
    obtain ⟨rfl, M6, rfl⟩ := q6
    have N6 := Fr.app N4 M6
    show G (T6.setTop (mkF m 35 #[.val (.ref a), .val (.int 0), .val (.int (Int32.ofNat cs.length)), .val (.ref b1), .val (.int (Int32.ofNat kq)), .val (.ref t_4)] [(.int (own_join (own_lo (cs.getD kq 0)) (own_hi (cs.getD kq 0))))]))
    rw [own_join_eq (g2_h16 _ (own_getD_mem cs kq 0 hkq))]
    show G (T6.setTop (mkF m 35 #[.val (.ref a), .val (.int 0), .val (.int (Int32.ofNat cs.length)), .val (.ref b1), .val (.int (Int32.ofNat kq)), .val (.ref t_4)] [(.int (cs.getD kq 0))]))
    refine hG _ _ (fun t_ k_ => XS.sipush X6.here hx rfl (hb hby d13_35) k_) ?_
    show G (T6.setTop (mkF m 38 #[.val (.ref a), .val (.int 0), .val (.int (Int32.ofNat cs.length)), .val (.ref b1), .val (.int (Int32.ofNat kq)), .val (.ref t_4)] [(.int 255), (.int (cs.getD kq 0))]))
    refine hG _ _ (fun t_ k_ => XS.icmpYes X6.here hx rfl (pc0 := 38) (pc' := 54) rfl (hb hby d13_38) rfl (tlt hbig).2.2.1 (by decide) (by decide) k_) ?_
    show G (T6.setTop (mkF m 54 #[.val (.ref a), .val (.int 0), .val (.int (Int32.ofNat cs.length)), .val (.ref b1), .val (.int (Int32.ofNat kq)), .val (.ref t_4)] []))
    refine hG _ _ (fun t_ k_ => XS.aload X6.here hx rfl (hb hby d13_54) rfl rfl k_) ?_
    show G (T6.setTop (mkF m 56 #[.val (.ref a), .val (.int 0), .val (.int (Int32.ofNat cs.length)), .val (.ref b1), .val (.int (Int32.ofNat kq)), .val (.ref t_4)] [(.ref t_4)]))
    exact own_retA hR hret rfl rfl X6 hx (hb hby d13_56) (by decide) (by decide) (by rw [e6]; exact ⟨t_4, kt_4, (Int32.ofNat (2 * cs.length)), vs_4, rfl, N6, K4, (Nat.le_trans K2.1 y4_0), r4_0, (Or.inr ⟨⟨kq, hkq, hbig⟩, rfl, r4_1⟩)⟩)
theorem own_pd6 : parseMethodDescriptor "([BI)B" = some ⟨[(.array .byte), .int], some .byte⟩ := by decide +kernel
set_option maxRecDepth 65536 in
set_option maxHeartbeats 40000000 in
theorem own_coder (l : Launch) (Z : State) (a0 : Array Value) (hw : ∀ d ∈ tables_1, d.before a0 Z = true) (t : Addr) (n : Int32) (kt : ClassId) (n2 : Int32) (vs : List Value) (r : Int32) (h0 : Heap) (O0 : own_Old Z h0) (g0_V : Arv Z h0 t kt .byte n2 vs (.int 0)) (g1_hr : nar .byte ((((n - n2).toUInt32 >>> ((31 : Int32) &&& 31).toUInt32).toInt32).toInt8.toInt32) = r) :
    own_Con l Z (⟨"java/lang/StringUTF16", "coderFromArrayLen", "([BI)B"⟩ : MethodName) jdk_52_method_15_code 2 (some .byte) [] ({ frames := 0, cells := 0, slots := 0, locals := 0 } : Room) #[(.ref t), (.int n)] h0 (fun rv rh rL => rv = some (.int r) ∧ own_Fr Z rL ∧ h0 = rh) := by
  refine own_intro (plainFor_of_name (by first | (simp [plainName, overriddenIn]; done) | decide +kernel)) ?_
  intro p e s m below meth c s₁ G hx hby hml hown hnm hret hZ X0 e0 hG hR
  have N0 := Fr.nil Z.heap.size
  refine own_entry (Ls := #[.val (.ref t), .val (.int n)]) (by first | (simp [entryFrame, mkF, argsToLocals, Value.category]; done) | rfl) ?_
  show G (s₁.setTop (mkF m 0 #[.val (.ref t), .val (.int n)] []))
  refine hG _ _ (fun t_ k_ => XS.iloadN X0.here hx rfl (hb hby d15_0) rfl k_) ?_
  refine hG _ _ (fun t_ k_ => XS.aloadN X0.here hx rfl (hb hby d15_1) rfl rfl k_) ?_
  show G (s₁.setTop (mkF m 2 #[.val (.ref t), .val (.int n)] [(.ref t), (.int n)]))
  obtain ⟨c1, Ar1, -, S1, M1, -, -⟩ := id g0_V
  refine hG _ _ (X0.arraylength hx (by rw [e0]; exact Ar1.1) (State.isArrayOf_alike hZ.alike Ar1.2.1) (g := (mkF m 2 #[.val (.ref t), .val (.int n)] [(.ref t), (.int n)])) rfl rfl (hb hby d15_2)) ?_
  rw [len_of S1 M1]
  show G (s₁.setTop (mkF m 3 #[.val (.ref t), .val (.int n)] [(.int n2), (.int n)]))
  refine hG _ _ (fun t_ k_ => XS.isub X0.here hx rfl (hb hby d15_3) rfl k_) ?_
  refine hG _ _ (fun t_ k_ => XS.bipush X0.here hx rfl (hb hby d15_4) k_) ?_
  refine hG _ _ (fun t_ k_ => XS.iushr X0.here hx rfl (hb hby d15_6) rfl k_) ?_
  refine hG _ _ (fun t_ k_ => XS.i2b X0.here hx rfl (hb hby d15_7) rfl k_) ?_
  show G (s₁.setTop (mkF m 8 #[.val (.ref t), .val (.int n)] [(.int ((((n - n2).toUInt32 >>> ((31 : Int32) &&& 31).toUInt32).toInt32).toInt8.toInt32))]))
  exact own_retN hR hret (by simp) X0 hx (hb hby d15_8) (by decide) (by decide) (by rw [e0]; exact ⟨(by rw [g1_hr]), N0, rfl⟩)
theorem own_pd7 : parseMethodDescriptor "([CIILjava/lang/Void;)V" = some ⟨[(.array .char), .int, .int, (.object "java/lang/Void")], none⟩ := by decide +kernel
set_option maxRecDepth 65536 in
set_option maxHeartbeats 40000000 in
theorem own_gstr4 (l : Launch) (Z : State) (a0 : Array Value) (hw : ∀ d ∈ tables_1, d.before a0 Z = true) (a : Addr) (u : Addr) (ku : ClassId) (cs : List Int32) (cpt : Int32) (v0 : Value) (v1 : Value) (h0 : Heap) (O0 : own_Old Z h0) (g0_E : Exa Z h0 a "java/lang/String") (g1_F : Fld Z h0 a "java/lang/String" "coder" "B" v0) (g2_F : Fld Z h0 a "java/lang/String" "value" "[B" v1) (g3_G : Z.heap.size ≤ a) (g4_V : Arv Z h0 u ku .char (Int32.ofNat cs.length) (cs.map Value.int) (.int 0)) (g5_hpos : 0 < cs.length) (g6_hcap : cs.length ≤ 4) (g7_h16 : ∀ c ∈ cs, 0 ≤ c.toInt ∧ c.toInt ≤ 65535) (g8_S : Sta Z Z.heap "java/lang/String" "COMPACT_STRINGS" "Z" (.int cpt)) (g9_hcpt : ¬ (cpt = (0 : Int32))) (g10_S : Sta Z Z.heap "java/lang/StringUTF16" "$assertionsDisabled" "Z" (.int 1)) (g11_S : Sta Z Z.heap "java/lang/StringUTF16" "HI_BYTE_SHIFT" "I" (.int 0)) (g12_S : Sta Z Z.heap "java/lang/StringUTF16" "LO_BYTE_SHIFT" "I" (.int 8)) :
    own_Con l Z (⟨"java/lang/String", "<init>", "([CIILjava/lang/Void;)V"⟩ : MethodName) jdk_42_method_149_code 6 none [] ({ frames := 4, cells := 2, slots := 12, locals := 57 } : Room) #[(.ref a), (.ref u), (.int 0), (.int (Int32.ofNat cs.length)), .null] h0 (fun rv rh rL => ∃ (t : Addr) (kt : ClassId) (cd : Int32) (nb : Int32) (vs : List Value), rv = none ∧ own_Fr Z rL ∧ Keep h0 rh [a] ∧ h0.size ≤ t ∧ (Exa Z rh a "java/lang/String") ∧ (Fld Z rh a "java/lang/String" "coder" "B" (.int cd)) ∧ (Fld Z rh a "java/lang/String" "value" "[B" (.ref t)) ∧ (Arv Z rh t kt .byte nb vs (.int 0)) ∧ (own_enc cs cd nb vs)) := by
  refine own_intro (plainFor_of_name (by first | (simp [plainName, overriddenIn]; done) | decide +kernel)) ?_
  intro p e s m below meth c s₁ G hx hby hml hown hnm hret hZ X0 e0 hG hR
  have N0 := Fr.nil Z.heap.size
  refine own_entry (Ls := #[.val (.ref a), .val (.ref u), .val (.int 0), .val (.int (Int32.ofNat cs.length)), .val .null, .unset]) (by first | (simp [entryFrame, mkF, argsToLocals, Value.category]; done) | rfl) ?_
  show G (s₁.setTop (mkF m 0 #[.val (.ref a), .val (.ref u), .val (.int 0), .val (.int (Int32.ofNat cs.length)), .val .null, .unset] []))
  refine hG _ _ (fun t_ k_ => XS.aloadN X0.here hx rfl (hb hby d3_0) rfl rfl k_) ?_
  show G (s₁.setTop (mkF m 1 #[.val (.ref a), .val (.ref u), .val (.int 0), .val (.int (Int32.ofNat cs.length)), .val .null, .unset] [(.ref a)]))
  obtain ⟨T1, X1, e1, st1⟩ := initO X0 hx hZ hown (ow hw 16 rfl) (ow hw 17 rfl) (ow hw 18 rfl) e0 (g := (mkF m 1 #[.val (.ref a), .val (.ref u), .val (.int 0), .val (.int (Int32.ofNat cs.length)), .val .null, .unset] [(.ref a)])) rfl (by rw [hml]; rfl) rfl (hb hby d3_1) (by decide) (W := 0) (by show 2 * 0 + _ ≤ _; exact Nat.le_of_eq rfl) (by decide)
  refine hG _ _ st1 ?_
  show G (T1.setTop (mkF m 4 #[.val (.ref a), .val (.ref u), .val (.int 0), .val (.int (Int32.ofNat cs.length)), .val .null, .unset] []))
  refine hG _ _ (fun t_ k_ => XS.iloadN X1.here hx rfl (hb hby d3_4) rfl k_) ?_
  show G (T1.setTop (mkF m 5 #[.val (.ref a), .val (.ref u), .val (.int 0), .val (.int (Int32.ofNat cs.length)), .val .null, .unset] [(.int (Int32.ofNat cs.length))]))
  refine hG _ _ (fun t_ k_ => XS.ifYes X1.here hx rfl (pc0 := 5) (pc' := 27) rfl (hb hby d3_5) rfl ((if0 _ _).trans (feq (fun q => Nat.ne_of_gt g5_hpos (own_ofNat_inj (by omega) (by decide) q))).2) (by decide) (by decide) k_) ?_
  show G (T1.setTop (mkF m 27 #[.val (.ref a), .val (.ref u), .val (.int 0), .val (.int (Int32.ofNat cs.length)), .val .null, .unset] []))
  obtain ⟨T2, X2, e2, st2⟩ := getS2 X1 hx hZ hown (host := "") (Or.inl (ow hw 41 rfl)) Via.refl e1 (own_sta g8_S O0) (g := (mkF m 27 #[.val (.ref a), .val (.ref u), .val (.int 0), .val (.int (Int32.ofNat cs.length)), .val .null, .unset] [])) rfl (hb hby d3_27)
  refine hG _ _ st2 ?_
  show G (T2.setTop (mkF m 30 #[.val (.ref a), .val (.ref u), .val (.int 0), .val (.int (Int32.ofNat cs.length)), .val .null, .unset] [(.int cpt)]))
  refine hG _ _ (fun t_ k_ => XS.ifNo X2.here hx rfl (hb hby d3_30) rfl ((if0 _ _).trans (feq g9_hcpt).1) k_) ?_
  show G (T2.setTop (mkF m 33 #[.val (.ref a), .val (.ref u), .val (.int 0), .val (.int (Int32.ofNat cs.length)), .val .null, .unset] []))
  refine hG _ _ (fun t_ k_ => XS.aloadN X2.here hx rfl (hb hby d3_33) rfl rfl k_) ?_
  refine hG _ _ (fun t_ k_ => XS.iloadN X2.here hx rfl (hb hby d3_34) rfl k_) ?_
  refine hG _ _ (fun t_ k_ => XS.iloadN X2.here hx rfl (hb hby d3_35) rfl k_) ?_
  show G (T2.setTop (mkF m 36 #[.val (.ref a), .val (.ref u), .val (.int 0), .val (.int (Int32.ofNat cs.length)), .val .null, .unset] [(.int (Int32.ofNat cs.length)), (.int 0), (.ref u)]))
  refine own_callS X2 hx hZ hG hown (ow hw 63 rfl) (ow hw 64 rfl) (ow hw 65 rfl) (ow hw 66 rfl) (by decide) 0 (own_gcmp3 l Z a0 hw u ku cs h0 O0 g4_V g6_hcap g7_h16 g10_S g11_S g12_S) (by decide) (by decide) e2 (by rw [hml]; rfl) (lenOf own_pd5 rfl) (argsL := [(.ref u), (.int 0), (.int (Int32.ofNat cs.length))]) (rest := []) rfl rfl (Nat.le_of_eq rfl) (hb hby d3_36) (by decide) (by decide) ?_
  intro T3 h3 v3 L3 X3 e3 q3
  obtain ⟨t_3, kt_3, nb_3, vs_3, rfl, M3, J3, y3_0, r3_0, r3_1⟩ := q3
  have N3 := Fr.app N0 M3
  have K3 : Keep h0 h3 [a] := (Keep.refl h0 [a]).trans J3 all0
  have O3 : own_Old Z h3 := O0.keep J3 all0
  show G (T3.setTop (mkF m 39 #[.val (.ref a), .val (.ref u), .val (.int 0), .val (.int (Int32.ofNat cs.length)), .val .null, .unset] [(.ref t_3)]))
  rcases r3_1 with ⟨hall, rfl, rfl⟩ | ⟨hbig, rfl, h16⟩
  · skip
    show G (T3.setTop (mkF m 39 #[.val (.ref a), .val (.ref u), .val (.int 0), .val (.int (Int32.ofNat cs.length)), .val .null, .unset] [(.ref t_3)]))
    refine hG _ _ (fun t_ k_ => XS.astore X3.here hx rfl (hb hby d3_39) rfl rfl (l' := #[.val (.ref a), .val (.ref u), .val (.int 0), .val (.int (Int32.ofNat cs.length)), .val .null, .val (.ref t_3)]) rfl k_) ?_
    refine hG _ _ (fun t_ k_ => XS.aloadN X3.here hx rfl (hb hby d3_41) rfl rfl k_) ?_
    refine hG _ _ (fun t_ k_ => XS.aload X3.here hx rfl (hb hby d3_42) rfl rfl k_) ?_
    refine hG _ _ (fun t_ k_ => XS.iloadN X3.here hx rfl (hb hby d3_44) rfl k_) ?_
    show G (T3.setTop (mkF m 45 #[.val (.ref a), .val (.ref u), .val (.int 0), .val (.int (Int32.ofNat cs.length)), .val .null, .val (.ref t_3)] [(.int (Int32.ofNat cs.length)), (.ref t_3), (.ref a)]))
    refine own_callS X3 hx hZ hG hown (ow hw 70 rfl) (ow hw 71 rfl) (ow hw 65 rfl) (ow hw 72 rfl) (by decide) 1 (own_coder l Z a0 hw t_3 (Int32.ofNat cs.length) kt_3 (Int32.ofNat cs.length) (cs.map fun c => Value.int c.toInt8.toInt32) (0 : Int32) h3 O3 r3_0 (own_coder0 _)) (by decide) (by decide) e3 (by rw [hml]; rfl) (lenOf own_pd6 rfl) (argsL := [(.ref t_3), (.int (Int32.ofNat cs.length))]) (rest := [(.ref a)]) rfl rfl (Nat.le_of_eq rfl) (hb hby d3_45) (by decide) (by decide) ?_
    intro T4 h4 v4 L4 X4 e4 q4
    obtain ⟨rfl, M4, rfl⟩ := q4
    have N4 := Fr.app N3 M4
    show G (T4.setTop (mkF m 48 #[.val (.ref a), .val (.ref u), .val (.int 0), .val (.int (Int32.ofNat cs.length)), .val .null, .val (.ref t_3)] [(.int 0), (.ref a)]))
    have f6 := (g1_F.keep J3 nin0)
    have f7 := (g0_E.keep J3)
    obtain ⟨T5, h5, X5, e5, W5, st5⟩ := putFN X4 hx hZ hown (ow hw 26 rfl) Via.refl e4 f6 f7 (Or.inr ⟨(ow hw 22 rfl), rfl, hnm⟩) (ow hw 7 rfl) (ty := .byte) (v' := (.int 0)) (by decide) rfl rfl (g := (mkF m 48 #[.val (.ref a), .val (.ref u), .val (.int 0), .val (.int (Int32.ofNat cs.length)), .val .null, .val (.ref t_3)] [(.int 0), (.ref a)])) rfl rfl (hb hby d3_48)
    refine hG _ _ st5 ?_
    have K5 : Keep h0 h5 [a] := K3.wr W5 (Or.inl (List.mem_of_getElem? (i := 0) rfl))
    have O5 : own_Old Z h5 := O3.wr W5 g3_G
    have N5 := Fr.snoc X5 N4 g3_G
    show G (T5.setTop (mkF m 51 #[.val (.ref a), .val (.ref u), .val (.int 0), .val (.int (Int32.ofNat cs.length)), .val .null, .val (.ref t_3)] []))
    refine hG _ _ (fun t_ k_ => XS.aloadN X5.here hx rfl (hb hby d3_51) rfl rfl k_) ?_
    refine hG _ _ (fun t_ k_ => XS.aload X5.here hx rfl (hb hby d3_52) rfl rfl k_) ?_
    show G (T5.setTop (mkF m 54 #[.val (.ref a), .val (.ref u), .val (.int 0), .val (.int (Int32.ofNat cs.length)), .val .null, .val (.ref t_3)] [(.ref t_3), (.ref a)]))
    have f9 := ((g2_F.keep J3 nin0).other W5 (Or.inr (slot_ne (Or.inr (ow hw 21 rfl)) (Or.inr (ow hw 22 rfl)) (by decide) (t := (.array .byte)) (t' := .byte) (by decide) (by decide))))
    have f10 := (f7.wr W5)
    obtain ⟨T8, h8, X8, e8, W8, st8⟩ := putF X5 hx hZ hown (host := "") (Or.inl (ow hw 25 rfl)) Via.refl e5 f9 f10 (Or.inr ⟨(ow hw 21 rfl), rfl, hnm⟩) (ow hw 7 rfl) (ty := (.array .byte)) (by decide) rfl rfl (g := (mkF m 54 #[.val (.ref a), .val (.ref u), .val (.int 0), .val (.int (Int32.ofNat cs.length)), .val .null, .val (.ref t_3)] [(.ref t_3), (.ref a)])) rfl rfl (hb hby d3_54)
    refine hG _ _ st8 ?_
    have K8 : Keep h0 h8 [a] := K5.wr W8 (Or.inl (List.mem_of_getElem? (i := 0) rfl))
    have O8 : own_Old Z h8 := O5.wr W8 g3_G
    have N8 := Fr.snoc X8 N5 g3_G
    show G (T8.setTop (mkF m 57 #[.val (.ref a), .val (.ref u), .val (.int 0), .val (.int (Int32.ofNat cs.length)), .val .null, .val (.ref t_3)] []))
    have f11 := (f10.wr W8)
    have f12 := ((f6.same W5).other W8 (Or.inr (slot_ne (Or.inr (ow hw 22 rfl)) (Or.inr (ow hw 21 rfl)) (by decide) (t := .byte) (t' := (.array .byte)) (by decide) (by decide))))
    have f13 := ((r3_0.other W5 (Ne.symm (own_ne g0_E.lt y3_0))).other W8 (Ne.symm (own_ne g0_E.lt y3_0)))
    exact own_retV hR hret X8 hx (hb hby d3_57) (by decide) (by decide) (by rw [e8]; exact ⟨t_3, kt_3, (0 : Int32), (Int32.ofNat cs.length), (cs.map fun c => Value.int c.toInt8.toInt32), rfl, N8, K8, (Nat.le_trans (Keep.refl h0 [a]).1 y3_0), f11, f12, (f9.same W8), f13, (Or.inl ⟨hall, rfl, rfl, rfl⟩)⟩)
  · skip
    show G (T3.setTop (mkF m 39 #[.val (.ref a), .val (.ref u), .val (.int 0), .val (.int (Int32.ofNat cs.length)), .val .null, .unset] [(.ref t_3)]))
    refine hG _ _ (fun t_ k_ => XS.astore X3.here hx rfl (hb hby d3_39) rfl rfl (l' := #[.val (.ref a), .val (.ref u), .val (.int 0), .val (.int (Int32.ofNat cs.length)), .val .null, .val (.ref t_3)]) rfl k_) ?_
    refine hG _ _ (fun t_ k_ => XS.aloadN X3.here hx rfl (hb hby d3_41) rfl rfl k_) ?_
    refine hG _ _ (fun t_ k_ => XS.aload X3.here hx rfl (hb hby d3_42) rfl rfl k_) ?_
    refine hG _ _ (fun t_ k_ => XS.iloadN X3.here hx rfl (hb hby d3_44) rfl k_) ?_
    show G (T3.setTop (mkF m 45 #[.val (.ref a), .val (.ref u), .val (.int 0), .val (.int (Int32.ofNat cs.length)), .val .null, .val (.ref t_3)] [(.int (Int32.ofNat cs.length)), (.ref t_3), (.ref a)]))
    refine own_callS X3 hx hZ hG hown (ow hw 70 rfl) (ow hw 71 rfl) (ow hw 65 rfl) (ow hw 72 rfl) (by decide) 1 (own_coder l Z a0 hw t_3 (Int32.ofNat cs.length) kt_3 (Int32.ofNat (2 * cs.length)) vs_3 (1 : Int32) h3 O3 r3_0 (own_coder1 g5_hpos (by omega))) (by decide) (by decide) e3 (by rw [hml]; rfl) (lenOf own_pd6 rfl) (argsL := [(.ref t_3), (.int (Int32.ofNat cs.length))]) (rest := [(.ref a)]) rfl rfl (Nat.le_of_eq rfl) (hb hby d3_45) (by decide) (by decide) ?_
    intro T14 h14 v14 L14 X14 e14 q14
    obtain ⟨rfl, M14, rfl⟩ := q14
    have N14 := Fr.app N3 M14
    show G (T14.setTop (mkF m 48 #[.val (.ref a), .val (.ref u), .val (.int 0), .val (.int (Int32.ofNat cs.length)), .val .null, .val (.ref t_3)] [(.int 1), (.ref a)]))
    have f16 := (g1_F.keep J3 nin0)
    have f17 := (g0_E.keep J3)
    obtain ⟨T15, h15, X15, e15, W15, st15⟩ := putFN X14 hx hZ hown (ow hw 26 rfl) Via.refl e14 f16 f17 (Or.inr ⟨(ow hw 22 rfl), rfl, hnm⟩) (ow hw 7 rfl) (ty := .byte) (v' := (.int 1)) (by decide) rfl rfl (g := (mkF m 48 #[.val (.ref a), .val (.ref u), .val (.int 0), .val (.int (Int32.ofNat cs.length)), .val .null, .val (.ref t_3)] [(.int 1), (.ref a)])) rfl rfl (hb hby d3_48)
    refine hG _ _ st15 ?_
    have K15 : Keep h0 h15 [a] := K3.wr W15 (Or.inl (List.mem_of_getElem? (i := 0) rfl))
    have O15 : own_Old Z h15 := O3.wr W15 g3_G
    have N15 := Fr.snoc X15 N14 g3_G
    show G (T15.setTop (mkF m 51 #[.val (.ref a), .val (.ref u), .val (.int 0), .val (.int (Int32.ofNat cs.length)), .val .null, .val (.ref t_3)] []))
    refine hG _ _ (fun t_ k_ => XS.aloadN X15.here hx rfl (hb hby d3_51) rfl rfl k_) ?_
    refine hG _ _ (fun t_ k_ => XS.aload X15.here hx rfl (hb hby d3_52) rfl rfl k_) ?_
    show G (T15.setTop (mkF m 54 #[.val (.ref a), .val (.ref u), .val (.int 0), .val (.int (Int32.ofNat cs.length)), .val .null, .val (.ref t_3)] [(.ref t_3), (.ref a)]))
    have f19 := ((g2_F.keep J3 nin0).other W15 (Or.inr (slot_ne (Or.inr (ow hw 21 rfl)) (Or.inr (ow hw 22 rfl)) (by decide) (t := (.array .byte)) (t' := .byte) (by decide) (by decide))))
    have f20 := (f17.wr W15)
    obtain ⟨T18, h18, X18, e18, W18, st18⟩ := putF X15 hx hZ hown (host := "") (Or.inl (ow hw 25 rfl)) Via.refl e15 f19 f20 (Or.inr ⟨(ow hw 21 rfl), rfl, hnm⟩) (ow hw 7 rfl) (ty := (.array .byte)) (by decide) rfl rfl (g := (mkF m 54 #[.val (.ref a), .val (.ref u), .val (.int 0), .val (.int (Int32.ofNat cs.length)), .val .null, .val (.ref t_3)] [(.ref t_3), (.ref a)])) rfl rfl (hb hby d3_54)
    refine hG _ _ st18 ?_
    have K18 : Keep h0 h18 [a] := K15.wr W18 (Or.inl (List.mem_of_getElem? (i := 0) rfl))
    have O18 : own_Old Z h18 := O15.wr W18 g3_G
    have N18 := Fr.snoc X18 N15 g3_G
    show G (T18.setTop (mkF m 57 #[.val (.ref a), .val (.ref u), .val (.int 0), .val (.int (Int32.ofNat cs.length)), .val .null, .val (.ref t_3)] []))
    have f21 := (f20.wr W18)
    have f22 := ((f16.same W15).other W18 (Or.inr (slot_ne (Or.inr (ow hw 22 rfl)) (Or.inr (ow hw 21 rfl)) (by decide) (t := .byte) (t' := (.array .byte)) (by decide) (by decide))))
    have f23 := ((r3_0.other W15 (Ne.symm (own_ne g0_E.lt y3_0))).other W18 (Ne.symm (own_ne g0_E.lt y3_0)))
    exact own_retV hR hret X18 hx (hb hby d3_57) (by decide) (by decide) (by rw [e18]; exact ⟨t_3, kt_3, (1 : Int32), (Int32.ofNat (2 * cs.length)), vs_3, rfl, N18, K18, (Nat.le_trans (Keep.refl h0 [a]).1 y3_0), f21, f22, (f19.same W18), f23, (Or.inr ⟨hbig, rfl, rfl, h16⟩)⟩)
theorem own_pd8 : parseMethodDescriptor "([C)V" = some ⟨[(.array .char)], none⟩ := by decide +kernel
set_option maxRecDepth 65536 in
set_option maxHeartbeats 40000000 in
theorem own_gstr1 (l : Launch) (Z : State) (a0 : Array Value) (hw : ∀ d ∈ tables_1, d.before a0 Z = true) (a : Addr) (u : Addr) (ku : ClassId) (cs : List Int32) (cpt : Int32) (v0 : Value) (v1 : Value) (h0 : Heap) (O0 : own_Old Z h0) (g0_E : Exa Z h0 a "java/lang/String") (g1_F : Fld Z h0 a "java/lang/String" "coder" "B" v0) (g2_F : Fld Z h0 a "java/lang/String" "value" "[B" v1) (g3_G : Z.heap.size ≤ a) (g4_V : Arv Z h0 u ku .char (Int32.ofNat cs.length) (cs.map Value.int) (.int 0)) (g5_hpos : 0 < cs.length) (g6_hcap : cs.length ≤ 4) (g7_h16 : ∀ c ∈ cs, 0 ≤ c.toInt ∧ c.toInt ≤ 65535) (g8_S : Sta Z Z.heap "java/lang/String" "COMPACT_STRINGS" "Z" (.int cpt)) (g9_hcpt : ¬ (cpt = (0 : Int32))) (g10_S : Sta Z Z.heap "java/lang/StringUTF16" "$assertionsDisabled" "Z" (.int 1)) (g11_S : Sta Z Z.heap "java/lang/StringUTF16" "HI_BYTE_SHIFT" "I" (.int 0)) (g12_S : Sta Z Z.heap "java/lang/StringUTF16" "LO_BYTE_SHIFT" "I" (.int 8)) :
    own_Con l Z (⟨"java/lang/String", "<init>", "([C)V"⟩ : MethodName) jdk_42_method_3_code 2 none [] ({ frames := 5, cells := 2, slots := 12, locals := 74 } : Room) #[(.ref a), (.ref u)] h0 (fun rv rh rL => ∃ (t : Addr) (kt : ClassId) (cd : Int32) (nb : Int32) (vs : List Value), rv = none ∧ own_Fr Z rL ∧ Keep h0 rh [a] ∧ h0.size ≤ t ∧ (Exa Z rh a "java/lang/String") ∧ (Fld Z rh a "java/lang/String" "coder" "B" (.int cd)) ∧ (Fld Z rh a "java/lang/String" "value" "[B" (.ref t)) ∧ (Arv Z rh t kt .byte nb vs (.int 0)) ∧ (own_enc cs cd nb vs)) := by
  refine own_intro (plainFor_of_name (by first | (simp [plainName, overriddenIn]; done) | decide +kernel)) ?_
  intro p e s m below meth c s₁ G hx hby hml hown hnm hret hZ X0 e0 hG hR
  have N0 := Fr.nil Z.heap.size
  refine own_entry (Ls := #[.val (.ref a), .val (.ref u)]) (by first | (simp [entryFrame, mkF, argsToLocals, Value.category]; done) | rfl) ?_
  show G (s₁.setTop (mkF m 0 #[.val (.ref a), .val (.ref u)] []))
  refine hG _ _ (fun t_ k_ => XS.aloadN X0.here hx rfl (hb hby d2_0) rfl rfl k_) ?_
  refine hG _ _ (fun t_ k_ => XS.aloadN X0.here hx rfl (hb hby d2_1) rfl rfl k_) ?_
  refine hG _ _ (fun t_ k_ => XS.iconst X0.here hx rfl (hb hby d2_2) k_) ?_
  refine hG _ _ (fun t_ k_ => XS.aloadN X0.here hx rfl (hb hby d2_3) rfl rfl k_) ?_
  show G (s₁.setTop (mkF m 4 #[.val (.ref a), .val (.ref u)] [(.ref u), (.int 0), (.ref u), (.ref a)]))
  obtain ⟨c1, Ar1, -, S1, M1, -, -⟩ := id g4_V
  refine hG _ _ (X0.arraylength hx (by rw [e0]; exact Ar1.1) (State.isArrayOf_alike hZ.alike Ar1.2.1) (g := (mkF m 4 #[.val (.ref a), .val (.ref u)] [(.ref u), (.int 0), (.ref u), (.ref a)])) rfl rfl (hb hby d2_4)) ?_
  rw [len_of S1 M1]
  show G (s₁.setTop (mkF m 5 #[.val (.ref a), .val (.ref u)] [(.int (Int32.ofNat cs.length)), (.int 0), (.ref u), (.ref a)]))
  refine hG _ _ (fun t_ k_ => XS.aconstNull X0.here hx rfl (hb hby d2_5) k_) ?_
  show G (s₁.setTop (mkF m 6 #[.val (.ref a), .val (.ref u)] [.null, (.int (Int32.ofNat cs.length)), (.int 0), (.ref u), (.ref a)]))
  refine own_callI X0 hx hZ hG hown rfl (ow hw 12 rfl) (ow hw 13 rfl) (ow hw 8 rfl) (ow hw 15 rfl) (by decide) 0 (own_gstr4 l Z a0 hw a u ku cs cpt v0 v1 h0 O0 g0_E g1_F g2_F g3_G g4_V g5_hpos g6_hcap g7_h16 g8_S g9_hcpt g10_S g11_S g12_S) (by decide) (by decide) e0 (by rw [hml]; rfl) (lenOf own_pd7 rfl) (argsL := [(.ref u), (.int 0), (.int (Int32.ofNat cs.length)), .null]) (rest := []) rfl rfl (Nat.le_of_eq rfl) (hb hby d2_6) (by decide) (by decide) ?_
  intro T2 h2 v2 L2 X2 e2 q2
  obtain ⟨t_2, kt_2, cd_2, nb_2, vs_2, rfl, M2, J2, y2_0, r2_0, r2_1, r2_2, r2_3, r2_4⟩ := q2
  have N2 := Fr.app N0 M2
  have K2 : Keep h0 h2 [a] := (Keep.refl h0 [a]).trans J2 (allS (Or.inl (List.mem_of_getElem? (i := 0) rfl)) all0)
  have O2 : own_Old Z h2 := O0.keep J2 (allS g3_G all0)
  show G (T2.setTop (mkF m 9 #[.val (.ref a), .val (.ref u)] []))
  exact own_retV hR hret X2 hx (hb hby d2_9) (by decide) (by decide) (by rw [e2]; exact ⟨t_2, kt_2, cd_2, nb_2, vs_2, rfl, N2, K2, (Nat.le_trans (Keep.refl h0 [a]).1 y2_0), r2_0, r2_1, r2_2, r2_3, r2_4⟩)
set_option maxRecDepth 65536 in
set_option maxHeartbeats 40000000 in
theorem own_str4E (l : Launch) (Z : State) (a0 : Array Value) (hw : ∀ d ∈ tables_1, d.before a0 Z = true) (hEL : EW Z a0 consts_1) (a : Addr) (u : Addr) (v0 : Value) (h0 : Heap) (O0 : own_Old Z h0) (g0_E : Exa Z h0 a "java/lang/String") (g1_F : Fld Z h0 a "java/lang/String" "coder" "B" v0) (g2_F : Fld Z h0 a "java/lang/String" "value" "[B" .null) (g3_G : Z.heap.size ≤ a) :
    own_ConW l Z consts_1 (⟨"java/lang/String", "<init>", "([CIILjava/lang/Void;)V"⟩ : MethodName) jdk_42_method_149_code 6 none [] ({ frames := 1, cells := 2, slots := 4, locals := 12 } : Room) #[(.ref a), (.ref u), (.int 0), (.int 0), .null] h0 (fun rv rh rL => ∃ (t : Addr) (kt : ClassId), rv = none ∧ own_Fr Z rL ∧ Keep h0 rh [a] ∧ (Exa Z rh a "java/lang/String") ∧ (Fld Z rh a "java/lang/String" "coder" "B" (.int 0)) ∧ (Fld Z rh a "java/lang/String" "value" "[B" (.ref t)) ∧ (Arv Z rh t kt .byte (0 : Int32) [] (.int 0))) := by
  refine own_introW hEL (plainFor_of_name (by first | (simp [plainName, overriddenIn]; done) | decide +kernel)) ?_
  intro p e s m below meth c s₁ G hx hby hml hown hnm hret hZ X0 e0 H0 SI0 hG hR
  have N0 := Fr.nil Z.heap.size
  refine own_entry (Ls := #[.val (.ref a), .val (.ref u), .val (.int 0), .val (.int 0), .val .null, .unset]) (by first | (simp [entryFrame, mkF, argsToLocals, Value.category]; done) | rfl) ?_
  show G (s₁.setTop (mkF m 0 #[.val (.ref a), .val (.ref u), .val (.int 0), .val (.int 0), .val .null, .unset] []))
  refine hG _ _ (fun t_ k_ => XS.aloadN X0.here hx rfl (hb hby d3_0) rfl rfl k_) ?_
  show G (s₁.setTop (mkF m 1 #[.val (.ref a), .val (.ref u), .val (.int 0), .val (.int 0), .val .null, .unset] [(.ref a)]))
  obtain ⟨T1, X1, e1, st1⟩ := initO X0 hx hZ hown (ow hw 16 rfl) (ow hw 17 rfl) (ow hw 18 rfl) e0 (g := (mkF m 1 #[.val (.ref a), .val (.ref u), .val (.int 0), .val (.int 0), .val .null, .unset] [(.ref a)])) rfl (by rw [hml]; rfl) rfl (hb hby d3_1) (by decide) (W := 0) (by show 2 * 0 + _ ≤ _; exact Nat.le_of_eq rfl) (by decide)
  refine hG _ _ st1 ?_
  show G (T1.setTop (mkF m 4 #[.val (.ref a), .val (.ref u), .val (.int 0), .val (.int 0), .val .null, .unset] []))
  refine hG _ _ (fun t_ k_ => XS.iloadN X1.here hx rfl (hb hby d3_4) rfl k_) ?_
  show G (T1.setTop (mkF m 5 #[.val (.ref a), .val (.ref u), .val (.int 0), .val (.int 0), .val .null, .unset] [(.int 0)]))
  refine hG _ _ (fun t_ k_ => XS.ifNo X1.here hx rfl (hb hby d3_5) rfl ((if0 _ _).trans (teq (rfl : (0 : Int32) = (0 : Int32))).2) k_) ?_
  show G (T1.setTop (mkF m 8 #[.val (.ref a), .val (.ref u), .val (.int 0), .val (.int 0), .val .null, .unset] []))
  refine hG _ _ (fun t_ k_ => XS.aloadN X1.here hx rfl (hb hby d3_8) rfl rfl k_) ?_
  show G (T1.setTop (mkF m 9 #[.val (.ref a), .val (.ref u), .val (.int 0), .val (.int 0), .val .null, .unset] [(.ref a)]))
  obtain ⟨a2, T2, h2, k2, b2, kc2, X2, e2, E2, SI2, hk2, hZ2, hown2, Ea2, Fc2, Fv2, V2, la2, lb2, Y2, Li2, Nq2, st2⟩ := ldcCH X1 hx hZ hown (ow hw 19 rfl) (own_wS hw) e1 SI0 (Nat.le_refl _) hEL (List.mem_of_getElem? (i := 0) rfl) H0 (vs := []) (z := (0 : Int32)) ⟨by decide, by decide⟩ (by decide) rfl (g := (mkF m 9 #[.val (.ref a), .val (.ref u), .val (.int 0), .val (.int 0), .val .null, .unset] [(.ref a)])) rfl (hb hby d3_9) (n := 0) (by decide) (by decide) (by decide) (by decide)
  refine hG _ _ st2 ?_
  have R2 := Y2
  have C2 := (CHr.refl H0).trans R2
  have K2 : Keep h0 h2 [a] := (Keep.refl h0 [a]).ext E2
  have O2 : own_Old Z h2 := O0.ext E2
  show G (T2.setTop (mkF m 11 #[.val (.ref a), .val (.ref u), .val (.int 0), .val (.int 0), .val .null, .unset] [(.ref a2), (.ref a)]))
  obtain ⟨T3, X3, e3, st3⟩ := getF X2 hx hZ2 hown2 (host := "") (Or.inl (ow hw 25 rfl)) Via.refl e2 Fv2 (g := (mkF m 11 #[.val (.ref a), .val (.ref u), .val (.int 0), .val (.int 0), .val .null, .unset] [(.ref a2), (.ref a)])) rfl rfl (hb hby d3_11)
  refine hG _ _ st3 ?_
  show G (T3.setTop (mkF m 14 #[.val (.ref a), .val (.ref u), .val (.int 0), .val (.int 0), .val .null, .unset] [(.ref b2), (.ref a)]))
  have f5 := (g2_F.ext E2)
  have f6 := (g0_E.ext E2)
  obtain ⟨T4, h4, X4, e4, W4, st4⟩ := putF X3 hx hZ2 hown2 (host := "") (Or.inl (ow hw 25 rfl)) Via.refl e3 f5 f6 (Or.inr ⟨(ow hw 21 rfl), rfl, hnm⟩) (ow hw 7 rfl) (ty := (.array .byte)) (by decide) rfl rfl (g := (mkF m 14 #[.val (.ref a), .val (.ref u), .val (.int 0), .val (.int 0), .val .null, .unset] [(.ref b2), (.ref a)])) rfl rfl (hb hby d3_14)
  refine hG _ _ st4 ?_
  have sf7 : Safe Z consts_1 _ h2 a := (own_safeStr hZ2.alike f6 f5)
  have R4 := (CHr.wr W4 sf7 R2.1)
  have C4 := C2.trans R4
  have K4 : Keep h0 h4 [a] := K2.wr W4 (Or.inl (List.mem_of_getElem? (i := 0) rfl))
  have O4 : own_Old Z h4 := O2.wr W4 g3_G
  have N4 := Fr.snoc X4 N0 g3_G
  show G (T4.setTop (mkF m 17 #[.val (.ref a), .val (.ref u), .val (.int 0), .val (.int 0), .val .null, .unset] []))
  refine hG _ _ (fun t_ k_ => XS.aloadN X4.here hx rfl (hb hby d3_17) rfl rfl k_) ?_
  show G (T4.setTop (mkF m 18 #[.val (.ref a), .val (.ref u), .val (.int 0), .val (.int 0), .val .null, .unset] [(.ref a)]))
  refine hG _ _ (ldcAgain X4 hx hZ2 hown2 (ow hw 19 rfl) Li2 (g := (mkF m 18 #[.val (.ref a), .val (.ref u), .val (.int 0), .val (.int 0), .val .null, .unset] [(.ref a)])) rfl (hb hby d3_18)) ?_
  show G (T4.setTop (mkF m 20 #[.val (.ref a), .val (.ref u), .val (.int 0), .val (.int 0), .val .null, .unset] [(.ref a2), (.ref a)]))
  have f9 := (Fc2.other W4 (Or.inl (Ne.symm (Nq2 a sf7).1)))
  obtain ⟨T8, X8, e8, st8⟩ := getF X4 hx hZ2 hown2 (host := "") (Or.inl (ow hw 26 rfl)) Via.refl e4 f9 (g := (mkF m 20 #[.val (.ref a), .val (.ref u), .val (.int 0), .val (.int 0), .val .null, .unset] [(.ref a2), (.ref a)])) rfl rfl (hb hby d3_20)
  refine hG _ _ st8 ?_
  show G (T8.setTop (mkF m 23 #[.val (.ref a), .val (.ref u), .val (.int 0), .val (.int 0), .val .null, .unset] [(.int 0), (.ref a)]))
  have f11 := ((g1_F.ext E2).other W4 (Or.inr (slot_ne (Or.inr (ow hw 22 rfl)) (Or.inr (ow hw 21 rfl)) (by decide) (t := .byte) (t' := (.array .byte)) (by decide) (by decide))))
  have f12 := (f6.wr W4)
  obtain ⟨T10, h10, X10, e10, W10, st10⟩ := putFN X8 hx hZ2 hown2 (ow hw 26 rfl) Via.refl e8 f11 f12 (Or.inr ⟨(ow hw 22 rfl), rfl, hnm⟩) (ow hw 7 rfl) (ty := .byte) (v' := (.int 0)) (by decide) rfl rfl (g := (mkF m 23 #[.val (.ref a), .val (.ref u), .val (.int 0), .val (.int 0), .val .null, .unset] [(.int 0), (.ref a)])) rfl rfl (hb hby d3_23)
  refine hG _ _ st10 ?_
  have sf13 := (R4.safe f5.lt sf7)
  have R10 := (CHr.wr W10 sf13 R4.1)
  have C10 := C4.trans R10
  have K10 : Keep h0 h10 [a] := K4.wr W10 (Or.inl (List.mem_of_getElem? (i := 0) rfl))
  have O10 : own_Old Z h10 := O4.wr W10 g3_G
  have N10 := Fr.snoc X10 N4 g3_G
  show G (T10.setTop (mkF m 26 #[.val (.ref a), .val (.ref u), .val (.int 0), .val (.int 0), .val .null, .unset] []))
  have f14 := (f12.wr W10)
  have f15 := ((f5.same W4).other W10 (Or.inr (slot_ne (Or.inr (ow hw 21 rfl)) (Or.inr (ow hw 22 rfl)) (by decide) (t := (.array .byte)) (t' := .byte) (by decide) (by decide))))
  have f16 := ((V2.other W4 (Ne.symm (Nq2 a sf7).2)).other W10 (Ne.symm (Nq2 a sf7).2))
  exact own_retVW hR hret X10 hx (hb hby d3_26) e10 SI2 (Nat.le_trans (Nat.le_trans hk2 R4.2.1) R10.2.1) hZ2 C10 (by decide) (by decide) ⟨b2, kc2, rfl, N10, K10, f14, (f11.same W10), f15, f16⟩
set_option maxRecDepth 65536 in
set_option maxHeartbeats 40000000 in
theorem own_str1E (l : Launch) (Z : State) (a0 : Array Value) (hw : ∀ d ∈ tables_1, d.before a0 Z = true) (hEL : EW Z a0 consts_1) (a : Addr) (u : Addr) (v0 : Value) (ku : ClassId) (h0 : Heap) (O0 : own_Old Z h0) (g0_E : Exa Z h0 a "java/lang/String") (g1_F : Fld Z h0 a "java/lang/String" "coder" "B" v0) (g2_F : Fld Z h0 a "java/lang/String" "value" "[B" .null) (g3_G : Z.heap.size ≤ a) (g4_V : Arv Z h0 u ku .char (0 : Int32) [] (.int 0)) :
    own_ConW l Z consts_1 (⟨"java/lang/String", "<init>", "([C)V"⟩ : MethodName) jdk_42_method_3_code 2 none [] ({ frames := 2, cells := 2, slots := 4, locals := 29 } : Room) #[(.ref a), (.ref u)] h0 (fun rv rh rL => ∃ (t : Addr) (kt : ClassId), rv = none ∧ own_Fr Z rL ∧ Keep h0 rh [a] ∧ (Exa Z rh a "java/lang/String") ∧ (Fld Z rh a "java/lang/String" "coder" "B" (.int 0)) ∧ (Fld Z rh a "java/lang/String" "value" "[B" (.ref t)) ∧ (Arv Z rh t kt .byte (0 : Int32) [] (.int 0))) := by
  refine own_introW hEL (plainFor_of_name (by first | (simp [plainName, overriddenIn]; done) | decide +kernel)) ?_
  intro p e s m below meth c s₁ G hx hby hml hown hnm hret hZ X0 e0 H0 SI0 hG hR
  have N0 := Fr.nil Z.heap.size
  refine own_entry (Ls := #[.val (.ref a), .val (.ref u)]) (by first | (simp [entryFrame, mkF, argsToLocals, Value.category]; done) | rfl) ?_
  show G (s₁.setTop (mkF m 0 #[.val (.ref a), .val (.ref u)] []))
  refine hG _ _ (fun t_ k_ => XS.aloadN X0.here hx rfl (hb hby d2_0) rfl rfl k_) ?_
  refine hG _ _ (fun t_ k_ => XS.aloadN X0.here hx rfl (hb hby d2_1) rfl rfl k_) ?_
  refine hG _ _ (fun t_ k_ => XS.iconst X0.here hx rfl (hb hby d2_2) k_) ?_
  refine hG _ _ (fun t_ k_ => XS.aloadN X0.here hx rfl (hb hby d2_3) rfl rfl k_) ?_
  show G (s₁.setTop (mkF m 4 #[.val (.ref a), .val (.ref u)] [(.ref u), (.int 0), (.ref u), (.ref a)]))
  obtain ⟨c1, Ar1, -, S1, M1, -, -⟩ := id g4_V
  refine hG _ _ (X0.arraylength hx (by rw [e0]; exact Ar1.1) (State.isArrayOf_alike hZ.alike Ar1.2.1) (g := (mkF m 4 #[.val (.ref a), .val (.ref u)] [(.ref u), (.int 0), (.ref u), (.ref a)])) rfl rfl (hb hby d2_4)) ?_
  rw [len_of S1 M1]
  show G (s₁.setTop (mkF m 5 #[.val (.ref a), .val (.ref u)] [(.int 0), (.int 0), (.ref u), (.ref a)]))
  refine hG _ _ (fun t_ k_ => XS.aconstNull X0.here hx rfl (hb hby d2_5) k_) ?_
  show G (s₁.setTop (mkF m 6 #[.val (.ref a), .val (.ref u)] [.null, (.int 0), (.int 0), (.ref u), (.ref a)]))
  refine own_callIW X0 hx hZ hG hown rfl (ow hw 12 rfl) (ow hw 13 rfl) (ow hw 8 rfl) (ow hw 15 rfl) (by decide) 0 (own_str4E l Z a0 hw hEL a u v0 h0 O0 g0_E g1_F g2_F g3_G) (by decide) (by decide) e0 SI0 (Nat.le_refl _) hEL H0 (by rw [hml]; rfl) (lenOf own_pd7 rfl) (argsL := [(.ref u), (.int 0), (.int 0), .null]) (rest := []) rfl rfl (Nat.le_of_eq rfl) (hb hby d2_6) (by decide) (by decide) ?_
  intro T2 h2 v2 L2 X2 e2 SI2 hZ2 hown2 Y2 q2
  obtain ⟨t_2, kt_2, rfl, M2, J2, r2_0, r2_1, r2_2, r2_3⟩ := q2
  have N2 := Fr.app N0 M2
  have R2 := Y2
  have C2 := (CHr.refl H0).trans R2
  have K2 : Keep h0 h2 [a] := (Keep.refl h0 [a]).trans J2 (allS (Or.inl (List.mem_of_getElem? (i := 0) rfl)) all0)
  have O2 : own_Old Z h2 := O0.keep J2 (allS g3_G all0)
  show G (T2.setTop (mkF m 9 #[.val (.ref a), .val (.ref u)] []))
  exact own_retVW hR hret X2 hx (hb hby d2_9) e2 SI2 (Nat.le_refl _) hZ2 C2 (by decide) (by decide) ⟨t_2, kt_2, rfl, N2, K2, r2_0, r2_1, r2_2, r2_3⟩
theorem own_pd9 : parseMethodDescriptor "()Z" = some ⟨[], some .boolean⟩ := by decide +kernel
set_option maxRecDepth 65536 in
set_option maxHeartbeats 40000000 in
theorem own_isl0 (l : Launch) (Z : State) (a0 : Array Value) (hw : ∀ d ∈ tables_1, d.before a0 Z = true) (a : Addr) (cpt : Int32) (h0 : Heap) (O0 : own_Old Z h0) (g0_F : Fld Z h0 a "java/lang/String" "coder" "B" (.int 0)) (g1_S : Sta Z Z.heap "java/lang/String" "COMPACT_STRINGS" "Z" (.int cpt)) (g2_hcpt : ¬ (cpt = (0 : Int32))) :
    own_Con l Z (⟨"java/lang/String", "isLatin1", "()Z"⟩ : MethodName) jdk_42_method_154_code 1 (some .boolean) [] ({ frames := 0, cells := 0, slots := 0, locals := 0 } : Room) #[(.ref a)] h0 (fun rv rh rL => rv = some (.int 1) ∧ own_Fr Z rL ∧ h0 = rh) := by
  refine own_intro (plainFor_of_name (by first | (simp [plainName, overriddenIn]; done) | decide +kernel)) ?_
  intro p e s m below meth c s₁ G hx hby hml hown hnm hret hZ X0 e0 hG hR
  have N0 := Fr.nil Z.heap.size
  refine own_entry (Ls := #[.val (.ref a)]) (by first | (simp [entryFrame, mkF, argsToLocals, Value.category]; done) | rfl) ?_
  show G (s₁.setTop (mkF m 0 #[.val (.ref a)] []))
  obtain ⟨T1, X1, e1, st1⟩ := getS2 X0 hx hZ hown (host := "") (Or.inl (ow hw 41 rfl)) Via.refl e0 (own_sta g1_S O0) (g := (mkF m 0 #[.val (.ref a)] [])) rfl (hb hby d17_0)
  refine hG _ _ st1 ?_
  show G (T1.setTop (mkF m 3 #[.val (.ref a)] [(.int cpt)]))
  refine hG _ _ (fun t_ k_ => XS.ifNo X1.here hx rfl (hb hby d17_3) rfl ((if0 _ _).trans (feq g2_hcpt).1) k_) ?_
  show G (T1.setTop (mkF m 6 #[.val (.ref a)] []))
  refine hG _ _ (fun t_ k_ => XS.aloadN X1.here hx rfl (hb hby d17_6) rfl rfl k_) ?_
  show G (T1.setTop (mkF m 7 #[.val (.ref a)] [(.ref a)]))
  obtain ⟨T2, X2, e2, st2⟩ := getF X1 hx hZ hown (host := "") (Or.inl (ow hw 26 rfl)) Via.refl e1 g0_F (g := (mkF m 7 #[.val (.ref a)] [(.ref a)])) rfl rfl (hb hby d17_7)
  refine hG _ _ st2 ?_
  show G (T2.setTop (mkF m 10 #[.val (.ref a)] [(.int 0)]))
  refine hG _ _ (fun t_ k_ => XS.ifNo X2.here hx rfl (hb hby d17_10) rfl ((if0 _ _).trans (teq (by decide)).2) k_) ?_
  show G (T2.setTop (mkF m 13 #[.val (.ref a)] []))
  refine hG _ _ (fun t_ k_ => XS.iconst X2.here hx rfl (hb hby d17_13) k_) ?_
  refine hG _ _ (fun t_ k_ => XS.goto X2.here hx rfl (pc0 := 14) (pc' := 18) rfl (hb hby d17_14) (by decide) (by decide) k_) ?_
  show G (T2.setTop (mkF m 18 #[.val (.ref a)] [(.int 1)]))
  exact own_retN hR hret (by simp) X2 hx (hb hby d17_18) (by decide) (by decide) (by rw [e2]; exact ⟨rfl, N0, rfl⟩)
set_option maxRecDepth 65536 in
set_option maxHeartbeats 40000000 in
theorem own_isl1 (l : Launch) (Z : State) (a0 : Array Value) (hw : ∀ d ∈ tables_1, d.before a0 Z = true) (a : Addr) (cpt : Int32) (h0 : Heap) (O0 : own_Old Z h0) (g0_F : Fld Z h0 a "java/lang/String" "coder" "B" (.int 1)) (g1_S : Sta Z Z.heap "java/lang/String" "COMPACT_STRINGS" "Z" (.int cpt)) (g2_hcpt : ¬ (cpt = (0 : Int32))) :
    own_Con l Z (⟨"java/lang/String", "isLatin1", "()Z"⟩ : MethodName) jdk_42_method_154_code 1 (some .boolean) [] ({ frames := 0, cells := 0, slots := 0, locals := 0 } : Room) #[(.ref a)] h0 (fun rv rh rL => rv = some (.int 0) ∧ own_Fr Z rL ∧ h0 = rh) := by
  refine own_intro (plainFor_of_name (by first | (simp [plainName, overriddenIn]; done) | decide +kernel)) ?_
  intro p e s m below meth c s₁ G hx hby hml hown hnm hret hZ X0 e0 hG hR
  have N0 := Fr.nil Z.heap.size
  refine own_entry (Ls := #[.val (.ref a)]) (by first | (simp [entryFrame, mkF, argsToLocals, Value.category]; done) | rfl) ?_
  show G (s₁.setTop (mkF m 0 #[.val (.ref a)] []))
  obtain ⟨T1, X1, e1, st1⟩ := getS2 X0 hx hZ hown (host := "") (Or.inl (ow hw 41 rfl)) Via.refl e0 (own_sta g1_S O0) (g := (mkF m 0 #[.val (.ref a)] [])) rfl (hb hby d17_0)
  refine hG _ _ st1 ?_
  show G (T1.setTop (mkF m 3 #[.val (.ref a)] [(.int cpt)]))
  refine hG _ _ (fun t_ k_ => XS.ifNo X1.here hx rfl (hb hby d17_3) rfl ((if0 _ _).trans (feq g2_hcpt).1) k_) ?_
  show G (T1.setTop (mkF m 6 #[.val (.ref a)] []))
  refine hG _ _ (fun t_ k_ => XS.aloadN X1.here hx rfl (hb hby d17_6) rfl rfl k_) ?_
  show G (T1.setTop (mkF m 7 #[.val (.ref a)] [(.ref a)]))
  obtain ⟨T2, X2, e2, st2⟩ := getF X1 hx hZ hown (host := "") (Or.inl (ow hw 26 rfl)) Via.refl e1 g0_F (g := (mkF m 7 #[.val (.ref a)] [(.ref a)])) rfl rfl (hb hby d17_7)
  refine hG _ _ st2 ?_
  show G (T2.setTop (mkF m 10 #[.val (.ref a)] [(.int 1)]))
  refine hG _ _ (fun t_ k_ => XS.ifYes X2.here hx rfl (pc0 := 10) (pc' := 17) rfl (hb hby d17_10) rfl ((if0 _ _).trans (feq (by decide)).2) (by decide) (by decide) k_) ?_
  show G (T2.setTop (mkF m 17 #[.val (.ref a)] []))
  refine hG _ _ (fun t_ k_ => XS.iconst X2.here hx rfl (hb hby d17_17) k_) ?_
  show G (T2.setTop (mkF m 18 #[.val (.ref a)] [(.int 0)]))
  exact own_retN hR hret (by simp) X2 hx (hb hby d17_18) (by decide) (by decide) (by rw [e2]; exact ⟨rfl, N0, rfl⟩)
theorem own_pd10 : parseMethodDescriptor "()B" = some ⟨[], some .byte⟩ := by decide +kernel
set_option maxRecDepth 65536 in
set_option maxHeartbeats 40000000 in
theorem own_cod0 (l : Launch) (Z : State) (a0 : Array Value) (hw : ∀ d ∈ tables_1, d.before a0 Z = true) (a : Addr) (cpt : Int32) (h0 : Heap) (O0 : own_Old Z h0) (g0_F : Fld Z h0 a "java/lang/String" "coder" "B" (.int 0)) (g1_S : Sta Z Z.heap "java/lang/String" "COMPACT_STRINGS" "Z" (.int cpt)) (g2_hcpt : ¬ (cpt = (0 : Int32))) :
    own_Con l Z (⟨"java/lang/String", "coder", "()B"⟩ : MethodName) jdk_42_method_152_code 1 (some .byte) [] ({ frames := 0, cells := 0, slots := 0, locals := 0 } : Room) #[(.ref a)] h0 (fun rv rh rL => rv = some (.int 0) ∧ own_Fr Z rL ∧ h0 = rh) := by
  refine own_intro (plainFor_of_name (by first | (simp [plainName, overriddenIn]; done) | decide +kernel)) ?_
  intro p e s m below meth c s₁ G hx hby hml hown hnm hret hZ X0 e0 hG hR
  have N0 := Fr.nil Z.heap.size
  refine own_entry (Ls := #[.val (.ref a)]) (by first | (simp [entryFrame, mkF, argsToLocals, Value.category]; done) | rfl) ?_
  show G (s₁.setTop (mkF m 0 #[.val (.ref a)] []))
  obtain ⟨T1, X1, e1, st1⟩ := getS2 X0 hx hZ hown (host := "") (Or.inl (ow hw 41 rfl)) Via.refl e0 (own_sta g1_S O0) (g := (mkF m 0 #[.val (.ref a)] [])) rfl (hb hby d7_0)
  refine hG _ _ st1 ?_
  show G (T1.setTop (mkF m 3 #[.val (.ref a)] [(.int cpt)]))
  refine hG _ _ (fun t_ k_ => XS.ifNo X1.here hx rfl (hb hby d7_3) rfl ((if0 _ _).trans (feq g2_hcpt).1) k_) ?_
  show G (T1.setTop (mkF m 6 #[.val (.ref a)] []))
  refine hG _ _ (fun t_ k_ => XS.aloadN X1.here hx rfl (hb hby d7_6) rfl rfl k_) ?_
  show G (T1.setTop (mkF m 7 #[.val (.ref a)] [(.ref a)]))
  obtain ⟨T2, X2, e2, st2⟩ := getF X1 hx hZ hown (host := "") (Or.inl (ow hw 26 rfl)) Via.refl e1 g0_F (g := (mkF m 7 #[.val (.ref a)] [(.ref a)])) rfl rfl (hb hby d7_7)
  refine hG _ _ st2 ?_
  show G (T2.setTop (mkF m 10 #[.val (.ref a)] [(.int 0)]))
  refine hG _ _ (fun t_ k_ => XS.goto X2.here hx rfl (pc0 := 10) (pc' := 14) rfl (hb hby d7_10) (by decide) (by decide) k_) ?_
  show G (T2.setTop (mkF m 14 #[.val (.ref a)] [(.int 0)]))
  exact own_retN hR hret (by simp) X2 hx (hb hby d7_14) (by decide) (by decide) (by rw [e2]; exact ⟨rfl, N0, rfl⟩)
set_option maxRecDepth 65536 in
set_option maxHeartbeats 40000000 in
theorem own_cod1 (l : Launch) (Z : State) (a0 : Array Value) (hw : ∀ d ∈ tables_1, d.before a0 Z = true) (a : Addr) (cpt : Int32) (h0 : Heap) (O0 : own_Old Z h0) (g0_F : Fld Z h0 a "java/lang/String" "coder" "B" (.int 1)) (g1_S : Sta Z Z.heap "java/lang/String" "COMPACT_STRINGS" "Z" (.int cpt)) (g2_hcpt : ¬ (cpt = (0 : Int32))) :
    own_Con l Z (⟨"java/lang/String", "coder", "()B"⟩ : MethodName) jdk_42_method_152_code 1 (some .byte) [] ({ frames := 0, cells := 0, slots := 0, locals := 0 } : Room) #[(.ref a)] h0 (fun rv rh rL => rv = some (.int 1) ∧ own_Fr Z rL ∧ h0 = rh) := by
  refine own_intro (plainFor_of_name (by first | (simp [plainName, overriddenIn]; done) | decide +kernel)) ?_
  intro p e s m below meth c s₁ G hx hby hml hown hnm hret hZ X0 e0 hG hR
  have N0 := Fr.nil Z.heap.size
  refine own_entry (Ls := #[.val (.ref a)]) (by first | (simp [entryFrame, mkF, argsToLocals, Value.category]; done) | rfl) ?_
  show G (s₁.setTop (mkF m 0 #[.val (.ref a)] []))
  obtain ⟨T1, X1, e1, st1⟩ := getS2 X0 hx hZ hown (host := "") (Or.inl (ow hw 41 rfl)) Via.refl e0 (own_sta g1_S O0) (g := (mkF m 0 #[.val (.ref a)] [])) rfl (hb hby d7_0)
  refine hG _ _ st1 ?_
  show G (T1.setTop (mkF m 3 #[.val (.ref a)] [(.int cpt)]))
  refine hG _ _ (fun t_ k_ => XS.ifNo X1.here hx rfl (hb hby d7_3) rfl ((if0 _ _).trans (feq g2_hcpt).1) k_) ?_
  show G (T1.setTop (mkF m 6 #[.val (.ref a)] []))
  refine hG _ _ (fun t_ k_ => XS.aloadN X1.here hx rfl (hb hby d7_6) rfl rfl k_) ?_
  show G (T1.setTop (mkF m 7 #[.val (.ref a)] [(.ref a)]))
  obtain ⟨T2, X2, e2, st2⟩ := getF X1 hx hZ hown (host := "") (Or.inl (ow hw 26 rfl)) Via.refl e1 g0_F (g := (mkF m 7 #[.val (.ref a)] [(.ref a)])) rfl rfl (hb hby d7_7)
  refine hG _ _ st2 ?_
  show G (T2.setTop (mkF m 10 #[.val (.ref a)] [(.int 1)]))
  refine hG _ _ (fun t_ k_ => XS.goto X2.here hx rfl (pc0 := 10) (pc' := 14) rfl (hb hby d7_10) (by decide) (by decide) k_) ?_
  show G (T2.setTop (mkF m 14 #[.val (.ref a)] [(.int 1)]))
  exact own_retN hR hret (by simp) X2 hx (hb hby d7_14) (by decide) (by decide) (by rw [e2]; exact ⟨rfl, N0, rfl⟩)
theorem own_pd11 : parseMethodDescriptor "()I" = some ⟨[], some .int⟩ := by decide +kernel
set_option maxRecDepth 65536 in
set_option maxHeartbeats 40000000 in
theorem own_len (l : Launch) (Z : State) (a0 : Array Value) (hw : ∀ d ∈ tables_1, d.before a0 Z = true) (a : Addr) (t : Addr) (kt : ClassId) (cs : List Int32) (cd : Int32) (nb : Int32) (vs : List Value) (cpt : Int32) (h0 : Heap) (O0 : own_Old Z h0) (g0_E : Exa Z h0 a "java/lang/String") (g1_F : Fld Z h0 a "java/lang/String" "coder" "B" (.int cd)) (g2_F : Fld Z h0 a "java/lang/String" "value" "[B" (.ref t)) (g3_V : Arv Z h0 t kt .byte nb vs (.int 0)) (g4_henc : own_enc cs cd nb vs) (g5_hcap : cs.length ≤ 4) (g6_h16 : ∀ c ∈ cs, 0 ≤ c.toInt ∧ c.toInt ≤ 65535) (g7_S : Sta Z Z.heap "java/lang/String" "COMPACT_STRINGS" "Z" (.int cpt)) (g8_hcpt : ¬ (cpt = (0 : Int32))) :
    own_Con l Z (⟨"java/lang/String", "length", "()I"⟩ : MethodName) jdk_42_method_54_code 1 (some .int) [] ({ frames := 1, cells := 0, slots := 0, locals := 13 } : Room) #[(.ref a)] h0 (fun rv rh rL => rv = some (.int (Int32.ofNat cs.length)) ∧ own_Fr Z rL ∧ h0 = rh) := by
  refine own_intro (plainFor_of_name (by first | (simp [plainName, overriddenIn]; done) | decide +kernel)) ?_
  intro p e s m below meth c s₁ G hx hby hml hown hnm hret hZ X0 e0 hG hR
  have N0 := Fr.nil Z.heap.size
  refine own_entry (Ls := #[.val (.ref a)]) (by first | (simp [entryFrame, mkF, argsToLocals, Value.category]; done) | rfl) ?_
  show G (s₁.setTop (mkF m 0 #[.val (.ref a)] []))
  rcases id g4_henc with ⟨hall, rfl, rfl, rfl⟩ | ⟨hbig, rfl, rfl, h16⟩
  · skip
    show G (s₁.setTop (mkF m 0 #[.val (.ref a)] []))
    refine hG _ _ (fun t_ k_ => XS.aloadN X0.here hx rfl (hb hby d6_0) rfl rfl k_) ?_
    show G (s₁.setTop (mkF m 1 #[.val (.ref a)] [(.ref a)]))
    obtain ⟨T1, X1, e1, st1⟩ := getF X0 hx hZ hown (host := "") (Or.inl (ow hw 25 rfl)) Via.refl e0 g2_F (g := (mkF m 1 #[.val (.ref a)] [(.ref a)])) rfl rfl (hb hby d6_1)
    refine hG _ _ st1 ?_
    show G (T1.setTop (mkF m 4 #[.val (.ref a)] [(.ref t)]))
    obtain ⟨c2, Ar2, -, S2, M2, -, -⟩ := id g3_V
    refine hG _ _ (X1.arraylength hx (by rw [e1]; exact Ar2.1) (State.isArrayOf_alike hZ.alike Ar2.2.1) (g := (mkF m 4 #[.val (.ref a)] [(.ref t)])) rfl rfl (hb hby d6_4)) ?_
    rw [len_of S2 M2]
    show G (T1.setTop (mkF m 5 #[.val (.ref a)] [(.int (Int32.ofNat cs.length))]))
    refine hG _ _ (fun t_ k_ => XS.aloadN X1.here hx rfl (hb hby d6_5) rfl rfl k_) ?_
    show G (T1.setTop (mkF m 6 #[.val (.ref a)] [(.ref a), (.int (Int32.ofNat cs.length))]))
    refine own_callV (C := "java/lang/String") X1 hx hZ hG hown (ow hw 36 rfl) (ow hw 37 rfl) (ow hw 39 rfl) (ow hw 38 rfl) (ow hw 8 rfl) (ow hw 40 rfl) (by decide) 1 (own_cod0 l Z a0 hw a cpt h0 O0 g1_F g7_S g8_hcpt) (by decide) (by decide) e1 g0_E (by rw [hml]; rfl) (lenOf own_pd10 rfl) (argsL := []) (rest := [(.int (Int32.ofNat cs.length))]) rfl rfl (Nat.le_of_eq rfl) (hb hby d6_6) (by decide) (by decide) ?_
    intro T3 h3 v3 L3 X3 e3 q3
    obtain ⟨rfl, M3, rfl⟩ := q3
    have N3 := Fr.app N0 M3
    show G (T3.setTop (mkF m 9 #[.val (.ref a)] [(.int 0), (.int (Int32.ofNat cs.length))]))
    refine hG _ _ (fun t_ k_ => XS.ishr X3.here hx rfl (hb hby d6_9) rfl k_) ?_
    show G (T3.setTop (mkF m 10 #[.val (.ref a)] [(.int ((Int32.ofNat cs.length) >>> ((0 : Int32) &&& 31)))]))
    exact own_retI hR hret X3 hx (hb hby d6_10) (by decide) (by decide) (by rw [e3]; exact ⟨(by rw [own_shr0]), N3, rfl⟩)
  · skip
    show G (s₁.setTop (mkF m 0 #[.val (.ref a)] []))
    refine hG _ _ (fun t_ k_ => XS.aloadN X0.here hx rfl (hb hby d6_0) rfl rfl k_) ?_
    show G (s₁.setTop (mkF m 1 #[.val (.ref a)] [(.ref a)]))
    obtain ⟨T4, X4, e4, st4⟩ := getF X0 hx hZ hown (host := "") (Or.inl (ow hw 25 rfl)) Via.refl e0 g2_F (g := (mkF m 1 #[.val (.ref a)] [(.ref a)])) rfl rfl (hb hby d6_1)
    refine hG _ _ st4 ?_
    show G (T4.setTop (mkF m 4 #[.val (.ref a)] [(.ref t)]))
    obtain ⟨c5, Ar5, -, S5, M5, -, -⟩ := id g3_V
    refine hG _ _ (X4.arraylength hx (by rw [e4]; exact Ar5.1) (State.isArrayOf_alike hZ.alike Ar5.2.1) (g := (mkF m 4 #[.val (.ref a)] [(.ref t)])) rfl rfl (hb hby d6_4)) ?_
    rw [len_of S5 M5]
    show G (T4.setTop (mkF m 5 #[.val (.ref a)] [(.int (Int32.ofNat (2 * cs.length)))]))
    refine hG _ _ (fun t_ k_ => XS.aloadN X4.here hx rfl (hb hby d6_5) rfl rfl k_) ?_
    show G (T4.setTop (mkF m 6 #[.val (.ref a)] [(.ref a), (.int (Int32.ofNat (2 * cs.length)))]))
    refine own_callV (C := "java/lang/String") X4 hx hZ hG hown (ow hw 36 rfl) (ow hw 37 rfl) (ow hw 39 rfl) (ow hw 38 rfl) (ow hw 8 rfl) (ow hw 40 rfl) (by decide) 1 (own_cod1 l Z a0 hw a cpt h0 O0 g1_F g7_S g8_hcpt) (by decide) (by decide) e4 g0_E (by rw [hml]; rfl) (lenOf own_pd10 rfl) (argsL := []) (rest := [(.int (Int32.ofNat (2 * cs.length)))]) rfl rfl (Nat.le_of_eq rfl) (hb hby d6_6) (by decide) (by decide) ?_
    intro T6 h6 v6 L6 X6 e6 q6
    obtain ⟨rfl, M6, rfl⟩ := q6
    have N6 := Fr.app N0 M6
    show G (T6.setTop (mkF m 9 #[.val (.ref a)] [(.int 1), (.int (Int32.ofNat (2 * cs.length)))]))
    refine hG _ _ (fun t_ k_ => XS.ishr X6.here hx rfl (hb hby d6_9) rfl k_) ?_
    show G (T6.setTop (mkF m 10 #[.val (.ref a)] [(.int ((Int32.ofNat (2 * cs.length)) >>> ((1 : Int32) &&& 31)))]))
    exact own_retI hR hret X6 hx (hb hby d6_10) (by decide) (by decide) (by rw [e6]; exact ⟨(by rw [own_shr1 (by omega)]), N6, rfl⟩)
theorem own_pd12 : parseMethodDescriptor "(IILjava/util/function/BiFunction;)I" = some ⟨[.int, .int, (.object "java/util/function/BiFunction")], some .int⟩ := by decide +kernel
set_option maxRecDepth 65536 in
set_option maxHeartbeats 40000000 in
theorem own_pci (l : Launch) (Z : State) (a0 : Array Value) (hw : ∀ d ∈ tables_1, d.before a0 Z = true) (x : Int32) (y : Int32) (fm : Value) (h0 : Heap) (O0 : own_Old Z h0) (g0_hfm : fm.isRef = true) (g1_h1 : ¬ (x < (0 : Int32))) (g2_h2 : x < y) :
    own_Con l Z (⟨"jdk/internal/util/Preconditions", "checkIndex", "(IILjava/util/function/BiFunction;)I"⟩ : MethodName) jdk_41_method_11_code 3 (some .int) [] ({ frames := 0, cells := 0, slots := 0, locals := 0 } : Room) #[(.int x), (.int y), fm] h0 (fun rv rh rL => rv = some (.int x) ∧ own_Fr Z rL ∧ h0 = rh) := by
  refine own_intro (plainFor_of_name (by first | (simp [plainName, overriddenIn]; done) | decide +kernel)) ?_
  intro p e s m below meth c s₁ G hx hby hml hown hnm hret hZ X0 e0 hG hR
  have N0 := Fr.nil Z.heap.size
  refine own_entry (Ls := #[.val (.int x), .val (.int y), .val fm]) (by rcases ref_cases g0_hfm with rfl | ⟨_, rfl⟩ <;> first | (simp [entryFrame, mkF, argsToLocals, Value.category]; done) | rfl) ?_
  show G (s₁.setTop (mkF m 0 #[.val (.int x), .val (.int y), .val fm] []))
  refine hG _ _ (fun t_ k_ => XS.iloadN X0.here hx rfl (hb hby d20_0) rfl k_) ?_
  show G (s₁.setTop (mkF m 1 #[.val (.int x), .val (.int y), .val fm] [(.int x)]))
  refine hG _ _ (fun t_ k_ => XS.ifNo X0.here hx rfl (hb hby d20_1) rfl ((if0 _ _).trans (flt g1_h1).1) k_) ?_
  show G (s₁.setTop (mkF m 4 #[.val (.int x), .val (.int y), .val fm] []))
  refine hG _ _ (fun t_ k_ => XS.iloadN X0.here hx rfl (hb hby d20_4) rfl k_) ?_
  refine hG _ _ (fun t_ k_ => XS.iloadN X0.here hx rfl (hb hby d20_5) rfl k_) ?_
  show G (s₁.setTop (mkF m 6 #[.val (.int x), .val (.int y), .val fm] [(.int y), (.int x)]))
  refine hG _ _ (fun t_ k_ => XS.icmpYes X0.here hx rfl (pc0 := 6) (pc' := 16) rfl (hb hby d20_6) rfl (tlt g2_h2).1 (by decide) (by decide) k_) ?_
  show G (s₁.setTop (mkF m 16 #[.val (.int x), .val (.int y), .val fm] []))
  refine hG _ _ (fun t_ k_ => XS.iloadN X0.here hx rfl (hb hby d20_16) rfl k_) ?_
  show G (s₁.setTop (mkF m 17 #[.val (.int x), .val (.int y), .val fm] [(.int x)]))
  exact own_retI hR hret X0 hx (hb hby d20_17) (by decide) (by decide) (by rw [e0]; exact ⟨rfl, N0, rfl⟩)
theorem own_pd13 : parseMethodDescriptor "(II)V" = some ⟨[.int, .int], none⟩ := by decide +kernel
set_option maxRecDepth 65536 in
set_option maxHeartbeats 40000000 in
theorem own_sci (l : Launch) (Z : State) (a0 : Array Value) (hw : ∀ d ∈ tables_1, d.before a0 Z = true) (x : Int32) (y : Int32) (fmt : Value) (h0 : Heap) (O0 : own_Old Z h0) (g0_h1 : ¬ (x < (0 : Int32))) (g1_h2 : x < y) (g2_hfmt : fmt.isRef = true) (g3_S : Sta Z Z.heap "jdk/internal/util/Preconditions" "SIOOBE_FORMATTER" "Ljava/util/function/BiFunction;" fmt) :
    own_Con l Z (⟨"java/lang/String", "checkIndex", "(II)V"⟩ : MethodName) jdk_42_method_155_code 2 none [] ({ frames := 1, cells := 0, slots := 0, locals := 14 } : Room) #[(.int x), (.int y)] h0 (fun rv rh rL => rv = none ∧ own_Fr Z rL ∧ h0 = rh) := by
  refine own_intro (plainFor_of_name (by first | (simp [plainName, overriddenIn]; done) | decide +kernel)) ?_
  intro p e s m below meth c s₁ G hx hby hml hown hnm hret hZ X0 e0 hG hR
  have N0 := Fr.nil Z.heap.size
  refine own_entry (Ls := #[.val (.int x), .val (.int y)]) (by first | (simp [entryFrame, mkF, argsToLocals, Value.category]; done) | rfl) ?_
  show G (s₁.setTop (mkF m 0 #[.val (.int x), .val (.int y)] []))
  refine hG _ _ (fun t_ k_ => XS.iloadN X0.here hx rfl (hb hby d19_0) rfl k_) ?_
  refine hG _ _ (fun t_ k_ => XS.iloadN X0.here hx rfl (hb hby d19_1) rfl k_) ?_
  show G (s₁.setTop (mkF m 2 #[.val (.int x), .val (.int y)] [(.int y), (.int x)]))
  obtain ⟨T1, X1, e1, st1⟩ := getS2 X0 hx hZ hown (host := "") (Or.inl (ow hw 51 rfl)) Via.refl e0 (own_sta g3_S O0) (g := (mkF m 2 #[.val (.int x), .val (.int y)] [(.int y), (.int x)])) rfl (hb hby d19_2)
  refine hG _ _ st1 ?_
  show G (T1.setTop (mkF m 5 #[.val (.int x), .val (.int y)] [fmt, (.int y), (.int x)]))
  refine own_callS X1 hx hZ hG hown (ow hw 90 rfl) (ow hw 91 rfl) (ow hw 52 rfl) (ow hw 92 rfl) (by decide) 0 (own_pci l Z a0 hw x y fmt h0 O0 g2_hfmt g0_h1 g1_h2) (by decide) (by decide) e1 (by rw [hml]; rfl) (lenOf own_pd12 rfl) (argsL := [(.int x), (.int y), fmt]) (rest := []) rfl rfl (Nat.le_of_eq rfl) (hb hby d19_5) (by decide) (by decide) ?_
  intro T2 h2 v2 L2 X2 e2 q2
  obtain ⟨rfl, M2, rfl⟩ := q2
  have N2 := Fr.app N0 M2
  show G (T2.setTop (mkF m 8 #[.val (.int x), .val (.int y)] [(.int x)]))
  refine hG _ _ (fun t_ k_ => XS.pop X2.here hx rfl (hb hby d19_8) rfl rfl k_) ?_
  show G (T2.setTop (mkF m 9 #[.val (.int x), .val (.int y)] []))
  exact own_retV hR hret X2 hx (hb hby d19_9) (by decide) (by decide) (by rw [e2]; exact ⟨rfl, N2, rfl⟩)
set_option maxRecDepth 65536 in
set_option maxHeartbeats 40000000 in
theorem own_lca (l : Launch) (Z : State) (a0 : Array Value) (hw : ∀ d ∈ tables_1, d.before a0 Z = true) (t : Addr) (kt : ClassId) (cs : List Int32) (i : Nat) (fmt : Value) (h0 : Heap) (O0 : own_Old Z h0) (g0_V : Arv Z h0 t kt .byte (Int32.ofNat cs.length) (cs.map fun c => Value.int c.toInt8.toInt32) (.int 0)) (g1_hcap : cs.length ≤ 4) (g2_h8 : ∀ c ∈ cs, 0 ≤ c.toInt ∧ c.toInt ≤ 255) (g3_hi : i < cs.length) (g4_hfmt : fmt.isRef = true) (g5_S : Sta Z Z.heap "jdk/internal/util/Preconditions" "SIOOBE_FORMATTER" "Ljava/util/function/BiFunction;" fmt) :
    own_Con l Z (⟨"java/lang/StringLatin1", "charAt", "([BI)C"⟩ : MethodName) jdk_43_method_2_code 2 (some .char) [] ({ frames := 2, cells := 0, slots := 0, locals := 27 } : Room) #[(.ref t), (.int (Int32.ofNat i))] h0 (fun rv rh rL => rv = some (.int (cs.getD i 0)) ∧ own_Fr Z rL ∧ h0 = rh) := by
  refine own_intro (plainFor_of_name (by first | (simp [plainName, overriddenIn]; done) | decide +kernel)) ?_
  intro p e s m below meth c s₁ G hx hby hml hown hnm hret hZ X0 e0 hG hR
  have N0 := Fr.nil Z.heap.size
  refine own_entry (Ls := #[.val (.ref t), .val (.int (Int32.ofNat i))]) (by first | (simp [entryFrame, mkF, argsToLocals, Value.category]; done) | rfl) ?_
  show G (s₁.setTop (mkF m 0 #[.val (.ref t), .val (.int (Int32.ofNat i))] []))
  refine hG _ _ (fun t_ k_ => XS.iloadN X0.here hx rfl (hb hby d18_0) rfl k_) ?_
  refine hG _ _ (fun t_ k_ => XS.aloadN X0.here hx rfl (hb hby d18_1) rfl rfl k_) ?_
  show G (s₁.setTop (mkF m 2 #[.val (.ref t), .val (.int (Int32.ofNat i))] [(.ref t), (.int (Int32.ofNat i))]))
  obtain ⟨c1, Ar1, -, S1, M1, -, -⟩ := id g0_V
  refine hG _ _ (X0.arraylength hx (by rw [e0]; exact Ar1.1) (State.isArrayOf_alike hZ.alike Ar1.2.1) (g := (mkF m 2 #[.val (.ref t), .val (.int (Int32.ofNat i))] [(.ref t), (.int (Int32.ofNat i))])) rfl rfl (hb hby d18_2)) ?_
  rw [len_of S1 M1]
  show G (s₁.setTop (mkF m 3 #[.val (.ref t), .val (.int (Int32.ofNat i))] [(.int (Int32.ofNat cs.length)), (.int (Int32.ofNat i))]))
  refine own_callS X0 hx hZ hG hown (ow hw 87 rfl) (ow hw 88 rfl) (ow hw 8 rfl) (ow hw 89 rfl) (by decide) 0 (own_sci l Z a0 hw (Int32.ofNat i) (Int32.ofNat cs.length) fmt h0 O0 (own_nn (by omega)) (own_lt g3_hi (by omega)) g4_hfmt g5_S) (by decide) (by decide) e0 (by rw [hml]; rfl) (lenOf own_pd13 rfl) (argsL := [(.int (Int32.ofNat i)), (.int (Int32.ofNat cs.length))]) (rest := []) rfl rfl (Nat.le_of_eq rfl) (hb hby d18_3) (by decide) (by decide) ?_
  intro T2 h2 v2 L2 X2 e2 q2
  obtain ⟨rfl, M2, rfl⟩ := q2
  have N2 := Fr.app N0 M2
  show G (T2.setTop (mkF m 6 #[.val (.ref t), .val (.int (Int32.ofNat i))] []))
  refine hG _ _ (fun t_ k_ => XS.aloadN X2.here hx rfl (hb hby d18_6) rfl rfl k_) ?_
  refine hG _ _ (fun t_ k_ => XS.iloadN X2.here hx rfl (hb hby d18_7) rfl k_) ?_
  show G (T2.setTop (mkF m 8 #[.val (.ref t), .val (.int (Int32.ofNat i))] [(.int (Int32.ofNat i)), (.ref t)]))
  obtain ⟨c3, Ar3, q3, S3, M3, H3, G3⟩ := id g0_V
  have hin3 : ¬ ((Int32.ofNat i) < 0 ∨ c3.slots.size ≤ (Int32.ofNat i).toNatClampNeg) := inb_of S3 ⟨own_nn (by omega), own_lt g3_hi (by omega)⟩
  refine hG _ _ (X2.baloadBytes hx (j := (Int32.ofNat i)) (v := (.int ((cs.getD i 0).toInt8.toInt32))) (by rw [e2]; exact Ar3.1) (State.isArrayOf_alike hZ.alike Ar3.2.1) Ar3.2.2 hin3 (Has.at H3 hin3 (by rw [own_clamp (by omega)]; exact own_getD_map (fun c : Int32 => Value.int c.toInt8.toInt32) cs i _ 0 g3_hi)) (g := (mkF m 8 #[.val (.ref t), .val (.int (Int32.ofNat i))] [(.int (Int32.ofNat i)), (.ref t)])) rfl rfl (hb hby d18_8)) ?_
  show G (T2.setTop (mkF m 9 #[.val (.ref t), .val (.int (Int32.ofNat i))] [(.int ((cs.getD i 0).toInt8.toInt32))]))
  refine hG _ _ (fun t_ k_ => XS.sipush X2.here hx rfl (hb hby d18_9) k_) ?_
  refine hG _ _ (fun t_ k_ => XS.iand X2.here hx rfl (hb hby d18_12) rfl k_) ?_
  refine hG _ _ (fun t_ k_ => XS.i2c X2.here hx rfl (hb hby d18_13) rfl k_) ?_
  show G (T2.setTop (mkF m 14 #[.val (.ref t), .val (.int (Int32.ofNat i))] [(.int ((((cs.getD i 0).toInt8.toInt32) &&& (255 : Int32)).toUInt32.toUInt16.toUInt32.toInt32))]))
  exact own_retN hR hret (by simp) X2 hx (hb hby d18_14) (by decide) (by decide) (by rw [e2]; exact ⟨(by rw [own_byteBack (g2_h8 _ (own_getD_mem cs i 0 g3_hi))]), N2, rfl⟩)
theorem own_pd14 : parseMethodDescriptor "([B)I" = some ⟨[(.array .byte)], some .int⟩ := by decide +kernel
set_option maxRecDepth 65536 in
set_option maxHeartbeats 40000000 in
theorem own_l16 (l : Launch) (Z : State) (a0 : Array Value) (hw : ∀ d ∈ tables_1, d.before a0 Z = true) (t : Addr) (kt : ClassId) (n : Nat) (vs : List Value) (h0 : Heap) (O0 : own_Old Z h0) (g0_V : Arv Z h0 t kt .byte (Int32.ofNat (2 * n)) vs (.int 0)) (g1_hn : n < 1073741824) :
    own_Con l Z (⟨"java/lang/StringUTF16", "length", "([B)I"⟩ : MethodName) jdk_52_method_6_code 1 (some .int) [] ({ frames := 0, cells := 0, slots := 0, locals := 0 } : Room) #[(.ref t)] h0 (fun rv rh rL => rv = some (.int (Int32.ofNat n)) ∧ own_Fr Z rL ∧ h0 = rh) := by
  refine own_intro (plainFor_of_name (by first | (simp [plainName, overriddenIn]; done) | decide +kernel)) ?_
  intro p e s m below meth c s₁ G hx hby hml hown hnm hret hZ X0 e0 hG hR
  have N0 := Fr.nil Z.heap.size
  refine own_entry (Ls := #[.val (.ref t)]) (by first | (simp [entryFrame, mkF, argsToLocals, Value.category]; done) | rfl) ?_
  show G (s₁.setTop (mkF m 0 #[.val (.ref t)] []))
  refine hG _ _ (fun t_ k_ => XS.aloadN X0.here hx rfl (hb hby d35_0) rfl rfl k_) ?_
  show G (s₁.setTop (mkF m 1 #[.val (.ref t)] [(.ref t)]))
  obtain ⟨c1, Ar1, -, S1, M1, -, -⟩ := id g0_V
  refine hG _ _ (X0.arraylength hx (by rw [e0]; exact Ar1.1) (State.isArrayOf_alike hZ.alike Ar1.2.1) (g := (mkF m 1 #[.val (.ref t)] [(.ref t)])) rfl rfl (hb hby d35_1)) ?_
  rw [len_of S1 M1]
  show G (s₁.setTop (mkF m 2 #[.val (.ref t)] [(.int (Int32.ofNat (2 * n)))]))
  refine hG _ _ (fun t_ k_ => XS.iconst X0.here hx rfl (hb hby d35_2) k_) ?_
  refine hG _ _ (fun t_ k_ => XS.ishr X0.here hx rfl (hb hby d35_3) rfl k_) ?_
  show G (s₁.setTop (mkF m 4 #[.val (.ref t)] [(.int ((Int32.ofNat (2 * n)) >>> ((1 : Int32) &&& 31)))]))
  exact own_retI hR hret X0 hx (hb hby d35_4) (by decide) (by decide) (by rw [e0]; exact ⟨(by rw [own_shr1 g1_hn]), N0, rfl⟩)
theorem own_pd15 : parseMethodDescriptor "(I[B)V" = some ⟨[.int, (.array .byte)], none⟩ := by decide +kernel
set_option maxRecDepth 65536 in
set_option maxHeartbeats 40000000 in
theorem own_uci (l : Launch) (Z : State) (a0 : Array Value) (hw : ∀ d ∈ tables_1, d.before a0 Z = true) (t : Addr) (kt : ClassId) (vs : List Value) (cs : List Int32) (i : Nat) (fmt : Value) (h0 : Heap) (O0 : own_Old Z h0) (g0_V : Arv Z h0 t kt .byte (Int32.ofNat (2 * cs.length)) vs (.int 0)) (g1_hcap : cs.length ≤ 4) (g2_h16 : ∀ c ∈ cs, 0 ≤ c.toInt ∧ c.toInt ≤ 65535) (g3_hi16 : own_is16 cs vs) (g4_hi : i < cs.length) (g5_S : Sta Z Z.heap "java/lang/StringUTF16" "$assertionsDisabled" "Z" (.int 1)) (g6_S : Sta Z Z.heap "java/lang/StringUTF16" "HI_BYTE_SHIFT" "I" (.int 0)) (g7_S : Sta Z Z.heap "java/lang/StringUTF16" "LO_BYTE_SHIFT" "I" (.int 8)) (g8_hfmt : fmt.isRef = true) (g9_S : Sta Z Z.heap "jdk/internal/util/Preconditions" "SIOOBE_FORMATTER" "Ljava/util/function/BiFunction;" fmt) :
    own_Con l Z (⟨"java/lang/StringUTF16", "checkIndex", "(I[B)V"⟩ : MethodName) jdk_52_method_91_code 2 none [] ({ frames := 2, cells := 0, slots := 0, locals := 27 } : Room) #[(.int (Int32.ofNat i)), (.ref t)] h0 (fun rv rh rL => rv = none ∧ own_Fr Z rL ∧ h0 = rh) := by
  refine own_intro (plainFor_of_name (by first | (simp [plainName, overriddenIn]; done) | decide +kernel)) ?_
  intro p e s m below meth c s₁ G hx hby hml hown hnm hret hZ X0 e0 hG hR
  have N0 := Fr.nil Z.heap.size
  refine own_entry (Ls := #[.val (.int (Int32.ofNat i)), .val (.ref t)]) (by first | (simp [entryFrame, mkF, argsToLocals, Value.category]; done) | rfl) ?_
  show G (s₁.setTop (mkF m 0 #[.val (.int (Int32.ofNat i)), .val (.ref t)] []))
  refine hG _ _ (fun t_ k_ => XS.iloadN X0.here hx rfl (hb hby d34_0) rfl k_) ?_
  refine hG _ _ (fun t_ k_ => XS.aloadN X0.here hx rfl (hb hby d34_1) rfl rfl k_) ?_
  show G (s₁.setTop (mkF m 2 #[.val (.int (Int32.ofNat i)), .val (.ref t)] [(.ref t), (.int (Int32.ofNat i))]))
  refine own_callS X0 hx hZ hG hown (ow hw 147 rfl) (ow hw 148 rfl) (ow hw 65 rfl) (ow hw 149 rfl) (by decide) 1 (own_l16 l Z a0 hw t kt cs.length vs h0 O0 g0_V (by omega)) (by decide) (by decide) e0 (by rw [hml]; rfl) (lenOf own_pd14 rfl) (argsL := [(.ref t)]) (rest := [(.int (Int32.ofNat i))]) rfl rfl (Nat.le_of_eq rfl) (hb hby d34_2) (by decide) (by decide) ?_
  intro T1 h1 v1 L1 X1 e1 q1
  obtain ⟨rfl, M1, rfl⟩ := q1
  have N1 := Fr.app N0 M1
  show G (T1.setTop (mkF m 5 #[.val (.int (Int32.ofNat i)), .val (.ref t)] [(.int (Int32.ofNat cs.length)), (.int (Int32.ofNat i))]))
  refine own_callS X1 hx hZ hG hown (ow hw 150 rfl) (ow hw 88 rfl) (ow hw 8 rfl) (ow hw 89 rfl) (by decide) 0 (own_sci l Z a0 hw (Int32.ofNat i) (Int32.ofNat cs.length) fmt h0 O0 (own_nn (by omega)) (own_lt g4_hi (by omega)) g8_hfmt g9_S) (by decide) (by decide) e1 (by rw [hml]; rfl) (lenOf own_pd13 rfl) (argsL := [(.int (Int32.ofNat i)), (.int (Int32.ofNat cs.length))]) (rest := []) rfl rfl (Nat.le_of_eq rfl) (hb hby d34_5) (by decide) (by decide) ?_
  intro T2 h2 v2 L2 X2 e2 q2
  obtain ⟨rfl, M2, rfl⟩ := q2
  have N2 := Fr.app N1 M2
  show G (T2.setTop (mkF m 8 #[.val (.int (Int32.ofNat i)), .val (.ref t)] []))
  exact own_retV hR hret X2 hx (hb hby d34_8) (by decide) (by decide) (by rw [e2]; exact ⟨rfl, N2, rfl⟩)
set_option maxRecDepth 65536 in
set_option maxHeartbeats 40000000 in
theorem own_uca (l : Launch) (Z : State) (a0 : Array Value) (hw : ∀ d ∈ tables_1, d.before a0 Z = true) (t : Addr) (kt : ClassId) (vs : List Value) (cs : List Int32) (i : Nat) (fmt : Value) (h0 : Heap) (O0 : own_Old Z h0) (g0_V : Arv Z h0 t kt .byte (Int32.ofNat (2 * cs.length)) vs (.int 0)) (g1_hcap : cs.length ≤ 4) (g2_h16 : ∀ c ∈ cs, 0 ≤ c.toInt ∧ c.toInt ≤ 65535) (g3_hi16 : own_is16 cs vs) (g4_hi : i < cs.length) (g5_S : Sta Z Z.heap "java/lang/StringUTF16" "$assertionsDisabled" "Z" (.int 1)) (g6_S : Sta Z Z.heap "java/lang/StringUTF16" "HI_BYTE_SHIFT" "I" (.int 0)) (g7_S : Sta Z Z.heap "java/lang/StringUTF16" "LO_BYTE_SHIFT" "I" (.int 8)) (g8_hfmt : fmt.isRef = true) (g9_S : Sta Z Z.heap "jdk/internal/util/Preconditions" "SIOOBE_FORMATTER" "Ljava/util/function/BiFunction;" fmt) :
    own_Con l Z (⟨"java/lang/StringUTF16", "charAt", "([BI)C"⟩ : MethodName) jdk_52_method_83_code 2 (some .char) [] ({ frames := 3, cells := 0, slots := 0, locals := 40 } : Room) #[(.ref t), (.int (Int32.ofNat i))] h0 (fun rv rh rL => rv = some (.int (cs.getD i 0)) ∧ own_Fr Z rL ∧ h0 = rh) := by
  refine own_intro (plainFor_of_name (by first | (simp [plainName, overriddenIn]; done) | decide +kernel)) ?_
  intro p e s m below meth c s₁ G hx hby hml hown hnm hret hZ X0 e0 hG hR
  have N0 := Fr.nil Z.heap.size
  refine own_entry (Ls := #[.val (.ref t), .val (.int (Int32.ofNat i))]) (by first | (simp [entryFrame, mkF, argsToLocals, Value.category]; done) | rfl) ?_
  show G (s₁.setTop (mkF m 0 #[.val (.ref t), .val (.int (Int32.ofNat i))] []))
  refine hG _ _ (fun t_ k_ => XS.iloadN X0.here hx rfl (hb hby d33_0) rfl k_) ?_
  refine hG _ _ (fun t_ k_ => XS.aloadN X0.here hx rfl (hb hby d33_1) rfl rfl k_) ?_
  show G (s₁.setTop (mkF m 2 #[.val (.ref t), .val (.int (Int32.ofNat i))] [(.ref t), (.int (Int32.ofNat i))]))
  refine own_callS X0 hx hZ hG hown (ow hw 144 rfl) (ow hw 145 rfl) (ow hw 65 rfl) (ow hw 146 rfl) (by decide) 0 (own_uci l Z a0 hw t kt vs cs i fmt h0 O0 g0_V g1_hcap g2_h16 g3_hi16 g4_hi g5_S g6_S g7_S g8_hfmt g9_S) (by decide) (by decide) e0 (by rw [hml]; rfl) (lenOf own_pd15 rfl) (argsL := [(.int (Int32.ofNat i)), (.ref t)]) (rest := []) rfl rfl (Nat.le_of_eq rfl) (hb hby d33_2) (by decide) (by decide) ?_
  intro T1 h1 v1 L1 X1 e1 q1
  obtain ⟨rfl, M1, rfl⟩ := q1
  have N1 := Fr.app N0 M1
  show G (T1.setTop (mkF m 5 #[.val (.ref t), .val (.int (Int32.ofNat i))] []))
  refine hG _ _ (fun t_ k_ => XS.aloadN X1.here hx rfl (hb hby d33_5) rfl rfl k_) ?_
  refine hG _ _ (fun t_ k_ => XS.iloadN X1.here hx rfl (hb hby d33_6) rfl k_) ?_
  show G (T1.setTop (mkF m 7 #[.val (.ref t), .val (.int (Int32.ofNat i))] [(.int (Int32.ofNat i)), (.ref t)]))
  refine own_callS X1 hx hZ hG hown (ow hw 138 rfl) (ow hw 139 rfl) (ow hw 65 rfl) (ow hw 140 rfl) (by decide) 0 (own_gch l Z a0 hw t kt (2 * cs.length) vs i (own_lo (cs.getD i 0)) (own_hi (cs.getD i 0)) h0 O0 g0_V (by omega) (by omega) (g3_hi16.2 i g4_hi).1 (g3_hi16.2 i g4_hi).2 g5_S g6_S g7_S) (by decide) (by decide) e1 (by rw [hml]; rfl) (lenOf own_pd1 rfl) (argsL := [(.ref t), (.int (Int32.ofNat i))]) (rest := []) rfl rfl (Nat.le_of_eq rfl) (hb hby d33_7) (by decide) (by decide) ?_
  intro T2 h2 v2 L2 X2 e2 q2
  obtain ⟨rfl, M2, rfl⟩ := q2
  have N2 := Fr.app N1 M2
  show G (T2.setTop (mkF m 10 #[.val (.ref t), .val (.int (Int32.ofNat i))] [(.int (own_join (own_lo (cs.getD i 0)) (own_hi (cs.getD i 0))))]))
  exact own_retN hR hret (by simp) X2 hx (hb hby d33_10) (by decide) (by decide) (by rw [e2]; exact ⟨(by rw [own_join_eq (g2_h16 _ (own_getD_mem cs i 0 g4_hi)), own_narC (g2_h16 _ (own_getD_mem cs i 0 g4_hi))]), N2, rfl⟩)
theorem own_pd16 : parseMethodDescriptor "(I)C" = some ⟨[.int], some .char⟩ := by decide +kernel
set_option maxRecDepth 65536 in
set_option maxHeartbeats 40000000 in
theorem own_ca (l : Launch) (Z : State) (a0 : Array Value) (hw : ∀ d ∈ tables_1, d.before a0 Z = true) (a : Addr) (t : Addr) (kt : ClassId) (cs : List Int32) (cd : Int32) (nb : Int32) (vs : List Value) (cpt : Int32) (i : Nat) (fmt : Value) (h0 : Heap) (O0 : own_Old Z h0) (g0_E : Exa Z h0 a "java/lang/String") (g1_F : Fld Z h0 a "java/lang/String" "coder" "B" (.int cd)) (g2_F : Fld Z h0 a "java/lang/String" "value" "[B" (.ref t)) (g3_V : Arv Z h0 t kt .byte nb vs (.int 0)) (g4_henc : own_enc cs cd nb vs) (g5_hcap : cs.length ≤ 4) (g6_h16 : ∀ c ∈ cs, 0 ≤ c.toInt ∧ c.toInt ≤ 65535) (g7_S : Sta Z Z.heap "java/lang/String" "COMPACT_STRINGS" "Z" (.int cpt)) (g8_hcpt : ¬ (cpt = (0 : Int32))) (g9_S : Sta Z Z.heap "java/lang/StringUTF16" "$assertionsDisabled" "Z" (.int 1)) (g10_S : Sta Z Z.heap "java/lang/StringUTF16" "HI_BYTE_SHIFT" "I" (.int 0)) (g11_S : Sta Z Z.heap "java/lang/StringUTF16" "LO_BYTE_SHIFT" "I" (.int 8)) (g12_hi : i < cs.length) (g13_hfmt : fmt.isRef = true) (g14_S : Sta Z Z.heap "jdk/internal/util/Preconditions" "SIOOBE_FORMATTER" "Ljava/util/function/BiFunction;" fmt) :
    own_Con l Z (⟨"java/lang/String", "charAt", "(I)C"⟩ : MethodName) jdk_42_method_56_code 2 (some .char) [] ({ frames := 4, cells := 0, slots := 0, locals := 53 } : Room) #[(.ref a), (.int (Int32.ofNat i))] h0 (fun rv rh rL => rv = some (.int (cs.getD i 0)) ∧ own_Fr Z rL ∧ h0 = rh) := by
  refine own_intro (plainFor_of_name (by first | (simp [plainName, overriddenIn]; done) | decide +kernel)) ?_
  intro p e s m below meth c s₁ G hx hby hml hown hnm hret hZ X0 e0 hG hR
  have N0 := Fr.nil Z.heap.size
  refine own_entry (Ls := #[.val (.ref a), .val (.int (Int32.ofNat i))]) (by first | (simp [entryFrame, mkF, argsToLocals, Value.category]; done) | rfl) ?_
  show G (s₁.setTop (mkF m 0 #[.val (.ref a), .val (.int (Int32.ofNat i))] []))
  rcases id g4_henc with ⟨hall, rfl, rfl, rfl⟩ | ⟨hbig, rfl, rfl, h16⟩
  · skip
    show G (s₁.setTop (mkF m 0 #[.val (.ref a), .val (.int (Int32.ofNat i))] []))
    refine hG _ _ (fun t_ k_ => XS.aloadN X0.here hx rfl (hb hby d16_0) rfl rfl k_) ?_
    show G (s₁.setTop (mkF m 1 #[.val (.ref a), .val (.int (Int32.ofNat i))] [(.ref a)]))
    refine own_callV (C := "java/lang/String") X0 hx hZ hG hown (ow hw 78 rfl) (ow hw 79 rfl) (ow hw 81 rfl) (ow hw 80 rfl) (ow hw 8 rfl) (ow hw 82 rfl) (by decide) 0 (own_isl0 l Z a0 hw a cpt h0 O0 g1_F g7_S g8_hcpt) (by decide) (by decide) e0 g0_E (by rw [hml]; rfl) (lenOf own_pd9 rfl) (argsL := []) (rest := []) rfl rfl (Nat.le_of_eq rfl) (hb hby d16_1) (by decide) (by decide) ?_
    intro T1 h1 v1 L1 X1 e1 q1
    obtain ⟨rfl, M1, rfl⟩ := q1
    have N1 := Fr.app N0 M1
    show G (T1.setTop (mkF m 4 #[.val (.ref a), .val (.int (Int32.ofNat i))] [(.int 1)]))
    refine hG _ _ (fun t_ k_ => XS.ifNo X1.here hx rfl (hb hby d16_4) rfl ((if0 _ _).trans (feq (by decide)).1) k_) ?_
    show G (T1.setTop (mkF m 7 #[.val (.ref a), .val (.int (Int32.ofNat i))] []))
    refine hG _ _ (fun t_ k_ => XS.aloadN X1.here hx rfl (hb hby d16_7) rfl rfl k_) ?_
    show G (T1.setTop (mkF m 8 #[.val (.ref a), .val (.int (Int32.ofNat i))] [(.ref a)]))
    obtain ⟨T2, X2, e2, st2⟩ := getF X1 hx hZ hown (host := "") (Or.inl (ow hw 25 rfl)) Via.refl e1 g2_F (g := (mkF m 8 #[.val (.ref a), .val (.int (Int32.ofNat i))] [(.ref a)])) rfl rfl (hb hby d16_8)
    refine hG _ _ st2 ?_
    show G (T2.setTop (mkF m 11 #[.val (.ref a), .val (.int (Int32.ofNat i))] [(.ref t)]))
    refine hG _ _ (fun t_ k_ => XS.iloadN X2.here hx rfl (hb hby d16_11) rfl k_) ?_
    show G (T2.setTop (mkF m 12 #[.val (.ref a), .val (.int (Int32.ofNat i))] [(.int (Int32.ofNat i)), (.ref t)]))
    refine own_callS X2 hx hZ hG hown (ow hw 83 rfl) (ow hw 84 rfl) (ow hw 85 rfl) (ow hw 86 rfl) (by decide) 0 (own_lca l Z a0 hw t kt cs i fmt h0 O0 g3_V g5_hcap (own_lat_rng hall g6_h16) g12_hi g13_hfmt g14_S) (by decide) (by decide) e2 (by rw [hml]; rfl) (lenOf own_pd1 rfl) (argsL := [(.ref t), (.int (Int32.ofNat i))]) (rest := []) rfl rfl (Nat.le_of_eq rfl) (hb hby d16_12) (by decide) (by decide) ?_
    intro T3 h3 v3 L3 X3 e3 q3
    obtain ⟨rfl, M3, rfl⟩ := q3
    have N3 := Fr.app N1 M3
    show G (T3.setTop (mkF m 15 #[.val (.ref a), .val (.int (Int32.ofNat i))] [(.int (cs.getD i 0))]))
    exact own_retN hR hret (by simp) X3 hx (hb hby d16_15) (by decide) (by decide) (by rw [e3]; exact ⟨(by rw [own_narC (g6_h16 _ (own_getD_mem cs i 0 g12_hi))]), N3, rfl⟩)
  · skip
    show G (s₁.setTop (mkF m 0 #[.val (.ref a), .val (.int (Int32.ofNat i))] []))
    refine hG _ _ (fun t_ k_ => XS.aloadN X0.here hx rfl (hb hby d16_0) rfl rfl k_) ?_
    show G (s₁.setTop (mkF m 1 #[.val (.ref a), .val (.int (Int32.ofNat i))] [(.ref a)]))
    refine own_callV (C := "java/lang/String") X0 hx hZ hG hown (ow hw 78 rfl) (ow hw 79 rfl) (ow hw 81 rfl) (ow hw 80 rfl) (ow hw 8 rfl) (ow hw 82 rfl) (by decide) 0 (own_isl1 l Z a0 hw a cpt h0 O0 g1_F g7_S g8_hcpt) (by decide) (by decide) e0 g0_E (by rw [hml]; rfl) (lenOf own_pd9 rfl) (argsL := []) (rest := []) rfl rfl (Nat.le_of_eq rfl) (hb hby d16_1) (by decide) (by decide) ?_
    intro T4 h4 v4 L4 X4 e4 q4
    obtain ⟨rfl, M4, rfl⟩ := q4
    have N4 := Fr.app N0 M4
    show G (T4.setTop (mkF m 4 #[.val (.ref a), .val (.int (Int32.ofNat i))] [(.int 0)]))
    refine hG _ _ (fun t_ k_ => XS.ifYes X4.here hx rfl (pc0 := 4) (pc' := 16) rfl (hb hby d16_4) rfl ((if0 _ _).trans (teq (by decide)).1) (by decide) (by decide) k_) ?_
    show G (T4.setTop (mkF m 16 #[.val (.ref a), .val (.int (Int32.ofNat i))] []))
    refine hG _ _ (fun t_ k_ => XS.aloadN X4.here hx rfl (hb hby d16_16) rfl rfl k_) ?_
    show G (T4.setTop (mkF m 17 #[.val (.ref a), .val (.int (Int32.ofNat i))] [(.ref a)]))
    obtain ⟨T5, X5, e5, st5⟩ := getF X4 hx hZ hown (host := "") (Or.inl (ow hw 25 rfl)) Via.refl e4 g2_F (g := (mkF m 17 #[.val (.ref a), .val (.int (Int32.ofNat i))] [(.ref a)])) rfl rfl (hb hby d16_17)
    refine hG _ _ st5 ?_
    show G (T5.setTop (mkF m 20 #[.val (.ref a), .val (.int (Int32.ofNat i))] [(.ref t)]))
    refine hG _ _ (fun t_ k_ => XS.iloadN X5.here hx rfl (hb hby d16_20) rfl k_) ?_
    show G (T5.setTop (mkF m 21 #[.val (.ref a), .val (.int (Int32.ofNat i))] [(.int (Int32.ofNat i)), (.ref t)]))
    refine own_callS X5 hx hZ hG hown (ow hw 141 rfl) (ow hw 142 rfl) (ow hw 65 rfl) (ow hw 143 rfl) (by decide) 0 (own_uca l Z a0 hw t kt vs cs i fmt h0 O0 g3_V g5_hcap g6_h16 h16 g12_hi g9_S g10_S g11_S g13_hfmt g14_S) (by decide) (by decide) e5 (by rw [hml]; rfl) (lenOf own_pd1 rfl) (argsL := [(.ref t), (.int (Int32.ofNat i))]) (rest := []) rfl rfl (Nat.le_of_eq rfl) (hb hby d16_21) (by decide) (by decide) ?_
    intro T6 h6 v6 L6 X6 e6 q6
    obtain ⟨rfl, M6, rfl⟩ := q6
    have N6 := Fr.app N4 M6
    show G (T6.setTop (mkF m 24 #[.val (.ref a), .val (.int (Int32.ofNat i))] [(.int (cs.getD i 0))]))
    exact own_retN hR hret (by simp) X6 hx (hb hby d16_24) (by decide) (by decide) (by rw [e6]; exact ⟨(by rw [own_narC (g6_h16 _ (own_getD_mem cs i 0 g12_hi))]), N6, rfl⟩)
theorem own_pd17 : parseMethodDescriptor "(IIILjava/util/function/BiFunction;)I" = some ⟨[.int, .int, .int, (.object "java/util/function/BiFunction")], some .int⟩ := by decide +kernel
set_option maxRecDepth 65536 in
set_option maxHeartbeats 40000000 in
theorem own_cft (l : Launch) (Z : State) (a0 : Array Value) (hw : ∀ d ∈ tables_1, d.before a0 Z = true) (x : Int32) (y : Int32) (z : Int32) (fm : Value) (h0 : Heap) (O0 : own_Old Z h0) (g0_hfm : fm.isRef = true) (g1_h1 : ¬ (x < (0 : Int32))) (g2_h2 : ¬ (y < x)) (g3_h3 : ¬ (z < y)) :
    own_Con l Z (⟨"jdk/internal/util/Preconditions", "checkFromToIndex", "(IIILjava/util/function/BiFunction;)I"⟩ : MethodName) jdk_41_method_12_code 4 (some .int) [] ({ frames := 0, cells := 0, slots := 0, locals := 0 } : Room) #[(.int x), (.int y), (.int z), fm] h0 (fun rv rh rL => rv = some (.int x) ∧ own_Fr Z rL ∧ h0 = rh) := by
  refine own_intro (plainFor_of_name (by first | (simp [plainName, overriddenIn]; done) | decide +kernel)) ?_
  intro p e s m below meth c s₁ G hx hby hml hown hnm hret hZ X0 e0 hG hR
  have N0 := Fr.nil Z.heap.size
  refine own_entry (Ls := #[.val (.int x), .val (.int y), .val (.int z), .val fm]) (by rcases ref_cases g0_hfm with rfl | ⟨_, rfl⟩ <;> first | (simp [entryFrame, mkF, argsToLocals, Value.category]; done) | rfl) ?_
  show G (s₁.setTop (mkF m 0 #[.val (.int x), .val (.int y), .val (.int z), .val fm] []))
  refine hG _ _ (fun t_ k_ => XS.iloadN X0.here hx rfl (hb hby d10_0) rfl k_) ?_
  show G (s₁.setTop (mkF m 1 #[.val (.int x), .val (.int y), .val (.int z), .val fm] [(.int x)]))
  refine hG _ _ (fun t_ k_ => XS.ifNo X0.here hx rfl (hb hby d10_1) rfl ((if0 _ _).trans (flt g1_h1).1) k_) ?_
  show G (s₁.setTop (mkF m 4 #[.val (.int x), .val (.int y), .val (.int z), .val fm] []))
  refine hG _ _ (fun t_ k_ => XS.iloadN X0.here hx rfl (hb hby d10_4) rfl k_) ?_
  refine hG _ _ (fun t_ k_ => XS.iloadN X0.here hx rfl (hb hby d10_5) rfl k_) ?_
  show G (s₁.setTop (mkF m 6 #[.val (.int x), .val (.int y), .val (.int z), .val fm] [(.int y), (.int x)]))
  refine hG _ _ (fun t_ k_ => XS.icmpNo X0.here hx rfl (hb hby d10_6) rfl (flt g2_h2).2.2.1 k_) ?_
  show G (s₁.setTop (mkF m 9 #[.val (.int x), .val (.int y), .val (.int z), .val fm] []))
  refine hG _ _ (fun t_ k_ => XS.iloadN X0.here hx rfl (hb hby d10_9) rfl k_) ?_
  refine hG _ _ (fun t_ k_ => XS.iloadN X0.here hx rfl (hb hby d10_10) rfl k_) ?_
  show G (s₁.setTop (mkF m 11 #[.val (.int x), .val (.int y), .val (.int z), .val fm] [(.int z), (.int y)]))
  refine hG _ _ (fun t_ k_ => XS.icmpYes X0.here hx rfl (pc0 := 11) (pc' := 22) rfl (hb hby d10_11) rfl (flt g3_h3).2.2.2 (by decide) (by decide) k_) ?_
  show G (s₁.setTop (mkF m 22 #[.val (.int x), .val (.int y), .val (.int z), .val fm] []))
  refine hG _ _ (fun t_ k_ => XS.iloadN X0.here hx rfl (hb hby d10_22) rfl k_) ?_
  show G (s₁.setTop (mkF m 23 #[.val (.int x), .val (.int y), .val (.int z), .val fm] [(.int x)]))
  exact own_retI hR hret X0 hx (hb hby d10_23) (by decide) (by decide) (by rw [e0]; exact ⟨rfl, N0, rfl⟩)
theorem own_pd18 : parseMethodDescriptor "(III)V" = some ⟨[.int, .int, .int], none⟩ := by decide +kernel
set_option maxRecDepth 65536 in
set_option maxHeartbeats 40000000 in
theorem own_cbe (l : Launch) (Z : State) (a0 : Array Value) (hw : ∀ d ∈ tables_1, d.before a0 Z = true) (x : Int32) (y : Int32) (z : Int32) (fmt : Value) (h0 : Heap) (O0 : own_Old Z h0) (g0_h1 : ¬ (x < (0 : Int32))) (g1_h2 : ¬ (y < x)) (g2_h3 : ¬ (z < y)) (g3_hfmt : fmt.isRef = true) (g4_S : Sta Z Z.heap "jdk/internal/util/Preconditions" "SIOOBE_FORMATTER" "Ljava/util/function/BiFunction;" fmt) :
    own_Con l Z (⟨"java/lang/String", "checkBoundsBeginEnd", "(III)V"⟩ : MethodName) jdk_42_method_158_code 3 none [] ({ frames := 1, cells := 0, slots := 0, locals := 15 } : Room) #[(.int x), (.int y), (.int z)] h0 (fun rv rh rL => rv = none ∧ own_Fr Z rL ∧ h0 = rh) := by
  refine own_intro (plainFor_of_name (by first | (simp [plainName, overriddenIn]; done) | decide +kernel)) ?_
  intro p e s m below meth c s₁ G hx hby hml hown hnm hret hZ X0 e0 hG hR
  have N0 := Fr.nil Z.heap.size
  refine own_entry (Ls := #[.val (.int x), .val (.int y), .val (.int z)]) (by first | (simp [entryFrame, mkF, argsToLocals, Value.category]; done) | rfl) ?_
  show G (s₁.setTop (mkF m 0 #[.val (.int x), .val (.int y), .val (.int z)] []))
  refine hG _ _ (fun t_ k_ => XS.iloadN X0.here hx rfl (hb hby d9_0) rfl k_) ?_
  refine hG _ _ (fun t_ k_ => XS.iloadN X0.here hx rfl (hb hby d9_1) rfl k_) ?_
  refine hG _ _ (fun t_ k_ => XS.iloadN X0.here hx rfl (hb hby d9_2) rfl k_) ?_
  show G (s₁.setTop (mkF m 3 #[.val (.int x), .val (.int y), .val (.int z)] [(.int z), (.int y), (.int x)]))
  obtain ⟨T1, X1, e1, st1⟩ := getS2 X0 hx hZ hown (host := "") (Or.inl (ow hw 51 rfl)) Via.refl e0 (own_sta g4_S O0) (g := (mkF m 3 #[.val (.int x), .val (.int y), .val (.int z)] [(.int z), (.int y), (.int x)])) rfl (hb hby d9_3)
  refine hG _ _ st1 ?_
  show G (T1.setTop (mkF m 6 #[.val (.int x), .val (.int y), .val (.int z)] [fmt, (.int z), (.int y), (.int x)]))
  refine own_callS X1 hx hZ hG hown (ow hw 53 rfl) (ow hw 54 rfl) (ow hw 52 rfl) (ow hw 55 rfl) (by decide) 0 (own_cft l Z a0 hw x y z fmt h0 O0 g3_hfmt g0_h1 g1_h2 g2_h3) (by decide) (by decide) e1 (by rw [hml]; rfl) (lenOf own_pd17 rfl) (argsL := [(.int x), (.int y), (.int z), fmt]) (rest := []) rfl rfl (Nat.le_of_eq rfl) (hb hby d9_6) (by decide) (by decide) ?_
  intro T2 h2 v2 L2 X2 e2 q2
  obtain ⟨rfl, M2, rfl⟩ := q2
  have N2 := Fr.app N0 M2
  show G (T2.setTop (mkF m 9 #[.val (.int x), .val (.int y), .val (.int z)] [(.int x)]))
  refine hG _ _ (fun t_ k_ => XS.pop X2.here hx rfl (hb hby d9_9) rfl rfl k_) ?_
  show G (T2.setTop (mkF m 10 #[.val (.int x), .val (.int y), .val (.int z)] []))
  exact own_retV hR hret X2 hx (hb hby d9_10) (by decide) (by decide) (by rw [e2]; exact ⟨rfl, N2, rfl⟩)
theorem own_pd19 : parseMethodDescriptor "(II)I" = some ⟨[.int, .int], some .int⟩ := by decide +kernel
set_option maxRecDepth 65536 in
set_option maxHeartbeats 40000000 in
theorem own_minr (l : Launch) (Z : State) (a0 : Array Value) (hw : ∀ d ∈ tables_1, d.before a0 Z = true) (x : Int32) (y : Int32) (h0 : Heap) (O0 : own_Old Z h0) (g0_hxy : ¬ (x < y)) :
    own_Con l Z (⟨"java/lang/Math", "min", "(II)I"⟩ : MethodName) jdk_29_method_69_code 2 (some .int) [] ({ frames := 0, cells := 0, slots := 0, locals := 0 } : Room) #[(.int x), (.int y)] h0 (fun rv rh rL => rv = some (.int y) ∧ own_Fr Z rL ∧ h0 = rh) := by
  refine own_intro (Jvm.Free.JP.mathPlain rfl (by decide +kernel)) ?_
  intro p e s m below meth c s₁ G hx hby hml hown hnm hret hZ X0 e0 hG hR
  have N0 := Fr.nil Z.heap.size
  refine own_entry (Ls := #[.val (.int x), .val (.int y)]) (by first | (simp [entryFrame, mkF, argsToLocals, Value.category]; done) | rfl) ?_
  show G (s₁.setTop (mkF m 0 #[.val (.int x), .val (.int y)] []))
  refine hG _ _ (fun t_ k_ => XS.iloadN X0.here hx rfl (hb hby d26_0) rfl k_) ?_
  refine hG _ _ (fun t_ k_ => XS.iloadN X0.here hx rfl (hb hby d26_1) rfl k_) ?_
  show G (s₁.setTop (mkF m 2 #[.val (.int x), .val (.int y)] [(.int y), (.int x)]))
  by_cases hc2_1 : y < x
  · skip
    refine hG _ _ (fun t_ k_ => XS.icmpYes X0.here hx rfl (pc0 := 2) (pc' := 9) rfl (hb hby d26_2) rfl (tlt hc2_1).2.2.1 (by decide) (by decide) k_) ?_
    show G (s₁.setTop (mkF m 9 #[.val (.int x), .val (.int y)] []))
    refine hG _ _ (fun t_ k_ => XS.iloadN X0.here hx rfl (hb hby d26_9) rfl k_) ?_
    show G (s₁.setTop (mkF m 10 #[.val (.int x), .val (.int y)] [(.int y)]))
    exact own_retI hR hret X0 hx (hb hby d26_10) (by decide) (by decide) (by rw [e0]; exact ⟨rfl, N0, rfl⟩)
  · skip
    refine hG _ _ (fun t_ k_ => XS.icmpNo X0.here hx rfl (hb hby d26_2) rfl (flt hc2_1).2.2.1 k_) ?_
    show G (s₁.setTop (mkF m 5 #[.val (.int x), .val (.int y)] []))
    refine hG _ _ (fun t_ k_ => XS.iloadN X0.here hx rfl (hb hby d26_5) rfl k_) ?_
    refine hG _ _ (fun t_ k_ => XS.goto X0.here hx rfl (pc0 := 6) (pc' := 10) rfl (hb hby d26_6) (by decide) (by decide) k_) ?_
    show G (s₁.setTop (mkF m 10 #[.val (.int x), .val (.int y)] [(.int x)]))
    exact own_retI hR hret X0 hx (hb hby d26_10) (by decide) (by decide) (by rw [e0]; exact ⟨(by rw [own_antisymm g0_hxy hc2_1]), N0, rfl⟩)
set_option maxRecDepth 65536 in
set_option maxHeartbeats 40000000 in
theorem own_chl (l : Launch) (Z : State) (a0 : Array Value) (hw : ∀ d ∈ tables_1, d.before a0 Z = true) (x : Int32) (y : Int32) (h0 : Heap) (O0 : own_Old Z h0) (g0_hxy : ¬ (y < x)) :
    own_Con l Z (⟨"java/util/Arrays", "checkLength", "(II)V"⟩ : MethodName) jdk_65_method_131_code 2 none [] ({ frames := 0, cells := 0, slots := 0, locals := 0 } : Room) #[(.int x), (.int y)] h0 (fun rv rh rL => rv = none ∧ own_Fr Z rL ∧ h0 = rh) := by
  refine own_intro (plainFor_of_name (by first | (simp [plainName, overriddenIn]; done) | decide +kernel)) ?_
  intro p e s m below meth c s₁ G hx hby hml hown hnm hret hZ X0 e0 hG hR
  have N0 := Fr.nil Z.heap.size
  refine own_entry (Ls := #[.val (.int x), .val (.int y)]) (by first | (simp [entryFrame, mkF, argsToLocals, Value.category]; done) | rfl) ?_
  show G (s₁.setTop (mkF m 0 #[.val (.int x), .val (.int y)] []))
  refine hG _ _ (fun t_ k_ => XS.iloadN X0.here hx rfl (hb hby d25_0) rfl k_) ?_
  refine hG _ _ (fun t_ k_ => XS.iloadN X0.here hx rfl (hb hby d25_1) rfl k_) ?_
  show G (s₁.setTop (mkF m 2 #[.val (.int x), .val (.int y)] [(.int x), (.int y)]))
  refine hG _ _ (fun t_ k_ => XS.icmpYes X0.here hx rfl (pc0 := 2) (pc' := 37) rfl (hb hby d25_2) rfl (flt g0_hxy).2.1 (by decide) (by decide) k_) ?_
  show G (s₁.setTop (mkF m 37 #[.val (.int x), .val (.int y)] []))
  exact own_retV hR hret X0 hx (hb hby d25_37) (by decide) (by decide) (by rw [e0]; exact ⟨rfl, N0, rfl⟩)
theorem own_pd20 : parseMethodDescriptor "([BII)[B" = some ⟨[(.array .byte), .int, .int], some (.array .byte)⟩ := by decide +kernel
set_option maxRecDepth 65536 in
set_option maxHeartbeats 40000000 in
theorem own_corb (l : Launch) (Z : State) (a0 : Array Value) (hw : ∀ d ∈ tables_1, d.before a0 Z = true) (t : Addr) (kt : ClassId) (M : Nat) (vs : List Value) (F : Nat) (K : Nat) (h0 : Heap) (O0 : own_Old Z h0) (g0_V : Arv Z h0 t kt .byte (Int32.ofNat M) vs (.int 0)) (g1_hM : F + K ≤ M ∧ M < 2147483648) (g2_hcap : K ≤ 8) :
    own_Con l Z (⟨"java/util/Arrays", "copyOfRangeByte", "([BII)[B"⟩ : MethodName) jdk_65_method_133_code 5 (some (.array .byte)) [] ({ frames := 1, cells := 1, slots := 8, locals := 40 } : Room) #[(.ref t), (.int (Int32.ofNat F)), (.int (Int32.ofNat (F + K)))] h0 (fun rv rh rL => ∃ (u : Addr) (ku : ClassId) (us : List Value), rv = some (.ref u) ∧ own_Fr Z rL ∧ Keep h0 rh [] ∧ h0.size ≤ u ∧ (Arv Z rh u ku .byte (Int32.ofNat K) us (.int 0)) ∧ (own_cut F K vs us)) := by
  refine own_intro (plainFor_of_name (by first | (simp [plainName, overriddenIn]; done) | decide +kernel)) ?_
  intro p e s m below meth c s₁ G hx hby hml hown hnm hret hZ X0 e0 hG hR
  have N0 := Fr.nil Z.heap.size
  refine own_entry (Ls := #[.val (.ref t), .val (.int (Int32.ofNat F)), .val (.int (Int32.ofNat (F + K))), .unset, .unset]) (by first | (simp [entryFrame, mkF, argsToLocals, Value.category]; done) | rfl) ?_
  show G (s₁.setTop (mkF m 0 #[.val (.ref t), .val (.int (Int32.ofNat F)), .val (.int (Int32.ofNat (F + K))), .unset, .unset] []))
  refine hG _ _ (fun t_ k_ => XS.iloadN X0.here hx rfl (hb hby d24_0) rfl k_) ?_
  refine hG _ _ (fun t_ k_ => XS.iloadN X0.here hx rfl (hb hby d24_1) rfl k_) ?_
  show G (s₁.setTop (mkF m 2 #[.val (.ref t), .val (.int (Int32.ofNat F)), .val (.int (Int32.ofNat (F + K))), .unset, .unset] [(.int (Int32.ofNat (F + K))), (.int (Int32.ofNat F))]))
  refine own_callS X0 hx hZ hG hown (ow hw 107 rfl) (ow hw 108 rfl) (ow hw 102 rfl) (ow hw 109 rfl) (by decide) 0 (own_chl l Z a0 hw (Int32.ofNat F) (Int32.ofNat (F + K)) h0 O0 (own_nlt (by omega) (by omega))) (by decide) (by decide) e0 (by rw [hml]; rfl) (lenOf own_pd13 rfl) (argsL := [(.int (Int32.ofNat F)), (.int (Int32.ofNat (F + K)))]) (rest := []) rfl rfl (Nat.le_of_eq rfl) (hb hby d24_2) (by decide) (by decide) ?_
  intro T1 h1 v1 L1 X1 e1 q1
  obtain ⟨rfl, M1, rfl⟩ := q1
  have N1 := Fr.app N0 M1
  show G (T1.setTop (mkF m 5 #[.val (.ref t), .val (.int (Int32.ofNat F)), .val (.int (Int32.ofNat (F + K))), .unset, .unset] []))
  refine hG _ _ (fun t_ k_ => XS.iloadN X1.here hx rfl (hb hby d24_5) rfl k_) ?_
  refine hG _ _ (fun t_ k_ => XS.iloadN X1.here hx rfl (hb hby d24_6) rfl k_) ?_
  refine hG _ _ (fun t_ k_ => XS.isub X1.here hx rfl (hb hby d24_7) rfl k_) ?_
  show G (T1.setTop (mkF m 8 #[.val (.ref t), .val (.int (Int32.ofNat F)), .val (.int (Int32.ofNat (F + K))), .unset, .unset] [(.int ((Int32.ofNat (F + K)) - (Int32.ofNat F)))]))
  rw [show Int32.ofNat (F + K) - Int32.ofNat F = Int32.ofNat K from (own_subN (by omega)).trans (congrArg Int32.ofNat (by omega))]
  show G (T1.setTop (mkF m 8 #[.val (.ref t), .val (.int (Int32.ofNat F)), .val (.int (Int32.ofNat (F + K))), .unset, .unset] [(.int (Int32.ofNat K))]))
  refine hG _ _ (fun t_ k_ => XS.istoreN X1.here hx rfl (hb hby d24_8) rfl (l' := #[.val (.ref t), .val (.int (Int32.ofNat F)), .val (.int (Int32.ofNat (F + K))), .val (.int (Int32.ofNat K)), .unset]) rfl k_) ?_
  refine hG _ _ (fun t_ k_ => XS.iloadN X1.here hx rfl (hb hby d24_9) rfl k_) ?_
  show G (T1.setTop (mkF m 10 #[.val (.ref t), .val (.int (Int32.ofNat F)), .val (.int (Int32.ofNat (F + K))), .val (.int (Int32.ofNat K)), .unset] [(.int (Int32.ofNat K))]))
  obtain ⟨T2, h2, k2, X2, e2, E2, A2, st2⟩ := newP X1 hx hZ (ow hw 20 rfl) e1 (g := (mkF m 10 #[.val (.ref t), .val (.int (Int32.ofNat F)), .val (.int (Int32.ofNat (F + K))), .val (.int (Int32.ofNat K)), .unset] [(.int (Int32.ofNat K))])) rfl (hb hby d24_10) rfl (own_nn (by omega)) (cap := 8) (by rw [own_clamp (by omega)]; exact g2_hcap) (by decide) (by decide) (by decide)
  obtain ⟨b2, z2⟩ : ∃ z, z = h0.size := ⟨_, rfl⟩
  rw [← z2] at A2 st2
  refine hG _ _ st2 ?_
  have K2 : Keep h0 h2 [] := (Keep.refl h0 []).ext E2
  have O2 : own_Old Z h2 := O0.ext E2
  have V2 : Arv Z h2 b2 k2 .byte (Int32.ofNat K) [] (.int 0) := Arv.new A2 (own_nn (by omega))
  show G (T2.setTop (mkF m 12 #[.val (.ref t), .val (.int (Int32.ofNat F)), .val (.int (Int32.ofNat (F + K))), .val (.int (Int32.ofNat K)), .unset] [(.ref b2)]))
  refine hG _ _ (fun t_ k_ => XS.astore X2.here hx rfl (hb hby d24_12) rfl rfl (l' := #[.val (.ref t), .val (.int (Int32.ofNat F)), .val (.int (Int32.ofNat (F + K))), .val (.int (Int32.ofNat K)), .val (.ref b2)]) rfl k_) ?_
  refine hG _ _ (fun t_ k_ => XS.aloadN X2.here hx rfl (hb hby d24_14) rfl rfl k_) ?_
  refine hG _ _ (fun t_ k_ => XS.iloadN X2.here hx rfl (hb hby d24_15) rfl k_) ?_
  refine hG _ _ (fun t_ k_ => XS.aload X2.here hx rfl (hb hby d24_16) rfl rfl k_) ?_
  refine hG _ _ (fun t_ k_ => XS.iconst X2.here hx rfl (hb hby d24_18) k_) ?_
  refine hG _ _ (fun t_ k_ => XS.aloadN X2.here hx rfl (hb hby d24_19) rfl rfl k_) ?_
  show G (T2.setTop (mkF m 20 #[.val (.ref t), .val (.int (Int32.ofNat F)), .val (.int (Int32.ofNat (F + K))), .val (.int (Int32.ofNat K)), .val (.ref b2)] [(.ref t), (.int 0), (.ref b2), (.int (Int32.ofNat F)), (.ref t)]))
  have f4 := (g0_V.ext E2)
  obtain ⟨c3, Ar3, -, S3, M3, -, -⟩ := id f4
  refine hG _ _ (X2.arraylength hx (by rw [e2]; exact Ar3.1) (State.isArrayOf_alike hZ.alike Ar3.2.1) (g := (mkF m 20 #[.val (.ref t), .val (.int (Int32.ofNat F)), .val (.int (Int32.ofNat (F + K))), .val (.int (Int32.ofNat K)), .val (.ref b2)] [(.ref t), (.int 0), (.ref b2), (.int (Int32.ofNat F)), (.ref t)])) rfl rfl (hb hby d24_20)) ?_
  rw [len_of S3 M3]
  show G (T2.setTop (mkF m 21 #[.val (.ref t), .val (.int (Int32.ofNat F)), .val (.int (Int32.ofNat (F + K))), .val (.int (Int32.ofNat K)), .val (.ref b2)] [(.int (Int32.ofNat M)), (.int 0), (.ref b2), (.int (Int32.ofNat F)), (.ref t)]))
  refine hG _ _ (fun t_ k_ => XS.iloadN X2.here hx rfl (hb hby d24_21) rfl k_) ?_
  refine hG _ _ (fun t_ k_ => XS.isub X2.here hx rfl (hb hby d24_22) rfl k_) ?_
  show G (T2.setTop (mkF m 23 #[.val (.ref t), .val (.int (Int32.ofNat F)), .val (.int (Int32.ofNat (F + K))), .val (.int (Int32.ofNat K)), .val (.ref b2)] [(.int ((Int32.ofNat M) - (Int32.ofNat F))), (.int 0), (.ref b2), (.int (Int32.ofNat F)), (.ref t)]))
  rw [show Int32.ofNat M - Int32.ofNat F = Int32.ofNat (M - F) from own_subN (by omega)]
  show G (T2.setTop (mkF m 23 #[.val (.ref t), .val (.int (Int32.ofNat F)), .val (.int (Int32.ofNat (F + K))), .val (.int (Int32.ofNat K)), .val (.ref b2)] [(.int (Int32.ofNat (M - F))), (.int 0), (.ref b2), (.int (Int32.ofNat F)), (.ref t)]))
  refine hG _ _ (fun t_ k_ => XS.iloadN X2.here hx rfl (hb hby d24_23) rfl k_) ?_
  show G (T2.setTop (mkF m 24 #[.val (.ref t), .val (.int (Int32.ofNat F)), .val (.int (Int32.ofNat (F + K))), .val (.int (Int32.ofNat K)), .val (.ref b2)] [(.int (Int32.ofNat K)), (.int (Int32.ofNat (M - F))), (.int 0), (.ref b2), (.int (Int32.ofNat F)), (.ref t)]))
  refine own_callS X2 hx hZ hG hown (ow hw 110 rfl) (ow hw 111 rfl) (ow hw 112 rfl) (ow hw 113 rfl) (by decide) 4 (own_minr l Z a0 hw (Int32.ofNat (M - F)) (Int32.ofNat K) h2 O2 (own_nlt (by omega) (by omega))) (by decide) (by decide) e2 (by rw [hml]; rfl) (lenOf own_pd19 rfl) (argsL := [(.int (Int32.ofNat (M - F))), (.int (Int32.ofNat K))]) (rest := [(.int 0), (.ref b2), (.int (Int32.ofNat F)), (.ref t)]) rfl rfl (Nat.le_of_eq rfl) (hb hby d24_24) (by decide) (by decide) ?_
  intro T5 h5 v5 L5 X5 e5 q5
  obtain ⟨rfl, M5, rfl⟩ := q5
  have N5 := Fr.app N1 M5
  show G (T5.setTop (mkF m 27 #[.val (.ref t), .val (.int (Int32.ofNat F)), .val (.int (Int32.ofNat (F + K))), .val (.int (Int32.ofNat K)), .val (.ref b2)] [(.int (Int32.ofNat K)), (.int 0), (.ref b2), (.int (Int32.ofNat F)), (.ref t)]))
  obtain ⟨T6, h6, L6, X6, e6, N6, J6, V6, st6⟩ := cpA X5 hx hZ hown (ow hw 114 rfl) (ow hw 117 rfl) (ow hw 115 rfl) (ow hw 116 rfl) e5 f4 (V2.pad (pad_rep [] (.int 0) K)) (Or.inl ⟨rfl, rfl⟩) (own_nn (by omega)) (by decide) (own_nn (by omega)) (by rw [own_clamp (by omega), own_clamp (by omega), own_clamp (by omega)]; omega) (by rw [own_clamp (by omega)]; show 0 + K ≤ K; omega) rfl (by rw [own_clamp (by omega)]; show 0 + K ≤ ([] ++ List.replicate K _).length; simp) N5 (own_ge O0 (Nat.le_of_eq z2.symm)) (g := (mkF m 27 #[.val (.ref t), .val (.int (Int32.ofNat F)), .val (.int (Int32.ofNat (F + K))), .val (.int (Int32.ofNat K)), .val (.ref b2)] [(.int (Int32.ofNat K)), (.int 0), (.ref b2), (.int (Int32.ofNat F)), (.ref t)])) rfl (by rw [hml]; rfl) rfl (hb hby d24_27) (by decide) (W := 0) (by show 2 * 0 + _ ≤ _; exact Nat.le_of_eq rfl) (by decide)
  refine hG _ _ st6 ?_
  have K6 : Keep h0 h6 [] := K2.trans J6 (allS (Or.inr (Nat.le_trans (Keep.refl h0 []).1 (Nat.le_of_eq z2.symm))) all0)
  have O6 : own_Old Z h6 := O2.keep J6 (allS (own_ge O0 (Nat.le_of_eq z2.symm)) all0)
  have U6 : Arv Z h6 b2 k2 .byte (Int32.ofNat K) ((List.range K).map fun i => vs.getD (F + i) (.int 0)) (.int 0) := (by have q := V6; rw [List.nil_append, own_clamp (i := F) (by omega), own_cpL _ _ (by omega)] at q; exact q)
  show G (T6.setTop (mkF m 30 #[.val (.ref t), .val (.int (Int32.ofNat F)), .val (.int (Int32.ofNat (F + K))), .val (.int (Int32.ofNat K)), .val (.ref b2)] []))
  refine hG _ _ (fun t_ k_ => XS.aload X6.here hx rfl (hb hby d24_30) rfl rfl k_) ?_
  show G (T6.setTop (mkF m 32 #[.val (.ref t), .val (.int (Int32.ofNat F)), .val (.int (Int32.ofNat (F + K))), .val (.int (Int32.ofNat K)), .val (.ref b2)] [(.ref b2)]))
  exact own_retA hR hret rfl rfl X6 hx (hb hby d24_32) (by decide) (by decide) (by rw [e6]; exact ⟨b2, k2, ((List.range K).map fun i => vs.getD (F + i) (.int 0)), rfl, N6, K6, (Nat.le_trans (Keep.refl h0 []).1 (Nat.le_of_eq z2.symm)), U6, (own_cutR F K vs)⟩)
set_option maxRecDepth 65536 in
set_option maxHeartbeats 40000000 in
theorem own_cor (l : Launch) (Z : State) (a0 : Array Value) (hw : ∀ d ∈ tables_1, d.before a0 Z = true) (t : Addr) (kt : ClassId) (M : Nat) (vs : List Value) (F : Nat) (K : Nat) (h0 : Heap) (O0 : own_Old Z h0) (g0_V : Arv Z h0 t kt .byte (Int32.ofNat M) vs (.int 0)) (g1_hM : F + K ≤ M ∧ M < 2147483648) (g2_hcap : K ≤ 8) (g3_hnf : ¬ (F = 0 ∧ K = M)) :
    own_Con l Z (⟨"java/util/Arrays", "copyOfRange", "([BII)[B"⟩ : MethodName) jdk_65_method_132_code 3 (some (.array .byte)) [] ({ frames := 2, cells := 1, slots := 8, locals := 56 } : Room) #[(.ref t), (.int (Int32.ofNat F)), (.int (Int32.ofNat (F + K)))] h0 (fun rv rh rL => ∃ (u : Addr) (ku : ClassId) (us : List Value), rv = some (.ref u) ∧ own_Fr Z rL ∧ Keep h0 rh [] ∧ h0.size ≤ u ∧ (Arv Z rh u ku .byte (Int32.ofNat K) us (.int 0)) ∧ (own_cut F K vs us)) := by
  refine own_intro (plainFor_of_name (by first | (simp [plainName, overriddenIn]; done) | decide +kernel)) ?_
  intro p e s m below meth c s₁ G hx hby hml hown hnm hret hZ X0 e0 hG hR
  have N0 := Fr.nil Z.heap.size
  refine own_entry (Ls := #[.val (.ref t), .val (.int (Int32.ofNat F)), .val (.int (Int32.ofNat (F + K)))]) (by first | (simp [entryFrame, mkF, argsToLocals, Value.category]; done) | rfl) ?_
  show G (s₁.setTop (mkF m 0 #[.val (.ref t), .val (.int (Int32.ofNat F)), .val (.int (Int32.ofNat (F + K)))] []))
  refine hG _ _ (fun t_ k_ => XS.iloadN X0.here hx rfl (hb hby d23_0) rfl k_) ?_
  show G (s₁.setTop (mkF m 1 #[.val (.ref t), .val (.int (Int32.ofNat F)), .val (.int (Int32.ofNat (F + K)))] [(.int (Int32.ofNat F))]))
  by_cases hc1_1 : (Int32.ofNat F) = (0 : Int32)
  · skip
    refine hG _ _ (fun t_ k_ => XS.ifNo X0.here hx rfl (hb hby d23_1) rfl ((if0 _ _).trans (teq hc1_1).2) k_) ?_
    show G (s₁.setTop (mkF m 4 #[.val (.ref t), .val (.int (Int32.ofNat F)), .val (.int (Int32.ofNat (F + K)))] []))
    refine hG _ _ (fun t_ k_ => XS.iloadN X0.here hx rfl (hb hby d23_4) rfl k_) ?_
    refine hG _ _ (fun t_ k_ => XS.aloadN X0.here hx rfl (hb hby d23_5) rfl rfl k_) ?_
    show G (s₁.setTop (mkF m 6 #[.val (.ref t), .val (.int (Int32.ofNat F)), .val (.int (Int32.ofNat (F + K)))] [(.ref t), (.int (Int32.ofNat (F + K)))]))
    obtain ⟨c2, Ar2, -, S2, M2, -, -⟩ := id g0_V
    refine hG _ _ (X0.arraylength hx (by rw [e0]; exact Ar2.1) (State.isArrayOf_alike hZ.alike Ar2.2.1) (g := (mkF m 6 #[.val (.ref t), .val (.int (Int32.ofNat F)), .val (.int (Int32.ofNat (F + K)))] [(.ref t), (.int (Int32.ofNat (F + K)))])) rfl rfl (hb hby d23_6)) ?_
    rw [len_of S2 M2]
    show G (s₁.setTop (mkF m 7 #[.val (.ref t), .val (.int (Int32.ofNat F)), .val (.int (Int32.ofNat (F + K)))] [(.int (Int32.ofNat M)), (.int (Int32.ofNat (F + K)))]))
    refine hG _ _ (fun t_ k_ => XS.icmpNo X0.here hx rfl (hb hby d23_7) rfl (feq (fun q => g3_hnf (by have e1 := own_zeroN hc1_1 (by omega); have e2 := own_ofNat_inj (by omega) (by omega) q; omega))).1 k_) ?_
    show G (s₁.setTop (mkF m 10 #[.val (.ref t), .val (.int (Int32.ofNat F)), .val (.int (Int32.ofNat (F + K)))] []))
    refine hG _ _ (fun t_ k_ => XS.aloadN X0.here hx rfl (hb hby d23_10) rfl rfl k_) ?_
    refine hG _ _ (fun t_ k_ => XS.iloadN X0.here hx rfl (hb hby d23_11) rfl k_) ?_
    refine hG _ _ (fun t_ k_ => XS.iloadN X0.here hx rfl (hb hby d23_12) rfl k_) ?_
    show G (s₁.setTop (mkF m 13 #[.val (.ref t), .val (.int (Int32.ofNat F)), .val (.int (Int32.ofNat (F + K)))] [(.int (Int32.ofNat (F + K))), (.int (Int32.ofNat F)), (.ref t)]))
    refine own_callS X0 hx hZ hG hown (ow hw 104 rfl) (ow hw 105 rfl) (ow hw 102 rfl) (ow hw 106 rfl) (by decide) 0 (own_corb l Z a0 hw t kt M vs F K h0 O0 g0_V g1_hM g2_hcap) (by decide) (by decide) e0 (by rw [hml]; rfl) (lenOf own_pd20 rfl) (argsL := [(.ref t), (.int (Int32.ofNat F)), (.int (Int32.ofNat (F + K)))]) (rest := []) rfl rfl (Nat.le_of_eq rfl) (hb hby d23_13) (by decide) (by decide) ?_
    intro T3 h3 v3 L3 X3 e3 q3
    obtain ⟨u_3, ku_3, us_3, rfl, M3, J3, y3_0, r3_0, r3_1⟩ := q3
    have N3 := Fr.app N0 M3
    have K3 : Keep h0 h3 [] := (Keep.refl h0 []).trans J3 all0
    have O3 : own_Old Z h3 := O0.keep J3 all0
    show G (T3.setTop (mkF m 16 #[.val (.ref t), .val (.int (Int32.ofNat F)), .val (.int (Int32.ofNat (F + K)))] [(.ref u_3)]))
    exact own_retA hR hret rfl rfl X3 hx (hb hby d23_16) (by decide) (by decide) (by rw [e3]; exact ⟨u_3, ku_3, us_3, rfl, N3, K3, (Nat.le_trans (Keep.refl h0 []).1 y3_0), r3_0, r3_1⟩)
  · skip
    refine hG _ _ (fun t_ k_ => XS.ifYes X0.here hx rfl (pc0 := 1) (pc' := 10) rfl (hb hby d23_1) rfl ((if0 _ _).trans (feq hc1_1).2) (by decide) (by decide) k_) ?_
    show G (s₁.setTop (mkF m 10 #[.val (.ref t), .val (.int (Int32.ofNat F)), .val (.int (Int32.ofNat (F + K)))] []))
    refine hG _ _ (fun t_ k_ => XS.aloadN X0.here hx rfl (hb hby d23_10) rfl rfl k_) ?_
    refine hG _ _ (fun t_ k_ => XS.iloadN X0.here hx rfl (hb hby d23_11) rfl k_) ?_
    refine hG _ _ (fun t_ k_ => XS.iloadN X0.here hx rfl (hb hby d23_12) rfl k_) ?_
    show G (s₁.setTop (mkF m 13 #[.val (.ref t), .val (.int (Int32.ofNat F)), .val (.int (Int32.ofNat (F + K)))] [(.int (Int32.ofNat (F + K))), (.int (Int32.ofNat F)), (.ref t)]))
    refine own_callS X0 hx hZ hG hown (ow hw 104 rfl) (ow hw 105 rfl) (ow hw 102 rfl) (ow hw 106 rfl) (by decide) 0 (own_corb l Z a0 hw t kt M vs F K h0 O0 g0_V g1_hM g2_hcap) (by decide) (by decide) e0 (by rw [hml]; rfl) (lenOf own_pd20 rfl) (argsL := [(.ref t), (.int (Int32.ofNat F)), (.int (Int32.ofNat (F + K)))]) (rest := []) rfl rfl (Nat.le_of_eq rfl) (hb hby d23_13) (by decide) (by decide) ?_
    intro T4 h4 v4 L4 X4 e4 q4
    obtain ⟨u_4, ku_4, us_4, rfl, M4, J4, y4_0, r4_0, r4_1⟩ := q4
    have N4 := Fr.app N0 M4
    have K4 : Keep h0 h4 [] := (Keep.refl h0 []).trans J4 all0
    have O4 : own_Old Z h4 := O0.keep J4 all0
    show G (T4.setTop (mkF m 16 #[.val (.ref t), .val (.int (Int32.ofNat F)), .val (.int (Int32.ofNat (F + K)))] [(.ref u_4)]))
    exact own_retA hR hret rfl rfl X4 hx (hb hby d23_16) (by decide) (by decide) (by rw [e4]; exact ⟨u_4, ku_4, us_4, rfl, N4, K4, (Nat.le_trans (Keep.refl h0 []).1 y4_0), r4_0, r4_1⟩)
theorem own_pd21 : parseMethodDescriptor "([BB)V" = some ⟨[(.array .byte), .byte], none⟩ := by decide +kernel
set_option maxRecDepth 65536 in
set_option maxHeartbeats 40000000 in
theorem own_strb0 (l : Launch) (Z : State) (a0 : Array Value) (hw : ∀ d ∈ tables_1, d.before a0 Z = true) (a : Addr) (b : Addr) (v0 : Value) (v1 : Value) (h0 : Heap) (O0 : own_Old Z h0) (g0_E : Exa Z h0 a "java/lang/String") (g1_F : Fld Z h0 a "java/lang/String" "coder" "B" v0) (g2_F : Fld Z h0 a "java/lang/String" "value" "[B" v1) (g3_G : Z.heap.size ≤ a) :
    own_Con l Z (⟨"java/lang/String", "<init>", "([BB)V"⟩ : MethodName) jdk_42_method_151_code 3 none [] ({ frames := 1, cells := 0, slots := 0, locals := 12 } : Room) #[(.ref a), (.ref b), (.int 0)] h0 (fun rv rh rL => rv = none ∧ own_Fr Z rL ∧ Keep h0 rh [a] ∧ (Exa Z rh a "java/lang/String") ∧ (Fld Z rh a "java/lang/String" "coder" "B" (.int 0)) ∧ (Fld Z rh a "java/lang/String" "value" "[B" (.ref b))) := by
  refine own_intro (plainFor_of_name (by first | (simp [plainName, overriddenIn]; done) | decide +kernel)) ?_
  intro p e s m below meth c s₁ G hx hby hml hown hnm hret hZ X0 e0 hG hR
  have N0 := Fr.nil Z.heap.size
  refine own_entry (Ls := #[.val (.ref a), .val (.ref b), .val (.int 0)]) (by first | (simp [entryFrame, mkF, argsToLocals, Value.category]; done) | rfl) ?_
  show G (s₁.setTop (mkF m 0 #[.val (.ref a), .val (.ref b), .val (.int 0)] []))
  refine hG _ _ (fun t_ k_ => XS.aloadN X0.here hx rfl (hb hby d27_0) rfl rfl k_) ?_
  show G (s₁.setTop (mkF m 1 #[.val (.ref a), .val (.ref b), .val (.int 0)] [(.ref a)]))
  obtain ⟨T1, X1, e1, st1⟩ := initO X0 hx hZ hown (ow hw 16 rfl) (ow hw 17 rfl) (ow hw 18 rfl) e0 (g := (mkF m 1 #[.val (.ref a), .val (.ref b), .val (.int 0)] [(.ref a)])) rfl (by rw [hml]; rfl) rfl (hb hby d27_1) (by decide) (W := 0) (by show 2 * 0 + _ ≤ _; exact Nat.le_of_eq rfl) (by decide)
  refine hG _ _ st1 ?_
  show G (T1.setTop (mkF m 4 #[.val (.ref a), .val (.ref b), .val (.int 0)] []))
  refine hG _ _ (fun t_ k_ => XS.aloadN X1.here hx rfl (hb hby d27_4) rfl rfl k_) ?_
  refine hG _ _ (fun t_ k_ => XS.aloadN X1.here hx rfl (hb hby d27_5) rfl rfl k_) ?_
  show G (T1.setTop (mkF m 6 #[.val (.ref a), .val (.ref b), .val (.int 0)] [(.ref b), (.ref a)]))
  obtain ⟨T2, h2, X2, e2, W2, st2⟩ := putF X1 hx hZ hown (host := "") (Or.inl (ow hw 25 rfl)) Via.refl e1 g2_F g0_E (Or.inr ⟨(ow hw 21 rfl), rfl, hnm⟩) (ow hw 7 rfl) (ty := (.array .byte)) (by decide) rfl rfl (g := (mkF m 6 #[.val (.ref a), .val (.ref b), .val (.int 0)] [(.ref b), (.ref a)])) rfl rfl (hb hby d27_6)
  refine hG _ _ st2 ?_
  have K2 : Keep h0 h2 [a] := (Keep.refl h0 [a]).wr W2 (Or.inl (List.mem_of_getElem? (i := 0) rfl))
  have O2 : own_Old Z h2 := O0.wr W2 g3_G
  have N2 := Fr.snoc X2 N0 g3_G
  show G (T2.setTop (mkF m 9 #[.val (.ref a), .val (.ref b), .val (.int 0)] []))
  refine hG _ _ (fun t_ k_ => XS.aloadN X2.here hx rfl (hb hby d27_9) rfl rfl k_) ?_
  refine hG _ _ (fun t_ k_ => XS.iloadN X2.here hx rfl (hb hby d27_10) rfl k_) ?_
  show G (T2.setTop (mkF m 11 #[.val (.ref a), .val (.ref b), .val (.int 0)] [(.int 0), (.ref a)]))
  have f4 := (g1_F.other W2 (Or.inr (slot_ne (Or.inr (ow hw 22 rfl)) (Or.inr (ow hw 21 rfl)) (by decide) (t := .byte) (t' := (.array .byte)) (by decide) (by decide))))
  have f5 := (g0_E.wr W2)
  obtain ⟨T3, h3, X3, e3, W3, st3⟩ := putFN X2 hx hZ hown (ow hw 26 rfl) Via.refl e2 f4 f5 (Or.inr ⟨(ow hw 22 rfl), rfl, hnm⟩) (ow hw 7 rfl) (ty := .byte) (v' := (.int 0)) (by decide) rfl rfl (g := (mkF m 11 #[.val (.ref a), .val (.ref b), .val (.int 0)] [(.int 0), (.ref a)])) rfl rfl (hb hby d27_11)
  refine hG _ _ st3 ?_
  have K3 : Keep h0 h3 [a] := K2.wr W3 (Or.inl (List.mem_of_getElem? (i := 0) rfl))
  have O3 : own_Old Z h3 := O2.wr W3 g3_G
  have N3 := Fr.snoc X3 N2 g3_G
  show G (T3.setTop (mkF m 14 #[.val (.ref a), .val (.ref b), .val (.int 0)] []))
  have f6 := (f5.wr W3)
  have f7 := ((g2_F.same W2).other W3 (Or.inr (slot_ne (Or.inr (ow hw 21 rfl)) (Or.inr (ow hw 22 rfl)) (by decide) (t := (.array .byte)) (t' := .byte) (by decide) (by decide))))
  exact own_retV hR hret X3 hx (hb hby d27_14) (by decide) (by decide) (by rw [e3]; exact ⟨rfl, N3, K3, f6, (f4.same W3), f7⟩)
theorem own_pd22 : parseMethodDescriptor "([BII)Ljava/lang/String;" = some ⟨[(.array .byte), .int, .int], some (.object "java/lang/String")⟩ := by decide +kernel
set_option maxRecDepth 65536 in
set_option maxHeartbeats 40000000 in
theorem own_nsl (l : Launch) (Z : State) (a0 : Array Value) (hw : ∀ d ∈ tables_1, d.before a0 Z = true) (hEL : EW Z a0 consts_1) (t : Addr) (kt : ClassId) (cs : List Int32) (ds : List Int32) (o : Nat) (h0 : Heap) (O0 : own_Old Z h0) (g0_V : Arv Z h0 t kt .byte (Int32.ofNat cs.length) (cs.map fun c => Value.int c.toInt8.toInt32) (.int 0)) (g1_hcap : cs.length ≤ 4) (g2_hds : own_from cs o ds) (g3_hall : ∀ c ∈ cs, ¬ ((255 : Int32) < c)) (g4_hnf : ¬ (o = 0 ∧ ds.length = cs.length)) :
    own_ConW l Z consts_1 (⟨"java/lang/StringLatin1", "newString", "([BII)Ljava/lang/String;"⟩ : MethodName) jdk_43_method_47_code 3 (some (.object "java/lang/String")) [] ({ frames := 3, cells := 2, slots := 12, locals := 72 } : Room) #[(.ref t), (.int (Int32.ofNat o)), (.int (Int32.ofNat ds.length))] h0 (fun rv rh rL => ∃ (q : Addr) (u : Addr) (ku : ClassId) (c2 : Int32) (n2 : Int32) (us : List Value), rv = some (.ref q) ∧ own_Fr Z rL ∧ Keep h0 rh [] ∧ (Exa Z rh q "java/lang/String") ∧ (Fld Z rh q "java/lang/String" "coder" "B" (.int c2)) ∧ (Fld Z rh q "java/lang/String" "value" "[B" (.ref u)) ∧ (Arv Z rh u ku .byte n2 us (.int 0)) ∧ (own_enc ds c2 n2 us)) := by
  refine own_introW hEL (plainFor_of_name (by first | (simp [plainName, overriddenIn]; done) | decide +kernel)) ?_
  intro p e s m below meth c s₁ G hx hby hml hown hnm hret hZ X0 e0 H0 SI0 hG hR
  have N0 := Fr.nil Z.heap.size
  refine own_entry (Ls := #[.val (.ref t), .val (.int (Int32.ofNat o)), .val (.int (Int32.ofNat ds.length))]) (by first | (simp [entryFrame, mkF, argsToLocals, Value.category]; done) | rfl) ?_
  show G (s₁.setTop (mkF m 0 #[.val (.ref t), .val (.int (Int32.ofNat o)), .val (.int (Int32.ofNat ds.length))] []))
  have hle := g2_hds.1
  refine hG _ _ (fun t_ k_ => XS.iloadN X0.here hx rfl (hb hby d22_0) rfl k_) ?_
  show G (s₁.setTop (mkF m 1 #[.val (.ref t), .val (.int (Int32.ofNat o)), .val (.int (Int32.ofNat ds.length))] [(.int (Int32.ofNat ds.length))]))
  by_cases hc1_1 : (Int32.ofNat ds.length) = (0 : Int32)
  · skip
    refine hG _ _ (fun t_ k_ => XS.ifNo X0.here hx rfl (hb hby d22_1) rfl ((if0 _ _).trans (teq hc1_1).2) k_) ?_
    show G (s₁.setTop (mkF m 4 #[.val (.ref t), .val (.int (Int32.ofNat o)), .val (.int (Int32.ofNat ds.length))] []))
    obtain ⟨a2, T2, h2, k2, b2, kc2, X2, e2, E2, SI2, hk2, hZ2, hown2, Ea2, Fc2, Fv2, V2, la2, lb2, Y2, Li2, Nq2, st2⟩ := ldcCH X0 hx hZ hown (ow hw 174 rfl) (own_wS hw) e0 SI0 (Nat.le_refl _) hEL (List.mem_of_getElem? (i := 1) rfl) H0 (vs := []) (z := (0 : Int32)) ⟨by decide, by decide⟩ (by decide) rfl (g := (mkF m 4 #[.val (.ref t), .val (.int (Int32.ofNat o)), .val (.int (Int32.ofNat ds.length))] [])) rfl (hb hby d22_4) (n := 0) (by decide) (by decide) (by decide) (by decide)
    refine hG _ _ st2 ?_
    have R2 := Y2
    have C2 := (CHr.refl H0).trans R2
    have K2 : Keep h0 h2 [] := (Keep.refl h0 []).ext E2
    have O2 : own_Old Z h2 := O0.ext E2
    show G (T2.setTop (mkF m 6 #[.val (.ref t), .val (.int (Int32.ofNat o)), .val (.int (Int32.ofNat ds.length))] [(.ref a2)]))
    exact own_retAW hR hret rfl rfl X2 hx (hb hby d22_6) e2 SI2 hk2 hZ2 C2 (by decide) (by decide) ⟨a2, b2, kc2, (0 : Int32), (0 : Int32), [], rfl, N0, K2, Ea2, Fc2, Fv2, V2, (by rw [List.eq_nil_of_length_eq_zero (own_zeroN hc1_1 (by omega))]; exact own_enc_nil)⟩
  · skip
    refine hG _ _ (fun t_ k_ => XS.ifYes X0.here hx rfl (pc0 := 1) (pc' := 7) rfl (hb hby d22_1) rfl ((if0 _ _).trans (feq hc1_1).2) (by decide) (by decide) k_) ?_
    show G (s₁.setTop (mkF m 7 #[.val (.ref t), .val (.int (Int32.ofNat o)), .val (.int (Int32.ofNat ds.length))] []))
    obtain ⟨T3, h3, X3, e3, E3, A3, D3, -, st3⟩ := newO X0 hx hZ hown (ow hw 99 rfl) (ow hw 7 rfl) (ow hw 8 rfl) e0 (g := (mkF m 7 #[.val (.ref t), .val (.int (Int32.ofNat o)), .val (.int (Int32.ofNat ds.length))] [])) rfl (hb hby d22_7) (by decide) (by decide)
    obtain ⟨b3, z3⟩ : ∃ z, z = h0.size := ⟨_, rfl⟩
    rw [← z3] at A3 D3 st3
    refine hG _ _ st3 ?_
    have R3 := (CHr.ext E3 H0)
    have C3 := (CHr.refl H0).trans R3
    have K3 : Keep h0 h3 [] := (Keep.refl h0 []).ext E3
    have O3 : own_Old Z h3 := O0.ext E3
    show G (T3.setTop (mkF m 10 #[.val (.ref t), .val (.int (Int32.ofNat o)), .val (.int (Int32.ofNat ds.length))] [(.ref b3)]))
    refine hG _ _ (fun t_ k_ => XS.dup X3.here hx rfl (hb hby d22_10) rfl rfl k_) ?_
    refine hG _ _ (fun t_ k_ => XS.aloadN X3.here hx rfl (hb hby d22_11) rfl rfl k_) ?_
    refine hG _ _ (fun t_ k_ => XS.iloadN X3.here hx rfl (hb hby d22_12) rfl k_) ?_
    refine hG _ _ (fun t_ k_ => XS.iloadN X3.here hx rfl (hb hby d22_13) rfl k_) ?_
    refine hG _ _ (fun t_ k_ => XS.iloadN X3.here hx rfl (hb hby d22_14) rfl k_) ?_
    refine hG _ _ (fun t_ k_ => XS.iadd X3.here hx rfl (hb hby d22_15) rfl k_) ?_
    show G (T3.setTop (mkF m 16 #[.val (.ref t), .val (.int (Int32.ofNat o)), .val (.int (Int32.ofNat ds.length))] [(.int ((Int32.ofNat o) + (Int32.ofNat ds.length))), (.int (Int32.ofNat o)), (.ref t), (.ref b3), (.ref b3)]))
    rw [show Int32.ofNat o + Int32.ofNat ds.length = Int32.ofNat (o + ds.length) from own_addN2 _ _]
    show G (T3.setTop (mkF m 16 #[.val (.ref t), .val (.int (Int32.ofNat o)), .val (.int (Int32.ofNat ds.length))] [(.int (Int32.ofNat (o + ds.length))), (.int (Int32.ofNat o)), (.ref t), (.ref b3), (.ref b3)]))
    have f5 := (g0_V.ext E3)
    refine own_callS X3 hx hZ hG hown (ow hw 100 rfl) (ow hw 101 rfl) (ow hw 102 rfl) (ow hw 103 rfl) (by decide) 2 (own_cor l Z a0 hw t kt cs.length (cs.map fun c => Value.int c.toInt8.toInt32) o ds.length h3 O3 f5 ⟨g2_hds.1, by omega⟩ (by omega) g4_hnf) (by decide) (by decide) e3 (by rw [hml]; rfl) (lenOf own_pd20 rfl) (argsL := [(.ref t), (.int (Int32.ofNat o)), (.int (Int32.ofNat (o + ds.length)))]) (rest := [(.ref b3), (.ref b3)]) rfl rfl (Nat.le_of_eq rfl) (hb hby d22_16) (by decide) (by decide) ?_
    intro T4 h4 v4 L4 X4 e4 q4
    obtain ⟨u_4, ku_4, us_4, rfl, M4, J4, y4_0, r4_0, r4_1⟩ := q4
    have N4 := Fr.app N0 M4
    have R4 := (CHr.keep J4 all0 R3.1)
    have C4 := C3.trans R4
    have K4 : Keep h0 h4 [] := K3.trans J4 all0
    have O4 : own_Old Z h4 := O3.keep J4 all0
    show G (T4.setTop (mkF m 19 #[.val (.ref t), .val (.int (Int32.ofNat o)), .val (.int (Int32.ofNat ds.length))] [(.ref u_4), (.ref b3), (.ref b3)]))
    refine hG _ _ (fun t_ k_ => XS.iconst X4.here hx rfl (hb hby d22_19) k_) ?_
    show G (T4.setTop (mkF m 20 #[.val (.ref t), .val (.int (Int32.ofNat o)), .val (.int (Int32.ofNat ds.length))] [(.int 0), (.ref u_4), (.ref b3), (.ref b3)]))
    have f7 := (A3.keep J4)
    have f8 := ((D3 (Or.inr (ow hw 22 rfl)) (ty := .byte) (by decide)).keep J4 nin0)
    have f9 := ((D3 (Or.inr (ow hw 21 rfl)) (ty := (.array .byte)) (by decide)).keep J4 nin0)
    refine own_callI X4 hx hZ hG hown rfl (ow hw 118 rfl) (ow hw 119 rfl) (ow hw 8 rfl) (ow hw 120 rfl) (by decide) 1 (own_strb0 l Z a0 hw b3 u_4 (.int 0) .null h4 O4 f7 f8 f9 (own_ge O0 (Nat.le_of_eq z3.symm))) (by decide) (by decide) e4 (by rw [hml]; rfl) (lenOf own_pd21 rfl) (argsL := [(.ref u_4), (.int 0)]) (rest := [(.ref b3)]) rfl rfl (Nat.le_of_eq rfl) (hb hby d22_20) (by decide) (by decide) ?_
    intro T6 h6 v6 L6 X6 e6 q6
    obtain ⟨rfl, M6, J6, r6_0, r6_1, r6_2⟩ := q6
    have N6 := Fr.app N4 M6
    have sf10 : Safe Z consts_1 _ h4 b3 := (own_safeStr hZ.alike f7 f9)
    have R6 := (CHr.keep J6 (allS sf10 all0) R4.1)
    have C6 := C4.trans R6
    have K6 : Keep h0 h6 [] := K4.trans J6 (allS (Or.inr (Nat.le_trans (Keep.refl h0 []).1 (Nat.le_of_eq z3.symm))) all0)
    have O6 : own_Old Z h6 := O4.keep J6 (allS (own_ge O0 (Nat.le_of_eq z3.symm)) all0)
    show G (T6.setTop (mkF m 23 #[.val (.ref t), .val (.int (Int32.ofNat o)), .val (.int (Int32.ofNat ds.length))] [(.ref b3)]))
    have f11 := (r4_0.keep J6 (ninS (Ne.symm (own_ne A3.lt y4_0)) nin0))
    exact own_retAW hR hret rfl rfl X6 hx (hb hby d22_23) e6 SI0 (Nat.le_trans (Nat.le_trans (Nat.le_trans (Nat.le_refl _) R3.2.1) R4.2.1) R6.2.1) hZ C6 (by decide) (by decide) ⟨b3, u_4, ku_4, (0 : Int32), (Int32.ofNat ds.length), us_4, rfl, N6, K6, r6_0, r6_1, r6_2, f11, (Or.inl ⟨own_from_mem (P := fun c => ¬ ((255 : Int32) < c)) g2_hds g3_hall, rfl, rfl, own_lat_cut g2_hds r4_1⟩)⟩
set_option maxRecDepth 65536 in
set_option maxHeartbeats 40000000 in
theorem own_strb1 (l : Launch) (Z : State) (a0 : Array Value) (hw : ∀ d ∈ tables_1, d.before a0 Z = true) (a : Addr) (b : Addr) (v0 : Value) (v1 : Value) (h0 : Heap) (O0 : own_Old Z h0) (g0_E : Exa Z h0 a "java/lang/String") (g1_F : Fld Z h0 a "java/lang/String" "coder" "B" v0) (g2_F : Fld Z h0 a "java/lang/String" "value" "[B" v1) (g3_G : Z.heap.size ≤ a) :
    own_Con l Z (⟨"java/lang/String", "<init>", "([BB)V"⟩ : MethodName) jdk_42_method_151_code 3 none [] ({ frames := 1, cells := 0, slots := 0, locals := 12 } : Room) #[(.ref a), (.ref b), (.int 1)] h0 (fun rv rh rL => rv = none ∧ own_Fr Z rL ∧ Keep h0 rh [a] ∧ (Exa Z rh a "java/lang/String") ∧ (Fld Z rh a "java/lang/String" "coder" "B" (.int 1)) ∧ (Fld Z rh a "java/lang/String" "value" "[B" (.ref b))) := by
  refine own_intro (plainFor_of_name (by first | (simp [plainName, overriddenIn]; done) | decide +kernel)) ?_
  intro p e s m below meth c s₁ G hx hby hml hown hnm hret hZ X0 e0 hG hR
  have N0 := Fr.nil Z.heap.size
  refine own_entry (Ls := #[.val (.ref a), .val (.ref b), .val (.int 1)]) (by first | (simp [entryFrame, mkF, argsToLocals, Value.category]; done) | rfl) ?_
  show G (s₁.setTop (mkF m 0 #[.val (.ref a), .val (.ref b), .val (.int 1)] []))
  refine hG _ _ (fun t_ k_ => XS.aloadN X0.here hx rfl (hb hby d27_0) rfl rfl k_) ?_
  show G (s₁.setTop (mkF m 1 #[.val (.ref a), .val (.ref b), .val (.int 1)] [(.ref a)]))
  obtain ⟨T1, X1, e1, st1⟩ := initO X0 hx hZ hown (ow hw 16 rfl) (ow hw 17 rfl) (ow hw 18 rfl) e0 (g := (mkF m 1 #[.val (.ref a), .val (.ref b), .val (.int 1)] [(.ref a)])) rfl (by rw [hml]; rfl) rfl (hb hby d27_1) (by decide) (W := 0) (by show 2 * 0 + _ ≤ _; exact Nat.le_of_eq rfl) (by decide)
  refine hG _ _ st1 ?_
  show G (T1.setTop (mkF m 4 #[.val (.ref a), .val (.ref b), .val (.int 1)] []))
  refine hG _ _ (fun t_ k_ => XS.aloadN X1.here hx rfl (hb hby d27_4) rfl rfl k_) ?_
  refine hG _ _ (fun t_ k_ => XS.aloadN X1.here hx rfl (hb hby d27_5) rfl rfl k_) ?_
  show G (T1.setTop (mkF m 6 #[.val (.ref a), .val (.ref b), .val (.int 1)] [(.ref b), (.ref a)]))
  obtain ⟨T2, h2, X2, e2, W2, st2⟩ := putF X1 hx hZ hown (host := "") (Or.inl (ow hw 25 rfl)) Via.refl e1 g2_F g0_E (Or.inr ⟨(ow hw 21 rfl), rfl, hnm⟩) (ow hw 7 rfl) (ty := (.array .byte)) (by decide) rfl rfl (g := (mkF m 6 #[.val (.ref a), .val (.ref b), .val (.int 1)] [(.ref b), (.ref a)])) rfl rfl (hb hby d27_6)
  refine hG _ _ st2 ?_
  have K2 : Keep h0 h2 [a] := (Keep.refl h0 [a]).wr W2 (Or.inl (List.mem_of_getElem? (i := 0) rfl))
  have O2 : own_Old Z h2 := O0.wr W2 g3_G
  have N2 := Fr.snoc X2 N0 g3_G
  show G (T2.setTop (mkF m 9 #[.val (.ref a), .val (.ref b), .val (.int 1)] []))
  refine hG _ _ (fun t_ k_ => XS.aloadN X2.here hx rfl (hb hby d27_9) rfl rfl k_) ?_
  refine hG _ _ (fun t_ k_ => XS.iloadN X2.here hx rfl (hb hby d27_10) rfl k_) ?_
  show G (T2.setTop (mkF m 11 #[.val (.ref a), .val (.ref b), .val (.int 1)] [(.int 1), (.ref a)]))
  have f4 := (g1_F.other W2 (Or.inr (slot_ne (Or.inr (ow hw 22 rfl)) (Or.inr (ow hw 21 rfl)) (by decide) (t := .byte) (t' := (.array .byte)) (by decide) (by decide))))
  have f5 := (g0_E.wr W2)
  obtain ⟨T3, h3, X3, e3, W3, st3⟩ := putFN X2 hx hZ hown (ow hw 26 rfl) Via.refl e2 f4 f5 (Or.inr ⟨(ow hw 22 rfl), rfl, hnm⟩) (ow hw 7 rfl) (ty := .byte) (v' := (.int 1)) (by decide) rfl rfl (g := (mkF m 11 #[.val (.ref a), .val (.ref b), .val (.int 1)] [(.int 1), (.ref a)])) rfl rfl (hb hby d27_11)
  refine hG _ _ st3 ?_
  have K3 : Keep h0 h3 [a] := K2.wr W3 (Or.inl (List.mem_of_getElem? (i := 0) rfl))
  have O3 : own_Old Z h3 := O2.wr W3 g3_G
  have N3 := Fr.snoc X3 N2 g3_G
  show G (T3.setTop (mkF m 14 #[.val (.ref a), .val (.ref b), .val (.int 1)] []))
  have f6 := (f5.wr W3)
  have f7 := ((g2_F.same W2).other W3 (Or.inr (slot_ne (Or.inr (ow hw 21 rfl)) (Or.inr (ow hw 22 rfl)) (by decide) (t := (.array .byte)) (t' := .byte) (by decide) (by decide))))
  exact own_retV hR hret X3 hx (hb hby d27_14) (by decide) (by decide) (by rw [e3]; exact ⟨rfl, N3, K3, f6, (f4.same W3), f7⟩)
set_option maxRecDepth 65536 in
set_option maxHeartbeats 40000000 in
theorem own_cfs (l : Launch) (Z : State) (a0 : Array Value) (hw : ∀ d ∈ tables_1, d.before a0 Z = true) (x : Int32) (y : Int32) (z : Int32) (fm : Value) (h0 : Heap) (O0 : own_Old Z h0) (g0_hfm : fm.isRef = true) (g1_h1 : ¬ (((z ||| x) ||| y) < (0 : Int32))) (g2_h2 : ¬ ((z - x) < y)) :
    own_Con l Z (⟨"jdk/internal/util/Preconditions", "checkFromIndexSize", "(IIILjava/util/function/BiFunction;)I"⟩ : MethodName) jdk_41_method_13_code 4 (some .int) [] ({ frames := 0, cells := 0, slots := 0, locals := 0 } : Room) #[(.int x), (.int y), (.int z), fm] h0 (fun rv rh rL => rv = some (.int x) ∧ own_Fr Z rL ∧ h0 = rh) := by
  refine own_intro (plainFor_of_name (by first | (simp [plainName, overriddenIn]; done) | decide +kernel)) ?_
  intro p e s m below meth c s₁ G hx hby hml hown hnm hret hZ X0 e0 hG hR
  have N0 := Fr.nil Z.heap.size
  refine own_entry (Ls := #[.val (.int x), .val (.int y), .val (.int z), .val fm]) (by rcases ref_cases g0_hfm with rfl | ⟨_, rfl⟩ <;> first | (simp [entryFrame, mkF, argsToLocals, Value.category]; done) | rfl) ?_
  show G (s₁.setTop (mkF m 0 #[.val (.int x), .val (.int y), .val (.int z), .val fm] []))
  refine hG _ _ (fun t_ k_ => XS.iloadN X0.here hx rfl (hb hby d41_0) rfl k_) ?_
  refine hG _ _ (fun t_ k_ => XS.iloadN X0.here hx rfl (hb hby d41_1) rfl k_) ?_
  refine hG _ _ (fun t_ k_ => XS.ior X0.here hx rfl (hb hby d41_2) rfl k_) ?_
  refine hG _ _ (fun t_ k_ => XS.iloadN X0.here hx rfl (hb hby d41_3) rfl k_) ?_
  refine hG _ _ (fun t_ k_ => XS.ior X0.here hx rfl (hb hby d41_4) rfl k_) ?_
  show G (s₁.setTop (mkF m 5 #[.val (.int x), .val (.int y), .val (.int z), .val fm] [(.int ((z ||| x) ||| y))]))
  refine hG _ _ (fun t_ k_ => XS.ifNo X0.here hx rfl (hb hby d41_5) rfl ((if0 _ _).trans (flt g1_h1).1) k_) ?_
  show G (s₁.setTop (mkF m 8 #[.val (.int x), .val (.int y), .val (.int z), .val fm] []))
  refine hG _ _ (fun t_ k_ => XS.iloadN X0.here hx rfl (hb hby d41_8) rfl k_) ?_
  refine hG _ _ (fun t_ k_ => XS.iloadN X0.here hx rfl (hb hby d41_9) rfl k_) ?_
  refine hG _ _ (fun t_ k_ => XS.iloadN X0.here hx rfl (hb hby d41_10) rfl k_) ?_
  refine hG _ _ (fun t_ k_ => XS.isub X0.here hx rfl (hb hby d41_11) rfl k_) ?_
  show G (s₁.setTop (mkF m 12 #[.val (.int x), .val (.int y), .val (.int z), .val fm] [(.int (z - x)), (.int y)]))
  refine hG _ _ (fun t_ k_ => XS.icmpYes X0.here hx rfl (pc0 := 12) (pc' := 23) rfl (hb hby d41_12) rfl (flt g2_h2).2.2.2 (by decide) (by decide) k_) ?_
  show G (s₁.setTop (mkF m 23 #[.val (.int x), .val (.int y), .val (.int z), .val fm] []))
  refine hG _ _ (fun t_ k_ => XS.iloadN X0.here hx rfl (hb hby d41_23) rfl k_) ?_
  show G (s₁.setTop (mkF m 24 #[.val (.int x), .val (.int y), .val (.int z), .val fm] [(.int x)]))
  exact own_retI hR hret X0 hx (hb hby d41_24) (by decide) (by decide) (by rw [e0]; exact ⟨rfl, N0, rfl⟩)
theorem own_pd23 : parseMethodDescriptor "(III)I" = some ⟨[.int, .int, .int], some .int⟩ := by decide +kernel
set_option maxRecDepth 65536 in
set_option maxHeartbeats 40000000 in
theorem own_cboc (l : Launch) (Z : State) (a0 : Array Value) (hw : ∀ d ∈ tables_1, d.before a0 Z = true) (x : Int32) (y : Int32) (z : Int32) (fmt : Value) (h0 : Heap) (O0 : own_Old Z h0) (g0_h1 : ¬ (((z ||| x) ||| y) < (0 : Int32))) (g1_h2 : ¬ ((z - x) < y)) (g2_hfmt : fmt.isRef = true) (g3_S : Sta Z Z.heap "jdk/internal/util/Preconditions" "SIOOBE_FORMATTER" "Ljava/util/function/BiFunction;" fmt) :
    own_Con l Z (⟨"java/lang/String", "checkBoundsOffCount", "(III)I"⟩ : MethodName) jdk_42_method_157_code 3 (some .int) [] ({ frames := 1, cells := 0, slots := 0, locals := 15 } : Room) #[(.int x), (.int y), (.int z)] h0 (fun rv rh rL => rv = some (.int x) ∧ own_Fr Z rL ∧ h0 = rh) := by
  refine own_intro (plainFor_of_name (by first | (simp [plainName, overriddenIn]; done) | decide +kernel)) ?_
  intro p e s m below meth c s₁ G hx hby hml hown hnm hret hZ X0 e0 hG hR
  have N0 := Fr.nil Z.heap.size
  refine own_entry (Ls := #[.val (.int x), .val (.int y), .val (.int z)]) (by first | (simp [entryFrame, mkF, argsToLocals, Value.category]; done) | rfl) ?_
  show G (s₁.setTop (mkF m 0 #[.val (.int x), .val (.int y), .val (.int z)] []))
  refine hG _ _ (fun t_ k_ => XS.iloadN X0.here hx rfl (hb hby d40_0) rfl k_) ?_
  refine hG _ _ (fun t_ k_ => XS.iloadN X0.here hx rfl (hb hby d40_1) rfl k_) ?_
  refine hG _ _ (fun t_ k_ => XS.iloadN X0.here hx rfl (hb hby d40_2) rfl k_) ?_
  show G (s₁.setTop (mkF m 3 #[.val (.int x), .val (.int y), .val (.int z)] [(.int z), (.int y), (.int x)]))
  obtain ⟨T1, X1, e1, st1⟩ := getS2 X0 hx hZ hown (host := "") (Or.inl (ow hw 51 rfl)) Via.refl e0 (own_sta g3_S O0) (g := (mkF m 3 #[.val (.int x), .val (.int y), .val (.int z)] [(.int z), (.int y), (.int x)])) rfl (hb hby d40_3)
  refine hG _ _ st1 ?_
  show G (T1.setTop (mkF m 6 #[.val (.int x), .val (.int y), .val (.int z)] [fmt, (.int z), (.int y), (.int x)]))
  refine own_callS X1 hx hZ hG hown (ow hw 167 rfl) (ow hw 168 rfl) (ow hw 52 rfl) (ow hw 169 rfl) (by decide) 0 (own_cfs l Z a0 hw x y z fmt h0 O0 g2_hfmt g0_h1 g1_h2) (by decide) (by decide) e1 (by rw [hml]; rfl) (lenOf own_pd17 rfl) (argsL := [(.int x), (.int y), (.int z), fmt]) (rest := []) rfl rfl (Nat.le_of_eq rfl) (hb hby d40_6) (by decide) (by decide) ?_
  intro T2 h2 v2 L2 X2 e2 q2
  obtain ⟨rfl, M2, rfl⟩ := q2
  have N2 := Fr.app N0 M2
  show G (T2.setTop (mkF m 9 #[.val (.int x), .val (.int y), .val (.int z)] [(.int x)]))
  exact own_retI hR hret X2 hx (hb hby d40_9) (by decide) (by decide) (by rw [e2]; exact ⟨rfl, N2, rfl⟩)
theorem own_pd24 : parseMethodDescriptor "(II[B)V" = some ⟨[.int, .int, (.array .byte)], none⟩ := by decide +kernel
set_option maxRecDepth 65536 in
set_option maxHeartbeats 40000000 in
theorem own_ucboc (l : Launch) (Z : State) (a0 : Array Value) (hw : ∀ d ∈ tables_1, d.before a0 Z = true) (t : Addr) (kt : ClassId) (vs : List Value) (cs : List Int32) (ds : List Int32) (o : Nat) (fmt : Value) (h0 : Heap) (O0 : own_Old Z h0) (g0_V : Arv Z h0 t kt .byte (Int32.ofNat (2 * cs.length)) vs (.int 0)) (g1_hcap : cs.length ≤ 4) (g2_h16 : ∀ c ∈ cs, 0 ≤ c.toInt ∧ c.toInt ≤ 65535) (g3_hi16 : own_is16 cs vs) (g4_hds : own_from cs o ds) (g5_S : Sta Z Z.heap "java/lang/StringUTF16" "$assertionsDisabled" "Z" (.int 1)) (g6_S : Sta Z Z.heap "java/lang/StringUTF16" "HI_BYTE_SHIFT" "I" (.int 0)) (g7_S : Sta Z Z.heap "java/lang/StringUTF16" "LO_BYTE_SHIFT" "I" (.int 8)) (g8_hfmt : fmt.isRef = true) (g9_S : Sta Z Z.heap "jdk/internal/util/Preconditions" "SIOOBE_FORMATTER" "Ljava/util/function/BiFunction;" fmt) :
    own_Con l Z (⟨"java/lang/StringUTF16", "checkBoundsOffCount", "(II[B)V"⟩ : MethodName) jdk_52_method_94_code 3 none [] ({ frames := 2, cells := 0, slots := 0, locals := 29 } : Room) #[(.int (Int32.ofNat o)), (.int (Int32.ofNat ds.length)), (.ref t)] h0 (fun rv rh rL => rv = none ∧ own_Fr Z rL ∧ h0 = rh) := by
  refine own_intro (plainFor_of_name (by first | (simp [plainName, overriddenIn]; done) | decide +kernel)) ?_
  intro p e s m below meth c s₁ G hx hby hml hown hnm hret hZ X0 e0 hG hR
  have N0 := Fr.nil Z.heap.size
  refine own_entry (Ls := #[.val (.int (Int32.ofNat o)), .val (.int (Int32.ofNat ds.length)), .val (.ref t)]) (by first | (simp [entryFrame, mkF, argsToLocals, Value.category]; done) | rfl) ?_
  show G (s₁.setTop (mkF m 0 #[.val (.int (Int32.ofNat o)), .val (.int (Int32.ofNat ds.length)), .val (.ref t)] []))
  have hle := g4_hds.1
  refine hG _ _ (fun t_ k_ => XS.iloadN X0.here hx rfl (hb hby d39_0) rfl k_) ?_
  refine hG _ _ (fun t_ k_ => XS.iloadN X0.here hx rfl (hb hby d39_1) rfl k_) ?_
  refine hG _ _ (fun t_ k_ => XS.aloadN X0.here hx rfl (hb hby d39_2) rfl rfl k_) ?_
  show G (s₁.setTop (mkF m 3 #[.val (.int (Int32.ofNat o)), .val (.int (Int32.ofNat ds.length)), .val (.ref t)] [(.ref t), (.int (Int32.ofNat ds.length)), (.int (Int32.ofNat o))]))
  refine own_callS X0 hx hZ hG hown (ow hw 147 rfl) (ow hw 148 rfl) (ow hw 65 rfl) (ow hw 149 rfl) (by decide) 2 (own_l16 l Z a0 hw t kt cs.length vs h0 O0 g0_V (by omega)) (by decide) (by decide) e0 (by rw [hml]; rfl) (lenOf own_pd14 rfl) (argsL := [(.ref t)]) (rest := [(.int (Int32.ofNat ds.length)), (.int (Int32.ofNat o))]) rfl rfl (Nat.le_of_eq rfl) (hb hby d39_3) (by decide) (by decide) ?_
  intro T1 h1 v1 L1 X1 e1 q1
  obtain ⟨rfl, M1, rfl⟩ := q1
  have N1 := Fr.app N0 M1
  show G (T1.setTop (mkF m 6 #[.val (.int (Int32.ofNat o)), .val (.int (Int32.ofNat ds.length)), .val (.ref t)] [(.int (Int32.ofNat cs.length)), (.int (Int32.ofNat ds.length)), (.int (Int32.ofNat o))]))
  refine own_callS X1 hx hZ hG hown (ow hw 164 rfl) (ow hw 165 rfl) (ow hw 8 rfl) (ow hw 166 rfl) (by decide) 0 (own_cboc l Z a0 hw (Int32.ofNat o) (Int32.ofNat ds.length) (Int32.ofNat cs.length) fmt h0 O0 (own_or3 (own_nn (by omega)) (own_nn (by omega)) (own_nn (by omega))) (by rw [own_subN (by omega)]; exact own_nlt (by omega) (by omega)) g8_hfmt g9_S) (by decide) (by decide) e1 (by rw [hml]; rfl) (lenOf own_pd23 rfl) (argsL := [(.int (Int32.ofNat o)), (.int (Int32.ofNat ds.length)), (.int (Int32.ofNat cs.length))]) (rest := []) rfl rfl (Nat.le_of_eq rfl) (hb hby d39_6) (by decide) (by decide) ?_
  intro T2 h2 v2 L2 X2 e2 q2
  obtain ⟨rfl, M2, rfl⟩ := q2
  have N2 := Fr.app N1 M2
  show G (T2.setTop (mkF m 9 #[.val (.int (Int32.ofNat o)), .val (.int (Int32.ofNat ds.length)), .val (.ref t)] [(.int (Int32.ofNat o))]))
  refine hG _ _ (fun t_ k_ => XS.pop X2.here hx rfl (hb hby d39_9) rfl rfl k_) ?_
  show G (T2.setTop (mkF m 10 #[.val (.int (Int32.ofNat o)), .val (.int (Int32.ofNat ds.length)), .val (.ref t)] []))
  exact own_retV hR hret X2 hx (hb hby d39_10) (by decide) (by decide) (by rw [e2]; exact ⟨rfl, N2, rfl⟩)
theorem own_pd25 : parseMethodDescriptor "([BI[BII)I" = some ⟨[(.array .byte), .int, (.array .byte), .int, .int], some .int⟩ := by decide +kernel
set_option maxRecDepth 65536 in
set_option maxHeartbeats 40000000 in
theorem own_bcmp5 (l : Launch) (Z : State) (a0 : Array Value) (hw : ∀ d ∈ tables_1, d.before a0 Z = true) (t : Addr) (kt : ClassId) (vs : List Value) (cs : List Int32) (ds : List Int32) (o : Nat) (fmt : Value) (b : Addr) (kb : ClassId) (h0 : Heap) (O0 : own_Old Z h0) (g0_V : Arv Z h0 t kt .byte (Int32.ofNat (2 * cs.length)) vs (.int 0)) (g1_hcap : cs.length ≤ 4) (g2_h16 : ∀ c ∈ cs, 0 ≤ c.toInt ∧ c.toInt ≤ 65535) (g3_hi16 : own_is16 cs vs) (g4_hds : own_from cs o ds) (g5_S : Sta Z Z.heap "java/lang/StringUTF16" "$assertionsDisabled" "Z" (.int 1)) (g6_S : Sta Z Z.heap "java/lang/StringUTF16" "HI_BYTE_SHIFT" "I" (.int 0)) (g7_S : Sta Z Z.heap "java/lang/StringUTF16" "LO_BYTE_SHIFT" "I" (.int 8)) (g8_hfmt : fmt.isRef = true) (g9_S : Sta Z Z.heap "jdk/internal/util/Preconditions" "SIOOBE_FORMATTER" "Ljava/util/function/BiFunction;" fmt) (g10_V : Arv Z h0 b kb .byte (Int32.ofNat ds.length) [] (.int 0)) (g11_G : Z.heap.size ≤ b) (g12_hne : t ≠ b) :
    own_Con l Z (⟨"java/lang/StringUTF16", "compress", "([BI[BII)I"⟩ : MethodName) jdk_52_method_22_code 7 (some .int) [] ({ frames := 3, cells := 0, slots := 0, locals := 43 } : Room) #[(.ref t), (.int (Int32.ofNat o)), (.ref b), (.int 0), (.int (Int32.ofNat ds.length))] h0 (fun rv rh rL => ∃ (r : Int32) (ws : List Value), rv = some (.int r) ∧ own_Fr Z rL ∧ Keep h0 rh [b] ∧ (Arv Z rh b kb .byte (Int32.ofNat ds.length) ws (.int 0)) ∧ ((r = (Int32.ofNat ds.length) ∧ (∀ c ∈ ds, ¬ ((255 : Int32) < c)) ∧ ws = (ds.map fun c => Value.int c.toInt8.toInt32)) ∨ (∃ k, k < ds.length ∧ r = Int32.ofNat k ∧ (255 : Int32) < ds.getD k 0))) := by
  refine own_intro (plainFor_of_name (by first | (simp [plainName, overriddenIn]; done) | decide +kernel)) ?_
  intro p e s m below meth c s₁ G hx hby hml hown hnm hret hZ X0 e0 hG hR
  have N0 := Fr.nil Z.heap.size
  refine own_entry (Ls := #[.val (.ref t), .val (.int (Int32.ofNat o)), .val (.ref b), .val (.int 0), .val (.int (Int32.ofNat ds.length)), .unset, .unset]) (by first | (simp [entryFrame, mkF, argsToLocals, Value.category]; done) | rfl) ?_
  show G (s₁.setTop (mkF m 0 #[.val (.ref t), .val (.int (Int32.ofNat o)), .val (.ref b), .val (.int 0), .val (.int (Int32.ofNat ds.length)), .unset, .unset] []))
  have hle := g4_hds.1
  refine hG _ _ (fun t_ k_ => XS.iloadN X0.here hx rfl (hb hby d38_0) rfl k_) ?_
  refine hG _ _ (fun t_ k_ => XS.iload X0.here hx rfl (hb hby d38_1) rfl k_) ?_
  refine hG _ _ (fun t_ k_ => XS.aloadN X0.here hx rfl (hb hby d38_3) rfl rfl k_) ?_
  show G (s₁.setTop (mkF m 4 #[.val (.ref t), .val (.int (Int32.ofNat o)), .val (.ref b), .val (.int 0), .val (.int (Int32.ofNat ds.length)), .unset, .unset] [(.ref t), (.int (Int32.ofNat ds.length)), (.int (Int32.ofNat o))]))
  refine own_callS X0 hx hZ hG hown (ow hw 161 rfl) (ow hw 162 rfl) (ow hw 65 rfl) (ow hw 163 rfl) (by decide) 0 (own_ucboc l Z a0 hw t kt vs cs ds o fmt h0 O0 g0_V g1_hcap g2_h16 g3_hi16 g4_hds g5_S g6_S g7_S g8_hfmt g9_S) (by decide) (by decide) e0 (by rw [hml]; rfl) (lenOf own_pd24 rfl) (argsL := [(.int (Int32.ofNat o)), (.int (Int32.ofNat ds.length)), (.ref t)]) (rest := []) rfl rfl (Nat.le_of_eq rfl) (hb hby d38_4) (by decide) (by decide) ?_
  intro T1 h1 v1 L1 X1 e1 q1
  obtain ⟨rfl, M1, rfl⟩ := q1
  have N1 := Fr.app N0 M1
  show G (T1.setTop (mkF m 7 #[.val (.ref t), .val (.int (Int32.ofNat o)), .val (.ref b), .val (.int 0), .val (.int (Int32.ofNat ds.length)), .unset, .unset] []))
  refine hG _ _ (fun t_ k_ => XS.iconst X1.here hx rfl (hb hby d38_7) k_) ?_
  refine hG _ _ (fun t_ k_ => XS.istore X1.here hx rfl (hb hby d38_8) rfl (l' := #[.val (.ref t), .val (.int (Int32.ofNat o)), .val (.ref b), .val (.int 0), .val (.int (Int32.ofNat ds.length)), .val (.int 0), .unset]) rfl k_) ?_
  show G (T1.setTop (mkF m 10 #[.val (.ref t), .val (.int (Int32.ofNat o)), .val (.ref b), .val (.int 0), .val (.int (Int32.ofNat ds.length)), .val (.int 0), .unset] []))
  have loop : ∀ (r i : Nat) (T : State) (locs : List Loc) (hT : Heap) (ws : List Value) (ch : Slot), r + i = ds.length → Stand p l e ({ frames := 3, cells := 0, slots := 0, locals := 43 } : Room) s m #[(.ref t), (.int (Int32.ofNat o)), (.ref b), (.int 0), (.int (Int32.ofNat ds.length))] below meth c T locs 0 0 → T.heap = hT → Keep h0 hT [b] → own_Old Z hT → own_Fr Z locs → Arv Z hT b kb .byte (Int32.ofNat ds.length) ws (.int 0) → ws.length = ds.length → (∀ j, j < i → ws.getD j (.int 0) = Value.int (ds.getD j 0).toInt8.toInt32) → (∀ j, j < i → ¬ ((255 : Int32) < ds.getD j 0)) → One ch → G (T.setTop (mkF m 10 #[.val (.ref t), .val (.int (Int32.ofNat (o + i))), .val (.ref b), .val (.int (Int32.ofNat i)), .val (.int (Int32.ofNat ds.length)), .val (.int (Int32.ofNat i)), ch] [])) := by
    intro r
    induction r with
    | zero =>
      intro i T locs hT ws ch hri X eT K O N V hl hv hs hch
      have hi : i = ds.length := by omega
      subst hi
      have hvs := own_mapEq (fun c : Int32 => Value.int c.toInt8.toInt32) ds ws (.int 0) 0 hl hv
      refine hG _ _ (fun t_ k_ => XS.iload X.here hx rfl (hb hby d38_10) rfl k_) ?_
      refine hG _ _ (fun t_ k_ => XS.iload X.here hx rfl (hb hby d38_12) rfl k_) ?_
      show G (T.setTop (mkF m 14 #[.val (.ref t), .val (.int (Int32.ofNat (o + ds.length))), .val (.ref b), .val (.int (Int32.ofNat ds.length)), .val (.int (Int32.ofNat ds.length)), .val (.int (Int32.ofNat ds.length)), ch] [(.int (Int32.ofNat ds.length)), (.int (Int32.ofNat ds.length))]))
      refine hG _ _ (fun t_ k_ => XS.icmpYes X.here hx rfl (pc0 := 14) (pc' := 53) rfl (hb hby d38_14) rfl (flt (own_nlt (Nat.le_refl _) (by omega))).2.1 (by decide) (by decide) k_) ?_
      show G (T.setTop (mkF m 53 #[.val (.ref t), .val (.int (Int32.ofNat (o + ds.length))), .val (.ref b), .val (.int (Int32.ofNat ds.length)), .val (.int (Int32.ofNat ds.length)), .val (.int (Int32.ofNat ds.length)), ch] []))
      refine hG _ _ (fun t_ k_ => XS.iload X.here hx rfl (hb hby d38_53) rfl k_) ?_
      show G (T.setTop (mkF m 55 #[.val (.ref t), .val (.int (Int32.ofNat (o + ds.length))), .val (.ref b), .val (.int (Int32.ofNat ds.length)), .val (.int (Int32.ofNat ds.length)), .val (.int (Int32.ofNat ds.length)), ch] [(.int (Int32.ofNat ds.length))]))
      exact own_retI hR hret X hx (hb hby d38_55) (by decide) (by decide) (by rw [eT]; exact ⟨(Int32.ofNat ds.length), ws, rfl, N, K, V, (Or.inl ⟨rfl, own_allD ds 0 hs, hvs⟩)⟩)
    | succ r ih =>
      intro i T locs hT ws ch hri X eT K O N V hl hv hs hch
      have hi : i < ds.length := by omega
      have hq : o + i < cs.length := by omega
      refine hG _ _ (fun t_ k_ => XS.iload X.here hx rfl (hb hby d38_10) rfl k_) ?_
      refine hG _ _ (fun t_ k_ => XS.iload X.here hx rfl (hb hby d38_12) rfl k_) ?_
      show G (T.setTop (mkF m 14 #[.val (.ref t), .val (.int (Int32.ofNat (o + i))), .val (.ref b), .val (.int (Int32.ofNat i)), .val (.int (Int32.ofNat ds.length)), .val (.int (Int32.ofNat i)), ch] [(.int (Int32.ofNat ds.length)), (.int (Int32.ofNat i))]))
      refine hG _ _ (fun t_ k_ => XS.icmpNo X.here hx rfl (hb hby d38_14) rfl (tlt (own_lt hi (by omega))).2.1 k_) ?_
      show G (T.setTop (mkF m 17 #[.val (.ref t), .val (.int (Int32.ofNat (o + i))), .val (.ref b), .val (.int (Int32.ofNat i)), .val (.int (Int32.ofNat ds.length)), .val (.int (Int32.ofNat i)), ch] []))
      refine hG _ _ (fun t_ k_ => XS.aloadN X.here hx rfl (hb hby d38_17) rfl rfl k_) ?_
      refine hG _ _ (fun t_ k_ => XS.iloadN X.here hx rfl (hb hby d38_18) rfl k_) ?_
      show G (T.setTop (mkF m 19 #[.val (.ref t), .val (.int (Int32.ofNat (o + i))), .val (.ref b), .val (.int (Int32.ofNat i)), .val (.int (Int32.ofNat ds.length)), .val (.int (Int32.ofNat i)), ch] [(.int (Int32.ofNat (o + i))), (.ref t)]))
      refine own_callS X hx hZ hG hown (ow hw 138 rfl) (ow hw 139 rfl) (ow hw 65 rfl) (ow hw 140 rfl) (by decide) 0 (own_gch l Z a0 hw t kt (2 * cs.length) vs (o + i) (own_lo (cs.getD (o + i) 0)) (own_hi (cs.getD (o + i) 0)) hT O (g0_V.keep K (ninS g12_hne nin0)) (by omega) (by omega) (g3_hi16.2 (o + i) hq).1 (g3_hi16.2 (o + i) hq).2 g5_S g6_S g7_S) (by decide) (by decide) eT (by rw [hml]; rfl) (lenOf own_pd1 rfl) (argsL := [(.ref t), (.int (Int32.ofNat (o + i)))]) (rest := []) rfl rfl (Nat.le_of_eq rfl) (hb hby d38_19) (by decide) (by decide) ?_
      intro T2 h2 v2 L2 X2 e2 q2
      obtain ⟨rfl, M2, rfl⟩ := q2
      have N2 := Fr.app N M2
      show G (T2.setTop (mkF m 22 #[.val (.ref t), .val (.int (Int32.ofNat (o + i))), .val (.ref b), .val (.int (Int32.ofNat i)), .val (.int (Int32.ofNat ds.length)), .val (.int (Int32.ofNat i)), ch] [(.int (own_join (own_lo (cs.getD (o + i) 0)) (own_hi (cs.getD (o + i) 0))))]))
      rw [own_join_eq (g2_h16 _ (own_getD_mem cs (o + i) 0 hq)), ← g4_hds.2 i hi]
      show G (T2.setTop (mkF m 22 #[.val (.ref t), .val (.int (Int32.ofNat (o + i))), .val (.ref b), .val (.int (Int32.ofNat i)), .val (.int (Int32.ofNat ds.length)), .val (.int (Int32.ofNat i)), ch] [(.int (ds.getD i 0))]))
      refine hG _ _ (fun t_ k_ => XS.istoreS X2.here hx rfl (hb hby d38_22) rfl rfl hch k_) ?_
      refine hG _ _ (fun t_ k_ => XS.iload X2.here hx rfl (hb hby d38_24) rfl k_) ?_
      refine hG _ _ (fun t_ k_ => XS.sipush X2.here hx rfl (hb hby d38_26) k_) ?_
      show G (T2.setTop (mkF m 29 #[.val (.ref t), .val (.int (Int32.ofNat (o + i))), .val (.ref b), .val (.int (Int32.ofNat i)), .val (.int (Int32.ofNat ds.length)), .val (.int (Int32.ofNat i)), .val (.int (ds.getD i 0))] [(.int 255), (.int (ds.getD i 0))]))
      by_cases hc29_3 : (255 : Int32) < (ds.getD i 0)
      · skip
        refine hG _ _ (fun t_ k_ => XS.icmpNo X2.here hx rfl (hb hby d38_29) rfl (tlt hc29_3).2.2.2 k_) ?_
        show G (T2.setTop (mkF m 32 #[.val (.ref t), .val (.int (Int32.ofNat (o + i))), .val (.ref b), .val (.int (Int32.ofNat i)), .val (.int (Int32.ofNat ds.length)), .val (.int (Int32.ofNat i)), .val (.int (ds.getD i 0))] []))
        refine hG _ _ (fun t_ k_ => XS.iload X2.here hx rfl (hb hby d38_32) rfl k_) ?_
        show G (T2.setTop (mkF m 34 #[.val (.ref t), .val (.int (Int32.ofNat (o + i))), .val (.ref b), .val (.int (Int32.ofNat i)), .val (.int (Int32.ofNat ds.length)), .val (.int (Int32.ofNat i)), .val (.int (ds.getD i 0))] [(.int (Int32.ofNat i))]))
        exact own_retI hR hret X2 hx (hb hby d38_34) (by decide) (by decide) (by rw [e2]; exact ⟨(Int32.ofNat i), ws, rfl, N2, K, V, (Or.inr ⟨i, hi, rfl, hc29_3⟩)⟩)
      · skip
        refine hG _ _ (fun t_ k_ => XS.icmpYes X2.here hx rfl (pc0 := 29) (pc' := 35) rfl (hb hby d38_29) rfl (flt hc29_3).2.2.2 (by decide) (by decide) k_) ?_
        show G (T2.setTop (mkF m 35 #[.val (.ref t), .val (.int (Int32.ofNat (o + i))), .val (.ref b), .val (.int (Int32.ofNat i)), .val (.int (Int32.ofNat ds.length)), .val (.int (Int32.ofNat i)), .val (.int (ds.getD i 0))] []))
        refine hG _ _ (fun t_ k_ => XS.aloadN X2.here hx rfl (hb hby d38_35) rfl rfl k_) ?_
        refine hG _ _ (fun t_ k_ => XS.iloadN X2.here hx rfl (hb hby d38_36) rfl k_) ?_
        refine hG _ _ (fun t_ k_ => XS.iload X2.here hx rfl (hb hby d38_37) rfl k_) ?_
        refine hG _ _ (fun t_ k_ => XS.i2b X2.here hx rfl (hb hby d38_39) rfl k_) ?_
        show G (T2.setTop (mkF m 40 #[.val (.ref t), .val (.int (Int32.ofNat (o + i))), .val (.ref b), .val (.int (Int32.ofNat i)), .val (.int (Int32.ofNat ds.length)), .val (.int (Int32.ofNat i)), .val (.int (ds.getD i 0))] [(.int ((ds.getD i 0).toInt8.toInt32)), (.int (Int32.ofNat i)), (.ref b)]))
        obtain ⟨c4, Ar4, q4, S4, M4, H4, G4⟩ := id V
        obtain ⟨T4, h4, X4, e4, W4, st4⟩ := stB X2 hx hZ e2 Ar4 (j := (Int32.ofNat i)) (inb_of S4 ⟨own_nn (by omega), own_lt hi (by omega)⟩) (g := (mkF m 40 #[.val (.ref t), .val (.int (Int32.ofNat (o + i))), .val (.ref b), .val (.int (Int32.ofNat i)), .val (.int (Int32.ofNat ds.length)), .val (.int (Int32.ofNat i)), .val (.int (ds.getD i 0))] [(.int ((ds.getD i 0).toInt8.toInt32)), (.int (Int32.ofNat i)), (.ref b)])) rfl rfl (hb hby d38_40)
        refine hG _ _ st4 ?_
        have K4 : Keep h0 h4 [b] := K.wr W4 (Or.inl (List.mem_of_getElem? (i := 0) rfl))
        have O4 : own_Old Z h4 := O.wr W4 g11_G
        have V4 : Arv Z h4 b kb .byte (Int32.ofNat ds.length) (ws.set i (.int (nar .byte ((ds.getD i 0).toInt8.toInt32)))) (.int 0) := Arv.set Ar4 q4 S4 M4 H4 G4 (fits_nar_byte _) W4 i (own_clamp (by omega)) (by omega)
        have N4 := Fr.snoc X4 N2 g11_G
        show G (T4.setTop (mkF m 41 #[.val (.ref t), .val (.int (Int32.ofNat (o + i))), .val (.ref b), .val (.int (Int32.ofNat i)), .val (.int (Int32.ofNat ds.length)), .val (.int (Int32.ofNat i)), .val (.int (ds.getD i 0))] []))
        refine hG _ _ (fun t_ k_ => XS.iinc X4.here hx rfl (hb hby d38_41) rfl (l' := #[.val (.ref t), .val (.int ((Int32.ofNat (o + i)) + (1 : Int32))), .val (.ref b), .val (.int (Int32.ofNat i)), .val (.int (Int32.ofNat ds.length)), .val (.int (Int32.ofNat i)), .val (.int (ds.getD i 0))]) rfl k_) ?_
        refine hG _ _ (fun t_ k_ => XS.iinc X4.here hx rfl (hb hby d38_44) rfl (l' := #[.val (.ref t), .val (.int ((Int32.ofNat (o + i)) + (1 : Int32))), .val (.ref b), .val (.int ((Int32.ofNat i) + (1 : Int32))), .val (.int (Int32.ofNat ds.length)), .val (.int (Int32.ofNat i)), .val (.int (ds.getD i 0))]) rfl k_) ?_
        refine hG _ _ (fun t_ k_ => XS.iinc X4.here hx rfl (hb hby d38_47) rfl (l' := #[.val (.ref t), .val (.int ((Int32.ofNat (o + i)) + (1 : Int32))), .val (.ref b), .val (.int ((Int32.ofNat i) + (1 : Int32))), .val (.int (Int32.ofNat ds.length)), .val (.int ((Int32.ofNat i) + (1 : Int32))), .val (.int (ds.getD i 0))]) rfl k_) ?_
        refine hG _ _ (fun t_ k_ => XS.goto X4.here hx rfl (pc0 := 50) (pc' := 10) rfl (hb hby d38_50) (by decide) (by decide) k_) ?_
        show G (T4.setTop (mkF m 10 #[.val (.ref t), .val (.int ((Int32.ofNat (o + i)) + (1 : Int32))), .val (.ref b), .val (.int ((Int32.ofNat i) + (1 : Int32))), .val (.int (Int32.ofNat ds.length)), .val (.int ((Int32.ofNat i) + (1 : Int32))), .val (.int (ds.getD i 0))] []))
        rw [own_inc i, own_inc (o + i)]
        exact ih (i + 1) _ _ _ _ _ (by omega) X4 e4 K4 O4 N4 V4 (by rw [List.length_set]; exact hl) (own_setNext (fun c => Value.int c.toInt8.toInt32) _ _ (by omega) (by rw [own_nb]) hv) (own_nextD (P := fun c => ¬ ((255 : Int32) < c)) hs hc29_3) (One.val rfl)
  exact loop ds.length 0 _ _ _ _ _ rfl X1 e1 (Keep.refl h0 [b]) O0 N1 (g10_V.pad (pad_rep [] (.int 0) ds.length)) (by simp) (fun j hj => absurd hj (Nat.not_lt_zero j)) (fun j hj => absurd hj (Nat.not_lt_zero j)) One.u
set_option maxRecDepth 65536 in
set_option maxHeartbeats 40000000 in
theorem own_bcmp3 (l : Launch) (Z : State) (a0 : Array Value) (hw : ∀ d ∈ tables_1, d.before a0 Z = true) (t : Addr) (kt : ClassId) (vs : List Value) (cs : List Int32) (ds : List Int32) (o : Nat) (fmt : Value) (h0 : Heap) (O0 : own_Old Z h0) (g0_V : Arv Z h0 t kt .byte (Int32.ofNat (2 * cs.length)) vs (.int 0)) (g1_hcap : cs.length ≤ 4) (g2_h16 : ∀ c ∈ cs, 0 ≤ c.toInt ∧ c.toInt ≤ 65535) (g3_hi16 : own_is16 cs vs) (g4_hds : own_from cs o ds) (g5_S : Sta Z Z.heap "java/lang/StringUTF16" "$assertionsDisabled" "Z" (.int 1)) (g6_S : Sta Z Z.heap "java/lang/StringUTF16" "HI_BYTE_SHIFT" "I" (.int 0)) (g7_S : Sta Z Z.heap "java/lang/StringUTF16" "LO_BYTE_SHIFT" "I" (.int 8)) (g8_hfmt : fmt.isRef = true) (g9_S : Sta Z Z.heap "jdk/internal/util/Preconditions" "SIOOBE_FORMATTER" "Ljava/util/function/BiFunction;" fmt) (g10_hnf : ¬ (o = 0 ∧ ds.length = cs.length)) :
    own_Con l Z (⟨"java/lang/StringUTF16", "compress", "([BII)[B"⟩ : MethodName) jdk_52_method_17_code 6 (some (.array .byte)) [] ({ frames := 4, cells := 2, slots := 12, locals := 70 } : Room) #[(.ref t), (.int (Int32.ofNat o)), (.int (Int32.ofNat ds.length))] h0 (fun rv rh rL => ∃ (u : Addr) (ku : ClassId) (nb : Int32) (us : List Value), rv = some (.ref u) ∧ own_Fr Z rL ∧ Keep h0 rh [] ∧ h0.size ≤ u ∧ (Arv Z rh u ku .byte nb us (.int 0)) ∧ (((∀ c ∈ ds, ¬ ((255 : Int32) < c)) ∧ nb = (Int32.ofNat ds.length) ∧ us = (ds.map fun c => Value.int c.toInt8.toInt32)) ∨ ((∃ k, k < ds.length ∧ (255 : Int32) < ds.getD k 0) ∧ nb = (Int32.ofNat (2 * ds.length)) ∧ own_is16 ds us))) := by
  refine own_intro (plainFor_of_name (by first | (simp [plainName, overriddenIn]; done) | decide +kernel)) ?_
  intro p e s m below meth c s₁ G hx hby hml hown hnm hret hZ X0 e0 hG hR
  have N0 := Fr.nil Z.heap.size
  refine own_entry (Ls := #[.val (.ref t), .val (.int (Int32.ofNat o)), .val (.int (Int32.ofNat ds.length)), .unset, .unset, .unset]) (by first | (simp [entryFrame, mkF, argsToLocals, Value.category]; done) | rfl) ?_
  show G (s₁.setTop (mkF m 0 #[.val (.ref t), .val (.int (Int32.ofNat o)), .val (.int (Int32.ofNat ds.length)), .unset, .unset, .unset] []))
  have hle := g4_hds.1
  refine hG _ _ (fun t_ k_ => XS.iloadN X0.here hx rfl (hb hby d37_0) rfl k_) ?_
  show G (s₁.setTop (mkF m 1 #[.val (.ref t), .val (.int (Int32.ofNat o)), .val (.int (Int32.ofNat ds.length)), .unset, .unset, .unset] [(.int (Int32.ofNat ds.length))]))
  obtain ⟨T1, h1, k1, X1, e1, E1, A1, st1⟩ := newP X0 hx hZ (ow hw 20 rfl) e0 (g := (mkF m 1 #[.val (.ref t), .val (.int (Int32.ofNat o)), .val (.int (Int32.ofNat ds.length)), .unset, .unset, .unset] [(.int (Int32.ofNat ds.length))])) rfl (hb hby d37_1) rfl (own_nn (by omega)) (cap := 4) (by rw [own_clamp (by omega)]; omega) (by decide) (by decide) (by decide)
  obtain ⟨b1, z1⟩ : ∃ z, z = h0.size := ⟨_, rfl⟩
  rw [← z1] at A1 st1
  refine hG _ _ st1 ?_
  have K1 : Keep h0 h1 [] := (Keep.refl h0 []).ext E1
  have O1 : own_Old Z h1 := O0.ext E1
  have V1 : Arv Z h1 b1 k1 .byte (Int32.ofNat ds.length) [] (.int 0) := Arv.new A1 (own_nn (by omega))
  show G (T1.setTop (mkF m 3 #[.val (.ref t), .val (.int (Int32.ofNat o)), .val (.int (Int32.ofNat ds.length)), .unset, .unset, .unset] [(.ref b1)]))
  refine hG _ _ (fun t_ k_ => XS.astoreN X1.here hx rfl (hb hby d37_3) rfl rfl (l' := #[.val (.ref t), .val (.int (Int32.ofNat o)), .val (.int (Int32.ofNat ds.length)), .val (.ref b1), .unset, .unset]) rfl k_) ?_
  refine hG _ _ (fun t_ k_ => XS.aloadN X1.here hx rfl (hb hby d37_4) rfl rfl k_) ?_
  refine hG _ _ (fun t_ k_ => XS.iloadN X1.here hx rfl (hb hby d37_5) rfl k_) ?_
  refine hG _ _ (fun t_ k_ => XS.aloadN X1.here hx rfl (hb hby d37_6) rfl rfl k_) ?_
  refine hG _ _ (fun t_ k_ => XS.iconst X1.here hx rfl (hb hby d37_7) k_) ?_
  refine hG _ _ (fun t_ k_ => XS.iloadN X1.here hx rfl (hb hby d37_8) rfl k_) ?_
  show G (T1.setTop (mkF m 9 #[.val (.ref t), .val (.int (Int32.ofNat o)), .val (.int (Int32.ofNat ds.length)), .val (.ref b1), .unset, .unset] [(.int (Int32.ofNat ds.length)), (.int 0), (.ref b1), (.int (Int32.ofNat o)), (.ref t)]))
  have f3 := (g0_V.ext E1)
  refine own_callS X1 hx hZ hG hown (ow hw 158 rfl) (ow hw 159 rfl) (ow hw 65 rfl) (ow hw 160 rfl) (by decide) 0 (own_bcmp5 l Z a0 hw t kt vs cs ds o fmt b1 k1 h1 O1 f3 g1_hcap g2_h16 g3_hi16 g4_hds g5_S g6_S g7_S g8_hfmt g9_S V1 (own_ge O0 (Nat.le_of_eq z1.symm)) (own_ne g0_V.lt (Nat.le_of_eq z1.symm))) (by decide) (by decide) e1 (by rw [hml]; rfl) (lenOf own_pd25 rfl) (argsL := [(.ref t), (.int (Int32.ofNat o)), (.ref b1), (.int 0), (.int (Int32.ofNat ds.length))]) (rest := []) rfl rfl (Nat.le_of_eq rfl) (hb hby d37_9) (by decide) (by decide) ?_
  intro T2 h2 v2 L2 X2 e2 q2
  obtain ⟨r_2, ws_2, rfl, M2, J2, r2_0, r2_1⟩ := q2
  have N2 := Fr.app N0 M2
  have K2 : Keep h0 h2 [] := K1.trans J2 (allS (Or.inr (Nat.le_trans (Keep.refl h0 []).1 (Nat.le_of_eq z1.symm))) all0)
  have O2 : own_Old Z h2 := O1.keep J2 (allS (own_ge O0 (Nat.le_of_eq z1.symm)) all0)
  show G (T2.setTop (mkF m 12 #[.val (.ref t), .val (.int (Int32.ofNat o)), .val (.int (Int32.ofNat ds.length)), .val (.ref b1), .unset, .unset] [(.int r_2)]))
  rcases r2_1 with ⟨rfl, hall, rfl⟩ | ⟨kq, hkq, rfl, hbig⟩
  · skip
    show G (T2.setTop (mkF m 12 #[.val (.ref t), .val (.int (Int32.ofNat o)), .val (.int (Int32.ofNat ds.length)), .val (.ref b1), .unset, .unset] [(.int (Int32.ofNat ds.length))]))
    refine hG _ _ (fun t_ k_ => XS.istore X2.here hx rfl (hb hby d37_12) rfl (l' := #[.val (.ref t), .val (.int (Int32.ofNat o)), .val (.int (Int32.ofNat ds.length)), .val (.ref b1), .val (.int (Int32.ofNat ds.length)), .unset]) rfl k_) ?_
    refine hG _ _ (fun t_ k_ => XS.iload X2.here hx rfl (hb hby d37_14) rfl k_) ?_
    refine hG _ _ (fun t_ k_ => XS.iloadN X2.here hx rfl (hb hby d37_16) rfl k_) ?_
    show G (T2.setTop (mkF m 17 #[.val (.ref t), .val (.int (Int32.ofNat o)), .val (.int (Int32.ofNat ds.length)), .val (.ref b1), .val (.int (Int32.ofNat ds.length)), .unset] [(.int (Int32.ofNat ds.length)), (.int (Int32.ofNat ds.length))]))
    refine hG _ _ (fun t_ k_ => XS.icmpYes X2.here hx rfl (pc0 := 17) (pc' := 64) rfl (hb hby d37_17) rfl (teq (rfl : (Int32.ofNat ds.length) = (Int32.ofNat ds.length))).1 (by decide) (by decide) k_) ?_
    show G (T2.setTop (mkF m 64 #[.val (.ref t), .val (.int (Int32.ofNat o)), .val (.int (Int32.ofNat ds.length)), .val (.ref b1), .val (.int (Int32.ofNat ds.length)), .unset] []))
    refine hG _ _ (fun t_ k_ => XS.aloadN X2.here hx rfl (hb hby d37_64) rfl rfl k_) ?_
    show G (T2.setTop (mkF m 65 #[.val (.ref t), .val (.int (Int32.ofNat o)), .val (.int (Int32.ofNat ds.length)), .val (.ref b1), .val (.int (Int32.ofNat ds.length)), .unset] [(.ref b1)]))
    exact own_retA hR hret rfl rfl X2 hx (hb hby d37_65) (by decide) (by decide) (by rw [e2]; exact ⟨b1, k1, (Int32.ofNat ds.length), (ds.map fun c => Value.int c.toInt8.toInt32), rfl, N2, K2, (Nat.le_trans (Keep.refl h0 []).1 (Nat.le_of_eq z1.symm)), r2_0, (Or.inl ⟨hall, rfl, rfl⟩)⟩)
  · skip
    show G (T2.setTop (mkF m 12 #[.val (.ref t), .val (.int (Int32.ofNat o)), .val (.int (Int32.ofNat ds.length)), .val (.ref b1), .unset, .unset] [(.int (Int32.ofNat kq))]))
    refine hG _ _ (fun t_ k_ => XS.istore X2.here hx rfl (hb hby d37_12) rfl (l' := #[.val (.ref t), .val (.int (Int32.ofNat o)), .val (.int (Int32.ofNat ds.length)), .val (.ref b1), .val (.int (Int32.ofNat kq)), .unset]) rfl k_) ?_
    refine hG _ _ (fun t_ k_ => XS.iload X2.here hx rfl (hb hby d37_14) rfl k_) ?_
    refine hG _ _ (fun t_ k_ => XS.iloadN X2.here hx rfl (hb hby d37_16) rfl k_) ?_
    show G (T2.setTop (mkF m 17 #[.val (.ref t), .val (.int (Int32.ofNat o)), .val (.int (Int32.ofNat ds.length)), .val (.ref b1), .val (.int (Int32.ofNat kq)), .unset] [(.int (Int32.ofNat ds.length)), (.int (Int32.ofNat kq))]))
    refine hG _ _ (fun t_ k_ => XS.icmpNo X2.here hx rfl (hb hby d37_17) rfl (feq (own_ofNat_ne hkq (by omega))).1 k_) ?_
    show G (T2.setTop (mkF m 20 #[.val (.ref t), .val (.int (Int32.ofNat o)), .val (.int (Int32.ofNat ds.length)), .val (.ref b1), .val (.int (Int32.ofNat kq)), .unset] []))
    refine hG _ _ (fun t_ k_ => XS.aloadN X2.here hx rfl (hb hby d37_20) rfl rfl k_) ?_
    refine hG _ _ (fun t_ k_ => XS.iloadN X2.here hx rfl (hb hby d37_21) rfl k_) ?_
    refine hG _ _ (fun t_ k_ => XS.iconst X2.here hx rfl (hb hby d37_22) k_) ?_
    refine hG _ _ (fun t_ k_ => XS.ishl X2.here hx rfl (hb hby d37_23) rfl k_) ?_
    show G (T2.setTop (mkF m 24 #[.val (.ref t), .val (.int (Int32.ofNat o)), .val (.int (Int32.ofNat ds.length)), .val (.ref b1), .val (.int (Int32.ofNat kq)), .unset] [(.int ((Int32.ofNat o) <<< ((1 : Int32) &&& 31))), (.ref t)]))
    rw [own_shl1 o]
    show G (T2.setTop (mkF m 24 #[.val (.ref t), .val (.int (Int32.ofNat o)), .val (.int (Int32.ofNat ds.length)), .val (.ref b1), .val (.int (Int32.ofNat kq)), .unset] [(.int (Int32.ofNat (2 * o))), (.ref t)]))
    refine hG _ _ (fun t_ k_ => XS.iloadN X2.here hx rfl (hb hby d37_24) rfl k_) ?_
    refine hG _ _ (fun t_ k_ => XS.iloadN X2.here hx rfl (hb hby d37_25) rfl k_) ?_
    refine hG _ _ (fun t_ k_ => XS.iadd X2.here hx rfl (hb hby d37_26) rfl k_) ?_
    show G (T2.setTop (mkF m 27 #[.val (.ref t), .val (.int (Int32.ofNat o)), .val (.int (Int32.ofNat ds.length)), .val (.ref b1), .val (.int (Int32.ofNat kq)), .unset] [(.int ((Int32.ofNat o) + (Int32.ofNat ds.length))), (.int (Int32.ofNat (2 * o))), (.ref t)]))
    rw [show Int32.ofNat o + Int32.ofNat ds.length = Int32.ofNat (o + ds.length) from own_addN2 _ _]
    show G (T2.setTop (mkF m 27 #[.val (.ref t), .val (.int (Int32.ofNat o)), .val (.int (Int32.ofNat ds.length)), .val (.ref b1), .val (.int (Int32.ofNat kq)), .unset] [(.int (Int32.ofNat (o + ds.length))), (.int (Int32.ofNat (2 * o))), (.ref t)]))
    refine own_callS X2 hx hZ hG hown (ow hw 128 rfl) (ow hw 129 rfl) (ow hw 65 rfl) (ow hw 130 rfl) (by decide) 2 (own_nbl l Z a0 hw (o + ds.length) h2 O2 (by omega)) (by decide) (by decide) e2 (by rw [hml]; rfl) (lenOf own_pd3 rfl) (argsL := [(.int (Int32.ofNat (o + ds.length)))]) (rest := [(.int (Int32.ofNat (2 * o))), (.ref t)]) rfl rfl (Nat.le_of_eq rfl) (hb hby d37_27) (by decide) (by decide) ?_
    intro T4 h4 v4 L4 X4 e4 q4
    obtain ⟨rfl, M4, rfl⟩ := q4
    have N4 := Fr.app N2 M4
    show G (T4.setTop (mkF m 30 #[.val (.ref t), .val (.int (Int32.ofNat o)), .val (.int (Int32.ofNat ds.length)), .val (.ref b1), .val (.int (Int32.ofNat kq)), .unset] [(.int (Int32.ofNat (2 * (o + ds.length)))), (.int (Int32.ofNat (2 * o))), (.ref t)]))
    rw [show 2 * (o + ds.length) = 2 * o + 2 * ds.length from by omega]
    show G (T4.setTop (mkF m 30 #[.val (.ref t), .val (.int (Int32.ofNat o)), .val (.int (Int32.ofNat ds.length)), .val (.ref b1), .val (.int (Int32.ofNat kq)), .unset] [(.int (Int32.ofNat (2 * o + 2 * ds.length))), (.int (Int32.ofNat (2 * o))), (.ref t)]))
    have f6 := (f3.keep J2 (ninS (own_ne g0_V.lt (Nat.le_of_eq z1.symm)) nin0))
    refine own_callS X4 hx hZ hG hown (ow hw 170 rfl) (ow hw 101 rfl) (ow hw 102 rfl) (ow hw 103 rfl) (by decide) 0 (own_cor l Z a0 hw t kt (2 * cs.length) vs (2 * o) (2 * ds.length) h2 O2 f6 ⟨by omega, by omega⟩ (by omega) (fun q => g10_hnf ⟨by omega, by omega⟩)) (by decide) (by decide) e4 (by rw [hml]; rfl) (lenOf own_pd20 rfl) (argsL := [(.ref t), (.int (Int32.ofNat (2 * o))), (.int (Int32.ofNat (2 * o + 2 * ds.length)))]) (rest := []) rfl rfl (Nat.le_of_eq rfl) (hb hby d37_30) (by decide) (by decide) ?_
    intro T5 h5 v5 L5 X5 e5 q5
    obtain ⟨u_5, ku_5, us_5, rfl, M5, J5, y5_0, r5_0, r5_1⟩ := q5
    have N5 := Fr.app N4 M5
    have K5 : Keep h0 h5 [] := K2.trans J5 all0
    have O5 : own_Old Z h5 := O2.keep J5 all0
    show G (T5.setTop (mkF m 33 #[.val (.ref t), .val (.int (Int32.ofNat o)), .val (.int (Int32.ofNat ds.length)), .val (.ref b1), .val (.int (Int32.ofNat kq)), .unset] [(.ref u_5)]))
    have hu16 := own_u16_cut g4_hds g3_hi16 r5_1
    refine hG _ _ (fun t_ k_ => XS.astore X5.here hx rfl (hb hby d37_33) rfl rfl (l' := #[.val (.ref t), .val (.int (Int32.ofNat o)), .val (.int (Int32.ofNat ds.length)), .val (.ref b1), .val (.int (Int32.ofNat kq)), .val (.ref u_5)]) rfl k_) ?_
    refine hG _ _ (fun t_ k_ => XS.aload X5.here hx rfl (hb hby d37_35) rfl rfl k_) ?_
    refine hG _ _ (fun t_ k_ => XS.iload X5.here hx rfl (hb hby d37_37) rfl k_) ?_
    show G (T5.setTop (mkF m 39 #[.val (.ref t), .val (.int (Int32.ofNat o)), .val (.int (Int32.ofNat ds.length)), .val (.ref b1), .val (.int (Int32.ofNat kq)), .val (.ref u_5)] [(.int (Int32.ofNat kq)), (.ref u_5)]))
    refine own_callS X5 hx hZ hG hown (ow hw 138 rfl) (ow hw 139 rfl) (ow hw 65 rfl) (ow hw 140 rfl) (by decide) 0 (own_gch l Z a0 hw u_5 ku_5 (2 * ds.length) us_5 kq (own_lo (ds.getD kq 0)) (own_hi (ds.getD kq 0)) h5 O5 r5_0 (by omega) (by omega) (hu16.2 kq hkq).1 (hu16.2 kq hkq).2 g5_S g6_S g7_S) (by decide) (by decide) e5 (by rw [hml]; rfl) (lenOf own_pd1 rfl) (argsL := [(.ref u_5), (.int (Int32.ofNat kq))]) (rest := []) rfl rfl (Nat.le_of_eq rfl) (hb hby d37_39) (by decide) (by decide) ?_
    intro T7 h7 v7 L7 X7 e7 q7
    obtain ⟨rfl, M7, rfl⟩ := q7
    have N7 := Fr.app N5 M7
    show G (T7.setTop (mkF m 42 #[.val (.ref t), .val (.int (Int32.ofNat o)), .val (.int (Int32.ofNat ds.length)), .val (.ref b1), .val (.int (Int32.ofNat kq)), .val (.ref u_5)] [(.int (own_join (own_lo (ds.getD kq 0)) (own_hi (ds.getD kq 0))))]))
    rw [own_join_eq (own_from_rng g4_hds g2_h16 _ (own_getD_mem ds kq 0 hkq))]
    show G (T7.setTop (mkF m 42 #[.val (.ref t), .val (.int (Int32.ofNat o)), .val (.int (Int32.ofNat ds.length)), .val (.ref b1), .val (.int (Int32.ofNat kq)), .val (.ref u_5)] [(.int (ds.getD kq 0))]))
    refine hG _ _ (fun t_ k_ => XS.sipush X7.here hx rfl (hb hby d37_42) k_) ?_
    show G (T7.setTop (mkF m 45 #[.val (.ref t), .val (.int (Int32.ofNat o)), .val (.int (Int32.ofNat ds.length)), .val (.ref b1), .val (.int (Int32.ofNat kq)), .val (.ref u_5)] [(.int 255), (.int (ds.getD kq 0))]))
    refine hG _ _ (fun t_ k_ => XS.icmpYes X7.here hx rfl (pc0 := 45) (pc' := 61) rfl (hb hby d37_45) rfl (tlt hbig).2.2.1 (by decide) (by decide) k_) ?_
    show G (T7.setTop (mkF m 61 #[.val (.ref t), .val (.int (Int32.ofNat o)), .val (.int (Int32.ofNat ds.length)), .val (.ref b1), .val (.int (Int32.ofNat kq)), .val (.ref u_5)] []))
    refine hG _ _ (fun t_ k_ => XS.aload X7.here hx rfl (hb hby d37_61) rfl rfl k_) ?_
    show G (T7.setTop (mkF m 63 #[.val (.ref t), .val (.int (Int32.ofNat o)), .val (.int (Int32.ofNat ds.length)), .val (.ref b1), .val (.int (Int32.ofNat kq)), .val (.ref u_5)] [(.ref u_5)]))
    exact own_retA hR hret rfl rfl X7 hx (hb hby d37_63) (by decide) (by decide) (by rw [e7]; exact ⟨u_5, ku_5, (Int32.ofNat (2 * ds.length)), us_5, rfl, N7, K5, (Nat.le_trans K2.1 y5_0), r5_0, (Or.inr ⟨⟨kq, hkq, hbig⟩, rfl, hu16⟩)⟩)
set_option maxRecDepth 65536 in
set_option maxHeartbeats 40000000 in
theorem own_nsu (l : Launch) (Z : State) (a0 : Array Value) (hw : ∀ d ∈ tables_1, d.before a0 Z = true) (t : Addr) (kt : ClassId) (vs : List Value) (cs : List Int32) (ds : List Int32) (o : Nat) (fmt : Value) (cpt : Int32) (h0 : Heap) (O0 : own_Old Z h0) (g0_V : Arv Z h0 t kt .byte (Int32.ofNat (2 * cs.length)) vs (.int 0)) (g1_hcap : cs.length ≤ 4) (g2_h16 : ∀ c ∈ cs, 0 ≤ c.toInt ∧ c.toInt ≤ 65535) (g3_hi16 : own_is16 cs vs) (g4_hds : own_from cs o ds) (g5_S : Sta Z Z.heap "java/lang/StringUTF16" "$assertionsDisabled" "Z" (.int 1)) (g6_S : Sta Z Z.heap "java/lang/StringUTF16" "HI_BYTE_SHIFT" "I" (.int 0)) (g7_S : Sta Z Z.heap "java/lang/StringUTF16" "LO_BYTE_SHIFT" "I" (.int 8)) (g8_hfmt : fmt.isRef = true) (g9_S : Sta Z Z.heap "jdk/internal/util/Preconditions" "SIOOBE_FORMATTER" "Ljava/util/function/BiFunction;" fmt) (g10_hnf : ¬ (o = 0 ∧ ds.length = cs.length)) (g11_hpos : 0 < ds.length) (g12_S : Sta Z Z.heap "java/lang/String" "COMPACT_STRINGS" "Z" (.int cpt)) (g13_hcpt : ¬ (cpt = (0 : Int32))) :
    own_Con l Z (⟨"java/lang/StringUTF16", "newString", "([BII)Ljava/lang/String;"⟩ : MethodName) jdk_52_method_69_code 5 (some (.object "java/lang/String")) [] ({ frames := 5, cells := 3, slots := 16, locals := 87 } : Room) #[(.ref t), (.int (Int32.ofNat o)), (.int (Int32.ofNat ds.length))] h0 (fun rv rh rL => ∃ (q : Addr) (u : Addr) (ku : ClassId) (c2 : Int32) (n2 : Int32) (us : List Value), rv = some (.ref q) ∧ own_Fr Z rL ∧ Keep h0 rh [] ∧ (Exa Z rh q "java/lang/String") ∧ (Fld Z rh q "java/lang/String" "coder" "B" (.int c2)) ∧ (Fld Z rh q "java/lang/String" "value" "[B" (.ref u)) ∧ (Arv Z rh u ku .byte n2 us (.int 0)) ∧ (own_enc ds c2 n2 us)) := by
  refine own_intro (plainFor_of_name (by first | (simp [plainName, overriddenIn]; done) | decide +kernel)) ?_
  intro p e s m below meth c s₁ G hx hby hml hown hnm hret hZ X0 e0 hG hR
  have N0 := Fr.nil Z.heap.size
  refine own_entry (Ls := #[.val (.ref t), .val (.int (Int32.ofNat o)), .val (.int (Int32.ofNat ds.length)), .unset, .unset]) (by first | (simp [entryFrame, mkF, argsToLocals, Value.category]; done) | rfl) ?_
  show G (s₁.setTop (mkF m 0 #[.val (.ref t), .val (.int (Int32.ofNat o)), .val (.int (Int32.ofNat ds.length)), .unset, .unset] []))
  have hle := g4_hds.1
  refine hG _ _ (fun t_ k_ => XS.iloadN X0.here hx rfl (hb hby d36_0) rfl k_) ?_
  show G (s₁.setTop (mkF m 1 #[.val (.ref t), .val (.int (Int32.ofNat o)), .val (.int (Int32.ofNat ds.length)), .unset, .unset] [(.int (Int32.ofNat ds.length))]))
  refine hG _ _ (fun t_ k_ => XS.ifYes X0.here hx rfl (pc0 := 1) (pc' := 8) rfl (hb hby d36_1) rfl ((if0 _ _).trans (feq (fun q => Nat.ne_of_gt g11_hpos (own_ofNat_inj (by omega) (by decide) q))).2) (by decide) (by decide) k_) ?_
  show G (s₁.setTop (mkF m 8 #[.val (.ref t), .val (.int (Int32.ofNat o)), .val (.int (Int32.ofNat ds.length)), .unset, .unset] []))
  obtain ⟨T1, X1, e1, st1⟩ := getS2 X0 hx hZ hown (host := "") (Or.inl (ow hw 154 rfl)) Via.refl e0 (own_sta g12_S O0) (g := (mkF m 8 #[.val (.ref t), .val (.int (Int32.ofNat o)), .val (.int (Int32.ofNat ds.length)), .unset, .unset] [])) rfl (hb hby d36_8)
  refine hG _ _ st1 ?_
  show G (T1.setTop (mkF m 11 #[.val (.ref t), .val (.int (Int32.ofNat o)), .val (.int (Int32.ofNat ds.length)), .unset, .unset] [(.int cpt)]))
  refine hG _ _ (fun t_ k_ => XS.ifNo X1.here hx rfl (hb hby d36_11) rfl ((if0 _ _).trans (feq g13_hcpt).1) k_) ?_
  show G (T1.setTop (mkF m 14 #[.val (.ref t), .val (.int (Int32.ofNat o)), .val (.int (Int32.ofNat ds.length)), .unset, .unset] []))
  refine hG _ _ (fun t_ k_ => XS.aloadN X1.here hx rfl (hb hby d36_14) rfl rfl k_) ?_
  refine hG _ _ (fun t_ k_ => XS.iloadN X1.here hx rfl (hb hby d36_15) rfl k_) ?_
  refine hG _ _ (fun t_ k_ => XS.iloadN X1.here hx rfl (hb hby d36_16) rfl k_) ?_
  show G (T1.setTop (mkF m 17 #[.val (.ref t), .val (.int (Int32.ofNat o)), .val (.int (Int32.ofNat ds.length)), .unset, .unset] [(.int (Int32.ofNat ds.length)), (.int (Int32.ofNat o)), (.ref t)]))
  refine own_callS X1 hx hZ hG hown (ow hw 155 rfl) (ow hw 156 rfl) (ow hw 65 rfl) (ow hw 157 rfl) (by decide) 0 (own_bcmp3 l Z a0 hw t kt vs cs ds o fmt h0 O0 g0_V g1_hcap g2_h16 g3_hi16 g4_hds g5_S g6_S g7_S g8_hfmt g9_S g10_hnf) (by decide) (by decide) e1 (by rw [hml]; rfl) (lenOf own_pd20 rfl) (argsL := [(.ref t), (.int (Int32.ofNat o)), (.int (Int32.ofNat ds.length))]) (rest := []) rfl rfl (Nat.le_of_eq rfl) (hb hby d36_17) (by decide) (by decide) ?_
  intro T2 h2 v2 L2 X2 e2 q2
  obtain ⟨u_2, ku_2, nb_2, us_2, rfl, M2, J2, y2_0, r2_0, r2_1⟩ := q2
  have N2 := Fr.app N0 M2
  have K2 : Keep h0 h2 [] := (Keep.refl h0 []).trans J2 all0
  have O2 : own_Old Z h2 := O0.keep J2 all0
  show G (T2.setTop (mkF m 20 #[.val (.ref t), .val (.int (Int32.ofNat o)), .val (.int (Int32.ofNat ds.length)), .unset, .unset] [(.ref u_2)]))
  rcases r2_1 with ⟨hall, rfl, rfl⟩ | ⟨hbig, rfl, h16⟩
  · skip
    show G (T2.setTop (mkF m 20 #[.val (.ref t), .val (.int (Int32.ofNat o)), .val (.int (Int32.ofNat ds.length)), .unset, .unset] [(.ref u_2)]))
    refine hG _ _ (fun t_ k_ => XS.astoreN X2.here hx rfl (hb hby d36_20) rfl rfl (l' := #[.val (.ref t), .val (.int (Int32.ofNat o)), .val (.int (Int32.ofNat ds.length)), .val (.ref u_2), .unset]) rfl k_) ?_
    refine hG _ _ (fun t_ k_ => XS.aloadN X2.here hx rfl (hb hby d36_21) rfl rfl k_) ?_
    refine hG _ _ (fun t_ k_ => XS.iloadN X2.here hx rfl (hb hby d36_22) rfl k_) ?_
    show G (T2.setTop (mkF m 23 #[.val (.ref t), .val (.int (Int32.ofNat o)), .val (.int (Int32.ofNat ds.length)), .val (.ref u_2), .unset] [(.int (Int32.ofNat ds.length)), (.ref u_2)]))
    refine own_callS X2 hx hZ hG hown (ow hw 171 rfl) (ow hw 71 rfl) (ow hw 65 rfl) (ow hw 72 rfl) (by decide) 0 (own_coder l Z a0 hw u_2 (Int32.ofNat ds.length) ku_2 (Int32.ofNat ds.length) (ds.map fun c => Value.int c.toInt8.toInt32) (0 : Int32) h2 O2 r2_0 (own_coder0 _)) (by decide) (by decide) e2 (by rw [hml]; rfl) (lenOf own_pd6 rfl) (argsL := [(.ref u_2), (.int (Int32.ofNat ds.length))]) (rest := []) rfl rfl (Nat.le_of_eq rfl) (hb hby d36_23) (by decide) (by decide) ?_
    intro T3 h3 v3 L3 X3 e3 q3
    obtain ⟨rfl, M3, rfl⟩ := q3
    have N3 := Fr.app N2 M3
    show G (T3.setTop (mkF m 26 #[.val (.ref t), .val (.int (Int32.ofNat o)), .val (.int (Int32.ofNat ds.length)), .val (.ref u_2), .unset] [(.int 0)]))
    refine hG _ _ (fun t_ k_ => XS.istore X3.here hx rfl (hb hby d36_26) rfl (l' := #[.val (.ref t), .val (.int (Int32.ofNat o)), .val (.int (Int32.ofNat ds.length)), .val (.ref u_2), .val (.int 0)]) rfl k_) ?_
    show G (T3.setTop (mkF m 28 #[.val (.ref t), .val (.int (Int32.ofNat o)), .val (.int (Int32.ofNat ds.length)), .val (.ref u_2), .val (.int 0)] []))
    obtain ⟨T4, h4, X4, e4, E4, A4, D4, -, st4⟩ := newO X3 hx hZ hown (ow hw 172 rfl) (ow hw 7 rfl) (ow hw 8 rfl) e3 (g := (mkF m 28 #[.val (.ref t), .val (.int (Int32.ofNat o)), .val (.int (Int32.ofNat ds.length)), .val (.ref u_2), .val (.int 0)] [])) rfl (hb hby d36_28) (by decide) (by decide)
    obtain ⟨b4, z4⟩ : ∃ z, z = h2.size := ⟨_, rfl⟩
    rw [← z4] at A4 D4 st4
    refine hG _ _ st4 ?_
    have K4 : Keep h0 h4 [] := K2.ext E4
    have O4 : own_Old Z h4 := O2.ext E4
    show G (T4.setTop (mkF m 31 #[.val (.ref t), .val (.int (Int32.ofNat o)), .val (.int (Int32.ofNat ds.length)), .val (.ref u_2), .val (.int 0)] [(.ref b4)]))
    refine hG _ _ (fun t_ k_ => XS.dup X4.here hx rfl (hb hby d36_31) rfl rfl k_) ?_
    refine hG _ _ (fun t_ k_ => XS.aloadN X4.here hx rfl (hb hby d36_32) rfl rfl k_) ?_
    refine hG _ _ (fun t_ k_ => XS.iload X4.here hx rfl (hb hby d36_33) rfl k_) ?_
    show G (T4.setTop (mkF m 35 #[.val (.ref t), .val (.int (Int32.ofNat o)), .val (.int (Int32.ofNat ds.length)), .val (.ref u_2), .val (.int 0)] [(.int 0), (.ref u_2), (.ref b4), (.ref b4)]))
    refine own_callI X4 hx hZ hG hown rfl (ow hw 173 rfl) (ow hw 119 rfl) (ow hw 8 rfl) (ow hw 120 rfl) (by decide) 1 (own_strb0 l Z a0 hw b4 u_2 (.int 0) .null h4 O4 A4 (D4 (Or.inr (ow hw 22 rfl)) (ty := .byte) (by decide)) (D4 (Or.inr (ow hw 21 rfl)) (ty := (.array .byte)) (by decide)) (own_ge O2 (Nat.le_of_eq z4.symm))) (by decide) (by decide) e4 (by rw [hml]; rfl) (lenOf own_pd21 rfl) (argsL := [(.ref u_2), (.int 0)]) (rest := [(.ref b4)]) rfl rfl (Nat.le_of_eq rfl) (hb hby d36_35) (by decide) (by decide) ?_
    intro T5 h5 v5 L5 X5 e5 q5
    obtain ⟨rfl, M5, J5, r5_0, r5_1, r5_2⟩ := q5
    have N5 := Fr.app N3 M5
    have K5 : Keep h0 h5 [] := K4.trans J5 (allS (Or.inr (Nat.le_trans K2.1 (Nat.le_of_eq z4.symm))) all0)
    have O5 : own_Old Z h5 := O4.keep J5 (allS (own_ge O2 (Nat.le_of_eq z4.symm)) all0)
    show G (T5.setTop (mkF m 38 #[.val (.ref t), .val (.int (Int32.ofNat o)), .val (.int (Int32.ofNat ds.length)), .val (.ref u_2), .val (.int 0)] [(.ref b4)]))
    have f6 := ((r2_0.ext E4).keep J5 (ninS (own_ne r2_0.lt (Nat.le_of_eq z4.symm)) nin0))
    exact own_retA hR hret rfl rfl X5 hx (hb hby d36_38) (by decide) (by decide) (by rw [e5]; exact ⟨b4, u_2, ku_2, (0 : Int32), (Int32.ofNat ds.length), (ds.map fun c => Value.int c.toInt8.toInt32), rfl, N5, K5, r5_0, r5_1, r5_2, f6, (Or.inl ⟨hall, rfl, rfl, rfl⟩)⟩)
  · skip
    show G (T2.setTop (mkF m 20 #[.val (.ref t), .val (.int (Int32.ofNat o)), .val (.int (Int32.ofNat ds.length)), .unset, .unset] [(.ref u_2)]))
    refine hG _ _ (fun t_ k_ => XS.astoreN X2.here hx rfl (hb hby d36_20) rfl rfl (l' := #[.val (.ref t), .val (.int (Int32.ofNat o)), .val (.int (Int32.ofNat ds.length)), .val (.ref u_2), .unset]) rfl k_) ?_
    refine hG _ _ (fun t_ k_ => XS.aloadN X2.here hx rfl (hb hby d36_21) rfl rfl k_) ?_
    refine hG _ _ (fun t_ k_ => XS.iloadN X2.here hx rfl (hb hby d36_22) rfl k_) ?_
    show G (T2.setTop (mkF m 23 #[.val (.ref t), .val (.int (Int32.ofNat o)), .val (.int (Int32.ofNat ds.length)), .val (.ref u_2), .unset] [(.int (Int32.ofNat ds.length)), (.ref u_2)]))
    refine own_callS X2 hx hZ hG hown (ow hw 171 rfl) (ow hw 71 rfl) (ow hw 65 rfl) (ow hw 72 rfl) (by decide) 0 (own_coder l Z a0 hw u_2 (Int32.ofNat ds.length) ku_2 (Int32.ofNat (2 * ds.length)) us_2 (1 : Int32) h2 O2 r2_0 (own_coder1 g11_hpos (by omega))) (by decide) (by decide) e2 (by rw [hml]; rfl) (lenOf own_pd6 rfl) (argsL := [(.ref u_2), (.int (Int32.ofNat ds.length))]) (rest := []) rfl rfl (Nat.le_of_eq rfl) (hb hby d36_23) (by decide) (by decide) ?_
    intro T7 h7 v7 L7 X7 e7 q7
    obtain ⟨rfl, M7, rfl⟩ := q7
    have N7 := Fr.app N2 M7
    show G (T7.setTop (mkF m 26 #[.val (.ref t), .val (.int (Int32.ofNat o)), .val (.int (Int32.ofNat ds.length)), .val (.ref u_2), .unset] [(.int 1)]))
    refine hG _ _ (fun t_ k_ => XS.istore X7.here hx rfl (hb hby d36_26) rfl (l' := #[.val (.ref t), .val (.int (Int32.ofNat o)), .val (.int (Int32.ofNat ds.length)), .val (.ref u_2), .val (.int 1)]) rfl k_) ?_
    show G (T7.setTop (mkF m 28 #[.val (.ref t), .val (.int (Int32.ofNat o)), .val (.int (Int32.ofNat ds.length)), .val (.ref u_2), .val (.int 1)] []))
    obtain ⟨T8, h8, X8, e8, E8, A8, D8, -, st8⟩ := newO X7 hx hZ hown (ow hw 172 rfl) (ow hw 7 rfl) (ow hw 8 rfl) e7 (g := (mkF m 28 #[.val (.ref t), .val (.int (Int32.ofNat o)), .val (.int (Int32.ofNat ds.length)), .val (.ref u_2), .val (.int 1)] [])) rfl (hb hby d36_28) (by decide) (by decide)
    obtain ⟨b8, z8⟩ : ∃ z, z = h2.size := ⟨_, rfl⟩
    rw [← z8] at A8 D8 st8
    refine hG _ _ st8 ?_
    have K8 : Keep h0 h8 [] := K2.ext E8
    have O8 : own_Old Z h8 := O2.ext E8
    show G (T8.setTop (mkF m 31 #[.val (.ref t), .val (.int (Int32.ofNat o)), .val (.int (Int32.ofNat ds.length)), .val (.ref u_2), .val (.int 1)] [(.ref b8)]))
    refine hG _ _ (fun t_ k_ => XS.dup X8.here hx rfl (hb hby d36_31) rfl rfl k_) ?_
    refine hG _ _ (fun t_ k_ => XS.aloadN X8.here hx rfl (hb hby d36_32) rfl rfl k_) ?_
    refine hG _ _ (fun t_ k_ => XS.iload X8.here hx rfl (hb hby d36_33) rfl k_) ?_
    show G (T8.setTop (mkF m 35 #[.val (.ref t), .val (.int (Int32.ofNat o)), .val (.int (Int32.ofNat ds.length)), .val (.ref u_2), .val (.int 1)] [(.int 1), (.ref u_2), (.ref b8), (.ref b8)]))
    refine own_callI X8 hx hZ hG hown rfl (ow hw 173 rfl) (ow hw 119 rfl) (ow hw 8 rfl) (ow hw 120 rfl) (by decide) 1 (own_strb1 l Z a0 hw b8 u_2 (.int 0) .null h8 O8 A8 (D8 (Or.inr (ow hw 22 rfl)) (ty := .byte) (by decide)) (D8 (Or.inr (ow hw 21 rfl)) (ty := (.array .byte)) (by decide)) (own_ge O2 (Nat.le_of_eq z8.symm))) (by decide) (by decide) e8 (by rw [hml]; rfl) (lenOf own_pd21 rfl) (argsL := [(.ref u_2), (.int 1)]) (rest := [(.ref b8)]) rfl rfl (Nat.le_of_eq rfl) (hb hby d36_35) (by decide) (by decide) ?_
    intro T9 h9 v9 L9 X9 e9 q9
    obtain ⟨rfl, M9, J9, r9_0, r9_1, r9_2⟩ := q9
    have N9 := Fr.app N7 M9
    have K9 : Keep h0 h9 [] := K8.trans J9 (allS (Or.inr (Nat.le_trans K2.1 (Nat.le_of_eq z8.symm))) all0)
    have O9 : own_Old Z h9 := O8.keep J9 (allS (own_ge O2 (Nat.le_of_eq z8.symm)) all0)
    show G (T9.setTop (mkF m 38 #[.val (.ref t), .val (.int (Int32.ofNat o)), .val (.int (Int32.ofNat ds.length)), .val (.ref u_2), .val (.int 1)] [(.ref b8)]))
    have f10 := ((r2_0.ext E8).keep J9 (ninS (own_ne r2_0.lt (Nat.le_of_eq z8.symm)) nin0))
    exact own_retA hR hret rfl rfl X9 hx (hb hby d36_38) (by decide) (by decide) (by rw [e9]; exact ⟨b8, u_2, ku_2, (1 : Int32), (Int32.ofNat (2 * ds.length)), us_2, rfl, N9, K9, r9_0, r9_1, r9_2, f10, (Or.inr ⟨hbig, rfl, rfl, h16⟩)⟩)
theorem own_pd26 : parseMethodDescriptor "(II)Ljava/lang/String;" = some ⟨[.int, .int], some (.object "java/lang/String")⟩ := by decide +kernel
set_option maxRecDepth 65536 in
set_option maxHeartbeats 40000000 in
theorem own_sub (l : Launch) (Z : State) (a0 : Array Value) (hw : ∀ d ∈ tables_1, d.before a0 Z = true) (hEL : EW Z a0 consts_1) (a : Addr) (t : Addr) (kt : ClassId) (cs : List Int32) (cd : Int32) (nb : Int32) (vs : List Value) (cpt : Int32) (ds : List Int32) (o : Nat) (fmt : Value) (h0 : Heap) (O0 : own_Old Z h0) (g0_E : Exa Z h0 a "java/lang/String") (g1_F : Fld Z h0 a "java/lang/String" "coder" "B" (.int cd)) (g2_F : Fld Z h0 a "java/lang/String" "value" "[B" (.ref t)) (g3_V : Arv Z h0 t kt .byte nb vs (.int 0)) (g4_henc : own_enc cs cd nb vs) (g5_hcap : cs.length ≤ 4) (g6_h16 : ∀ c ∈ cs, 0 ≤ c.toInt ∧ c.toInt ≤ 65535) (g7_S : Sta Z Z.heap "java/lang/String" "COMPACT_STRINGS" "Z" (.int cpt)) (g8_hcpt : ¬ (cpt = (0 : Int32))) (g9_S : Sta Z Z.heap "java/lang/StringUTF16" "$assertionsDisabled" "Z" (.int 1)) (g10_S : Sta Z Z.heap "java/lang/StringUTF16" "HI_BYTE_SHIFT" "I" (.int 0)) (g11_S : Sta Z Z.heap "java/lang/StringUTF16" "LO_BYTE_SHIFT" "I" (.int 8)) (g12_hds : own_from cs o ds) (g13_hpos : (∃ k, k < cs.length ∧ (255 : Int32) < cs.getD k 0) → 0 < ds.length) (g14_hfmt : fmt.isRef = true) (g15_S : Sta Z Z.heap "jdk/internal/util/Preconditions" "SIOOBE_FORMATTER" "Ljava/util/function/BiFunction;" fmt) :
    own_ConW l Z consts_1 (⟨"java/lang/String", "substring", "(II)Ljava/lang/String;"⟩ : MethodName) jdk_42_method_92_code 5 (some (.object "java/lang/String")) [] ({ frames := 6, cells := 3, slots := 16, locals := 103 } : Room) #[(.ref a), (.int (Int32.ofNat o)), (.int (Int32.ofNat (o + ds.length)))] h0 (fun rv rh rL => ∃ (q : Addr) (u : Addr) (ku : ClassId) (c2 : Int32) (n2 : Int32) (us : List Value), rv = some (.ref q) ∧ own_Fr Z rL ∧ Keep h0 rh [] ∧ (Exa Z rh q "java/lang/String") ∧ (Fld Z rh q "java/lang/String" "coder" "B" (.int c2)) ∧ (Fld Z rh q "java/lang/String" "value" "[B" (.ref u)) ∧ (Arv Z rh u ku .byte n2 us (.int 0)) ∧ (own_enc ds c2 n2 us)) := by
  refine own_introW hEL (plainFor_of_name (by first | (simp [plainName, overriddenIn]; done) | decide +kernel)) ?_
  intro p e s m below meth c s₁ G hx hby hml hown hnm hret hZ X0 e0 H0 SI0 hG hR
  have N0 := Fr.nil Z.heap.size
  refine own_entry (Ls := #[.val (.ref a), .val (.int (Int32.ofNat o)), .val (.int (Int32.ofNat (o + ds.length))), .unset, .unset]) (by first | (simp [entryFrame, mkF, argsToLocals, Value.category]; done) | rfl) ?_
  show G (s₁.setTop (mkF m 0 #[.val (.ref a), .val (.int (Int32.ofNat o)), .val (.int (Int32.ofNat (o + ds.length))), .unset, .unset] []))
  have hle := g12_hds.1
  rcases id g4_henc with ⟨hall, rfl, rfl, rfl⟩ | ⟨hbig, rfl, rfl, h16⟩
  · skip
    show G (s₁.setTop (mkF m 0 #[.val (.ref a), .val (.int (Int32.ofNat o)), .val (.int (Int32.ofNat (o + ds.length))), .unset, .unset] []))
    refine hG _ _ (fun t_ k_ => XS.aloadN X0.here hx rfl (hb hby d8_0) rfl rfl k_) ?_
    show G (s₁.setTop (mkF m 1 #[.val (.ref a), .val (.int (Int32.ofNat o)), .val (.int (Int32.ofNat (o + ds.length))), .unset, .unset] [(.ref a)]))
    refine own_callV (C := "java/lang/String") X0 hx hZ hG hown (ow hw 47 rfl) (ow hw 32 rfl) (ow hw 34 rfl) (ow hw 33 rfl) (ow hw 8 rfl) (ow hw 35 rfl) (by decide) 0 (own_len l Z a0 hw a t kt cs (0 : Int32) (Int32.ofNat cs.length) (cs.map fun c => Value.int c.toInt8.toInt32) cpt h0 O0 g0_E g1_F g2_F g3_V (Or.inl ⟨hall, rfl, rfl, rfl⟩) g5_hcap g6_h16 g7_S g8_hcpt) (by decide) (by decide) e0 g0_E (by rw [hml]; rfl) (lenOf own_pd11 rfl) (argsL := []) (rest := []) rfl rfl (Nat.le_of_eq rfl) (hb hby d8_1) (by decide) (by decide) ?_
    intro T1 h1 v1 L1 X1 e1 q1
    obtain ⟨rfl, M1, rfl⟩ := q1
    have N1 := Fr.app N0 M1
    show G (T1.setTop (mkF m 4 #[.val (.ref a), .val (.int (Int32.ofNat o)), .val (.int (Int32.ofNat (o + ds.length))), .unset, .unset] [(.int (Int32.ofNat cs.length))]))
    refine hG _ _ (fun t_ k_ => XS.istoreN X1.here hx rfl (hb hby d8_4) rfl (l' := #[.val (.ref a), .val (.int (Int32.ofNat o)), .val (.int (Int32.ofNat (o + ds.length))), .val (.int (Int32.ofNat cs.length)), .unset]) rfl k_) ?_
    refine hG _ _ (fun t_ k_ => XS.iloadN X1.here hx rfl (hb hby d8_5) rfl k_) ?_
    refine hG _ _ (fun t_ k_ => XS.iloadN X1.here hx rfl (hb hby d8_6) rfl k_) ?_
    refine hG _ _ (fun t_ k_ => XS.iloadN X1.here hx rfl (hb hby d8_7) rfl k_) ?_
    show G (T1.setTop (mkF m 8 #[.val (.ref a), .val (.int (Int32.ofNat o)), .val (.int (Int32.ofNat (o + ds.length))), .val (.int (Int32.ofNat cs.length)), .unset] [(.int (Int32.ofNat cs.length)), (.int (Int32.ofNat (o + ds.length))), (.int (Int32.ofNat o))]))
    refine own_callS X1 hx hZ hG hown (ow hw 48 rfl) (ow hw 49 rfl) (ow hw 8 rfl) (ow hw 50 rfl) (by decide) 0 (own_cbe l Z a0 hw (Int32.ofNat o) (Int32.ofNat (o + ds.length)) (Int32.ofNat cs.length) fmt h0 O0 (own_nn (by omega)) (own_nlt (by omega) (by omega)) (own_nlt (by omega) (by omega)) g14_hfmt g15_S) (by decide) (by decide) e1 (by rw [hml]; rfl) (lenOf own_pd18 rfl) (argsL := [(.int (Int32.ofNat o)), (.int (Int32.ofNat (o + ds.length))), (.int (Int32.ofNat cs.length))]) (rest := []) rfl rfl (Nat.le_of_eq rfl) (hb hby d8_8) (by decide) (by decide) ?_
    intro T2 h2 v2 L2 X2 e2 q2
    obtain ⟨rfl, M2, rfl⟩ := q2
    have N2 := Fr.app N1 M2
    show G (T2.setTop (mkF m 11 #[.val (.ref a), .val (.int (Int32.ofNat o)), .val (.int (Int32.ofNat (o + ds.length))), .val (.int (Int32.ofNat cs.length)), .unset] []))
    refine hG _ _ (fun t_ k_ => XS.iloadN X2.here hx rfl (hb hby d8_11) rfl k_) ?_
    show G (T2.setTop (mkF m 12 #[.val (.ref a), .val (.int (Int32.ofNat o)), .val (.int (Int32.ofNat (o + ds.length))), .val (.int (Int32.ofNat cs.length)), .unset] [(.int (Int32.ofNat o))]))
    by_cases hc12_3 : (Int32.ofNat o) = (0 : Int32)
    · skip
      refine hG _ _ (fun t_ k_ => XS.ifNo X2.here hx rfl (hb hby d8_12) rfl ((if0 _ _).trans (teq hc12_3).2) k_) ?_
      show G (T2.setTop (mkF m 15 #[.val (.ref a), .val (.int (Int32.ofNat o)), .val (.int (Int32.ofNat (o + ds.length))), .val (.int (Int32.ofNat cs.length)), .unset] []))
      refine hG _ _ (fun t_ k_ => XS.iloadN X2.here hx rfl (hb hby d8_15) rfl k_) ?_
      refine hG _ _ (fun t_ k_ => XS.iloadN X2.here hx rfl (hb hby d8_16) rfl k_) ?_
      show G (T2.setTop (mkF m 17 #[.val (.ref a), .val (.int (Int32.ofNat o)), .val (.int (Int32.ofNat (o + ds.length))), .val (.int (Int32.ofNat cs.length)), .unset] [(.int (Int32.ofNat cs.length)), (.int (Int32.ofNat (o + ds.length)))]))
      by_cases hc17_4 : (Int32.ofNat (o + ds.length)) = (Int32.ofNat cs.length)
      · skip
        refine hG _ _ (fun t_ k_ => XS.icmpNo X2.here hx rfl (hb hby d8_17) rfl (teq hc17_4).2 k_) ?_
        show G (T2.setTop (mkF m 20 #[.val (.ref a), .val (.int (Int32.ofNat o)), .val (.int (Int32.ofNat (o + ds.length))), .val (.int (Int32.ofNat cs.length)), .unset] []))
        refine hG _ _ (fun t_ k_ => XS.aloadN X2.here hx rfl (hb hby d8_20) rfl rfl k_) ?_
        show G (T2.setTop (mkF m 21 #[.val (.ref a), .val (.int (Int32.ofNat o)), .val (.int (Int32.ofNat (o + ds.length))), .val (.int (Int32.ofNat cs.length)), .unset] [(.ref a)]))
        exact own_retAW hR hret rfl rfl X2 hx (hb hby d8_21) e2 SI0 (Nat.le_refl _) hZ (CHr.refl H0) (by decide) (by decide) ⟨a, t, kt, (0 : Int32), (Int32.ofNat cs.length), (cs.map fun c => Value.int c.toInt8.toInt32), rfl, N2, (Keep.refl h0 []), g0_E, g1_F, g2_F, g3_V, (by rw [own_from_all (ds := ds) (cs := cs) (by have e := own_zeroN hc12_3 (by omega); rw [← e]; exact g12_hds) (by have e := own_zeroN hc12_3 (by omega); have e2 := own_ofNat_inj (by omega) (by omega) hc17_4; omega)]; exact (Or.inl ⟨hall, rfl, rfl, rfl⟩))⟩
      · skip
        refine hG _ _ (fun t_ k_ => XS.icmpYes X2.here hx rfl (pc0 := 17) (pc' := 22) rfl (hb hby d8_17) rfl (feq hc17_4).2 (by decide) (by decide) k_) ?_
        show G (T2.setTop (mkF m 22 #[.val (.ref a), .val (.int (Int32.ofNat o)), .val (.int (Int32.ofNat (o + ds.length))), .val (.int (Int32.ofNat cs.length)), .unset] []))
        refine hG _ _ (fun t_ k_ => XS.iloadN X2.here hx rfl (hb hby d8_22) rfl k_) ?_
        refine hG _ _ (fun t_ k_ => XS.iloadN X2.here hx rfl (hb hby d8_23) rfl k_) ?_
        refine hG _ _ (fun t_ k_ => XS.isub X2.here hx rfl (hb hby d8_24) rfl k_) ?_
        show G (T2.setTop (mkF m 25 #[.val (.ref a), .val (.int (Int32.ofNat o)), .val (.int (Int32.ofNat (o + ds.length))), .val (.int (Int32.ofNat cs.length)), .unset] [(.int ((Int32.ofNat (o + ds.length)) - (Int32.ofNat o)))]))
        rw [show Int32.ofNat (o + ds.length) - Int32.ofNat o = Int32.ofNat ds.length from (own_subN (by omega)).trans (congrArg Int32.ofNat (by omega))]
        show G (T2.setTop (mkF m 25 #[.val (.ref a), .val (.int (Int32.ofNat o)), .val (.int (Int32.ofNat (o + ds.length))), .val (.int (Int32.ofNat cs.length)), .unset] [(.int (Int32.ofNat ds.length))]))
        refine hG _ _ (fun t_ k_ => XS.istore X2.here hx rfl (hb hby d8_25) rfl (l' := #[.val (.ref a), .val (.int (Int32.ofNat o)), .val (.int (Int32.ofNat (o + ds.length))), .val (.int (Int32.ofNat cs.length)), .val (.int (Int32.ofNat ds.length))]) rfl k_) ?_
        refine hG _ _ (fun t_ k_ => XS.aloadN X2.here hx rfl (hb hby d8_27) rfl rfl k_) ?_
        show G (T2.setTop (mkF m 28 #[.val (.ref a), .val (.int (Int32.ofNat o)), .val (.int (Int32.ofNat (o + ds.length))), .val (.int (Int32.ofNat cs.length)), .val (.int (Int32.ofNat ds.length))] [(.ref a)]))
        refine own_callV (C := "java/lang/String") X2 hx hZ hG hown (ow hw 78 rfl) (ow hw 79 rfl) (ow hw 81 rfl) (ow hw 80 rfl) (ow hw 8 rfl) (ow hw 82 rfl) (by decide) 0 (own_isl0 l Z a0 hw a cpt h0 O0 g1_F g7_S g8_hcpt) (by decide) (by decide) e2 g0_E (by rw [hml]; rfl) (lenOf own_pd9 rfl) (argsL := []) (rest := []) rfl rfl (Nat.le_of_eq rfl) (hb hby d8_28) (by decide) (by decide) ?_
        intro T5 h5 v5 L5 X5 e5 q5
        obtain ⟨rfl, M5, rfl⟩ := q5
        have N5 := Fr.app N2 M5
        show G (T5.setTop (mkF m 31 #[.val (.ref a), .val (.int (Int32.ofNat o)), .val (.int (Int32.ofNat (o + ds.length))), .val (.int (Int32.ofNat cs.length)), .val (.int (Int32.ofNat ds.length))] [(.int 1)]))
        refine hG _ _ (fun t_ k_ => XS.ifNo X5.here hx rfl (hb hby d8_31) rfl ((if0 _ _).trans (feq (by decide)).1) k_) ?_
        show G (T5.setTop (mkF m 34 #[.val (.ref a), .val (.int (Int32.ofNat o)), .val (.int (Int32.ofNat (o + ds.length))), .val (.int (Int32.ofNat cs.length)), .val (.int (Int32.ofNat ds.length))] []))
        refine hG _ _ (fun t_ k_ => XS.aloadN X5.here hx rfl (hb hby d8_34) rfl rfl k_) ?_
        show G (T5.setTop (mkF m 35 #[.val (.ref a), .val (.int (Int32.ofNat o)), .val (.int (Int32.ofNat (o + ds.length))), .val (.int (Int32.ofNat cs.length)), .val (.int (Int32.ofNat ds.length))] [(.ref a)]))
        obtain ⟨T6, X6, e6, st6⟩ := getF X5 hx hZ hown (host := "") (Or.inl (ow hw 25 rfl)) Via.refl e5 g2_F (g := (mkF m 35 #[.val (.ref a), .val (.int (Int32.ofNat o)), .val (.int (Int32.ofNat (o + ds.length))), .val (.int (Int32.ofNat cs.length)), .val (.int (Int32.ofNat ds.length))] [(.ref a)])) rfl rfl (hb hby d8_35)
        refine hG _ _ st6 ?_
        show G (T6.setTop (mkF m 38 #[.val (.ref a), .val (.int (Int32.ofNat o)), .val (.int (Int32.ofNat (o + ds.length))), .val (.int (Int32.ofNat cs.length)), .val (.int (Int32.ofNat ds.length))] [(.ref t)]))
        refine hG _ _ (fun t_ k_ => XS.iloadN X6.here hx rfl (hb hby d8_38) rfl k_) ?_
        refine hG _ _ (fun t_ k_ => XS.iload X6.here hx rfl (hb hby d8_39) rfl k_) ?_
        show G (T6.setTop (mkF m 41 #[.val (.ref a), .val (.int (Int32.ofNat o)), .val (.int (Int32.ofNat (o + ds.length))), .val (.int (Int32.ofNat cs.length)), .val (.int (Int32.ofNat ds.length))] [(.int (Int32.ofNat ds.length)), (.int (Int32.ofNat o)), (.ref t)]))
        refine own_callSW X6 hx hZ hG hown (ow hw 96 rfl) (ow hw 97 rfl) (ow hw 85 rfl) (ow hw 98 rfl) (by decide) 0 (own_nsl l Z a0 hw hEL t kt cs ds o h0 O0 g3_V g5_hcap g12_hds hall (fun q => hc17_4 (congrArg Int32.ofNat (by omega)))) (by decide) (by decide) e6 SI0 (Nat.le_refl _) hEL H0 (by rw [hml]; rfl) (lenOf own_pd22 rfl) (argsL := [(.ref t), (.int (Int32.ofNat o)), (.int (Int32.ofNat ds.length))]) (rest := []) rfl rfl (Nat.le_of_eq rfl) (hb hby d8_41) (by decide) (by decide) ?_
        intro T7 h7 v7 L7 X7 e7 SI7 hZ7 hown7 Y7 q7
        obtain ⟨q_7, u_7, ku_7, c2_7, n2_7, us_7, rfl, M7, J7, r7_0, r7_1, r7_2, r7_3, r7_4⟩ := q7
        have N7 := Fr.app N5 M7
        have R7 := Y7
        have C7 := (CHr.refl H0).trans R7
        have K7 : Keep h0 h7 [] := (Keep.refl h0 []).trans J7 all0
        have O7 : own_Old Z h7 := O0.keep J7 all0
        show G (T7.setTop (mkF m 44 #[.val (.ref a), .val (.int (Int32.ofNat o)), .val (.int (Int32.ofNat (o + ds.length))), .val (.int (Int32.ofNat cs.length)), .val (.int (Int32.ofNat ds.length))] [(.ref q_7)]))
        refine hG _ _ (fun t_ k_ => XS.goto X7.here hx rfl (pc0 := 44) (pc' := 57) rfl (hb hby d8_44) (by decide) (by decide) k_) ?_
        show G (T7.setTop (mkF m 57 #[.val (.ref a), .val (.int (Int32.ofNat o)), .val (.int (Int32.ofNat (o + ds.length))), .val (.int (Int32.ofNat cs.length)), .val (.int (Int32.ofNat ds.length))] [(.ref q_7)]))
        exact own_retAW hR hret rfl rfl X7 hx (hb hby d8_57) e7 SI7 (Nat.le_refl _) hZ7 C7 (by decide) (by decide) ⟨q_7, u_7, ku_7, c2_7, n2_7, us_7, rfl, N7, K7, r7_0, r7_1, r7_2, r7_3, r7_4⟩
    · skip
      refine hG _ _ (fun t_ k_ => XS.ifYes X2.here hx rfl (pc0 := 12) (pc' := 22) rfl (hb hby d8_12) rfl ((if0 _ _).trans (feq hc12_3).2) (by decide) (by decide) k_) ?_
      show G (T2.setTop (mkF m 22 #[.val (.ref a), .val (.int (Int32.ofNat o)), .val (.int (Int32.ofNat (o + ds.length))), .val (.int (Int32.ofNat cs.length)), .unset] []))
      refine hG _ _ (fun t_ k_ => XS.iloadN X2.here hx rfl (hb hby d8_22) rfl k_) ?_
      refine hG _ _ (fun t_ k_ => XS.iloadN X2.here hx rfl (hb hby d8_23) rfl k_) ?_
      refine hG _ _ (fun t_ k_ => XS.isub X2.here hx rfl (hb hby d8_24) rfl k_) ?_
      show G (T2.setTop (mkF m 25 #[.val (.ref a), .val (.int (Int32.ofNat o)), .val (.int (Int32.ofNat (o + ds.length))), .val (.int (Int32.ofNat cs.length)), .unset] [(.int ((Int32.ofNat (o + ds.length)) - (Int32.ofNat o)))]))
      rw [show Int32.ofNat (o + ds.length) - Int32.ofNat o = Int32.ofNat ds.length from (own_subN (by omega)).trans (congrArg Int32.ofNat (by omega))]
      show G (T2.setTop (mkF m 25 #[.val (.ref a), .val (.int (Int32.ofNat o)), .val (.int (Int32.ofNat (o + ds.length))), .val (.int (Int32.ofNat cs.length)), .unset] [(.int (Int32.ofNat ds.length))]))
      refine hG _ _ (fun t_ k_ => XS.istore X2.here hx rfl (hb hby d8_25) rfl (l' := #[.val (.ref a), .val (.int (Int32.ofNat o)), .val (.int (Int32.ofNat (o + ds.length))), .val (.int (Int32.ofNat cs.length)), .val (.int (Int32.ofNat ds.length))]) rfl k_) ?_
      refine hG _ _ (fun t_ k_ => XS.aloadN X2.here hx rfl (hb hby d8_27) rfl rfl k_) ?_
      show G (T2.setTop (mkF m 28 #[.val (.ref a), .val (.int (Int32.ofNat o)), .val (.int (Int32.ofNat (o + ds.length))), .val (.int (Int32.ofNat cs.length)), .val (.int (Int32.ofNat ds.length))] [(.ref a)]))
      refine own_callV (C := "java/lang/String") X2 hx hZ hG hown (ow hw 78 rfl) (ow hw 79 rfl) (ow hw 81 rfl) (ow hw 80 rfl) (ow hw 8 rfl) (ow hw 82 rfl) (by decide) 0 (own_isl0 l Z a0 hw a cpt h0 O0 g1_F g7_S g8_hcpt) (by decide) (by decide) e2 g0_E (by rw [hml]; rfl) (lenOf own_pd9 rfl) (argsL := []) (rest := []) rfl rfl (Nat.le_of_eq rfl) (hb hby d8_28) (by decide) (by decide) ?_
      intro T8 h8 v8 L8 X8 e8 q8
      obtain ⟨rfl, M8, rfl⟩ := q8
      have N8 := Fr.app N2 M8
      show G (T8.setTop (mkF m 31 #[.val (.ref a), .val (.int (Int32.ofNat o)), .val (.int (Int32.ofNat (o + ds.length))), .val (.int (Int32.ofNat cs.length)), .val (.int (Int32.ofNat ds.length))] [(.int 1)]))
      refine hG _ _ (fun t_ k_ => XS.ifNo X8.here hx rfl (hb hby d8_31) rfl ((if0 _ _).trans (feq (by decide)).1) k_) ?_
      show G (T8.setTop (mkF m 34 #[.val (.ref a), .val (.int (Int32.ofNat o)), .val (.int (Int32.ofNat (o + ds.length))), .val (.int (Int32.ofNat cs.length)), .val (.int (Int32.ofNat ds.length))] []))
      refine hG _ _ (fun t_ k_ => XS.aloadN X8.here hx rfl (hb hby d8_34) rfl rfl k_) ?_
      show G (T8.setTop (mkF m 35 #[.val (.ref a), .val (.int (Int32.ofNat o)), .val (.int (Int32.ofNat (o + ds.length))), .val (.int (Int32.ofNat cs.length)), .val (.int (Int32.ofNat ds.length))] [(.ref a)]))
      obtain ⟨T9, X9, e9, st9⟩ := getF X8 hx hZ hown (host := "") (Or.inl (ow hw 25 rfl)) Via.refl e8 g2_F (g := (mkF m 35 #[.val (.ref a), .val (.int (Int32.ofNat o)), .val (.int (Int32.ofNat (o + ds.length))), .val (.int (Int32.ofNat cs.length)), .val (.int (Int32.ofNat ds.length))] [(.ref a)])) rfl rfl (hb hby d8_35)
      refine hG _ _ st9 ?_
      show G (T9.setTop (mkF m 38 #[.val (.ref a), .val (.int (Int32.ofNat o)), .val (.int (Int32.ofNat (o + ds.length))), .val (.int (Int32.ofNat cs.length)), .val (.int (Int32.ofNat ds.length))] [(.ref t)]))
      refine hG _ _ (fun t_ k_ => XS.iloadN X9.here hx rfl (hb hby d8_38) rfl k_) ?_
      refine hG _ _ (fun t_ k_ => XS.iload X9.here hx rfl (hb hby d8_39) rfl k_) ?_
      show G (T9.setTop (mkF m 41 #[.val (.ref a), .val (.int (Int32.ofNat o)), .val (.int (Int32.ofNat (o + ds.length))), .val (.int (Int32.ofNat cs.length)), .val (.int (Int32.ofNat ds.length))] [(.int (Int32.ofNat ds.length)), (.int (Int32.ofNat o)), (.ref t)]))
      refine own_callSW X9 hx hZ hG hown (ow hw 96 rfl) (ow hw 97 rfl) (ow hw 85 rfl) (ow hw 98 rfl) (by decide) 0 (own_nsl l Z a0 hw hEL t kt cs ds o h0 O0 g3_V g5_hcap g12_hds hall (fun q => hc12_3 (by rw [q.1]; rfl))) (by decide) (by decide) e9 SI0 (Nat.le_refl _) hEL H0 (by rw [hml]; rfl) (lenOf own_pd22 rfl) (argsL := [(.ref t), (.int (Int32.ofNat o)), (.int (Int32.ofNat ds.length))]) (rest := []) rfl rfl (Nat.le_of_eq rfl) (hb hby d8_41) (by decide) (by decide) ?_
      intro T10 h10 v10 L10 X10 e10 SI10 hZ10 hown10 Y10 q10
      obtain ⟨q_10, u_10, ku_10, c2_10, n2_10, us_10, rfl, M10, J10, r10_0, r10_1, r10_2, r10_3, r10_4⟩ := q10
      have N10 := Fr.app N8 M10
      have R10 := Y10
      have C10 := (CHr.refl H0).trans R10
      have K10 : Keep h0 h10 [] := (Keep.refl h0 []).trans J10 all0
      have O10 : own_Old Z h10 := O0.keep J10 all0
      show G (T10.setTop (mkF m 44 #[.val (.ref a), .val (.int (Int32.ofNat o)), .val (.int (Int32.ofNat (o + ds.length))), .val (.int (Int32.ofNat cs.length)), .val (.int (Int32.ofNat ds.length))] [(.ref q_10)]))
      refine hG _ _ (fun t_ k_ => XS.goto X10.here hx rfl (pc0 := 44) (pc' := 57) rfl (hb hby d8_44) (by decide) (by decide) k_) ?_
      show G (T10.setTop (mkF m 57 #[.val (.ref a), .val (.int (Int32.ofNat o)), .val (.int (Int32.ofNat (o + ds.length))), .val (.int (Int32.ofNat cs.length)), .val (.int (Int32.ofNat ds.length))] [(.ref q_10)]))
      exact own_retAW hR hret rfl rfl X10 hx (hb hby d8_57) e10 SI10 (Nat.le_refl _) hZ10 C10 (by decide) (by decide) ⟨q_10, u_10, ku_10, c2_10, n2_10, us_10, rfl, N10, K10, r10_0, r10_1, r10_2, r10_3, r10_4⟩
  · skip
    show G (s₁.setTop (mkF m 0 #[.val (.ref a), .val (.int (Int32.ofNat o)), .val (.int (Int32.ofNat (o + ds.length))), .unset, .unset] []))
    refine hG _ _ (fun t_ k_ => XS.aloadN X0.here hx rfl (hb hby d8_0) rfl rfl k_) ?_
    show G (s₁.setTop (mkF m 1 #[.val (.ref a), .val (.int (Int32.ofNat o)), .val (.int (Int32.ofNat (o + ds.length))), .unset, .unset] [(.ref a)]))
    refine own_callV (C := "java/lang/String") X0 hx hZ hG hown (ow hw 47 rfl) (ow hw 32 rfl) (ow hw 34 rfl) (ow hw 33 rfl) (ow hw 8 rfl) (ow hw 35 rfl) (by decide) 0 (own_len l Z a0 hw a t kt cs (1 : Int32) (Int32.ofNat (2 * cs.length)) vs cpt h0 O0 g0_E g1_F g2_F g3_V (Or.inr ⟨hbig, rfl, rfl, h16⟩) g5_hcap g6_h16 g7_S g8_hcpt) (by decide) (by decide) e0 g0_E (by rw [hml]; rfl) (lenOf own_pd11 rfl) (argsL := []) (rest := []) rfl rfl (Nat.le_of_eq rfl) (hb hby d8_1) (by decide) (by decide) ?_
    intro T11 h11 v11 L11 X11 e11 q11
    obtain ⟨rfl, M11, rfl⟩ := q11
    have N11 := Fr.app N0 M11
    show G (T11.setTop (mkF m 4 #[.val (.ref a), .val (.int (Int32.ofNat o)), .val (.int (Int32.ofNat (o + ds.length))), .unset, .unset] [(.int (Int32.ofNat cs.length))]))
    refine hG _ _ (fun t_ k_ => XS.istoreN X11.here hx rfl (hb hby d8_4) rfl (l' := #[.val (.ref a), .val (.int (Int32.ofNat o)), .val (.int (Int32.ofNat (o + ds.length))), .val (.int (Int32.ofNat cs.length)), .unset]) rfl k_) ?_
    refine hG _ _ (fun t_ k_ => XS.iloadN X11.here hx rfl (hb hby d8_5) rfl k_) ?_
    refine hG _ _ (fun t_ k_ => XS.iloadN X11.here hx rfl (hb hby d8_6) rfl k_) ?_
    refine hG _ _ (fun t_ k_ => XS.iloadN X11.here hx rfl (hb hby d8_7) rfl k_) ?_
    show G (T11.setTop (mkF m 8 #[.val (.ref a), .val (.int (Int32.ofNat o)), .val (.int (Int32.ofNat (o + ds.length))), .val (.int (Int32.ofNat cs.length)), .unset] [(.int (Int32.ofNat cs.length)), (.int (Int32.ofNat (o + ds.length))), (.int (Int32.ofNat o))]))
    refine own_callS X11 hx hZ hG hown (ow hw 48 rfl) (ow hw 49 rfl) (ow hw 8 rfl) (ow hw 50 rfl) (by decide) 0 (own_cbe l Z a0 hw (Int32.ofNat o) (Int32.ofNat (o + ds.length)) (Int32.ofNat cs.length) fmt h0 O0 (own_nn (by omega)) (own_nlt (by omega) (by omega)) (own_nlt (by omega) (by omega)) g14_hfmt g15_S) (by decide) (by decide) e11 (by rw [hml]; rfl) (lenOf own_pd18 rfl) (argsL := [(.int (Int32.ofNat o)), (.int (Int32.ofNat (o + ds.length))), (.int (Int32.ofNat cs.length))]) (rest := []) rfl rfl (Nat.le_of_eq rfl) (hb hby d8_8) (by decide) (by decide) ?_
    intro T12 h12 v12 L12 X12 e12 q12
    obtain ⟨rfl, M12, rfl⟩ := q12
    have N12 := Fr.app N11 M12
    show G (T12.setTop (mkF m 11 #[.val (.ref a), .val (.int (Int32.ofNat o)), .val (.int (Int32.ofNat (o + ds.length))), .val (.int (Int32.ofNat cs.length)), .unset] []))
    refine hG _ _ (fun t_ k_ => XS.iloadN X12.here hx rfl (hb hby d8_11) rfl k_) ?_
    show G (T12.setTop (mkF m 12 #[.val (.ref a), .val (.int (Int32.ofNat o)), .val (.int (Int32.ofNat (o + ds.length))), .val (.int (Int32.ofNat cs.length)), .unset] [(.int (Int32.ofNat o))]))
    by_cases hc12_13 : (Int32.ofNat o) = (0 : Int32)
    · skip
      refine hG _ _ (fun t_ k_ => XS.ifNo X12.here hx rfl (hb hby d8_12) rfl ((if0 _ _).trans (teq hc12_13).2) k_) ?_
      show G (T12.setTop (mkF m 15 #[.val (.ref a), .val (.int (Int32.ofNat o)), .val (.int (Int32.ofNat (o + ds.length))), .val (.int (Int32.ofNat cs.length)), .unset] []))
      refine hG _ _ (fun t_ k_ => XS.iloadN X12.here hx rfl (hb hby d8_15) rfl k_) ?_
      refine hG _ _ (fun t_ k_ => XS.iloadN X12.here hx rfl (hb hby d8_16) rfl k_) ?_
      show G (T12.setTop (mkF m 17 #[.val (.ref a), .val (.int (Int32.ofNat o)), .val (.int (Int32.ofNat (o + ds.length))), .val (.int (Int32.ofNat cs.length)), .unset] [(.int (Int32.ofNat cs.length)), (.int (Int32.ofNat (o + ds.length)))]))
      by_cases hc17_14 : (Int32.ofNat (o + ds.length)) = (Int32.ofNat cs.length)
      · skip
        refine hG _ _ (fun t_ k_ => XS.icmpNo X12.here hx rfl (hb hby d8_17) rfl (teq hc17_14).2 k_) ?_
        show G (T12.setTop (mkF m 20 #[.val (.ref a), .val (.int (Int32.ofNat o)), .val (.int (Int32.ofNat (o + ds.length))), .val (.int (Int32.ofNat cs.length)), .unset] []))
        refine hG _ _ (fun t_ k_ => XS.aloadN X12.here hx rfl (hb hby d8_20) rfl rfl k_) ?_
        show G (T12.setTop (mkF m 21 #[.val (.ref a), .val (.int (Int32.ofNat o)), .val (.int (Int32.ofNat (o + ds.length))), .val (.int (Int32.ofNat cs.length)), .unset] [(.ref a)]))
        exact own_retAW hR hret rfl rfl X12 hx (hb hby d8_21) e12 SI0 (Nat.le_refl _) hZ (CHr.refl H0) (by decide) (by decide) ⟨a, t, kt, (1 : Int32), (Int32.ofNat (2 * cs.length)), vs, rfl, N12, (Keep.refl h0 []), g0_E, g1_F, g2_F, g3_V, (by rw [own_from_all (ds := ds) (cs := cs) (by have e := own_zeroN hc12_13 (by omega); rw [← e]; exact g12_hds) (by have e := own_zeroN hc12_13 (by omega); have e2 := own_ofNat_inj (by omega) (by omega) hc17_14; omega)]; exact (Or.inr ⟨hbig, rfl, rfl, h16⟩))⟩
      · skip
        refine hG _ _ (fun t_ k_ => XS.icmpYes X12.here hx rfl (pc0 := 17) (pc' := 22) rfl (hb hby d8_17) rfl (feq hc17_14).2 (by decide) (by decide) k_) ?_
        show G (T12.setTop (mkF m 22 #[.val (.ref a), .val (.int (Int32.ofNat o)), .val (.int (Int32.ofNat (o + ds.length))), .val (.int (Int32.ofNat cs.length)), .unset] []))
        refine hG _ _ (fun t_ k_ => XS.iloadN X12.here hx rfl (hb hby d8_22) rfl k_) ?_
        refine hG _ _ (fun t_ k_ => XS.iloadN X12.here hx rfl (hb hby d8_23) rfl k_) ?_
        refine hG _ _ (fun t_ k_ => XS.isub X12.here hx rfl (hb hby d8_24) rfl k_) ?_
        show G (T12.setTop (mkF m 25 #[.val (.ref a), .val (.int (Int32.ofNat o)), .val (.int (Int32.ofNat (o + ds.length))), .val (.int (Int32.ofNat cs.length)), .unset] [(.int ((Int32.ofNat (o + ds.length)) - (Int32.ofNat o)))]))
        rw [show Int32.ofNat (o + ds.length) - Int32.ofNat o = Int32.ofNat ds.length from (own_subN (by omega)).trans (congrArg Int32.ofNat (by omega))]
        show G (T12.setTop (mkF m 25 #[.val (.ref a), .val (.int (Int32.ofNat o)), .val (.int (Int32.ofNat (o + ds.length))), .val (.int (Int32.ofNat cs.length)), .unset] [(.int (Int32.ofNat ds.length))]))
        refine hG _ _ (fun t_ k_ => XS.istore X12.here hx rfl (hb hby d8_25) rfl (l' := #[.val (.ref a), .val (.int (Int32.ofNat o)), .val (.int (Int32.ofNat (o + ds.length))), .val (.int (Int32.ofNat cs.length)), .val (.int (Int32.ofNat ds.length))]) rfl k_) ?_
        refine hG _ _ (fun t_ k_ => XS.aloadN X12.here hx rfl (hb hby d8_27) rfl rfl k_) ?_
        show G (T12.setTop (mkF m 28 #[.val (.ref a), .val (.int (Int32.ofNat o)), .val (.int (Int32.ofNat (o + ds.length))), .val (.int (Int32.ofNat cs.length)), .val (.int (Int32.ofNat ds.length))] [(.ref a)]))
        refine own_callV (C := "java/lang/String") X12 hx hZ hG hown (ow hw 78 rfl) (ow hw 79 rfl) (ow hw 81 rfl) (ow hw 80 rfl) (ow hw 8 rfl) (ow hw 82 rfl) (by decide) 0 (own_isl1 l Z a0 hw a cpt h0 O0 g1_F g7_S g8_hcpt) (by decide) (by decide) e12 g0_E (by rw [hml]; rfl) (lenOf own_pd9 rfl) (argsL := []) (rest := []) rfl rfl (Nat.le_of_eq rfl) (hb hby d8_28) (by decide) (by decide) ?_
        intro T15 h15 v15 L15 X15 e15 q15
        obtain ⟨rfl, M15, rfl⟩ := q15
        have N15 := Fr.app N12 M15
        show G (T15.setTop (mkF m 31 #[.val (.ref a), .val (.int (Int32.ofNat o)), .val (.int (Int32.ofNat (o + ds.length))), .val (.int (Int32.ofNat cs.length)), .val (.int (Int32.ofNat ds.length))] [(.int 0)]))
        refine hG _ _ (fun t_ k_ => XS.ifYes X15.here hx rfl (pc0 := 31) (pc' := 47) rfl (hb hby d8_31) rfl ((if0 _ _).trans (teq (by decide)).1) (by decide) (by decide) k_) ?_
        show G (T15.setTop (mkF m 47 #[.val (.ref a), .val (.int (Int32.ofNat o)), .val (.int (Int32.ofNat (o + ds.length))), .val (.int (Int32.ofNat cs.length)), .val (.int (Int32.ofNat ds.length))] []))
        refine hG _ _ (fun t_ k_ => XS.aloadN X15.here hx rfl (hb hby d8_47) rfl rfl k_) ?_
        show G (T15.setTop (mkF m 48 #[.val (.ref a), .val (.int (Int32.ofNat o)), .val (.int (Int32.ofNat (o + ds.length))), .val (.int (Int32.ofNat cs.length)), .val (.int (Int32.ofNat ds.length))] [(.ref a)]))
        obtain ⟨T16, X16, e16, st16⟩ := getF X15 hx hZ hown (host := "") (Or.inl (ow hw 25 rfl)) Via.refl e15 g2_F (g := (mkF m 48 #[.val (.ref a), .val (.int (Int32.ofNat o)), .val (.int (Int32.ofNat (o + ds.length))), .val (.int (Int32.ofNat cs.length)), .val (.int (Int32.ofNat ds.length))] [(.ref a)])) rfl rfl (hb hby d8_48)
        refine hG _ _ st16 ?_
        show G (T16.setTop (mkF m 51 #[.val (.ref a), .val (.int (Int32.ofNat o)), .val (.int (Int32.ofNat (o + ds.length))), .val (.int (Int32.ofNat cs.length)), .val (.int (Int32.ofNat ds.length))] [(.ref t)]))
        refine hG _ _ (fun t_ k_ => XS.iloadN X16.here hx rfl (hb hby d8_51) rfl k_) ?_
        refine hG _ _ (fun t_ k_ => XS.iload X16.here hx rfl (hb hby d8_52) rfl k_) ?_
        show G (T16.setTop (mkF m 54 #[.val (.ref a), .val (.int (Int32.ofNat o)), .val (.int (Int32.ofNat (o + ds.length))), .val (.int (Int32.ofNat cs.length)), .val (.int (Int32.ofNat ds.length))] [(.int (Int32.ofNat ds.length)), (.int (Int32.ofNat o)), (.ref t)]))
        refine own_callS X16 hx hZ hG hown (ow hw 151 rfl) (ow hw 152 rfl) (ow hw 65 rfl) (ow hw 153 rfl) (by decide) 0 (own_nsu l Z a0 hw t kt vs cs ds o fmt cpt h0 O0 g3_V g5_hcap g6_h16 h16 g12_hds g9_S g10_S g11_S g14_hfmt g15_S (fun q => hc17_14 (congrArg Int32.ofNat (by omega))) (g13_hpos hbig) g7_S g8_hcpt) (by decide) (by decide) e16 (by rw [hml]; rfl) (lenOf own_pd22 rfl) (argsL := [(.ref t), (.int (Int32.ofNat o)), (.int (Int32.ofNat ds.length))]) (rest := []) rfl rfl (Nat.le_of_eq rfl) (hb hby d8_54) (by decide) (by decide) ?_
        intro T17 h17 v17 L17 X17 e17 q17
        obtain ⟨q_17, u_17, ku_17, c2_17, n2_17, us_17, rfl, M17, J17, r17_0, r17_1, r17_2, r17_3, r17_4⟩ := q17
        have N17 := Fr.app N15 M17
        have R17 := (CHr.keep J17 all0 H0)
        have C17 := (CHr.refl H0).trans R17
        have K17 : Keep h0 h17 [] := (Keep.refl h0 []).trans J17 all0
        have O17 : own_Old Z h17 := O0.keep J17 all0
        show G (T17.setTop (mkF m 57 #[.val (.ref a), .val (.int (Int32.ofNat o)), .val (.int (Int32.ofNat (o + ds.length))), .val (.int (Int32.ofNat cs.length)), .val (.int (Int32.ofNat ds.length))] [(.ref q_17)]))
        exact own_retAW hR hret rfl rfl X17 hx (hb hby d8_57) e17 SI0 (Nat.le_trans (Nat.le_refl _) R17.2.1) hZ C17 (by decide) (by decide) ⟨q_17, u_17, ku_17, c2_17, n2_17, us_17, rfl, N17, K17, r17_0, r17_1, r17_2, r17_3, r17_4⟩
    · skip
      refine hG _ _ (fun t_ k_ => XS.ifYes X12.here hx rfl (pc0 := 12) (pc' := 22) rfl (hb hby d8_12) rfl ((if0 _ _).trans (feq hc12_13).2) (by decide) (by decide) k_) ?_
      show G (T12.setTop (mkF m 22 #[.val (.ref a), .val (.int (Int32.ofNat o)), .val (.int (Int32.ofNat (o + ds.length))), .val (.int (Int32.ofNat cs.length)), .unset] []))
      refine hG _ _ (fun t_ k_ => XS.iloadN X12.here hx rfl (hb hby d8_22) rfl k_) ?_
      refine hG _ _ (fun t_ k_ => XS.iloadN X12.here hx rfl (hb hby d8_23) rfl k_) ?_
      refine hG _ _ (fun t_ k_ => XS.isub X12.here hx rfl (hb hby d8_24) rfl k_) ?_
      show G (T12.setTop (mkF m 25 #[.val (.ref a), .val (.int (Int32.ofNat o)), .val (.int (Int32.ofNat (o + ds.length))), .val (.int (Int32.ofNat cs.length)), .unset] [(.int ((Int32.ofNat (o + ds.length)) - (Int32.ofNat o)))]))
      rw [show Int32.ofNat (o + ds.length) - Int32.ofNat o = Int32.ofNat ds.length from (own_subN (by omega)).trans (congrArg Int32.ofNat (by omega))]
      show G (T12.setTop (mkF m 25 #[.val (.ref a), .val (.int (Int32.ofNat o)), .val (.int (Int32.ofNat (o + ds.length))), .val (.int (Int32.ofNat cs.length)), .unset] [(.int (Int32.ofNat ds.length))]))
      refine hG _ _ (fun t_ k_ => XS.istore X12.here hx rfl (hb hby d8_25) rfl (l' := #[.val (.ref a), .val (.int (Int32.ofNat o)), .val (.int (Int32.ofNat (o + ds.length))), .val (.int (Int32.ofNat cs.length)), .val (.int (Int32.ofNat ds.length))]) rfl k_) ?_
      refine hG _ _ (fun t_ k_ => XS.aloadN X12.here hx rfl (hb hby d8_27) rfl rfl k_) ?_
      show G (T12.setTop (mkF m 28 #[.val (.ref a), .val (.int (Int32.ofNat o)), .val (.int (Int32.ofNat (o + ds.length))), .val (.int (Int32.ofNat cs.length)), .val (.int (Int32.ofNat ds.length))] [(.ref a)]))
      refine own_callV (C := "java/lang/String") X12 hx hZ hG hown (ow hw 78 rfl) (ow hw 79 rfl) (ow hw 81 rfl) (ow hw 80 rfl) (ow hw 8 rfl) (ow hw 82 rfl) (by decide) 0 (own_isl1 l Z a0 hw a cpt h0 O0 g1_F g7_S g8_hcpt) (by decide) (by decide) e12 g0_E (by rw [hml]; rfl) (lenOf own_pd9 rfl) (argsL := []) (rest := []) rfl rfl (Nat.le_of_eq rfl) (hb hby d8_28) (by decide) (by decide) ?_
      intro T18 h18 v18 L18 X18 e18 q18
      obtain ⟨rfl, M18, rfl⟩ := q18
      have N18 := Fr.app N12 M18
      show G (T18.setTop (mkF m 31 #[.val (.ref a), .val (.int (Int32.ofNat o)), .val (.int (Int32.ofNat (o + ds.length))), .val (.int (Int32.ofNat cs.length)), .val (.int (Int32.ofNat ds.length))] [(.int 0)]))
      refine hG _ _ (fun t_ k_ => XS.ifYes X18.here hx rfl (pc0 := 31) (pc' := 47) rfl (hb hby d8_31) rfl ((if0 _ _).trans (teq (by decide)).1) (by decide) (by decide) k_) ?_
      show G (T18.setTop (mkF m 47 #[.val (.ref a), .val (.int (Int32.ofNat o)), .val (.int (Int32.ofNat (o + ds.length))), .val (.int (Int32.ofNat cs.length)), .val (.int (Int32.ofNat ds.length))] []))
      refine hG _ _ (fun t_ k_ => XS.aloadN X18.here hx rfl (hb hby d8_47) rfl rfl k_) ?_
      show G (T18.setTop (mkF m 48 #[.val (.ref a), .val (.int (Int32.ofNat o)), .val (.int (Int32.ofNat (o + ds.length))), .val (.int (Int32.ofNat cs.length)), .val (.int (Int32.ofNat ds.length))] [(.ref a)]))
      obtain ⟨T19, X19, e19, st19⟩ := getF X18 hx hZ hown (host := "") (Or.inl (ow hw 25 rfl)) Via.refl e18 g2_F (g := (mkF m 48 #[.val (.ref a), .val (.int (Int32.ofNat o)), .val (.int (Int32.ofNat (o + ds.length))), .val (.int (Int32.ofNat cs.length)), .val (.int (Int32.ofNat ds.length))] [(.ref a)])) rfl rfl (hb hby d8_48)
      refine hG _ _ st19 ?_
      show G (T19.setTop (mkF m 51 #[.val (.ref a), .val (.int (Int32.ofNat o)), .val (.int (Int32.ofNat (o + ds.length))), .val (.int (Int32.ofNat cs.length)), .val (.int (Int32.ofNat ds.length))] [(.ref t)]))
      refine hG _ _ (fun t_ k_ => XS.iloadN X19.here hx rfl (hb hby d8_51) rfl k_) ?_
      refine hG _ _ (fun t_ k_ => XS.iload X19.here hx rfl (hb hby d8_52) rfl k_) ?_
      show G (T19.setTop (mkF m 54 #[.val (.ref a), .val (.int (Int32.ofNat o)), .val (.int (Int32.ofNat (o + ds.length))), .val (.int (Int32.ofNat cs.length)), .val (.int (Int32.ofNat ds.length))] [(.int (Int32.ofNat ds.length)), (.int (Int32.ofNat o)), (.ref t)]))
      refine own_callS X19 hx hZ hG hown (ow hw 151 rfl) (ow hw 152 rfl) (ow hw 65 rfl) (ow hw 153 rfl) (by decide) 0 (own_nsu l Z a0 hw t kt vs cs ds o fmt cpt h0 O0 g3_V g5_hcap g6_h16 h16 g12_hds g9_S g10_S g11_S g14_hfmt g15_S (fun q => hc12_13 (by rw [q.1]; rfl)) (g13_hpos hbig) g7_S g8_hcpt) (by decide) (by decide) e19 (by rw [hml]; rfl) (lenOf own_pd22 rfl) (argsL := [(.ref t), (.int (Int32.ofNat o)), (.int (Int32.ofNat ds.length))]) (rest := []) rfl rfl (Nat.le_of_eq rfl) (hb hby d8_54) (by decide) (by decide) ?_
      intro T20 h20 v20 L20 X20 e20 q20
      obtain ⟨q_20, u_20, ku_20, c2_20, n2_20, us_20, rfl, M20, J20, r20_0, r20_1, r20_2, r20_3, r20_4⟩ := q20
      have N20 := Fr.app N18 M20
      have R20 := (CHr.keep J20 all0 H0)
      have C20 := (CHr.refl H0).trans R20
      have K20 : Keep h0 h20 [] := (Keep.refl h0 []).trans J20 all0
      have O20 : own_Old Z h20 := O0.keep J20 all0
      show G (T20.setTop (mkF m 57 #[.val (.ref a), .val (.int (Int32.ofNat o)), .val (.int (Int32.ofNat (o + ds.length))), .val (.int (Int32.ofNat cs.length)), .val (.int (Int32.ofNat ds.length))] [(.ref q_20)]))
      exact own_retAW hR hret rfl rfl X20 hx (hb hby d8_57) e20 SI0 (Nat.le_trans (Nat.le_refl _) R20.2.1) hZ C20 (by decide) (by decide) ⟨q_20, u_20, ku_20, c2_20, n2_20, us_20, rfl, N20, K20, r20_0, r20_1, r20_2, r20_3, r20_4⟩
set_option maxRecDepth 65536 in
set_option maxHeartbeats 40000000 in
theorem own_draw (l : Launch) (Z : State) (a0 : Array Value) (hw : ∀ d ∈ tables_1, d.before a0 Z = true) (x : Int32) (h0 : Heap) (O0 : own_Old Z h0) :
    own_Con l Z (⟨"com/example/handlewright/handlewright/OrderStripBlanksPinLaw", "draw", "(I)C"⟩ : MethodName) method_2_code 2 (some .char) [] ({ frames := 0, cells := 0, slots := 0, locals := 0 } : Room) #[(.int x)] h0 (fun rv rh rL => ∃ (r : Int32), rv = some (.int r) ∧ own_Fr Z rL ∧ h0 = rh ∧ (0 ≤ r.toInt ∧ r.toInt ≤ 65535)) := by
  refine own_intro (plainFor_of_name (by first | (simp [plainName, overriddenIn]; done) | decide +kernel)) ?_
  intro p e s m below meth c s₁ G hx hby hml hown hnm hret hZ X0 e0 hG hR
  have N0 := Fr.nil Z.heap.size
  refine own_entry (Ls := #[.val (.int x), .unset]) (by first | (simp [entryFrame, mkF, argsToLocals, Value.category]; done) | rfl) ?_
  show G (s₁.setTop (mkF m 0 #[.val (.int x), .unset] []))
  refine hG _ _ (fun t_ k_ => XS.iloadN X0.here hx rfl (hb hby d1_0) rfl k_) ?_
  refine hG _ _ (fun t_ k_ => XS.iconst X0.here hx rfl (hb hby d1_1) k_) ?_
  refine hG _ _ (fun t_ k_ => XS.iand X0.here hx rfl (hb hby d1_2) rfl k_) ?_
  refine hG _ _ (fun t_ k_ => XS.istoreN X0.here hx rfl (hb hby d1_3) rfl (l' := #[.val (.int x), .val (.int (x &&& (3 : Int32)))]) rfl k_) ?_
  refine hG _ _ (fun t_ k_ => XS.iloadN X0.here hx rfl (hb hby d1_4) rfl k_) ?_
  show G (s₁.setTop (mkF m 5 #[.val (.int x), .val (.int (x &&& (3 : Int32)))] [(.int (x &&& (3 : Int32)))]))
  by_cases hc5_1 : (x &&& (3 : Int32)) = (0 : Int32)
  · skip
    refine hG _ _ (fun t_ k_ => XS.ifNo X0.here hx rfl (hb hby d1_5) rfl ((if0 _ _).trans (teq hc5_1).2) k_) ?_
    show G (s₁.setTop (mkF m 8 #[.val (.int x), .val (.int (x &&& (3 : Int32)))] []))
    refine hG _ _ (fun t_ k_ => XS.bipush X0.here hx rfl (hb hby d1_8) k_) ?_
    show G (s₁.setTop (mkF m 10 #[.val (.int x), .val (.int (x &&& (3 : Int32)))] [(.int 32)]))
    exact own_retN hR hret (by simp) X0 hx (hb hby d1_10) (by decide) (by decide) (by rw [e0]; exact ⟨(nar .char (32 : Int32)), rfl, N0, rfl, (own_narrng _)⟩)
  · skip
    refine hG _ _ (fun t_ k_ => XS.ifYes X0.here hx rfl (pc0 := 5) (pc' := 11) rfl (hb hby d1_5) rfl ((if0 _ _).trans (feq hc5_1).2) (by decide) (by decide) k_) ?_
    show G (s₁.setTop (mkF m 11 #[.val (.int x), .val (.int (x &&& (3 : Int32)))] []))
    refine hG _ _ (fun t_ k_ => XS.iloadN X0.here hx rfl (hb hby d1_11) rfl k_) ?_
    refine hG _ _ (fun t_ k_ => XS.iconst X0.here hx rfl (hb hby d1_12) k_) ?_
    show G (s₁.setTop (mkF m 13 #[.val (.int x), .val (.int (x &&& (3 : Int32)))] [(.int 1), (.int (x &&& (3 : Int32)))]))
    by_cases hc13_2 : (x &&& (3 : Int32)) = (1 : Int32)
    · skip
      refine hG _ _ (fun t_ k_ => XS.icmpNo X0.here hx rfl (hb hby d1_13) rfl (teq hc13_2).2 k_) ?_
      show G (s₁.setTop (mkF m 16 #[.val (.int x), .val (.int (x &&& (3 : Int32)))] []))
      refine hG _ _ (fun t_ k_ => XS.bipush X0.here hx rfl (hb hby d1_16) k_) ?_
      show G (s₁.setTop (mkF m 18 #[.val (.int x), .val (.int (x &&& (3 : Int32)))] [(.int 9)]))
      exact own_retN hR hret (by simp) X0 hx (hb hby d1_18) (by decide) (by decide) (by rw [e0]; exact ⟨(nar .char (9 : Int32)), rfl, N0, rfl, (own_narrng _)⟩)
    · skip
      refine hG _ _ (fun t_ k_ => XS.icmpYes X0.here hx rfl (pc0 := 13) (pc' := 19) rfl (hb hby d1_13) rfl (feq hc13_2).2 (by decide) (by decide) k_) ?_
      show G (s₁.setTop (mkF m 19 #[.val (.int x), .val (.int (x &&& (3 : Int32)))] []))
      refine hG _ _ (fun t_ k_ => XS.iloadN X0.here hx rfl (hb hby d1_19) rfl k_) ?_
      refine hG _ _ (fun t_ k_ => XS.iconst X0.here hx rfl (hb hby d1_20) k_) ?_
      refine hG _ _ (fun t_ k_ => XS.iushr X0.here hx rfl (hb hby d1_21) rfl k_) ?_
      show G (s₁.setTop (mkF m 22 #[.val (.int x), .val (.int (x &&& (3 : Int32)))] [(.int ((x.toUInt32 >>> ((2 : Int32) &&& 31).toUInt32).toInt32))]))
      refine hG _ _ (X0.ldcInt hx hown (mvT hZ (ow hw 5 rfl)) (g := (mkF m 22 #[.val (.int x), .val (.int (x &&& (3 : Int32)))] [(.int ((x.toUInt32 >>> ((2 : Int32) &&& 31).toUInt32).toInt32))])) rfl (hb hby d1_22)) ?_
      show G (s₁.setTop (mkF m 24 #[.val (.int x), .val (.int (x &&& (3 : Int32)))] [(.int 65535), (.int ((x.toUInt32 >>> ((2 : Int32) &&& 31).toUInt32).toInt32))]))
      refine hG _ _ (fun t_ k_ => XS.iand X0.here hx rfl (hb hby d1_24) rfl k_) ?_
      refine hG _ _ (fun t_ k_ => XS.i2c X0.here hx rfl (hb hby d1_25) rfl k_) ?_
      show G (s₁.setTop (mkF m 26 #[.val (.int x), .val (.int (x &&& (3 : Int32)))] [(.int ((((x.toUInt32 >>> ((2 : Int32) &&& 31).toUInt32).toInt32) &&& (65535 : Int32)).toUInt32.toUInt16.toUInt32.toInt32))]))
      exact own_retN hR hret (by simp) X0 hx (hb hby d1_26) (by decide) (by decide) (by rw [e0]; exact ⟨(nar .char ((((x.toUInt32 >>> ((2 : Int32) &&& 31).toUInt32).toInt32) &&& (65535 : Int32)).toUInt32.toUInt16.toUInt32.toInt32)), rfl, N0, rfl, (own_narrng _)⟩)
theorem own_pd27 : parseMethodDescriptor "(C)Z" = some ⟨[.char], some .boolean⟩ := by decide +kernel
set_option maxRecDepth 65536 in
set_option maxHeartbeats 40000000 in
theorem own_isb (l : Launch) (Z : State) (a0 : Array Value) (hw : ∀ d ∈ tables_1, d.before a0 Z = true) (ch : Int32) (h0 : Heap) (O0 : own_Old Z h0) :
    own_Con l Z (⟨"com/example/handlewright/handlewright/Order", "isBlank", "(C)Z"⟩ : MethodName) prog_21_method_16_code 1 (some .boolean) [] ({ frames := 0, cells := 0, slots := 0, locals := 0 } : Room) #[(.int ch)] h0 (fun rv rh rL => ∃ (r : Int32), rv = some (.int r) ∧ own_Fr Z rL ∧ h0 = rh ∧ ((r = (1 : Int32) ∧ own_bl ch) ∨ (r = (0 : Int32) ∧ ¬ own_bl ch))) := by
  refine own_intro (plainFor_of_name (by first | (simp [plainName, overriddenIn]; done) | decide +kernel)) ?_
  intro p e s m below meth c s₁ G hx hby hml hown hnm hret hZ X0 e0 hG hR
  have N0 := Fr.nil Z.heap.size
  refine own_entry (Ls := #[.val (.int ch)]) (by first | (simp [entryFrame, mkF, argsToLocals, Value.category]; done) | rfl) ?_
  show G (s₁.setTop (mkF m 0 #[.val (.int ch)] []))
  refine hG _ _ (fun t_ k_ => XS.iloadN X0.here hx rfl (hb hby d21_0) rfl k_) ?_
  refine hG _ _ (fun t_ k_ => XS.bipush X0.here hx rfl (hb hby d21_1) k_) ?_
  show G (s₁.setTop (mkF m 3 #[.val (.int ch)] [(.int 32), (.int ch)]))
  by_cases hc3_1 : ch = (32 : Int32)
  · skip
    refine hG _ _ (fun t_ k_ => XS.icmpYes X0.here hx rfl (pc0 := 3) (pc' := 12) rfl (hb hby d21_3) rfl (teq hc3_1).1 (by decide) (by decide) k_) ?_
    show G (s₁.setTop (mkF m 12 #[.val (.int ch)] []))
    refine hG _ _ (fun t_ k_ => XS.iconst X0.here hx rfl (hb hby d21_12) k_) ?_
    refine hG _ _ (fun t_ k_ => XS.goto X0.here hx rfl (pc0 := 13) (pc' := 17) rfl (hb hby d21_13) (by decide) (by decide) k_) ?_
    show G (s₁.setTop (mkF m 17 #[.val (.int ch)] [(.int 1)]))
    exact own_retN hR hret (by simp) X0 hx (hb hby d21_17) (by decide) (by decide) (by rw [e0]; exact ⟨(1 : Int32), rfl, N0, rfl, (Or.inl ⟨rfl, Or.inl hc3_1⟩)⟩)
  · skip
    refine hG _ _ (fun t_ k_ => XS.icmpNo X0.here hx rfl (hb hby d21_3) rfl (feq hc3_1).1 k_) ?_
    show G (s₁.setTop (mkF m 6 #[.val (.int ch)] []))
    refine hG _ _ (fun t_ k_ => XS.iloadN X0.here hx rfl (hb hby d21_6) rfl k_) ?_
    refine hG _ _ (fun t_ k_ => XS.bipush X0.here hx rfl (hb hby d21_7) k_) ?_
    show G (s₁.setTop (mkF m 9 #[.val (.int ch)] [(.int 9), (.int ch)]))
    by_cases hc9_2 : ch = (9 : Int32)
    · skip
      refine hG _ _ (fun t_ k_ => XS.icmpNo X0.here hx rfl (hb hby d21_9) rfl (teq hc9_2).2 k_) ?_
      show G (s₁.setTop (mkF m 12 #[.val (.int ch)] []))
      refine hG _ _ (fun t_ k_ => XS.iconst X0.here hx rfl (hb hby d21_12) k_) ?_
      refine hG _ _ (fun t_ k_ => XS.goto X0.here hx rfl (pc0 := 13) (pc' := 17) rfl (hb hby d21_13) (by decide) (by decide) k_) ?_
      show G (s₁.setTop (mkF m 17 #[.val (.int ch)] [(.int 1)]))
      exact own_retN hR hret (by simp) X0 hx (hb hby d21_17) (by decide) (by decide) (by rw [e0]; exact ⟨(1 : Int32), rfl, N0, rfl, (Or.inl ⟨rfl, Or.inr hc9_2⟩)⟩)
    · skip
      refine hG _ _ (fun t_ k_ => XS.icmpYes X0.here hx rfl (pc0 := 9) (pc' := 16) rfl (hb hby d21_9) rfl (feq hc9_2).2 (by decide) (by decide) k_) ?_
      show G (s₁.setTop (mkF m 16 #[.val (.int ch)] []))
      refine hG _ _ (fun t_ k_ => XS.iconst X0.here hx rfl (hb hby d21_16) k_) ?_
      show G (s₁.setTop (mkF m 17 #[.val (.int ch)] [(.int 0)]))
      exact own_retN hR hret (by simp) X0 hx (hb hby d21_17) (by decide) (by decide) (by rw [e0]; exact ⟨(0 : Int32), rfl, N0, rfl, (Or.inr ⟨rfl, fun q => q.elim hc3_1 hc9_2⟩)⟩)
theorem own_pd28 : parseMethodDescriptor "(Ljava/lang/String;)Ljava/lang/String;" = some ⟨[(.object "java/lang/String")], some (.object "java/lang/String")⟩ := by decide +kernel
set_option maxRecDepth 65536 in
set_option maxHeartbeats 40000000 in
theorem own_strip (l : Launch) (Z : State) (a0 : Array Value) (hw : ∀ d ∈ tables_1, d.before a0 Z = true) (hEL : EW Z a0 consts_1) (a : Addr) (t : Addr) (kt : ClassId) (cs : List Int32) (cd : Int32) (nb : Int32) (vs : List Value) (cpt : Int32) (fmt : Value) (h0 : Heap) (O0 : own_Old Z h0) (g0_E : Exa Z h0 a "java/lang/String") (g1_F : Fld Z h0 a "java/lang/String" "coder" "B" (.int cd)) (g2_F : Fld Z h0 a "java/lang/String" "value" "[B" (.ref t)) (g3_V : Arv Z h0 t kt .byte nb vs (.int 0)) (g4_henc : own_enc cs cd nb vs) (g5_hcap : cs.length ≤ 4) (g6_h16 : ∀ c ∈ cs, 0 ≤ c.toInt ∧ c.toInt ≤ 65535) (g7_S : Sta Z Z.heap "java/lang/String" "COMPACT_STRINGS" "Z" (.int cpt)) (g8_hcpt : ¬ (cpt = (0 : Int32))) (g9_S : Sta Z Z.heap "java/lang/StringUTF16" "$assertionsDisabled" "Z" (.int 1)) (g10_S : Sta Z Z.heap "java/lang/StringUTF16" "HI_BYTE_SHIFT" "I" (.int 0)) (g11_S : Sta Z Z.heap "java/lang/StringUTF16" "LO_BYTE_SHIFT" "I" (.int 8)) (g12_hfmt : fmt.isRef = true) (g13_S : Sta Z Z.heap "jdk/internal/util/Preconditions" "SIOOBE_FORMATTER" "Ljava/util/function/BiFunction;" fmt) :
    own_ConW l Z consts_1 (⟨"com/example/handlewright/handlewright/Order", "stripBlanks", "(Ljava/lang/String;)Ljava/lang/String;"⟩ : MethodName) prog_21_method_15_code 3 (some (.object "java/lang/String")) [] ({ frames := 7, cells := 3, slots := 16, locals := 119 } : Room) #[(.ref a)] h0 (fun rv rh rL => ∃ (B : Nat) (E : Nat) (q : Addr) (u : Addr) (ku : ClassId) (c2 : Int32) (n2 : Int32) (us : List Value), rv = some (.ref q) ∧ own_Fr Z rL ∧ Keep h0 rh [] ∧ (Exa Z rh q "java/lang/String") ∧ (Fld Z rh q "java/lang/String" "coder" "B" (.int c2)) ∧ (Fld Z rh q "java/lang/String" "value" "[B" (.ref u)) ∧ (Arv Z rh u ku .byte n2 us (.int 0)) ∧ (own_enc ((cs.drop B).take (E - B)) c2 n2 us) ∧ (own_st cs B E)) := by
  refine own_introW hEL (plainFor_of_name (by first | (simp [plainName, overriddenIn]; done) | decide +kernel)) ?_
  intro p e s m below meth c s₁ G hx hby hml hown hnm hret hZ X0 e0 H0 SI0 hG hR
  have N0 := Fr.nil Z.heap.size
  refine own_entry (Ls := #[.val (.ref a), .unset, .unset]) (by first | (simp [entryFrame, mkF, argsToLocals, Value.category]; done) | rfl) ?_
  show G (s₁.setTop (mkF m 0 #[.val (.ref a), .unset, .unset] []))
  refine hG _ _ (fun t_ k_ => XS.iconst X0.here hx rfl (hb hby d5_0) k_) ?_
  refine hG _ _ (fun t_ k_ => XS.istoreN X0.here hx rfl (hb hby d5_1) rfl (l' := #[.val (.ref a), .val (.int 0), .unset]) rfl k_) ?_
  refine hG _ _ (fun t_ k_ => XS.aloadN X0.here hx rfl (hb hby d5_2) rfl rfl k_) ?_
  show G (s₁.setTop (mkF m 3 #[.val (.ref a), .val (.int 0), .unset] [(.ref a)]))
  refine own_callV (C := "java/lang/String") X0 hx hZ hG hown (ow hw 31 rfl) (ow hw 32 rfl) (ow hw 34 rfl) (ow hw 33 rfl) (ow hw 8 rfl) (ow hw 35 rfl) (by decide) 0 (own_len l Z a0 hw a t kt cs cd nb vs cpt h0 O0 g0_E g1_F g2_F g3_V g4_henc g5_hcap g6_h16 g7_S g8_hcpt) (by decide) (by decide) e0 g0_E (by rw [hml]; rfl) (lenOf own_pd11 rfl) (argsL := []) (rest := []) rfl rfl (Nat.le_of_eq rfl) (hb hby d5_3) (by decide) (by decide) ?_
  intro T1 h1 v1 L1 X1 e1 q1
  obtain ⟨rfl, M1, rfl⟩ := q1
  have N1 := Fr.app N0 M1
  show G (T1.setTop (mkF m 6 #[.val (.ref a), .val (.int 0), .unset] [(.int (Int32.ofNat cs.length))]))
  refine hG _ _ (fun t_ k_ => XS.istoreN X1.here hx rfl (hb hby d5_6) rfl (l' := #[.val (.ref a), .val (.int 0), .val (.int (Int32.ofNat cs.length))]) rfl k_) ?_
  show G (T1.setTop (mkF m 7 #[.val (.ref a), .val (.int 0), .val (.int (Int32.ofNat cs.length))] []))
  have tail : ∀ (B E : Nat) (T : State) (locs : List Loc), own_st cs B E → Stand p l e ({ frames := 7, cells := 3, slots := 16, locals := 119 } : Room) (s.setVm s.vm) m #[.ref a] below meth c T locs 0 0 → T.heap = h0 → own_Fr Z locs → G (T.setTop (mkF m 53 #[.val (.ref a), .val (.int (Int32.ofNat B)), .val (.int (Int32.ofNat E))] [])) := by
    intro B E T locs hst X eT N
    have hfs := own_from_sub cs hst.1 hst.2.1
    refine hG _ _ (fun t_ k_ => XS.aloadN X.here hx rfl (hb hby d5_53) rfl rfl k_) ?_
    refine hG _ _ (fun t_ k_ => XS.iloadN X.here hx rfl (hb hby d5_54) rfl k_) ?_
    refine hG _ _ (fun t_ k_ => XS.iloadN X.here hx rfl (hb hby d5_55) rfl k_) ?_
    show G (T.setTop (mkF m 56 #[.val (.ref a), .val (.int (Int32.ofNat B)), .val (.int (Int32.ofNat E))] [(.int (Int32.ofNat E)), (.int (Int32.ofNat B)), (.ref a)]))
    rw [show Int32.ofNat E = Int32.ofNat (B + ((cs.drop B).take (E - B)).length) from congrArg Int32.ofNat (by rw [hfs.1]; have := hst.1; omega)]
    show G (T.setTop (mkF m 56 #[.val (.ref a), .val (.int (Int32.ofNat B)), .val (.int (Int32.ofNat (B + ((cs.drop B).take (E - B)).length)))] [(.int (Int32.ofNat (B + ((cs.drop B).take (E - B)).length))), (.int (Int32.ofNat B)), (.ref a)]))
    refine own_callVW (C := "java/lang/String") X hx hZ hG hown (ow hw 42 rfl) (ow hw 43 rfl) (ow hw 45 rfl) (ow hw 44 rfl) (ow hw 8 rfl) (ow hw 46 rfl) (by decide) 0 (own_sub l Z a0 hw hEL a t kt cs cd nb vs cpt ((cs.drop B).take (E - B)) B fmt h0 O0 g0_E g1_F g2_F g3_V g4_henc g5_hcap g6_h16 g7_S g8_hcpt g9_S g10_S g11_S hfs.2 (own_stpos hst) g12_hfmt g13_S) (by decide) (by decide) eT SI0 (Nat.le_refl _) hEL H0 g0_E (by rw [hml]; rfl) (lenOf own_pd26 rfl) (argsL := [(.int (Int32.ofNat B)), (.int (Int32.ofNat (B + ((cs.drop B).take (E - B)).length)))]) (rest := []) rfl rfl (Nat.le_of_eq rfl) (hb hby d5_56) (by decide) (by decide) ?_
    intro T2 h2 v2 L2 X2 e2 SI2 hZ2 hown2 Y2 q2
    obtain ⟨q_2, u_2, ku_2, c2_2, n2_2, us_2, rfl, M2, J2, r2_0, r2_1, r2_2, r2_3, r2_4⟩ := q2
    have N2 := Fr.app N M2
    have R2 := Y2
    have C2 := (CHr.refl H0).trans R2
    have K2 : Keep h0 h2 [] := (Keep.refl h0 []).trans J2 all0
    have O2 : own_Old Z h2 := O0.keep J2 all0
    show G (T2.setTop (mkF m 59 #[.val (.ref a), .val (.int (Int32.ofNat B)), .val (.int (Int32.ofNat (B + ((cs.drop B).take (E - B)).length)))] [(.ref q_2)]))
    exact own_retAW hR hret rfl rfl X2 hx (hb hby d5_59) e2 SI2 (Nat.le_refl _) hZ2 C2 (by decide) (by decide) ⟨B, E, q_2, u_2, ku_2, c2_2, n2_2, us_2, rfl, N2, K2, r2_0, r2_1, r2_2, r2_3, r2_4, hst⟩
  have loop2 : ∀ (B : Nat), B ≤ cs.length → (∀ j, j < B → ¬ own_sol cs j) → (B < cs.length → own_sol cs B) → ∀ (r E : Nat) (T : State) (locs : List Loc), r + B = E → E ≤ cs.length → (∀ j, E ≤ j → ¬ own_sol cs j) → Stand p l e ({ frames := 7, cells := 3, slots := 16, locals := 119 } : Room) (s.setVm s.vm) m #[.ref a] below meth c T locs 0 0 → T.heap = h0 → own_Fr Z locs → G (T.setTop (mkF m 29 #[.val (.ref a), .val (.int (Int32.ofNat B)), .val (.int (Int32.ofNat E))] [])) := by
    intro B hB hn hf r
    induction r with
    | zero =>
      intro E T locs hr hE hs X eT N
      obtain rfl : B = E := by omega
      show G (T.setTop (mkF m 29 #[.val (.ref a), .val (.int (Int32.ofNat B)), .val (.int (Int32.ofNat B))] []))
      refine hG _ _ (fun t_ k_ => XS.iloadN X.here hx rfl (hb hby d5_29) rfl k_) ?_
      refine hG _ _ (fun t_ k_ => XS.iloadN X.here hx rfl (hb hby d5_30) rfl k_) ?_
      show G (T.setTop (mkF m 31 #[.val (.ref a), .val (.int (Int32.ofNat B)), .val (.int (Int32.ofNat B))] [(.int (Int32.ofNat B)), (.int (Int32.ofNat B))]))
      refine hG _ _ (fun t_ k_ => XS.icmpYes X.here hx rfl (pc0 := 31) (pc' := 53) rfl (hb hby d5_31) rfl (flt (own_nlt (Nat.le_refl _) (by omega))).2.2.2 (by decide) (by decide) k_) ?_
      show G (T.setTop (mkF m 53 #[.val (.ref a), .val (.int (Int32.ofNat B)), .val (.int (Int32.ofNat B))] []))
      exact tail _ _ _ _ ⟨by omega, by omega, hn, hf, hs, fun q => absurd q (Nat.lt_irrefl _)⟩ X eT N
    | succ r ih =>
      intro E T locs hr hE hs X eT N
      refine hG _ _ (fun t_ k_ => XS.iloadN X.here hx rfl (hb hby d5_29) rfl k_) ?_
      refine hG _ _ (fun t_ k_ => XS.iloadN X.here hx rfl (hb hby d5_30) rfl k_) ?_
      show G (T.setTop (mkF m 31 #[.val (.ref a), .val (.int (Int32.ofNat B)), .val (.int (Int32.ofNat E))] [(.int (Int32.ofNat B)), (.int (Int32.ofNat E))]))
      refine hG _ _ (fun t_ k_ => XS.icmpNo X.here hx rfl (hb hby d5_31) rfl (tlt (own_lt (by omega) (by omega))).2.2.2 k_) ?_
      show G (T.setTop (mkF m 34 #[.val (.ref a), .val (.int (Int32.ofNat B)), .val (.int (Int32.ofNat E))] []))
      refine hG _ _ (fun t_ k_ => XS.aloadN X.here hx rfl (hb hby d5_34) rfl rfl k_) ?_
      refine hG _ _ (fun t_ k_ => XS.iloadN X.here hx rfl (hb hby d5_35) rfl k_) ?_
      refine hG _ _ (fun t_ k_ => XS.iconst X.here hx rfl (hb hby d5_36) k_) ?_
      refine hG _ _ (fun t_ k_ => XS.isub X.here hx rfl (hb hby d5_37) rfl k_) ?_
      show G (T.setTop (mkF m 38 #[.val (.ref a), .val (.int (Int32.ofNat B)), .val (.int (Int32.ofNat E))] [(.int ((Int32.ofNat E) - (1 : Int32))), (.ref a)]))
      rw [show Int32.ofNat E - (1 : Int32) = Int32.ofNat (E - 1) from own_subN (b := 1) (by omega)]
      show G (T.setTop (mkF m 38 #[.val (.ref a), .val (.int (Int32.ofNat B)), .val (.int (Int32.ofNat E))] [(.int (Int32.ofNat (E - 1))), (.ref a)]))
      refine own_callV (C := "java/lang/String") X hx hZ hG hown (ow hw 73 rfl) (ow hw 74 rfl) (ow hw 76 rfl) (ow hw 75 rfl) (ow hw 8 rfl) (ow hw 77 rfl) (by decide) 0 (own_ca l Z a0 hw a t kt cs cd nb vs cpt (E - 1) fmt h0 O0 g0_E g1_F g2_F g3_V g4_henc g5_hcap g6_h16 g7_S g8_hcpt g9_S g10_S g11_S (by omega) g12_hfmt g13_S) (by decide) (by decide) eT g0_E (by rw [hml]; rfl) (lenOf own_pd16 rfl) (argsL := [(.int (Int32.ofNat (E - 1)))]) (rest := []) rfl rfl (Nat.le_of_eq rfl) (hb hby d5_38) (by decide) (by decide) ?_
      intro T3 h3 v3 L3 X3 e3 q3
      obtain ⟨rfl, M3, rfl⟩ := q3
      have N3 := Fr.app N M3
      show G (T3.setTop (mkF m 41 #[.val (.ref a), .val (.int (Int32.ofNat B)), .val (.int (Int32.ofNat E))] [(.int (cs.getD (E - 1) 0))]))
      refine own_callS X3 hx hZ hG hown (ow hw 93 rfl) (ow hw 94 rfl) (ow hw 29 rfl) (ow hw 95 rfl) (by decide) 0 (own_isb l Z a0 hw (cs.getD (E - 1) 0) h0 O0) (by decide) (by decide) e3 (by rw [hml]; rfl) (lenOf own_pd27 rfl) (argsL := [(.int (cs.getD (E - 1) 0))]) (rest := []) rfl rfl (Nat.le_of_eq rfl) (hb hby d5_41) (by decide) (by decide) ?_
      intro T4 h4 v4 L4 X4 e4 q4
      obtain ⟨r_4, rfl, M4, rfl, r4_0⟩ := q4
      have N4 := Fr.app N3 M4
      show G (T4.setTop (mkF m 44 #[.val (.ref a), .val (.int (Int32.ofNat B)), .val (.int (Int32.ofNat E))] [(.int r_4)]))
      by_cases hc44_5 : r_4 = (0 : Int32)
      · skip
        refine hG _ _ (fun t_ k_ => XS.ifYes X4.here hx rfl (pc0 := 44) (pc' := 53) rfl (hb hby d5_44) rfl ((if0 _ _).trans (teq hc44_5).1) (by decide) (by decide) k_) ?_
        show G (T4.setTop (mkF m 53 #[.val (.ref a), .val (.int (Int32.ofNat B)), .val (.int (Int32.ofNat E))] []))
        exact tail _ _ _ _ ⟨by omega, by omega, hn, hf, hs, fun _ => ⟨by omega, own_zer r4_0 hc44_5⟩⟩ X4 e4 N4
      · skip
        refine hG _ _ (fun t_ k_ => XS.ifNo X4.here hx rfl (hb hby d5_44) rfl ((if0 _ _).trans (feq hc44_5).1) k_) ?_
        show G (T4.setTop (mkF m 47 #[.val (.ref a), .val (.int (Int32.ofNat B)), .val (.int (Int32.ofNat E))] []))
        refine hG _ _ (fun t_ k_ => XS.iinc X4.here hx rfl (hb hby d5_47) rfl (l' := #[.val (.ref a), .val (.int (Int32.ofNat B)), .val (.int ((Int32.ofNat E) + (-1 : Int32)))]) rfl k_) ?_
        refine hG _ _ (fun t_ k_ => XS.goto X4.here hx rfl (pc0 := 50) (pc' := 29) rfl (hb hby d5_50) (by decide) (by decide) k_) ?_
        show G (T4.setTop (mkF m 29 #[.val (.ref a), .val (.int (Int32.ofNat B)), .val (.int ((Int32.ofNat E) + (-1 : Int32)))] []))
        rw [own_dec (by omega)]
        exact ih (E - 1) _ _ (by omega) (by omega) (fun j hj => by rcases Nat.lt_or_ge j E with q | q; exact fun z => z.2 ((show j = E - 1 by omega) ▸ own_one r4_0 hc44_5); exact hs j q) X4 e4 N4
  have loop1 : ∀ (r i : Nat) (T : State) (locs : List Loc), r + i = cs.length → (∀ j, j < i → ¬ own_sol cs j) → Stand p l e ({ frames := 7, cells := 3, slots := 16, locals := 119 } : Room) (s.setVm s.vm) m #[.ref a] below meth c T locs 0 0 → T.heap = h0 → own_Fr Z locs → G (T.setTop (mkF m 7 #[.val (.ref a), .val (.int (Int32.ofNat i)), .val (.int (Int32.ofNat cs.length))] [])) := by
    intro r
    induction r with
    | zero =>
      intro i T locs hr hs X eT N
      obtain rfl : i = cs.length := by omega
      show G (T.setTop (mkF m 7 #[.val (.ref a), .val (.int (Int32.ofNat cs.length)), .val (.int (Int32.ofNat cs.length))] []))
      refine hG _ _ (fun t_ k_ => XS.iloadN X.here hx rfl (hb hby d5_7) rfl k_) ?_
      refine hG _ _ (fun t_ k_ => XS.iloadN X.here hx rfl (hb hby d5_8) rfl k_) ?_
      show G (T.setTop (mkF m 9 #[.val (.ref a), .val (.int (Int32.ofNat cs.length)), .val (.int (Int32.ofNat cs.length))] [(.int (Int32.ofNat cs.length)), (.int (Int32.ofNat cs.length))]))
      refine hG _ _ (fun t_ k_ => XS.icmpYes X.here hx rfl (pc0 := 9) (pc' := 29) rfl (hb hby d5_9) rfl (flt (own_nlt (Nat.le_refl _) (by omega))).2.1 (by decide) (by decide) k_) ?_
      show G (T.setTop (mkF m 29 #[.val (.ref a), .val (.int (Int32.ofNat cs.length)), .val (.int (Int32.ofNat cs.length))] []))
      exact loop2 cs.length (Nat.le_refl _) hs (fun q => absurd q (Nat.lt_irrefl _)) 0 cs.length _ _ (by omega) (Nat.le_refl _) (fun j hj z => absurd z.1 (by omega)) X eT N
    | succ r ih =>
      intro i T locs hr hs X eT N
      refine hG _ _ (fun t_ k_ => XS.iloadN X.here hx rfl (hb hby d5_7) rfl k_) ?_
      refine hG _ _ (fun t_ k_ => XS.iloadN X.here hx rfl (hb hby d5_8) rfl k_) ?_
      show G (T.setTop (mkF m 9 #[.val (.ref a), .val (.int (Int32.ofNat i)), .val (.int (Int32.ofNat cs.length))] [(.int (Int32.ofNat cs.length)), (.int (Int32.ofNat i))]))
      refine hG _ _ (fun t_ k_ => XS.icmpNo X.here hx rfl (hb hby d5_9) rfl (tlt (own_lt (by omega) (by omega))).2.1 k_) ?_
      show G (T.setTop (mkF m 12 #[.val (.ref a), .val (.int (Int32.ofNat i)), .val (.int (Int32.ofNat cs.length))] []))
      refine hG _ _ (fun t_ k_ => XS.aloadN X.here hx rfl (hb hby d5_12) rfl rfl k_) ?_
      refine hG _ _ (fun t_ k_ => XS.iloadN X.here hx rfl (hb hby d5_13) rfl k_) ?_
      show G (T.setTop (mkF m 14 #[.val (.ref a), .val (.int (Int32.ofNat i)), .val (.int (Int32.ofNat cs.length))] [(.int (Int32.ofNat i)), (.ref a)]))
      refine own_callV (C := "java/lang/String") X hx hZ hG hown (ow hw 73 rfl) (ow hw 74 rfl) (ow hw 76 rfl) (ow hw 75 rfl) (ow hw 8 rfl) (ow hw 77 rfl) (by decide) 0 (own_ca l Z a0 hw a t kt cs cd nb vs cpt i fmt h0 O0 g0_E g1_F g2_F g3_V g4_henc g5_hcap g6_h16 g7_S g8_hcpt g9_S g10_S g11_S (by omega) g12_hfmt g13_S) (by decide) (by decide) eT g0_E (by rw [hml]; rfl) (lenOf own_pd16 rfl) (argsL := [(.int (Int32.ofNat i))]) (rest := []) rfl rfl (Nat.le_of_eq rfl) (hb hby d5_14) (by decide) (by decide) ?_
      intro T6 h6 v6 L6 X6 e6 q6
      obtain ⟨rfl, M6, rfl⟩ := q6
      have N6 := Fr.app N M6
      show G (T6.setTop (mkF m 17 #[.val (.ref a), .val (.int (Int32.ofNat i)), .val (.int (Int32.ofNat cs.length))] [(.int (cs.getD i 0))]))
      refine own_callS X6 hx hZ hG hown (ow hw 93 rfl) (ow hw 94 rfl) (ow hw 29 rfl) (ow hw 95 rfl) (by decide) 0 (own_isb l Z a0 hw (cs.getD i 0) h0 O0) (by decide) (by decide) e6 (by rw [hml]; rfl) (lenOf own_pd27 rfl) (argsL := [(.int (cs.getD i 0))]) (rest := []) rfl rfl (Nat.le_of_eq rfl) (hb hby d5_17) (by decide) (by decide) ?_
      intro T7 h7 v7 L7 X7 e7 q7
      obtain ⟨r_7, rfl, M7, rfl, r7_0⟩ := q7
      have N7 := Fr.app N6 M7
      show G (T7.setTop (mkF m 20 #[.val (.ref a), .val (.int (Int32.ofNat i)), .val (.int (Int32.ofNat cs.length))] [(.int r_7)]))
      by_cases hc20_8 : r_7 = (0 : Int32)
      · skip
        refine hG _ _ (fun t_ k_ => XS.ifYes X7.here hx rfl (pc0 := 20) (pc' := 29) rfl (hb hby d5_20) rfl ((if0 _ _).trans (teq hc20_8).1) (by decide) (by decide) k_) ?_
        show G (T7.setTop (mkF m 29 #[.val (.ref a), .val (.int (Int32.ofNat i)), .val (.int (Int32.ofNat cs.length))] []))
        exact loop2 i (by omega) hs (fun q => ⟨q, own_zer r7_0 hc20_8⟩) (cs.length - i) cs.length _ _ (by omega) (Nat.le_refl _) (fun j hj z => absurd z.1 (by omega)) X7 e7 N7
      · skip
        refine hG _ _ (fun t_ k_ => XS.ifNo X7.here hx rfl (hb hby d5_20) rfl ((if0 _ _).trans (feq hc20_8).1) k_) ?_
        show G (T7.setTop (mkF m 23 #[.val (.ref a), .val (.int (Int32.ofNat i)), .val (.int (Int32.ofNat cs.length))] []))
        refine hG _ _ (fun t_ k_ => XS.iinc X7.here hx rfl (hb hby d5_23) rfl (l' := #[.val (.ref a), .val (.int ((Int32.ofNat i) + (1 : Int32))), .val (.int (Int32.ofNat cs.length))]) rfl k_) ?_
        refine hG _ _ (fun t_ k_ => XS.goto X7.here hx rfl (pc0 := 26) (pc' := 7) rfl (hb hby d5_26) (by decide) (by decide) k_) ?_
        show G (T7.setTop (mkF m 7 #[.val (.ref a), .val (.int ((Int32.ofNat i) + (1 : Int32))), .val (.int (Int32.ofNat cs.length))] []))
        rw [own_inc i]
        exact ih (i + 1) _ _ (by omega) (own_ltS hs (fun z => z.2 (own_one r7_0 hc20_8))) X7 e7 N7
  exact loop1 cs.length 0 _ _ (by omega) own_lt0 X1 e1 N1
theorem own_pd29 : parseMethodDescriptor "([CII)Z" = some ⟨[(.array .char), .int, .int], some .boolean⟩ := by decide +kernel
set_option maxRecDepth 65536 in
set_option maxHeartbeats 40000000 in
theorem own_sol0 (l : Launch) (Z : State) (a0 : Array Value) (hw : ∀ d ∈ tables_1, d.before a0 Z = true) (u : Addr) (n : Int32) (ku : ClassId) (x0 : Int32) (x1 : Int32) (x2 : Int32) (x3 : Int32) (h0 : Heap) (O0 : own_Old Z h0) (g0_V : Arv Z h0 u ku .char (4 : Int32) [(.int x0), (.int x1), (.int x2), (.int x3)] (.int 0)) :
    own_Con l Z (⟨"com/example/handlewright/handlewright/OrderStripBlanksPinLaw", "solid", "([CII)Z"⟩ : MethodName) method_3_code 3 (some .boolean) [] ({ frames := 0, cells := 0, slots := 0, locals := 0 } : Room) #[(.ref u), (.int n), (.int 0)] h0 (fun rv rh rL => ∃ (r : Int32), rv = some (.int r) ∧ own_Fr Z rL ∧ h0 = rh ∧ ((r = (1 : Int32) ∧ ((0 : Int32) < n ∧ ¬ (x0 = (32 : Int32)) ∧ ¬ (x0 = (9 : Int32)))) ∨ (r = (0 : Int32) ∧ ¬ ((0 : Int32) < n ∧ ¬ (x0 = (32 : Int32)) ∧ ¬ (x0 = (9 : Int32)))))) := by
  refine own_intro (plainFor_of_name (by first | (simp [plainName, overriddenIn]; done) | decide +kernel)) ?_
  intro p e s m below meth c s₁ G hx hby hml hown hnm hret hZ X0 e0 hG hR
  have N0 := Fr.nil Z.heap.size
  refine own_entry (Ls := #[.val (.ref u), .val (.int n), .val (.int 0)]) (by first | (simp [entryFrame, mkF, argsToLocals, Value.category]; done) | rfl) ?_
  show G (s₁.setTop (mkF m 0 #[.val (.ref u), .val (.int n), .val (.int 0)] []))
  refine hG _ _ (fun t_ k_ => XS.iloadN X0.here hx rfl (hb hby d11_0) rfl k_) ?_
  refine hG _ _ (fun t_ k_ => XS.iloadN X0.here hx rfl (hb hby d11_1) rfl k_) ?_
  show G (s₁.setTop (mkF m 2 #[.val (.ref u), .val (.int n), .val (.int 0)] [(.int n), (.int 0)]))
  by_cases hc2_1 : (0 : Int32) < n
  · skip
    refine hG _ _ (fun t_ k_ => XS.icmpNo X0.here hx rfl (hb hby d11_2) rfl (tlt hc2_1).2.1 k_) ?_
    show G (s₁.setTop (mkF m 5 #[.val (.ref u), .val (.int n), .val (.int 0)] []))
    refine hG _ _ (fun t_ k_ => XS.aloadN X0.here hx rfl (hb hby d11_5) rfl rfl k_) ?_
    refine hG _ _ (fun t_ k_ => XS.iloadN X0.here hx rfl (hb hby d11_6) rfl k_) ?_
    show G (s₁.setTop (mkF m 7 #[.val (.ref u), .val (.int n), .val (.int 0)] [(.int 0), (.ref u)]))
    obtain ⟨c2, Ar2, q2, S2, M2, H2, G2⟩ := id g0_V
    have hin2 : ¬ ((0 : Int32) < 0 ∨ c2.slots.size ≤ (0 : Int32).toNatClampNeg) := inb_of S2 ⟨by decide, by decide⟩
    refine hG _ _ (X0.caload hx (j := (0 : Int32)) (v := (.int x0)) (by rw [e0]; exact Ar2.1) (State.isArrayOf_alike hZ.alike Ar2.2.1) Ar2.2.2 hin2 (Has.at H2 hin2 rfl) (g := (mkF m 7 #[.val (.ref u), .val (.int n), .val (.int 0)] [(.int 0), (.ref u)])) rfl rfl (hb hby d11_7)) ?_
    show G (s₁.setTop (mkF m 8 #[.val (.ref u), .val (.int n), .val (.int 0)] [(.int x0)]))
    refine hG _ _ (fun t_ k_ => XS.bipush X0.here hx rfl (hb hby d11_8) k_) ?_
    show G (s₁.setTop (mkF m 10 #[.val (.ref u), .val (.int n), .val (.int 0)] [(.int 32), (.int x0)]))
    by_cases hc10_3 : x0 = (32 : Int32)
    · skip
      refine hG _ _ (fun t_ k_ => XS.icmpYes X0.here hx rfl (pc0 := 10) (pc' := 25) rfl (hb hby d11_10) rfl (teq hc10_3).1 (by decide) (by decide) k_) ?_
      show G (s₁.setTop (mkF m 25 #[.val (.ref u), .val (.int n), .val (.int 0)] []))
      refine hG _ _ (fun t_ k_ => XS.iconst X0.here hx rfl (hb hby d11_25) k_) ?_
      show G (s₁.setTop (mkF m 26 #[.val (.ref u), .val (.int n), .val (.int 0)] [(.int 0)]))
      exact own_retN hR hret (by simp) X0 hx (hb hby d11_26) (by decide) (by decide) (by rw [e0]; exact ⟨(0 : Int32), rfl, N0, rfl, (Or.inr ⟨rfl, fun q => q.2.1 hc10_3⟩)⟩)
    · skip
      refine hG _ _ (fun t_ k_ => XS.icmpNo X0.here hx rfl (hb hby d11_10) rfl (feq hc10_3).1 k_) ?_
      show G (s₁.setTop (mkF m 13 #[.val (.ref u), .val (.int n), .val (.int 0)] []))
      refine hG _ _ (fun t_ k_ => XS.aloadN X0.here hx rfl (hb hby d11_13) rfl rfl k_) ?_
      refine hG _ _ (fun t_ k_ => XS.iloadN X0.here hx rfl (hb hby d11_14) rfl k_) ?_
      show G (s₁.setTop (mkF m 15 #[.val (.ref u), .val (.int n), .val (.int 0)] [(.int 0), (.ref u)]))
      obtain ⟨c4, Ar4, q4, S4, M4, H4, G4⟩ := id g0_V
      have hin4 : ¬ ((0 : Int32) < 0 ∨ c4.slots.size ≤ (0 : Int32).toNatClampNeg) := inb_of S4 ⟨by decide, by decide⟩
      refine hG _ _ (X0.caload hx (j := (0 : Int32)) (v := (.int x0)) (by rw [e0]; exact Ar4.1) (State.isArrayOf_alike hZ.alike Ar4.2.1) Ar4.2.2 hin4 (Has.at H4 hin4 rfl) (g := (mkF m 15 #[.val (.ref u), .val (.int n), .val (.int 0)] [(.int 0), (.ref u)])) rfl rfl (hb hby d11_15)) ?_
      show G (s₁.setTop (mkF m 16 #[.val (.ref u), .val (.int n), .val (.int 0)] [(.int x0)]))
      refine hG _ _ (fun t_ k_ => XS.bipush X0.here hx rfl (hb hby d11_16) k_) ?_
      show G (s₁.setTop (mkF m 18 #[.val (.ref u), .val (.int n), .val (.int 0)] [(.int 9), (.int x0)]))
      by_cases hc18_5 : x0 = (9 : Int32)
      · skip
        refine hG _ _ (fun t_ k_ => XS.icmpYes X0.here hx rfl (pc0 := 18) (pc' := 25) rfl (hb hby d11_18) rfl (teq hc18_5).1 (by decide) (by decide) k_) ?_
        show G (s₁.setTop (mkF m 25 #[.val (.ref u), .val (.int n), .val (.int 0)] []))
        refine hG _ _ (fun t_ k_ => XS.iconst X0.here hx rfl (hb hby d11_25) k_) ?_
        show G (s₁.setTop (mkF m 26 #[.val (.ref u), .val (.int n), .val (.int 0)] [(.int 0)]))
        exact own_retN hR hret (by simp) X0 hx (hb hby d11_26) (by decide) (by decide) (by rw [e0]; exact ⟨(0 : Int32), rfl, N0, rfl, (Or.inr ⟨rfl, fun q => q.2.2 hc18_5⟩)⟩)
      · skip
        refine hG _ _ (fun t_ k_ => XS.icmpNo X0.here hx rfl (hb hby d11_18) rfl (feq hc18_5).1 k_) ?_
        show G (s₁.setTop (mkF m 21 #[.val (.ref u), .val (.int n), .val (.int 0)] []))
        refine hG _ _ (fun t_ k_ => XS.iconst X0.here hx rfl (hb hby d11_21) k_) ?_
        refine hG _ _ (fun t_ k_ => XS.goto X0.here hx rfl (pc0 := 22) (pc' := 26) rfl (hb hby d11_22) (by decide) (by decide) k_) ?_
        show G (s₁.setTop (mkF m 26 #[.val (.ref u), .val (.int n), .val (.int 0)] [(.int 1)]))
        exact own_retN hR hret (by simp) X0 hx (hb hby d11_26) (by decide) (by decide) (by rw [e0]; exact ⟨(1 : Int32), rfl, N0, rfl, (Or.inl ⟨rfl, hc2_1, hc10_3, hc18_5⟩)⟩)
  · skip
    refine hG _ _ (fun t_ k_ => XS.icmpYes X0.here hx rfl (pc0 := 2) (pc' := 25) rfl (hb hby d11_2) rfl (flt hc2_1).2.1 (by decide) (by decide) k_) ?_
    show G (s₁.setTop (mkF m 25 #[.val (.ref u), .val (.int n), .val (.int 0)] []))
    refine hG _ _ (fun t_ k_ => XS.iconst X0.here hx rfl (hb hby d11_25) k_) ?_
    show G (s₁.setTop (mkF m 26 #[.val (.ref u), .val (.int n), .val (.int 0)] [(.int 0)]))
    exact own_retN hR hret (by simp) X0 hx (hb hby d11_26) (by decide) (by decide) (by rw [e0]; exact ⟨(0 : Int32), rfl, N0, rfl, (Or.inr ⟨rfl, fun q => hc2_1 q.1⟩)⟩)
set_option maxRecDepth 65536 in
set_option maxHeartbeats 40000000 in
theorem own_sol1 (l : Launch) (Z : State) (a0 : Array Value) (hw : ∀ d ∈ tables_1, d.before a0 Z = true) (u : Addr) (n : Int32) (ku : ClassId) (x0 : Int32) (x1 : Int32) (x2 : Int32) (x3 : Int32) (h0 : Heap) (O0 : own_Old Z h0) (g0_V : Arv Z h0 u ku .char (4 : Int32) [(.int x0), (.int x1), (.int x2), (.int x3)] (.int 0)) :
    own_Con l Z (⟨"com/example/handlewright/handlewright/OrderStripBlanksPinLaw", "solid", "([CII)Z"⟩ : MethodName) method_3_code 3 (some .boolean) [] ({ frames := 0, cells := 0, slots := 0, locals := 0 } : Room) #[(.ref u), (.int n), (.int 1)] h0 (fun rv rh rL => ∃ (r : Int32), rv = some (.int r) ∧ own_Fr Z rL ∧ h0 = rh ∧ ((r = (1 : Int32) ∧ ((1 : Int32) < n ∧ ¬ (x1 = (32 : Int32)) ∧ ¬ (x1 = (9 : Int32)))) ∨ (r = (0 : Int32) ∧ ¬ ((1 : Int32) < n ∧ ¬ (x1 = (32 : Int32)) ∧ ¬ (x1 = (9 : Int32)))))) := by
  refine own_intro (plainFor_of_name (by first | (simp [plainName, overriddenIn]; done) | decide +kernel)) ?_
  intro p e s m below meth c s₁ G hx hby hml hown hnm hret hZ X0 e0 hG hR
  have N0 := Fr.nil Z.heap.size
  refine own_entry (Ls := #[.val (.ref u), .val (.int n), .val (.int 1)]) (by first | (simp [entryFrame, mkF, argsToLocals, Value.category]; done) | rfl) ?_
  show G (s₁.setTop (mkF m 0 #[.val (.ref u), .val (.int n), .val (.int 1)] []))
  refine hG _ _ (fun t_ k_ => XS.iloadN X0.here hx rfl (hb hby d11_0) rfl k_) ?_
  refine hG _ _ (fun t_ k_ => XS.iloadN X0.here hx rfl (hb hby d11_1) rfl k_) ?_
  show G (s₁.setTop (mkF m 2 #[.val (.ref u), .val (.int n), .val (.int 1)] [(.int n), (.int 1)]))
  by_cases hc2_1 : (1 : Int32) < n
  · skip
    refine hG _ _ (fun t_ k_ => XS.icmpNo X0.here hx rfl (hb hby d11_2) rfl (tlt hc2_1).2.1 k_) ?_
    show G (s₁.setTop (mkF m 5 #[.val (.ref u), .val (.int n), .val (.int 1)] []))
    refine hG _ _ (fun t_ k_ => XS.aloadN X0.here hx rfl (hb hby d11_5) rfl rfl k_) ?_
    refine hG _ _ (fun t_ k_ => XS.iloadN X0.here hx rfl (hb hby d11_6) rfl k_) ?_
    show G (s₁.setTop (mkF m 7 #[.val (.ref u), .val (.int n), .val (.int 1)] [(.int 1), (.ref u)]))
    obtain ⟨c2, Ar2, q2, S2, M2, H2, G2⟩ := id g0_V
    have hin2 : ¬ ((1 : Int32) < 0 ∨ c2.slots.size ≤ (1 : Int32).toNatClampNeg) := inb_of S2 ⟨by decide, by decide⟩
    refine hG _ _ (X0.caload hx (j := (1 : Int32)) (v := (.int x1)) (by rw [e0]; exact Ar2.1) (State.isArrayOf_alike hZ.alike Ar2.2.1) Ar2.2.2 hin2 (Has.at H2 hin2 rfl) (g := (mkF m 7 #[.val (.ref u), .val (.int n), .val (.int 1)] [(.int 1), (.ref u)])) rfl rfl (hb hby d11_7)) ?_
    show G (s₁.setTop (mkF m 8 #[.val (.ref u), .val (.int n), .val (.int 1)] [(.int x1)]))
    refine hG _ _ (fun t_ k_ => XS.bipush X0.here hx rfl (hb hby d11_8) k_) ?_
    show G (s₁.setTop (mkF m 10 #[.val (.ref u), .val (.int n), .val (.int 1)] [(.int 32), (.int x1)]))
    by_cases hc10_3 : x1 = (32 : Int32)
    · skip
      refine hG _ _ (fun t_ k_ => XS.icmpYes X0.here hx rfl (pc0 := 10) (pc' := 25) rfl (hb hby d11_10) rfl (teq hc10_3).1 (by decide) (by decide) k_) ?_
      show G (s₁.setTop (mkF m 25 #[.val (.ref u), .val (.int n), .val (.int 1)] []))
      refine hG _ _ (fun t_ k_ => XS.iconst X0.here hx rfl (hb hby d11_25) k_) ?_
      show G (s₁.setTop (mkF m 26 #[.val (.ref u), .val (.int n), .val (.int 1)] [(.int 0)]))
      exact own_retN hR hret (by simp) X0 hx (hb hby d11_26) (by decide) (by decide) (by rw [e0]; exact ⟨(0 : Int32), rfl, N0, rfl, (Or.inr ⟨rfl, fun q => q.2.1 hc10_3⟩)⟩)
    · skip
      refine hG _ _ (fun t_ k_ => XS.icmpNo X0.here hx rfl (hb hby d11_10) rfl (feq hc10_3).1 k_) ?_
      show G (s₁.setTop (mkF m 13 #[.val (.ref u), .val (.int n), .val (.int 1)] []))
      refine hG _ _ (fun t_ k_ => XS.aloadN X0.here hx rfl (hb hby d11_13) rfl rfl k_) ?_
      refine hG _ _ (fun t_ k_ => XS.iloadN X0.here hx rfl (hb hby d11_14) rfl k_) ?_
      show G (s₁.setTop (mkF m 15 #[.val (.ref u), .val (.int n), .val (.int 1)] [(.int 1), (.ref u)]))
      obtain ⟨c4, Ar4, q4, S4, M4, H4, G4⟩ := id g0_V
      have hin4 : ¬ ((1 : Int32) < 0 ∨ c4.slots.size ≤ (1 : Int32).toNatClampNeg) := inb_of S4 ⟨by decide, by decide⟩
      refine hG _ _ (X0.caload hx (j := (1 : Int32)) (v := (.int x1)) (by rw [e0]; exact Ar4.1) (State.isArrayOf_alike hZ.alike Ar4.2.1) Ar4.2.2 hin4 (Has.at H4 hin4 rfl) (g := (mkF m 15 #[.val (.ref u), .val (.int n), .val (.int 1)] [(.int 1), (.ref u)])) rfl rfl (hb hby d11_15)) ?_
      show G (s₁.setTop (mkF m 16 #[.val (.ref u), .val (.int n), .val (.int 1)] [(.int x1)]))
      refine hG _ _ (fun t_ k_ => XS.bipush X0.here hx rfl (hb hby d11_16) k_) ?_
      show G (s₁.setTop (mkF m 18 #[.val (.ref u), .val (.int n), .val (.int 1)] [(.int 9), (.int x1)]))
      by_cases hc18_5 : x1 = (9 : Int32)
      · skip
        refine hG _ _ (fun t_ k_ => XS.icmpYes X0.here hx rfl (pc0 := 18) (pc' := 25) rfl (hb hby d11_18) rfl (teq hc18_5).1 (by decide) (by decide) k_) ?_
        show G (s₁.setTop (mkF m 25 #[.val (.ref u), .val (.int n), .val (.int 1)] []))
        refine hG _ _ (fun t_ k_ => XS.iconst X0.here hx rfl (hb hby d11_25) k_) ?_
        show G (s₁.setTop (mkF m 26 #[.val (.ref u), .val (.int n), .val (.int 1)] [(.int 0)]))
        exact own_retN hR hret (by simp) X0 hx (hb hby d11_26) (by decide) (by decide) (by rw [e0]; exact ⟨(0 : Int32), rfl, N0, rfl, (Or.inr ⟨rfl, fun q => q.2.2 hc18_5⟩)⟩)
      · skip
        refine hG _ _ (fun t_ k_ => XS.icmpNo X0.here hx rfl (hb hby d11_18) rfl (feq hc18_5).1 k_) ?_
        show G (s₁.setTop (mkF m 21 #[.val (.ref u), .val (.int n), .val (.int 1)] []))
        refine hG _ _ (fun t_ k_ => XS.iconst X0.here hx rfl (hb hby d11_21) k_) ?_
        refine hG _ _ (fun t_ k_ => XS.goto X0.here hx rfl (pc0 := 22) (pc' := 26) rfl (hb hby d11_22) (by decide) (by decide) k_) ?_
        show G (s₁.setTop (mkF m 26 #[.val (.ref u), .val (.int n), .val (.int 1)] [(.int 1)]))
        exact own_retN hR hret (by simp) X0 hx (hb hby d11_26) (by decide) (by decide) (by rw [e0]; exact ⟨(1 : Int32), rfl, N0, rfl, (Or.inl ⟨rfl, hc2_1, hc10_3, hc18_5⟩)⟩)
  · skip
    refine hG _ _ (fun t_ k_ => XS.icmpYes X0.here hx rfl (pc0 := 2) (pc' := 25) rfl (hb hby d11_2) rfl (flt hc2_1).2.1 (by decide) (by decide) k_) ?_
    show G (s₁.setTop (mkF m 25 #[.val (.ref u), .val (.int n), .val (.int 1)] []))
    refine hG _ _ (fun t_ k_ => XS.iconst X0.here hx rfl (hb hby d11_25) k_) ?_
    show G (s₁.setTop (mkF m 26 #[.val (.ref u), .val (.int n), .val (.int 1)] [(.int 0)]))
    exact own_retN hR hret (by simp) X0 hx (hb hby d11_26) (by decide) (by decide) (by rw [e0]; exact ⟨(0 : Int32), rfl, N0, rfl, (Or.inr ⟨rfl, fun q => hc2_1 q.1⟩)⟩)
set_option maxRecDepth 65536 in
set_option maxHeartbeats 40000000 in
theorem own_sol2 (l : Launch) (Z : State) (a0 : Array Value) (hw : ∀ d ∈ tables_1, d.before a0 Z = true) (u : Addr) (n : Int32) (ku : ClassId) (x0 : Int32) (x1 : Int32) (x2 : Int32) (x3 : Int32) (h0 : Heap) (O0 : own_Old Z h0) (g0_V : Arv Z h0 u ku .char (4 : Int32) [(.int x0), (.int x1), (.int x2), (.int x3)] (.int 0)) :
    own_Con l Z (⟨"com/example/handlewright/handlewright/OrderStripBlanksPinLaw", "solid", "([CII)Z"⟩ : MethodName) method_3_code 3 (some .boolean) [] ({ frames := 0, cells := 0, slots := 0, locals := 0 } : Room) #[(.ref u), (.int n), (.int 2)] h0 (fun rv rh rL => ∃ (r : Int32), rv = some (.int r) ∧ own_Fr Z rL ∧ h0 = rh ∧ ((r = (1 : Int32) ∧ ((2 : Int32) < n ∧ ¬ (x2 = (32 : Int32)) ∧ ¬ (x2 = (9 : Int32)))) ∨ (r = (0 : Int32) ∧ ¬ ((2 : Int32) < n ∧ ¬ (x2 = (32 : Int32)) ∧ ¬ (x2 = (9 : Int32)))))) := by
  refine own_intro (plainFor_of_name (by first | (simp [plainName, overriddenIn]; done) | decide +kernel)) ?_
  intro p e s m below meth c s₁ G hx hby hml hown hnm hret hZ X0 e0 hG hR
  have N0 := Fr.nil Z.heap.size
  refine own_entry (Ls := #[.val (.ref u), .val (.int n), .val (.int 2)]) (by first | (simp [entryFrame, mkF, argsToLocals, Value.category]; done) | rfl) ?_
  show G (s₁.setTop (mkF m 0 #[.val (.ref u), .val (.int n), .val (.int 2)] []))
  refine hG _ _ (fun t_ k_ => XS.iloadN X0.here hx rfl (hb hby d11_0) rfl k_) ?_
  refine hG _ _ (fun t_ k_ => XS.iloadN X0.here hx rfl (hb hby d11_1) rfl k_) ?_
  show G (s₁.setTop (mkF m 2 #[.val (.ref u), .val (.int n), .val (.int 2)] [(.int n), (.int 2)]))
  by_cases hc2_1 : (2 : Int32) < n
  · skip
    refine hG _ _ (fun t_ k_ => XS.icmpNo X0.here hx rfl (hb hby d11_2) rfl (tlt hc2_1).2.1 k_) ?_
    show G (s₁.setTop (mkF m 5 #[.val (.ref u), .val (.int n), .val (.int 2)] []))
    refine hG _ _ (fun t_ k_ => XS.aloadN X0.here hx rfl (hb hby d11_5) rfl rfl k_) ?_
    refine hG _ _ (fun t_ k_ => XS.iloadN X0.here hx rfl (hb hby d11_6) rfl k_) ?_
    show G (s₁.setTop (mkF m 7 #[.val (.ref u), .val (.int n), .val (.int 2)] [(.int 2), (.ref u)]))
    obtain ⟨c2, Ar2, q2, S2, M2, H2, G2⟩ := id g0_V
    have hin2 : ¬ ((2 : Int32) < 0 ∨ c2.slots.size ≤ (2 : Int32).toNatClampNeg) := inb_of S2 ⟨by decide, by decide⟩
    refine hG _ _ (X0.caload hx (j := (2 : Int32)) (v := (.int x2)) (by rw [e0]; exact Ar2.1) (State.isArrayOf_alike hZ.alike Ar2.2.1) Ar2.2.2 hin2 (Has.at H2 hin2 rfl) (g := (mkF m 7 #[.val (.ref u), .val (.int n), .val (.int 2)] [(.int 2), (.ref u)])) rfl rfl (hb hby d11_7)) ?_
    show G (s₁.setTop (mkF m 8 #[.val (.ref u), .val (.int n), .val (.int 2)] [(.int x2)]))
    refine hG _ _ (fun t_ k_ => XS.bipush X0.here hx rfl (hb hby d11_8) k_) ?_
    show G (s₁.setTop (mkF m 10 #[.val (.ref u), .val (.int n), .val (.int 2)] [(.int 32), (.int x2)]))
    by_cases hc10_3 : x2 = (32 : Int32)
    · skip
      refine hG _ _ (fun t_ k_ => XS.icmpYes X0.here hx rfl (pc0 := 10) (pc' := 25) rfl (hb hby d11_10) rfl (teq hc10_3).1 (by decide) (by decide) k_) ?_
      show G (s₁.setTop (mkF m 25 #[.val (.ref u), .val (.int n), .val (.int 2)] []))
      refine hG _ _ (fun t_ k_ => XS.iconst X0.here hx rfl (hb hby d11_25) k_) ?_
      show G (s₁.setTop (mkF m 26 #[.val (.ref u), .val (.int n), .val (.int 2)] [(.int 0)]))
      exact own_retN hR hret (by simp) X0 hx (hb hby d11_26) (by decide) (by decide) (by rw [e0]; exact ⟨(0 : Int32), rfl, N0, rfl, (Or.inr ⟨rfl, fun q => q.2.1 hc10_3⟩)⟩)
    · skip
      refine hG _ _ (fun t_ k_ => XS.icmpNo X0.here hx rfl (hb hby d11_10) rfl (feq hc10_3).1 k_) ?_
      show G (s₁.setTop (mkF m 13 #[.val (.ref u), .val (.int n), .val (.int 2)] []))
      refine hG _ _ (fun t_ k_ => XS.aloadN X0.here hx rfl (hb hby d11_13) rfl rfl k_) ?_
      refine hG _ _ (fun t_ k_ => XS.iloadN X0.here hx rfl (hb hby d11_14) rfl k_) ?_
      show G (s₁.setTop (mkF m 15 #[.val (.ref u), .val (.int n), .val (.int 2)] [(.int 2), (.ref u)]))
      obtain ⟨c4, Ar4, q4, S4, M4, H4, G4⟩ := id g0_V
      have hin4 : ¬ ((2 : Int32) < 0 ∨ c4.slots.size ≤ (2 : Int32).toNatClampNeg) := inb_of S4 ⟨by decide, by decide⟩
      refine hG _ _ (X0.caload hx (j := (2 : Int32)) (v := (.int x2)) (by rw [e0]; exact Ar4.1) (State.isArrayOf_alike hZ.alike Ar4.2.1) Ar4.2.2 hin4 (Has.at H4 hin4 rfl) (g := (mkF m 15 #[.val (.ref u), .val (.int n), .val (.int 2)] [(.int 2), (.ref u)])) rfl rfl (hb hby d11_15)) ?_
      show G (s₁.setTop (mkF m 16 #[.val (.ref u), .val (.int n), .val (.int 2)] [(.int x2)]))
      refine hG _ _ (fun t_ k_ => XS.bipush X0.here hx rfl (hb hby d11_16) k_) ?_
      show G (s₁.setTop (mkF m 18 #[.val (.ref u), .val (.int n), .val (.int 2)] [(.int 9), (.int x2)]))
      by_cases hc18_5 : x2 = (9 : Int32)
      · skip
        refine hG _ _ (fun t_ k_ => XS.icmpYes X0.here hx rfl (pc0 := 18) (pc' := 25) rfl (hb hby d11_18) rfl (teq hc18_5).1 (by decide) (by decide) k_) ?_
        show G (s₁.setTop (mkF m 25 #[.val (.ref u), .val (.int n), .val (.int 2)] []))
        refine hG _ _ (fun t_ k_ => XS.iconst X0.here hx rfl (hb hby d11_25) k_) ?_
        show G (s₁.setTop (mkF m 26 #[.val (.ref u), .val (.int n), .val (.int 2)] [(.int 0)]))
        exact own_retN hR hret (by simp) X0 hx (hb hby d11_26) (by decide) (by decide) (by rw [e0]; exact ⟨(0 : Int32), rfl, N0, rfl, (Or.inr ⟨rfl, fun q => q.2.2 hc18_5⟩)⟩)
      · skip
        refine hG _ _ (fun t_ k_ => XS.icmpNo X0.here hx rfl (hb hby d11_18) rfl (feq hc18_5).1 k_) ?_
        show G (s₁.setTop (mkF m 21 #[.val (.ref u), .val (.int n), .val (.int 2)] []))
        refine hG _ _ (fun t_ k_ => XS.iconst X0.here hx rfl (hb hby d11_21) k_) ?_
        refine hG _ _ (fun t_ k_ => XS.goto X0.here hx rfl (pc0 := 22) (pc' := 26) rfl (hb hby d11_22) (by decide) (by decide) k_) ?_
        show G (s₁.setTop (mkF m 26 #[.val (.ref u), .val (.int n), .val (.int 2)] [(.int 1)]))
        exact own_retN hR hret (by simp) X0 hx (hb hby d11_26) (by decide) (by decide) (by rw [e0]; exact ⟨(1 : Int32), rfl, N0, rfl, (Or.inl ⟨rfl, hc2_1, hc10_3, hc18_5⟩)⟩)
  · skip
    refine hG _ _ (fun t_ k_ => XS.icmpYes X0.here hx rfl (pc0 := 2) (pc' := 25) rfl (hb hby d11_2) rfl (flt hc2_1).2.1 (by decide) (by decide) k_) ?_
    show G (s₁.setTop (mkF m 25 #[.val (.ref u), .val (.int n), .val (.int 2)] []))
    refine hG _ _ (fun t_ k_ => XS.iconst X0.here hx rfl (hb hby d11_25) k_) ?_
    show G (s₁.setTop (mkF m 26 #[.val (.ref u), .val (.int n), .val (.int 2)] [(.int 0)]))
    exact own_retN hR hret (by simp) X0 hx (hb hby d11_26) (by decide) (by decide) (by rw [e0]; exact ⟨(0 : Int32), rfl, N0, rfl, (Or.inr ⟨rfl, fun q => hc2_1 q.1⟩)⟩)
set_option maxRecDepth 65536 in
set_option maxHeartbeats 40000000 in
theorem own_sol3 (l : Launch) (Z : State) (a0 : Array Value) (hw : ∀ d ∈ tables_1, d.before a0 Z = true) (u : Addr) (n : Int32) (ku : ClassId) (x0 : Int32) (x1 : Int32) (x2 : Int32) (x3 : Int32) (h0 : Heap) (O0 : own_Old Z h0) (g0_V : Arv Z h0 u ku .char (4 : Int32) [(.int x0), (.int x1), (.int x2), (.int x3)] (.int 0)) :
    own_Con l Z (⟨"com/example/handlewright/handlewright/OrderStripBlanksPinLaw", "solid", "([CII)Z"⟩ : MethodName) method_3_code 3 (some .boolean) [] ({ frames := 0, cells := 0, slots := 0, locals := 0 } : Room) #[(.ref u), (.int n), (.int 3)] h0 (fun rv rh rL => ∃ (r : Int32), rv = some (.int r) ∧ own_Fr Z rL ∧ h0 = rh ∧ ((r = (1 : Int32) ∧ ((3 : Int32) < n ∧ ¬ (x3 = (32 : Int32)) ∧ ¬ (x3 = (9 : Int32)))) ∨ (r = (0 : Int32) ∧ ¬ ((3 : Int32) < n ∧ ¬ (x3 = (32 : Int32)) ∧ ¬ (x3 = (9 : Int32)))))) := by
  refine own_intro (plainFor_of_name (by first | (simp [plainName, overriddenIn]; done) | decide +kernel)) ?_
  intro p e s m below meth c s₁ G hx hby hml hown hnm hret hZ X0 e0 hG hR
  have N0 := Fr.nil Z.heap.size
  refine own_entry (Ls := #[.val (.ref u), .val (.int n), .val (.int 3)]) (by first | (simp [entryFrame, mkF, argsToLocals, Value.category]; done) | rfl) ?_
  show G (s₁.setTop (mkF m 0 #[.val (.ref u), .val (.int n), .val (.int 3)] []))
  refine hG _ _ (fun t_ k_ => XS.iloadN X0.here hx rfl (hb hby d11_0) rfl k_) ?_
  refine hG _ _ (fun t_ k_ => XS.iloadN X0.here hx rfl (hb hby d11_1) rfl k_) ?_
  show G (s₁.setTop (mkF m 2 #[.val (.ref u), .val (.int n), .val (.int 3)] [(.int n), (.int 3)]))
  by_cases hc2_1 : (3 : Int32) < n
  · skip
    refine hG _ _ (fun t_ k_ => XS.icmpNo X0.here hx rfl (hb hby d11_2) rfl (tlt hc2_1).2.1 k_) ?_
    show G (s₁.setTop (mkF m 5 #[.val (.ref u), .val (.int n), .val (.int 3)] []))
    refine hG _ _ (fun t_ k_ => XS.aloadN X0.here hx rfl (hb hby d11_5) rfl rfl k_) ?_
    refine hG _ _ (fun t_ k_ => XS.iloadN X0.here hx rfl (hb hby d11_6) rfl k_) ?_
    show G (s₁.setTop (mkF m 7 #[.val (.ref u), .val (.int n), .val (.int 3)] [(.int 3), (.ref u)]))
    obtain ⟨c2, Ar2, q2, S2, M2, H2, G2⟩ := id g0_V
    have hin2 : ¬ ((3 : Int32) < 0 ∨ c2.slots.size ≤ (3 : Int32).toNatClampNeg) := inb_of S2 ⟨by decide, by decide⟩
    refine hG _ _ (X0.caload hx (j := (3 : Int32)) (v := (.int x3)) (by rw [e0]; exact Ar2.1) (State.isArrayOf_alike hZ.alike Ar2.2.1) Ar2.2.2 hin2 (Has.at H2 hin2 rfl) (g := (mkF m 7 #[.val (.ref u), .val (.int n), .val (.int 3)] [(.int 3), (.ref u)])) rfl rfl (hb hby d11_7)) ?_
    show G (s₁.setTop (mkF m 8 #[.val (.ref u), .val (.int n), .val (.int 3)] [(.int x3)]))
    refine hG _ _ (fun t_ k_ => XS.bipush X0.here hx rfl (hb hby d11_8) k_) ?_
    show G (s₁.setTop (mkF m 10 #[.val (.ref u), .val (.int n), .val (.int 3)] [(.int 32), (.int x3)]))
    by_cases hc10_3 : x3 = (32 : Int32)
    · skip
      refine hG _ _ (fun t_ k_ => XS.icmpYes X0.here hx rfl (pc0 := 10) (pc' := 25) rfl (hb hby d11_10) rfl (teq hc10_3).1 (by decide) (by decide) k_) ?_
      show G (s₁.setTop (mkF m 25 #[.val (.ref u), .val (.int n), .val (.int 3)] []))
      refine hG _ _ (fun t_ k_ => XS.iconst X0.here hx rfl (hb hby d11_25) k_) ?_
      show G (s₁.setTop (mkF m 26 #[.val (.ref u), .val (.int n), .val (.int 3)] [(.int 0)]))
      exact own_retN hR hret (by simp) X0 hx (hb hby d11_26) (by decide) (by decide) (by rw [e0]; exact ⟨(0 : Int32), rfl, N0, rfl, (Or.inr ⟨rfl, fun q => q.2.1 hc10_3⟩)⟩)
    · skip
      refine hG _ _ (fun t_ k_ => XS.icmpNo X0.here hx rfl (hb hby d11_10) rfl (feq hc10_3).1 k_) ?_
      show G (s₁.setTop (mkF m 13 #[.val (.ref u), .val (.int n), .val (.int 3)] []))
      refine hG _ _ (fun t_ k_ => XS.aloadN X0.here hx rfl (hb hby d11_13) rfl rfl k_) ?_
      refine hG _ _ (fun t_ k_ => XS.iloadN X0.here hx rfl (hb hby d11_14) rfl k_) ?_
      show G (s₁.setTop (mkF m 15 #[.val (.ref u), .val (.int n), .val (.int 3)] [(.int 3), (.ref u)]))
      obtain ⟨c4, Ar4, q4, S4, M4, H4, G4⟩ := id g0_V
      have hin4 : ¬ ((3 : Int32) < 0 ∨ c4.slots.size ≤ (3 : Int32).toNatClampNeg) := inb_of S4 ⟨by decide, by decide⟩
      refine hG _ _ (X0.caload hx (j := (3 : Int32)) (v := (.int x3)) (by rw [e0]; exact Ar4.1) (State.isArrayOf_alike hZ.alike Ar4.2.1) Ar4.2.2 hin4 (Has.at H4 hin4 rfl) (g := (mkF m 15 #[.val (.ref u), .val (.int n), .val (.int 3)] [(.int 3), (.ref u)])) rfl rfl (hb hby d11_15)) ?_
      show G (s₁.setTop (mkF m 16 #[.val (.ref u), .val (.int n), .val (.int 3)] [(.int x3)]))
      refine hG _ _ (fun t_ k_ => XS.bipush X0.here hx rfl (hb hby d11_16) k_) ?_
      show G (s₁.setTop (mkF m 18 #[.val (.ref u), .val (.int n), .val (.int 3)] [(.int 9), (.int x3)]))
      by_cases hc18_5 : x3 = (9 : Int32)
      · skip
        refine hG _ _ (fun t_ k_ => XS.icmpYes X0.here hx rfl (pc0 := 18) (pc' := 25) rfl (hb hby d11_18) rfl (teq hc18_5).1 (by decide) (by decide) k_) ?_
        show G (s₁.setTop (mkF m 25 #[.val (.ref u), .val (.int n), .val (.int 3)] []))
        refine hG _ _ (fun t_ k_ => XS.iconst X0.here hx rfl (hb hby d11_25) k_) ?_
        show G (s₁.setTop (mkF m 26 #[.val (.ref u), .val (.int n), .val (.int 3)] [(.int 0)]))
        exact own_retN hR hret (by simp) X0 hx (hb hby d11_26) (by decide) (by decide) (by rw [e0]; exact ⟨(0 : Int32), rfl, N0, rfl, (Or.inr ⟨rfl, fun q => q.2.2 hc18_5⟩)⟩)
      · skip
        refine hG _ _ (fun t_ k_ => XS.icmpNo X0.here hx rfl (hb hby d11_18) rfl (feq hc18_5).1 k_) ?_
        show G (s₁.setTop (mkF m 21 #[.val (.ref u), .val (.int n), .val (.int 3)] []))
        refine hG _ _ (fun t_ k_ => XS.iconst X0.here hx rfl (hb hby d11_21) k_) ?_
        refine hG _ _ (fun t_ k_ => XS.goto X0.here hx rfl (pc0 := 22) (pc' := 26) rfl (hb hby d11_22) (by decide) (by decide) k_) ?_
        show G (s₁.setTop (mkF m 26 #[.val (.ref u), .val (.int n), .val (.int 3)] [(.int 1)]))
        exact own_retN hR hret (by simp) X0 hx (hb hby d11_26) (by decide) (by decide) (by rw [e0]; exact ⟨(1 : Int32), rfl, N0, rfl, (Or.inl ⟨rfl, hc2_1, hc10_3, hc18_5⟩)⟩)
  · skip
    refine hG _ _ (fun t_ k_ => XS.icmpYes X0.here hx rfl (pc0 := 2) (pc' := 25) rfl (hb hby d11_2) rfl (flt hc2_1).2.1 (by decide) (by decide) k_) ?_
    show G (s₁.setTop (mkF m 25 #[.val (.ref u), .val (.int n), .val (.int 3)] []))
    refine hG _ _ (fun t_ k_ => XS.iconst X0.here hx rfl (hb hby d11_25) k_) ?_
    show G (s₁.setTop (mkF m 26 #[.val (.ref u), .val (.int n), .val (.int 3)] [(.int 0)]))
    exact own_retN hR hret (by simp) X0 hx (hb hby d11_26) (by decide) (by decide) (by rw [e0]; exact ⟨(0 : Int32), rfl, N0, rfl, (Or.inr ⟨rfl, fun q => hc2_1 q.1⟩)⟩)
theorem own_pd30 : parseMethodDescriptor "(Ljava/lang/String;I[CII)Z" = some ⟨[(.object "java/lang/String"), .int, (.array .char), .int, .int], some .boolean⟩ := by decide +kernel
set_option maxRecDepth 65536 in
set_option maxHeartbeats 40000000 in
theorem own_at (l : Launch) (Z : State) (a0 : Array Value) (hw : ∀ d ∈ tables_1, d.before a0 Z = true) (a : Addr) (t : Addr) (kt : ClassId) (cs : List Int32) (cd : Int32) (nb : Int32) (vs : List Value) (cpt : Int32) (u : Addr) (ku : ClassId) (x0 : Int32) (x1 : Int32) (x2 : Int32) (x3 : Int32) (f : Nat) (k : Nat) (n : Nat) (fmt : Value) (h0 : Heap) (O0 : own_Old Z h0) (g0_E : Exa Z h0 a "java/lang/String") (g1_F : Fld Z h0 a "java/lang/String" "coder" "B" (.int cd)) (g2_F : Fld Z h0 a "java/lang/String" "value" "[B" (.ref t)) (g3_V : Arv Z h0 t kt .byte nb vs (.int 0)) (g4_henc : own_enc cs cd nb vs) (g5_hcap : cs.length ≤ 4) (g6_h16 : ∀ c ∈ cs, 0 ≤ c.toInt ∧ c.toInt ≤ 65535) (g7_S : Sta Z Z.heap "java/lang/String" "COMPACT_STRINGS" "Z" (.int cpt)) (g8_hcpt : ¬ (cpt = (0 : Int32))) (g9_S : Sta Z Z.heap "java/lang/StringUTF16" "$assertionsDisabled" "Z" (.int 1)) (g10_S : Sta Z Z.heap "java/lang/StringUTF16" "HI_BYTE_SHIFT" "I" (.int 0)) (g11_S : Sta Z Z.heap "java/lang/StringUTF16" "LO_BYTE_SHIFT" "I" (.int 8)) (g12_V : Arv Z h0 u ku .char (4 : Int32) [(.int x0), (.int x1), (.int x2), (.int x3)] (.int 0)) (g13_hn : n = cs.length) (g14_heq : ∀ j, j < cs.length → cs.getD j 0 = [x0, x1, x2, x3].getD (f + j) 0 ∧ f + j < 4) (g15_hk : k < 4) (g16_hfmt : fmt.isRef = true) (g17_S : Sta Z Z.heap "jdk/internal/util/Preconditions" "SIOOBE_FORMATTER" "Ljava/util/function/BiFunction;" fmt) :
    own_Con l Z (⟨"com/example/handlewright/handlewright/OrderStripBlanksPinLaw", "at", "(Ljava/lang/String;I[CII)Z"⟩ : MethodName) method_4_code 5 (some .boolean) [] ({ frames := 5, cells := 0, slots := 0, locals := 66 } : Room) #[(.ref a), (.int (Int32.ofNat n)), (.ref u), (.int (Int32.ofNat f)), (.int (Int32.ofNat k))] h0 (fun rv rh rL => rv = some (.int 1) ∧ own_Fr Z rL ∧ h0 = rh) := by
  refine own_intro (plainFor_of_name (by first | (simp [plainName, overriddenIn]; done) | decide +kernel)) ?_
  intro p e s m below meth c s₁ G hx hby hml hown hnm hret hZ X0 e0 hG hR
  have N0 := Fr.nil Z.heap.size
  refine own_entry (Ls := #[.val (.ref a), .val (.int (Int32.ofNat n)), .val (.ref u), .val (.int (Int32.ofNat f)), .val (.int (Int32.ofNat k))]) (by first | (simp [entryFrame, mkF, argsToLocals, Value.category]; done) | rfl) ?_
  show G (s₁.setTop (mkF m 0 #[.val (.ref a), .val (.int (Int32.ofNat n)), .val (.ref u), .val (.int (Int32.ofNat f)), .val (.int (Int32.ofNat k))] []))
  refine hG _ _ (fun t_ k_ => XS.iload X0.here hx rfl (hb hby d12_0) rfl k_) ?_
  refine hG _ _ (fun t_ k_ => XS.iloadN X0.here hx rfl (hb hby d12_2) rfl k_) ?_
  show G (s₁.setTop (mkF m 3 #[.val (.ref a), .val (.int (Int32.ofNat n)), .val (.ref u), .val (.int (Int32.ofNat f)), .val (.int (Int32.ofNat k))] [(.int (Int32.ofNat n)), (.int (Int32.ofNat k))]))
  by_cases hc3_1 : (Int32.ofNat k) < (Int32.ofNat n)
  · skip
    refine hG _ _ (fun t_ k_ => XS.icmpNo X0.here hx rfl (hb hby d12_3) rfl (tlt hc3_1).2.1 k_) ?_
    show G (s₁.setTop (mkF m 6 #[.val (.ref a), .val (.int (Int32.ofNat n)), .val (.ref u), .val (.int (Int32.ofNat f)), .val (.int (Int32.ofNat k))] []))
    have hlt : k < cs.length := by have q := hc3_1; rw [Int32.lt_iff_toInt_lt, own_toInt (by omega), own_toInt (by omega)] at q; omega
    refine hG _ _ (fun t_ k_ => XS.aloadN X0.here hx rfl (hb hby d12_6) rfl rfl k_) ?_
    refine hG _ _ (fun t_ k_ => XS.iload X0.here hx rfl (hb hby d12_7) rfl k_) ?_
    show G (s₁.setTop (mkF m 9 #[.val (.ref a), .val (.int (Int32.ofNat n)), .val (.ref u), .val (.int (Int32.ofNat f)), .val (.int (Int32.ofNat k))] [(.int (Int32.ofNat k)), (.ref a)]))
    refine own_callV (C := "java/lang/String") X0 hx hZ hG hown (ow hw 121 rfl) (ow hw 74 rfl) (ow hw 76 rfl) (ow hw 75 rfl) (ow hw 8 rfl) (ow hw 77 rfl) (by decide) 0 (own_ca l Z a0 hw a t kt cs cd nb vs cpt k fmt h0 O0 g0_E g1_F g2_F g3_V g4_henc g5_hcap g6_h16 g7_S g8_hcpt g9_S g10_S g11_S hlt g16_hfmt g17_S) (by decide) (by decide) e0 g0_E (by rw [hml]; rfl) (lenOf own_pd16 rfl) (argsL := [(.int (Int32.ofNat k))]) (rest := []) rfl rfl (Nat.le_of_eq rfl) (hb hby d12_9) (by decide) (by decide) ?_
    intro T2 h2 v2 L2 X2 e2 q2
    obtain ⟨rfl, M2, rfl⟩ := q2
    have N2 := Fr.app N0 M2
    show G (T2.setTop (mkF m 12 #[.val (.ref a), .val (.int (Int32.ofNat n)), .val (.ref u), .val (.int (Int32.ofNat f)), .val (.int (Int32.ofNat k))] [(.int (cs.getD k 0))]))
    refine hG _ _ (fun t_ k_ => XS.aloadN X2.here hx rfl (hb hby d12_12) rfl rfl k_) ?_
    refine hG _ _ (fun t_ k_ => XS.iloadN X2.here hx rfl (hb hby d12_13) rfl k_) ?_
    refine hG _ _ (fun t_ k_ => XS.iload X2.here hx rfl (hb hby d12_14) rfl k_) ?_
    refine hG _ _ (fun t_ k_ => XS.iadd X2.here hx rfl (hb hby d12_16) rfl k_) ?_
    show G (T2.setTop (mkF m 17 #[.val (.ref a), .val (.int (Int32.ofNat n)), .val (.ref u), .val (.int (Int32.ofNat f)), .val (.int (Int32.ofNat k))] [(.int ((Int32.ofNat f) + (Int32.ofNat k))), (.ref u), (.int (cs.getD k 0))]))
    rw [show Int32.ofNat f + Int32.ofNat k = Int32.ofNat (f + k) from own_addN2 _ _]
    show G (T2.setTop (mkF m 17 #[.val (.ref a), .val (.int (Int32.ofNat n)), .val (.ref u), .val (.int (Int32.ofNat f)), .val (.int (Int32.ofNat k))] [(.int (Int32.ofNat (f + k))), (.ref u), (.int (cs.getD k 0))]))
    obtain ⟨c3, Ar3, q3, S3, M3, H3, G3⟩ := id g12_V
    have hin3 : ¬ ((Int32.ofNat (f + k)) < 0 ∨ c3.slots.size ≤ (Int32.ofNat (f + k)).toNatClampNeg) := inb_of S3 ⟨own_nn (by have := (g14_heq k hlt).2; omega), own_lt (n := 4) (g14_heq k hlt).2 (by decide)⟩
    refine hG _ _ (X2.caload hx (j := (Int32.ofNat (f + k))) (v := (.int ([x0, x1, x2, x3].getD (f + k) 0))) (by rw [e2]; exact Ar3.1) (State.isArrayOf_alike hZ.alike Ar3.2.1) Ar3.2.2 hin3 (Has.at H3 hin3 (by rw [own_clamp (by have := (g14_heq k hlt).2; omega)]; exact own_getD_map Value.int [x0, x1, x2, x3] (f + k) _ 0 (g14_heq k hlt).2)) (g := (mkF m 17 #[.val (.ref a), .val (.int (Int32.ofNat n)), .val (.ref u), .val (.int (Int32.ofNat f)), .val (.int (Int32.ofNat k))] [(.int (Int32.ofNat (f + k))), (.ref u), (.int (cs.getD k 0))])) rfl rfl (hb hby d12_17)) ?_
    show G (T2.setTop (mkF m 18 #[.val (.ref a), .val (.int (Int32.ofNat n)), .val (.ref u), .val (.int (Int32.ofNat f)), .val (.int (Int32.ofNat k))] [(.int ([x0, x1, x2, x3].getD (f + k) 0)), (.int (cs.getD k 0))]))
    refine hG _ _ (fun t_ k_ => XS.icmpNo X2.here hx rfl (hb hby d12_18) rfl (teq (g14_heq k hlt).1).2 k_) ?_
    show G (T2.setTop (mkF m 21 #[.val (.ref a), .val (.int (Int32.ofNat n)), .val (.ref u), .val (.int (Int32.ofNat f)), .val (.int (Int32.ofNat k))] []))
    refine hG _ _ (fun t_ k_ => XS.iconst X2.here hx rfl (hb hby d12_21) k_) ?_
    refine hG _ _ (fun t_ k_ => XS.goto X2.here hx rfl (pc0 := 22) (pc' := 26) rfl (hb hby d12_22) (by decide) (by decide) k_) ?_
    show G (T2.setTop (mkF m 26 #[.val (.ref a), .val (.int (Int32.ofNat n)), .val (.ref u), .val (.int (Int32.ofNat f)), .val (.int (Int32.ofNat k))] [(.int 1)]))
    exact own_retN hR hret (by simp) X2 hx (hb hby d12_26) (by decide) (by decide) (by rw [e2]; exact ⟨rfl, N2, rfl⟩)
  · skip
    refine hG _ _ (fun t_ k_ => XS.icmpYes X0.here hx rfl (pc0 := 3) (pc' := 21) rfl (hb hby d12_3) rfl (flt hc3_1).2.1 (by decide) (by decide) k_) ?_
    show G (s₁.setTop (mkF m 21 #[.val (.ref a), .val (.int (Int32.ofNat n)), .val (.ref u), .val (.int (Int32.ofNat f)), .val (.int (Int32.ofNat k))] []))
    refine hG _ _ (fun t_ k_ => XS.iconst X0.here hx rfl (hb hby d12_21) k_) ?_
    refine hG _ _ (fun t_ k_ => XS.goto X0.here hx rfl (pc0 := 22) (pc' := 26) rfl (hb hby d12_22) (by decide) (by decide) k_) ?_
    show G (s₁.setTop (mkF m 26 #[.val (.ref a), .val (.int (Int32.ofNat n)), .val (.ref u), .val (.int (Int32.ofNat f)), .val (.int (Int32.ofNat k))] [(.int 1)]))
    exact own_retN hR hret (by simp) X0 hx (hb hby d12_26) (by decide) (by decide) (by rw [e0]; exact ⟨rfl, N0, rfl⟩)
theorem own_pd31 : parseMethodDescriptor "(IIIII)Z" = some ⟨[.int, .int, .int, .int, .int], some .boolean⟩ := by decide +kernel
set_option maxRecDepth 65536 in
set_option maxHeartbeats 40000000 in
theorem own_law (l : Launch) (Z : State) (a0 : Array Value) (hw : ∀ d ∈ tables_1, d.before a0 Z = true) (ws : List Jvm.Cond) (hEL : EW Z a0 consts_1) (i0 : Int32) (i1 : Int32) (i2 : Int32) (i3 : Int32) (i4 : Int32) (cpt : Int32) (fmt : Value) (h0 : Heap) (O0 : own_Old Z h0) (g0_S : Sta Z Z.heap "java/lang/String" "COMPACT_STRINGS" "Z" (.int cpt)) (g1_hcpt : ¬ (cpt = (0 : Int32))) (g2_S : Sta Z Z.heap "java/lang/StringUTF16" "$assertionsDisabled" "Z" (.int 1)) (g3_S : Sta Z Z.heap "java/lang/StringUTF16" "HI_BYTE_SHIFT" "I" (.int 0)) (g4_S : Sta Z Z.heap "java/lang/StringUTF16" "LO_BYTE_SHIFT" "I" (.int 8)) (g5_hfmt : fmt.isRef = true) (g6_S : Sta Z Z.heap "jdk/internal/util/Preconditions" "SIOOBE_FORMATTER" "Ljava/util/function/BiFunction;" fmt) :
    own_ConW l Z consts_1 x code maxLocals ret ws room_1 #[(.int i0), (.int i1), (.int i2), (.int i3), (.int i4)] h0 (fun rv rh rL => rv = some (.int 1) ∧ own_Fr Z rL ∧ Keep h0 rh []) := by
  refine own_introW hEL (plainFor_of_name (by first | (simp [plainName, overriddenIn]; done) | decide +kernel)) ?_
  intro p e s m below meth c s₁ G hx hby hml hown hnm hret hZ X0 e0 H0 SI0 hG hR
  have N0 := Fr.nil Z.heap.size
  refine own_entry (Ls := #[.val (.int i0), .val (.int i1), .val (.int i2), .val (.int i3), .val (.int i4), .unset, .unset, .unset, .unset, .unset, .unset, .unset, .unset, .unset, .unset, .unset]) (by first | (simp [entryFrame, mkF, argsToLocals, Value.category, maxLocals]; done) | rfl) ?_
  show G (s₁.setTop (mkF m 0 #[.val (.int i0), .val (.int i1), .val (.int i2), .val (.int i3), .val (.int i4), .unset, .unset, .unset, .unset, .unset, .unset, .unset, .unset, .unset, .unset, .unset] []))
  refine hG _ _ (fun t_ k_ => XS.iloadN X0.here hx rfl (hb hby at_0) rfl k_) ?_
  refine hG _ _ (fun t_ k_ => XS.bipush X0.here hx rfl (hb hby at_1) k_) ?_
  refine hG _ _ (fun t_ k_ => XS.iand X0.here hx rfl (hb hby at_3) rfl k_) ?_
  refine hG _ _ (fun t_ k_ => XS.iconst X0.here hx rfl (hb hby at_4) k_) ?_
  show G (s₁.setTop (mkF m 5 #[.val (.int i0), .val (.int i1), .val (.int i2), .val (.int i3), .val (.int i4), .unset, .unset, .unset, .unset, .unset, .unset, .unset, .unset, .unset, .unset, .unset] [(.int 5), (.int (i0 &&& (7 : Int32)))]))
  refine hG _ _ (fun t_ k_ => iremM X0 hx rfl (hb hby at_5) rfl (by decide) k_) ?_
  show G (s₁.setTop (mkF m 6 #[.val (.int i0), .val (.int i1), .val (.int i2), .val (.int i3), .val (.int i4), .unset, .unset, .unset, .unset, .unset, .unset, .unset, .unset, .unset, .unset, .unset] [(.int ((i0 &&& (7 : Int32)) % (5 : Int32)))]))
  refine hG _ _ (fun t_ k_ => XS.istore X0.here hx rfl (hb hby at_6) rfl (l' := #[.val (.int i0), .val (.int i1), .val (.int i2), .val (.int i3), .val (.int i4), .val (.int ((i0 &&& (7 : Int32)) % (5 : Int32))), .unset, .unset, .unset, .unset, .unset, .unset, .unset, .unset, .unset, .unset]) rfl k_) ?_
  show G (s₁.setTop (mkF m 8 #[.val (.int i0), .val (.int i1), .val (.int i2), .val (.int i3), .val (.int i4), .val (.int ((i0 &&& (7 : Int32)) % (5 : Int32))), .unset, .unset, .unset, .unset, .unset, .unset, .unset, .unset, .unset, .unset] []))
  generalize hn_n1 : ((i0 &&& (7 : Int32)) % (5 : Int32)) = n1
  show G (s₁.setTop (mkF m 8 #[.val (.int i0), .val (.int i1), .val (.int i2), .val (.int i3), .val (.int i4), .val (.int n1), .unset, .unset, .unset, .unset, .unset, .unset, .unset, .unset, .unset, .unset] []))
  refine hG _ _ (fun t_ k_ => XS.iconst X0.here hx rfl (hb hby at_8) k_) ?_
  show G (s₁.setTop (mkF m 9 #[.val (.int i0), .val (.int i1), .val (.int i2), .val (.int i3), .val (.int i4), .val (.int n1), .unset, .unset, .unset, .unset, .unset, .unset, .unset, .unset, .unset, .unset] [(.int 4)]))
  obtain ⟨T2, h2, k2, X2, e2, E2, A2, st2⟩ := newP X0 hx hZ (ow hw 0 rfl) e0 (g := (mkF m 9 #[.val (.int i0), .val (.int i1), .val (.int i2), .val (.int i3), .val (.int i4), .val (.int n1), .unset, .unset, .unset, .unset, .unset, .unset, .unset, .unset, .unset, .unset] [(.int 4)])) rfl (hb hby at_9) rfl (by decide) (cap := 4) (by decide) (by decide) (by decide) (by decide)
  obtain ⟨b2, z2⟩ : ∃ z, z = h0.size := ⟨_, rfl⟩
  rw [← z2] at A2 st2
  refine hG _ _ st2 ?_
  have R2 := (CHr.ext E2 H0)
  have C2 := (CHr.refl H0).trans R2
  have K2 : Keep h0 h2 [] := (Keep.refl h0 []).ext E2
  have O2 : own_Old Z h2 := O0.ext E2
  have V2 : Arv Z h2 b2 k2 .char (4 : Int32) [(.int 0), (.int 0), (.int 0), (.int 0)] (.int 0) := (Arv.new A2 (by decide)).pad (pad_rep [] (.int 0) 4)
  show G (T2.setTop (mkF m 11 #[.val (.int i0), .val (.int i1), .val (.int i2), .val (.int i3), .val (.int i4), .val (.int n1), .unset, .unset, .unset, .unset, .unset, .unset, .unset, .unset, .unset, .unset] [(.ref b2)]))
  refine hG _ _ (fun t_ k_ => XS.astore X2.here hx rfl (hb hby at_11) rfl rfl (l' := #[.val (.int i0), .val (.int i1), .val (.int i2), .val (.int i3), .val (.int i4), .val (.int n1), .val (.ref b2), .unset, .unset, .unset, .unset, .unset, .unset, .unset, .unset, .unset]) rfl k_) ?_
  refine hG _ _ (fun t_ k_ => XS.aload X2.here hx rfl (hb hby at_13) rfl rfl k_) ?_
  refine hG _ _ (fun t_ k_ => XS.iconst X2.here hx rfl (hb hby at_15) k_) ?_
  refine hG _ _ (fun t_ k_ => XS.iloadN X2.here hx rfl (hb hby at_16) rfl k_) ?_
  show G (T2.setTop (mkF m 17 #[.val (.int i0), .val (.int i1), .val (.int i2), .val (.int i3), .val (.int i4), .val (.int n1), .val (.ref b2), .unset, .unset, .unset, .unset, .unset, .unset, .unset, .unset, .unset] [(.int i1), (.int 0), (.ref b2)]))
  refine own_callS X2 hx hZ hG hown (ow hw 1 rfl) (ow hw 2 rfl) (ow hw 3 rfl) (ow hw 4 rfl) (by decide) 2 (own_draw l Z a0 hw i1 h2 O2) (by decide) (by decide) e2 (by rw [hml]; rfl) (lenOf own_pd16 rfl) (argsL := [(.int i1)]) (rest := [(.int 0), (.ref b2)]) rfl rfl (Nat.le_of_eq rfl) (hb hby at_17) (by decide) (by decide) ?_
  intro T3 h3 v3 L3 X3 e3 q3
  obtain ⟨r_3, rfl, M3, rfl, r3_0⟩ := q3
  have N3 := Fr.app N0 M3
  show G (T3.setTop (mkF m 20 #[.val (.int i0), .val (.int i1), .val (.int i2), .val (.int i3), .val (.int i4), .val (.int n1), .val (.ref b2), .unset, .unset, .unset, .unset, .unset, .unset, .unset, .unset, .unset] [(.int r_3), (.int 0), (.ref b2)]))
  obtain ⟨c4, Ar4, q4, S4, M4, H4, G4⟩ := id V2
  obtain ⟨T4, h4, X4, e4, W4, st4⟩ := stC X3 hx hZ e3 Ar4 (j := (0 : Int32)) (inb_of S4 ⟨by decide, by decide⟩) (g := (mkF m 20 #[.val (.int i0), .val (.int i1), .val (.int i2), .val (.int i3), .val (.int i4), .val (.int n1), .val (.ref b2), .unset, .unset, .unset, .unset, .unset, .unset, .unset, .unset, .unset] [(.int r_3), (.int 0), (.ref b2)])) rfl rfl (hb hby at_20)
  refine hG _ _ st4 ?_
  have sf5 : Safe Z consts_1 _ h2 b2 := (own_safeArv hZ.alike V2 (by decide))
  have R4 := (CHr.wr W4 sf5 R2.1)
  have C4 := C2.trans R4
  have K4 : Keep h0 h4 [] := K2.wr W4 (Or.inr (Nat.le_trans (Keep.refl h0 []).1 (Nat.le_of_eq z2.symm)))
  have O4 : own_Old Z h4 := O2.wr W4 (own_ge O0 (Nat.le_of_eq z2.symm))
  rw [own_narC r3_0] at W4
  have V4 : Arv Z h4 b2 k2 .char (4 : Int32) [(.int r_3), (.int 0), (.int 0), (.int 0)] (.int 0) := Arv.set Ar4 q4 S4 M4 H4 G4 (own_fitC r3_0) W4 0 rfl (Nat.le_of_ble_eq_true rfl)
  have N4 := Fr.snoc X4 N3 (own_ge O0 (Nat.le_of_eq z2.symm))
  show G (T4.setTop (mkF m 21 #[.val (.int i0), .val (.int i1), .val (.int i2), .val (.int i3), .val (.int i4), .val (.int n1), .val (.ref b2), .unset, .unset, .unset, .unset, .unset, .unset, .unset, .unset, .unset] []))
  refine hG _ _ (fun t_ k_ => XS.aload X4.here hx rfl (hb hby at_21) rfl rfl k_) ?_
  refine hG _ _ (fun t_ k_ => XS.iconst X4.here hx rfl (hb hby at_23) k_) ?_
  refine hG _ _ (fun t_ k_ => XS.iloadN X4.here hx rfl (hb hby at_24) rfl k_) ?_
  show G (T4.setTop (mkF m 25 #[.val (.int i0), .val (.int i1), .val (.int i2), .val (.int i3), .val (.int i4), .val (.int n1), .val (.ref b2), .unset, .unset, .unset, .unset, .unset, .unset, .unset, .unset, .unset] [(.int i2), (.int 1), (.ref b2)]))
  refine own_callS X4 hx hZ hG hown (ow hw 1 rfl) (ow hw 2 rfl) (ow hw 3 rfl) (ow hw 4 rfl) (by decide) 2 (own_draw l Z a0 hw i2 h4 O4) (by decide) (by decide) e4 (by rw [hml]; rfl) (lenOf own_pd16 rfl) (argsL := [(.int i2)]) (rest := [(.int 1), (.ref b2)]) rfl rfl (Nat.le_of_eq rfl) (hb hby at_25) (by decide) (by decide) ?_
  intro T6 h6 v6 L6 X6 e6 q6
  obtain ⟨r_6, rfl, M6, rfl, r6_0⟩ := q6
  have N6 := Fr.app N4 M6
  show G (T6.setTop (mkF m 28 #[.val (.int i0), .val (.int i1), .val (.int i2), .val (.int i3), .val (.int i4), .val (.int n1), .val (.ref b2), .unset, .unset, .unset, .unset, .unset, .unset, .unset, .unset, .unset] [(.int r_6), (.int 1), (.ref b2)]))
  obtain ⟨c7, Ar7, q7, S7, M7, H7, G7⟩ := id V4
  obtain ⟨T7, h7, X7, e7, W7, st7⟩ := stC X6 hx hZ e6 Ar7 (j := (1 : Int32)) (inb_of S7 ⟨by decide, by decide⟩) (g := (mkF m 28 #[.val (.int i0), .val (.int i1), .val (.int i2), .val (.int i3), .val (.int i4), .val (.int n1), .val (.ref b2), .unset, .unset, .unset, .unset, .unset, .unset, .unset, .unset, .unset] [(.int r_6), (.int 1), (.ref b2)])) rfl rfl (hb hby at_28)
  refine hG _ _ st7 ?_
  have sf8 := (R4.safe V2.lt sf5)
  have R7 := (CHr.wr W7 sf8 R4.1)
  have C7 := C4.trans R7
  have K7 : Keep h0 h7 [] := K4.wr W7 (Or.inr (Nat.le_trans (Keep.refl h0 []).1 (Nat.le_of_eq z2.symm)))
  have O7 : own_Old Z h7 := O4.wr W7 (own_ge O0 (Nat.le_of_eq z2.symm))
  rw [own_narC r6_0] at W7
  have V7 : Arv Z h7 b2 k2 .char (4 : Int32) [(.int r_3), (.int r_6), (.int 0), (.int 0)] (.int 0) := Arv.set Ar7 q7 S7 M7 H7 G7 (own_fitC r6_0) W7 1 rfl (Nat.le_of_ble_eq_true rfl)
  have N7 := Fr.snoc X7 N6 (own_ge O0 (Nat.le_of_eq z2.symm))
  show G (T7.setTop (mkF m 29 #[.val (.int i0), .val (.int i1), .val (.int i2), .val (.int i3), .val (.int i4), .val (.int n1), .val (.ref b2), .unset, .unset, .unset, .unset, .unset, .unset, .unset, .unset, .unset] []))
  refine hG _ _ (fun t_ k_ => XS.aload X7.here hx rfl (hb hby at_29) rfl rfl k_) ?_
  refine hG _ _ (fun t_ k_ => XS.iconst X7.here hx rfl (hb hby at_31) k_) ?_
  refine hG _ _ (fun t_ k_ => XS.iloadN X7.here hx rfl (hb hby at_32) rfl k_) ?_
  show G (T7.setTop (mkF m 33 #[.val (.int i0), .val (.int i1), .val (.int i2), .val (.int i3), .val (.int i4), .val (.int n1), .val (.ref b2), .unset, .unset, .unset, .unset, .unset, .unset, .unset, .unset, .unset] [(.int i3), (.int 2), (.ref b2)]))
  refine own_callS X7 hx hZ hG hown (ow hw 1 rfl) (ow hw 2 rfl) (ow hw 3 rfl) (ow hw 4 rfl) (by decide) 2 (own_draw l Z a0 hw i3 h7 O7) (by decide) (by decide) e7 (by rw [hml]; rfl) (lenOf own_pd16 rfl) (argsL := [(.int i3)]) (rest := [(.int 2), (.ref b2)]) rfl rfl (Nat.le_of_eq rfl) (hb hby at_33) (by decide) (by decide) ?_
  intro T9 h9 v9 L9 X9 e9 q9
  obtain ⟨r_9, rfl, M9, rfl, r9_0⟩ := q9
  have N9 := Fr.app N7 M9
  show G (T9.setTop (mkF m 36 #[.val (.int i0), .val (.int i1), .val (.int i2), .val (.int i3), .val (.int i4), .val (.int n1), .val (.ref b2), .unset, .unset, .unset, .unset, .unset, .unset, .unset, .unset, .unset] [(.int r_9), (.int 2), (.ref b2)]))
  obtain ⟨c10, Ar10, q10, S10, M10, H10, G10⟩ := id V7
  obtain ⟨T10, h10, X10, e10, W10, st10⟩ := stC X9 hx hZ e9 Ar10 (j := (2 : Int32)) (inb_of S10 ⟨by decide, by decide⟩) (g := (mkF m 36 #[.val (.int i0), .val (.int i1), .val (.int i2), .val (.int i3), .val (.int i4), .val (.int n1), .val (.ref b2), .unset, .unset, .unset, .unset, .unset, .unset, .unset, .unset, .unset] [(.int r_9), (.int 2), (.ref b2)])) rfl rfl (hb hby at_36)
  refine hG _ _ st10 ?_
  have sf11 := (R7.safe V4.lt sf8)
  have R10 := (CHr.wr W10 sf11 R7.1)
  have C10 := C7.trans R10
  have K10 : Keep h0 h10 [] := K7.wr W10 (Or.inr (Nat.le_trans (Keep.refl h0 []).1 (Nat.le_of_eq z2.symm)))
  have O10 : own_Old Z h10 := O7.wr W10 (own_ge O0 (Nat.le_of_eq z2.symm))
  rw [own_narC r9_0] at W10
  have V10 : Arv Z h10 b2 k2 .char (4 : Int32) [(.int r_3), (.int r_6), (.int r_9), (.int 0)] (.int 0) := Arv.set Ar10 q10 S10 M10 H10 G10 (own_fitC r9_0) W10 2 rfl (Nat.le_of_ble_eq_true rfl)
  have N10 := Fr.snoc X10 N9 (own_ge O0 (Nat.le_of_eq z2.symm))
  show G (T10.setTop (mkF m 37 #[.val (.int i0), .val (.int i1), .val (.int i2), .val (.int i3), .val (.int i4), .val (.int n1), .val (.ref b2), .unset, .unset, .unset, .unset, .unset, .unset, .unset, .unset, .unset] []))
  refine hG _ _ (fun t_ k_ => XS.aload X10.here hx rfl (hb hby at_37) rfl rfl k_) ?_
  refine hG _ _ (fun t_ k_ => XS.iconst X10.here hx rfl (hb hby at_39) k_) ?_
  refine hG _ _ (fun t_ k_ => XS.iload X10.here hx rfl (hb hby at_40) rfl k_) ?_
  show G (T10.setTop (mkF m 42 #[.val (.int i0), .val (.int i1), .val (.int i2), .val (.int i3), .val (.int i4), .val (.int n1), .val (.ref b2), .unset, .unset, .unset, .unset, .unset, .unset, .unset, .unset, .unset] [(.int i4), (.int 3), (.ref b2)]))
  refine own_callS X10 hx hZ hG hown (ow hw 1 rfl) (ow hw 2 rfl) (ow hw 3 rfl) (ow hw 4 rfl) (by decide) 2 (own_draw l Z a0 hw i4 h10 O10) (by decide) (by decide) e10 (by rw [hml]; rfl) (lenOf own_pd16 rfl) (argsL := [(.int i4)]) (rest := [(.int 3), (.ref b2)]) rfl rfl (Nat.le_of_eq rfl) (hb hby at_42) (by decide) (by decide) ?_
  intro T12 h12 v12 L12 X12 e12 q12
  obtain ⟨r_12, rfl, M12, rfl, r12_0⟩ := q12
  have N12 := Fr.app N10 M12
  show G (T12.setTop (mkF m 45 #[.val (.int i0), .val (.int i1), .val (.int i2), .val (.int i3), .val (.int i4), .val (.int n1), .val (.ref b2), .unset, .unset, .unset, .unset, .unset, .unset, .unset, .unset, .unset] [(.int r_12), (.int 3), (.ref b2)]))
  obtain ⟨c13, Ar13, q13, S13, M13, H13, G13⟩ := id V10
  obtain ⟨T13, h13, X13, e13, W13, st13⟩ := stC X12 hx hZ e12 Ar13 (j := (3 : Int32)) (inb_of S13 ⟨by decide, by decide⟩) (g := (mkF m 45 #[.val (.int i0), .val (.int i1), .val (.int i2), .val (.int i3), .val (.int i4), .val (.int n1), .val (.ref b2), .unset, .unset, .unset, .unset, .unset, .unset, .unset, .unset, .unset] [(.int r_12), (.int 3), (.ref b2)])) rfl rfl (hb hby at_45)
  refine hG _ _ st13 ?_
  have sf14 := (R10.safe V7.lt sf11)
  have R13 := (CHr.wr W13 sf14 R10.1)
  have C13 := C10.trans R13
  have K13 : Keep h0 h13 [] := K10.wr W13 (Or.inr (Nat.le_trans (Keep.refl h0 []).1 (Nat.le_of_eq z2.symm)))
  have O13 : own_Old Z h13 := O10.wr W13 (own_ge O0 (Nat.le_of_eq z2.symm))
  rw [own_narC r12_0] at W13
  have V13 : Arv Z h13 b2 k2 .char (4 : Int32) [(.int r_3), (.int r_6), (.int r_9), (.int r_12)] (.int 0) := Arv.set Ar13 q13 S13 M13 H13 G13 (own_fitC r12_0) W13 3 rfl (Nat.le_of_ble_eq_true rfl)
  have N13 := Fr.snoc X13 N12 (own_ge O0 (Nat.le_of_eq z2.symm))
  show G (T13.setTop (mkF m 46 #[.val (.int i0), .val (.int i1), .val (.int i2), .val (.int i3), .val (.int i4), .val (.int n1), .val (.ref b2), .unset, .unset, .unset, .unset, .unset, .unset, .unset, .unset, .unset] []))
  rcases own_n4 hn_n1 with rfl | rfl | rfl | rfl | rfl
  · skip
    show G (T13.setTop (mkF m 46 #[.val (.int i0), .val (.int i1), .val (.int i2), .val (.int i3), .val (.int i4), .val (.int 0), .val (.ref b2), .unset, .unset, .unset, .unset, .unset, .unset, .unset, .unset, .unset] []))
    refine hG _ _ (fun t_ k_ => XS.iload X13.here hx rfl (hb hby at_46) rfl k_) ?_
    show G (T13.setTop (mkF m 48 #[.val (.int i0), .val (.int i1), .val (.int i2), .val (.int i3), .val (.int i4), .val (.int 0), .val (.ref b2), .unset, .unset, .unset, .unset, .unset, .unset, .unset, .unset, .unset] [(.int 0)]))
    obtain ⟨T15, h15, k15, X15, e15, E15, A15, st15⟩ := newP X13 hx hZ (ow hw 0 rfl) e13 (g := (mkF m 48 #[.val (.int i0), .val (.int i1), .val (.int i2), .val (.int i3), .val (.int i4), .val (.int 0), .val (.ref b2), .unset, .unset, .unset, .unset, .unset, .unset, .unset, .unset, .unset] [(.int 0)])) rfl (hb hby at_48) rfl (by decide) (cap := 0) (by decide) (by decide) (by decide) (by decide)
    obtain ⟨b15, z15⟩ : ∃ z, z = h13.size := ⟨_, rfl⟩
    rw [← z15] at A15 st15
    refine hG _ _ st15 ?_
    have R15 := (CHr.ext E15 R13.1)
    have C15 := C13.trans R15
    have K15 : Keep h0 h15 [] := K13.ext E15
    have O15 : own_Old Z h15 := O13.ext E15
    have V15 : Arv Z h15 b15 k15 .char (0 : Int32) [] (.int 0) := (Arv.new A15 (by decide)).pad (pad_rep [] (.int 0) 0)
    show G (T15.setTop (mkF m 50 #[.val (.int i0), .val (.int i1), .val (.int i2), .val (.int i3), .val (.int i4), .val (.int 0), .val (.ref b2), .unset, .unset, .unset, .unset, .unset, .unset, .unset, .unset, .unset] [(.ref b15)]))
    refine hG _ _ (fun t_ k_ => XS.astore X15.here hx rfl (hb hby at_50) rfl rfl (l' := #[.val (.int i0), .val (.int i1), .val (.int i2), .val (.int i3), .val (.int i4), .val (.int 0), .val (.ref b2), .val (.ref b15), .unset, .unset, .unset, .unset, .unset, .unset, .unset, .unset]) rfl k_) ?_
    refine hG _ _ (fun t_ k_ => XS.iload X15.here hx rfl (hb hby at_52) rfl k_) ?_
    show G (T15.setTop (mkF m 54 #[.val (.int i0), .val (.int i1), .val (.int i2), .val (.int i3), .val (.int i4), .val (.int 0), .val (.ref b2), .val (.ref b15), .unset, .unset, .unset, .unset, .unset, .unset, .unset, .unset] [(.int 0)]))
    refine hG _ _ (fun t_ k_ => XS.ifYes X15.here hx rfl (pc0 := 54) (pc' := 65) rfl (hb hby at_54) rfl ((if0 _ _).trans (flt (by decide)).2.2.2) (by decide) (by decide) k_) ?_
    show G (T15.setTop (mkF m 65 #[.val (.int i0), .val (.int i1), .val (.int i2), .val (.int i3), .val (.int i4), .val (.int 0), .val (.ref b2), .val (.ref b15), .unset, .unset, .unset, .unset, .unset, .unset, .unset, .unset] []))
    refine hG _ _ (fun t_ k_ => XS.iload X15.here hx rfl (hb hby at_65) rfl k_) ?_
    refine hG _ _ (fun t_ k_ => XS.iconst X15.here hx rfl (hb hby at_67) k_) ?_
    show G (T15.setTop (mkF m 68 #[.val (.int i0), .val (.int i1), .val (.int i2), .val (.int i3), .val (.int i4), .val (.int 0), .val (.ref b2), .val (.ref b15), .unset, .unset, .unset, .unset, .unset, .unset, .unset, .unset] [(.int 1), (.int 0)]))
    refine hG _ _ (fun t_ k_ => XS.icmpYes X15.here hx rfl (pc0 := 68) (pc' := 79) rfl (hb hby at_68) rfl (flt (by decide)).2.2.2 (by decide) (by decide) k_) ?_
    show G (T15.setTop (mkF m 79 #[.val (.int i0), .val (.int i1), .val (.int i2), .val (.int i3), .val (.int i4), .val (.int 0), .val (.ref b2), .val (.ref b15), .unset, .unset, .unset, .unset, .unset, .unset, .unset, .unset] []))
    refine hG _ _ (fun t_ k_ => XS.iload X15.here hx rfl (hb hby at_79) rfl k_) ?_
    refine hG _ _ (fun t_ k_ => XS.iconst X15.here hx rfl (hb hby at_81) k_) ?_
    show G (T15.setTop (mkF m 82 #[.val (.int i0), .val (.int i1), .val (.int i2), .val (.int i3), .val (.int i4), .val (.int 0), .val (.ref b2), .val (.ref b15), .unset, .unset, .unset, .unset, .unset, .unset, .unset, .unset] [(.int 2), (.int 0)]))
    refine hG _ _ (fun t_ k_ => XS.icmpYes X15.here hx rfl (pc0 := 82) (pc' := 93) rfl (hb hby at_82) rfl (flt (by decide)).2.2.2 (by decide) (by decide) k_) ?_
    show G (T15.setTop (mkF m 93 #[.val (.int i0), .val (.int i1), .val (.int i2), .val (.int i3), .val (.int i4), .val (.int 0), .val (.ref b2), .val (.ref b15), .unset, .unset, .unset, .unset, .unset, .unset, .unset, .unset] []))
    refine hG _ _ (fun t_ k_ => XS.iload X15.here hx rfl (hb hby at_93) rfl k_) ?_
    refine hG _ _ (fun t_ k_ => XS.iconst X15.here hx rfl (hb hby at_95) k_) ?_
    show G (T15.setTop (mkF m 96 #[.val (.int i0), .val (.int i1), .val (.int i2), .val (.int i3), .val (.int i4), .val (.int 0), .val (.ref b2), .val (.ref b15), .unset, .unset, .unset, .unset, .unset, .unset, .unset, .unset] [(.int 3), (.int 0)]))
    refine hG _ _ (fun t_ k_ => XS.icmpYes X15.here hx rfl (pc0 := 96) (pc' := 107) rfl (hb hby at_96) rfl (flt (by decide)).2.2.2 (by decide) (by decide) k_) ?_
    show G (T15.setTop (mkF m 107 #[.val (.int i0), .val (.int i1), .val (.int i2), .val (.int i3), .val (.int i4), .val (.int 0), .val (.ref b2), .val (.ref b15), .unset, .unset, .unset, .unset, .unset, .unset, .unset, .unset] []))
    obtain ⟨T16, h16, X16, e16, E16, A16, D16, -, st16⟩ := newO X15 hx hZ hown (ow hw 6 rfl) (ow hw 7 rfl) (ow hw 8 rfl) e15 (g := (mkF m 107 #[.val (.int i0), .val (.int i1), .val (.int i2), .val (.int i3), .val (.int i4), .val (.int 0), .val (.ref b2), .val (.ref b15), .unset, .unset, .unset, .unset, .unset, .unset, .unset, .unset] [])) rfl (hb hby at_107) (by decide) (by decide)
    obtain ⟨b16, z16⟩ : ∃ z, z = h15.size := ⟨_, rfl⟩
    rw [← z16] at A16 D16 st16
    refine hG _ _ st16 ?_
    have R16 := (CHr.ext E16 R15.1)
    have C16 := C15.trans R16
    have K16 : Keep h0 h16 [] := K15.ext E16
    have O16 : own_Old Z h16 := O15.ext E16
    show G (T16.setTop (mkF m 110 #[.val (.int i0), .val (.int i1), .val (.int i2), .val (.int i3), .val (.int i4), .val (.int 0), .val (.ref b2), .val (.ref b15), .unset, .unset, .unset, .unset, .unset, .unset, .unset, .unset] [(.ref b16)]))
    refine hG _ _ (fun t_ k_ => XS.dup X16.here hx rfl (hb hby at_110) rfl rfl k_) ?_
    refine hG _ _ (fun t_ k_ => XS.aload X16.here hx rfl (hb hby at_111) rfl rfl k_) ?_
    show G (T16.setTop (mkF m 113 #[.val (.int i0), .val (.int i1), .val (.int i2), .val (.int i3), .val (.int i4), .val (.int 0), .val (.ref b2), .val (.ref b15), .unset, .unset, .unset, .unset, .unset, .unset, .unset, .unset] [(.ref b15), (.ref b16), (.ref b16)]))
    have f18 := (V15.ext E16)
    refine own_callIW X16 hx hZ hG hown rfl (ow hw 9 rfl) (ow hw 10 rfl) (ow hw 8 rfl) (ow hw 11 rfl) (by decide) 1 (own_str1E l Z a0 hw hEL b16 b15 (.int 0) k15 h16 O16 A16 (D16 (Or.inr (ow hw 22 rfl)) (ty := .byte) (by decide)) (D16 (Or.inr (ow hw 21 rfl)) (ty := (.array .byte)) (by decide)) (own_ge O15 (Nat.le_of_eq z16.symm)) f18) (by decide) (by decide) e16 SI0 (Nat.le_trans (Nat.le_trans (Nat.le_trans (Nat.le_trans (Nat.le_trans (Nat.le_trans (Nat.le_trans (Nat.le_refl _) R2.2.1) R4.2.1) R7.2.1) R10.2.1) R13.2.1) R15.2.1) R16.2.1) hEL R16.1 (by rw [hml]; rfl) (lenOf own_pd8 rfl) (argsL := [(.ref b15)]) (rest := [(.ref b16)]) rfl rfl (Nat.le_of_eq rfl) (hb hby at_113) (by decide) (by decide) ?_
    intro T17 h17 v17 L17 X17 e17 SI17 hZ17 hown17 Y17 q17
    obtain ⟨t_17, kt_17, rfl, M17, J17, r17_0, r17_1, r17_2, r17_3⟩ := q17
    have N17 := Fr.app N13 M17
    have R17 := Y17
    have C17 := C16.trans R17
    have K17 : Keep h0 h17 [] := K16.trans J17 (allS (Or.inr (Nat.le_trans K15.1 (Nat.le_of_eq z16.symm))) all0)
    have O17 : own_Old Z h17 := O16.keep J17 (allS (own_ge O15 (Nat.le_of_eq z16.symm)) all0)
    show G (T17.setTop (mkF m 116 #[.val (.int i0), .val (.int i1), .val (.int i2), .val (.int i3), .val (.int i4), .val (.int 0), .val (.ref b2), .val (.ref b15), .unset, .unset, .unset, .unset, .unset, .unset, .unset, .unset] [(.ref b16)]))
    refine own_callSW X17 hx hZ17 hG hown17 (ow hw 27 rfl) (ow hw 28 rfl) (ow hw 29 rfl) (ow hw 30 rfl) (by decide) 0 (own_strip l Z a0 hw hEL b16 t_17 kt_17 ([] : List Int32) (0 : Int32) (0 : Int32) [] cpt fmt h17 O17 r17_0 r17_1 r17_2 r17_3 own_enc_nil (Nat.le_of_ble_eq_true rfl) own_alln g0_S g1_hcpt g2_S g3_S g4_S g5_hfmt g6_S) (by decide) (by decide) e17 SI17 (Nat.le_refl _) hEL R17.1 (by rw [hml]; rfl) (lenOf own_pd28 rfl) (argsL := [(.ref b16)]) (rest := []) rfl rfl (Nat.le_of_eq rfl) (hb hby at_116) (by decide) (by decide) ?_
    intro T19 h19 v19 L19 X19 e19 SI19 hZ19 hown19 Y19 q19
    obtain ⟨B_19, E_19, q_19, u_19, ku_19, c2_19, n2_19, us_19, rfl, M19, J19, r19_0, r19_1, r19_2, r19_3, r19_4, r19_5⟩ := q19
    have N19 := Fr.app N17 M19
    have R19 := Y19
    have C19 := C17.trans R19
    have K19 : Keep h0 h19 [] := K17.trans J19 all0
    have O19 : own_Old Z h19 := O17.keep J19 all0
    show G (T19.setTop (mkF m 119 #[.val (.int i0), .val (.int i1), .val (.int i2), .val (.int i3), .val (.int i4), .val (.int 0), .val (.ref b2), .val (.ref b15), .unset, .unset, .unset, .unset, .unset, .unset, .unset, .unset] [(.ref q_19)]))
    refine hG _ _ (fun t_ k_ => XS.astore X19.here hx rfl (hb hby at_119) rfl rfl (l' := #[.val (.int i0), .val (.int i1), .val (.int i2), .val (.int i3), .val (.int i4), .val (.int 0), .val (.ref b2), .val (.ref b15), .val (.ref q_19), .unset, .unset, .unset, .unset, .unset, .unset, .unset]) rfl k_) ?_
    refine hG _ _ (fun t_ k_ => XS.aload X19.here hx rfl (hb hby at_121) rfl rfl k_) ?_
    refine hG _ _ (fun t_ k_ => XS.iload X19.here hx rfl (hb hby at_123) rfl k_) ?_
    refine hG _ _ (fun t_ k_ => XS.iconst X19.here hx rfl (hb hby at_125) k_) ?_
    show G (T19.setTop (mkF m 126 #[.val (.int i0), .val (.int i1), .val (.int i2), .val (.int i3), .val (.int i4), .val (.int 0), .val (.ref b2), .val (.ref b15), .val (.ref q_19), .unset, .unset, .unset, .unset, .unset, .unset, .unset] [(.int 0), (.int 0), (.ref b2)]))
    have f21 := ((((V13.ext E15).ext E16).keep J17 (ninS (own_ne (Nat.lt_of_lt_of_le V13.lt E15.1) (Nat.le_of_eq z16.symm)) nin0)).keep J19 nin0)
    refine own_callS X19 hx hZ19 hG hown19 (ow hw 56 rfl) (ow hw 57 rfl) (ow hw 3 rfl) (ow hw 58 rfl) (by decide) 0 (own_sol0 l Z a0 hw b2 (0 : Int32) k2 r_3 r_6 r_9 r_12 h19 O19 f21) (by decide) (by decide) e19 (by rw [hml]; rfl) (lenOf own_pd29 rfl) (argsL := [(.ref b2), (.int 0), (.int 0)]) (rest := []) rfl rfl (Nat.le_of_eq rfl) (hb hby at_126) (by decide) (by decide) ?_
    intro T20 h20 v20 L20 X20 e20 q20
    obtain ⟨r_20, rfl, M20, rfl, r20_0⟩ := q20
    have N20 := Fr.app N19 M20
    show G (T20.setTop (mkF m 129 #[.val (.int i0), .val (.int i1), .val (.int i2), .val (.int i3), .val (.int i4), .val (.int 0), .val (.ref b2), .val (.ref b15), .val (.ref q_19), .unset, .unset, .unset, .unset, .unset, .unset, .unset] [(.int r_20)]))
    have so0_22 := own_solc (cs := ([] : List Int32)) (k := 0) r20_0 rfl rfl (by decide) (Nat.le_of_ble_eq_true rfl) (fun q => absurd q (Nat.not_lt.mpr (Nat.le_of_ble_eq_true rfl)))
    refine hG _ _ (fun t_ k_ => XS.istore X20.here hx rfl (hb hby at_129) rfl (l' := #[.val (.int i0), .val (.int i1), .val (.int i2), .val (.int i3), .val (.int i4), .val (.int 0), .val (.ref b2), .val (.ref b15), .val (.ref q_19), .val (.int r_20), .unset, .unset, .unset, .unset, .unset, .unset]) rfl k_) ?_
    refine hG _ _ (fun t_ k_ => XS.aload X20.here hx rfl (hb hby at_131) rfl rfl k_) ?_
    refine hG _ _ (fun t_ k_ => XS.iload X20.here hx rfl (hb hby at_133) rfl k_) ?_
    refine hG _ _ (fun t_ k_ => XS.iconst X20.here hx rfl (hb hby at_135) k_) ?_
    show G (T20.setTop (mkF m 136 #[.val (.int i0), .val (.int i1), .val (.int i2), .val (.int i3), .val (.int i4), .val (.int 0), .val (.ref b2), .val (.ref b15), .val (.ref q_19), .val (.int r_20), .unset, .unset, .unset, .unset, .unset, .unset] [(.int 1), (.int 0), (.ref b2)]))
    refine own_callS X20 hx hZ19 hG hown19 (ow hw 56 rfl) (ow hw 57 rfl) (ow hw 3 rfl) (ow hw 58 rfl) (by decide) 0 (own_sol1 l Z a0 hw b2 (0 : Int32) k2 r_3 r_6 r_9 r_12 h19 O19 f21) (by decide) (by decide) e20 (by rw [hml]; rfl) (lenOf own_pd29 rfl) (argsL := [(.ref b2), (.int 0), (.int 1)]) (rest := []) rfl rfl (Nat.le_of_eq rfl) (hb hby at_136) (by decide) (by decide) ?_
    intro T23 h23 v23 L23 X23 e23 q23
    obtain ⟨r_23, rfl, M23, rfl, r23_0⟩ := q23
    have N23 := Fr.app N20 M23
    show G (T23.setTop (mkF m 139 #[.val (.int i0), .val (.int i1), .val (.int i2), .val (.int i3), .val (.int i4), .val (.int 0), .val (.ref b2), .val (.ref b15), .val (.ref q_19), .val (.int r_20), .unset, .unset, .unset, .unset, .unset, .unset] [(.int r_23)]))
    have so1_24 := own_solc (cs := ([] : List Int32)) (k := 1) r23_0 rfl rfl (by decide) (Nat.le_of_ble_eq_true rfl) (fun q => absurd q (Nat.not_lt.mpr (Nat.le_of_ble_eq_true rfl)))
    refine hG _ _ (fun t_ k_ => XS.istore X23.here hx rfl (hb hby at_139) rfl (l' := #[.val (.int i0), .val (.int i1), .val (.int i2), .val (.int i3), .val (.int i4), .val (.int 0), .val (.ref b2), .val (.ref b15), .val (.ref q_19), .val (.int r_20), .val (.int r_23), .unset, .unset, .unset, .unset, .unset]) rfl k_) ?_
    refine hG _ _ (fun t_ k_ => XS.aload X23.here hx rfl (hb hby at_141) rfl rfl k_) ?_
    refine hG _ _ (fun t_ k_ => XS.iload X23.here hx rfl (hb hby at_143) rfl k_) ?_
    refine hG _ _ (fun t_ k_ => XS.iconst X23.here hx rfl (hb hby at_145) k_) ?_
    show G (T23.setTop (mkF m 146 #[.val (.int i0), .val (.int i1), .val (.int i2), .val (.int i3), .val (.int i4), .val (.int 0), .val (.ref b2), .val (.ref b15), .val (.ref q_19), .val (.int r_20), .val (.int r_23), .unset, .unset, .unset, .unset, .unset] [(.int 2), (.int 0), (.ref b2)]))
    refine own_callS X23 hx hZ19 hG hown19 (ow hw 56 rfl) (ow hw 57 rfl) (ow hw 3 rfl) (ow hw 58 rfl) (by decide) 0 (own_sol2 l Z a0 hw b2 (0 : Int32) k2 r_3 r_6 r_9 r_12 h19 O19 f21) (by decide) (by decide) e23 (by rw [hml]; rfl) (lenOf own_pd29 rfl) (argsL := [(.ref b2), (.int 0), (.int 2)]) (rest := []) rfl rfl (Nat.le_of_eq rfl) (hb hby at_146) (by decide) (by decide) ?_
    intro T25 h25 v25 L25 X25 e25 q25
    obtain ⟨r_25, rfl, M25, rfl, r25_0⟩ := q25
    have N25 := Fr.app N23 M25
    show G (T25.setTop (mkF m 149 #[.val (.int i0), .val (.int i1), .val (.int i2), .val (.int i3), .val (.int i4), .val (.int 0), .val (.ref b2), .val (.ref b15), .val (.ref q_19), .val (.int r_20), .val (.int r_23), .unset, .unset, .unset, .unset, .unset] [(.int r_25)]))
    have so2_26 := own_solc (cs := ([] : List Int32)) (k := 2) r25_0 rfl rfl (by decide) (Nat.le_of_ble_eq_true rfl) (fun q => absurd q (Nat.not_lt.mpr (Nat.le_of_ble_eq_true rfl)))
    refine hG _ _ (fun t_ k_ => XS.istore X25.here hx rfl (hb hby at_149) rfl (l' := #[.val (.int i0), .val (.int i1), .val (.int i2), .val (.int i3), .val (.int i4), .val (.int 0), .val (.ref b2), .val (.ref b15), .val (.ref q_19), .val (.int r_20), .val (.int r_23), .val (.int r_25), .unset, .unset, .unset, .unset]) rfl k_) ?_
    refine hG _ _ (fun t_ k_ => XS.aload X25.here hx rfl (hb hby at_151) rfl rfl k_) ?_
    refine hG _ _ (fun t_ k_ => XS.iload X25.here hx rfl (hb hby at_153) rfl k_) ?_
    refine hG _ _ (fun t_ k_ => XS.iconst X25.here hx rfl (hb hby at_155) k_) ?_
    show G (T25.setTop (mkF m 156 #[.val (.int i0), .val (.int i1), .val (.int i2), .val (.int i3), .val (.int i4), .val (.int 0), .val (.ref b2), .val (.ref b15), .val (.ref q_19), .val (.int r_20), .val (.int r_23), .val (.int r_25), .unset, .unset, .unset, .unset] [(.int 3), (.int 0), (.ref b2)]))
    refine own_callS X25 hx hZ19 hG hown19 (ow hw 56 rfl) (ow hw 57 rfl) (ow hw 3 rfl) (ow hw 58 rfl) (by decide) 0 (own_sol3 l Z a0 hw b2 (0 : Int32) k2 r_3 r_6 r_9 r_12 h19 O19 f21) (by decide) (by decide) e25 (by rw [hml]; rfl) (lenOf own_pd29 rfl) (argsL := [(.ref b2), (.int 0), (.int 3)]) (rest := []) rfl rfl (Nat.le_of_eq rfl) (hb hby at_156) (by decide) (by decide) ?_
    intro T27 h27 v27 L27 X27 e27 q27
    obtain ⟨r_27, rfl, M27, rfl, r27_0⟩ := q27
    have N27 := Fr.app N25 M27
    show G (T27.setTop (mkF m 159 #[.val (.int i0), .val (.int i1), .val (.int i2), .val (.int i3), .val (.int i4), .val (.int 0), .val (.ref b2), .val (.ref b15), .val (.ref q_19), .val (.int r_20), .val (.int r_23), .val (.int r_25), .unset, .unset, .unset, .unset] [(.int r_27)]))
    have so3_28 := own_solc (cs := ([] : List Int32)) (k := 3) r27_0 rfl rfl (by decide) (Nat.le_of_ble_eq_true rfl) (fun q => absurd q (Nat.not_lt.mpr (Nat.le_of_ble_eq_true rfl)))
    refine hG _ _ (fun t_ k_ => XS.istore X27.here hx rfl (hb hby at_159) rfl (l' := #[.val (.int i0), .val (.int i1), .val (.int i2), .val (.int i3), .val (.int i4), .val (.int 0), .val (.ref b2), .val (.ref b15), .val (.ref q_19), .val (.int r_20), .val (.int r_23), .val (.int r_25), .val (.int r_27), .unset, .unset, .unset]) rfl k_) ?_
    show G (T27.setTop (mkF m 161 #[.val (.int i0), .val (.int i1), .val (.int i2), .val (.int i3), .val (.int i4), .val (.int 0), .val (.ref b2), .val (.ref b15), .val (.ref q_19), .val (.int r_20), .val (.int r_23), .val (.int r_25), .val (.int r_27), .unset, .unset, .unset] []))
    have jf : ∀ (f : Int32), (f = Int32.ofNat B_19) → G (T27.setTop (mkF m 199 #[.val (.int i0), .val (.int i1), .val (.int i2), .val (.int i3), .val (.int i4), .val (.int 0), .val (.ref b2), .val (.ref b15), .val (.ref q_19), .val (.int r_20), .val (.int r_23), .val (.int r_25), .val (.int r_27), .unset, .unset, .unset] [(.int f)])) := by
      intro f hf
      subst hf
      show G (T27.setTop (mkF m 199 #[.val (.int i0), .val (.int i1), .val (.int i2), .val (.int i3), .val (.int i4), .val (.int 0), .val (.ref b2), .val (.ref b15), .val (.ref q_19), .val (.int r_20), .val (.int r_23), .val (.int r_25), .val (.int r_27), .unset, .unset, .unset] [(.int (Int32.ofNat B_19))]))
      refine hG _ _ (fun t_ k_ => XS.istore X27.here hx rfl (hb hby at_199) rfl (l' := #[.val (.int i0), .val (.int i1), .val (.int i2), .val (.int i3), .val (.int i4), .val (.int 0), .val (.ref b2), .val (.ref b15), .val (.ref q_19), .val (.int r_20), .val (.int r_23), .val (.int r_25), .val (.int r_27), .val (.int (Int32.ofNat B_19)), .unset, .unset]) rfl k_) ?_
      show G (T27.setTop (mkF m 201 #[.val (.int i0), .val (.int i1), .val (.int i2), .val (.int i3), .val (.int i4), .val (.int 0), .val (.ref b2), .val (.ref b15), .val (.ref q_19), .val (.int r_20), .val (.int r_23), .val (.int r_25), .val (.int r_27), .val (.int (Int32.ofNat B_19)), .unset, .unset] []))
      have jl : ∀ (f2 : Int32), (f2 = Int32.ofNat E_19) → G (T27.setTop (mkF m 239 #[.val (.int i0), .val (.int i1), .val (.int i2), .val (.int i3), .val (.int i4), .val (.int 0), .val (.ref b2), .val (.ref b15), .val (.ref q_19), .val (.int r_20), .val (.int r_23), .val (.int r_25), .val (.int r_27), .val (.int (Int32.ofNat B_19)), .unset, .unset] [(.int f2)])) := by
        intro f2 hf2
        subst hf2
        show G (T27.setTop (mkF m 239 #[.val (.int i0), .val (.int i1), .val (.int i2), .val (.int i3), .val (.int i4), .val (.int 0), .val (.ref b2), .val (.ref b15), .val (.ref q_19), .val (.int r_20), .val (.int r_23), .val (.int r_25), .val (.int r_27), .val (.int (Int32.ofNat B_19)), .unset, .unset] [(.int (Int32.ofNat E_19))]))
        refine hG _ _ (fun t_ k_ => XS.istore X27.here hx rfl (hb hby at_239) rfl (l' := #[.val (.int i0), .val (.int i1), .val (.int i2), .val (.int i3), .val (.int i4), .val (.int 0), .val (.ref b2), .val (.ref b15), .val (.ref q_19), .val (.int r_20), .val (.int r_23), .val (.int r_25), .val (.int r_27), .val (.int (Int32.ofNat B_19)), .val (.int (Int32.ofNat E_19)), .unset]) rfl k_) ?_
        refine hG _ _ (fun t_ k_ => XS.iload X27.here hx rfl (hb hby at_241) rfl k_) ?_
        refine hG _ _ (fun t_ k_ => XS.iload X27.here hx rfl (hb hby at_243) rfl k_) ?_
        refine hG _ _ (fun t_ k_ => XS.isub X27.here hx rfl (hb hby at_245) rfl k_) ?_
        show G (T27.setTop (mkF m 246 #[.val (.int i0), .val (.int i1), .val (.int i2), .val (.int i3), .val (.int i4), .val (.int 0), .val (.ref b2), .val (.ref b15), .val (.ref q_19), .val (.int r_20), .val (.int r_23), .val (.int r_25), .val (.int r_27), .val (.int (Int32.ofNat B_19)), .val (.int (Int32.ofNat E_19)), .unset] [(.int ((Int32.ofNat E_19) - (Int32.ofNat B_19)))]))
        rw [show Int32.ofNat E_19 - Int32.ofNat B_19 = Int32.ofNat (E_19 - B_19) from own_subN r19_5.1]
        have hfs := own_from_sub ([] : List Int32) r19_5.1 r19_5.2.1
        show G (T27.setTop (mkF m 246 #[.val (.int i0), .val (.int i1), .val (.int i2), .val (.int i3), .val (.int i4), .val (.int 0), .val (.ref b2), .val (.ref b15), .val (.ref q_19), .val (.int r_20), .val (.int r_23), .val (.int r_25), .val (.int r_27), .val (.int (Int32.ofNat B_19)), .val (.int (Int32.ofNat E_19)), .unset] [(.int (Int32.ofNat (E_19 - B_19)))]))
        refine hG _ _ (fun t_ k_ => XS.istore X27.here hx rfl (hb hby at_246) rfl (l' := #[.val (.int i0), .val (.int i1), .val (.int i2), .val (.int i3), .val (.int i4), .val (.int 0), .val (.ref b2), .val (.ref b15), .val (.ref q_19), .val (.int r_20), .val (.int r_23), .val (.int r_25), .val (.int r_27), .val (.int (Int32.ofNat B_19)), .val (.int (Int32.ofNat E_19)), .val (.int (Int32.ofNat (E_19 - B_19)))]) rfl k_) ?_
        refine hG _ _ (fun t_ k_ => XS.aload X27.here hx rfl (hb hby at_248) rfl rfl k_) ?_
        show G (T27.setTop (mkF m 250 #[.val (.int i0), .val (.int i1), .val (.int i2), .val (.int i3), .val (.int i4), .val (.int 0), .val (.ref b2), .val (.ref b15), .val (.ref q_19), .val (.int r_20), .val (.int r_23), .val (.int r_25), .val (.int r_27), .val (.int (Int32.ofNat B_19)), .val (.int (Int32.ofNat E_19)), .val (.int (Int32.ofNat (E_19 - B_19)))] [(.ref q_19)]))
        refine hG _ _ (fun t_ k_ => XS.ifnullNo X27.here hx rfl (hb hby at_250) rfl k_) ?_
        show G (T27.setTop (mkF m 253 #[.val (.int i0), .val (.int i1), .val (.int i2), .val (.int i3), .val (.int i4), .val (.int 0), .val (.ref b2), .val (.ref b15), .val (.ref q_19), .val (.int r_20), .val (.int r_23), .val (.int r_25), .val (.int r_27), .val (.int (Int32.ofNat B_19)), .val (.int (Int32.ofNat E_19)), .val (.int (Int32.ofNat (E_19 - B_19)))] []))
        refine hG _ _ (fun t_ k_ => XS.aload X27.here hx rfl (hb hby at_253) rfl rfl k_) ?_
        show G (T27.setTop (mkF m 255 #[.val (.int i0), .val (.int i1), .val (.int i2), .val (.int i3), .val (.int i4), .val (.int 0), .val (.ref b2), .val (.ref b15), .val (.ref q_19), .val (.int r_20), .val (.int r_23), .val (.int r_25), .val (.int r_27), .val (.int (Int32.ofNat B_19)), .val (.int (Int32.ofNat E_19)), .val (.int (Int32.ofNat (E_19 - B_19)))] [(.ref q_19)]))
        refine own_callV (C := "java/lang/String") X27 hx hZ19 hG hown19 (ow hw 59 rfl) (ow hw 32 rfl) (ow hw 34 rfl) (ow hw 33 rfl) (ow hw 8 rfl) (ow hw 35 rfl) (by decide) 0 (own_len l Z a0 hw q_19 u_19 ku_19 ((([] : List Int32).drop B_19).take (E_19 - B_19)) c2_19 n2_19 us_19 cpt h19 O19 r19_0 r19_1 r19_2 r19_3 r19_4 (by rw [hfs.1]; have := r19_5.2.1; have q4 : ([] : List Int32).length ≤ 4 := Nat.le_of_ble_eq_true rfl; omega) (own_from_rng hfs.2 own_alln) g0_S g1_hcpt) (by decide) (by decide) e27 r19_0 (by rw [hml]; rfl) (lenOf own_pd11 rfl) (argsL := []) (rest := []) rfl rfl (Nat.le_of_eq rfl) (hb hby at_255) (by decide) (by decide) ?_
        intro T29 h29 v29 L29 X29 e29 q29
        obtain ⟨rfl, M29, rfl⟩ := q29
        have N29 := Fr.app N27 M29
        show G (T29.setTop (mkF m 258 #[.val (.int i0), .val (.int i1), .val (.int i2), .val (.int i3), .val (.int i4), .val (.int 0), .val (.ref b2), .val (.ref b15), .val (.ref q_19), .val (.int r_20), .val (.int r_23), .val (.int r_25), .val (.int r_27), .val (.int (Int32.ofNat B_19)), .val (.int (Int32.ofNat E_19)), .val (.int (Int32.ofNat (E_19 - B_19)))] [(.int (Int32.ofNat ((([] : List Int32).drop B_19).take (E_19 - B_19)).length))]))
        refine hG _ _ (fun t_ k_ => XS.iload X29.here hx rfl (hb hby at_258) rfl k_) ?_
        show G (T29.setTop (mkF m 260 #[.val (.int i0), .val (.int i1), .val (.int i2), .val (.int i3), .val (.int i4), .val (.int 0), .val (.ref b2), .val (.ref b15), .val (.ref q_19), .val (.int r_20), .val (.int r_23), .val (.int r_25), .val (.int r_27), .val (.int (Int32.ofNat B_19)), .val (.int (Int32.ofNat E_19)), .val (.int (Int32.ofNat (E_19 - B_19)))] [(.int (Int32.ofNat (E_19 - B_19))), (.int (Int32.ofNat ((([] : List Int32).drop B_19).take (E_19 - B_19)).length))]))
        refine hG _ _ (fun t_ k_ => XS.icmpYes X29.here hx rfl (pc0 := 260) (pc' := 265) rfl (hb hby at_260) rfl (teq (congrArg Int32.ofNat hfs.1)).1 (by decide) (by decide) k_) ?_
        show G (T29.setTop (mkF m 265 #[.val (.int i0), .val (.int i1), .val (.int i2), .val (.int i3), .val (.int i4), .val (.int 0), .val (.ref b2), .val (.ref b15), .val (.ref q_19), .val (.int r_20), .val (.int r_23), .val (.int r_25), .val (.int r_27), .val (.int (Int32.ofNat B_19)), .val (.int (Int32.ofNat E_19)), .val (.int (Int32.ofNat (E_19 - B_19)))] []))
        refine hG _ _ (fun t_ k_ => XS.aload X29.here hx rfl (hb hby at_265) rfl rfl k_) ?_
        refine hG _ _ (fun t_ k_ => XS.iload X29.here hx rfl (hb hby at_267) rfl k_) ?_
        refine hG _ _ (fun t_ k_ => XS.aload X29.here hx rfl (hb hby at_269) rfl rfl k_) ?_
        refine hG _ _ (fun t_ k_ => XS.iload X29.here hx rfl (hb hby at_271) rfl k_) ?_
        refine hG _ _ (fun t_ k_ => XS.iconst X29.here hx rfl (hb hby at_273) k_) ?_
        show G (T29.setTop (mkF m 274 #[.val (.int i0), .val (.int i1), .val (.int i2), .val (.int i3), .val (.int i4), .val (.int 0), .val (.ref b2), .val (.ref b15), .val (.ref q_19), .val (.int r_20), .val (.int r_23), .val (.int r_25), .val (.int r_27), .val (.int (Int32.ofNat B_19)), .val (.int (Int32.ofNat E_19)), .val (.int (Int32.ofNat (E_19 - B_19)))] [(.int 0), (.int (Int32.ofNat B_19)), (.ref b2), (.int (Int32.ofNat (E_19 - B_19))), (.ref q_19)]))
        refine own_callS X29 hx hZ19 hG hown19 (ow hw 60 rfl) (ow hw 61 rfl) (ow hw 3 rfl) (ow hw 62 rfl) (by decide) 0 (own_at l Z a0 hw q_19 u_19 ku_19 ((([] : List Int32).drop B_19).take (E_19 - B_19)) c2_19 n2_19 us_19 cpt b2 k2 r_3 r_6 r_9 r_12 B_19 0 (E_19 - B_19) fmt h19 O19 r19_0 r19_1 r19_2 r19_3 r19_4 (by rw [hfs.1]; have := r19_5.2.1; have q4 : ([] : List Int32).length ≤ 4 := Nat.le_of_ble_eq_true rfl; omega) (own_from_rng hfs.2 own_alln) g0_S g1_hcpt g2_S g3_S g4_S f21 hfs.1.symm (own_atc (xs := [r_3, r_6, r_9, r_12]) (m := 0) rfl rfl r19_5.1 r19_5.2.1) (by decide) g5_hfmt g6_S) (by decide) (by decide) e29 (by rw [hml]; rfl) (lenOf own_pd30 rfl) (argsL := [(.ref q_19), (.int (Int32.ofNat (E_19 - B_19))), (.ref b2), (.int (Int32.ofNat B_19)), (.int 0)]) (rest := []) rfl rfl (Nat.le_of_eq rfl) (hb hby at_274) (by decide) (by decide) ?_
        intro T30 h30 v30 L30 X30 e30 q30
        obtain ⟨rfl, M30, rfl⟩ := q30
        have N30 := Fr.app N29 M30
        show G (T30.setTop (mkF m 277 #[.val (.int i0), .val (.int i1), .val (.int i2), .val (.int i3), .val (.int i4), .val (.int 0), .val (.ref b2), .val (.ref b15), .val (.ref q_19), .val (.int r_20), .val (.int r_23), .val (.int r_25), .val (.int r_27), .val (.int (Int32.ofNat B_19)), .val (.int (Int32.ofNat E_19)), .val (.int (Int32.ofNat (E_19 - B_19)))] [(.int 1)]))
        refine hG _ _ (fun t_ k_ => XS.ifNo X30.here hx rfl (hb hby at_277) rfl ((if0 _ _).trans (feq (by decide)).1) k_) ?_
        show G (T30.setTop (mkF m 280 #[.val (.int i0), .val (.int i1), .val (.int i2), .val (.int i3), .val (.int i4), .val (.int 0), .val (.ref b2), .val (.ref b15), .val (.ref q_19), .val (.int r_20), .val (.int r_23), .val (.int r_25), .val (.int r_27), .val (.int (Int32.ofNat B_19)), .val (.int (Int32.ofNat E_19)), .val (.int (Int32.ofNat (E_19 - B_19)))] []))
        refine hG _ _ (fun t_ k_ => XS.aload X30.here hx rfl (hb hby at_280) rfl rfl k_) ?_
        refine hG _ _ (fun t_ k_ => XS.iload X30.here hx rfl (hb hby at_282) rfl k_) ?_
        refine hG _ _ (fun t_ k_ => XS.aload X30.here hx rfl (hb hby at_284) rfl rfl k_) ?_
        refine hG _ _ (fun t_ k_ => XS.iload X30.here hx rfl (hb hby at_286) rfl k_) ?_
        refine hG _ _ (fun t_ k_ => XS.iconst X30.here hx rfl (hb hby at_288) k_) ?_
        show G (T30.setTop (mkF m 289 #[.val (.int i0), .val (.int i1), .val (.int i2), .val (.int i3), .val (.int i4), .val (.int 0), .val (.ref b2), .val (.ref b15), .val (.ref q_19), .val (.int r_20), .val (.int r_23), .val (.int r_25), .val (.int r_27), .val (.int (Int32.ofNat B_19)), .val (.int (Int32.ofNat E_19)), .val (.int (Int32.ofNat (E_19 - B_19)))] [(.int 1), (.int (Int32.ofNat B_19)), (.ref b2), (.int (Int32.ofNat (E_19 - B_19))), (.ref q_19)]))
        refine own_callS X30 hx hZ19 hG hown19 (ow hw 60 rfl) (ow hw 61 rfl) (ow hw 3 rfl) (ow hw 62 rfl) (by decide) 0 (own_at l Z a0 hw q_19 u_19 ku_19 ((([] : List Int32).drop B_19).take (E_19 - B_19)) c2_19 n2_19 us_19 cpt b2 k2 r_3 r_6 r_9 r_12 B_19 1 (E_19 - B_19) fmt h19 O19 r19_0 r19_1 r19_2 r19_3 r19_4 (by rw [hfs.1]; have := r19_5.2.1; have q4 : ([] : List Int32).length ≤ 4 := Nat.le_of_ble_eq_true rfl; omega) (own_from_rng hfs.2 own_alln) g0_S g1_hcpt g2_S g3_S g4_S f21 hfs.1.symm (own_atc (xs := [r_3, r_6, r_9, r_12]) (m := 0) rfl rfl r19_5.1 r19_5.2.1) (by decide) g5_hfmt g6_S) (by decide) (by decide) e30 (by rw [hml]; rfl) (lenOf own_pd30 rfl) (argsL := [(.ref q_19), (.int (Int32.ofNat (E_19 - B_19))), (.ref b2), (.int (Int32.ofNat B_19)), (.int 1)]) (rest := []) rfl rfl (Nat.le_of_eq rfl) (hb hby at_289) (by decide) (by decide) ?_
        intro T31 h31 v31 L31 X31 e31 q31
        obtain ⟨rfl, M31, rfl⟩ := q31
        have N31 := Fr.app N30 M31
        show G (T31.setTop (mkF m 292 #[.val (.int i0), .val (.int i1), .val (.int i2), .val (.int i3), .val (.int i4), .val (.int 0), .val (.ref b2), .val (.ref b15), .val (.ref q_19), .val (.int r_20), .val (.int r_23), .val (.int r_25), .val (.int r_27), .val (.int (Int32.ofNat B_19)), .val (.int (Int32.ofNat E_19)), .val (.int (Int32.ofNat (E_19 - B_19)))] [(.int 1)]))
        refine hG _ _ (fun t_ k_ => XS.ifNo X31.here hx rfl (hb hby at_292) rfl ((if0 _ _).trans (feq (by decide)).1) k_) ?_
        show G (T31.setTop (mkF m 295 #[.val (.int i0), .val (.int i1), .val (.int i2), .val (.int i3), .val (.int i4), .val (.int 0), .val (.ref b2), .val (.ref b15), .val (.ref q_19), .val (.int r_20), .val (.int r_23), .val (.int r_25), .val (.int r_27), .val (.int (Int32.ofNat B_19)), .val (.int (Int32.ofNat E_19)), .val (.int (Int32.ofNat (E_19 - B_19)))] []))
        refine hG _ _ (fun t_ k_ => XS.aload X31.here hx rfl (hb hby at_295) rfl rfl k_) ?_
        refine hG _ _ (fun t_ k_ => XS.iload X31.here hx rfl (hb hby at_297) rfl k_) ?_
        refine hG _ _ (fun t_ k_ => XS.aload X31.here hx rfl (hb hby at_299) rfl rfl k_) ?_
        refine hG _ _ (fun t_ k_ => XS.iload X31.here hx rfl (hb hby at_301) rfl k_) ?_
        refine hG _ _ (fun t_ k_ => XS.iconst X31.here hx rfl (hb hby at_303) k_) ?_
        show G (T31.setTop (mkF m 304 #[.val (.int i0), .val (.int i1), .val (.int i2), .val (.int i3), .val (.int i4), .val (.int 0), .val (.ref b2), .val (.ref b15), .val (.ref q_19), .val (.int r_20), .val (.int r_23), .val (.int r_25), .val (.int r_27), .val (.int (Int32.ofNat B_19)), .val (.int (Int32.ofNat E_19)), .val (.int (Int32.ofNat (E_19 - B_19)))] [(.int 2), (.int (Int32.ofNat B_19)), (.ref b2), (.int (Int32.ofNat (E_19 - B_19))), (.ref q_19)]))
        refine own_callS X31 hx hZ19 hG hown19 (ow hw 60 rfl) (ow hw 61 rfl) (ow hw 3 rfl) (ow hw 62 rfl) (by decide) 0 (own_at l Z a0 hw q_19 u_19 ku_19 ((([] : List Int32).drop B_19).take (E_19 - B_19)) c2_19 n2_19 us_19 cpt b2 k2 r_3 r_6 r_9 r_12 B_19 2 (E_19 - B_19) fmt h19 O19 r19_0 r19_1 r19_2 r19_3 r19_4 (by rw [hfs.1]; have := r19_5.2.1; have q4 : ([] : List Int32).length ≤ 4 := Nat.le_of_ble_eq_true rfl; omega) (own_from_rng hfs.2 own_alln) g0_S g1_hcpt g2_S g3_S g4_S f21 hfs.1.symm (own_atc (xs := [r_3, r_6, r_9, r_12]) (m := 0) rfl rfl r19_5.1 r19_5.2.1) (by decide) g5_hfmt g6_S) (by decide) (by decide) e31 (by rw [hml]; rfl) (lenOf own_pd30 rfl) (argsL := [(.ref q_19), (.int (Int32.ofNat (E_19 - B_19))), (.ref b2), (.int (Int32.ofNat B_19)), (.int 2)]) (rest := []) rfl rfl (Nat.le_of_eq rfl) (hb hby at_304) (by decide) (by decide) ?_
        intro T32 h32 v32 L32 X32 e32 q32
        obtain ⟨rfl, M32, rfl⟩ := q32
        have N32 := Fr.app N31 M32
        show G (T32.setTop (mkF m 307 #[.val (.int i0), .val (.int i1), .val (.int i2), .val (.int i3), .val (.int i4), .val (.int 0), .val (.ref b2), .val (.ref b15), .val (.ref q_19), .val (.int r_20), .val (.int r_23), .val (.int r_25), .val (.int r_27), .val (.int (Int32.ofNat B_19)), .val (.int (Int32.ofNat E_19)), .val (.int (Int32.ofNat (E_19 - B_19)))] [(.int 1)]))
        refine hG _ _ (fun t_ k_ => XS.ifNo X32.here hx rfl (hb hby at_307) rfl ((if0 _ _).trans (feq (by decide)).1) k_) ?_
        show G (T32.setTop (mkF m 310 #[.val (.int i0), .val (.int i1), .val (.int i2), .val (.int i3), .val (.int i4), .val (.int 0), .val (.ref b2), .val (.ref b15), .val (.ref q_19), .val (.int r_20), .val (.int r_23), .val (.int r_25), .val (.int r_27), .val (.int (Int32.ofNat B_19)), .val (.int (Int32.ofNat E_19)), .val (.int (Int32.ofNat (E_19 - B_19)))] []))
        refine hG _ _ (fun t_ k_ => XS.aload X32.here hx rfl (hb hby at_310) rfl rfl k_) ?_
        refine hG _ _ (fun t_ k_ => XS.iload X32.here hx rfl (hb hby at_312) rfl k_) ?_
        refine hG _ _ (fun t_ k_ => XS.aload X32.here hx rfl (hb hby at_314) rfl rfl k_) ?_
        refine hG _ _ (fun t_ k_ => XS.iload X32.here hx rfl (hb hby at_316) rfl k_) ?_
        refine hG _ _ (fun t_ k_ => XS.iconst X32.here hx rfl (hb hby at_318) k_) ?_
        show G (T32.setTop (mkF m 319 #[.val (.int i0), .val (.int i1), .val (.int i2), .val (.int i3), .val (.int i4), .val (.int 0), .val (.ref b2), .val (.ref b15), .val (.ref q_19), .val (.int r_20), .val (.int r_23), .val (.int r_25), .val (.int r_27), .val (.int (Int32.ofNat B_19)), .val (.int (Int32.ofNat E_19)), .val (.int (Int32.ofNat (E_19 - B_19)))] [(.int 3), (.int (Int32.ofNat B_19)), (.ref b2), (.int (Int32.ofNat (E_19 - B_19))), (.ref q_19)]))
        refine own_callS X32 hx hZ19 hG hown19 (ow hw 60 rfl) (ow hw 61 rfl) (ow hw 3 rfl) (ow hw 62 rfl) (by decide) 0 (own_at l Z a0 hw q_19 u_19 ku_19 ((([] : List Int32).drop B_19).take (E_19 - B_19)) c2_19 n2_19 us_19 cpt b2 k2 r_3 r_6 r_9 r_12 B_19 3 (E_19 - B_19) fmt h19 O19 r19_0 r19_1 r19_2 r19_3 r19_4 (by rw [hfs.1]; have := r19_5.2.1; have q4 : ([] : List Int32).length ≤ 4 := Nat.le_of_ble_eq_true rfl; omega) (own_from_rng hfs.2 own_alln) g0_S g1_hcpt g2_S g3_S g4_S f21 hfs.1.symm (own_atc (xs := [r_3, r_6, r_9, r_12]) (m := 0) rfl rfl r19_5.1 r19_5.2.1) (by decide) g5_hfmt g6_S) (by decide) (by decide) e32 (by rw [hml]; rfl) (lenOf own_pd30 rfl) (argsL := [(.ref q_19), (.int (Int32.ofNat (E_19 - B_19))), (.ref b2), (.int (Int32.ofNat B_19)), (.int 3)]) (rest := []) rfl rfl (Nat.le_of_eq rfl) (hb hby at_319) (by decide) (by decide) ?_
        intro T33 h33 v33 L33 X33 e33 q33
        obtain ⟨rfl, M33, rfl⟩ := q33
        have N33 := Fr.app N32 M33
        show G (T33.setTop (mkF m 322 #[.val (.int i0), .val (.int i1), .val (.int i2), .val (.int i3), .val (.int i4), .val (.int 0), .val (.ref b2), .val (.ref b15), .val (.ref q_19), .val (.int r_20), .val (.int r_23), .val (.int r_25), .val (.int r_27), .val (.int (Int32.ofNat B_19)), .val (.int (Int32.ofNat E_19)), .val (.int (Int32.ofNat (E_19 - B_19)))] [(.int 1)]))
        refine hG _ _ (fun t_ k_ => XS.ifNo X33.here hx rfl (hb hby at_322) rfl ((if0 _ _).trans (feq (by decide)).1) k_) ?_
        show G (T33.setTop (mkF m 325 #[.val (.int i0), .val (.int i1), .val (.int i2), .val (.int i3), .val (.int i4), .val (.int 0), .val (.ref b2), .val (.ref b15), .val (.ref q_19), .val (.int r_20), .val (.int r_23), .val (.int r_25), .val (.int r_27), .val (.int (Int32.ofNat B_19)), .val (.int (Int32.ofNat E_19)), .val (.int (Int32.ofNat (E_19 - B_19)))] []))
        refine hG _ _ (fun t_ k_ => XS.iconst X33.here hx rfl (hb hby at_325) k_) ?_
        refine hG _ _ (fun t_ k_ => XS.goto X33.here hx rfl (pc0 := 326) (pc' := 330) rfl (hb hby at_326) (by decide) (by decide) k_) ?_
        show G (T33.setTop (mkF m 330 #[.val (.int i0), .val (.int i1), .val (.int i2), .val (.int i3), .val (.int i4), .val (.int 0), .val (.ref b2), .val (.ref b15), .val (.ref q_19), .val (.int r_20), .val (.int r_23), .val (.int r_25), .val (.int r_27), .val (.int (Int32.ofNat B_19)), .val (.int (Int32.ofNat E_19)), .val (.int (Int32.ofNat (E_19 - B_19)))] [(.int 1)]))
        exact own_retNW hR hret (by simp) X33 hx (hb hby at_330) e33 SI19 (Nat.le_refl _) hZ19 C19 (by decide) (by decide) ⟨rfl, N33, K19⟩
      show G (T27.setTop (mkF m 201 #[.val (.int i0), .val (.int i1), .val (.int i2), .val (.int i3), .val (.int i4), .val (.int 0), .val (.ref b2), .val (.ref b15), .val (.ref q_19), .val (.int r_20), .val (.int r_23), .val (.int r_25), .val (.int r_27), .val (.int (Int32.ofNat B_19)), .unset, .unset] []))
      refine hG _ _ (fun t_ k_ => XS.iload X27.here hx rfl (hb hby at_201) rfl k_) ?_
      show G (T27.setTop (mkF m 203 #[.val (.int i0), .val (.int i1), .val (.int i2), .val (.int i3), .val (.int i4), .val (.int 0), .val (.ref b2), .val (.ref b15), .val (.ref q_19), .val (.int r_20), .val (.int r_23), .val (.int r_25), .val (.int r_27), .val (.int (Int32.ofNat B_19)), .unset, .unset] [(.int r_27)]))
      by_cases hc203_34 : r_27 = (0 : Int32)
      · skip
        refine hG _ _ (fun t_ k_ => XS.ifYes X27.here hx rfl (pc0 := 203) (pc' := 210) rfl (hb hby at_203) rfl ((if0 _ _).trans (teq hc203_34).1) (by decide) (by decide) k_) ?_
        show G (T27.setTop (mkF m 210 #[.val (.int i0), .val (.int i1), .val (.int i2), .val (.int i3), .val (.int i4), .val (.int 0), .val (.ref b2), .val (.ref b15), .val (.ref q_19), .val (.int r_20), .val (.int r_23), .val (.int r_25), .val (.int r_27), .val (.int (Int32.ofNat B_19)), .unset, .unset] []))
        refine hG _ _ (fun t_ k_ => XS.iload X27.here hx rfl (hb hby at_210) rfl k_) ?_
        show G (T27.setTop (mkF m 212 #[.val (.int i0), .val (.int i1), .val (.int i2), .val (.int i3), .val (.int i4), .val (.int 0), .val (.ref b2), .val (.ref b15), .val (.ref q_19), .val (.int r_20), .val (.int r_23), .val (.int r_25), .val (.int r_27), .val (.int (Int32.ofNat B_19)), .unset, .unset] [(.int r_25)]))
        by_cases hc212_35 : r_25 = (0 : Int32)
        · skip
          refine hG _ _ (fun t_ k_ => XS.ifYes X27.here hx rfl (pc0 := 212) (pc' := 219) rfl (hb hby at_212) rfl ((if0 _ _).trans (teq hc212_35).1) (by decide) (by decide) k_) ?_
          show G (T27.setTop (mkF m 219 #[.val (.int i0), .val (.int i1), .val (.int i2), .val (.int i3), .val (.int i4), .val (.int 0), .val (.ref b2), .val (.ref b15), .val (.ref q_19), .val (.int r_20), .val (.int r_23), .val (.int r_25), .val (.int r_27), .val (.int (Int32.ofNat B_19)), .unset, .unset] []))
          refine hG _ _ (fun t_ k_ => XS.iload X27.here hx rfl (hb hby at_219) rfl k_) ?_
          show G (T27.setTop (mkF m 221 #[.val (.int i0), .val (.int i1), .val (.int i2), .val (.int i3), .val (.int i4), .val (.int 0), .val (.ref b2), .val (.ref b15), .val (.ref q_19), .val (.int r_20), .val (.int r_23), .val (.int r_25), .val (.int r_27), .val (.int (Int32.ofNat B_19)), .unset, .unset] [(.int r_23)]))
          by_cases hc221_36 : r_23 = (0 : Int32)
          · skip
            refine hG _ _ (fun t_ k_ => XS.ifYes X27.here hx rfl (pc0 := 221) (pc' := 228) rfl (hb hby at_221) rfl ((if0 _ _).trans (teq hc221_36).1) (by decide) (by decide) k_) ?_
            show G (T27.setTop (mkF m 228 #[.val (.int i0), .val (.int i1), .val (.int i2), .val (.int i3), .val (.int i4), .val (.int 0), .val (.ref b2), .val (.ref b15), .val (.ref q_19), .val (.int r_20), .val (.int r_23), .val (.int r_25), .val (.int r_27), .val (.int (Int32.ofNat B_19)), .unset, .unset] []))
            refine hG _ _ (fun t_ k_ => XS.iload X27.here hx rfl (hb hby at_228) rfl k_) ?_
            show G (T27.setTop (mkF m 230 #[.val (.int i0), .val (.int i1), .val (.int i2), .val (.int i3), .val (.int i4), .val (.int 0), .val (.ref b2), .val (.ref b15), .val (.ref q_19), .val (.int r_20), .val (.int r_23), .val (.int r_25), .val (.int r_27), .val (.int (Int32.ofNat B_19)), .unset, .unset] [(.int r_20)]))
            by_cases hc230_37 : r_20 = (0 : Int32)
            · skip
              refine hG _ _ (fun t_ k_ => XS.ifYes X27.here hx rfl (pc0 := 230) (pc' := 237) rfl (hb hby at_230) rfl ((if0 _ _).trans (teq hc230_37).1) (by decide) (by decide) k_) ?_
              show G (T27.setTop (mkF m 237 #[.val (.int i0), .val (.int i1), .val (.int i2), .val (.int i3), .val (.int i4), .val (.int 0), .val (.ref b2), .val (.ref b15), .val (.ref q_19), .val (.int r_20), .val (.int r_23), .val (.int r_25), .val (.int r_27), .val (.int (Int32.ofNat B_19)), .unset, .unset] []))
              refine hG _ _ (fun t_ k_ => XS.iload X27.here hx rfl (hb hby at_237) rfl k_) ?_
              show G (T27.setTop (mkF m 239 #[.val (.int i0), .val (.int i1), .val (.int i2), .val (.int i3), .val (.int i4), .val (.int 0), .val (.ref b2), .val (.ref b15), .val (.ref q_19), .val (.int r_20), .val (.int r_23), .val (.int r_25), .val (.int r_27), .val (.int (Int32.ofNat B_19)), .unset, .unset] [(.int 0)]))
              exact jl _ (own_litN ((own_none r19_5 (Nat.le_of_ble_eq_true rfl) (own_ltS (own_ltS (own_ltS (own_ltS own_lt0 (own_zer so0_22 hc230_37)) (own_zer so1_24 hc221_36)) (own_zer so2_26 hc212_35)) (own_zer so3_28 hc203_34))).2) rfl)
            · skip
              refine hG _ _ (fun t_ k_ => XS.ifNo X27.here hx rfl (hb hby at_230) rfl ((if0 _ _).trans (feq hc230_37).1) k_) ?_
              show G (T27.setTop (mkF m 233 #[.val (.int i0), .val (.int i1), .val (.int i2), .val (.int i3), .val (.int i4), .val (.int 0), .val (.ref b2), .val (.ref b15), .val (.ref q_19), .val (.int r_20), .val (.int r_23), .val (.int r_25), .val (.int r_27), .val (.int (Int32.ofNat B_19)), .unset, .unset] []))
              refine hG _ _ (fun t_ k_ => XS.iconst X27.here hx rfl (hb hby at_233) k_) ?_
              refine hG _ _ (fun t_ k_ => XS.goto X27.here hx rfl (pc0 := 234) (pc' := 239) rfl (hb hby at_234) (by decide) (by decide) k_) ?_
              show G (T27.setTop (mkF m 239 #[.val (.int i0), .val (.int i1), .val (.int i2), .val (.int i3), .val (.int i4), .val (.int 0), .val (.ref b2), .val (.ref b15), .val (.ref q_19), .val (.int r_20), .val (.int r_23), .val (.int r_25), .val (.int r_27), .val (.int (Int32.ofNat B_19)), .unset, .unset] [(.int 1)]))
              exact jl _ (own_litN (own_lst r19_5 (Nat.le_of_ble_eq_true rfl) (fun j hj hj4 => by rcases (show j = 1 ∨ j = 2 ∨ j = 3 by omega) with rfl | rfl | rfl; exact (own_zer so1_24 hc221_36); exact (own_zer so2_26 hc212_35); exact (own_zer so3_28 hc203_34)) (own_one so0_22 hc230_37)) rfl)
          · skip
            refine hG _ _ (fun t_ k_ => XS.ifNo X27.here hx rfl (hb hby at_221) rfl ((if0 _ _).trans (feq hc221_36).1) k_) ?_
            show G (T27.setTop (mkF m 224 #[.val (.int i0), .val (.int i1), .val (.int i2), .val (.int i3), .val (.int i4), .val (.int 0), .val (.ref b2), .val (.ref b15), .val (.ref q_19), .val (.int r_20), .val (.int r_23), .val (.int r_25), .val (.int r_27), .val (.int (Int32.ofNat B_19)), .unset, .unset] []))
            refine hG _ _ (fun t_ k_ => XS.iconst X27.here hx rfl (hb hby at_224) k_) ?_
            refine hG _ _ (fun t_ k_ => XS.goto X27.here hx rfl (pc0 := 225) (pc' := 239) rfl (hb hby at_225) (by decide) (by decide) k_) ?_
            show G (T27.setTop (mkF m 239 #[.val (.int i0), .val (.int i1), .val (.int i2), .val (.int i3), .val (.int i4), .val (.int 0), .val (.ref b2), .val (.ref b15), .val (.ref q_19), .val (.int r_20), .val (.int r_23), .val (.int r_25), .val (.int r_27), .val (.int (Int32.ofNat B_19)), .unset, .unset] [(.int 2)]))
            exact jl _ (own_litN (own_lst r19_5 (Nat.le_of_ble_eq_true rfl) (fun j hj hj4 => by rcases (show j = 2 ∨ j = 3 by omega) with rfl | rfl; exact (own_zer so2_26 hc212_35); exact (own_zer so3_28 hc203_34)) (own_one so1_24 hc221_36)) rfl)
        · skip
          refine hG _ _ (fun t_ k_ => XS.ifNo X27.here hx rfl (hb hby at_212) rfl ((if0 _ _).trans (feq hc212_35).1) k_) ?_
          show G (T27.setTop (mkF m 215 #[.val (.int i0), .val (.int i1), .val (.int i2), .val (.int i3), .val (.int i4), .val (.int 0), .val (.ref b2), .val (.ref b15), .val (.ref q_19), .val (.int r_20), .val (.int r_23), .val (.int r_25), .val (.int r_27), .val (.int (Int32.ofNat B_19)), .unset, .unset] []))
          refine hG _ _ (fun t_ k_ => XS.iconst X27.here hx rfl (hb hby at_215) k_) ?_
          refine hG _ _ (fun t_ k_ => XS.goto X27.here hx rfl (pc0 := 216) (pc' := 239) rfl (hb hby at_216) (by decide) (by decide) k_) ?_
          show G (T27.setTop (mkF m 239 #[.val (.int i0), .val (.int i1), .val (.int i2), .val (.int i3), .val (.int i4), .val (.int 0), .val (.ref b2), .val (.ref b15), .val (.ref q_19), .val (.int r_20), .val (.int r_23), .val (.int r_25), .val (.int r_27), .val (.int (Int32.ofNat B_19)), .unset, .unset] [(.int 3)]))
          exact jl _ (own_litN (own_lst r19_5 (Nat.le_of_ble_eq_true rfl) (fun j hj hj4 => by rcases (show j = 3 by omega) with rfl; exact (own_zer so3_28 hc203_34)) (own_one so2_26 hc212_35)) rfl)
      · skip
        refine hG _ _ (fun t_ k_ => XS.ifNo X27.here hx rfl (hb hby at_203) rfl ((if0 _ _).trans (feq hc203_34).1) k_) ?_
        show G (T27.setTop (mkF m 206 #[.val (.int i0), .val (.int i1), .val (.int i2), .val (.int i3), .val (.int i4), .val (.int 0), .val (.ref b2), .val (.ref b15), .val (.ref q_19), .val (.int r_20), .val (.int r_23), .val (.int r_25), .val (.int r_27), .val (.int (Int32.ofNat B_19)), .unset, .unset] []))
        refine hG _ _ (fun t_ k_ => XS.iconst X27.here hx rfl (hb hby at_206) k_) ?_
        refine hG _ _ (fun t_ k_ => XS.goto X27.here hx rfl (pc0 := 207) (pc' := 239) rfl (hb hby at_207) (by decide) (by decide) k_) ?_
        show G (T27.setTop (mkF m 239 #[.val (.int i0), .val (.int i1), .val (.int i2), .val (.int i3), .val (.int i4), .val (.int 0), .val (.ref b2), .val (.ref b15), .val (.ref q_19), .val (.int r_20), .val (.int r_23), .val (.int r_25), .val (.int r_27), .val (.int (Int32.ofNat B_19)), .unset, .unset] [(.int 4)]))
        exact jl _ (own_litN (own_lst r19_5 (Nat.le_of_ble_eq_true rfl) (fun j hj hj4 => by omega) (own_one so3_28 hc203_34)) rfl)
    show G (T27.setTop (mkF m 161 #[.val (.int i0), .val (.int i1), .val (.int i2), .val (.int i3), .val (.int i4), .val (.int 0), .val (.ref b2), .val (.ref b15), .val (.ref q_19), .val (.int r_20), .val (.int r_23), .val (.int r_25), .val (.int r_27), .unset, .unset, .unset] []))
    refine hG _ _ (fun t_ k_ => XS.iload X27.here hx rfl (hb hby at_161) rfl k_) ?_
    show G (T27.setTop (mkF m 163 #[.val (.int i0), .val (.int i1), .val (.int i2), .val (.int i3), .val (.int i4), .val (.int 0), .val (.ref b2), .val (.ref b15), .val (.ref q_19), .val (.int r_20), .val (.int r_23), .val (.int r_25), .val (.int r_27), .unset, .unset, .unset] [(.int r_20)]))
    by_cases hc163_38 : r_20 = (0 : Int32)
    · skip
      refine hG _ _ (fun t_ k_ => XS.ifYes X27.here hx rfl (pc0 := 163) (pc' := 170) rfl (hb hby at_163) rfl ((if0 _ _).trans (teq hc163_38).1) (by decide) (by decide) k_) ?_
      show G (T27.setTop (mkF m 170 #[.val (.int i0), .val (.int i1), .val (.int i2), .val (.int i3), .val (.int i4), .val (.int 0), .val (.ref b2), .val (.ref b15), .val (.ref q_19), .val (.int r_20), .val (.int r_23), .val (.int r_25), .val (.int r_27), .unset, .unset, .unset] []))
      refine hG _ _ (fun t_ k_ => XS.iload X27.here hx rfl (hb hby at_170) rfl k_) ?_
      show G (T27.setTop (mkF m 172 #[.val (.int i0), .val (.int i1), .val (.int i2), .val (.int i3), .val (.int i4), .val (.int 0), .val (.ref b2), .val (.ref b15), .val (.ref q_19), .val (.int r_20), .val (.int r_23), .val (.int r_25), .val (.int r_27), .unset, .unset, .unset] [(.int r_23)]))
      by_cases hc172_39 : r_23 = (0 : Int32)
      · skip
        refine hG _ _ (fun t_ k_ => XS.ifYes X27.here hx rfl (pc0 := 172) (pc' := 179) rfl (hb hby at_172) rfl ((if0 _ _).trans (teq hc172_39).1) (by decide) (by decide) k_) ?_
        show G (T27.setTop (mkF m 179 #[.val (.int i0), .val (.int i1), .val (.int i2), .val (.int i3), .val (.int i4), .val (.int 0), .val (.ref b2), .val (.ref b15), .val (.ref q_19), .val (.int r_20), .val (.int r_23), .val (.int r_25), .val (.int r_27), .unset, .unset, .unset] []))
        refine hG _ _ (fun t_ k_ => XS.iload X27.here hx rfl (hb hby at_179) rfl k_) ?_
        show G (T27.setTop (mkF m 181 #[.val (.int i0), .val (.int i1), .val (.int i2), .val (.int i3), .val (.int i4), .val (.int 0), .val (.ref b2), .val (.ref b15), .val (.ref q_19), .val (.int r_20), .val (.int r_23), .val (.int r_25), .val (.int r_27), .unset, .unset, .unset] [(.int r_25)]))
        by_cases hc181_40 : r_25 = (0 : Int32)
        · skip
          refine hG _ _ (fun t_ k_ => XS.ifYes X27.here hx rfl (pc0 := 181) (pc' := 188) rfl (hb hby at_181) rfl ((if0 _ _).trans (teq hc181_40).1) (by decide) (by decide) k_) ?_
          show G (T27.setTop (mkF m 188 #[.val (.int i0), .val (.int i1), .val (.int i2), .val (.int i3), .val (.int i4), .val (.int 0), .val (.ref b2), .val (.ref b15), .val (.ref q_19), .val (.int r_20), .val (.int r_23), .val (.int r_25), .val (.int r_27), .unset, .unset, .unset] []))
          refine hG _ _ (fun t_ k_ => XS.iload X27.here hx rfl (hb hby at_188) rfl k_) ?_
          show G (T27.setTop (mkF m 190 #[.val (.int i0), .val (.int i1), .val (.int i2), .val (.int i3), .val (.int i4), .val (.int 0), .val (.ref b2), .val (.ref b15), .val (.ref q_19), .val (.int r_20), .val (.int r_23), .val (.int r_25), .val (.int r_27), .unset, .unset, .unset] [(.int r_27)]))
          by_cases hc190_41 : r_27 = (0 : Int32)
          · skip
            refine hG _ _ (fun t_ k_ => XS.ifYes X27.here hx rfl (pc0 := 190) (pc' := 197) rfl (hb hby at_190) rfl ((if0 _ _).trans (teq hc190_41).1) (by decide) (by decide) k_) ?_
            show G (T27.setTop (mkF m 197 #[.val (.int i0), .val (.int i1), .val (.int i2), .val (.int i3), .val (.int i4), .val (.int 0), .val (.ref b2), .val (.ref b15), .val (.ref q_19), .val (.int r_20), .val (.int r_23), .val (.int r_25), .val (.int r_27), .unset, .unset, .unset] []))
            refine hG _ _ (fun t_ k_ => XS.iload X27.here hx rfl (hb hby at_197) rfl k_) ?_
            show G (T27.setTop (mkF m 199 #[.val (.int i0), .val (.int i1), .val (.int i2), .val (.int i3), .val (.int i4), .val (.int 0), .val (.ref b2), .val (.ref b15), .val (.ref q_19), .val (.int r_20), .val (.int r_23), .val (.int r_25), .val (.int r_27), .unset, .unset, .unset] [(.int 0)]))
            exact jf _ (own_litN ((own_none r19_5 (Nat.le_of_ble_eq_true rfl) (own_ltS (own_ltS (own_ltS (own_ltS own_lt0 (own_zer so0_22 hc163_38)) (own_zer so1_24 hc172_39)) (own_zer so2_26 hc181_40)) (own_zer so3_28 hc190_41))).1) rfl)
          · skip
            refine hG _ _ (fun t_ k_ => XS.ifNo X27.here hx rfl (hb hby at_190) rfl ((if0 _ _).trans (feq hc190_41).1) k_) ?_
            show G (T27.setTop (mkF m 193 #[.val (.int i0), .val (.int i1), .val (.int i2), .val (.int i3), .val (.int i4), .val (.int 0), .val (.ref b2), .val (.ref b15), .val (.ref q_19), .val (.int r_20), .val (.int r_23), .val (.int r_25), .val (.int r_27), .unset, .unset, .unset] []))
            refine hG _ _ (fun t_ k_ => XS.iconst X27.here hx rfl (hb hby at_193) k_) ?_
            refine hG _ _ (fun t_ k_ => XS.goto X27.here hx rfl (pc0 := 194) (pc' := 199) rfl (hb hby at_194) (by decide) (by decide) k_) ?_
            show G (T27.setTop (mkF m 199 #[.val (.int i0), .val (.int i1), .val (.int i2), .val (.int i3), .val (.int i4), .val (.int 0), .val (.ref b2), .val (.ref b15), .val (.ref q_19), .val (.int r_20), .val (.int r_23), .val (.int r_25), .val (.int r_27), .unset, .unset, .unset] [(.int 3)]))
            exact jf _ (own_litN (own_fst r19_5 (own_ltS (own_ltS (own_ltS own_lt0 (own_zer so0_22 hc163_38)) (own_zer so1_24 hc172_39)) (own_zer so2_26 hc181_40)) (own_one so3_28 hc190_41)) rfl)
        · skip
          refine hG _ _ (fun t_ k_ => XS.ifNo X27.here hx rfl (hb hby at_181) rfl ((if0 _ _).trans (feq hc181_40).1) k_) ?_
          show G (T27.setTop (mkF m 184 #[.val (.int i0), .val (.int i1), .val (.int i2), .val (.int i3), .val (.int i4), .val (.int 0), .val (.ref b2), .val (.ref b15), .val (.ref q_19), .val (.int r_20), .val (.int r_23), .val (.int r_25), .val (.int r_27), .unset, .unset, .unset] []))
          refine hG _ _ (fun t_ k_ => XS.iconst X27.here hx rfl (hb hby at_184) k_) ?_
          refine hG _ _ (fun t_ k_ => XS.goto X27.here hx rfl (pc0 := 185) (pc' := 199) rfl (hb hby at_185) (by decide) (by decide) k_) ?_
          show G (T27.setTop (mkF m 199 #[.val (.int i0), .val (.int i1), .val (.int i2), .val (.int i3), .val (.int i4), .val (.int 0), .val (.ref b2), .val (.ref b15), .val (.ref q_19), .val (.int r_20), .val (.int r_23), .val (.int r_25), .val (.int r_27), .unset, .unset, .unset] [(.int 2)]))
          exact jf _ (own_litN (own_fst r19_5 (own_ltS (own_ltS own_lt0 (own_zer so0_22 hc163_38)) (own_zer so1_24 hc172_39)) (own_one so2_26 hc181_40)) rfl)
      · skip
        refine hG _ _ (fun t_ k_ => XS.ifNo X27.here hx rfl (hb hby at_172) rfl ((if0 _ _).trans (feq hc172_39).1) k_) ?_
        show G (T27.setTop (mkF m 175 #[.val (.int i0), .val (.int i1), .val (.int i2), .val (.int i3), .val (.int i4), .val (.int 0), .val (.ref b2), .val (.ref b15), .val (.ref q_19), .val (.int r_20), .val (.int r_23), .val (.int r_25), .val (.int r_27), .unset, .unset, .unset] []))
        refine hG _ _ (fun t_ k_ => XS.iconst X27.here hx rfl (hb hby at_175) k_) ?_
        refine hG _ _ (fun t_ k_ => XS.goto X27.here hx rfl (pc0 := 176) (pc' := 199) rfl (hb hby at_176) (by decide) (by decide) k_) ?_
        show G (T27.setTop (mkF m 199 #[.val (.int i0), .val (.int i1), .val (.int i2), .val (.int i3), .val (.int i4), .val (.int 0), .val (.ref b2), .val (.ref b15), .val (.ref q_19), .val (.int r_20), .val (.int r_23), .val (.int r_25), .val (.int r_27), .unset, .unset, .unset] [(.int 1)]))
        exact jf _ (own_litN (own_fst r19_5 (own_ltS own_lt0 (own_zer so0_22 hc163_38)) (own_one so1_24 hc172_39)) rfl)
    · skip
      refine hG _ _ (fun t_ k_ => XS.ifNo X27.here hx rfl (hb hby at_163) rfl ((if0 _ _).trans (feq hc163_38).1) k_) ?_
      show G (T27.setTop (mkF m 166 #[.val (.int i0), .val (.int i1), .val (.int i2), .val (.int i3), .val (.int i4), .val (.int 0), .val (.ref b2), .val (.ref b15), .val (.ref q_19), .val (.int r_20), .val (.int r_23), .val (.int r_25), .val (.int r_27), .unset, .unset, .unset] []))
      refine hG _ _ (fun t_ k_ => XS.iconst X27.here hx rfl (hb hby at_166) k_) ?_
      refine hG _ _ (fun t_ k_ => XS.goto X27.here hx rfl (pc0 := 167) (pc' := 199) rfl (hb hby at_167) (by decide) (by decide) k_) ?_
      show G (T27.setTop (mkF m 199 #[.val (.int i0), .val (.int i1), .val (.int i2), .val (.int i3), .val (.int i4), .val (.int 0), .val (.ref b2), .val (.ref b15), .val (.ref q_19), .val (.int r_20), .val (.int r_23), .val (.int r_25), .val (.int r_27), .unset, .unset, .unset] [(.int 0)]))
      exact jf _ (own_litN (own_fst r19_5 own_lt0 (own_one so0_22 hc163_38)) rfl)
  · skip
    show G (T13.setTop (mkF m 46 #[.val (.int i0), .val (.int i1), .val (.int i2), .val (.int i3), .val (.int i4), .val (.int 1), .val (.ref b2), .unset, .unset, .unset, .unset, .unset, .unset, .unset, .unset, .unset] []))
    refine hG _ _ (fun t_ k_ => XS.iload X13.here hx rfl (hb hby at_46) rfl k_) ?_
    show G (T13.setTop (mkF m 48 #[.val (.int i0), .val (.int i1), .val (.int i2), .val (.int i3), .val (.int i4), .val (.int 1), .val (.ref b2), .unset, .unset, .unset, .unset, .unset, .unset, .unset, .unset, .unset] [(.int 1)]))
    obtain ⟨T42, h42, k42, X42, e42, E42, A42, st42⟩ := newP X13 hx hZ (ow hw 0 rfl) e13 (g := (mkF m 48 #[.val (.int i0), .val (.int i1), .val (.int i2), .val (.int i3), .val (.int i4), .val (.int 1), .val (.ref b2), .unset, .unset, .unset, .unset, .unset, .unset, .unset, .unset, .unset] [(.int 1)])) rfl (hb hby at_48) rfl (by decide) (cap := 1) (by decide) (by decide) (by decide) (by decide)
    obtain ⟨b42, z42⟩ : ∃ z, z = h13.size := ⟨_, rfl⟩
    rw [← z42] at A42 st42
    refine hG _ _ st42 ?_
    have R42 := (CHr.ext E42 R13.1)
    have C42 := C13.trans R42
    have K42 : Keep h0 h42 [] := K13.ext E42
    have O42 : own_Old Z h42 := O13.ext E42
    have V42 : Arv Z h42 b42 k42 .char (1 : Int32) [(.int 0)] (.int 0) := (Arv.new A42 (by decide)).pad (pad_rep [] (.int 0) 1)
    show G (T42.setTop (mkF m 50 #[.val (.int i0), .val (.int i1), .val (.int i2), .val (.int i3), .val (.int i4), .val (.int 1), .val (.ref b2), .unset, .unset, .unset, .unset, .unset, .unset, .unset, .unset, .unset] [(.ref b42)]))
    refine hG _ _ (fun t_ k_ => XS.astore X42.here hx rfl (hb hby at_50) rfl rfl (l' := #[.val (.int i0), .val (.int i1), .val (.int i2), .val (.int i3), .val (.int i4), .val (.int 1), .val (.ref b2), .val (.ref b42), .unset, .unset, .unset, .unset, .unset, .unset, .unset, .unset]) rfl k_) ?_
    refine hG _ _ (fun t_ k_ => XS.iload X42.here hx rfl (hb hby at_52) rfl k_) ?_
    show G (T42.setTop (mkF m 54 #[.val (.int i0), .val (.int i1), .val (.int i2), .val (.int i3), .val (.int i4), .val (.int 1), .val (.ref b2), .val (.ref b42), .unset, .unset, .unset, .unset, .unset, .unset, .unset, .unset] [(.int 1)]))
    refine hG _ _ (fun t_ k_ => XS.ifNo X42.here hx rfl (hb hby at_54) rfl ((if0 _ _).trans (tlt (by decide)).2.2.2) k_) ?_
    show G (T42.setTop (mkF m 57 #[.val (.int i0), .val (.int i1), .val (.int i2), .val (.int i3), .val (.int i4), .val (.int 1), .val (.ref b2), .val (.ref b42), .unset, .unset, .unset, .unset, .unset, .unset, .unset, .unset] []))
    refine hG _ _ (fun t_ k_ => XS.aload X42.here hx rfl (hb hby at_57) rfl rfl k_) ?_
    refine hG _ _ (fun t_ k_ => XS.iconst X42.here hx rfl (hb hby at_59) k_) ?_
    refine hG _ _ (fun t_ k_ => XS.aload X42.here hx rfl (hb hby at_60) rfl rfl k_) ?_
    refine hG _ _ (fun t_ k_ => XS.iconst X42.here hx rfl (hb hby at_62) k_) ?_
    show G (T42.setTop (mkF m 63 #[.val (.int i0), .val (.int i1), .val (.int i2), .val (.int i3), .val (.int i4), .val (.int 1), .val (.ref b2), .val (.ref b42), .unset, .unset, .unset, .unset, .unset, .unset, .unset, .unset] [(.int 0), (.ref b2), (.int 0), (.ref b42)]))
    have f44 := (V13.ext E42)
    obtain ⟨c43, Ar43, q43, S43, M43, H43, G43⟩ := id f44
    have hin43 : ¬ ((0 : Int32) < 0 ∨ c43.slots.size ≤ (0 : Int32).toNatClampNeg) := inb_of S43 ⟨by decide, by decide⟩
    refine hG _ _ (X42.caload hx (j := (0 : Int32)) (v := (.int r_3)) (by rw [e42]; exact Ar43.1) (State.isArrayOf_alike hZ.alike Ar43.2.1) Ar43.2.2 hin43 (Has.at H43 hin43 rfl) (g := (mkF m 63 #[.val (.int i0), .val (.int i1), .val (.int i2), .val (.int i3), .val (.int i4), .val (.int 1), .val (.ref b2), .val (.ref b42), .unset, .unset, .unset, .unset, .unset, .unset, .unset, .unset] [(.int 0), (.ref b2), (.int 0), (.ref b42)])) rfl rfl (hb hby at_63)) ?_
    show G (T42.setTop (mkF m 64 #[.val (.int i0), .val (.int i1), .val (.int i2), .val (.int i3), .val (.int i4), .val (.int 1), .val (.ref b2), .val (.ref b42), .unset, .unset, .unset, .unset, .unset, .unset, .unset, .unset] [(.int r_3), (.int 0), (.ref b42)]))
    obtain ⟨c45, Ar45, q45, S45, M45, H45, G45⟩ := id V42
    obtain ⟨T45, h45, X45, e45, W45, st45⟩ := stC X42 hx hZ e42 Ar45 (j := (0 : Int32)) (inb_of S45 ⟨by decide, by decide⟩) (g := (mkF m 64 #[.val (.int i0), .val (.int i1), .val (.int i2), .val (.int i3), .val (.int i4), .val (.int 1), .val (.ref b2), .val (.ref b42), .unset, .unset, .unset, .unset, .unset, .unset, .unset, .unset] [(.int r_3), (.int 0), (.ref b42)])) rfl rfl (hb hby at_64)
    refine hG _ _ st45 ?_
    have sf46 : Safe Z consts_1 _ h42 b42 := (own_safeArv hZ.alike V42 (by decide))
    have R45 := (CHr.wr W45 sf46 R42.1)
    have C45 := C42.trans R45
    have K45 : Keep h0 h45 [] := K42.wr W45 (Or.inr (Nat.le_trans K13.1 (Nat.le_of_eq z42.symm)))
    have O45 : own_Old Z h45 := O42.wr W45 (own_ge O13 (Nat.le_of_eq z42.symm))
    rw [own_narC r3_0] at W45
    have V45 : Arv Z h45 b42 k42 .char (1 : Int32) [(.int r_3)] (.int 0) := Arv.set Ar45 q45 S45 M45 H45 G45 (own_fitC r3_0) W45 0 rfl (Nat.le_of_ble_eq_true rfl)
    have N45 := Fr.snoc X45 N13 (own_ge O13 (Nat.le_of_eq z42.symm))
    show G (T45.setTop (mkF m 65 #[.val (.int i0), .val (.int i1), .val (.int i2), .val (.int i3), .val (.int i4), .val (.int 1), .val (.ref b2), .val (.ref b42), .unset, .unset, .unset, .unset, .unset, .unset, .unset, .unset] []))
    refine hG _ _ (fun t_ k_ => XS.iload X45.here hx rfl (hb hby at_65) rfl k_) ?_
    refine hG _ _ (fun t_ k_ => XS.iconst X45.here hx rfl (hb hby at_67) k_) ?_
    show G (T45.setTop (mkF m 68 #[.val (.int i0), .val (.int i1), .val (.int i2), .val (.int i3), .val (.int i4), .val (.int 1), .val (.ref b2), .val (.ref b42), .unset, .unset, .unset, .unset, .unset, .unset, .unset, .unset] [(.int 1), (.int 1)]))
    refine hG _ _ (fun t_ k_ => XS.icmpYes X45.here hx rfl (pc0 := 68) (pc' := 79) rfl (hb hby at_68) rfl (flt (by decide)).2.2.2 (by decide) (by decide) k_) ?_
    show G (T45.setTop (mkF m 79 #[.val (.int i0), .val (.int i1), .val (.int i2), .val (.int i3), .val (.int i4), .val (.int 1), .val (.ref b2), .val (.ref b42), .unset, .unset, .unset, .unset, .unset, .unset, .unset, .unset] []))
    refine hG _ _ (fun t_ k_ => XS.iload X45.here hx rfl (hb hby at_79) rfl k_) ?_
    refine hG _ _ (fun t_ k_ => XS.iconst X45.here hx rfl (hb hby at_81) k_) ?_
    show G (T45.setTop (mkF m 82 #[.val (.int i0), .val (.int i1), .val (.int i2), .val (.int i3), .val (.int i4), .val (.int 1), .val (.ref b2), .val (.ref b42), .unset, .unset, .unset, .unset, .unset, .unset, .unset, .unset] [(.int 2), (.int 1)]))
    refine hG _ _ (fun t_ k_ => XS.icmpYes X45.here hx rfl (pc0 := 82) (pc' := 93) rfl (hb hby at_82) rfl (flt (by decide)).2.2.2 (by decide) (by decide) k_) ?_
    show G (T45.setTop (mkF m 93 #[.val (.int i0), .val (.int i1), .val (.int i2), .val (.int i3), .val (.int i4), .val (.int 1), .val (.ref b2), .val (.ref b42), .unset, .unset, .unset, .unset, .unset, .unset, .unset, .unset] []))
    refine hG _ _ (fun t_ k_ => XS.iload X45.here hx rfl (hb hby at_93) rfl k_) ?_
    refine hG _ _ (fun t_ k_ => XS.iconst X45.here hx rfl (hb hby at_95) k_) ?_
    show G (T45.setTop (mkF m 96 #[.val (.int i0), .val (.int i1), .val (.int i2), .val (.int i3), .val (.int i4), .val (.int 1), .val (.ref b2), .val (.ref b42), .unset, .unset, .unset, .unset, .unset, .unset, .unset, .unset] [(.int 3), (.int 1)]))
    refine hG _ _ (fun t_ k_ => XS.icmpYes X45.here hx rfl (pc0 := 96) (pc' := 107) rfl (hb hby at_96) rfl (flt (by decide)).2.2.2 (by decide) (by decide) k_) ?_
    show G (T45.setTop (mkF m 107 #[.val (.int i0), .val (.int i1), .val (.int i2), .val (.int i3), .val (.int i4), .val (.int 1), .val (.ref b2), .val (.ref b42), .unset, .unset, .unset, .unset, .unset, .unset, .unset, .unset] []))
    obtain ⟨T47, h47, X47, e47, E47, A47, D47, -, st47⟩ := newO X45 hx hZ hown (ow hw 6 rfl) (ow hw 7 rfl) (ow hw 8 rfl) e45 (g := (mkF m 107 #[.val (.int i0), .val (.int i1), .val (.int i2), .val (.int i3), .val (.int i4), .val (.int 1), .val (.ref b2), .val (.ref b42), .unset, .unset, .unset, .unset, .unset, .unset, .unset, .unset] [])) rfl (hb hby at_107) (by decide) (by decide)
    obtain ⟨b47, z47⟩ : ∃ z, z = h45.size := ⟨_, rfl⟩
    rw [← z47] at A47 D47 st47
    refine hG _ _ st47 ?_
    have R47 := (CHr.ext E47 R45.1)
    have C47 := C45.trans R47
    have K47 : Keep h0 h47 [] := K45.ext E47
    have O47 : own_Old Z h47 := O45.ext E47
    show G (T47.setTop (mkF m 110 #[.val (.int i0), .val (.int i1), .val (.int i2), .val (.int i3), .val (.int i4), .val (.int 1), .val (.ref b2), .val (.ref b42), .unset, .unset, .unset, .unset, .unset, .unset, .unset, .unset] [(.ref b47)]))
    refine hG _ _ (fun t_ k_ => XS.dup X47.here hx rfl (hb hby at_110) rfl rfl k_) ?_
    refine hG _ _ (fun t_ k_ => XS.aload X47.here hx rfl (hb hby at_111) rfl rfl k_) ?_
    show G (T47.setTop (mkF m 113 #[.val (.int i0), .val (.int i1), .val (.int i2), .val (.int i3), .val (.int i4), .val (.int 1), .val (.ref b2), .val (.ref b42), .unset, .unset, .unset, .unset, .unset, .unset, .unset, .unset] [(.ref b42), (.ref b47), (.ref b47)]))
    have f49 := (V45.ext E47)
    refine own_callI X47 hx hZ hG hown rfl (ow hw 9 rfl) (ow hw 10 rfl) (ow hw 8 rfl) (ow hw 11 rfl) (by decide) 1 (own_gstr1 l Z a0 hw b47 b42 k42 [r_3] cpt (.int 0) .null h47 O47 A47 (D47 (Or.inr (ow hw 22 rfl)) (ty := .byte) (by decide)) (D47 (Or.inr (ow hw 21 rfl)) (ty := (.array .byte)) (by decide)) (own_ge O45 (Nat.le_of_eq z47.symm)) f49 (Nat.le_of_ble_eq_true rfl) (Nat.le_of_ble_eq_true rfl) (own_allc r3_0 own_alln) g0_S g1_hcpt g2_S g3_S g4_S) (by decide) (by decide) e47 (by rw [hml]; rfl) (lenOf own_pd8 rfl) (argsL := [(.ref b42)]) (rest := [(.ref b47)]) rfl rfl (Nat.le_of_eq rfl) (hb hby at_113) (by decide) (by decide) ?_
    intro T48 h48 v48 L48 X48 e48 q48
    obtain ⟨t_48, kt_48, cd_48, nb_48, vs_48, rfl, M48, J48, y48_0, r48_0, r48_1, r48_2, r48_3, r48_4⟩ := q48
    have N48 := Fr.app N45 M48
    have sf50 : Safe Z consts_1 _ h47 b47 := (own_safeStr hZ.alike A47 (D47 (Or.inr (ow hw 21 rfl)) (ty := (.array .byte)) (by decide)))
    have R48 := (CHr.keep J48 (allS sf50 all0) R47.1)
    have C48 := C47.trans R48
    have K48 : Keep h0 h48 [] := K47.trans J48 (allS (Or.inr (Nat.le_trans K45.1 (Nat.le_of_eq z47.symm))) all0)
    have O48 : own_Old Z h48 := O47.keep J48 (allS (own_ge O45 (Nat.le_of_eq z47.symm)) all0)
    show G (T48.setTop (mkF m 116 #[.val (.int i0), .val (.int i1), .val (.int i2), .val (.int i3), .val (.int i4), .val (.int 1), .val (.ref b2), .val (.ref b42), .unset, .unset, .unset, .unset, .unset, .unset, .unset, .unset] [(.ref b47)]))
    refine own_callSW X48 hx hZ hG hown (ow hw 27 rfl) (ow hw 28 rfl) (ow hw 29 rfl) (ow hw 30 rfl) (by decide) 0 (own_strip l Z a0 hw hEL b47 t_48 kt_48 [r_3] cd_48 nb_48 vs_48 cpt fmt h48 O48 r48_0 r48_1 r48_2 r48_3 r48_4 (Nat.le_of_ble_eq_true rfl) (own_allc r3_0 own_alln) g0_S g1_hcpt g2_S g3_S g4_S g5_hfmt g6_S) (by decide) (by decide) e48 SI0 (Nat.le_trans (Nat.le_trans (Nat.le_trans (Nat.le_trans (Nat.le_trans (Nat.le_trans (Nat.le_trans (Nat.le_trans (Nat.le_trans (Nat.le_refl _) R2.2.1) R4.2.1) R7.2.1) R10.2.1) R13.2.1) R42.2.1) R45.2.1) R47.2.1) R48.2.1) hEL R48.1 (by rw [hml]; rfl) (lenOf own_pd28 rfl) (argsL := [(.ref b47)]) (rest := []) rfl rfl (Nat.le_of_eq rfl) (hb hby at_116) (by decide) (by decide) ?_
    intro T51 h51 v51 L51 X51 e51 SI51 hZ51 hown51 Y51 q51
    obtain ⟨B_51, E_51, q_51, u_51, ku_51, c2_51, n2_51, us_51, rfl, M51, J51, r51_0, r51_1, r51_2, r51_3, r51_4, r51_5⟩ := q51
    have N51 := Fr.app N48 M51
    have R51 := Y51
    have C51 := C48.trans R51
    have K51 : Keep h0 h51 [] := K48.trans J51 all0
    have O51 : own_Old Z h51 := O48.keep J51 all0
    show G (T51.setTop (mkF m 119 #[.val (.int i0), .val (.int i1), .val (.int i2), .val (.int i3), .val (.int i4), .val (.int 1), .val (.ref b2), .val (.ref b42), .unset, .unset, .unset, .unset, .unset, .unset, .unset, .unset] [(.ref q_51)]))
    refine hG _ _ (fun t_ k_ => XS.astore X51.here hx rfl (hb hby at_119) rfl rfl (l' := #[.val (.int i0), .val (.int i1), .val (.int i2), .val (.int i3), .val (.int i4), .val (.int 1), .val (.ref b2), .val (.ref b42), .val (.ref q_51), .unset, .unset, .unset, .unset, .unset, .unset, .unset]) rfl k_) ?_
    refine hG _ _ (fun t_ k_ => XS.aload X51.here hx rfl (hb hby at_121) rfl rfl k_) ?_
    refine hG _ _ (fun t_ k_ => XS.iload X51.here hx rfl (hb hby at_123) rfl k_) ?_
    refine hG _ _ (fun t_ k_ => XS.iconst X51.here hx rfl (hb hby at_125) k_) ?_
    show G (T51.setTop (mkF m 126 #[.val (.int i0), .val (.int i1), .val (.int i2), .val (.int i3), .val (.int i4), .val (.int 1), .val (.ref b2), .val (.ref b42), .val (.ref q_51), .unset, .unset, .unset, .unset, .unset, .unset, .unset] [(.int 0), (.int 1), (.ref b2)]))
    have f53 := ((((f44.other W45 (own_ne V13.lt (Nat.le_of_eq z42.symm))).ext E47).keep J48 (ninS (own_ne (Nat.lt_of_lt_of_le f44.lt (Keep.of_wr W45).1) (Nat.le_of_eq z47.symm)) nin0)).keep J51 nin0)
    refine own_callS X51 hx hZ51 hG hown51 (ow hw 56 rfl) (ow hw 57 rfl) (ow hw 3 rfl) (ow hw 58 rfl) (by decide) 0 (own_sol0 l Z a0 hw b2 (1 : Int32) k2 r_3 r_6 r_9 r_12 h51 O51 f53) (by decide) (by decide) e51 (by rw [hml]; rfl) (lenOf own_pd29 rfl) (argsL := [(.ref b2), (.int 1), (.int 0)]) (rest := []) rfl rfl (Nat.le_of_eq rfl) (hb hby at_126) (by decide) (by decide) ?_
    intro T52 h52 v52 L52 X52 e52 q52
    obtain ⟨r_52, rfl, M52, rfl, r52_0⟩ := q52
    have N52 := Fr.app N51 M52
    show G (T52.setTop (mkF m 129 #[.val (.int i0), .val (.int i1), .val (.int i2), .val (.int i3), .val (.int i4), .val (.int 1), .val (.ref b2), .val (.ref b42), .val (.ref q_51), .unset, .unset, .unset, .unset, .unset, .unset, .unset] [(.int r_52)]))
    have so0_54 := own_solc (cs := [r_3]) (k := 0) r52_0 rfl rfl (by decide) (Nat.le_of_ble_eq_true rfl) (fun _ => rfl)
    refine hG _ _ (fun t_ k_ => XS.istore X52.here hx rfl (hb hby at_129) rfl (l' := #[.val (.int i0), .val (.int i1), .val (.int i2), .val (.int i3), .val (.int i4), .val (.int 1), .val (.ref b2), .val (.ref b42), .val (.ref q_51), .val (.int r_52), .unset, .unset, .unset, .unset, .unset, .unset]) rfl k_) ?_
    refine hG _ _ (fun t_ k_ => XS.aload X52.here hx rfl (hb hby at_131) rfl rfl k_) ?_
    refine hG _ _ (fun t_ k_ => XS.iload X52.here hx rfl (hb hby at_133) rfl k_) ?_
    refine hG _ _ (fun t_ k_ => XS.iconst X52.here hx rfl (hb hby at_135) k_) ?_
    show G (T52.setTop (mkF m 136 #[.val (.int i0), .val (.int i1), .val (.int i2), .val (.int i3), .val (.int i4), .val (.int 1), .val (.ref b2), .val (.ref b42), .val (.ref q_51), .val (.int r_52), .unset, .unset, .unset, .unset, .unset, .unset] [(.int 1), (.int 1), (.ref b2)]))
    refine own_callS X52 hx hZ51 hG hown51 (ow hw 56 rfl) (ow hw 57 rfl) (ow hw 3 rfl) (ow hw 58 rfl) (by decide) 0 (own_sol1 l Z a0 hw b2 (1 : Int32) k2 r_3 r_6 r_9 r_12 h51 O51 f53) (by decide) (by decide) e52 (by rw [hml]; rfl) (lenOf own_pd29 rfl) (argsL := [(.ref b2), (.int 1), (.int 1)]) (rest := []) rfl rfl (Nat.le_of_eq rfl) (hb hby at_136) (by decide) (by decide) ?_
    intro T55 h55 v55 L55 X55 e55 q55
    obtain ⟨r_55, rfl, M55, rfl, r55_0⟩ := q55
    have N55 := Fr.app N52 M55
    show G (T55.setTop (mkF m 139 #[.val (.int i0), .val (.int i1), .val (.int i2), .val (.int i3), .val (.int i4), .val (.int 1), .val (.ref b2), .val (.ref b42), .val (.ref q_51), .val (.int r_52), .unset, .unset, .unset, .unset, .unset, .unset] [(.int r_55)]))
    have so1_56 := own_solc (cs := [r_3]) (k := 1) r55_0 rfl rfl (by decide) (Nat.le_of_ble_eq_true rfl) (fun q => absurd q (Nat.not_lt.mpr (Nat.le_of_ble_eq_true rfl)))
    refine hG _ _ (fun t_ k_ => XS.istore X55.here hx rfl (hb hby at_139) rfl (l' := #[.val (.int i0), .val (.int i1), .val (.int i2), .val (.int i3), .val (.int i4), .val (.int 1), .val (.ref b2), .val (.ref b42), .val (.ref q_51), .val (.int r_52), .val (.int r_55), .unset, .unset, .unset, .unset, .unset]) rfl k_) ?_
    refine hG _ _ (fun t_ k_ => XS.aload X55.here hx rfl (hb hby at_141) rfl rfl k_) ?_
    refine hG _ _ (fun t_ k_ => XS.iload X55.here hx rfl (hb hby at_143) rfl k_) ?_
    refine hG _ _ (fun t_ k_ => XS.iconst X55.here hx rfl (hb hby at_145) k_) ?_
    show G (T55.setTop (mkF m 146 #[.val (.int i0), .val (.int i1), .val (.int i2), .val (.int i3), .val (.int i4), .val (.int 1), .val (.ref b2), .val (.ref b42), .val (.ref q_51), .val (.int r_52), .val (.int r_55), .unset, .unset, .unset, .unset, .unset] [(.int 2), (.int 1), (.ref b2)]))
    refine own_callS X55 hx hZ51 hG hown51 (ow hw 56 rfl) (ow hw 57 rfl) (ow hw 3 rfl) (ow hw 58 rfl) (by decide) 0 (own_sol2 l Z a0 hw b2 (1 : Int32) k2 r_3 r_6 r_9 r_12 h51 O51 f53) (by decide) (by decide) e55 (by rw [hml]; rfl) (lenOf own_pd29 rfl) (argsL := [(.ref b2), (.int 1), (.int 2)]) (rest := []) rfl rfl (Nat.le_of_eq rfl) (hb hby at_146) (by decide) (by decide) ?_
    intro T57 h57 v57 L57 X57 e57 q57
    obtain ⟨r_57, rfl, M57, rfl, r57_0⟩ := q57
    have N57 := Fr.app N55 M57
    show G (T57.setTop (mkF m 149 #[.val (.int i0), .val (.int i1), .val (.int i2), .val (.int i3), .val (.int i4), .val (.int 1), .val (.ref b2), .val (.ref b42), .val (.ref q_51), .val (.int r_52), .val (.int r_55), .unset, .unset, .unset, .unset, .unset] [(.int r_57)]))
    have so2_58 := own_solc (cs := [r_3]) (k := 2) r57_0 rfl rfl (by decide) (Nat.le_of_ble_eq_true rfl) (fun q => absurd q (Nat.not_lt.mpr (Nat.le_of_ble_eq_true rfl)))
    refine hG _ _ (fun t_ k_ => XS.istore X57.here hx rfl (hb hby at_149) rfl (l' := #[.val (.int i0), .val (.int i1), .val (.int i2), .val (.int i3), .val (.int i4), .val (.int 1), .val (.ref b2), .val (.ref b42), .val (.ref q_51), .val (.int r_52), .val (.int r_55), .val (.int r_57), .unset, .unset, .unset, .unset]) rfl k_) ?_
    refine hG _ _ (fun t_ k_ => XS.aload X57.here hx rfl (hb hby at_151) rfl rfl k_) ?_
    refine hG _ _ (fun t_ k_ => XS.iload X57.here hx rfl (hb hby at_153) rfl k_) ?_
    refine hG _ _ (fun t_ k_ => XS.iconst X57.here hx rfl (hb hby at_155) k_) ?_
    show G (T57.setTop (mkF m 156 #[.val (.int i0), .val (.int i1), .val (.int i2), .val (.int i3), .val (.int i4), .val (.int 1), .val (.ref b2), .val (.ref b42), .val (.ref q_51), .val (.int r_52), .val (.int r_55), .val (.int r_57), .unset, .unset, .unset, .unset] [(.int 3), (.int 1), (.ref b2)]))
    refine own_callS X57 hx hZ51 hG hown51 (ow hw 56 rfl) (ow hw 57 rfl) (ow hw 3 rfl) (ow hw 58 rfl) (by decide) 0 (own_sol3 l Z a0 hw b2 (1 : Int32) k2 r_3 r_6 r_9 r_12 h51 O51 f53) (by decide) (by decide) e57 (by rw [hml]; rfl) (lenOf own_pd29 rfl) (argsL := [(.ref b2), (.int 1), (.int 3)]) (rest := []) rfl rfl (Nat.le_of_eq rfl) (hb hby at_156) (by decide) (by decide) ?_
    intro T59 h59 v59 L59 X59 e59 q59
    obtain ⟨r_59, rfl, M59, rfl, r59_0⟩ := q59
    have N59 := Fr.app N57 M59
    show G (T59.setTop (mkF m 159 #[.val (.int i0), .val (.int i1), .val (.int i2), .val (.int i3), .val (.int i4), .val (.int 1), .val (.ref b2), .val (.ref b42), .val (.ref q_51), .val (.int r_52), .val (.int r_55), .val (.int r_57), .unset, .unset, .unset, .unset] [(.int r_59)]))
    have so3_60 := own_solc (cs := [r_3]) (k := 3) r59_0 rfl rfl (by decide) (Nat.le_of_ble_eq_true rfl) (fun q => absurd q (Nat.not_lt.mpr (Nat.le_of_ble_eq_true rfl)))
    refine hG _ _ (fun t_ k_ => XS.istore X59.here hx rfl (hb hby at_159) rfl (l' := #[.val (.int i0), .val (.int i1), .val (.int i2), .val (.int i3), .val (.int i4), .val (.int 1), .val (.ref b2), .val (.ref b42), .val (.ref q_51), .val (.int r_52), .val (.int r_55), .val (.int r_57), .val (.int r_59), .unset, .unset, .unset]) rfl k_) ?_
    show G (T59.setTop (mkF m 161 #[.val (.int i0), .val (.int i1), .val (.int i2), .val (.int i3), .val (.int i4), .val (.int 1), .val (.ref b2), .val (.ref b42), .val (.ref q_51), .val (.int r_52), .val (.int r_55), .val (.int r_57), .val (.int r_59), .unset, .unset, .unset] []))
    have jf : ∀ (f : Int32), (f = Int32.ofNat B_51) → G (T59.setTop (mkF m 199 #[.val (.int i0), .val (.int i1), .val (.int i2), .val (.int i3), .val (.int i4), .val (.int 1), .val (.ref b2), .val (.ref b42), .val (.ref q_51), .val (.int r_52), .val (.int r_55), .val (.int r_57), .val (.int r_59), .unset, .unset, .unset] [(.int f)])) := by
      intro f hf
      subst hf
      show G (T59.setTop (mkF m 199 #[.val (.int i0), .val (.int i1), .val (.int i2), .val (.int i3), .val (.int i4), .val (.int 1), .val (.ref b2), .val (.ref b42), .val (.ref q_51), .val (.int r_52), .val (.int r_55), .val (.int r_57), .val (.int r_59), .unset, .unset, .unset] [(.int (Int32.ofNat B_51))]))
      refine hG _ _ (fun t_ k_ => XS.istore X59.here hx rfl (hb hby at_199) rfl (l' := #[.val (.int i0), .val (.int i1), .val (.int i2), .val (.int i3), .val (.int i4), .val (.int 1), .val (.ref b2), .val (.ref b42), .val (.ref q_51), .val (.int r_52), .val (.int r_55), .val (.int r_57), .val (.int r_59), .val (.int (Int32.ofNat B_51)), .unset, .unset]) rfl k_) ?_
      show G (T59.setTop (mkF m 201 #[.val (.int i0), .val (.int i1), .val (.int i2), .val (.int i3), .val (.int i4), .val (.int 1), .val (.ref b2), .val (.ref b42), .val (.ref q_51), .val (.int r_52), .val (.int r_55), .val (.int r_57), .val (.int r_59), .val (.int (Int32.ofNat B_51)), .unset, .unset] []))
      have jl : ∀ (f2 : Int32), (f2 = Int32.ofNat E_51) → G (T59.setTop (mkF m 239 #[.val (.int i0), .val (.int i1), .val (.int i2), .val (.int i3), .val (.int i4), .val (.int 1), .val (.ref b2), .val (.ref b42), .val (.ref q_51), .val (.int r_52), .val (.int r_55), .val (.int r_57), .val (.int r_59), .val (.int (Int32.ofNat B_51)), .unset, .unset] [(.int f2)])) := by
        intro f2 hf2
        subst hf2
        show G (T59.setTop (mkF m 239 #[.val (.int i0), .val (.int i1), .val (.int i2), .val (.int i3), .val (.int i4), .val (.int 1), .val (.ref b2), .val (.ref b42), .val (.ref q_51), .val (.int r_52), .val (.int r_55), .val (.int r_57), .val (.int r_59), .val (.int (Int32.ofNat B_51)), .unset, .unset] [(.int (Int32.ofNat E_51))]))
        refine hG _ _ (fun t_ k_ => XS.istore X59.here hx rfl (hb hby at_239) rfl (l' := #[.val (.int i0), .val (.int i1), .val (.int i2), .val (.int i3), .val (.int i4), .val (.int 1), .val (.ref b2), .val (.ref b42), .val (.ref q_51), .val (.int r_52), .val (.int r_55), .val (.int r_57), .val (.int r_59), .val (.int (Int32.ofNat B_51)), .val (.int (Int32.ofNat E_51)), .unset]) rfl k_) ?_
        refine hG _ _ (fun t_ k_ => XS.iload X59.here hx rfl (hb hby at_241) rfl k_) ?_
        refine hG _ _ (fun t_ k_ => XS.iload X59.here hx rfl (hb hby at_243) rfl k_) ?_
        refine hG _ _ (fun t_ k_ => XS.isub X59.here hx rfl (hb hby at_245) rfl k_) ?_
        show G (T59.setTop (mkF m 246 #[.val (.int i0), .val (.int i1), .val (.int i2), .val (.int i3), .val (.int i4), .val (.int 1), .val (.ref b2), .val (.ref b42), .val (.ref q_51), .val (.int r_52), .val (.int r_55), .val (.int r_57), .val (.int r_59), .val (.int (Int32.ofNat B_51)), .val (.int (Int32.ofNat E_51)), .unset] [(.int ((Int32.ofNat E_51) - (Int32.ofNat B_51)))]))
        rw [show Int32.ofNat E_51 - Int32.ofNat B_51 = Int32.ofNat (E_51 - B_51) from own_subN r51_5.1]
        have hfs := own_from_sub [r_3] r51_5.1 r51_5.2.1
        show G (T59.setTop (mkF m 246 #[.val (.int i0), .val (.int i1), .val (.int i2), .val (.int i3), .val (.int i4), .val (.int 1), .val (.ref b2), .val (.ref b42), .val (.ref q_51), .val (.int r_52), .val (.int r_55), .val (.int r_57), .val (.int r_59), .val (.int (Int32.ofNat B_51)), .val (.int (Int32.ofNat E_51)), .unset] [(.int (Int32.ofNat (E_51 - B_51)))]))
        refine hG _ _ (fun t_ k_ => XS.istore X59.here hx rfl (hb hby at_246) rfl (l' := #[.val (.int i0), .val (.int i1), .val (.int i2), .val (.int i3), .val (.int i4), .val (.int 1), .val (.ref b2), .val (.ref b42), .val (.ref q_51), .val (.int r_52), .val (.int r_55), .val (.int r_57), .val (.int r_59), .val (.int (Int32.ofNat B_51)), .val (.int (Int32.ofNat E_51)), .val (.int (Int32.ofNat (E_51 - B_51)))]) rfl k_) ?_
        refine hG _ _ (fun t_ k_ => XS.aload X59.here hx rfl (hb hby at_248) rfl rfl k_) ?_
        show G (T59.setTop (mkF m 250 #[.val (.int i0), .val (.int i1), .val (.int i2), .val (.int i3), .val (.int i4), .val (.int 1), .val (.ref b2), .val (.ref b42), .val (.ref q_51), .val (.int r_52), .val (.int r_55), .val (.int r_57), .val (.int r_59), .val (.int (Int32.ofNat B_51)), .val (.int (Int32.ofNat E_51)), .val (.int (Int32.ofNat (E_51 - B_51)))] [(.ref q_51)]))
        refine hG _ _ (fun t_ k_ => XS.ifnullNo X59.here hx rfl (hb hby at_250) rfl k_) ?_
        show G (T59.setTop (mkF m 253 #[.val (.int i0), .val (.int i1), .val (.int i2), .val (.int i3), .val (.int i4), .val (.int 1), .val (.ref b2), .val (.ref b42), .val (.ref q_51), .val (.int r_52), .val (.int r_55), .val (.int r_57), .val (.int r_59), .val (.int (Int32.ofNat B_51)), .val (.int (Int32.ofNat E_51)), .val (.int (Int32.ofNat (E_51 - B_51)))] []))
        refine hG _ _ (fun t_ k_ => XS.aload X59.here hx rfl (hb hby at_253) rfl rfl k_) ?_
        show G (T59.setTop (mkF m 255 #[.val (.int i0), .val (.int i1), .val (.int i2), .val (.int i3), .val (.int i4), .val (.int 1), .val (.ref b2), .val (.ref b42), .val (.ref q_51), .val (.int r_52), .val (.int r_55), .val (.int r_57), .val (.int r_59), .val (.int (Int32.ofNat B_51)), .val (.int (Int32.ofNat E_51)), .val (.int (Int32.ofNat (E_51 - B_51)))] [(.ref q_51)]))
        refine own_callV (C := "java/lang/String") X59 hx hZ51 hG hown51 (ow hw 59 rfl) (ow hw 32 rfl) (ow hw 34 rfl) (ow hw 33 rfl) (ow hw 8 rfl) (ow hw 35 rfl) (by decide) 0 (own_len l Z a0 hw q_51 u_51 ku_51 (([r_3].drop B_51).take (E_51 - B_51)) c2_51 n2_51 us_51 cpt h51 O51 r51_0 r51_1 r51_2 r51_3 r51_4 (by rw [hfs.1]; have := r51_5.2.1; have q4 : [r_3].length ≤ 4 := Nat.le_of_ble_eq_true rfl; omega) (own_from_rng hfs.2 (own_allc r3_0 own_alln)) g0_S g1_hcpt) (by decide) (by decide) e59 r51_0 (by rw [hml]; rfl) (lenOf own_pd11 rfl) (argsL := []) (rest := []) rfl rfl (Nat.le_of_eq rfl) (hb hby at_255) (by decide) (by decide) ?_
        intro T61 h61 v61 L61 X61 e61 q61
        obtain ⟨rfl, M61, rfl⟩ := q61
        have N61 := Fr.app N59 M61
        show G (T61.setTop (mkF m 258 #[.val (.int i0), .val (.int i1), .val (.int i2), .val (.int i3), .val (.int i4), .val (.int 1), .val (.ref b2), .val (.ref b42), .val (.ref q_51), .val (.int r_52), .val (.int r_55), .val (.int r_57), .val (.int r_59), .val (.int (Int32.ofNat B_51)), .val (.int (Int32.ofNat E_51)), .val (.int (Int32.ofNat (E_51 - B_51)))] [(.int (Int32.ofNat (([r_3].drop B_51).take (E_51 - B_51)).length))]))
        refine hG _ _ (fun t_ k_ => XS.iload X61.here hx rfl (hb hby at_258) rfl k_) ?_
        show G (T61.setTop (mkF m 260 #[.val (.int i0), .val (.int i1), .val (.int i2), .val (.int i3), .val (.int i4), .val (.int 1), .val (.ref b2), .val (.ref b42), .val (.ref q_51), .val (.int r_52), .val (.int r_55), .val (.int r_57), .val (.int r_59), .val (.int (Int32.ofNat B_51)), .val (.int (Int32.ofNat E_51)), .val (.int (Int32.ofNat (E_51 - B_51)))] [(.int (Int32.ofNat (E_51 - B_51))), (.int (Int32.ofNat (([r_3].drop B_51).take (E_51 - B_51)).length))]))
        refine hG _ _ (fun t_ k_ => XS.icmpYes X61.here hx rfl (pc0 := 260) (pc' := 265) rfl (hb hby at_260) rfl (teq (congrArg Int32.ofNat hfs.1)).1 (by decide) (by decide) k_) ?_
        show G (T61.setTop (mkF m 265 #[.val (.int i0), .val (.int i1), .val (.int i2), .val (.int i3), .val (.int i4), .val (.int 1), .val (.ref b2), .val (.ref b42), .val (.ref q_51), .val (.int r_52), .val (.int r_55), .val (.int r_57), .val (.int r_59), .val (.int (Int32.ofNat B_51)), .val (.int (Int32.ofNat E_51)), .val (.int (Int32.ofNat (E_51 - B_51)))] []))
        refine hG _ _ (fun t_ k_ => XS.aload X61.here hx rfl (hb hby at_265) rfl rfl k_) ?_
        refine hG _ _ (fun t_ k_ => XS.iload X61.here hx rfl (hb hby at_267) rfl k_) ?_
        refine hG _ _ (fun t_ k_ => XS.aload X61.here hx rfl (hb hby at_269) rfl rfl k_) ?_
        refine hG _ _ (fun t_ k_ => XS.iload X61.here hx rfl (hb hby at_271) rfl k_) ?_
        refine hG _ _ (fun t_ k_ => XS.iconst X61.here hx rfl (hb hby at_273) k_) ?_
        show G (T61.setTop (mkF m 274 #[.val (.int i0), .val (.int i1), .val (.int i2), .val (.int i3), .val (.int i4), .val (.int 1), .val (.ref b2), .val (.ref b42), .val (.ref q_51), .val (.int r_52), .val (.int r_55), .val (.int r_57), .val (.int r_59), .val (.int (Int32.ofNat B_51)), .val (.int (Int32.ofNat E_51)), .val (.int (Int32.ofNat (E_51 - B_51)))] [(.int 0), (.int (Int32.ofNat B_51)), (.ref b2), (.int (Int32.ofNat (E_51 - B_51))), (.ref q_51)]))
        refine own_callS X61 hx hZ51 hG hown51 (ow hw 60 rfl) (ow hw 61 rfl) (ow hw 3 rfl) (ow hw 62 rfl) (by decide) 0 (own_at l Z a0 hw q_51 u_51 ku_51 (([r_3].drop B_51).take (E_51 - B_51)) c2_51 n2_51 us_51 cpt b2 k2 r_3 r_6 r_9 r_12 B_51 0 (E_51 - B_51) fmt h51 O51 r51_0 r51_1 r51_2 r51_3 r51_4 (by rw [hfs.1]; have := r51_5.2.1; have q4 : [r_3].length ≤ 4 := Nat.le_of_ble_eq_true rfl; omega) (own_from_rng hfs.2 (own_allc r3_0 own_alln)) g0_S g1_hcpt g2_S g3_S g4_S f53 hfs.1.symm (own_atc (xs := [r_3, r_6, r_9, r_12]) (m := 1) rfl rfl r51_5.1 r51_5.2.1) (by decide) g5_hfmt g6_S) (by decide) (by decide) e61 (by rw [hml]; rfl) (lenOf own_pd30 rfl) (argsL := [(.ref q_51), (.int (Int32.ofNat (E_51 - B_51))), (.ref b2), (.int (Int32.ofNat B_51)), (.int 0)]) (rest := []) rfl rfl (Nat.le_of_eq rfl) (hb hby at_274) (by decide) (by decide) ?_
        intro T62 h62 v62 L62 X62 e62 q62
        obtain ⟨rfl, M62, rfl⟩ := q62
        have N62 := Fr.app N61 M62
        show G (T62.setTop (mkF m 277 #[.val (.int i0), .val (.int i1), .val (.int i2), .val (.int i3), .val (.int i4), .val (.int 1), .val (.ref b2), .val (.ref b42), .val (.ref q_51), .val (.int r_52), .val (.int r_55), .val (.int r_57), .val (.int r_59), .val (.int (Int32.ofNat B_51)), .val (.int (Int32.ofNat E_51)), .val (.int (Int32.ofNat (E_51 - B_51)))] [(.int 1)]))
        refine hG _ _ (fun t_ k_ => XS.ifNo X62.here hx rfl (hb hby at_277) rfl ((if0 _ _).trans (feq (by decide)).1) k_) ?_
        show G (T62.setTop (mkF m 280 #[.val (.int i0), .val (.int i1), .val (.int i2), .val (.int i3), .val (.int i4), .val (.int 1), .val (.ref b2), .val (.ref b42), .val (.ref q_51), .val (.int r_52), .val (.int r_55), .val (.int r_57), .val (.int r_59), .val (.int (Int32.ofNat B_51)), .val (.int (Int32.ofNat E_51)), .val (.int (Int32.ofNat (E_51 - B_51)))] []))
        refine hG _ _ (fun t_ k_ => XS.aload X62.here hx rfl (hb hby at_280) rfl rfl k_) ?_
        refine hG _ _ (fun t_ k_ => XS.iload X62.here hx rfl (hb hby at_282) rfl k_) ?_
        refine hG _ _ (fun t_ k_ => XS.aload X62.here hx rfl (hb hby at_284) rfl rfl k_) ?_
        refine hG _ _ (fun t_ k_ => XS.iload X62.here hx rfl (hb hby at_286) rfl k_) ?_
        refine hG _ _ (fun t_ k_ => XS.iconst X62.here hx rfl (hb hby at_288) k_) ?_
        show G (T62.setTop (mkF m 289 #[.val (.int i0), .val (.int i1), .val (.int i2), .val (.int i3), .val (.int i4), .val (.int 1), .val (.ref b2), .val (.ref b42), .val (.ref q_51), .val (.int r_52), .val (.int r_55), .val (.int r_57), .val (.int r_59), .val (.int (Int32.ofNat B_51)), .val (.int (Int32.ofNat E_51)), .val (.int (Int32.ofNat (E_51 - B_51)))] [(.int 1), (.int (Int32.ofNat B_51)), (.ref b2), (.int (Int32.ofNat (E_51 - B_51))), (.ref q_51)]))
        refine own_callS X62 hx hZ51 hG hown51 (ow hw 60 rfl) (ow hw 61 rfl) (ow hw 3 rfl) (ow hw 62 rfl) (by decide) 0 (own_at l Z a0 hw q_51 u_51 ku_51 (([r_3].drop B_51).take (E_51 - B_51)) c2_51 n2_51 us_51 cpt b2 k2 r_3 r_6 r_9 r_12 B_51 1 (E_51 - B_51) fmt h51 O51 r51_0 r51_1 r51_2 r51_3 r51_4 (by rw [hfs.1]; have := r51_5.2.1; have q4 : [r_3].length ≤ 4 := Nat.le_of_ble_eq_true rfl; omega) (own_from_rng hfs.2 (own_allc r3_0 own_alln)) g0_S g1_hcpt g2_S g3_S g4_S f53 hfs.1.symm (own_atc (xs := [r_3, r_6, r_9, r_12]) (m := 1) rfl rfl r51_5.1 r51_5.2.1) (by decide) g5_hfmt g6_S) (by decide) (by decide) e62 (by rw [hml]; rfl) (lenOf own_pd30 rfl) (argsL := [(.ref q_51), (.int (Int32.ofNat (E_51 - B_51))), (.ref b2), (.int (Int32.ofNat B_51)), (.int 1)]) (rest := []) rfl rfl (Nat.le_of_eq rfl) (hb hby at_289) (by decide) (by decide) ?_
        intro T63 h63 v63 L63 X63 e63 q63
        obtain ⟨rfl, M63, rfl⟩ := q63
        have N63 := Fr.app N62 M63
        show G (T63.setTop (mkF m 292 #[.val (.int i0), .val (.int i1), .val (.int i2), .val (.int i3), .val (.int i4), .val (.int 1), .val (.ref b2), .val (.ref b42), .val (.ref q_51), .val (.int r_52), .val (.int r_55), .val (.int r_57), .val (.int r_59), .val (.int (Int32.ofNat B_51)), .val (.int (Int32.ofNat E_51)), .val (.int (Int32.ofNat (E_51 - B_51)))] [(.int 1)]))
        refine hG _ _ (fun t_ k_ => XS.ifNo X63.here hx rfl (hb hby at_292) rfl ((if0 _ _).trans (feq (by decide)).1) k_) ?_
        show G (T63.setTop (mkF m 295 #[.val (.int i0), .val (.int i1), .val (.int i2), .val (.int i3), .val (.int i4), .val (.int 1), .val (.ref b2), .val (.ref b42), .val (.ref q_51), .val (.int r_52), .val (.int r_55), .val (.int r_57), .val (.int r_59), .val (.int (Int32.ofNat B_51)), .val (.int (Int32.ofNat E_51)), .val (.int (Int32.ofNat (E_51 - B_51)))] []))
        refine hG _ _ (fun t_ k_ => XS.aload X63.here hx rfl (hb hby at_295) rfl rfl k_) ?_
        refine hG _ _ (fun t_ k_ => XS.iload X63.here hx rfl (hb hby at_297) rfl k_) ?_
        refine hG _ _ (fun t_ k_ => XS.aload X63.here hx rfl (hb hby at_299) rfl rfl k_) ?_
        refine hG _ _ (fun t_ k_ => XS.iload X63.here hx rfl (hb hby at_301) rfl k_) ?_
        refine hG _ _ (fun t_ k_ => XS.iconst X63.here hx rfl (hb hby at_303) k_) ?_
        show G (T63.setTop (mkF m 304 #[.val (.int i0), .val (.int i1), .val (.int i2), .val (.int i3), .val (.int i4), .val (.int 1), .val (.ref b2), .val (.ref b42), .val (.ref q_51), .val (.int r_52), .val (.int r_55), .val (.int r_57), .val (.int r_59), .val (.int (Int32.ofNat B_51)), .val (.int (Int32.ofNat E_51)), .val (.int (Int32.ofNat (E_51 - B_51)))] [(.int 2), (.int (Int32.ofNat B_51)), (.ref b2), (.int (Int32.ofNat (E_51 - B_51))), (.ref q_51)]))
        refine own_callS X63 hx hZ51 hG hown51 (ow hw 60 rfl) (ow hw 61 rfl) (ow hw 3 rfl) (ow hw 62 rfl) (by decide) 0 (own_at l Z a0 hw q_51 u_51 ku_51 (([r_3].drop B_51).take (E_51 - B_51)) c2_51 n2_51 us_51 cpt b2 k2 r_3 r_6 r_9 r_12 B_51 2 (E_51 - B_51) fmt h51 O51 r51_0 r51_1 r51_2 r51_3 r51_4 (by rw [hfs.1]; have := r51_5.2.1; have q4 : [r_3].length ≤ 4 := Nat.le_of_ble_eq_true rfl; omega) (own_from_rng hfs.2 (own_allc r3_0 own_alln)) g0_S g1_hcpt g2_S g3_S g4_S f53 hfs.1.symm (own_atc (xs := [r_3, r_6, r_9, r_12]) (m := 1) rfl rfl r51_5.1 r51_5.2.1) (by decide) g5_hfmt g6_S) (by decide) (by decide) e63 (by rw [hml]; rfl) (lenOf own_pd30 rfl) (argsL := [(.ref q_51), (.int (Int32.ofNat (E_51 - B_51))), (.ref b2), (.int (Int32.ofNat B_51)), (.int 2)]) (rest := []) rfl rfl (Nat.le_of_eq rfl) (hb hby at_304) (by decide) (by decide) ?_
        intro T64 h64 v64 L64 X64 e64 q64
        obtain ⟨rfl, M64, rfl⟩ := q64
        have N64 := Fr.app N63 M64
        show G (T64.setTop (mkF m 307 #[.val (.int i0), .val (.int i1), .val (.int i2), .val (.int i3), .val (.int i4), .val (.int 1), .val (.ref b2), .val (.ref b42), .val (.ref q_51), .val (.int r_52), .val (.int r_55), .val (.int r_57), .val (.int r_59), .val (.int (Int32.ofNat B_51)), .val (.int (Int32.ofNat E_51)), .val (.int (Int32.ofNat (E_51 - B_51)))] [(.int 1)]))
        refine hG _ _ (fun t_ k_ => XS.ifNo X64.here hx rfl (hb hby at_307) rfl ((if0 _ _).trans (feq (by decide)).1) k_) ?_
        show G (T64.setTop (mkF m 310 #[.val (.int i0), .val (.int i1), .val (.int i2), .val (.int i3), .val (.int i4), .val (.int 1), .val (.ref b2), .val (.ref b42), .val (.ref q_51), .val (.int r_52), .val (.int r_55), .val (.int r_57), .val (.int r_59), .val (.int (Int32.ofNat B_51)), .val (.int (Int32.ofNat E_51)), .val (.int (Int32.ofNat (E_51 - B_51)))] []))
        refine hG _ _ (fun t_ k_ => XS.aload X64.here hx rfl (hb hby at_310) rfl rfl k_) ?_
        refine hG _ _ (fun t_ k_ => XS.iload X64.here hx rfl (hb hby at_312) rfl k_) ?_
        refine hG _ _ (fun t_ k_ => XS.aload X64.here hx rfl (hb hby at_314) rfl rfl k_) ?_
        refine hG _ _ (fun t_ k_ => XS.iload X64.here hx rfl (hb hby at_316) rfl k_) ?_
        refine hG _ _ (fun t_ k_ => XS.iconst X64.here hx rfl (hb hby at_318) k_) ?_
        show G (T64.setTop (mkF m 319 #[.val (.int i0), .val (.int i1), .val (.int i2), .val (.int i3), .val (.int i4), .val (.int 1), .val (.ref b2), .val (.ref b42), .val (.ref q_51), .val (.int r_52), .val (.int r_55), .val (.int r_57), .val (.int r_59), .val (.int (Int32.ofNat B_51)), .val (.int (Int32.ofNat E_51)), .val (.int (Int32.ofNat (E_51 - B_51)))] [(.int 3), (.int (Int32.ofNat B_51)), (.ref b2), (.int (Int32.ofNat (E_51 - B_51))), (.ref q_51)]))
        refine own_callS X64 hx hZ51 hG hown51 (ow hw 60 rfl) (ow hw 61 rfl) (ow hw 3 rfl) (ow hw 62 rfl) (by decide) 0 (own_at l Z a0 hw q_51 u_51 ku_51 (([r_3].drop B_51).take (E_51 - B_51)) c2_51 n2_51 us_51 cpt b2 k2 r_3 r_6 r_9 r_12 B_51 3 (E_51 - B_51) fmt h51 O51 r51_0 r51_1 r51_2 r51_3 r51_4 (by rw [hfs.1]; have := r51_5.2.1; have q4 : [r_3].length ≤ 4 := Nat.le_of_ble_eq_true rfl; omega) (own_from_rng hfs.2 (own_allc r3_0 own_alln)) g0_S g1_hcpt g2_S g3_S g4_S f53 hfs.1.symm (own_atc (xs := [r_3, r_6, r_9, r_12]) (m := 1) rfl rfl r51_5.1 r51_5.2.1) (by decide) g5_hfmt g6_S) (by decide) (by decide) e64 (by rw [hml]; rfl) (lenOf own_pd30 rfl) (argsL := [(.ref q_51), (.int (Int32.ofNat (E_51 - B_51))), (.ref b2), (.int (Int32.ofNat B_51)), (.int 3)]) (rest := []) rfl rfl (Nat.le_of_eq rfl) (hb hby at_319) (by decide) (by decide) ?_
        intro T65 h65 v65 L65 X65 e65 q65
        obtain ⟨rfl, M65, rfl⟩ := q65
        have N65 := Fr.app N64 M65
        show G (T65.setTop (mkF m 322 #[.val (.int i0), .val (.int i1), .val (.int i2), .val (.int i3), .val (.int i4), .val (.int 1), .val (.ref b2), .val (.ref b42), .val (.ref q_51), .val (.int r_52), .val (.int r_55), .val (.int r_57), .val (.int r_59), .val (.int (Int32.ofNat B_51)), .val (.int (Int32.ofNat E_51)), .val (.int (Int32.ofNat (E_51 - B_51)))] [(.int 1)]))
        refine hG _ _ (fun t_ k_ => XS.ifNo X65.here hx rfl (hb hby at_322) rfl ((if0 _ _).trans (feq (by decide)).1) k_) ?_
        show G (T65.setTop (mkF m 325 #[.val (.int i0), .val (.int i1), .val (.int i2), .val (.int i3), .val (.int i4), .val (.int 1), .val (.ref b2), .val (.ref b42), .val (.ref q_51), .val (.int r_52), .val (.int r_55), .val (.int r_57), .val (.int r_59), .val (.int (Int32.ofNat B_51)), .val (.int (Int32.ofNat E_51)), .val (.int (Int32.ofNat (E_51 - B_51)))] []))
        refine hG _ _ (fun t_ k_ => XS.iconst X65.here hx rfl (hb hby at_325) k_) ?_
        refine hG _ _ (fun t_ k_ => XS.goto X65.here hx rfl (pc0 := 326) (pc' := 330) rfl (hb hby at_326) (by decide) (by decide) k_) ?_
        show G (T65.setTop (mkF m 330 #[.val (.int i0), .val (.int i1), .val (.int i2), .val (.int i3), .val (.int i4), .val (.int 1), .val (.ref b2), .val (.ref b42), .val (.ref q_51), .val (.int r_52), .val (.int r_55), .val (.int r_57), .val (.int r_59), .val (.int (Int32.ofNat B_51)), .val (.int (Int32.ofNat E_51)), .val (.int (Int32.ofNat (E_51 - B_51)))] [(.int 1)]))
        exact own_retNW hR hret (by simp) X65 hx (hb hby at_330) e65 SI51 (Nat.le_refl _) hZ51 C51 (by decide) (by decide) ⟨rfl, N65, K51⟩
      show G (T59.setTop (mkF m 201 #[.val (.int i0), .val (.int i1), .val (.int i2), .val (.int i3), .val (.int i4), .val (.int 1), .val (.ref b2), .val (.ref b42), .val (.ref q_51), .val (.int r_52), .val (.int r_55), .val (.int r_57), .val (.int r_59), .val (.int (Int32.ofNat B_51)), .unset, .unset] []))
      refine hG _ _ (fun t_ k_ => XS.iload X59.here hx rfl (hb hby at_201) rfl k_) ?_
      show G (T59.setTop (mkF m 203 #[.val (.int i0), .val (.int i1), .val (.int i2), .val (.int i3), .val (.int i4), .val (.int 1), .val (.ref b2), .val (.ref b42), .val (.ref q_51), .val (.int r_52), .val (.int r_55), .val (.int r_57), .val (.int r_59), .val (.int (Int32.ofNat B_51)), .unset, .unset] [(.int r_59)]))
      by_cases hc203_66 : r_59 = (0 : Int32)
      · skip
        refine hG _ _ (fun t_ k_ => XS.ifYes X59.here hx rfl (pc0 := 203) (pc' := 210) rfl (hb hby at_203) rfl ((if0 _ _).trans (teq hc203_66).1) (by decide) (by decide) k_) ?_
        show G (T59.setTop (mkF m 210 #[.val (.int i0), .val (.int i1), .val (.int i2), .val (.int i3), .val (.int i4), .val (.int 1), .val (.ref b2), .val (.ref b42), .val (.ref q_51), .val (.int r_52), .val (.int r_55), .val (.int r_57), .val (.int r_59), .val (.int (Int32.ofNat B_51)), .unset, .unset] []))
        refine hG _ _ (fun t_ k_ => XS.iload X59.here hx rfl (hb hby at_210) rfl k_) ?_
        show G (T59.setTop (mkF m 212 #[.val (.int i0), .val (.int i1), .val (.int i2), .val (.int i3), .val (.int i4), .val (.int 1), .val (.ref b2), .val (.ref b42), .val (.ref q_51), .val (.int r_52), .val (.int r_55), .val (.int r_57), .val (.int r_59), .val (.int (Int32.ofNat B_51)), .unset, .unset] [(.int r_57)]))
        by_cases hc212_67 : r_57 = (0 : Int32)
        · skip
          refine hG _ _ (fun t_ k_ => XS.ifYes X59.here hx rfl (pc0 := 212) (pc' := 219) rfl (hb hby at_212) rfl ((if0 _ _).trans (teq hc212_67).1) (by decide) (by decide) k_) ?_
          show G (T59.setTop (mkF m 219 #[.val (.int i0), .val (.int i1), .val (.int i2), .val (.int i3), .val (.int i4), .val (.int 1), .val (.ref b2), .val (.ref b42), .val (.ref q_51), .val (.int r_52), .val (.int r_55), .val (.int r_57), .val (.int r_59), .val (.int (Int32.ofNat B_51)), .unset, .unset] []))
          refine hG _ _ (fun t_ k_ => XS.iload X59.here hx rfl (hb hby at_219) rfl k_) ?_
          show G (T59.setTop (mkF m 221 #[.val (.int i0), .val (.int i1), .val (.int i2), .val (.int i3), .val (.int i4), .val (.int 1), .val (.ref b2), .val (.ref b42), .val (.ref q_51), .val (.int r_52), .val (.int r_55), .val (.int r_57), .val (.int r_59), .val (.int (Int32.ofNat B_51)), .unset, .unset] [(.int r_55)]))
          by_cases hc221_68 : r_55 = (0 : Int32)
          · skip
            refine hG _ _ (fun t_ k_ => XS.ifYes X59.here hx rfl (pc0 := 221) (pc' := 228) rfl (hb hby at_221) rfl ((if0 _ _).trans (teq hc221_68).1) (by decide) (by decide) k_) ?_
            show G (T59.setTop (mkF m 228 #[.val (.int i0), .val (.int i1), .val (.int i2), .val (.int i3), .val (.int i4), .val (.int 1), .val (.ref b2), .val (.ref b42), .val (.ref q_51), .val (.int r_52), .val (.int r_55), .val (.int r_57), .val (.int r_59), .val (.int (Int32.ofNat B_51)), .unset, .unset] []))
            refine hG _ _ (fun t_ k_ => XS.iload X59.here hx rfl (hb hby at_228) rfl k_) ?_
            show G (T59.setTop (mkF m 230 #[.val (.int i0), .val (.int i1), .val (.int i2), .val (.int i3), .val (.int i4), .val (.int 1), .val (.ref b2), .val (.ref b42), .val (.ref q_51), .val (.int r_52), .val (.int r_55), .val (.int r_57), .val (.int r_59), .val (.int (Int32.ofNat B_51)), .unset, .unset] [(.int r_52)]))
            by_cases hc230_69 : r_52 = (0 : Int32)
            · skip
              refine hG _ _ (fun t_ k_ => XS.ifYes X59.here hx rfl (pc0 := 230) (pc' := 237) rfl (hb hby at_230) rfl ((if0 _ _).trans (teq hc230_69).1) (by decide) (by decide) k_) ?_
              show G (T59.setTop (mkF m 237 #[.val (.int i0), .val (.int i1), .val (.int i2), .val (.int i3), .val (.int i4), .val (.int 1), .val (.ref b2), .val (.ref b42), .val (.ref q_51), .val (.int r_52), .val (.int r_55), .val (.int r_57), .val (.int r_59), .val (.int (Int32.ofNat B_51)), .unset, .unset] []))
              refine hG _ _ (fun t_ k_ => XS.iload X59.here hx rfl (hb hby at_237) rfl k_) ?_
              show G (T59.setTop (mkF m 239 #[.val (.int i0), .val (.int i1), .val (.int i2), .val (.int i3), .val (.int i4), .val (.int 1), .val (.ref b2), .val (.ref b42), .val (.ref q_51), .val (.int r_52), .val (.int r_55), .val (.int r_57), .val (.int r_59), .val (.int (Int32.ofNat B_51)), .unset, .unset] [(.int 1)]))
              exact jl _ (own_litN ((own_none r51_5 (Nat.le_of_ble_eq_true rfl) (own_ltS (own_ltS (own_ltS (own_ltS own_lt0 (own_zer so0_54 hc230_69)) (own_zer so1_56 hc221_68)) (own_zer so2_58 hc212_67)) (own_zer so3_60 hc203_66))).2) rfl)
            · skip
              refine hG _ _ (fun t_ k_ => XS.ifNo X59.here hx rfl (hb hby at_230) rfl ((if0 _ _).trans (feq hc230_69).1) k_) ?_
              show G (T59.setTop (mkF m 233 #[.val (.int i0), .val (.int i1), .val (.int i2), .val (.int i3), .val (.int i4), .val (.int 1), .val (.ref b2), .val (.ref b42), .val (.ref q_51), .val (.int r_52), .val (.int r_55), .val (.int r_57), .val (.int r_59), .val (.int (Int32.ofNat B_51)), .unset, .unset] []))
              refine hG _ _ (fun t_ k_ => XS.iconst X59.here hx rfl (hb hby at_233) k_) ?_
              refine hG _ _ (fun t_ k_ => XS.goto X59.here hx rfl (pc0 := 234) (pc' := 239) rfl (hb hby at_234) (by decide) (by decide) k_) ?_
              show G (T59.setTop (mkF m 239 #[.val (.int i0), .val (.int i1), .val (.int i2), .val (.int i3), .val (.int i4), .val (.int 1), .val (.ref b2), .val (.ref b42), .val (.ref q_51), .val (.int r_52), .val (.int r_55), .val (.int r_57), .val (.int r_59), .val (.int (Int32.ofNat B_51)), .unset, .unset] [(.int 1)]))
              exact jl _ (own_litN (own_lst r51_5 (Nat.le_of_ble_eq_true rfl) (fun j hj hj4 => by rcases (show j = 1 ∨ j = 2 ∨ j = 3 by omega) with rfl | rfl | rfl; exact (own_zer so1_56 hc221_68); exact (own_zer so2_58 hc212_67); exact (own_zer so3_60 hc203_66)) (own_one so0_54 hc230_69)) rfl)
          · skip
            refine hG _ _ (fun t_ k_ => XS.ifNo X59.here hx rfl (hb hby at_221) rfl ((if0 _ _).trans (feq hc221_68).1) k_) ?_
            show G (T59.setTop (mkF m 224 #[.val (.int i0), .val (.int i1), .val (.int i2), .val (.int i3), .val (.int i4), .val (.int 1), .val (.ref b2), .val (.ref b42), .val (.ref q_51), .val (.int r_52), .val (.int r_55), .val (.int r_57), .val (.int r_59), .val (.int (Int32.ofNat B_51)), .unset, .unset] []))
            refine hG _ _ (fun t_ k_ => XS.iconst X59.here hx rfl (hb hby at_224) k_) ?_
            refine hG _ _ (fun t_ k_ => XS.goto X59.here hx rfl (pc0 := 225) (pc' := 239) rfl (hb hby at_225) (by decide) (by decide) k_) ?_
            show G (T59.setTop (mkF m 239 #[.val (.int i0), .val (.int i1), .val (.int i2), .val (.int i3), .val (.int i4), .val (.int 1), .val (.ref b2), .val (.ref b42), .val (.ref q_51), .val (.int r_52), .val (.int r_55), .val (.int r_57), .val (.int r_59), .val (.int (Int32.ofNat B_51)), .unset, .unset] [(.int 2)]))
            exact jl _ (own_litN (own_lst r51_5 (Nat.le_of_ble_eq_true rfl) (fun j hj hj4 => by rcases (show j = 2 ∨ j = 3 by omega) with rfl | rfl; exact (own_zer so2_58 hc212_67); exact (own_zer so3_60 hc203_66)) (own_one so1_56 hc221_68)) rfl)
        · skip
          refine hG _ _ (fun t_ k_ => XS.ifNo X59.here hx rfl (hb hby at_212) rfl ((if0 _ _).trans (feq hc212_67).1) k_) ?_
          show G (T59.setTop (mkF m 215 #[.val (.int i0), .val (.int i1), .val (.int i2), .val (.int i3), .val (.int i4), .val (.int 1), .val (.ref b2), .val (.ref b42), .val (.ref q_51), .val (.int r_52), .val (.int r_55), .val (.int r_57), .val (.int r_59), .val (.int (Int32.ofNat B_51)), .unset, .unset] []))
          refine hG _ _ (fun t_ k_ => XS.iconst X59.here hx rfl (hb hby at_215) k_) ?_
          refine hG _ _ (fun t_ k_ => XS.goto X59.here hx rfl (pc0 := 216) (pc' := 239) rfl (hb hby at_216) (by decide) (by decide) k_) ?_
          show G (T59.setTop (mkF m 239 #[.val (.int i0), .val (.int i1), .val (.int i2), .val (.int i3), .val (.int i4), .val (.int 1), .val (.ref b2), .val (.ref b42), .val (.ref q_51), .val (.int r_52), .val (.int r_55), .val (.int r_57), .val (.int r_59), .val (.int (Int32.ofNat B_51)), .unset, .unset] [(.int 3)]))
          exact jl _ (own_litN (own_lst r51_5 (Nat.le_of_ble_eq_true rfl) (fun j hj hj4 => by rcases (show j = 3 by omega) with rfl; exact (own_zer so3_60 hc203_66)) (own_one so2_58 hc212_67)) rfl)
      · skip
        refine hG _ _ (fun t_ k_ => XS.ifNo X59.here hx rfl (hb hby at_203) rfl ((if0 _ _).trans (feq hc203_66).1) k_) ?_
        show G (T59.setTop (mkF m 206 #[.val (.int i0), .val (.int i1), .val (.int i2), .val (.int i3), .val (.int i4), .val (.int 1), .val (.ref b2), .val (.ref b42), .val (.ref q_51), .val (.int r_52), .val (.int r_55), .val (.int r_57), .val (.int r_59), .val (.int (Int32.ofNat B_51)), .unset, .unset] []))
        refine hG _ _ (fun t_ k_ => XS.iconst X59.here hx rfl (hb hby at_206) k_) ?_
        refine hG _ _ (fun t_ k_ => XS.goto X59.here hx rfl (pc0 := 207) (pc' := 239) rfl (hb hby at_207) (by decide) (by decide) k_) ?_
        show G (T59.setTop (mkF m 239 #[.val (.int i0), .val (.int i1), .val (.int i2), .val (.int i3), .val (.int i4), .val (.int 1), .val (.ref b2), .val (.ref b42), .val (.ref q_51), .val (.int r_52), .val (.int r_55), .val (.int r_57), .val (.int r_59), .val (.int (Int32.ofNat B_51)), .unset, .unset] [(.int 4)]))
        exact jl _ (own_litN (own_lst r51_5 (Nat.le_of_ble_eq_true rfl) (fun j hj hj4 => by omega) (own_one so3_60 hc203_66)) rfl)
    show G (T59.setTop (mkF m 161 #[.val (.int i0), .val (.int i1), .val (.int i2), .val (.int i3), .val (.int i4), .val (.int 1), .val (.ref b2), .val (.ref b42), .val (.ref q_51), .val (.int r_52), .val (.int r_55), .val (.int r_57), .val (.int r_59), .unset, .unset, .unset] []))
    refine hG _ _ (fun t_ k_ => XS.iload X59.here hx rfl (hb hby at_161) rfl k_) ?_
    show G (T59.setTop (mkF m 163 #[.val (.int i0), .val (.int i1), .val (.int i2), .val (.int i3), .val (.int i4), .val (.int 1), .val (.ref b2), .val (.ref b42), .val (.ref q_51), .val (.int r_52), .val (.int r_55), .val (.int r_57), .val (.int r_59), .unset, .unset, .unset] [(.int r_52)]))
    by_cases hc163_70 : r_52 = (0 : Int32)
    · skip
      refine hG _ _ (fun t_ k_ => XS.ifYes X59.here hx rfl (pc0 := 163) (pc' := 170) rfl (hb hby at_163) rfl ((if0 _ _).trans (teq hc163_70).1) (by decide) (by decide) k_) ?_
      show G (T59.setTop (mkF m 170 #[.val (.int i0), .val (.int i1), .val (.int i2), .val (.int i3), .val (.int i4), .val (.int 1), .val (.ref b2), .val (.ref b42), .val (.ref q_51), .val (.int r_52), .val (.int r_55), .val (.int r_57), .val (.int r_59), .unset, .unset, .unset] []))
      refine hG _ _ (fun t_ k_ => XS.iload X59.here hx rfl (hb hby at_170) rfl k_) ?_
      show G (T59.setTop (mkF m 172 #[.val (.int i0), .val (.int i1), .val (.int i2), .val (.int i3), .val (.int i4), .val (.int 1), .val (.ref b2), .val (.ref b42), .val (.ref q_51), .val (.int r_52), .val (.int r_55), .val (.int r_57), .val (.int r_59), .unset, .unset, .unset] [(.int r_55)]))
      by_cases hc172_71 : r_55 = (0 : Int32)
      · skip
        refine hG _ _ (fun t_ k_ => XS.ifYes X59.here hx rfl (pc0 := 172) (pc' := 179) rfl (hb hby at_172) rfl ((if0 _ _).trans (teq hc172_71).1) (by decide) (by decide) k_) ?_
        show G (T59.setTop (mkF m 179 #[.val (.int i0), .val (.int i1), .val (.int i2), .val (.int i3), .val (.int i4), .val (.int 1), .val (.ref b2), .val (.ref b42), .val (.ref q_51), .val (.int r_52), .val (.int r_55), .val (.int r_57), .val (.int r_59), .unset, .unset, .unset] []))
        refine hG _ _ (fun t_ k_ => XS.iload X59.here hx rfl (hb hby at_179) rfl k_) ?_
        show G (T59.setTop (mkF m 181 #[.val (.int i0), .val (.int i1), .val (.int i2), .val (.int i3), .val (.int i4), .val (.int 1), .val (.ref b2), .val (.ref b42), .val (.ref q_51), .val (.int r_52), .val (.int r_55), .val (.int r_57), .val (.int r_59), .unset, .unset, .unset] [(.int r_57)]))
        by_cases hc181_72 : r_57 = (0 : Int32)
        · skip
          refine hG _ _ (fun t_ k_ => XS.ifYes X59.here hx rfl (pc0 := 181) (pc' := 188) rfl (hb hby at_181) rfl ((if0 _ _).trans (teq hc181_72).1) (by decide) (by decide) k_) ?_
          show G (T59.setTop (mkF m 188 #[.val (.int i0), .val (.int i1), .val (.int i2), .val (.int i3), .val (.int i4), .val (.int 1), .val (.ref b2), .val (.ref b42), .val (.ref q_51), .val (.int r_52), .val (.int r_55), .val (.int r_57), .val (.int r_59), .unset, .unset, .unset] []))
          refine hG _ _ (fun t_ k_ => XS.iload X59.here hx rfl (hb hby at_188) rfl k_) ?_
          show G (T59.setTop (mkF m 190 #[.val (.int i0), .val (.int i1), .val (.int i2), .val (.int i3), .val (.int i4), .val (.int 1), .val (.ref b2), .val (.ref b42), .val (.ref q_51), .val (.int r_52), .val (.int r_55), .val (.int r_57), .val (.int r_59), .unset, .unset, .unset] [(.int r_59)]))
          by_cases hc190_73 : r_59 = (0 : Int32)
          · skip
            refine hG _ _ (fun t_ k_ => XS.ifYes X59.here hx rfl (pc0 := 190) (pc' := 197) rfl (hb hby at_190) rfl ((if0 _ _).trans (teq hc190_73).1) (by decide) (by decide) k_) ?_
            show G (T59.setTop (mkF m 197 #[.val (.int i0), .val (.int i1), .val (.int i2), .val (.int i3), .val (.int i4), .val (.int 1), .val (.ref b2), .val (.ref b42), .val (.ref q_51), .val (.int r_52), .val (.int r_55), .val (.int r_57), .val (.int r_59), .unset, .unset, .unset] []))
            refine hG _ _ (fun t_ k_ => XS.iload X59.here hx rfl (hb hby at_197) rfl k_) ?_
            show G (T59.setTop (mkF m 199 #[.val (.int i0), .val (.int i1), .val (.int i2), .val (.int i3), .val (.int i4), .val (.int 1), .val (.ref b2), .val (.ref b42), .val (.ref q_51), .val (.int r_52), .val (.int r_55), .val (.int r_57), .val (.int r_59), .unset, .unset, .unset] [(.int 1)]))
            exact jf _ (own_litN ((own_none r51_5 (Nat.le_of_ble_eq_true rfl) (own_ltS (own_ltS (own_ltS (own_ltS own_lt0 (own_zer so0_54 hc163_70)) (own_zer so1_56 hc172_71)) (own_zer so2_58 hc181_72)) (own_zer so3_60 hc190_73))).1) rfl)
          · skip
            refine hG _ _ (fun t_ k_ => XS.ifNo X59.here hx rfl (hb hby at_190) rfl ((if0 _ _).trans (feq hc190_73).1) k_) ?_
            show G (T59.setTop (mkF m 193 #[.val (.int i0), .val (.int i1), .val (.int i2), .val (.int i3), .val (.int i4), .val (.int 1), .val (.ref b2), .val (.ref b42), .val (.ref q_51), .val (.int r_52), .val (.int r_55), .val (.int r_57), .val (.int r_59), .unset, .unset, .unset] []))
            refine hG _ _ (fun t_ k_ => XS.iconst X59.here hx rfl (hb hby at_193) k_) ?_
            refine hG _ _ (fun t_ k_ => XS.goto X59.here hx rfl (pc0 := 194) (pc' := 199) rfl (hb hby at_194) (by decide) (by decide) k_) ?_
            show G (T59.setTop (mkF m 199 #[.val (.int i0), .val (.int i1), .val (.int i2), .val (.int i3), .val (.int i4), .val (.int 1), .val (.ref b2), .val (.ref b42), .val (.ref q_51), .val (.int r_52), .val (.int r_55), .val (.int r_57), .val (.int r_59), .unset, .unset, .unset] [(.int 3)]))
            exact jf _ (own_litN (own_fst r51_5 (own_ltS (own_ltS (own_ltS own_lt0 (own_zer so0_54 hc163_70)) (own_zer so1_56 hc172_71)) (own_zer so2_58 hc181_72)) (own_one so3_60 hc190_73)) rfl)
        · skip
          refine hG _ _ (fun t_ k_ => XS.ifNo X59.here hx rfl (hb hby at_181) rfl ((if0 _ _).trans (feq hc181_72).1) k_) ?_
          show G (T59.setTop (mkF m 184 #[.val (.int i0), .val (.int i1), .val (.int i2), .val (.int i3), .val (.int i4), .val (.int 1), .val (.ref b2), .val (.ref b42), .val (.ref q_51), .val (.int r_52), .val (.int r_55), .val (.int r_57), .val (.int r_59), .unset, .unset, .unset] []))
          refine hG _ _ (fun t_ k_ => XS.iconst X59.here hx rfl (hb hby at_184) k_) ?_
          refine hG _ _ (fun t_ k_ => XS.goto X59.here hx rfl (pc0 := 185) (pc' := 199) rfl (hb hby at_185) (by decide) (by decide) k_) ?_
          show G (T59.setTop (mkF m 199 #[.val (.int i0), .val (.int i1), .val (.int i2), .val (.int i3), .val (.int i4), .val (.int 1), .val (.ref b2), .val (.ref b42), .val (.ref q_51), .val (.int r_52), .val (.int r_55), .val (.int r_57), .val (.int r_59), .unset, .unset, .unset] [(.int 2)]))
          exact jf _ (own_litN (own_fst r51_5 (own_ltS (own_ltS own_lt0 (own_zer so0_54 hc163_70)) (own_zer so1_56 hc172_71)) (own_one so2_58 hc181_72)) rfl)
      · skip
        refine hG _ _ (fun t_ k_ => XS.ifNo X59.here hx rfl (hb hby at_172) rfl ((if0 _ _).trans (feq hc172_71).1) k_) ?_
        show G (T59.setTop (mkF m 175 #[.val (.int i0), .val (.int i1), .val (.int i2), .val (.int i3), .val (.int i4), .val (.int 1), .val (.ref b2), .val (.ref b42), .val (.ref q_51), .val (.int r_52), .val (.int r_55), .val (.int r_57), .val (.int r_59), .unset, .unset, .unset] []))
        refine hG _ _ (fun t_ k_ => XS.iconst X59.here hx rfl (hb hby at_175) k_) ?_
        refine hG _ _ (fun t_ k_ => XS.goto X59.here hx rfl (pc0 := 176) (pc' := 199) rfl (hb hby at_176) (by decide) (by decide) k_) ?_
        show G (T59.setTop (mkF m 199 #[.val (.int i0), .val (.int i1), .val (.int i2), .val (.int i3), .val (.int i4), .val (.int 1), .val (.ref b2), .val (.ref b42), .val (.ref q_51), .val (.int r_52), .val (.int r_55), .val (.int r_57), .val (.int r_59), .unset, .unset, .unset] [(.int 1)]))
        exact jf _ (own_litN (own_fst r51_5 (own_ltS own_lt0 (own_zer so0_54 hc163_70)) (own_one so1_56 hc172_71)) rfl)
    · skip
      refine hG _ _ (fun t_ k_ => XS.ifNo X59.here hx rfl (hb hby at_163) rfl ((if0 _ _).trans (feq hc163_70).1) k_) ?_
      show G (T59.setTop (mkF m 166 #[.val (.int i0), .val (.int i1), .val (.int i2), .val (.int i3), .val (.int i4), .val (.int 1), .val (.ref b2), .val (.ref b42), .val (.ref q_51), .val (.int r_52), .val (.int r_55), .val (.int r_57), .val (.int r_59), .unset, .unset, .unset] []))
      refine hG _ _ (fun t_ k_ => XS.iconst X59.here hx rfl (hb hby at_166) k_) ?_
      refine hG _ _ (fun t_ k_ => XS.goto X59.here hx rfl (pc0 := 167) (pc' := 199) rfl (hb hby at_167) (by decide) (by decide) k_) ?_
      show G (T59.setTop (mkF m 199 #[.val (.int i0), .val (.int i1), .val (.int i2), .val (.int i3), .val (.int i4), .val (.int 1), .val (.ref b2), .val (.ref b42), .val (.ref q_51), .val (.int r_52), .val (.int r_55), .val (.int r_57), .val (.int r_59), .unset, .unset, .unset] [(.int 0)]))
      exact jf _ (own_litN (own_fst r51_5 own_lt0 (own_one so0_54 hc163_70)) rfl)
  · skip
    show G (T13.setTop (mkF m 46 #[.val (.int i0), .val (.int i1), .val (.int i2), .val (.int i3), .val (.int i4), .val (.int 2), .val (.ref b2), .unset, .unset, .unset, .unset, .unset, .unset, .unset, .unset, .unset] []))
    refine hG _ _ (fun t_ k_ => XS.iload X13.here hx rfl (hb hby at_46) rfl k_) ?_
    show G (T13.setTop (mkF m 48 #[.val (.int i0), .val (.int i1), .val (.int i2), .val (.int i3), .val (.int i4), .val (.int 2), .val (.ref b2), .unset, .unset, .unset, .unset, .unset, .unset, .unset, .unset, .unset] [(.int 2)]))
    obtain ⟨T74, h74, k74, X74, e74, E74, A74, st74⟩ := newP X13 hx hZ (ow hw 0 rfl) e13 (g := (mkF m 48 #[.val (.int i0), .val (.int i1), .val (.int i2), .val (.int i3), .val (.int i4), .val (.int 2), .val (.ref b2), .unset, .unset, .unset, .unset, .unset, .unset, .unset, .unset, .unset] [(.int 2)])) rfl (hb hby at_48) rfl (by decide) (cap := 2) (by decide) (by decide) (by decide) (by decide)
    obtain ⟨b74, z74⟩ : ∃ z, z = h13.size := ⟨_, rfl⟩
    rw [← z74] at A74 st74
    refine hG _ _ st74 ?_
    have R74 := (CHr.ext E74 R13.1)
    have C74 := C13.trans R74
    have K74 : Keep h0 h74 [] := K13.ext E74
    have O74 : own_Old Z h74 := O13.ext E74
    have V74 : Arv Z h74 b74 k74 .char (2 : Int32) [(.int 0), (.int 0)] (.int 0) := (Arv.new A74 (by decide)).pad (pad_rep [] (.int 0) 2)
    show G (T74.setTop (mkF m 50 #[.val (.int i0), .val (.int i1), .val (.int i2), .val (.int i3), .val (.int i4), .val (.int 2), .val (.ref b2), .unset, .unset, .unset, .unset, .unset, .unset, .unset, .unset, .unset] [(.ref b74)]))
    refine hG _ _ (fun t_ k_ => XS.astore X74.here hx rfl (hb hby at_50) rfl rfl (l' := #[.val (.int i0), .val (.int i1), .val (.int i2), .val (.int i3), .val (.int i4), .val (.int 2), .val (.ref b2), .val (.ref b74), .unset, .unset, .unset, .unset, .unset, .unset, .unset, .unset]) rfl k_) ?_
    refine hG _ _ (fun t_ k_ => XS.iload X74.here hx rfl (hb hby at_52) rfl k_) ?_
    show G (T74.setTop (mkF m 54 #[.val (.int i0), .val (.int i1), .val (.int i2), .val (.int i3), .val (.int i4), .val (.int 2), .val (.ref b2), .val (.ref b74), .unset, .unset, .unset, .unset, .unset, .unset, .unset, .unset] [(.int 2)]))
    refine hG _ _ (fun t_ k_ => XS.ifNo X74.here hx rfl (hb hby at_54) rfl ((if0 _ _).trans (tlt (by decide)).2.2.2) k_) ?_
    show G (T74.setTop (mkF m 57 #[.val (.int i0), .val (.int i1), .val (.int i2), .val (.int i3), .val (.int i4), .val (.int 2), .val (.ref b2), .val (.ref b74), .unset, .unset, .unset, .unset, .unset, .unset, .unset, .unset] []))
    refine hG _ _ (fun t_ k_ => XS.aload X74.here hx rfl (hb hby at_57) rfl rfl k_) ?_
    refine hG _ _ (fun t_ k_ => XS.iconst X74.here hx rfl (hb hby at_59) k_) ?_
    refine hG _ _ (fun t_ k_ => XS.aload X74.here hx rfl (hb hby at_60) rfl rfl k_) ?_
    refine hG _ _ (fun t_ k_ => XS.iconst X74.here hx rfl (hb hby at_62) k_) ?_
    show G (T74.setTop (mkF m 63 #[.val (.int i0), .val (.int i1), .val (.int i2), .val (.int i3), .val (.int i4), .val (.int 2), .val (.ref b2), .val (.ref b74), .unset, .unset, .unset, .unset, .unset, .unset, .unset, .unset] [(.int 0), (.ref b2), (.int 0), (.ref b74)]))
    have f76 := (V13.ext E74)
    obtain ⟨c75, Ar75, q75, S75, M75, H75, G75⟩ := id f76
    have hin75 : ¬ ((0 : Int32) < 0 ∨ c75.slots.size ≤ (0 : Int32).toNatClampNeg) := inb_of S75 ⟨by decide, by decide⟩
    refine hG _ _ (X74.caload hx (j := (0 : Int32)) (v := (.int r_3)) (by rw [e74]; exact Ar75.1) (State.isArrayOf_alike hZ.alike Ar75.2.1) Ar75.2.2 hin75 (Has.at H75 hin75 rfl) (g := (mkF m 63 #[.val (.int i0), .val (.int i1), .val (.int i2), .val (.int i3), .val (.int i4), .val (.int 2), .val (.ref b2), .val (.ref b74), .unset, .unset, .unset, .unset, .unset, .unset, .unset, .unset] [(.int 0), (.ref b2), (.int 0), (.ref b74)])) rfl rfl (hb hby at_63)) ?_
    show G (T74.setTop (mkF m 64 #[.val (.int i0), .val (.int i1), .val (.int i2), .val (.int i3), .val (.int i4), .val (.int 2), .val (.ref b2), .val (.ref b74), .unset, .unset, .unset, .unset, .unset, .unset, .unset, .unset] [(.int r_3), (.int 0), (.ref b74)]))
    obtain ⟨c77, Ar77, q77, S77, M77, H77, G77⟩ := id V74
    obtain ⟨T77, h77, X77, e77, W77, st77⟩ := stC X74 hx hZ e74 Ar77 (j := (0 : Int32)) (inb_of S77 ⟨by decide, by decide⟩) (g := (mkF m 64 #[.val (.int i0), .val (.int i1), .val (.int i2), .val (.int i3), .val (.int i4), .val (.int 2), .val (.ref b2), .val (.ref b74), .unset, .unset, .unset, .unset, .unset, .unset, .unset, .unset] [(.int r_3), (.int 0), (.ref b74)])) rfl rfl (hb hby at_64)
    refine hG _ _ st77 ?_
    have sf78 : Safe Z consts_1 _ h74 b74 := (own_safeArv hZ.alike V74 (by decide))
    have R77 := (CHr.wr W77 sf78 R74.1)
    have C77 := C74.trans R77
    have K77 : Keep h0 h77 [] := K74.wr W77 (Or.inr (Nat.le_trans K13.1 (Nat.le_of_eq z74.symm)))
    have O77 : own_Old Z h77 := O74.wr W77 (own_ge O13 (Nat.le_of_eq z74.symm))
    rw [own_narC r3_0] at W77
    have V77 : Arv Z h77 b74 k74 .char (2 : Int32) [(.int r_3), (.int 0)] (.int 0) := Arv.set Ar77 q77 S77 M77 H77 G77 (own_fitC r3_0) W77 0 rfl (Nat.le_of_ble_eq_true rfl)
    have N77 := Fr.snoc X77 N13 (own_ge O13 (Nat.le_of_eq z74.symm))
    show G (T77.setTop (mkF m 65 #[.val (.int i0), .val (.int i1), .val (.int i2), .val (.int i3), .val (.int i4), .val (.int 2), .val (.ref b2), .val (.ref b74), .unset, .unset, .unset, .unset, .unset, .unset, .unset, .unset] []))
    refine hG _ _ (fun t_ k_ => XS.iload X77.here hx rfl (hb hby at_65) rfl k_) ?_
    refine hG _ _ (fun t_ k_ => XS.iconst X77.here hx rfl (hb hby at_67) k_) ?_
    show G (T77.setTop (mkF m 68 #[.val (.int i0), .val (.int i1), .val (.int i2), .val (.int i3), .val (.int i4), .val (.int 2), .val (.ref b2), .val (.ref b74), .unset, .unset, .unset, .unset, .unset, .unset, .unset, .unset] [(.int 1), (.int 2)]))
    refine hG _ _ (fun t_ k_ => XS.icmpNo X77.here hx rfl (hb hby at_68) rfl (tlt (by decide)).2.2.2 k_) ?_
    show G (T77.setTop (mkF m 71 #[.val (.int i0), .val (.int i1), .val (.int i2), .val (.int i3), .val (.int i4), .val (.int 2), .val (.ref b2), .val (.ref b74), .unset, .unset, .unset, .unset, .unset, .unset, .unset, .unset] []))
    refine hG _ _ (fun t_ k_ => XS.aload X77.here hx rfl (hb hby at_71) rfl rfl k_) ?_
    refine hG _ _ (fun t_ k_ => XS.iconst X77.here hx rfl (hb hby at_73) k_) ?_
    refine hG _ _ (fun t_ k_ => XS.aload X77.here hx rfl (hb hby at_74) rfl rfl k_) ?_
    refine hG _ _ (fun t_ k_ => XS.iconst X77.here hx rfl (hb hby at_76) k_) ?_
    show G (T77.setTop (mkF m 77 #[.val (.int i0), .val (.int i1), .val (.int i2), .val (.int i3), .val (.int i4), .val (.int 2), .val (.ref b2), .val (.ref b74), .unset, .unset, .unset, .unset, .unset, .unset, .unset, .unset] [(.int 1), (.ref b2), (.int 1), (.ref b74)]))
    have f80 := (f76.other W77 (own_ne V13.lt (Nat.le_of_eq z74.symm)))
    obtain ⟨c79, Ar79, q79, S79, M79, H79, G79⟩ := id f80
    have hin79 : ¬ ((1 : Int32) < 0 ∨ c79.slots.size ≤ (1 : Int32).toNatClampNeg) := inb_of S79 ⟨by decide, by decide⟩
    refine hG _ _ (X77.caload hx (j := (1 : Int32)) (v := (.int r_6)) (by rw [e77]; exact Ar79.1) (State.isArrayOf_alike hZ.alike Ar79.2.1) Ar79.2.2 hin79 (Has.at H79 hin79 rfl) (g := (mkF m 77 #[.val (.int i0), .val (.int i1), .val (.int i2), .val (.int i3), .val (.int i4), .val (.int 2), .val (.ref b2), .val (.ref b74), .unset, .unset, .unset, .unset, .unset, .unset, .unset, .unset] [(.int 1), (.ref b2), (.int 1), (.ref b74)])) rfl rfl (hb hby at_77)) ?_
    show G (T77.setTop (mkF m 78 #[.val (.int i0), .val (.int i1), .val (.int i2), .val (.int i3), .val (.int i4), .val (.int 2), .val (.ref b2), .val (.ref b74), .unset, .unset, .unset, .unset, .unset, .unset, .unset, .unset] [(.int r_6), (.int 1), (.ref b74)]))
    obtain ⟨c81, Ar81, q81, S81, M81, H81, G81⟩ := id V77
    obtain ⟨T81, h81, X81, e81, W81, st81⟩ := stC X77 hx hZ e77 Ar81 (j := (1 : Int32)) (inb_of S81 ⟨by decide, by decide⟩) (g := (mkF m 78 #[.val (.int i0), .val (.int i1), .val (.int i2), .val (.int i3), .val (.int i4), .val (.int 2), .val (.ref b2), .val (.ref b74), .unset, .unset, .unset, .unset, .unset, .unset, .unset, .unset] [(.int r_6), (.int 1), (.ref b74)])) rfl rfl (hb hby at_78)
    refine hG _ _ st81 ?_
    have sf82 := (R77.safe V74.lt sf78)
    have R81 := (CHr.wr W81 sf82 R77.1)
    have C81 := C77.trans R81
    have K81 : Keep h0 h81 [] := K77.wr W81 (Or.inr (Nat.le_trans K13.1 (Nat.le_of_eq z74.symm)))
    have O81 : own_Old Z h81 := O77.wr W81 (own_ge O13 (Nat.le_of_eq z74.symm))
    rw [own_narC r6_0] at W81
    have V81 : Arv Z h81 b74 k74 .char (2 : Int32) [(.int r_3), (.int r_6)] (.int 0) := Arv.set Ar81 q81 S81 M81 H81 G81 (own_fitC r6_0) W81 1 rfl (Nat.le_of_ble_eq_true rfl)
    have N81 := Fr.snoc X81 N77 (own_ge O13 (Nat.le_of_eq z74.symm))
    show G (T81.setTop (mkF m 79 #[.val (.int i0), .val (.int i1), .val (.int i2), .val (.int i3), .val (.int i4), .val (.int 2), .val (.ref b2), .val (.ref b74), .unset, .unset, .unset, .unset, .unset, .unset, .unset, .unset] []))
    refine hG _ _ (fun t_ k_ => XS.iload X81.here hx rfl (hb hby at_79) rfl k_) ?_
    refine hG _ _ (fun t_ k_ => XS.iconst X81.here hx rfl (hb hby at_81) k_) ?_
    show G (T81.setTop (mkF m 82 #[.val (.int i0), .val (.int i1), .val (.int i2), .val (.int i3), .val (.int i4), .val (.int 2), .val (.ref b2), .val (.ref b74), .unset, .unset, .unset, .unset, .unset, .unset, .unset, .unset] [(.int 2), (.int 2)]))
    refine hG _ _ (fun t_ k_ => XS.icmpYes X81.here hx rfl (pc0 := 82) (pc' := 93) rfl (hb hby at_82) rfl (flt (by decide)).2.2.2 (by decide) (by decide) k_) ?_
    show G (T81.setTop (mkF m 93 #[.val (.int i0), .val (.int i1), .val (.int i2), .val (.int i3), .val (.int i4), .val (.int 2), .val (.ref b2), .val (.ref b74), .unset, .unset, .unset, .unset, .unset, .unset, .unset, .unset] []))
    refine hG _ _ (fun t_ k_ => XS.iload X81.here hx rfl (hb hby at_93) rfl k_) ?_
    refine hG _ _ (fun t_ k_ => XS.iconst X81.here hx rfl (hb hby at_95) k_) ?_
    show G (T81.setTop (mkF m 96 #[.val (.int i0), .val (.int i1), .val (.int i2), .val (.int i3), .val (.int i4), .val (.int 2), .val (.ref b2), .val (.ref b74), .unset, .unset, .unset, .unset, .unset, .unset, .unset, .unset] [(.int 3), (.int 2)]))
    refine hG _ _ (fun t_ k_ => XS.icmpYes X81.here hx rfl (pc0 := 96) (pc' := 107) rfl (hb hby at_96) rfl (flt (by decide)).2.2.2 (by decide) (by decide) k_) ?_
    show G (T81.setTop (mkF m 107 #[.val (.int i0), .val (.int i1), .val (.int i2), .val (.int i3), .val (.int i4), .val (.int 2), .val (.ref b2), .val (.ref b74), .unset, .unset, .unset, .unset, .unset, .unset, .unset, .unset] []))
    obtain ⟨T83, h83, X83, e83, E83, A83, D83, -, st83⟩ := newO X81 hx hZ hown (ow hw 6 rfl) (ow hw 7 rfl) (ow hw 8 rfl) e81 (g := (mkF m 107 #[.val (.int i0), .val (.int i1), .val (.int i2), .val (.int i3), .val (.int i4), .val (.int 2), .val (.ref b2), .val (.ref b74), .unset, .unset, .unset, .unset, .unset, .unset, .unset, .unset] [])) rfl (hb hby at_107) (by decide) (by decide)
    obtain ⟨b83, z83⟩ : ∃ z, z = h81.size := ⟨_, rfl⟩
    rw [← z83] at A83 D83 st83
    refine hG _ _ st83 ?_
    have R83 := (CHr.ext E83 R81.1)
    have C83 := C81.trans R83
    have K83 : Keep h0 h83 [] := K81.ext E83
    have O83 : own_Old Z h83 := O81.ext E83
    show G (T83.setTop (mkF m 110 #[.val (.int i0), .val (.int i1), .val (.int i2), .val (.int i3), .val (.int i4), .val (.int 2), .val (.ref b2), .val (.ref b74), .unset, .unset, .unset, .unset, .unset, .unset, .unset, .unset] [(.ref b83)]))
    refine hG _ _ (fun t_ k_ => XS.dup X83.here hx rfl (hb hby at_110) rfl rfl k_) ?_
    refine hG _ _ (fun t_ k_ => XS.aload X83.here hx rfl (hb hby at_111) rfl rfl k_) ?_
    show G (T83.setTop (mkF m 113 #[.val (.int i0), .val (.int i1), .val (.int i2), .val (.int i3), .val (.int i4), .val (.int 2), .val (.ref b2), .val (.ref b74), .unset, .unset, .unset, .unset, .unset, .unset, .unset, .unset] [(.ref b74), (.ref b83), (.ref b83)]))
    have f85 := (V81.ext E83)
    refine own_callI X83 hx hZ hG hown rfl (ow hw 9 rfl) (ow hw 10 rfl) (ow hw 8 rfl) (ow hw 11 rfl) (by decide) 1 (own_gstr1 l Z a0 hw b83 b74 k74 [r_3, r_6] cpt (.int 0) .null h83 O83 A83 (D83 (Or.inr (ow hw 22 rfl)) (ty := .byte) (by decide)) (D83 (Or.inr (ow hw 21 rfl)) (ty := (.array .byte)) (by decide)) (own_ge O81 (Nat.le_of_eq z83.symm)) f85 (Nat.le_of_ble_eq_true rfl) (Nat.le_of_ble_eq_true rfl) (own_allc r3_0 (own_allc r6_0 own_alln)) g0_S g1_hcpt g2_S g3_S g4_S) (by decide) (by decide) e83 (by rw [hml]; rfl) (lenOf own_pd8 rfl) (argsL := [(.ref b74)]) (rest := [(.ref b83)]) rfl rfl (Nat.le_of_eq rfl) (hb hby at_113) (by decide) (by decide) ?_
    intro T84 h84 v84 L84 X84 e84 q84
    obtain ⟨t_84, kt_84, cd_84, nb_84, vs_84, rfl, M84, J84, y84_0, r84_0, r84_1, r84_2, r84_3, r84_4⟩ := q84
    have N84 := Fr.app N81 M84
    have sf86 : Safe Z consts_1 _ h83 b83 := (own_safeStr hZ.alike A83 (D83 (Or.inr (ow hw 21 rfl)) (ty := (.array .byte)) (by decide)))
    have R84 := (CHr.keep J84 (allS sf86 all0) R83.1)
    have C84 := C83.trans R84
    have K84 : Keep h0 h84 [] := K83.trans J84 (allS (Or.inr (Nat.le_trans K81.1 (Nat.le_of_eq z83.symm))) all0)
    have O84 : own_Old Z h84 := O83.keep J84 (allS (own_ge O81 (Nat.le_of_eq z83.symm)) all0)
    show G (T84.setTop (mkF m 116 #[.val (.int i0), .val (.int i1), .val (.int i2), .val (.int i3), .val (.int i4), .val (.int 2), .val (.ref b2), .val (.ref b74), .unset, .unset, .unset, .unset, .unset, .unset, .unset, .unset] [(.ref b83)]))
    refine own_callSW X84 hx hZ hG hown (ow hw 27 rfl) (ow hw 28 rfl) (ow hw 29 rfl) (ow hw 30 rfl) (by decide) 0 (own_strip l Z a0 hw hEL b83 t_84 kt_84 [r_3, r_6] cd_84 nb_84 vs_84 cpt fmt h84 O84 r84_0 r84_1 r84_2 r84_3 r84_4 (Nat.le_of_ble_eq_true rfl) (own_allc r3_0 (own_allc r6_0 own_alln)) g0_S g1_hcpt g2_S g3_S g4_S g5_hfmt g6_S) (by decide) (by decide) e84 SI0 (Nat.le_trans (Nat.le_trans (Nat.le_trans (Nat.le_trans (Nat.le_trans (Nat.le_trans (Nat.le_trans (Nat.le_trans (Nat.le_trans (Nat.le_trans (Nat.le_refl _) R2.2.1) R4.2.1) R7.2.1) R10.2.1) R13.2.1) R74.2.1) R77.2.1) R81.2.1) R83.2.1) R84.2.1) hEL R84.1 (by rw [hml]; rfl) (lenOf own_pd28 rfl) (argsL := [(.ref b83)]) (rest := []) rfl rfl (Nat.le_of_eq rfl) (hb hby at_116) (by decide) (by decide) ?_
    intro T87 h87 v87 L87 X87 e87 SI87 hZ87 hown87 Y87 q87
    obtain ⟨B_87, E_87, q_87, u_87, ku_87, c2_87, n2_87, us_87, rfl, M87, J87, r87_0, r87_1, r87_2, r87_3, r87_4, r87_5⟩ := q87
    have N87 := Fr.app N84 M87
    have R87 := Y87
    have C87 := C84.trans R87
    have K87 : Keep h0 h87 [] := K84.trans J87 all0
    have O87 : own_Old Z h87 := O84.keep J87 all0
    show G (T87.setTop (mkF m 119 #[.val (.int i0), .val (.int i1), .val (.int i2), .val (.int i3), .val (.int i4), .val (.int 2), .val (.ref b2), .val (.ref b74), .unset, .unset, .unset, .unset, .unset, .unset, .unset, .unset] [(.ref q_87)]))
    refine hG _ _ (fun t_ k_ => XS.astore X87.here hx rfl (hb hby at_119) rfl rfl (l' := #[.val (.int i0), .val (.int i1), .val (.int i2), .val (.int i3), .val (.int i4), .val (.int 2), .val (.ref b2), .val (.ref b74), .val (.ref q_87), .unset, .unset, .unset, .unset, .unset, .unset, .unset]) rfl k_) ?_
    refine hG _ _ (fun t_ k_ => XS.aload X87.here hx rfl (hb hby at_121) rfl rfl k_) ?_
    refine hG _ _ (fun t_ k_ => XS.iload X87.here hx rfl (hb hby at_123) rfl k_) ?_
    refine hG _ _ (fun t_ k_ => XS.iconst X87.here hx rfl (hb hby at_125) k_) ?_
    show G (T87.setTop (mkF m 126 #[.val (.int i0), .val (.int i1), .val (.int i2), .val (.int i3), .val (.int i4), .val (.int 2), .val (.ref b2), .val (.ref b74), .val (.ref q_87), .unset, .unset, .unset, .unset, .unset, .unset, .unset] [(.int 0), (.int 2), (.ref b2)]))
    have f89 := ((((f80.other W81 (own_ne V13.lt (Nat.le_of_eq z74.symm))).ext E83).keep J84 (ninS (own_ne (Nat.lt_of_lt_of_le f80.lt (Keep.of_wr W81).1) (Nat.le_of_eq z83.symm)) nin0)).keep J87 nin0)
    refine own_callS X87 hx hZ87 hG hown87 (ow hw 56 rfl) (ow hw 57 rfl) (ow hw 3 rfl) (ow hw 58 rfl) (by decide) 0 (own_sol0 l Z a0 hw b2 (2 : Int32) k2 r_3 r_6 r_9 r_12 h87 O87 f89) (by decide) (by decide) e87 (by rw [hml]; rfl) (lenOf own_pd29 rfl) (argsL := [(.ref b2), (.int 2), (.int 0)]) (rest := []) rfl rfl (Nat.le_of_eq rfl) (hb hby at_126) (by decide) (by decide) ?_
    intro T88 h88 v88 L88 X88 e88 q88
    obtain ⟨r_88, rfl, M88, rfl, r88_0⟩ := q88
    have N88 := Fr.app N87 M88
    show G (T88.setTop (mkF m 129 #[.val (.int i0), .val (.int i1), .val (.int i2), .val (.int i3), .val (.int i4), .val (.int 2), .val (.ref b2), .val (.ref b74), .val (.ref q_87), .unset, .unset, .unset, .unset, .unset, .unset, .unset] [(.int r_88)]))
    have so0_90 := own_solc (cs := [r_3, r_6]) (k := 0) r88_0 rfl rfl (by decide) (Nat.le_of_ble_eq_true rfl) (fun _ => rfl)
    refine hG _ _ (fun t_ k_ => XS.istore X88.here hx rfl (hb hby at_129) rfl (l' := #[.val (.int i0), .val (.int i1), .val (.int i2), .val (.int i3), .val (.int i4), .val (.int 2), .val (.ref b2), .val (.ref b74), .val (.ref q_87), .val (.int r_88), .unset, .unset, .unset, .unset, .unset, .unset]) rfl k_) ?_
    refine hG _ _ (fun t_ k_ => XS.aload X88.here hx rfl (hb hby at_131) rfl rfl k_) ?_
    refine hG _ _ (fun t_ k_ => XS.iload X88.here hx rfl (hb hby at_133) rfl k_) ?_
    refine hG _ _ (fun t_ k_ => XS.iconst X88.here hx rfl (hb hby at_135) k_) ?_
    show G (T88.setTop (mkF m 136 #[.val (.int i0), .val (.int i1), .val (.int i2), .val (.int i3), .val (.int i4), .val (.int 2), .val (.ref b2), .val (.ref b74), .val (.ref q_87), .val (.int r_88), .unset, .unset, .unset, .unset, .unset, .unset] [(.int 1), (.int 2), (.ref b2)]))
    refine own_callS X88 hx hZ87 hG hown87 (ow hw 56 rfl) (ow hw 57 rfl) (ow hw 3 rfl) (ow hw 58 rfl) (by decide) 0 (own_sol1 l Z a0 hw b2 (2 : Int32) k2 r_3 r_6 r_9 r_12 h87 O87 f89) (by decide) (by decide) e88 (by rw [hml]; rfl) (lenOf own_pd29 rfl) (argsL := [(.ref b2), (.int 2), (.int 1)]) (rest := []) rfl rfl (Nat.le_of_eq rfl) (hb hby at_136) (by decide) (by decide) ?_
    intro T91 h91 v91 L91 X91 e91 q91
    obtain ⟨r_91, rfl, M91, rfl, r91_0⟩ := q91
    have N91 := Fr.app N88 M91
    show G (T91.setTop (mkF m 139 #[.val (.int i0), .val (.int i1), .val (.int i2), .val (.int i3), .val (.int i4), .val (.int 2), .val (.ref b2), .val (.ref b74), .val (.ref q_87), .val (.int r_88), .unset, .unset, .unset, .unset, .unset, .unset] [(.int r_91)]))
    have so1_92 := own_solc (cs := [r_3, r_6]) (k := 1) r91_0 rfl rfl (by decide) (Nat.le_of_ble_eq_true rfl) (fun _ => rfl)
    refine hG _ _ (fun t_ k_ => XS.istore X91.here hx rfl (hb hby at_139) rfl (l' := #[.val (.int i0), .val (.int i1), .val (.int i2), .val (.int i3), .val (.int i4), .val (.int 2), .val (.ref b2), .val (.ref b74), .val (.ref q_87), .val (.int r_88), .val (.int r_91), .unset, .unset, .unset, .unset, .unset]) rfl k_) ?_
    refine hG _ _ (fun t_ k_ => XS.aload X91.here hx rfl (hb hby at_141) rfl rfl k_) ?_
    refine hG _ _ (fun t_ k_ => XS.iload X91.here hx rfl (hb hby at_143) rfl k_) ?_
    refine hG _ _ (fun t_ k_ => XS.iconst X91.here hx rfl (hb hby at_145) k_) ?_
    show G (T91.setTop (mkF m 146 #[.val (.int i0), .val (.int i1), .val (.int i2), .val (.int i3), .val (.int i4), .val (.int 2), .val (.ref b2), .val (.ref b74), .val (.ref q_87), .val (.int r_88), .val (.int r_91), .unset, .unset, .unset, .unset, .unset] [(.int 2), (.int 2), (.ref b2)]))
    refine own_callS X91 hx hZ87 hG hown87 (ow hw 56 rfl) (ow hw 57 rfl) (ow hw 3 rfl) (ow hw 58 rfl) (by decide) 0 (own_sol2 l Z a0 hw b2 (2 : Int32) k2 r_3 r_6 r_9 r_12 h87 O87 f89) (by decide) (by decide) e91 (by rw [hml]; rfl) (lenOf own_pd29 rfl) (argsL := [(.ref b2), (.int 2), (.int 2)]) (rest := []) rfl rfl (Nat.le_of_eq rfl) (hb hby at_146) (by decide) (by decide) ?_
    intro T93 h93 v93 L93 X93 e93 q93
    obtain ⟨r_93, rfl, M93, rfl, r93_0⟩ := q93
    have N93 := Fr.app N91 M93
    show G (T93.setTop (mkF m 149 #[.val (.int i0), .val (.int i1), .val (.int i2), .val (.int i3), .val (.int i4), .val (.int 2), .val (.ref b2), .val (.ref b74), .val (.ref q_87), .val (.int r_88), .val (.int r_91), .unset, .unset, .unset, .unset, .unset] [(.int r_93)]))
    have so2_94 := own_solc (cs := [r_3, r_6]) (k := 2) r93_0 rfl rfl (by decide) (Nat.le_of_ble_eq_true rfl) (fun q => absurd q (Nat.not_lt.mpr (Nat.le_of_ble_eq_true rfl)))
    refine hG _ _ (fun t_ k_ => XS.istore X93.here hx rfl (hb hby at_149) rfl (l' := #[.val (.int i0), .val (.int i1), .val (.int i2), .val (.int i3), .val (.int i4), .val (.int 2), .val (.ref b2), .val (.ref b74), .val (.ref q_87), .val (.int r_88), .val (.int r_91), .val (.int r_93), .unset, .unset, .unset, .unset]) rfl k_) ?_
    refine hG _ _ (fun t_ k_ => XS.aload X93.here hx rfl (hb hby at_151) rfl rfl k_) ?_
    refine hG _ _ (fun t_ k_ => XS.iload X93.here hx rfl (hb hby at_153) rfl k_) ?_
    refine hG _ _ (fun t_ k_ => XS.iconst X93.here hx rfl (hb hby at_155) k_) ?_
    show G (T93.setTop (mkF m 156 #[.val (.int i0), .val (.int i1), .val (.int i2), .val (.int i3), .val (.int i4), .val (.int 2), .val (.ref b2), .val (.ref b74), .val (.ref q_87), .val (.int r_88), .val (.int r_91), .val (.int r_93), .unset, .unset, .unset, .unset] [(.int 3), (.int 2), (.ref b2)]))
    refine own_callS X93 hx hZ87 hG hown87 (ow hw 56 rfl) (ow hw 57 rfl) (ow hw 3 rfl) (ow hw 58 rfl) (by decide) 0 (own_sol3 l Z a0 hw b2 (2 : Int32) k2 r_3 r_6 r_9 r_12 h87 O87 f89) (by decide) (by decide) e93 (by rw [hml]; rfl) (lenOf own_pd29 rfl) (argsL := [(.ref b2), (.int 2), (.int 3)]) (rest := []) rfl rfl (Nat.le_of_eq rfl) (hb hby at_156) (by decide) (by decide) ?_
    intro T95 h95 v95 L95 X95 e95 q95
    obtain ⟨r_95, rfl, M95, rfl, r95_0⟩ := q95
    have N95 := Fr.app N93 M95
    show G (T95.setTop (mkF m 159 #[.val (.int i0), .val (.int i1), .val (.int i2), .val (.int i3), .val (.int i4), .val (.int 2), .val (.ref b2), .val (.ref b74), .val (.ref q_87), .val (.int r_88), .val (.int r_91), .val (.int r_93), .unset, .unset, .unset, .unset] [(.int r_95)]))
    have so3_96 := own_solc (cs := [r_3, r_6]) (k := 3) r95_0 rfl rfl (by decide) (Nat.le_of_ble_eq_true rfl) (fun q => absurd q (Nat.not_lt.mpr (Nat.le_of_ble_eq_true rfl)))
    refine hG _ _ (fun t_ k_ => XS.istore X95.here hx rfl (hb hby at_159) rfl (l' := #[.val (.int i0), .val (.int i1), .val (.int i2), .val (.int i3), .val (.int i4), .val (.int 2), .val (.ref b2), .val (.ref b74), .val (.ref q_87), .val (.int r_88), .val (.int r_91), .val (.int r_93), .val (.int r_95), .unset, .unset, .unset]) rfl k_) ?_
    show G (T95.setTop (mkF m 161 #[.val (.int i0), .val (.int i1), .val (.int i2), .val (.int i3), .val (.int i4), .val (.int 2), .val (.ref b2), .val (.ref b74), .val (.ref q_87), .val (.int r_88), .val (.int r_91), .val (.int r_93), .val (.int r_95), .unset, .unset, .unset] []))
    have jf : ∀ (f : Int32), (f = Int32.ofNat B_87) → G (T95.setTop (mkF m 199 #[.val (.int i0), .val (.int i1), .val (.int i2), .val (.int i3), .val (.int i4), .val (.int 2), .val (.ref b2), .val (.ref b74), .val (.ref q_87), .val (.int r_88), .val (.int r_91), .val (.int r_93), .val (.int r_95), .unset, .unset, .unset] [(.int f)])) := by
      intro f hf
      subst hf
      show G (T95.setTop (mkF m 199 #[.val (.int i0), .val (.int i1), .val (.int i2), .val (.int i3), .val (.int i4), .val (.int 2), .val (.ref b2), .val (.ref b74), .val (.ref q_87), .val (.int r_88), .val (.int r_91), .val (.int r_93), .val (.int r_95), .unset, .unset, .unset] [(.int (Int32.ofNat B_87))]))
      refine hG _ _ (fun t_ k_ => XS.istore X95.here hx rfl (hb hby at_199) rfl (l' := #[.val (.int i0), .val (.int i1), .val (.int i2), .val (.int i3), .val (.int i4), .val (.int 2), .val (.ref b2), .val (.ref b74), .val (.ref q_87), .val (.int r_88), .val (.int r_91), .val (.int r_93), .val (.int r_95), .val (.int (Int32.ofNat B_87)), .unset, .unset]) rfl k_) ?_
      show G (T95.setTop (mkF m 201 #[.val (.int i0), .val (.int i1), .val (.int i2), .val (.int i3), .val (.int i4), .val (.int 2), .val (.ref b2), .val (.ref b74), .val (.ref q_87), .val (.int r_88), .val (.int r_91), .val (.int r_93), .val (.int r_95), .val (.int (Int32.ofNat B_87)), .unset, .unset] []))
      have jl : ∀ (f2 : Int32), (f2 = Int32.ofNat E_87) → G (T95.setTop (mkF m 239 #[.val (.int i0), .val (.int i1), .val (.int i2), .val (.int i3), .val (.int i4), .val (.int 2), .val (.ref b2), .val (.ref b74), .val (.ref q_87), .val (.int r_88), .val (.int r_91), .val (.int r_93), .val (.int r_95), .val (.int (Int32.ofNat B_87)), .unset, .unset] [(.int f2)])) := by
        intro f2 hf2
        subst hf2
        show G (T95.setTop (mkF m 239 #[.val (.int i0), .val (.int i1), .val (.int i2), .val (.int i3), .val (.int i4), .val (.int 2), .val (.ref b2), .val (.ref b74), .val (.ref q_87), .val (.int r_88), .val (.int r_91), .val (.int r_93), .val (.int r_95), .val (.int (Int32.ofNat B_87)), .unset, .unset] [(.int (Int32.ofNat E_87))]))
        refine hG _ _ (fun t_ k_ => XS.istore X95.here hx rfl (hb hby at_239) rfl (l' := #[.val (.int i0), .val (.int i1), .val (.int i2), .val (.int i3), .val (.int i4), .val (.int 2), .val (.ref b2), .val (.ref b74), .val (.ref q_87), .val (.int r_88), .val (.int r_91), .val (.int r_93), .val (.int r_95), .val (.int (Int32.ofNat B_87)), .val (.int (Int32.ofNat E_87)), .unset]) rfl k_) ?_
        refine hG _ _ (fun t_ k_ => XS.iload X95.here hx rfl (hb hby at_241) rfl k_) ?_
        refine hG _ _ (fun t_ k_ => XS.iload X95.here hx rfl (hb hby at_243) rfl k_) ?_
        refine hG _ _ (fun t_ k_ => XS.isub X95.here hx rfl (hb hby at_245) rfl k_) ?_
        show G (T95.setTop (mkF m 246 #[.val (.int i0), .val (.int i1), .val (.int i2), .val (.int i3), .val (.int i4), .val (.int 2), .val (.ref b2), .val (.ref b74), .val (.ref q_87), .val (.int r_88), .val (.int r_91), .val (.int r_93), .val (.int r_95), .val (.int (Int32.ofNat B_87)), .val (.int (Int32.ofNat E_87)), .unset] [(.int ((Int32.ofNat E_87) - (Int32.ofNat B_87)))]))
        rw [show Int32.ofNat E_87 - Int32.ofNat B_87 = Int32.ofNat (E_87 - B_87) from own_subN r87_5.1]
        have hfs := own_from_sub [r_3, r_6] r87_5.1 r87_5.2.1
        show G (T95.setTop (mkF m 246 #[.val (.int i0), .val (.int i1), .val (.int i2), .val (.int i3), .val (.int i4), .val (.int 2), .val (.ref b2), .val (.ref b74), .val (.ref q_87), .val (.int r_88), .val (.int r_91), .val (.int r_93), .val (.int r_95), .val (.int (Int32.ofNat B_87)), .val (.int (Int32.ofNat E_87)), .unset] [(.int (Int32.ofNat (E_87 - B_87)))]))
        refine hG _ _ (fun t_ k_ => XS.istore X95.here hx rfl (hb hby at_246) rfl (l' := #[.val (.int i0), .val (.int i1), .val (.int i2), .val (.int i3), .val (.int i4), .val (.int 2), .val (.ref b2), .val (.ref b74), .val (.ref q_87), .val (.int r_88), .val (.int r_91), .val (.int r_93), .val (.int r_95), .val (.int (Int32.ofNat B_87)), .val (.int (Int32.ofNat E_87)), .val (.int (Int32.ofNat (E_87 - B_87)))]) rfl k_) ?_
        refine hG _ _ (fun t_ k_ => XS.aload X95.here hx rfl (hb hby at_248) rfl rfl k_) ?_
        show G (T95.setTop (mkF m 250 #[.val (.int i0), .val (.int i1), .val (.int i2), .val (.int i3), .val (.int i4), .val (.int 2), .val (.ref b2), .val (.ref b74), .val (.ref q_87), .val (.int r_88), .val (.int r_91), .val (.int r_93), .val (.int r_95), .val (.int (Int32.ofNat B_87)), .val (.int (Int32.ofNat E_87)), .val (.int (Int32.ofNat (E_87 - B_87)))] [(.ref q_87)]))
        refine hG _ _ (fun t_ k_ => XS.ifnullNo X95.here hx rfl (hb hby at_250) rfl k_) ?_
        show G (T95.setTop (mkF m 253 #[.val (.int i0), .val (.int i1), .val (.int i2), .val (.int i3), .val (.int i4), .val (.int 2), .val (.ref b2), .val (.ref b74), .val (.ref q_87), .val (.int r_88), .val (.int r_91), .val (.int r_93), .val (.int r_95), .val (.int (Int32.ofNat B_87)), .val (.int (Int32.ofNat E_87)), .val (.int (Int32.ofNat (E_87 - B_87)))] []))
        refine hG _ _ (fun t_ k_ => XS.aload X95.here hx rfl (hb hby at_253) rfl rfl k_) ?_
        show G (T95.setTop (mkF m 255 #[.val (.int i0), .val (.int i1), .val (.int i2), .val (.int i3), .val (.int i4), .val (.int 2), .val (.ref b2), .val (.ref b74), .val (.ref q_87), .val (.int r_88), .val (.int r_91), .val (.int r_93), .val (.int r_95), .val (.int (Int32.ofNat B_87)), .val (.int (Int32.ofNat E_87)), .val (.int (Int32.ofNat (E_87 - B_87)))] [(.ref q_87)]))
        refine own_callV (C := "java/lang/String") X95 hx hZ87 hG hown87 (ow hw 59 rfl) (ow hw 32 rfl) (ow hw 34 rfl) (ow hw 33 rfl) (ow hw 8 rfl) (ow hw 35 rfl) (by decide) 0 (own_len l Z a0 hw q_87 u_87 ku_87 (([r_3, r_6].drop B_87).take (E_87 - B_87)) c2_87 n2_87 us_87 cpt h87 O87 r87_0 r87_1 r87_2 r87_3 r87_4 (by rw [hfs.1]; have := r87_5.2.1; have q4 : [r_3, r_6].length ≤ 4 := Nat.le_of_ble_eq_true rfl; omega) (own_from_rng hfs.2 (own_allc r3_0 (own_allc r6_0 own_alln))) g0_S g1_hcpt) (by decide) (by decide) e95 r87_0 (by rw [hml]; rfl) (lenOf own_pd11 rfl) (argsL := []) (rest := []) rfl rfl (Nat.le_of_eq rfl) (hb hby at_255) (by decide) (by decide) ?_
        intro T97 h97 v97 L97 X97 e97 q97
        obtain ⟨rfl, M97, rfl⟩ := q97
        have N97 := Fr.app N95 M97
        show G (T97.setTop (mkF m 258 #[.val (.int i0), .val (.int i1), .val (.int i2), .val (.int i3), .val (.int i4), .val (.int 2), .val (.ref b2), .val (.ref b74), .val (.ref q_87), .val (.int r_88), .val (.int r_91), .val (.int r_93), .val (.int r_95), .val (.int (Int32.ofNat B_87)), .val (.int (Int32.ofNat E_87)), .val (.int (Int32.ofNat (E_87 - B_87)))] [(.int (Int32.ofNat (([r_3, r_6].drop B_87).take (E_87 - B_87)).length))]))
        refine hG _ _ (fun t_ k_ => XS.iload X97.here hx rfl (hb hby at_258) rfl k_) ?_
        show G (T97.setTop (mkF m 260 #[.val (.int i0), .val (.int i1), .val (.int i2), .val (.int i3), .val (.int i4), .val (.int 2), .val (.ref b2), .val (.ref b74), .val (.ref q_87), .val (.int r_88), .val (.int r_91), .val (.int r_93), .val (.int r_95), .val (.int (Int32.ofNat B_87)), .val (.int (Int32.ofNat E_87)), .val (.int (Int32.ofNat (E_87 - B_87)))] [(.int (Int32.ofNat (E_87 - B_87))), (.int (Int32.ofNat (([r_3, r_6].drop B_87).take (E_87 - B_87)).length))]))
        refine hG _ _ (fun t_ k_ => XS.icmpYes X97.here hx rfl (pc0 := 260) (pc' := 265) rfl (hb hby at_260) rfl (teq (congrArg Int32.ofNat hfs.1)).1 (by decide) (by decide) k_) ?_
        show G (T97.setTop (mkF m 265 #[.val (.int i0), .val (.int i1), .val (.int i2), .val (.int i3), .val (.int i4), .val (.int 2), .val (.ref b2), .val (.ref b74), .val (.ref q_87), .val (.int r_88), .val (.int r_91), .val (.int r_93), .val (.int r_95), .val (.int (Int32.ofNat B_87)), .val (.int (Int32.ofNat E_87)), .val (.int (Int32.ofNat (E_87 - B_87)))] []))
        refine hG _ _ (fun t_ k_ => XS.aload X97.here hx rfl (hb hby at_265) rfl rfl k_) ?_
        refine hG _ _ (fun t_ k_ => XS.iload X97.here hx rfl (hb hby at_267) rfl k_) ?_
        refine hG _ _ (fun t_ k_ => XS.aload X97.here hx rfl (hb hby at_269) rfl rfl k_) ?_
        refine hG _ _ (fun t_ k_ => XS.iload X97.here hx rfl (hb hby at_271) rfl k_) ?_
        refine hG _ _ (fun t_ k_ => XS.iconst X97.here hx rfl (hb hby at_273) k_) ?_
        show G (T97.setTop (mkF m 274 #[.val (.int i0), .val (.int i1), .val (.int i2), .val (.int i3), .val (.int i4), .val (.int 2), .val (.ref b2), .val (.ref b74), .val (.ref q_87), .val (.int r_88), .val (.int r_91), .val (.int r_93), .val (.int r_95), .val (.int (Int32.ofNat B_87)), .val (.int (Int32.ofNat E_87)), .val (.int (Int32.ofNat (E_87 - B_87)))] [(.int 0), (.int (Int32.ofNat B_87)), (.ref b2), (.int (Int32.ofNat (E_87 - B_87))), (.ref q_87)]))
        refine own_callS X97 hx hZ87 hG hown87 (ow hw 60 rfl) (ow hw 61 rfl) (ow hw 3 rfl) (ow hw 62 rfl) (by decide) 0 (own_at l Z a0 hw q_87 u_87 ku_87 (([r_3, r_6].drop B_87).take (E_87 - B_87)) c2_87 n2_87 us_87 cpt b2 k2 r_3 r_6 r_9 r_12 B_87 0 (E_87 - B_87) fmt h87 O87 r87_0 r87_1 r87_2 r87_3 r87_4 (by rw [hfs.1]; have := r87_5.2.1; have q4 : [r_3, r_6].length ≤ 4 := Nat.le_of_ble_eq_true rfl; omega) (own_from_rng hfs.2 (own_allc r3_0 (own_allc r6_0 own_alln))) g0_S g1_hcpt g2_S g3_S g4_S f89 hfs.1.symm (own_atc (xs := [r_3, r_6, r_9, r_12]) (m := 2) rfl rfl r87_5.1 r87_5.2.1) (by decide) g5_hfmt g6_S) (by decide) (by decide) e97 (by rw [hml]; rfl) (lenOf own_pd30 rfl) (argsL := [(.ref q_87), (.int (Int32.ofNat (E_87 - B_87))), (.ref b2), (.int (Int32.ofNat B_87)), (.int 0)]) (rest := []) rfl rfl (Nat.le_of_eq rfl) (hb hby at_274) (by decide) (by decide) ?_
        intro T98 h98 v98 L98 X98 e98 q98
        obtain ⟨rfl, M98, rfl⟩ := q98
        have N98 := Fr.app N97 M98
        show G (T98.setTop (mkF m 277 #[.val (.int i0), .val (.int i1), .val (.int i2), .val (.int i3), .val (.int i4), .val (.int 2), .val (.ref b2), .val (.ref b74), .val (.ref q_87), .val (.int r_88), .val (.int r_91), .val (.int r_93), .val (.int r_95), .val (.int (Int32.ofNat B_87)), .val (.int (Int32.ofNat E_87)), .val (.int (Int32.ofNat (E_87 - B_87)))] [(.int 1)]))
        refine hG _ _ (fun t_ k_ => XS.ifNo X98.here hx rfl (hb hby at_277) rfl ((if0 _ _).trans (feq (by decide)).1) k_) ?_
        show G (T98.setTop (mkF m 280 #[.val (.int i0), .val (.int i1), .val (.int i2), .val (.int i3), .val (.int i4), .val (.int 2), .val (.ref b2), .val (.ref b74), .val (.ref q_87), .val (.int r_88), .val (.int r_91), .val (.int r_93), .val (.int r_95), .val (.int (Int32.ofNat B_87)), .val (.int (Int32.ofNat E_87)), .val (.int (Int32.ofNat (E_87 - B_87)))] []))
        refine hG _ _ (fun t_ k_ => XS.aload X98.here hx rfl (hb hby at_280) rfl rfl k_) ?_
        refine hG _ _ (fun t_ k_ => XS.iload X98.here hx rfl (hb hby at_282) rfl k_) ?_
        refine hG _ _ (fun t_ k_ => XS.aload X98.here hx rfl (hb hby at_284) rfl rfl k_) ?_
        refine hG _ _ (fun t_ k_ => XS.iload X98.here hx rfl (hb hby at_286) rfl k_) ?_
        refine hG _ _ (fun t_ k_ => XS.iconst X98.here hx rfl (hb hby at_288) k_) ?_
        show G (T98.setTop (mkF m 289 #[.val (.int i0), .val (.int i1), .val (.int i2), .val (.int i3), .val (.int i4), .val (.int 2), .val (.ref b2), .val (.ref b74), .val (.ref q_87), .val (.int r_88), .val (.int r_91), .val (.int r_93), .val (.int r_95), .val (.int (Int32.ofNat B_87)), .val (.int (Int32.ofNat E_87)), .val (.int (Int32.ofNat (E_87 - B_87)))] [(.int 1), (.int (Int32.ofNat B_87)), (.ref b2), (.int (Int32.ofNat (E_87 - B_87))), (.ref q_87)]))
        refine own_callS X98 hx hZ87 hG hown87 (ow hw 60 rfl) (ow hw 61 rfl) (ow hw 3 rfl) (ow hw 62 rfl) (by decide) 0 (own_at l Z a0 hw q_87 u_87 ku_87 (([r_3, r_6].drop B_87).take (E_87 - B_87)) c2_87 n2_87 us_87 cpt b2 k2 r_3 r_6 r_9 r_12 B_87 1 (E_87 - B_87) fmt h87 O87 r87_0 r87_1 r87_2 r87_3 r87_4 (by rw [hfs.1]; have := r87_5.2.1; have q4 : [r_3, r_6].length ≤ 4 := Nat.le_of_ble_eq_true rfl; omega) (own_from_rng hfs.2 (own_allc r3_0 (own_allc r6_0 own_alln))) g0_S g1_hcpt g2_S g3_S g4_S f89 hfs.1.symm (own_atc (xs := [r_3, r_6, r_9, r_12]) (m := 2) rfl rfl r87_5.1 r87_5.2.1) (by decide) g5_hfmt g6_S) (by decide) (by decide) e98 (by rw [hml]; rfl) (lenOf own_pd30 rfl) (argsL := [(.ref q_87), (.int (Int32.ofNat (E_87 - B_87))), (.ref b2), (.int (Int32.ofNat B_87)), (.int 1)]) (rest := []) rfl rfl (Nat.le_of_eq rfl) (hb hby at_289) (by decide) (by decide) ?_
        intro T99 h99 v99 L99 X99 e99 q99
        obtain ⟨rfl, M99, rfl⟩ := q99
        have N99 := Fr.app N98 M99
        show G (T99.setTop (mkF m 292 #[.val (.int i0), .val (.int i1), .val (.int i2), .val (.int i3), .val (.int i4), .val (.int 2), .val (.ref b2), .val (.ref b74), .val (.ref q_87), .val (.int r_88), .val (.int r_91), .val (.int r_93), .val (.int r_95), .val (.int (Int32.ofNat B_87)), .val (.int (Int32.ofNat E_87)), .val (.int (Int32.ofNat (E_87 - B_87)))] [(.int 1)]))
        refine hG _ _ (fun t_ k_ => XS.ifNo X99.here hx rfl (hb hby at_292) rfl ((if0 _ _).trans (feq (by decide)).1) k_) ?_
        show G (T99.setTop (mkF m 295 #[.val (.int i0), .val (.int i1), .val (.int i2), .val (.int i3), .val (.int i4), .val (.int 2), .val (.ref b2), .val (.ref b74), .val (.ref q_87), .val (.int r_88), .val (.int r_91), .val (.int r_93), .val (.int r_95), .val (.int (Int32.ofNat B_87)), .val (.int (Int32.ofNat E_87)), .val (.int (Int32.ofNat (E_87 - B_87)))] []))
        refine hG _ _ (fun t_ k_ => XS.aload X99.here hx rfl (hb hby at_295) rfl rfl k_) ?_
        refine hG _ _ (fun t_ k_ => XS.iload X99.here hx rfl (hb hby at_297) rfl k_) ?_
        refine hG _ _ (fun t_ k_ => XS.aload X99.here hx rfl (hb hby at_299) rfl rfl k_) ?_
        refine hG _ _ (fun t_ k_ => XS.iload X99.here hx rfl (hb hby at_301) rfl k_) ?_
        refine hG _ _ (fun t_ k_ => XS.iconst X99.here hx rfl (hb hby at_303) k_) ?_
        show G (T99.setTop (mkF m 304 #[.val (.int i0), .val (.int i1), .val (.int i2), .val (.int i3), .val (.int i4), .val (.int 2), .val (.ref b2), .val (.ref b74), .val (.ref q_87), .val (.int r_88), .val (.int r_91), .val (.int r_93), .val (.int r_95), .val (.int (Int32.ofNat B_87)), .val (.int (Int32.ofNat E_87)), .val (.int (Int32.ofNat (E_87 - B_87)))] [(.int 2), (.int (Int32.ofNat B_87)), (.ref b2), (.int (Int32.ofNat (E_87 - B_87))), (.ref q_87)]))
        refine own_callS X99 hx hZ87 hG hown87 (ow hw 60 rfl) (ow hw 61 rfl) (ow hw 3 rfl) (ow hw 62 rfl) (by decide) 0 (own_at l Z a0 hw q_87 u_87 ku_87 (([r_3, r_6].drop B_87).take (E_87 - B_87)) c2_87 n2_87 us_87 cpt b2 k2 r_3 r_6 r_9 r_12 B_87 2 (E_87 - B_87) fmt h87 O87 r87_0 r87_1 r87_2 r87_3 r87_4 (by rw [hfs.1]; have := r87_5.2.1; have q4 : [r_3, r_6].length ≤ 4 := Nat.le_of_ble_eq_true rfl; omega) (own_from_rng hfs.2 (own_allc r3_0 (own_allc r6_0 own_alln))) g0_S g1_hcpt g2_S g3_S g4_S f89 hfs.1.symm (own_atc (xs := [r_3, r_6, r_9, r_12]) (m := 2) rfl rfl r87_5.1 r87_5.2.1) (by decide) g5_hfmt g6_S) (by decide) (by decide) e99 (by rw [hml]; rfl) (lenOf own_pd30 rfl) (argsL := [(.ref q_87), (.int (Int32.ofNat (E_87 - B_87))), (.ref b2), (.int (Int32.ofNat B_87)), (.int 2)]) (rest := []) rfl rfl (Nat.le_of_eq rfl) (hb hby at_304) (by decide) (by decide) ?_
        intro T100 h100 v100 L100 X100 e100 q100
        obtain ⟨rfl, M100, rfl⟩ := q100
        have N100 := Fr.app N99 M100
        show G (T100.setTop (mkF m 307 #[.val (.int i0), .val (.int i1), .val (.int i2), .val (.int i3), .val (.int i4), .val (.int 2), .val (.ref b2), .val (.ref b74), .val (.ref q_87), .val (.int r_88), .val (.int r_91), .val (.int r_93), .val (.int r_95), .val (.int (Int32.ofNat B_87)), .val (.int (Int32.ofNat E_87)), .val (.int (Int32.ofNat (E_87 - B_87)))] [(.int 1)]))
        refine hG _ _ (fun t_ k_ => XS.ifNo X100.here hx rfl (hb hby at_307) rfl ((if0 _ _).trans (feq (by decide)).1) k_) ?_
        show G (T100.setTop (mkF m 310 #[.val (.int i0), .val (.int i1), .val (.int i2), .val (.int i3), .val (.int i4), .val (.int 2), .val (.ref b2), .val (.ref b74), .val (.ref q_87), .val (.int r_88), .val (.int r_91), .val (.int r_93), .val (.int r_95), .val (.int (Int32.ofNat B_87)), .val (.int (Int32.ofNat E_87)), .val (.int (Int32.ofNat (E_87 - B_87)))] []))
        refine hG _ _ (fun t_ k_ => XS.aload X100.here hx rfl (hb hby at_310) rfl rfl k_) ?_
        refine hG _ _ (fun t_ k_ => XS.iload X100.here hx rfl (hb hby at_312) rfl k_) ?_
        refine hG _ _ (fun t_ k_ => XS.aload X100.here hx rfl (hb hby at_314) rfl rfl k_) ?_
        refine hG _ _ (fun t_ k_ => XS.iload X100.here hx rfl (hb hby at_316) rfl k_) ?_
        refine hG _ _ (fun t_ k_ => XS.iconst X100.here hx rfl (hb hby at_318) k_) ?_
        show G (T100.setTop (mkF m 319 #[.val (.int i0), .val (.int i1), .val (.int i2), .val (.int i3), .val (.int i4), .val (.int 2), .val (.ref b2), .val (.ref b74), .val (.ref q_87), .val (.int r_88), .val (.int r_91), .val (.int r_93), .val (.int r_95), .val (.int (Int32.ofNat B_87)), .val (.int (Int32.ofNat E_87)), .val (.int (Int32.ofNat (E_87 - B_87)))] [(.int 3), (.int (Int32.ofNat B_87)), (.ref b2), (.int (Int32.ofNat (E_87 - B_87))), (.ref q_87)]))
        refine own_callS X100 hx hZ87 hG hown87 (ow hw 60 rfl) (ow hw 61 rfl) (ow hw 3 rfl) (ow hw 62 rfl) (by decide) 0 (own_at l Z a0 hw q_87 u_87 ku_87 (([r_3, r_6].drop B_87).take (E_87 - B_87)) c2_87 n2_87 us_87 cpt b2 k2 r_3 r_6 r_9 r_12 B_87 3 (E_87 - B_87) fmt h87 O87 r87_0 r87_1 r87_2 r87_3 r87_4 (by rw [hfs.1]; have := r87_5.2.1; have q4 : [r_3, r_6].length ≤ 4 := Nat.le_of_ble_eq_true rfl; omega) (own_from_rng hfs.2 (own_allc r3_0 (own_allc r6_0 own_alln))) g0_S g1_hcpt g2_S g3_S g4_S f89 hfs.1.symm (own_atc (xs := [r_3, r_6, r_9, r_12]) (m := 2) rfl rfl r87_5.1 r87_5.2.1) (by decide) g5_hfmt g6_S) (by decide) (by decide) e100 (by rw [hml]; rfl) (lenOf own_pd30 rfl) (argsL := [(.ref q_87), (.int (Int32.ofNat (E_87 - B_87))), (.ref b2), (.int (Int32.ofNat B_87)), (.int 3)]) (rest := []) rfl rfl (Nat.le_of_eq rfl) (hb hby at_319) (by decide) (by decide) ?_
        intro T101 h101 v101 L101 X101 e101 q101
        obtain ⟨rfl, M101, rfl⟩ := q101
        have N101 := Fr.app N100 M101
        show G (T101.setTop (mkF m 322 #[.val (.int i0), .val (.int i1), .val (.int i2), .val (.int i3), .val (.int i4), .val (.int 2), .val (.ref b2), .val (.ref b74), .val (.ref q_87), .val (.int r_88), .val (.int r_91), .val (.int r_93), .val (.int r_95), .val (.int (Int32.ofNat B_87)), .val (.int (Int32.ofNat E_87)), .val (.int (Int32.ofNat (E_87 - B_87)))] [(.int 1)]))
        refine hG _ _ (fun t_ k_ => XS.ifNo X101.here hx rfl (hb hby at_322) rfl ((if0 _ _).trans (feq (by decide)).1) k_) ?_
        show G (T101.setTop (mkF m 325 #[.val (.int i0), .val (.int i1), .val (.int i2), .val (.int i3), .val (.int i4), .val (.int 2), .val (.ref b2), .val (.ref b74), .val (.ref q_87), .val (.int r_88), .val (.int r_91), .val (.int r_93), .val (.int r_95), .val (.int (Int32.ofNat B_87)), .val (.int (Int32.ofNat E_87)), .val (.int (Int32.ofNat (E_87 - B_87)))] []))
        refine hG _ _ (fun t_ k_ => XS.iconst X101.here hx rfl (hb hby at_325) k_) ?_
        refine hG _ _ (fun t_ k_ => XS.goto X101.here hx rfl (pc0 := 326) (pc' := 330) rfl (hb hby at_326) (by decide) (by decide) k_) ?_
        show G (T101.setTop (mkF m 330 #[.val (.int i0), .val (.int i1), .val (.int i2), .val (.int i3), .val (.int i4), .val (.int 2), .val (.ref b2), .val (.ref b74), .val (.ref q_87), .val (.int r_88), .val (.int r_91), .val (.int r_93), .val (.int r_95), .val (.int (Int32.ofNat B_87)), .val (.int (Int32.ofNat E_87)), .val (.int (Int32.ofNat (E_87 - B_87)))] [(.int 1)]))
        exact own_retNW hR hret (by simp) X101 hx (hb hby at_330) e101 SI87 (Nat.le_refl _) hZ87 C87 (by decide) (by decide) ⟨rfl, N101, K87⟩
      show G (T95.setTop (mkF m 201 #[.val (.int i0), .val (.int i1), .val (.int i2), .val (.int i3), .val (.int i4), .val (.int 2), .val (.ref b2), .val (.ref b74), .val (.ref q_87), .val (.int r_88), .val (.int r_91), .val (.int r_93), .val (.int r_95), .val (.int (Int32.ofNat B_87)), .unset, .unset] []))
      refine hG _ _ (fun t_ k_ => XS.iload X95.here hx rfl (hb hby at_201) rfl k_) ?_
      show G (T95.setTop (mkF m 203 #[.val (.int i0), .val (.int i1), .val (.int i2), .val (.int i3), .val (.int i4), .val (.int 2), .val (.ref b2), .val (.ref b74), .val (.ref q_87), .val (.int r_88), .val (.int r_91), .val (.int r_93), .val (.int r_95), .val (.int (Int32.ofNat B_87)), .unset, .unset] [(.int r_95)]))
      by_cases hc203_102 : r_95 = (0 : Int32)
      · skip
        refine hG _ _ (fun t_ k_ => XS.ifYes X95.here hx rfl (pc0 := 203) (pc' := 210) rfl (hb hby at_203) rfl ((if0 _ _).trans (teq hc203_102).1) (by decide) (by decide) k_) ?_
        show G (T95.setTop (mkF m 210 #[.val (.int i0), .val (.int i1), .val (.int i2), .val (.int i3), .val (.int i4), .val (.int 2), .val (.ref b2), .val (.ref b74), .val (.ref q_87), .val (.int r_88), .val (.int r_91), .val (.int r_93), .val (.int r_95), .val (.int (Int32.ofNat B_87)), .unset, .unset] []))
        refine hG _ _ (fun t_ k_ => XS.iload X95.here hx rfl (hb hby at_210) rfl k_) ?_
        show G (T95.setTop (mkF m 212 #[.val (.int i0), .val (.int i1), .val (.int i2), .val (.int i3), .val (.int i4), .val (.int 2), .val (.ref b2), .val (.ref b74), .val (.ref q_87), .val (.int r_88), .val (.int r_91), .val (.int r_93), .val (.int r_95), .val (.int (Int32.ofNat B_87)), .unset, .unset] [(.int r_93)]))
        by_cases hc212_103 : r_93 = (0 : Int32)
        · skip
          refine hG _ _ (fun t_ k_ => XS.ifYes X95.here hx rfl (pc0 := 212) (pc' := 219) rfl (hb hby at_212) rfl ((if0 _ _).trans (teq hc212_103).1) (by decide) (by decide) k_) ?_
          show G (T95.setTop (mkF m 219 #[.val (.int i0), .val (.int i1), .val (.int i2), .val (.int i3), .val (.int i4), .val (.int 2), .val (.ref b2), .val (.ref b74), .val (.ref q_87), .val (.int r_88), .val (.int r_91), .val (.int r_93), .val (.int r_95), .val (.int (Int32.ofNat B_87)), .unset, .unset] []))
          refine hG _ _ (fun t_ k_ => XS.iload X95.here hx rfl (hb hby at_219) rfl k_) ?_
          show G (T95.setTop (mkF m 221 #[.val (.int i0), .val (.int i1), .val (.int i2), .val (.int i3), .val (.int i4), .val (.int 2), .val (.ref b2), .val (.ref b74), .val (.ref q_87), .val (.int r_88), .val (.int r_91), .val (.int r_93), .val (.int r_95), .val (.int (Int32.ofNat B_87)), .unset, .unset] [(.int r_91)]))
          by_cases hc221_104 : r_91 = (0 : Int32)
          · skip
            refine hG _ _ (fun t_ k_ => XS.ifYes X95.here hx rfl (pc0 := 221) (pc' := 228) rfl (hb hby at_221) rfl ((if0 _ _).trans (teq hc221_104).1) (by decide) (by decide) k_) ?_
            show G (T95.setTop (mkF m 228 #[.val (.int i0), .val (.int i1), .val (.int i2), .val (.int i3), .val (.int i4), .val (.int 2), .val (.ref b2), .val (.ref b74), .val (.ref q_87), .val (.int r_88), .val (.int r_91), .val (.int r_93), .val (.int r_95), .val (.int (Int32.ofNat B_87)), .unset, .unset] []))
            refine hG _ _ (fun t_ k_ => XS.iload X95.here hx rfl (hb hby at_228) rfl k_) ?_
            show G (T95.setTop (mkF m 230 #[.val (.int i0), .val (.int i1), .val (.int i2), .val (.int i3), .val (.int i4), .val (.int 2), .val (.ref b2), .val (.ref b74), .val (.ref q_87), .val (.int r_88), .val (.int r_91), .val (.int r_93), .val (.int r_95), .val (.int (Int32.ofNat B_87)), .unset, .unset] [(.int r_88)]))
            by_cases hc230_105 : r_88 = (0 : Int32)
            · skip
              refine hG _ _ (fun t_ k_ => XS.ifYes X95.here hx rfl (pc0 := 230) (pc' := 237) rfl (hb hby at_230) rfl ((if0 _ _).trans (teq hc230_105).1) (by decide) (by decide) k_) ?_
              show G (T95.setTop (mkF m 237 #[.val (.int i0), .val (.int i1), .val (.int i2), .val (.int i3), .val (.int i4), .val (.int 2), .val (.ref b2), .val (.ref b74), .val (.ref q_87), .val (.int r_88), .val (.int r_91), .val (.int r_93), .val (.int r_95), .val (.int (Int32.ofNat B_87)), .unset, .unset] []))
              refine hG _ _ (fun t_ k_ => XS.iload X95.here hx rfl (hb hby at_237) rfl k_) ?_
              show G (T95.setTop (mkF m 239 #[.val (.int i0), .val (.int i1), .val (.int i2), .val (.int i3), .val (.int i4), .val (.int 2), .val (.ref b2), .val (.ref b74), .val (.ref q_87), .val (.int r_88), .val (.int r_91), .val (.int r_93), .val (.int r_95), .val (.int (Int32.ofNat B_87)), .unset, .unset] [(.int 2)]))
              exact jl _ (own_litN ((own_none r87_5 (Nat.le_of_ble_eq_true rfl) (own_ltS (own_ltS (own_ltS (own_ltS own_lt0 (own_zer so0_90 hc230_105)) (own_zer so1_92 hc221_104)) (own_zer so2_94 hc212_103)) (own_zer so3_96 hc203_102))).2) rfl)
            · skip
              refine hG _ _ (fun t_ k_ => XS.ifNo X95.here hx rfl (hb hby at_230) rfl ((if0 _ _).trans (feq hc230_105).1) k_) ?_
              show G (T95.setTop (mkF m 233 #[.val (.int i0), .val (.int i1), .val (.int i2), .val (.int i3), .val (.int i4), .val (.int 2), .val (.ref b2), .val (.ref b74), .val (.ref q_87), .val (.int r_88), .val (.int r_91), .val (.int r_93), .val (.int r_95), .val (.int (Int32.ofNat B_87)), .unset, .unset] []))
              refine hG _ _ (fun t_ k_ => XS.iconst X95.here hx rfl (hb hby at_233) k_) ?_
              refine hG _ _ (fun t_ k_ => XS.goto X95.here hx rfl (pc0 := 234) (pc' := 239) rfl (hb hby at_234) (by decide) (by decide) k_) ?_
              show G (T95.setTop (mkF m 239 #[.val (.int i0), .val (.int i1), .val (.int i2), .val (.int i3), .val (.int i4), .val (.int 2), .val (.ref b2), .val (.ref b74), .val (.ref q_87), .val (.int r_88), .val (.int r_91), .val (.int r_93), .val (.int r_95), .val (.int (Int32.ofNat B_87)), .unset, .unset] [(.int 1)]))
              exact jl _ (own_litN (own_lst r87_5 (Nat.le_of_ble_eq_true rfl) (fun j hj hj4 => by rcases (show j = 1 ∨ j = 2 ∨ j = 3 by omega) with rfl | rfl | rfl; exact (own_zer so1_92 hc221_104); exact (own_zer so2_94 hc212_103); exact (own_zer so3_96 hc203_102)) (own_one so0_90 hc230_105)) rfl)
          · skip
            refine hG _ _ (fun t_ k_ => XS.ifNo X95.here hx rfl (hb hby at_221) rfl ((if0 _ _).trans (feq hc221_104).1) k_) ?_
            show G (T95.setTop (mkF m 224 #[.val (.int i0), .val (.int i1), .val (.int i2), .val (.int i3), .val (.int i4), .val (.int 2), .val (.ref b2), .val (.ref b74), .val (.ref q_87), .val (.int r_88), .val (.int r_91), .val (.int r_93), .val (.int r_95), .val (.int (Int32.ofNat B_87)), .unset, .unset] []))
            refine hG _ _ (fun t_ k_ => XS.iconst X95.here hx rfl (hb hby at_224) k_) ?_
            refine hG _ _ (fun t_ k_ => XS.goto X95.here hx rfl (pc0 := 225) (pc' := 239) rfl (hb hby at_225) (by decide) (by decide) k_) ?_
            show G (T95.setTop (mkF m 239 #[.val (.int i0), .val (.int i1), .val (.int i2), .val (.int i3), .val (.int i4), .val (.int 2), .val (.ref b2), .val (.ref b74), .val (.ref q_87), .val (.int r_88), .val (.int r_91), .val (.int r_93), .val (.int r_95), .val (.int (Int32.ofNat B_87)), .unset, .unset] [(.int 2)]))
            exact jl _ (own_litN (own_lst r87_5 (Nat.le_of_ble_eq_true rfl) (fun j hj hj4 => by rcases (show j = 2 ∨ j = 3 by omega) with rfl | rfl; exact (own_zer so2_94 hc212_103); exact (own_zer so3_96 hc203_102)) (own_one so1_92 hc221_104)) rfl)
        · skip
          refine hG _ _ (fun t_ k_ => XS.ifNo X95.here hx rfl (hb hby at_212) rfl ((if0 _ _).trans (feq hc212_103).1) k_) ?_
          show G (T95.setTop (mkF m 215 #[.val (.int i0), .val (.int i1), .val (.int i2), .val (.int i3), .val (.int i4), .val (.int 2), .val (.ref b2), .val (.ref b74), .val (.ref q_87), .val (.int r_88), .val (.int r_91), .val (.int r_93), .val (.int r_95), .val (.int (Int32.ofNat B_87)), .unset, .unset] []))
          refine hG _ _ (fun t_ k_ => XS.iconst X95.here hx rfl (hb hby at_215) k_) ?_
          refine hG _ _ (fun t_ k_ => XS.goto X95.here hx rfl (pc0 := 216) (pc' := 239) rfl (hb hby at_216) (by decide) (by decide) k_) ?_
          show G (T95.setTop (mkF m 239 #[.val (.int i0), .val (.int i1), .val (.int i2), .val (.int i3), .val (.int i4), .val (.int 2), .val (.ref b2), .val (.ref b74), .val (.ref q_87), .val (.int r_88), .val (.int r_91), .val (.int r_93), .val (.int r_95), .val (.int (Int32.ofNat B_87)), .unset, .unset] [(.int 3)]))
          exact jl _ (own_litN (own_lst r87_5 (Nat.le_of_ble_eq_true rfl) (fun j hj hj4 => by rcases (show j = 3 by omega) with rfl; exact (own_zer so3_96 hc203_102)) (own_one so2_94 hc212_103)) rfl)
      · skip
        refine hG _ _ (fun t_ k_ => XS.ifNo X95.here hx rfl (hb hby at_203) rfl ((if0 _ _).trans (feq hc203_102).1) k_) ?_
        show G (T95.setTop (mkF m 206 #[.val (.int i0), .val (.int i1), .val (.int i2), .val (.int i3), .val (.int i4), .val (.int 2), .val (.ref b2), .val (.ref b74), .val (.ref q_87), .val (.int r_88), .val (.int r_91), .val (.int r_93), .val (.int r_95), .val (.int (Int32.ofNat B_87)), .unset, .unset] []))
        refine hG _ _ (fun t_ k_ => XS.iconst X95.here hx rfl (hb hby at_206) k_) ?_
        refine hG _ _ (fun t_ k_ => XS.goto X95.here hx rfl (pc0 := 207) (pc' := 239) rfl (hb hby at_207) (by decide) (by decide) k_) ?_
        show G (T95.setTop (mkF m 239 #[.val (.int i0), .val (.int i1), .val (.int i2), .val (.int i3), .val (.int i4), .val (.int 2), .val (.ref b2), .val (.ref b74), .val (.ref q_87), .val (.int r_88), .val (.int r_91), .val (.int r_93), .val (.int r_95), .val (.int (Int32.ofNat B_87)), .unset, .unset] [(.int 4)]))
        exact jl _ (own_litN (own_lst r87_5 (Nat.le_of_ble_eq_true rfl) (fun j hj hj4 => by omega) (own_one so3_96 hc203_102)) rfl)
    show G (T95.setTop (mkF m 161 #[.val (.int i0), .val (.int i1), .val (.int i2), .val (.int i3), .val (.int i4), .val (.int 2), .val (.ref b2), .val (.ref b74), .val (.ref q_87), .val (.int r_88), .val (.int r_91), .val (.int r_93), .val (.int r_95), .unset, .unset, .unset] []))
    refine hG _ _ (fun t_ k_ => XS.iload X95.here hx rfl (hb hby at_161) rfl k_) ?_
    show G (T95.setTop (mkF m 163 #[.val (.int i0), .val (.int i1), .val (.int i2), .val (.int i3), .val (.int i4), .val (.int 2), .val (.ref b2), .val (.ref b74), .val (.ref q_87), .val (.int r_88), .val (.int r_91), .val (.int r_93), .val (.int r_95), .unset, .unset, .unset] [(.int r_88)]))
    by_cases hc163_106 : r_88 = (0 : Int32)
    · skip
      refine hG _ _ (fun t_ k_ => XS.ifYes X95.here hx rfl (pc0 := 163) (pc' := 170) rfl (hb hby at_163) rfl ((if0 _ _).trans (teq hc163_106).1) (by decide) (by decide) k_) ?_
      show G (T95.setTop (mkF m 170 #[.val (.int i0), .val (.int i1), .val (.int i2), .val (.int i3), .val (.int i4), .val (.int 2), .val (.ref b2), .val (.ref b74), .val (.ref q_87), .val (.int r_88), .val (.int r_91), .val (.int r_93), .val (.int r_95), .unset, .unset, .unset] []))
      refine hG _ _ (fun t_ k_ => XS.iload X95.here hx rfl (hb hby at_170) rfl k_) ?_
      show G (T95.setTop (mkF m 172 #[.val (.int i0), .val (.int i1), .val (.int i2), .val (.int i3), .val (.int i4), .val (.int 2), .val (.ref b2), .val (.ref b74), .val (.ref q_87), .val (.int r_88), .val (.int r_91), .val (.int r_93), .val (.int r_95), .unset, .unset, .unset] [(.int r_91)]))
      by_cases hc172_107 : r_91 = (0 : Int32)
      · skip
        refine hG _ _ (fun t_ k_ => XS.ifYes X95.here hx rfl (pc0 := 172) (pc' := 179) rfl (hb hby at_172) rfl ((if0 _ _).trans (teq hc172_107).1) (by decide) (by decide) k_) ?_
        show G (T95.setTop (mkF m 179 #[.val (.int i0), .val (.int i1), .val (.int i2), .val (.int i3), .val (.int i4), .val (.int 2), .val (.ref b2), .val (.ref b74), .val (.ref q_87), .val (.int r_88), .val (.int r_91), .val (.int r_93), .val (.int r_95), .unset, .unset, .unset] []))
        refine hG _ _ (fun t_ k_ => XS.iload X95.here hx rfl (hb hby at_179) rfl k_) ?_
        show G (T95.setTop (mkF m 181 #[.val (.int i0), .val (.int i1), .val (.int i2), .val (.int i3), .val (.int i4), .val (.int 2), .val (.ref b2), .val (.ref b74), .val (.ref q_87), .val (.int r_88), .val (.int r_91), .val (.int r_93), .val (.int r_95), .unset, .unset, .unset] [(.int r_93)]))
        by_cases hc181_108 : r_93 = (0 : Int32)
        · skip
          refine hG _ _ (fun t_ k_ => XS.ifYes X95.here hx rfl (pc0 := 181) (pc' := 188) rfl (hb hby at_181) rfl ((if0 _ _).trans (teq hc181_108).1) (by decide) (by decide) k_) ?_
          show G (T95.setTop (mkF m 188 #[.val (.int i0), .val (.int i1), .val (.int i2), .val (.int i3), .val (.int i4), .val (.int 2), .val (.ref b2), .val (.ref b74), .val (.ref q_87), .val (.int r_88), .val (.int r_91), .val (.int r_93), .val (.int r_95), .unset, .unset, .unset] []))
          refine hG _ _ (fun t_ k_ => XS.iload X95.here hx rfl (hb hby at_188) rfl k_) ?_
          show G (T95.setTop (mkF m 190 #[.val (.int i0), .val (.int i1), .val (.int i2), .val (.int i3), .val (.int i4), .val (.int 2), .val (.ref b2), .val (.ref b74), .val (.ref q_87), .val (.int r_88), .val (.int r_91), .val (.int r_93), .val (.int r_95), .unset, .unset, .unset] [(.int r_95)]))
          by_cases hc190_109 : r_95 = (0 : Int32)
          · skip
            refine hG _ _ (fun t_ k_ => XS.ifYes X95.here hx rfl (pc0 := 190) (pc' := 197) rfl (hb hby at_190) rfl ((if0 _ _).trans (teq hc190_109).1) (by decide) (by decide) k_) ?_
            show G (T95.setTop (mkF m 197 #[.val (.int i0), .val (.int i1), .val (.int i2), .val (.int i3), .val (.int i4), .val (.int 2), .val (.ref b2), .val (.ref b74), .val (.ref q_87), .val (.int r_88), .val (.int r_91), .val (.int r_93), .val (.int r_95), .unset, .unset, .unset] []))
            refine hG _ _ (fun t_ k_ => XS.iload X95.here hx rfl (hb hby at_197) rfl k_) ?_
            show G (T95.setTop (mkF m 199 #[.val (.int i0), .val (.int i1), .val (.int i2), .val (.int i3), .val (.int i4), .val (.int 2), .val (.ref b2), .val (.ref b74), .val (.ref q_87), .val (.int r_88), .val (.int r_91), .val (.int r_93), .val (.int r_95), .unset, .unset, .unset] [(.int 2)]))
            exact jf _ (own_litN ((own_none r87_5 (Nat.le_of_ble_eq_true rfl) (own_ltS (own_ltS (own_ltS (own_ltS own_lt0 (own_zer so0_90 hc163_106)) (own_zer so1_92 hc172_107)) (own_zer so2_94 hc181_108)) (own_zer so3_96 hc190_109))).1) rfl)
          · skip
            refine hG _ _ (fun t_ k_ => XS.ifNo X95.here hx rfl (hb hby at_190) rfl ((if0 _ _).trans (feq hc190_109).1) k_) ?_
            show G (T95.setTop (mkF m 193 #[.val (.int i0), .val (.int i1), .val (.int i2), .val (.int i3), .val (.int i4), .val (.int 2), .val (.ref b2), .val (.ref b74), .val (.ref q_87), .val (.int r_88), .val (.int r_91), .val (.int r_93), .val (.int r_95), .unset, .unset, .unset] []))
            refine hG _ _ (fun t_ k_ => XS.iconst X95.here hx rfl (hb hby at_193) k_) ?_
            refine hG _ _ (fun t_ k_ => XS.goto X95.here hx rfl (pc0 := 194) (pc' := 199) rfl (hb hby at_194) (by decide) (by decide) k_) ?_
            show G (T95.setTop (mkF m 199 #[.val (.int i0), .val (.int i1), .val (.int i2), .val (.int i3), .val (.int i4), .val (.int 2), .val (.ref b2), .val (.ref b74), .val (.ref q_87), .val (.int r_88), .val (.int r_91), .val (.int r_93), .val (.int r_95), .unset, .unset, .unset] [(.int 3)]))
            exact jf _ (own_litN (own_fst r87_5 (own_ltS (own_ltS (own_ltS own_lt0 (own_zer so0_90 hc163_106)) (own_zer so1_92 hc172_107)) (own_zer so2_94 hc181_108)) (own_one so3_96 hc190_109)) rfl)
        · skip
          refine hG _ _ (fun t_ k_ => XS.ifNo X95.here hx rfl (hb hby at_181) rfl ((if0 _ _).trans (feq hc181_108).1) k_) ?_
          show G (T95.setTop (mkF m 184 #[.val (.int i0), .val (.int i1), .val (.int i2), .val (.int i3), .val (.int i4), .val (.int 2), .val (.ref b2), .val (.ref b74), .val (.ref q_87), .val (.int r_88), .val (.int r_91), .val (.int r_93), .val (.int r_95), .unset, .unset, .unset] []))
          refine hG _ _ (fun t_ k_ => XS.iconst X95.here hx rfl (hb hby at_184) k_) ?_
          refine hG _ _ (fun t_ k_ => XS.goto X95.here hx rfl (pc0 := 185) (pc' := 199) rfl (hb hby at_185) (by decide) (by decide) k_) ?_
          show G (T95.setTop (mkF m 199 #[.val (.int i0), .val (.int i1), .val (.int i2), .val (.int i3), .val (.int i4), .val (.int 2), .val (.ref b2), .val (.ref b74), .val (.ref q_87), .val (.int r_88), .val (.int r_91), .val (.int r_93), .val (.int r_95), .unset, .unset, .unset] [(.int 2)]))
          exact jf _ (own_litN (own_fst r87_5 (own_ltS (own_ltS own_lt0 (own_zer so0_90 hc163_106)) (own_zer so1_92 hc172_107)) (own_one so2_94 hc181_108)) rfl)
      · skip
        refine hG _ _ (fun t_ k_ => XS.ifNo X95.here hx rfl (hb hby at_172) rfl ((if0 _ _).trans (feq hc172_107).1) k_) ?_
        show G (T95.setTop (mkF m 175 #[.val (.int i0), .val (.int i1), .val (.int i2), .val (.int i3), .val (.int i4), .val (.int 2), .val (.ref b2), .val (.ref b74), .val (.ref q_87), .val (.int r_88), .val (.int r_91), .val (.int r_93), .val (.int r_95), .unset, .unset, .unset] []))
        refine hG _ _ (fun t_ k_ => XS.iconst X95.here hx rfl (hb hby at_175) k_) ?_
        refine hG _ _ (fun t_ k_ => XS.goto X95.here hx rfl (pc0 := 176) (pc' := 199) rfl (hb hby at_176) (by decide) (by decide) k_) ?_
        show G (T95.setTop (mkF m 199 #[.val (.int i0), .val (.int i1), .val (.int i2), .val (.int i3), .val (.int i4), .val (.int 2), .val (.ref b2), .val (.ref b74), .val (.ref q_87), .val (.int r_88), .val (.int r_91), .val (.int r_93), .val (.int r_95), .unset, .unset, .unset] [(.int 1)]))
        exact jf _ (own_litN (own_fst r87_5 (own_ltS own_lt0 (own_zer so0_90 hc163_106)) (own_one so1_92 hc172_107)) rfl)
    · skip
      refine hG _ _ (fun t_ k_ => XS.ifNo X95.here hx rfl (hb hby at_163) rfl ((if0 _ _).trans (feq hc163_106).1) k_) ?_
      show G (T95.setTop (mkF m 166 #[.val (.int i0), .val (.int i1), .val (.int i2), .val (.int i3), .val (.int i4), .val (.int 2), .val (.ref b2), .val (.ref b74), .val (.ref q_87), .val (.int r_88), .val (.int r_91), .val (.int r_93), .val (.int r_95), .unset, .unset, .unset] []))
      refine hG _ _ (fun t_ k_ => XS.iconst X95.here hx rfl (hb hby at_166) k_) ?_
      refine hG _ _ (fun t_ k_ => XS.goto X95.here hx rfl (pc0 := 167) (pc' := 199) rfl (hb hby at_167) (by decide) (by decide) k_) ?_
      show G (T95.setTop (mkF m 199 #[.val (.int i0), .val (.int i1), .val (.int i2), .val (.int i3), .val (.int i4), .val (.int 2), .val (.ref b2), .val (.ref b74), .val (.ref q_87), .val (.int r_88), .val (.int r_91), .val (.int r_93), .val (.int r_95), .unset, .unset, .unset] [(.int 0)]))
      exact jf _ (own_litN (own_fst r87_5 own_lt0 (own_one so0_90 hc163_106)) rfl)
  · skip
    show G (T13.setTop (mkF m 46 #[.val (.int i0), .val (.int i1), .val (.int i2), .val (.int i3), .val (.int i4), .val (.int 3), .val (.ref b2), .unset, .unset, .unset, .unset, .unset, .unset, .unset, .unset, .unset] []))
    refine hG _ _ (fun t_ k_ => XS.iload X13.here hx rfl (hb hby at_46) rfl k_) ?_
    show G (T13.setTop (mkF m 48 #[.val (.int i0), .val (.int i1), .val (.int i2), .val (.int i3), .val (.int i4), .val (.int 3), .val (.ref b2), .unset, .unset, .unset, .unset, .unset, .unset, .unset, .unset, .unset] [(.int 3)]))
    obtain ⟨T110, h110, k110, X110, e110, E110, A110, st110⟩ := newP X13 hx hZ (ow hw 0 rfl) e13 (g := (mkF m 48 #[.val (.int i0), .val (.int i1), .val (.int i2), .val (.int i3), .val (.int i4), .val (.int 3), .val (.ref b2), .unset, .unset, .unset, .unset, .unset, .unset, .unset, .unset, .unset] [(.int 3)])) rfl (hb hby at_48) rfl (by decide) (cap := 3) (by decide) (by decide) (by decide) (by decide)
    obtain ⟨b110, z110⟩ : ∃ z, z = h13.size := ⟨_, rfl⟩
    rw [← z110] at A110 st110
    refine hG _ _ st110 ?_
    have R110 := (CHr.ext E110 R13.1)
    have C110 := C13.trans R110
    have K110 : Keep h0 h110 [] := K13.ext E110
    have O110 : own_Old Z h110 := O13.ext E110
    have V110 : Arv Z h110 b110 k110 .char (3 : Int32) [(.int 0), (.int 0), (.int 0)] (.int 0) := (Arv.new A110 (by decide)).pad (pad_rep [] (.int 0) 3)
    show G (T110.setTop (mkF m 50 #[.val (.int i0), .val (.int i1), .val (.int i2), .val (.int i3), .val (.int i4), .val (.int 3), .val (.ref b2), .unset, .unset, .unset, .unset, .unset, .unset, .unset, .unset, .unset] [(.ref b110)]))
    refine hG _ _ (fun t_ k_ => XS.astore X110.here hx rfl (hb hby at_50) rfl rfl (l' := #[.val (.int i0), .val (.int i1), .val (.int i2), .val (.int i3), .val (.int i4), .val (.int 3), .val (.ref b2), .val (.ref b110), .unset, .unset, .unset, .unset, .unset, .unset, .unset, .unset]) rfl k_) ?_
    refine hG _ _ (fun t_ k_ => XS.iload X110.here hx rfl (hb hby at_52) rfl k_) ?_
    show G (T110.setTop (mkF m 54 #[.val (.int i0), .val (.int i1), .val (.int i2), .val (.int i3), .val (.int i4), .val (.int 3), .val (.ref b2), .val (.ref b110), .unset, .unset, .unset, .unset, .unset, .unset, .unset, .unset] [(.int 3)]))
    refine hG _ _ (fun t_ k_ => XS.ifNo X110.here hx rfl (hb hby at_54) rfl ((if0 _ _).trans (tlt (by decide)).2.2.2) k_) ?_
    show G (T110.setTop (mkF m 57 #[.val (.int i0), .val (.int i1), .val (.int i2), .val (.int i3), .val (.int i4), .val (.int 3), .val (.ref b2), .val (.ref b110), .unset, .unset, .unset, .unset, .unset, .unset, .unset, .unset] []))
    refine hG _ _ (fun t_ k_ => XS.aload X110.here hx rfl (hb hby at_57) rfl rfl k_) ?_
    refine hG _ _ (fun t_ k_ => XS.iconst X110.here hx rfl (hb hby at_59) k_) ?_
    refine hG _ _ (fun t_ k_ => XS.aload X110.here hx rfl (hb hby at_60) rfl rfl k_) ?_
    refine hG _ _ (fun t_ k_ => XS.iconst X110.here hx rfl (hb hby at_62) k_) ?_
    show G (T110.setTop (mkF m 63 #[.val (.int i0), .val (.int i1), .val (.int i2), .val (.int i3), .val (.int i4), .val (.int 3), .val (.ref b2), .val (.ref b110), .unset, .unset, .unset, .unset, .unset, .unset, .unset, .unset] [(.int 0), (.ref b2), (.int 0), (.ref b110)]))
    have f112 := (V13.ext E110)
    obtain ⟨c111, Ar111, q111, S111, M111, H111, G111⟩ := id f112
    have hin111 : ¬ ((0 : Int32) < 0 ∨ c111.slots.size ≤ (0 : Int32).toNatClampNeg) := inb_of S111 ⟨by decide, by decide⟩
    refine hG _ _ (X110.caload hx (j := (0 : Int32)) (v := (.int r_3)) (by rw [e110]; exact Ar111.1) (State.isArrayOf_alike hZ.alike Ar111.2.1) Ar111.2.2 hin111 (Has.at H111 hin111 rfl) (g := (mkF m 63 #[.val (.int i0), .val (.int i1), .val (.int i2), .val (.int i3), .val (.int i4), .val (.int 3), .val (.ref b2), .val (.ref b110), .unset, .unset, .unset, .unset, .unset, .unset, .unset, .unset] [(.int 0), (.ref b2), (.int 0), (.ref b110)])) rfl rfl (hb hby at_63)) ?_
    show G (T110.setTop (mkF m 64 #[.val (.int i0), .val (.int i1), .val (.int i2), .val (.int i3), .val (.int i4), .val (.int 3), .val (.ref b2), .val (.ref b110), .unset, .unset, .unset, .unset, .unset, .unset, .unset, .unset] [(.int r_3), (.int 0), (.ref b110)]))
    obtain ⟨c113, Ar113, q113, S113, M113, H113, G113⟩ := id V110
    obtain ⟨T113, h113, X113, e113, W113, st113⟩ := stC X110 hx hZ e110 Ar113 (j := (0 : Int32)) (inb_of S113 ⟨by decide, by decide⟩) (g := (mkF m 64 #[.val (.int i0), .val (.int i1), .val (.int i2), .val (.int i3), .val (.int i4), .val (.int 3), .val (.ref b2), .val (.ref b110), .unset, .unset, .unset, .unset, .unset, .unset, .unset, .unset] [(.int r_3), (.int 0), (.ref b110)])) rfl rfl (hb hby at_64)
    refine hG _ _ st113 ?_
    have sf114 : Safe Z consts_1 _ h110 b110 := (own_safeArv hZ.alike V110 (by decide))
    have R113 := (CHr.wr W113 sf114 R110.1)
    have C113 := C110.trans R113
    have K113 : Keep h0 h113 [] := K110.wr W113 (Or.inr (Nat.le_trans K13.1 (Nat.le_of_eq z110.symm)))
    have O113 : own_Old Z h113 := O110.wr W113 (own_ge O13 (Nat.le_of_eq z110.symm))
    rw [own_narC r3_0] at W113
    have V113 : Arv Z h113 b110 k110 .char (3 : Int32) [(.int r_3), (.int 0), (.int 0)] (.int 0) := Arv.set Ar113 q113 S113 M113 H113 G113 (own_fitC r3_0) W113 0 rfl (Nat.le_of_ble_eq_true rfl)
    have N113 := Fr.snoc X113 N13 (own_ge O13 (Nat.le_of_eq z110.symm))
    show G (T113.setTop (mkF m 65 #[.val (.int i0), .val (.int i1), .val (.int i2), .val (.int i3), .val (.int i4), .val (.int 3), .val (.ref b2), .val (.ref b110), .unset, .unset, .unset, .unset, .unset, .unset, .unset, .unset] []))
    refine hG _ _ (fun t_ k_ => XS.iload X113.here hx rfl (hb hby at_65) rfl k_) ?_
    refine hG _ _ (fun t_ k_ => XS.iconst X113.here hx rfl (hb hby at_67) k_) ?_
    show G (T113.setTop (mkF m 68 #[.val (.int i0), .val (.int i1), .val (.int i2), .val (.int i3), .val (.int i4), .val (.int 3), .val (.ref b2), .val (.ref b110), .unset, .unset, .unset, .unset, .unset, .unset, .unset, .unset] [(.int 1), (.int 3)]))
    refine hG _ _ (fun t_ k_ => XS.icmpNo X113.here hx rfl (hb hby at_68) rfl (tlt (by decide)).2.2.2 k_) ?_
    show G (T113.setTop (mkF m 71 #[.val (.int i0), .val (.int i1), .val (.int i2), .val (.int i3), .val (.int i4), .val (.int 3), .val (.ref b2), .val (.ref b110), .unset, .unset, .unset, .unset, .unset, .unset, .unset, .unset] []))
    refine hG _ _ (fun t_ k_ => XS.aload X113.here hx rfl (hb hby at_71) rfl rfl k_) ?_
    refine hG _ _ (fun t_ k_ => XS.iconst X113.here hx rfl (hb hby at_73) k_) ?_
    refine hG _ _ (fun t_ k_ => XS.aload X113.here hx rfl (hb hby at_74) rfl rfl k_) ?_
    refine hG _ _ (fun t_ k_ => XS.iconst X113.here hx rfl (hb hby at_76) k_) ?_
    show G (T113.setTop (mkF m 77 #[.val (.int i0), .val (.int i1), .val (.int i2), .val (.int i3), .val (.int i4), .val (.int 3), .val (.ref b2), .val (.ref b110), .unset, .unset, .unset, .unset, .unset, .unset, .unset, .unset] [(.int 1), (.ref b2), (.int 1), (.ref b110)]))
    have f116 := (f112.other W113 (own_ne V13.lt (Nat.le_of_eq z110.symm)))
    obtain ⟨c115, Ar115, q115, S115, M115, H115, G115⟩ := id f116
    have hin115 : ¬ ((1 : Int32) < 0 ∨ c115.slots.size ≤ (1 : Int32).toNatClampNeg) := inb_of S115 ⟨by decide, by decide⟩
    refine hG _ _ (X113.caload hx (j := (1 : Int32)) (v := (.int r_6)) (by rw [e113]; exact Ar115.1) (State.isArrayOf_alike hZ.alike Ar115.2.1) Ar115.2.2 hin115 (Has.at H115 hin115 rfl) (g := (mkF m 77 #[.val (.int i0), .val (.int i1), .val (.int i2), .val (.int i3), .val (.int i4), .val (.int 3), .val (.ref b2), .val (.ref b110), .unset, .unset, .unset, .unset, .unset, .unset, .unset, .unset] [(.int 1), (.ref b2), (.int 1), (.ref b110)])) rfl rfl (hb hby at_77)) ?_
    show G (T113.setTop (mkF m 78 #[.val (.int i0), .val (.int i1), .val (.int i2), .val (.int i3), .val (.int i4), .val (.int 3), .val (.ref b2), .val (.ref b110), .unset, .unset, .unset, .unset, .unset, .unset, .unset, .unset] [(.int r_6), (.int 1), (.ref b110)]))
    obtain ⟨c117, Ar117, q117, S117, M117, H117, G117⟩ := id V113
    obtain ⟨T117, h117, X117, e117, W117, st117⟩ := stC X113 hx hZ e113 Ar117 (j := (1 : Int32)) (inb_of S117 ⟨by decide, by decide⟩) (g := (mkF m 78 #[.val (.int i0), .val (.int i1), .val (.int i2), .val (.int i3), .val (.int i4), .val (.int 3), .val (.ref b2), .val (.ref b110), .unset, .unset, .unset, .unset, .unset, .unset, .unset, .unset] [(.int r_6), (.int 1), (.ref b110)])) rfl rfl (hb hby at_78)
    refine hG _ _ st117 ?_
    have sf118 := (R113.safe V110.lt sf114)
    have R117 := (CHr.wr W117 sf118 R113.1)
    have C117 := C113.trans R117
    have K117 : Keep h0 h117 [] := K113.wr W117 (Or.inr (Nat.le_trans K13.1 (Nat.le_of_eq z110.symm)))
    have O117 : own_Old Z h117 := O113.wr W117 (own_ge O13 (Nat.le_of_eq z110.symm))
    rw [own_narC r6_0] at W117
    have V117 : Arv Z h117 b110 k110 .char (3 : Int32) [(.int r_3), (.int r_6), (.int 0)] (.int 0) := Arv.set Ar117 q117 S117 M117 H117 G117 (own_fitC r6_0) W117 1 rfl (Nat.le_of_ble_eq_true rfl)
    have N117 := Fr.snoc X117 N113 (own_ge O13 (Nat.le_of_eq z110.symm))
    show G (T117.setTop (mkF m 79 #[.val (.int i0), .val (.int i1), .val (.int i2), .val (.int i3), .val (.int i4), .val (.int 3), .val (.ref b2), .val (.ref b110), .unset, .unset, .unset, .unset, .unset, .unset, .unset, .unset] []))
    refine hG _ _ (fun t_ k_ => XS.iload X117.here hx rfl (hb hby at_79) rfl k_) ?_
    refine hG _ _ (fun t_ k_ => XS.iconst X117.here hx rfl (hb hby at_81) k_) ?_
    show G (T117.setTop (mkF m 82 #[.val (.int i0), .val (.int i1), .val (.int i2), .val (.int i3), .val (.int i4), .val (.int 3), .val (.ref b2), .val (.ref b110), .unset, .unset, .unset, .unset, .unset, .unset, .unset, .unset] [(.int 2), (.int 3)]))
    refine hG _ _ (fun t_ k_ => XS.icmpNo X117.here hx rfl (hb hby at_82) rfl (tlt (by decide)).2.2.2 k_) ?_
    show G (T117.setTop (mkF m 85 #[.val (.int i0), .val (.int i1), .val (.int i2), .val (.int i3), .val (.int i4), .val (.int 3), .val (.ref b2), .val (.ref b110), .unset, .unset, .unset, .unset, .unset, .unset, .unset, .unset] []))
    refine hG _ _ (fun t_ k_ => XS.aload X117.here hx rfl (hb hby at_85) rfl rfl k_) ?_
    refine hG _ _ (fun t_ k_ => XS.iconst X117.here hx rfl (hb hby at_87) k_) ?_
    refine hG _ _ (fun t_ k_ => XS.aload X117.here hx rfl (hb hby at_88) rfl rfl k_) ?_
    refine hG _ _ (fun t_ k_ => XS.iconst X117.here hx rfl (hb hby at_90) k_) ?_
    show G (T117.setTop (mkF m 91 #[.val (.int i0), .val (.int i1), .val (.int i2), .val (.int i3), .val (.int i4), .val (.int 3), .val (.ref b2), .val (.ref b110), .unset, .unset, .unset, .unset, .unset, .unset, .unset, .unset] [(.int 2), (.ref b2), (.int 2), (.ref b110)]))
    have f120 := (f116.other W117 (own_ne V13.lt (Nat.le_of_eq z110.symm)))
    obtain ⟨c119, Ar119, q119, S119, M119, H119, G119⟩ := id f120
    have hin119 : ¬ ((2 : Int32) < 0 ∨ c119.slots.size ≤ (2 : Int32).toNatClampNeg) := inb_of S119 ⟨by decide, by decide⟩
    refine hG _ _ (X117.caload hx (j := (2 : Int32)) (v := (.int r_9)) (by rw [e117]; exact Ar119.1) (State.isArrayOf_alike hZ.alike Ar119.2.1) Ar119.2.2 hin119 (Has.at H119 hin119 rfl) (g := (mkF m 91 #[.val (.int i0), .val (.int i1), .val (.int i2), .val (.int i3), .val (.int i4), .val (.int 3), .val (.ref b2), .val (.ref b110), .unset, .unset, .unset, .unset, .unset, .unset, .unset, .unset] [(.int 2), (.ref b2), (.int 2), (.ref b110)])) rfl rfl (hb hby at_91)) ?_
    show G (T117.setTop (mkF m 92 #[.val (.int i0), .val (.int i1), .val (.int i2), .val (.int i3), .val (.int i4), .val (.int 3), .val (.ref b2), .val (.ref b110), .unset, .unset, .unset, .unset, .unset, .unset, .unset, .unset] [(.int r_9), (.int 2), (.ref b110)]))
    obtain ⟨c121, Ar121, q121, S121, M121, H121, G121⟩ := id V117
    obtain ⟨T121, h121, X121, e121, W121, st121⟩ := stC X117 hx hZ e117 Ar121 (j := (2 : Int32)) (inb_of S121 ⟨by decide, by decide⟩) (g := (mkF m 92 #[.val (.int i0), .val (.int i1), .val (.int i2), .val (.int i3), .val (.int i4), .val (.int 3), .val (.ref b2), .val (.ref b110), .unset, .unset, .unset, .unset, .unset, .unset, .unset, .unset] [(.int r_9), (.int 2), (.ref b110)])) rfl rfl (hb hby at_92)
    refine hG _ _ st121 ?_
    have sf122 := (R117.safe V113.lt sf118)
    have R121 := (CHr.wr W121 sf122 R117.1)
    have C121 := C117.trans R121
    have K121 : Keep h0 h121 [] := K117.wr W121 (Or.inr (Nat.le_trans K13.1 (Nat.le_of_eq z110.symm)))
    have O121 : own_Old Z h121 := O117.wr W121 (own_ge O13 (Nat.le_of_eq z110.symm))
    rw [own_narC r9_0] at W121
    have V121 : Arv Z h121 b110 k110 .char (3 : Int32) [(.int r_3), (.int r_6), (.int r_9)] (.int 0) := Arv.set Ar121 q121 S121 M121 H121 G121 (own_fitC r9_0) W121 2 rfl (Nat.le_of_ble_eq_true rfl)
    have N121 := Fr.snoc X121 N117 (own_ge O13 (Nat.le_of_eq z110.symm))
    show G (T121.setTop (mkF m 93 #[.val (.int i0), .val (.int i1), .val (.int i2), .val (.int i3), .val (.int i4), .val (.int 3), .val (.ref b2), .val (.ref b110), .unset, .unset, .unset, .unset, .unset, .unset, .unset, .unset] []))
    refine hG _ _ (fun t_ k_ => XS.iload X121.here hx rfl (hb hby at_93) rfl k_) ?_
    refine hG _ _ (fun t_ k_ => XS.iconst X121.here hx rfl (hb hby at_95) k_) ?_
    show G (T121.setTop (mkF m 96 #[.val (.int i0), .val (.int i1), .val (.int i2), .val (.int i3), .val (.int i4), .val (.int 3), .val (.ref b2), .val (.ref b110), .unset, .unset, .unset, .unset, .unset, .unset, .unset, .unset] [(.int 3), (.int 3)]))
    refine hG _ _ (fun t_ k_ => XS.icmpYes X121.here hx rfl (pc0 := 96) (pc' := 107) rfl (hb hby at_96) rfl (flt (by decide)).2.2.2 (by decide) (by decide) k_) ?_
    show G (T121.setTop (mkF m 107 #[.val (.int i0), .val (.int i1), .val (.int i2), .val (.int i3), .val (.int i4), .val (.int 3), .val (.ref b2), .val (.ref b110), .unset, .unset, .unset, .unset, .unset, .unset, .unset, .unset] []))
    obtain ⟨T123, h123, X123, e123, E123, A123, D123, -, st123⟩ := newO X121 hx hZ hown (ow hw 6 rfl) (ow hw 7 rfl) (ow hw 8 rfl) e121 (g := (mkF m 107 #[.val (.int i0), .val (.int i1), .val (.int i2), .val (.int i3), .val (.int i4), .val (.int 3), .val (.ref b2), .val (.ref b110), .unset, .unset, .unset, .unset, .unset, .unset, .unset, .unset] [])) rfl (hb hby at_107) (by decide) (by decide)
    obtain ⟨b123, z123⟩ : ∃ z, z = h121.size := ⟨_, rfl⟩
    rw [← z123] at A123 D123 st123
    refine hG _ _ st123 ?_
    have R123 := (CHr.ext E123 R121.1)
    have C123 := C121.trans R123
    have K123 : Keep h0 h123 [] := K121.ext E123
    have O123 : own_Old Z h123 := O121.ext E123
    show G (T123.setTop (mkF m 110 #[.val (.int i0), .val (.int i1), .val (.int i2), .val (.int i3), .val (.int i4), .val (.int 3), .val (.ref b2), .val (.ref b110), .unset, .unset, .unset, .unset, .unset, .unset, .unset, .unset] [(.ref b123)]))
    refine hG _ _ (fun t_ k_ => XS.dup X123.here hx rfl (hb hby at_110) rfl rfl k_) ?_
    refine hG _ _ (fun t_ k_ => XS.aload X123.here hx rfl (hb hby at_111) rfl rfl k_) ?_
    show G (T123.setTop (mkF m 113 #[.val (.int i0), .val (.int i1), .val (.int i2), .val (.int i3), .val (.int i4), .val (.int 3), .val (.ref b2), .val (.ref b110), .unset, .unset, .unset, .unset, .unset, .unset, .unset, .unset] [(.ref b110), (.ref b123), (.ref b123)]))
    have f125 := (V121.ext E123)
    refine own_callI X123 hx hZ hG hown rfl (ow hw 9 rfl) (ow hw 10 rfl) (ow hw 8 rfl) (ow hw 11 rfl) (by decide) 1 (own_gstr1 l Z a0 hw b123 b110 k110 [r_3, r_6, r_9] cpt (.int 0) .null h123 O123 A123 (D123 (Or.inr (ow hw 22 rfl)) (ty := .byte) (by decide)) (D123 (Or.inr (ow hw 21 rfl)) (ty := (.array .byte)) (by decide)) (own_ge O121 (Nat.le_of_eq z123.symm)) f125 (Nat.le_of_ble_eq_true rfl) (Nat.le_of_ble_eq_true rfl) (own_allc r3_0 (own_allc r6_0 (own_allc r9_0 own_alln))) g0_S g1_hcpt g2_S g3_S g4_S) (by decide) (by decide) e123 (by rw [hml]; rfl) (lenOf own_pd8 rfl) (argsL := [(.ref b110)]) (rest := [(.ref b123)]) rfl rfl (Nat.le_of_eq rfl) (hb hby at_113) (by decide) (by decide) ?_
    intro T124 h124 v124 L124 X124 e124 q124
    obtain ⟨t_124, kt_124, cd_124, nb_124, vs_124, rfl, M124, J124, y124_0, r124_0, r124_1, r124_2, r124_3, r124_4⟩ := q124
    have N124 := Fr.app N121 M124
    have sf126 : Safe Z consts_1 _ h123 b123 := (own_safeStr hZ.alike A123 (D123 (Or.inr (ow hw 21 rfl)) (ty := (.array .byte)) (by decide)))
    have R124 := (CHr.keep J124 (allS sf126 all0) R123.1)
    have C124 := C123.trans R124
    have K124 : Keep h0 h124 [] := K123.trans J124 (allS (Or.inr (Nat.le_trans K121.1 (Nat.le_of_eq z123.symm))) all0)
    have O124 : own_Old Z h124 := O123.keep J124 (allS (own_ge O121 (Nat.le_of_eq z123.symm)) all0)
    show G (T124.setTop (mkF m 116 #[.val (.int i0), .val (.int i1), .val (.int i2), .val (.int i3), .val (.int i4), .val (.int 3), .val (.ref b2), .val (.ref b110), .unset, .unset, .unset, .unset, .unset, .unset, .unset, .unset] [(.ref b123)]))
    refine own_callSW X124 hx hZ hG hown (ow hw 27 rfl) (ow hw 28 rfl) (ow hw 29 rfl) (ow hw 30 rfl) (by decide) 0 (own_strip l Z a0 hw hEL b123 t_124 kt_124 [r_3, r_6, r_9] cd_124 nb_124 vs_124 cpt fmt h124 O124 r124_0 r124_1 r124_2 r124_3 r124_4 (Nat.le_of_ble_eq_true rfl) (own_allc r3_0 (own_allc r6_0 (own_allc r9_0 own_alln))) g0_S g1_hcpt g2_S g3_S g4_S g5_hfmt g6_S) (by decide) (by decide) e124 SI0 (Nat.le_trans (Nat.le_trans (Nat.le_trans (Nat.le_trans (Nat.le_trans (Nat.le_trans (Nat.le_trans (Nat.le_trans (Nat.le_trans (Nat.le_trans (Nat.le_trans (Nat.le_refl _) R2.2.1) R4.2.1) R7.2.1) R10.2.1) R13.2.1) R110.2.1) R113.2.1) R117.2.1) R121.2.1) R123.2.1) R124.2.1) hEL R124.1 (by rw [hml]; rfl) (lenOf own_pd28 rfl) (argsL := [(.ref b123)]) (rest := []) rfl rfl (Nat.le_of_eq rfl) (hb hby at_116) (by decide) (by decide) ?_
    intro T127 h127 v127 L127 X127 e127 SI127 hZ127 hown127 Y127 q127
    obtain ⟨B_127, E_127, q_127, u_127, ku_127, c2_127, n2_127, us_127, rfl, M127, J127, r127_0, r127_1, r127_2, r127_3, r127_4, r127_5⟩ := q127
    have N127 := Fr.app N124 M127
    have R127 := Y127
    have C127 := C124.trans R127
    have K127 : Keep h0 h127 [] := K124.trans J127 all0
    have O127 : own_Old Z h127 := O124.keep J127 all0
    show G (T127.setTop (mkF m 119 #[.val (.int i0), .val (.int i1), .val (.int i2), .val (.int i3), .val (.int i4), .val (.int 3), .val (.ref b2), .val (.ref b110), .unset, .unset, .unset, .unset, .unset, .unset, .unset, .unset] [(.ref q_127)]))
    refine hG _ _ (fun t_ k_ => XS.astore X127.here hx rfl (hb hby at_119) rfl rfl (l' := #[.val (.int i0), .val (.int i1), .val (.int i2), .val (.int i3), .val (.int i4), .val (.int 3), .val (.ref b2), .val (.ref b110), .val (.ref q_127), .unset, .unset, .unset, .unset, .unset, .unset, .unset]) rfl k_) ?_
    refine hG _ _ (fun t_ k_ => XS.aload X127.here hx rfl (hb hby at_121) rfl rfl k_) ?_
    refine hG _ _ (fun t_ k_ => XS.iload X127.here hx rfl (hb hby at_123) rfl k_) ?_
    refine hG _ _ (fun t_ k_ => XS.iconst X127.here hx rfl (hb hby at_125) k_) ?_
    show G (T127.setTop (mkF m 126 #[.val (.int i0), .val (.int i1), .val (.int i2), .val (.int i3), .val (.int i4), .val (.int 3), .val (.ref b2), .val (.ref b110), .val (.ref q_127), .unset, .unset, .unset, .unset, .unset, .unset, .unset] [(.int 0), (.int 3), (.ref b2)]))
    have f129 := ((((f120.other W121 (own_ne V13.lt (Nat.le_of_eq z110.symm))).ext E123).keep J124 (ninS (own_ne (Nat.lt_of_lt_of_le f120.lt (Keep.of_wr W121).1) (Nat.le_of_eq z123.symm)) nin0)).keep J127 nin0)
    refine own_callS X127 hx hZ127 hG hown127 (ow hw 56 rfl) (ow hw 57 rfl) (ow hw 3 rfl) (ow hw 58 rfl) (by decide) 0 (own_sol0 l Z a0 hw b2 (3 : Int32) k2 r_3 r_6 r_9 r_12 h127 O127 f129) (by decide) (by decide) e127 (by rw [hml]; rfl) (lenOf own_pd29 rfl) (argsL := [(.ref b2), (.int 3), (.int 0)]) (rest := []) rfl rfl (Nat.le_of_eq rfl) (hb hby at_126) (by decide) (by decide) ?_
    intro T128 h128 v128 L128 X128 e128 q128
    obtain ⟨r_128, rfl, M128, rfl, r128_0⟩ := q128
    have N128 := Fr.app N127 M128
    show G (T128.setTop (mkF m 129 #[.val (.int i0), .val (.int i1), .val (.int i2), .val (.int i3), .val (.int i4), .val (.int 3), .val (.ref b2), .val (.ref b110), .val (.ref q_127), .unset, .unset, .unset, .unset, .unset, .unset, .unset] [(.int r_128)]))
    have so0_130 := own_solc (cs := [r_3, r_6, r_9]) (k := 0) r128_0 rfl rfl (by decide) (Nat.le_of_ble_eq_true rfl) (fun _ => rfl)
    refine hG _ _ (fun t_ k_ => XS.istore X128.here hx rfl (hb hby at_129) rfl (l' := #[.val (.int i0), .val (.int i1), .val (.int i2), .val (.int i3), .val (.int i4), .val (.int 3), .val (.ref b2), .val (.ref b110), .val (.ref q_127), .val (.int r_128), .unset, .unset, .unset, .unset, .unset, .unset]) rfl k_) ?_
    refine hG _ _ (fun t_ k_ => XS.aload X128.here hx rfl (hb hby at_131) rfl rfl k_) ?_
    refine hG _ _ (fun t_ k_ => XS.iload X128.here hx rfl (hb hby at_133) rfl k_) ?_
    refine hG _ _ (fun t_ k_ => XS.iconst X128.here hx rfl (hb hby at_135) k_) ?_
    show G (T128.setTop (mkF m 136 #[.val (.int i0), .val (.int i1), .val (.int i2), .val (.int i3), .val (.int i4), .val (.int 3), .val (.ref b2), .val (.ref b110), .val (.ref q_127), .val (.int r_128), .unset, .unset, .unset, .unset, .unset, .unset] [(.int 1), (.int 3), (.ref b2)]))
    refine own_callS X128 hx hZ127 hG hown127 (ow hw 56 rfl) (ow hw 57 rfl) (ow hw 3 rfl) (ow hw 58 rfl) (by decide) 0 (own_sol1 l Z a0 hw b2 (3 : Int32) k2 r_3 r_6 r_9 r_12 h127 O127 f129) (by decide) (by decide) e128 (by rw [hml]; rfl) (lenOf own_pd29 rfl) (argsL := [(.ref b2), (.int 3), (.int 1)]) (rest := []) rfl rfl (Nat.le_of_eq rfl) (hb hby at_136) (by decide) (by decide) ?_
    intro T131 h131 v131 L131 X131 e131 q131
    obtain ⟨r_131, rfl, M131, rfl, r131_0⟩ := q131
    have N131 := Fr.app N128 M131
    show G (T131.setTop (mkF m 139 #[.val (.int i0), .val (.int i1), .val (.int i2), .val (.int i3), .val (.int i4), .val (.int 3), .val (.ref b2), .val (.ref b110), .val (.ref q_127), .val (.int r_128), .unset, .unset, .unset, .unset, .unset, .unset] [(.int r_131)]))
    have so1_132 := own_solc (cs := [r_3, r_6, r_9]) (k := 1) r131_0 rfl rfl (by decide) (Nat.le_of_ble_eq_true rfl) (fun _ => rfl)
    refine hG _ _ (fun t_ k_ => XS.istore X131.here hx rfl (hb hby at_139) rfl (l' := #[.val (.int i0), .val (.int i1), .val (.int i2), .val (.int i3), .val (.int i4), .val (.int 3), .val (.ref b2), .val (.ref b110), .val (.ref q_127), .val (.int r_128), .val (.int r_131), .unset, .unset, .unset, .unset, .unset]) rfl k_) ?_
    refine hG _ _ (fun t_ k_ => XS.aload X131.here hx rfl (hb hby at_141) rfl rfl k_) ?_
    refine hG _ _ (fun t_ k_ => XS.iload X131.here hx rfl (hb hby at_143) rfl k_) ?_
    refine hG _ _ (fun t_ k_ => XS.iconst X131.here hx rfl (hb hby at_145) k_) ?_
    show G (T131.setTop (mkF m 146 #[.val (.int i0), .val (.int i1), .val (.int i2), .val (.int i3), .val (.int i4), .val (.int 3), .val (.ref b2), .val (.ref b110), .val (.ref q_127), .val (.int r_128), .val (.int r_131), .unset, .unset, .unset, .unset, .unset] [(.int 2), (.int 3), (.ref b2)]))
    refine own_callS X131 hx hZ127 hG hown127 (ow hw 56 rfl) (ow hw 57 rfl) (ow hw 3 rfl) (ow hw 58 rfl) (by decide) 0 (own_sol2 l Z a0 hw b2 (3 : Int32) k2 r_3 r_6 r_9 r_12 h127 O127 f129) (by decide) (by decide) e131 (by rw [hml]; rfl) (lenOf own_pd29 rfl) (argsL := [(.ref b2), (.int 3), (.int 2)]) (rest := []) rfl rfl (Nat.le_of_eq rfl) (hb hby at_146) (by decide) (by decide) ?_
    intro T133 h133 v133 L133 X133 e133 q133
    obtain ⟨r_133, rfl, M133, rfl, r133_0⟩ := q133
    have N133 := Fr.app N131 M133
    show G (T133.setTop (mkF m 149 #[.val (.int i0), .val (.int i1), .val (.int i2), .val (.int i3), .val (.int i4), .val (.int 3), .val (.ref b2), .val (.ref b110), .val (.ref q_127), .val (.int r_128), .val (.int r_131), .unset, .unset, .unset, .unset, .unset] [(.int r_133)]))
    have so2_134 := own_solc (cs := [r_3, r_6, r_9]) (k := 2) r133_0 rfl rfl (by decide) (Nat.le_of_ble_eq_true rfl) (fun _ => rfl)
    refine hG _ _ (fun t_ k_ => XS.istore X133.here hx rfl (hb hby at_149) rfl (l' := #[.val (.int i0), .val (.int i1), .val (.int i2), .val (.int i3), .val (.int i4), .val (.int 3), .val (.ref b2), .val (.ref b110), .val (.ref q_127), .val (.int r_128), .val (.int r_131), .val (.int r_133), .unset, .unset, .unset, .unset]) rfl k_) ?_
    refine hG _ _ (fun t_ k_ => XS.aload X133.here hx rfl (hb hby at_151) rfl rfl k_) ?_
    refine hG _ _ (fun t_ k_ => XS.iload X133.here hx rfl (hb hby at_153) rfl k_) ?_
    refine hG _ _ (fun t_ k_ => XS.iconst X133.here hx rfl (hb hby at_155) k_) ?_
    show G (T133.setTop (mkF m 156 #[.val (.int i0), .val (.int i1), .val (.int i2), .val (.int i3), .val (.int i4), .val (.int 3), .val (.ref b2), .val (.ref b110), .val (.ref q_127), .val (.int r_128), .val (.int r_131), .val (.int r_133), .unset, .unset, .unset, .unset] [(.int 3), (.int 3), (.ref b2)]))
    refine own_callS X133 hx hZ127 hG hown127 (ow hw 56 rfl) (ow hw 57 rfl) (ow hw 3 rfl) (ow hw 58 rfl) (by decide) 0 (own_sol3 l Z a0 hw b2 (3 : Int32) k2 r_3 r_6 r_9 r_12 h127 O127 f129) (by decide) (by decide) e133 (by rw [hml]; rfl) (lenOf own_pd29 rfl) (argsL := [(.ref b2), (.int 3), (.int 3)]) (rest := []) rfl rfl (Nat.le_of_eq rfl) (hb hby at_156) (by decide) (by decide) ?_
    intro T135 h135 v135 L135 X135 e135 q135
    obtain ⟨r_135, rfl, M135, rfl, r135_0⟩ := q135
    have N135 := Fr.app N133 M135
    show G (T135.setTop (mkF m 159 #[.val (.int i0), .val (.int i1), .val (.int i2), .val (.int i3), .val (.int i4), .val (.int 3), .val (.ref b2), .val (.ref b110), .val (.ref q_127), .val (.int r_128), .val (.int r_131), .val (.int r_133), .unset, .unset, .unset, .unset] [(.int r_135)]))
    have so3_136 := own_solc (cs := [r_3, r_6, r_9]) (k := 3) r135_0 rfl rfl (by decide) (Nat.le_of_ble_eq_true rfl) (fun q => absurd q (Nat.not_lt.mpr (Nat.le_of_ble_eq_true rfl)))
    refine hG _ _ (fun t_ k_ => XS.istore X135.here hx rfl (hb hby at_159) rfl (l' := #[.val (.int i0), .val (.int i1), .val (.int i2), .val (.int i3), .val (.int i4), .val (.int 3), .val (.ref b2), .val (.ref b110), .val (.ref q_127), .val (.int r_128), .val (.int r_131), .val (.int r_133), .val (.int r_135), .unset, .unset, .unset]) rfl k_) ?_
    show G (T135.setTop (mkF m 161 #[.val (.int i0), .val (.int i1), .val (.int i2), .val (.int i3), .val (.int i4), .val (.int 3), .val (.ref b2), .val (.ref b110), .val (.ref q_127), .val (.int r_128), .val (.int r_131), .val (.int r_133), .val (.int r_135), .unset, .unset, .unset] []))
    have jf : ∀ (f : Int32), (f = Int32.ofNat B_127) → G (T135.setTop (mkF m 199 #[.val (.int i0), .val (.int i1), .val (.int i2), .val (.int i3), .val (.int i4), .val (.int 3), .val (.ref b2), .val (.ref b110), .val (.ref q_127), .val (.int r_128), .val (.int r_131), .val (.int r_133), .val (.int r_135), .unset, .unset, .unset] [(.int f)])) := by
      intro f hf
      subst hf
      show G (T135.setTop (mkF m 199 #[.val (.int i0), .val (.int i1), .val (.int i2), .val (.int i3), .val (.int i4), .val (.int 3), .val (.ref b2), .val (.ref b110), .val (.ref q_127), .val (.int r_128), .val (.int r_131), .val (.int r_133), .val (.int r_135), .unset, .unset, .unset] [(.int (Int32.ofNat B_127))]))
      refine hG _ _ (fun t_ k_ => XS.istore X135.here hx rfl (hb hby at_199) rfl (l' := #[.val (.int i0), .val (.int i1), .val (.int i2), .val (.int i3), .val (.int i4), .val (.int 3), .val (.ref b2), .val (.ref b110), .val (.ref q_127), .val (.int r_128), .val (.int r_131), .val (.int r_133), .val (.int r_135), .val (.int (Int32.ofNat B_127)), .unset, .unset]) rfl k_) ?_
      show G (T135.setTop (mkF m 201 #[.val (.int i0), .val (.int i1), .val (.int i2), .val (.int i3), .val (.int i4), .val (.int 3), .val (.ref b2), .val (.ref b110), .val (.ref q_127), .val (.int r_128), .val (.int r_131), .val (.int r_133), .val (.int r_135), .val (.int (Int32.ofNat B_127)), .unset, .unset] []))
      have jl : ∀ (f2 : Int32), (f2 = Int32.ofNat E_127) → G (T135.setTop (mkF m 239 #[.val (.int i0), .val (.int i1), .val (.int i2), .val (.int i3), .val (.int i4), .val (.int 3), .val (.ref b2), .val (.ref b110), .val (.ref q_127), .val (.int r_128), .val (.int r_131), .val (.int r_133), .val (.int r_135), .val (.int (Int32.ofNat B_127)), .unset, .unset] [(.int f2)])) := by
        intro f2 hf2
        subst hf2
        show G (T135.setTop (mkF m 239 #[.val (.int i0), .val (.int i1), .val (.int i2), .val (.int i3), .val (.int i4), .val (.int 3), .val (.ref b2), .val (.ref b110), .val (.ref q_127), .val (.int r_128), .val (.int r_131), .val (.int r_133), .val (.int r_135), .val (.int (Int32.ofNat B_127)), .unset, .unset] [(.int (Int32.ofNat E_127))]))
        refine hG _ _ (fun t_ k_ => XS.istore X135.here hx rfl (hb hby at_239) rfl (l' := #[.val (.int i0), .val (.int i1), .val (.int i2), .val (.int i3), .val (.int i4), .val (.int 3), .val (.ref b2), .val (.ref b110), .val (.ref q_127), .val (.int r_128), .val (.int r_131), .val (.int r_133), .val (.int r_135), .val (.int (Int32.ofNat B_127)), .val (.int (Int32.ofNat E_127)), .unset]) rfl k_) ?_
        refine hG _ _ (fun t_ k_ => XS.iload X135.here hx rfl (hb hby at_241) rfl k_) ?_
        refine hG _ _ (fun t_ k_ => XS.iload X135.here hx rfl (hb hby at_243) rfl k_) ?_
        refine hG _ _ (fun t_ k_ => XS.isub X135.here hx rfl (hb hby at_245) rfl k_) ?_
        show G (T135.setTop (mkF m 246 #[.val (.int i0), .val (.int i1), .val (.int i2), .val (.int i3), .val (.int i4), .val (.int 3), .val (.ref b2), .val (.ref b110), .val (.ref q_127), .val (.int r_128), .val (.int r_131), .val (.int r_133), .val (.int r_135), .val (.int (Int32.ofNat B_127)), .val (.int (Int32.ofNat E_127)), .unset] [(.int ((Int32.ofNat E_127) - (Int32.ofNat B_127)))]))
        rw [show Int32.ofNat E_127 - Int32.ofNat B_127 = Int32.ofNat (E_127 - B_127) from own_subN r127_5.1]
        have hfs := own_from_sub [r_3, r_6, r_9] r127_5.1 r127_5.2.1
        show G (T135.setTop (mkF m 246 #[.val (.int i0), .val (.int i1), .val (.int i2), .val (.int i3), .val (.int i4), .val (.int 3), .val (.ref b2), .val (.ref b110), .val (.ref q_127), .val (.int r_128), .val (.int r_131), .val (.int r_133), .val (.int r_135), .val (.int (Int32.ofNat B_127)), .val (.int (Int32.ofNat E_127)), .unset] [(.int (Int32.ofNat (E_127 - B_127)))]))
        refine hG _ _ (fun t_ k_ => XS.istore X135.here hx rfl (hb hby at_246) rfl (l' := #[.val (.int i0), .val (.int i1), .val (.int i2), .val (.int i3), .val (.int i4), .val (.int 3), .val (.ref b2), .val (.ref b110), .val (.ref q_127), .val (.int r_128), .val (.int r_131), .val (.int r_133), .val (.int r_135), .val (.int (Int32.ofNat B_127)), .val (.int (Int32.ofNat E_127)), .val (.int (Int32.ofNat (E_127 - B_127)))]) rfl k_) ?_
        refine hG _ _ (fun t_ k_ => XS.aload X135.here hx rfl (hb hby at_248) rfl rfl k_) ?_
        show G (T135.setTop (mkF m 250 #[.val (.int i0), .val (.int i1), .val (.int i2), .val (.int i3), .val (.int i4), .val (.int 3), .val (.ref b2), .val (.ref b110), .val (.ref q_127), .val (.int r_128), .val (.int r_131), .val (.int r_133), .val (.int r_135), .val (.int (Int32.ofNat B_127)), .val (.int (Int32.ofNat E_127)), .val (.int (Int32.ofNat (E_127 - B_127)))] [(.ref q_127)]))
        refine hG _ _ (fun t_ k_ => XS.ifnullNo X135.here hx rfl (hb hby at_250) rfl k_) ?_
        show G (T135.setTop (mkF m 253 #[.val (.int i0), .val (.int i1), .val (.int i2), .val (.int i3), .val (.int i4), .val (.int 3), .val (.ref b2), .val (.ref b110), .val (.ref q_127), .val (.int r_128), .val (.int r_131), .val (.int r_133), .val (.int r_135), .val (.int (Int32.ofNat B_127)), .val (.int (Int32.ofNat E_127)), .val (.int (Int32.ofNat (E_127 - B_127)))] []))
        refine hG _ _ (fun t_ k_ => XS.aload X135.here hx rfl (hb hby at_253) rfl rfl k_) ?_
        show G (T135.setTop (mkF m 255 #[.val (.int i0), .val (.int i1), .val (.int i2), .val (.int i3), .val (.int i4), .val (.int 3), .val (.ref b2), .val (.ref b110), .val (.ref q_127), .val (.int r_128), .val (.int r_131), .val (.int r_133), .val (.int r_135), .val (.int (Int32.ofNat B_127)), .val (.int (Int32.ofNat E_127)), .val (.int (Int32.ofNat (E_127 - B_127)))] [(.ref q_127)]))
        refine own_callV (C := "java/lang/String") X135 hx hZ127 hG hown127 (ow hw 59 rfl) (ow hw 32 rfl) (ow hw 34 rfl) (ow hw 33 rfl) (ow hw 8 rfl) (ow hw 35 rfl) (by decide) 0 (own_len l Z a0 hw q_127 u_127 ku_127 (([r_3, r_6, r_9].drop B_127).take (E_127 - B_127)) c2_127 n2_127 us_127 cpt h127 O127 r127_0 r127_1 r127_2 r127_3 r127_4 (by rw [hfs.1]; have := r127_5.2.1; have q4 : [r_3, r_6, r_9].length ≤ 4 := Nat.le_of_ble_eq_true rfl; omega) (own_from_rng hfs.2 (own_allc r3_0 (own_allc r6_0 (own_allc r9_0 own_alln)))) g0_S g1_hcpt) (by decide) (by decide) e135 r127_0 (by rw [hml]; rfl) (lenOf own_pd11 rfl) (argsL := []) (rest := []) rfl rfl (Nat.le_of_eq rfl) (hb hby at_255) (by decide) (by decide) ?_
        intro T137 h137 v137 L137 X137 e137 q137
        obtain ⟨rfl, M137, rfl⟩ := q137
        have N137 := Fr.app N135 M137
        show G (T137.setTop (mkF m 258 #[.val (.int i0), .val (.int i1), .val (.int i2), .val (.int i3), .val (.int i4), .val (.int 3), .val (.ref b2), .val (.ref b110), .val (.ref q_127), .val (.int r_128), .val (.int r_131), .val (.int r_133), .val (.int r_135), .val (.int (Int32.ofNat B_127)), .val (.int (Int32.ofNat E_127)), .val (.int (Int32.ofNat (E_127 - B_127)))] [(.int (Int32.ofNat (([r_3, r_6, r_9].drop B_127).take (E_127 - B_127)).length))]))
        refine hG _ _ (fun t_ k_ => XS.iload X137.here hx rfl (hb hby at_258) rfl k_) ?_
        show G (T137.setTop (mkF m 260 #[.val (.int i0), .val (.int i1), .val (.int i2), .val (.int i3), .val (.int i4), .val (.int 3), .val (.ref b2), .val (.ref b110), .val (.ref q_127), .val (.int r_128), .val (.int r_131), .val (.int r_133), .val (.int r_135), .val (.int (Int32.ofNat B_127)), .val (.int (Int32.ofNat E_127)), .val (.int (Int32.ofNat (E_127 - B_127)))] [(.int (Int32.ofNat (E_127 - B_127))), (.int (Int32.ofNat (([r_3, r_6, r_9].drop B_127).take (E_127 - B_127)).length))]))
        refine hG _ _ (fun t_ k_ => XS.icmpYes X137.here hx rfl (pc0 := 260) (pc' := 265) rfl (hb hby at_260) rfl (teq (congrArg Int32.ofNat hfs.1)).1 (by decide) (by decide) k_) ?_
        show G (T137.setTop (mkF m 265 #[.val (.int i0), .val (.int i1), .val (.int i2), .val (.int i3), .val (.int i4), .val (.int 3), .val (.ref b2), .val (.ref b110), .val (.ref q_127), .val (.int r_128), .val (.int r_131), .val (.int r_133), .val (.int r_135), .val (.int (Int32.ofNat B_127)), .val (.int (Int32.ofNat E_127)), .val (.int (Int32.ofNat (E_127 - B_127)))] []))
        refine hG _ _ (fun t_ k_ => XS.aload X137.here hx rfl (hb hby at_265) rfl rfl k_) ?_
        refine hG _ _ (fun t_ k_ => XS.iload X137.here hx rfl (hb hby at_267) rfl k_) ?_
        refine hG _ _ (fun t_ k_ => XS.aload X137.here hx rfl (hb hby at_269) rfl rfl k_) ?_
        refine hG _ _ (fun t_ k_ => XS.iload X137.here hx rfl (hb hby at_271) rfl k_) ?_
        refine hG _ _ (fun t_ k_ => XS.iconst X137.here hx rfl (hb hby at_273) k_) ?_
        show G (T137.setTop (mkF m 274 #[.val (.int i0), .val (.int i1), .val (.int i2), .val (.int i3), .val (.int i4), .val (.int 3), .val (.ref b2), .val (.ref b110), .val (.ref q_127), .val (.int r_128), .val (.int r_131), .val (.int r_133), .val (.int r_135), .val (.int (Int32.ofNat B_127)), .val (.int (Int32.ofNat E_127)), .val (.int (Int32.ofNat (E_127 - B_127)))] [(.int 0), (.int (Int32.ofNat B_127)), (.ref b2), (.int (Int32.ofNat (E_127 - B_127))), (.ref q_127)]))
        refine own_callS X137 hx hZ127 hG hown127 (ow hw 60 rfl) (ow hw 61 rfl) (ow hw 3 rfl) (ow hw 62 rfl) (by decide) 0 (own_at l Z a0 hw q_127 u_127 ku_127 (([r_3, r_6, r_9].drop B_127).take (E_127 - B_127)) c2_127 n2_127 us_127 cpt b2 k2 r_3 r_6 r_9 r_12 B_127 0 (E_127 - B_127) fmt h127 O127 r127_0 r127_1 r127_2 r127_3 r127_4 (by rw [hfs.1]; have := r127_5.2.1; have q4 : [r_3, r_6, r_9].length ≤ 4 := Nat.le_of_ble_eq_true rfl; omega) (own_from_rng hfs.2 (own_allc r3_0 (own_allc r6_0 (own_allc r9_0 own_alln)))) g0_S g1_hcpt g2_S g3_S g4_S f129 hfs.1.symm (own_atc (xs := [r_3, r_6, r_9, r_12]) (m := 3) rfl rfl r127_5.1 r127_5.2.1) (by decide) g5_hfmt g6_S) (by decide) (by decide) e137 (by rw [hml]; rfl) (lenOf own_pd30 rfl) (argsL := [(.ref q_127), (.int (Int32.ofNat (E_127 - B_127))), (.ref b2), (.int (Int32.ofNat B_127)), (.int 0)]) (rest := []) rfl rfl (Nat.le_of_eq rfl) (hb hby at_274) (by decide) (by decide) ?_
        intro T138 h138 v138 L138 X138 e138 q138
        obtain ⟨rfl, M138, rfl⟩ := q138
        have N138 := Fr.app N137 M138
        show G (T138.setTop (mkF m 277 #[.val (.int i0), .val (.int i1), .val (.int i2), .val (.int i3), .val (.int i4), .val (.int 3), .val (.ref b2), .val (.ref b110), .val (.ref q_127), .val (.int r_128), .val (.int r_131), .val (.int r_133), .val (.int r_135), .val (.int (Int32.ofNat B_127)), .val (.int (Int32.ofNat E_127)), .val (.int (Int32.ofNat (E_127 - B_127)))] [(.int 1)]))
        refine hG _ _ (fun t_ k_ => XS.ifNo X138.here hx rfl (hb hby at_277) rfl ((if0 _ _).trans (feq (by decide)).1) k_) ?_
        show G (T138.setTop (mkF m 280 #[.val (.int i0), .val (.int i1), .val (.int i2), .val (.int i3), .val (.int i4), .val (.int 3), .val (.ref b2), .val (.ref b110), .val (.ref q_127), .val (.int r_128), .val (.int r_131), .val (.int r_133), .val (.int r_135), .val (.int (Int32.ofNat B_127)), .val (.int (Int32.ofNat E_127)), .val (.int (Int32.ofNat (E_127 - B_127)))] []))
        refine hG _ _ (fun t_ k_ => XS.aload X138.here hx rfl (hb hby at_280) rfl rfl k_) ?_
        refine hG _ _ (fun t_ k_ => XS.iload X138.here hx rfl (hb hby at_282) rfl k_) ?_
        refine hG _ _ (fun t_ k_ => XS.aload X138.here hx rfl (hb hby at_284) rfl rfl k_) ?_
        refine hG _ _ (fun t_ k_ => XS.iload X138.here hx rfl (hb hby at_286) rfl k_) ?_
        refine hG _ _ (fun t_ k_ => XS.iconst X138.here hx rfl (hb hby at_288) k_) ?_
        show G (T138.setTop (mkF m 289 #[.val (.int i0), .val (.int i1), .val (.int i2), .val (.int i3), .val (.int i4), .val (.int 3), .val (.ref b2), .val (.ref b110), .val (.ref q_127), .val (.int r_128), .val (.int r_131), .val (.int r_133), .val (.int r_135), .val (.int (Int32.ofNat B_127)), .val (.int (Int32.ofNat E_127)), .val (.int (Int32.ofNat (E_127 - B_127)))] [(.int 1), (.int (Int32.ofNat B_127)), (.ref b2), (.int (Int32.ofNat (E_127 - B_127))), (.ref q_127)]))
        refine own_callS X138 hx hZ127 hG hown127 (ow hw 60 rfl) (ow hw 61 rfl) (ow hw 3 rfl) (ow hw 62 rfl) (by decide) 0 (own_at l Z a0 hw q_127 u_127 ku_127 (([r_3, r_6, r_9].drop B_127).take (E_127 - B_127)) c2_127 n2_127 us_127 cpt b2 k2 r_3 r_6 r_9 r_12 B_127 1 (E_127 - B_127) fmt h127 O127 r127_0 r127_1 r127_2 r127_3 r127_4 (by rw [hfs.1]; have := r127_5.2.1; have q4 : [r_3, r_6, r_9].length ≤ 4 := Nat.le_of_ble_eq_true rfl; omega) (own_from_rng hfs.2 (own_allc r3_0 (own_allc r6_0 (own_allc r9_0 own_alln)))) g0_S g1_hcpt g2_S g3_S g4_S f129 hfs.1.symm (own_atc (xs := [r_3, r_6, r_9, r_12]) (m := 3) rfl rfl r127_5.1 r127_5.2.1) (by decide) g5_hfmt g6_S) (by decide) (by decide) e138 (by rw [hml]; rfl) (lenOf own_pd30 rfl) (argsL := [(.ref q_127), (.int (Int32.ofNat (E_127 - B_127))), (.ref b2), (.int (Int32.ofNat B_127)), (.int 1)]) (rest := []) rfl rfl (Nat.le_of_eq rfl) (hb hby at_289) (by decide) (by decide) ?_
        intro T139 h139 v139 L139 X139 e139 q139
        obtain ⟨rfl, M139, rfl⟩ := q139
        have N139 := Fr.app N138 M139
        show G (T139.setTop (mkF m 292 #[.val (.int i0), .val (.int i1), .val (.int i2), .val (.int i3), .val (.int i4), .val (.int 3), .val (.ref b2), .val (.ref b110), .val (.ref q_127), .val (.int r_128), .val (.int r_131), .val (.int r_133), .val (.int r_135), .val (.int (Int32.ofNat B_127)), .val (.int (Int32.ofNat E_127)), .val (.int (Int32.ofNat (E_127 - B_127)))] [(.int 1)]))
        refine hG _ _ (fun t_ k_ => XS.ifNo X139.here hx rfl (hb hby at_292) rfl ((if0 _ _).trans (feq (by decide)).1) k_) ?_
        show G (T139.setTop (mkF m 295 #[.val (.int i0), .val (.int i1), .val (.int i2), .val (.int i3), .val (.int i4), .val (.int 3), .val (.ref b2), .val (.ref b110), .val (.ref q_127), .val (.int r_128), .val (.int r_131), .val (.int r_133), .val (.int r_135), .val (.int (Int32.ofNat B_127)), .val (.int (Int32.ofNat E_127)), .val (.int (Int32.ofNat (E_127 - B_127)))] []))
        refine hG _ _ (fun t_ k_ => XS.aload X139.here hx rfl (hb hby at_295) rfl rfl k_) ?_
        refine hG _ _ (fun t_ k_ => XS.iload X139.here hx rfl (hb hby at_297) rfl k_) ?_
        refine hG _ _ (fun t_ k_ => XS.aload X139.here hx rfl (hb hby at_299) rfl rfl k_) ?_
        refine hG _ _ (fun t_ k_ => XS.iload X139.here hx rfl (hb hby at_301) rfl k_) ?_
        refine hG _ _ (fun t_ k_ => XS.iconst X139.here hx rfl (hb hby at_303) k_) ?_
        show G (T139.setTop (mkF m 304 #[.val (.int i0), .val (.int i1), .val (.int i2), .val (.int i3), .val (.int i4), .val (.int 3), .val (.ref b2), .val (.ref b110), .val (.ref q_127), .val (.int r_128), .val (.int r_131), .val (.int r_133), .val (.int r_135), .val (.int (Int32.ofNat B_127)), .val (.int (Int32.ofNat E_127)), .val (.int (Int32.ofNat (E_127 - B_127)))] [(.int 2), (.int (Int32.ofNat B_127)), (.ref b2), (.int (Int32.ofNat (E_127 - B_127))), (.ref q_127)]))
        refine own_callS X139 hx hZ127 hG hown127 (ow hw 60 rfl) (ow hw 61 rfl) (ow hw 3 rfl) (ow hw 62 rfl) (by decide) 0 (own_at l Z a0 hw q_127 u_127 ku_127 (([r_3, r_6, r_9].drop B_127).take (E_127 - B_127)) c2_127 n2_127 us_127 cpt b2 k2 r_3 r_6 r_9 r_12 B_127 2 (E_127 - B_127) fmt h127 O127 r127_0 r127_1 r127_2 r127_3 r127_4 (by rw [hfs.1]; have := r127_5.2.1; have q4 : [r_3, r_6, r_9].length ≤ 4 := Nat.le_of_ble_eq_true rfl; omega) (own_from_rng hfs.2 (own_allc r3_0 (own_allc r6_0 (own_allc r9_0 own_alln)))) g0_S g1_hcpt g2_S g3_S g4_S f129 hfs.1.symm (own_atc (xs := [r_3, r_6, r_9, r_12]) (m := 3) rfl rfl r127_5.1 r127_5.2.1) (by decide) g5_hfmt g6_S) (by decide) (by decide) e139 (by rw [hml]; rfl) (lenOf own_pd30 rfl) (argsL := [(.ref q_127), (.int (Int32.ofNat (E_127 - B_127))), (.ref b2), (.int (Int32.ofNat B_127)), (.int 2)]) (rest := []) rfl rfl (Nat.le_of_eq rfl) (hb hby at_304) (by decide) (by decide) ?_
        intro T140 h140 v140 L140 X140 e140 q140
        obtain ⟨rfl, M140, rfl⟩ := q140
        have N140 := Fr.app N139 M140
        show G (T140.setTop (mkF m 307 #[.val (.int i0), .val (.int i1), .val (.int i2), .val (.int i3), .val (.int i4), .val (.int 3), .val (.ref b2), .val (.ref b110), .val (.ref q_127), .val (.int r_128), .val (.int r_131), .val (.int r_133), .val (.int r_135), .val (.int (Int32.ofNat B_127)), .val (.int (Int32.ofNat E_127)), .val (.int (Int32.ofNat (E_127 - B_127)))] [(.int 1)]))
        refine hG _ _ (fun t_ k_ => XS.ifNo X140.here hx rfl (hb hby at_307) rfl ((if0 _ _).trans (feq (by decide)).1) k_) ?_
        show G (T140.setTop (mkF m 310 #[.val (.int i0), .val (.int i1), .val (.int i2), .val (.int i3), .val (.int i4), .val (.int 3), .val (.ref b2), .val (.ref b110), .val (.ref q_127), .val (.int r_128), .val (.int r_131), .val (.int r_133), .val (.int r_135), .val (.int (Int32.ofNat B_127)), .val (.int (Int32.ofNat E_127)), .val (.int (Int32.ofNat (E_127 - B_127)))] []))
        refine hG _ _ (fun t_ k_ => XS.aload X140.here hx rfl (hb hby at_310) rfl rfl k_) ?_
        refine hG _ _ (fun t_ k_ => XS.iload X140.here hx rfl (hb hby at_312) rfl k_) ?_
        refine hG _ _ (fun t_ k_ => XS.aload X140.here hx rfl (hb hby at_314) rfl rfl k_) ?_
        refine hG _ _ (fun t_ k_ => XS.iload X140.here hx rfl (hb hby at_316) rfl k_) ?_
        refine hG _ _ (fun t_ k_ => XS.iconst X140.here hx rfl (hb hby at_318) k_) ?_
        show G (T140.setTop (mkF m 319 #[.val (.int i0), .val (.int i1), .val (.int i2), .val (.int i3), .val (.int i4), .val (.int 3), .val (.ref b2), .val (.ref b110), .val (.ref q_127), .val (.int r_128), .val (.int r_131), .val (.int r_133), .val (.int r_135), .val (.int (Int32.ofNat B_127)), .val (.int (Int32.ofNat E_127)), .val (.int (Int32.ofNat (E_127 - B_127)))] [(.int 3), (.int (Int32.ofNat B_127)), (.ref b2), (.int (Int32.ofNat (E_127 - B_127))), (.ref q_127)]))
        refine own_callS X140 hx hZ127 hG hown127 (ow hw 60 rfl) (ow hw 61 rfl) (ow hw 3 rfl) (ow hw 62 rfl) (by decide) 0 (own_at l Z a0 hw q_127 u_127 ku_127 (([r_3, r_6, r_9].drop B_127).take (E_127 - B_127)) c2_127 n2_127 us_127 cpt b2 k2 r_3 r_6 r_9 r_12 B_127 3 (E_127 - B_127) fmt h127 O127 r127_0 r127_1 r127_2 r127_3 r127_4 (by rw [hfs.1]; have := r127_5.2.1; have q4 : [r_3, r_6, r_9].length ≤ 4 := Nat.le_of_ble_eq_true rfl; omega) (own_from_rng hfs.2 (own_allc r3_0 (own_allc r6_0 (own_allc r9_0 own_alln)))) g0_S g1_hcpt g2_S g3_S g4_S f129 hfs.1.symm (own_atc (xs := [r_3, r_6, r_9, r_12]) (m := 3) rfl rfl r127_5.1 r127_5.2.1) (by decide) g5_hfmt g6_S) (by decide) (by decide) e140 (by rw [hml]; rfl) (lenOf own_pd30 rfl) (argsL := [(.ref q_127), (.int (Int32.ofNat (E_127 - B_127))), (.ref b2), (.int (Int32.ofNat B_127)), (.int 3)]) (rest := []) rfl rfl (Nat.le_of_eq rfl) (hb hby at_319) (by decide) (by decide) ?_
        intro T141 h141 v141 L141 X141 e141 q141
        obtain ⟨rfl, M141, rfl⟩ := q141
        have N141 := Fr.app N140 M141
        show G (T141.setTop (mkF m 322 #[.val (.int i0), .val (.int i1), .val (.int i2), .val (.int i3), .val (.int i4), .val (.int 3), .val (.ref b2), .val (.ref b110), .val (.ref q_127), .val (.int r_128), .val (.int r_131), .val (.int r_133), .val (.int r_135), .val (.int (Int32.ofNat B_127)), .val (.int (Int32.ofNat E_127)), .val (.int (Int32.ofNat (E_127 - B_127)))] [(.int 1)]))
        refine hG _ _ (fun t_ k_ => XS.ifNo X141.here hx rfl (hb hby at_322) rfl ((if0 _ _).trans (feq (by decide)).1) k_) ?_
        show G (T141.setTop (mkF m 325 #[.val (.int i0), .val (.int i1), .val (.int i2), .val (.int i3), .val (.int i4), .val (.int 3), .val (.ref b2), .val (.ref b110), .val (.ref q_127), .val (.int r_128), .val (.int r_131), .val (.int r_133), .val (.int r_135), .val (.int (Int32.ofNat B_127)), .val (.int (Int32.ofNat E_127)), .val (.int (Int32.ofNat (E_127 - B_127)))] []))
        refine hG _ _ (fun t_ k_ => XS.iconst X141.here hx rfl (hb hby at_325) k_) ?_
        refine hG _ _ (fun t_ k_ => XS.goto X141.here hx rfl (pc0 := 326) (pc' := 330) rfl (hb hby at_326) (by decide) (by decide) k_) ?_
        show G (T141.setTop (mkF m 330 #[.val (.int i0), .val (.int i1), .val (.int i2), .val (.int i3), .val (.int i4), .val (.int 3), .val (.ref b2), .val (.ref b110), .val (.ref q_127), .val (.int r_128), .val (.int r_131), .val (.int r_133), .val (.int r_135), .val (.int (Int32.ofNat B_127)), .val (.int (Int32.ofNat E_127)), .val (.int (Int32.ofNat (E_127 - B_127)))] [(.int 1)]))
        exact own_retNW hR hret (by simp) X141 hx (hb hby at_330) e141 SI127 (Nat.le_refl _) hZ127 C127 (by decide) (by decide) ⟨rfl, N141, K127⟩
      show G (T135.setTop (mkF m 201 #[.val (.int i0), .val (.int i1), .val (.int i2), .val (.int i3), .val (.int i4), .val (.int 3), .val (.ref b2), .val (.ref b110), .val (.ref q_127), .val (.int r_128), .val (.int r_131), .val (.int r_133), .val (.int r_135), .val (.int (Int32.ofNat B_127)), .unset, .unset] []))
      refine hG _ _ (fun t_ k_ => XS.iload X135.here hx rfl (hb hby at_201) rfl k_) ?_
      show G (T135.setTop (mkF m 203 #[.val (.int i0), .val (.int i1), .val (.int i2), .val (.int i3), .val (.int i4), .val (.int 3), .val (.ref b2), .val (.ref b110), .val (.ref q_127), .val (.int r_128), .val (.int r_131), .val (.int r_133), .val (.int r_135), .val (.int (Int32.ofNat B_127)), .unset, .unset] [(.int r_135)]))
      by_cases hc203_142 : r_135 = (0 : Int32)
      · skip
        refine hG _ _ (fun t_ k_ => XS.ifYes X135.here hx rfl (pc0 := 203) (pc' := 210) rfl (hb hby at_203) rfl ((if0 _ _).trans (teq hc203_142).1) (by decide) (by decide) k_) ?_
        show G (T135.setTop (mkF m 210 #[.val (.int i0), .val (.int i1), .val (.int i2), .val (.int i3), .val (.int i4), .val (.int 3), .val (.ref b2), .val (.ref b110), .val (.ref q_127), .val (.int r_128), .val (.int r_131), .val (.int r_133), .val (.int r_135), .val (.int (Int32.ofNat B_127)), .unset, .unset] []))
        refine hG _ _ (fun t_ k_ => XS.iload X135.here hx rfl (hb hby at_210) rfl k_) ?_
        show G (T135.setTop (mkF m 212 #[.val (.int i0), .val (.int i1), .val (.int i2), .val (.int i3), .val (.int i4), .val (.int 3), .val (.ref b2), .val (.ref b110), .val (.ref q_127), .val (.int r_128), .val (.int r_131), .val (.int r_133), .val (.int r_135), .val (.int (Int32.ofNat B_127)), .unset, .unset] [(.int r_133)]))
        by_cases hc212_143 : r_133 = (0 : Int32)
        · skip
          refine hG _ _ (fun t_ k_ => XS.ifYes X135.here hx rfl (pc0 := 212) (pc' := 219) rfl (hb hby at_212) rfl ((if0 _ _).trans (teq hc212_143).1) (by decide) (by decide) k_) ?_
          show G (T135.setTop (mkF m 219 #[.val (.int i0), .val (.int i1), .val (.int i2), .val (.int i3), .val (.int i4), .val (.int 3), .val (.ref b2), .val (.ref b110), .val (.ref q_127), .val (.int r_128), .val (.int r_131), .val (.int r_133), .val (.int r_135), .val (.int (Int32.ofNat B_127)), .unset, .unset] []))
          refine hG _ _ (fun t_ k_ => XS.iload X135.here hx rfl (hb hby at_219) rfl k_) ?_
          show G (T135.setTop (mkF m 221 #[.val (.int i0), .val (.int i1), .val (.int i2), .val (.int i3), .val (.int i4), .val (.int 3), .val (.ref b2), .val (.ref b110), .val (.ref q_127), .val (.int r_128), .val (.int r_131), .val (.int r_133), .val (.int r_135), .val (.int (Int32.ofNat B_127)), .unset, .unset] [(.int r_131)]))
          by_cases hc221_144 : r_131 = (0 : Int32)
          · skip
            refine hG _ _ (fun t_ k_ => XS.ifYes X135.here hx rfl (pc0 := 221) (pc' := 228) rfl (hb hby at_221) rfl ((if0 _ _).trans (teq hc221_144).1) (by decide) (by decide) k_) ?_
            show G (T135.setTop (mkF m 228 #[.val (.int i0), .val (.int i1), .val (.int i2), .val (.int i3), .val (.int i4), .val (.int 3), .val (.ref b2), .val (.ref b110), .val (.ref q_127), .val (.int r_128), .val (.int r_131), .val (.int r_133), .val (.int r_135), .val (.int (Int32.ofNat B_127)), .unset, .unset] []))
            refine hG _ _ (fun t_ k_ => XS.iload X135.here hx rfl (hb hby at_228) rfl k_) ?_
            show G (T135.setTop (mkF m 230 #[.val (.int i0), .val (.int i1), .val (.int i2), .val (.int i3), .val (.int i4), .val (.int 3), .val (.ref b2), .val (.ref b110), .val (.ref q_127), .val (.int r_128), .val (.int r_131), .val (.int r_133), .val (.int r_135), .val (.int (Int32.ofNat B_127)), .unset, .unset] [(.int r_128)]))
            by_cases hc230_145 : r_128 = (0 : Int32)
            · skip
              refine hG _ _ (fun t_ k_ => XS.ifYes X135.here hx rfl (pc0 := 230) (pc' := 237) rfl (hb hby at_230) rfl ((if0 _ _).trans (teq hc230_145).1) (by decide) (by decide) k_) ?_
              show G (T135.setTop (mkF m 237 #[.val (.int i0), .val (.int i1), .val (.int i2), .val (.int i3), .val (.int i4), .val (.int 3), .val (.ref b2), .val (.ref b110), .val (.ref q_127), .val (.int r_128), .val (.int r_131), .val (.int r_133), .val (.int r_135), .val (.int (Int32.ofNat B_127)), .unset, .unset] []))
              refine hG _ _ (fun t_ k_ => XS.iload X135.here hx rfl (hb hby at_237) rfl k_) ?_
              show G (T135.setTop (mkF m 239 #[.val (.int i0), .val (.int i1), .val (.int i2), .val (.int i3), .val (.int i4), .val (.int 3), .val (.ref b2), .val (.ref b110), .val (.ref q_127), .val (.int r_128), .val (.int r_131), .val (.int r_133), .val (.int r_135), .val (.int (Int32.ofNat B_127)), .unset, .unset] [(.int 3)]))
              exact jl _ (own_litN ((own_none r127_5 (Nat.le_of_ble_eq_true rfl) (own_ltS (own_ltS (own_ltS (own_ltS own_lt0 (own_zer so0_130 hc230_145)) (own_zer so1_132 hc221_144)) (own_zer so2_134 hc212_143)) (own_zer so3_136 hc203_142))).2) rfl)
            · skip
              refine hG _ _ (fun t_ k_ => XS.ifNo X135.here hx rfl (hb hby at_230) rfl ((if0 _ _).trans (feq hc230_145).1) k_) ?_
              show G (T135.setTop (mkF m 233 #[.val (.int i0), .val (.int i1), .val (.int i2), .val (.int i3), .val (.int i4), .val (.int 3), .val (.ref b2), .val (.ref b110), .val (.ref q_127), .val (.int r_128), .val (.int r_131), .val (.int r_133), .val (.int r_135), .val (.int (Int32.ofNat B_127)), .unset, .unset] []))
              refine hG _ _ (fun t_ k_ => XS.iconst X135.here hx rfl (hb hby at_233) k_) ?_
              refine hG _ _ (fun t_ k_ => XS.goto X135.here hx rfl (pc0 := 234) (pc' := 239) rfl (hb hby at_234) (by decide) (by decide) k_) ?_
              show G (T135.setTop (mkF m 239 #[.val (.int i0), .val (.int i1), .val (.int i2), .val (.int i3), .val (.int i4), .val (.int 3), .val (.ref b2), .val (.ref b110), .val (.ref q_127), .val (.int r_128), .val (.int r_131), .val (.int r_133), .val (.int r_135), .val (.int (Int32.ofNat B_127)), .unset, .unset] [(.int 1)]))
              exact jl _ (own_litN (own_lst r127_5 (Nat.le_of_ble_eq_true rfl) (fun j hj hj4 => by rcases (show j = 1 ∨ j = 2 ∨ j = 3 by omega) with rfl | rfl | rfl; exact (own_zer so1_132 hc221_144); exact (own_zer so2_134 hc212_143); exact (own_zer so3_136 hc203_142)) (own_one so0_130 hc230_145)) rfl)
          · skip
            refine hG _ _ (fun t_ k_ => XS.ifNo X135.here hx rfl (hb hby at_221) rfl ((if0 _ _).trans (feq hc221_144).1) k_) ?_
            show G (T135.setTop (mkF m 224 #[.val (.int i0), .val (.int i1), .val (.int i2), .val (.int i3), .val (.int i4), .val (.int 3), .val (.ref b2), .val (.ref b110), .val (.ref q_127), .val (.int r_128), .val (.int r_131), .val (.int r_133), .val (.int r_135), .val (.int (Int32.ofNat B_127)), .unset, .unset] []))
            refine hG _ _ (fun t_ k_ => XS.iconst X135.here hx rfl (hb hby at_224) k_) ?_
            refine hG _ _ (fun t_ k_ => XS.goto X135.here hx rfl (pc0 := 225) (pc' := 239) rfl (hb hby at_225) (by decide) (by decide) k_) ?_
            show G (T135.setTop (mkF m 239 #[.val (.int i0), .val (.int i1), .val (.int i2), .val (.int i3), .val (.int i4), .val (.int 3), .val (.ref b2), .val (.ref b110), .val (.ref q_127), .val (.int r_128), .val (.int r_131), .val (.int r_133), .val (.int r_135), .val (.int (Int32.ofNat B_127)), .unset, .unset] [(.int 2)]))
            exact jl _ (own_litN (own_lst r127_5 (Nat.le_of_ble_eq_true rfl) (fun j hj hj4 => by rcases (show j = 2 ∨ j = 3 by omega) with rfl | rfl; exact (own_zer so2_134 hc212_143); exact (own_zer so3_136 hc203_142)) (own_one so1_132 hc221_144)) rfl)
        · skip
          refine hG _ _ (fun t_ k_ => XS.ifNo X135.here hx rfl (hb hby at_212) rfl ((if0 _ _).trans (feq hc212_143).1) k_) ?_
          show G (T135.setTop (mkF m 215 #[.val (.int i0), .val (.int i1), .val (.int i2), .val (.int i3), .val (.int i4), .val (.int 3), .val (.ref b2), .val (.ref b110), .val (.ref q_127), .val (.int r_128), .val (.int r_131), .val (.int r_133), .val (.int r_135), .val (.int (Int32.ofNat B_127)), .unset, .unset] []))
          refine hG _ _ (fun t_ k_ => XS.iconst X135.here hx rfl (hb hby at_215) k_) ?_
          refine hG _ _ (fun t_ k_ => XS.goto X135.here hx rfl (pc0 := 216) (pc' := 239) rfl (hb hby at_216) (by decide) (by decide) k_) ?_
          show G (T135.setTop (mkF m 239 #[.val (.int i0), .val (.int i1), .val (.int i2), .val (.int i3), .val (.int i4), .val (.int 3), .val (.ref b2), .val (.ref b110), .val (.ref q_127), .val (.int r_128), .val (.int r_131), .val (.int r_133), .val (.int r_135), .val (.int (Int32.ofNat B_127)), .unset, .unset] [(.int 3)]))
          exact jl _ (own_litN (own_lst r127_5 (Nat.le_of_ble_eq_true rfl) (fun j hj hj4 => by rcases (show j = 3 by omega) with rfl; exact (own_zer so3_136 hc203_142)) (own_one so2_134 hc212_143)) rfl)
      · skip
        refine hG _ _ (fun t_ k_ => XS.ifNo X135.here hx rfl (hb hby at_203) rfl ((if0 _ _).trans (feq hc203_142).1) k_) ?_
        show G (T135.setTop (mkF m 206 #[.val (.int i0), .val (.int i1), .val (.int i2), .val (.int i3), .val (.int i4), .val (.int 3), .val (.ref b2), .val (.ref b110), .val (.ref q_127), .val (.int r_128), .val (.int r_131), .val (.int r_133), .val (.int r_135), .val (.int (Int32.ofNat B_127)), .unset, .unset] []))
        refine hG _ _ (fun t_ k_ => XS.iconst X135.here hx rfl (hb hby at_206) k_) ?_
        refine hG _ _ (fun t_ k_ => XS.goto X135.here hx rfl (pc0 := 207) (pc' := 239) rfl (hb hby at_207) (by decide) (by decide) k_) ?_
        show G (T135.setTop (mkF m 239 #[.val (.int i0), .val (.int i1), .val (.int i2), .val (.int i3), .val (.int i4), .val (.int 3), .val (.ref b2), .val (.ref b110), .val (.ref q_127), .val (.int r_128), .val (.int r_131), .val (.int r_133), .val (.int r_135), .val (.int (Int32.ofNat B_127)), .unset, .unset] [(.int 4)]))
        exact jl _ (own_litN (own_lst r127_5 (Nat.le_of_ble_eq_true rfl) (fun j hj hj4 => by omega) (own_one so3_136 hc203_142)) rfl)
    show G (T135.setTop (mkF m 161 #[.val (.int i0), .val (.int i1), .val (.int i2), .val (.int i3), .val (.int i4), .val (.int 3), .val (.ref b2), .val (.ref b110), .val (.ref q_127), .val (.int r_128), .val (.int r_131), .val (.int r_133), .val (.int r_135), .unset, .unset, .unset] []))
    refine hG _ _ (fun t_ k_ => XS.iload X135.here hx rfl (hb hby at_161) rfl k_) ?_
    show G (T135.setTop (mkF m 163 #[.val (.int i0), .val (.int i1), .val (.int i2), .val (.int i3), .val (.int i4), .val (.int 3), .val (.ref b2), .val (.ref b110), .val (.ref q_127), .val (.int r_128), .val (.int r_131), .val (.int r_133), .val (.int r_135), .unset, .unset, .unset] [(.int r_128)]))
    by_cases hc163_146 : r_128 = (0 : Int32)
    · skip
      refine hG _ _ (fun t_ k_ => XS.ifYes X135.here hx rfl (pc0 := 163) (pc' := 170) rfl (hb hby at_163) rfl ((if0 _ _).trans (teq hc163_146).1) (by decide) (by decide) k_) ?_
      show G (T135.setTop (mkF m 170 #[.val (.int i0), .val (.int i1), .val (.int i2), .val (.int i3), .val (.int i4), .val (.int 3), .val (.ref b2), .val (.ref b110), .val (.ref q_127), .val (.int r_128), .val (.int r_131), .val (.int r_133), .val (.int r_135), .unset, .unset, .unset] []))
      refine hG _ _ (fun t_ k_ => XS.iload X135.here hx rfl (hb hby at_170) rfl k_) ?_
      show G (T135.setTop (mkF m 172 #[.val (.int i0), .val (.int i1), .val (.int i2), .val (.int i3), .val (.int i4), .val (.int 3), .val (.ref b2), .val (.ref b110), .val (.ref q_127), .val (.int r_128), .val (.int r_131), .val (.int r_133), .val (.int r_135), .unset, .unset, .unset] [(.int r_131)]))
      by_cases hc172_147 : r_131 = (0 : Int32)
      · skip
        refine hG _ _ (fun t_ k_ => XS.ifYes X135.here hx rfl (pc0 := 172) (pc' := 179) rfl (hb hby at_172) rfl ((if0 _ _).trans (teq hc172_147).1) (by decide) (by decide) k_) ?_
        show G (T135.setTop (mkF m 179 #[.val (.int i0), .val (.int i1), .val (.int i2), .val (.int i3), .val (.int i4), .val (.int 3), .val (.ref b2), .val (.ref b110), .val (.ref q_127), .val (.int r_128), .val (.int r_131), .val (.int r_133), .val (.int r_135), .unset, .unset, .unset] []))
        refine hG _ _ (fun t_ k_ => XS.iload X135.here hx rfl (hb hby at_179) rfl k_) ?_
        show G (T135.setTop (mkF m 181 #[.val (.int i0), .val (.int i1), .val (.int i2), .val (.int i3), .val (.int i4), .val (.int 3), .val (.ref b2), .val (.ref b110), .val (.ref q_127), .val (.int r_128), .val (.int r_131), .val (.int r_133), .val (.int r_135), .unset, .unset, .unset] [(.int r_133)]))
        by_cases hc181_148 : r_133 = (0 : Int32)
        · skip
          refine hG _ _ (fun t_ k_ => XS.ifYes X135.here hx rfl (pc0 := 181) (pc' := 188) rfl (hb hby at_181) rfl ((if0 _ _).trans (teq hc181_148).1) (by decide) (by decide) k_) ?_
          show G (T135.setTop (mkF m 188 #[.val (.int i0), .val (.int i1), .val (.int i2), .val (.int i3), .val (.int i4), .val (.int 3), .val (.ref b2), .val (.ref b110), .val (.ref q_127), .val (.int r_128), .val (.int r_131), .val (.int r_133), .val (.int r_135), .unset, .unset, .unset] []))
          refine hG _ _ (fun t_ k_ => XS.iload X135.here hx rfl (hb hby at_188) rfl k_) ?_
          show G (T135.setTop (mkF m 190 #[.val (.int i0), .val (.int i1), .val (.int i2), .val (.int i3), .val (.int i4), .val (.int 3), .val (.ref b2), .val (.ref b110), .val (.ref q_127), .val (.int r_128), .val (.int r_131), .val (.int r_133), .val (.int r_135), .unset, .unset, .unset] [(.int r_135)]))
          by_cases hc190_149 : r_135 = (0 : Int32)
          · skip
            refine hG _ _ (fun t_ k_ => XS.ifYes X135.here hx rfl (pc0 := 190) (pc' := 197) rfl (hb hby at_190) rfl ((if0 _ _).trans (teq hc190_149).1) (by decide) (by decide) k_) ?_
            show G (T135.setTop (mkF m 197 #[.val (.int i0), .val (.int i1), .val (.int i2), .val (.int i3), .val (.int i4), .val (.int 3), .val (.ref b2), .val (.ref b110), .val (.ref q_127), .val (.int r_128), .val (.int r_131), .val (.int r_133), .val (.int r_135), .unset, .unset, .unset] []))
            refine hG _ _ (fun t_ k_ => XS.iload X135.here hx rfl (hb hby at_197) rfl k_) ?_
            show G (T135.setTop (mkF m 199 #[.val (.int i0), .val (.int i1), .val (.int i2), .val (.int i3), .val (.int i4), .val (.int 3), .val (.ref b2), .val (.ref b110), .val (.ref q_127), .val (.int r_128), .val (.int r_131), .val (.int r_133), .val (.int r_135), .unset, .unset, .unset] [(.int 3)]))
            exact jf _ (own_litN ((own_none r127_5 (Nat.le_of_ble_eq_true rfl) (own_ltS (own_ltS (own_ltS (own_ltS own_lt0 (own_zer so0_130 hc163_146)) (own_zer so1_132 hc172_147)) (own_zer so2_134 hc181_148)) (own_zer so3_136 hc190_149))).1) rfl)
          · skip
            refine hG _ _ (fun t_ k_ => XS.ifNo X135.here hx rfl (hb hby at_190) rfl ((if0 _ _).trans (feq hc190_149).1) k_) ?_
            show G (T135.setTop (mkF m 193 #[.val (.int i0), .val (.int i1), .val (.int i2), .val (.int i3), .val (.int i4), .val (.int 3), .val (.ref b2), .val (.ref b110), .val (.ref q_127), .val (.int r_128), .val (.int r_131), .val (.int r_133), .val (.int r_135), .unset, .unset, .unset] []))
            refine hG _ _ (fun t_ k_ => XS.iconst X135.here hx rfl (hb hby at_193) k_) ?_
            refine hG _ _ (fun t_ k_ => XS.goto X135.here hx rfl (pc0 := 194) (pc' := 199) rfl (hb hby at_194) (by decide) (by decide) k_) ?_
            show G (T135.setTop (mkF m 199 #[.val (.int i0), .val (.int i1), .val (.int i2), .val (.int i3), .val (.int i4), .val (.int 3), .val (.ref b2), .val (.ref b110), .val (.ref q_127), .val (.int r_128), .val (.int r_131), .val (.int r_133), .val (.int r_135), .unset, .unset, .unset] [(.int 3)]))
            exact jf _ (own_litN (own_fst r127_5 (own_ltS (own_ltS (own_ltS own_lt0 (own_zer so0_130 hc163_146)) (own_zer so1_132 hc172_147)) (own_zer so2_134 hc181_148)) (own_one so3_136 hc190_149)) rfl)
        · skip
          refine hG _ _ (fun t_ k_ => XS.ifNo X135.here hx rfl (hb hby at_181) rfl ((if0 _ _).trans (feq hc181_148).1) k_) ?_
          show G (T135.setTop (mkF m 184 #[.val (.int i0), .val (.int i1), .val (.int i2), .val (.int i3), .val (.int i4), .val (.int 3), .val (.ref b2), .val (.ref b110), .val (.ref q_127), .val (.int r_128), .val (.int r_131), .val (.int r_133), .val (.int r_135), .unset, .unset, .unset] []))
          refine hG _ _ (fun t_ k_ => XS.iconst X135.here hx rfl (hb hby at_184) k_) ?_
          refine hG _ _ (fun t_ k_ => XS.goto X135.here hx rfl (pc0 := 185) (pc' := 199) rfl (hb hby at_185) (by decide) (by decide) k_) ?_
          show G (T135.setTop (mkF m 199 #[.val (.int i0), .val (.int i1), .val (.int i2), .val (.int i3), .val (.int i4), .val (.int 3), .val (.ref b2), .val (.ref b110), .val (.ref q_127), .val (.int r_128), .val (.int r_131), .val (.int r_133), .val (.int r_135), .unset, .unset, .unset] [(.int 2)]))
          exact jf _ (own_litN (own_fst r127_5 (own_ltS (own_ltS own_lt0 (own_zer so0_130 hc163_146)) (own_zer so1_132 hc172_147)) (own_one so2_134 hc181_148)) rfl)
      · skip
        refine hG _ _ (fun t_ k_ => XS.ifNo X135.here hx rfl (hb hby at_172) rfl ((if0 _ _).trans (feq hc172_147).1) k_) ?_
        show G (T135.setTop (mkF m 175 #[.val (.int i0), .val (.int i1), .val (.int i2), .val (.int i3), .val (.int i4), .val (.int 3), .val (.ref b2), .val (.ref b110), .val (.ref q_127), .val (.int r_128), .val (.int r_131), .val (.int r_133), .val (.int r_135), .unset, .unset, .unset] []))
        refine hG _ _ (fun t_ k_ => XS.iconst X135.here hx rfl (hb hby at_175) k_) ?_
        refine hG _ _ (fun t_ k_ => XS.goto X135.here hx rfl (pc0 := 176) (pc' := 199) rfl (hb hby at_176) (by decide) (by decide) k_) ?_
        show G (T135.setTop (mkF m 199 #[.val (.int i0), .val (.int i1), .val (.int i2), .val (.int i3), .val (.int i4), .val (.int 3), .val (.ref b2), .val (.ref b110), .val (.ref q_127), .val (.int r_128), .val (.int r_131), .val (.int r_133), .val (.int r_135), .unset, .unset, .unset] [(.int 1)]))
        exact jf _ (own_litN (own_fst r127_5 (own_ltS own_lt0 (own_zer so0_130 hc163_146)) (own_one so1_132 hc172_147)) rfl)
    · skip
      refine hG _ _ (fun t_ k_ => XS.ifNo X135.here hx rfl (hb hby at_163) rfl ((if0 _ _).trans (feq hc163_146).1) k_) ?_
      show G (T135.setTop (mkF m 166 #[.val (.int i0), .val (.int i1), .val (.int i2), .val (.int i3), .val (.int i4), .val (.int 3), .val (.ref b2), .val (.ref b110), .val (.ref q_127), .val (.int r_128), .val (.int r_131), .val (.int r_133), .val (.int r_135), .unset, .unset, .unset] []))
      refine hG _ _ (fun t_ k_ => XS.iconst X135.here hx rfl (hb hby at_166) k_) ?_
      refine hG _ _ (fun t_ k_ => XS.goto X135.here hx rfl (pc0 := 167) (pc' := 199) rfl (hb hby at_167) (by decide) (by decide) k_) ?_
      show G (T135.setTop (mkF m 199 #[.val (.int i0), .val (.int i1), .val (.int i2), .val (.int i3), .val (.int i4), .val (.int 3), .val (.ref b2), .val (.ref b110), .val (.ref q_127), .val (.int r_128), .val (.int r_131), .val (.int r_133), .val (.int r_135), .unset, .unset, .unset] [(.int 0)]))
      exact jf _ (own_litN (own_fst r127_5 own_lt0 (own_one so0_130 hc163_146)) rfl)
  · skip
    show G (T13.setTop (mkF m 46 #[.val (.int i0), .val (.int i1), .val (.int i2), .val (.int i3), .val (.int i4), .val (.int 4), .val (.ref b2), .unset, .unset, .unset, .unset, .unset, .unset, .unset, .unset, .unset] []))
    refine hG _ _ (fun t_ k_ => XS.iload X13.here hx rfl (hb hby at_46) rfl k_) ?_
    show G (T13.setTop (mkF m 48 #[.val (.int i0), .val (.int i1), .val (.int i2), .val (.int i3), .val (.int i4), .val (.int 4), .val (.ref b2), .unset, .unset, .unset, .unset, .unset, .unset, .unset, .unset, .unset] [(.int 4)]))
    obtain ⟨T150, h150, k150, X150, e150, E150, A150, st150⟩ := newP X13 hx hZ (ow hw 0 rfl) e13 (g := (mkF m 48 #[.val (.int i0), .val (.int i1), .val (.int i2), .val (.int i3), .val (.int i4), .val (.int 4), .val (.ref b2), .unset, .unset, .unset, .unset, .unset, .unset, .unset, .unset, .unset] [(.int 4)])) rfl (hb hby at_48) rfl (by decide) (cap := 4) (by decide) (by decide) (by decide) (by decide)
    obtain ⟨b150, z150⟩ : ∃ z, z = h13.size := ⟨_, rfl⟩
    rw [← z150] at A150 st150
    refine hG _ _ st150 ?_
    have R150 := (CHr.ext E150 R13.1)
    have C150 := C13.trans R150
    have K150 : Keep h0 h150 [] := K13.ext E150
    have O150 : own_Old Z h150 := O13.ext E150
    have V150 : Arv Z h150 b150 k150 .char (4 : Int32) [(.int 0), (.int 0), (.int 0), (.int 0)] (.int 0) := (Arv.new A150 (by decide)).pad (pad_rep [] (.int 0) 4)
    show G (T150.setTop (mkF m 50 #[.val (.int i0), .val (.int i1), .val (.int i2), .val (.int i3), .val (.int i4), .val (.int 4), .val (.ref b2), .unset, .unset, .unset, .unset, .unset, .unset, .unset, .unset, .unset] [(.ref b150)]))
    refine hG _ _ (fun t_ k_ => XS.astore X150.here hx rfl (hb hby at_50) rfl rfl (l' := #[.val (.int i0), .val (.int i1), .val (.int i2), .val (.int i3), .val (.int i4), .val (.int 4), .val (.ref b2), .val (.ref b150), .unset, .unset, .unset, .unset, .unset, .unset, .unset, .unset]) rfl k_) ?_
    refine hG _ _ (fun t_ k_ => XS.iload X150.here hx rfl (hb hby at_52) rfl k_) ?_
    show G (T150.setTop (mkF m 54 #[.val (.int i0), .val (.int i1), .val (.int i2), .val (.int i3), .val (.int i4), .val (.int 4), .val (.ref b2), .val (.ref b150), .unset, .unset, .unset, .unset, .unset, .unset, .unset, .unset] [(.int 4)]))
    refine hG _ _ (fun t_ k_ => XS.ifNo X150.here hx rfl (hb hby at_54) rfl ((if0 _ _).trans (tlt (by decide)).2.2.2) k_) ?_
    show G (T150.setTop (mkF m 57 #[.val (.int i0), .val (.int i1), .val (.int i2), .val (.int i3), .val (.int i4), .val (.int 4), .val (.ref b2), .val (.ref b150), .unset, .unset, .unset, .unset, .unset, .unset, .unset, .unset] []))
    refine hG _ _ (fun t_ k_ => XS.aload X150.here hx rfl (hb hby at_57) rfl rfl k_) ?_
    refine hG _ _ (fun t_ k_ => XS.iconst X150.here hx rfl (hb hby at_59) k_) ?_
    refine hG _ _ (fun t_ k_ => XS.aload X150.here hx rfl (hb hby at_60) rfl rfl k_) ?_
    refine hG _ _ (fun t_ k_ => XS.iconst X150.here hx rfl (hb hby at_62) k_) ?_
    show G (T150.setTop (mkF m 63 #[.val (.int i0), .val (.int i1), .val (.int i2), .val (.int i3), .val (.int i4), .val (.int 4), .val (.ref b2), .val (.ref b150), .unset, .unset, .unset, .unset, .unset, .unset, .unset, .unset] [(.int 0), (.ref b2), (.int 0), (.ref b150)]))
    have f152 := (V13.ext E150)
    obtain ⟨c151, Ar151, q151, S151, M151, H151, G151⟩ := id f152
    have hin151 : ¬ ((0 : Int32) < 0 ∨ c151.slots.size ≤ (0 : Int32).toNatClampNeg) := inb_of S151 ⟨by decide, by decide⟩
    refine hG _ _ (X150.caload hx (j := (0 : Int32)) (v := (.int r_3)) (by rw [e150]; exact Ar151.1) (State.isArrayOf_alike hZ.alike Ar151.2.1) Ar151.2.2 hin151 (Has.at H151 hin151 rfl) (g := (mkF m 63 #[.val (.int i0), .val (.int i1), .val (.int i2), .val (.int i3), .val (.int i4), .val (.int 4), .val (.ref b2), .val (.ref b150), .unset, .unset, .unset, .unset, .unset, .unset, .unset, .unset] [(.int 0), (.ref b2), (.int 0), (.ref b150)])) rfl rfl (hb hby at_63)) ?_
    show G (T150.setTop (mkF m 64 #[.val (.int i0), .val (.int i1), .val (.int i2), .val (.int i3), .val (.int i4), .val (.int 4), .val (.ref b2), .val (.ref b150), .unset, .unset, .unset, .unset, .unset, .unset, .unset, .unset] [(.int r_3), (.int 0), (.ref b150)]))
    obtain ⟨c153, Ar153, q153, S153, M153, H153, G153⟩ := id V150
    obtain ⟨T153, h153, X153, e153, W153, st153⟩ := stC X150 hx hZ e150 Ar153 (j := (0 : Int32)) (inb_of S153 ⟨by decide, by decide⟩) (g := (mkF m 64 #[.val (.int i0), .val (.int i1), .val (.int i2), .val (.int i3), .val (.int i4), .val (.int 4), .val (.ref b2), .val (.ref b150), .unset, .unset, .unset, .unset, .unset, .unset, .unset, .unset] [(.int r_3), (.int 0), (.ref b150)])) rfl rfl (hb hby at_64)
    refine hG _ _ st153 ?_
    have sf154 : Safe Z consts_1 _ h150 b150 := (own_safeArv hZ.alike V150 (by decide))
    have R153 := (CHr.wr W153 sf154 R150.1)
    have C153 := C150.trans R153
    have K153 : Keep h0 h153 [] := K150.wr W153 (Or.inr (Nat.le_trans K13.1 (Nat.le_of_eq z150.symm)))
    have O153 : own_Old Z h153 := O150.wr W153 (own_ge O13 (Nat.le_of_eq z150.symm))
    rw [own_narC r3_0] at W153
    have V153 : Arv Z h153 b150 k150 .char (4 : Int32) [(.int r_3), (.int 0), (.int 0), (.int 0)] (.int 0) := Arv.set Ar153 q153 S153 M153 H153 G153 (own_fitC r3_0) W153 0 rfl (Nat.le_of_ble_eq_true rfl)
    have N153 := Fr.snoc X153 N13 (own_ge O13 (Nat.le_of_eq z150.symm))
    show G (T153.setTop (mkF m 65 #[.val (.int i0), .val (.int i1), .val (.int i2), .val (.int i3), .val (.int i4), .val (.int 4), .val (.ref b2), .val (.ref b150), .unset, .unset, .unset, .unset, .unset, .unset, .unset, .unset] []))
    refine hG _ _ (fun t_ k_ => XS.iload X153.here hx rfl (hb hby at_65) rfl k_) ?_
    refine hG _ _ (fun t_ k_ => XS.iconst X153.here hx rfl (hb hby at_67) k_) ?_
    show G (T153.setTop (mkF m 68 #[.val (.int i0), .val (.int i1), .val (.int i2), .val (.int i3), .val (.int i4), .val (.int 4), .val (.ref b2), .val (.ref b150), .unset, .unset, .unset, .unset, .unset, .unset, .unset, .unset] [(.int 1), (.int 4)]))
    refine hG _ _ (fun t_ k_ => XS.icmpNo X153.here hx rfl (hb hby at_68) rfl (tlt (by decide)).2.2.2 k_) ?_
    show G (T153.setTop (mkF m 71 #[.val (.int i0), .val (.int i1), .val (.int i2), .val (.int i3), .val (.int i4), .val (.int 4), .val (.ref b2), .val (.ref b150), .unset, .unset, .unset, .unset, .unset, .unset, .unset, .unset] []))
    refine hG _ _ (fun t_ k_ => XS.aload X153.here hx rfl (hb hby at_71) rfl rfl k_) ?_
    refine hG _ _ (fun t_ k_ => XS.iconst X153.here hx rfl (hb hby at_73) k_) ?_
    refine hG _ _ (fun t_ k_ => XS.aload X153.here hx rfl (hb hby at_74) rfl rfl k_) ?_
    refine hG _ _ (fun t_ k_ => XS.iconst X153.here hx rfl (hb hby at_76) k_) ?_
    show G (T153.setTop (mkF m 77 #[.val (.int i0), .val (.int i1), .val (.int i2), .val (.int i3), .val (.int i4), .val (.int 4), .val (.ref b2), .val (.ref b150), .unset, .unset, .unset, .unset, .unset, .unset, .unset, .unset] [(.int 1), (.ref b2), (.int 1), (.ref b150)]))
    have f156 := (f152.other W153 (own_ne V13.lt (Nat.le_of_eq z150.symm)))
    obtain ⟨c155, Ar155, q155, S155, M155, H155, G155⟩ := id f156
    have hin155 : ¬ ((1 : Int32) < 0 ∨ c155.slots.size ≤ (1 : Int32).toNatClampNeg) := inb_of S155 ⟨by decide, by decide⟩
    refine hG _ _ (X153.caload hx (j := (1 : Int32)) (v := (.int r_6)) (by rw [e153]; exact Ar155.1) (State.isArrayOf_alike hZ.alike Ar155.2.1) Ar155.2.2 hin155 (Has.at H155 hin155 rfl) (g := (mkF m 77 #[.val (.int i0), .val (.int i1), .val (.int i2), .val (.int i3), .val (.int i4), .val (.int 4), .val (.ref b2), .val (.ref b150), .unset, .unset, .unset, .unset, .unset, .unset, .unset, .unset] [(.int 1), (.ref b2), (.int 1), (.ref b150)])) rfl rfl (hb hby at_77)) ?_
    show G (T153.setTop (mkF m 78 #[.val (.int i0), .val (.int i1), .val (.int i2), .val (.int i3), .val (.int i4), .val (.int 4), .val (.ref b2), .val (.ref b150), .unset, .unset, .unset, .unset, .unset, .unset, .unset, .unset] [(.int r_6), (.int 1), (.ref b150)]))
    obtain ⟨c157, Ar157, q157, S157, M157, H157, G157⟩ := id V153
    obtain ⟨T157, h157, X157, e157, W157, st157⟩ := stC X153 hx hZ e153 Ar157 (j := (1 : Int32)) (inb_of S157 ⟨by decide, by decide⟩) (g := (mkF m 78 #[.val (.int i0), .val (.int i1), .val (.int i2), .val (.int i3), .val (.int i4), .val (.int 4), .val (.ref b2), .val (.ref b150), .unset, .unset, .unset, .unset, .unset, .unset, .unset, .unset] [(.int r_6), (.int 1), (.ref b150)])) rfl rfl (hb hby at_78)
    refine hG _ _ st157 ?_
    have sf158 := (R153.safe V150.lt sf154)
    have R157 := (CHr.wr W157 sf158 R153.1)
    have C157 := C153.trans R157
    have K157 : Keep h0 h157 [] := K153.wr W157 (Or.inr (Nat.le_trans K13.1 (Nat.le_of_eq z150.symm)))
    have O157 : own_Old Z h157 := O153.wr W157 (own_ge O13 (Nat.le_of_eq z150.symm))
    rw [own_narC r6_0] at W157
    have V157 : Arv Z h157 b150 k150 .char (4 : Int32) [(.int r_3), (.int r_6), (.int 0), (.int 0)] (.int 0) := Arv.set Ar157 q157 S157 M157 H157 G157 (own_fitC r6_0) W157 1 rfl (Nat.le_of_ble_eq_true rfl)
    have N157 := Fr.snoc X157 N153 (own_ge O13 (Nat.le_of_eq z150.symm))
    show G (T157.setTop (mkF m 79 #[.val (.int i0), .val (.int i1), .val (.int i2), .val (.int i3), .val (.int i4), .val (.int 4), .val (.ref b2), .val (.ref b150), .unset, .unset, .unset, .unset, .unset, .unset, .unset, .unset] []))
    refine hG _ _ (fun t_ k_ => XS.iload X157.here hx rfl (hb hby at_79) rfl k_) ?_
    refine hG _ _ (fun t_ k_ => XS.iconst X157.here hx rfl (hb hby at_81) k_) ?_
    show G (T157.setTop (mkF m 82 #[.val (.int i0), .val (.int i1), .val (.int i2), .val (.int i3), .val (.int i4), .val (.int 4), .val (.ref b2), .val (.ref b150), .unset, .unset, .unset, .unset, .unset, .unset, .unset, .unset] [(.int 2), (.int 4)]))
    refine hG _ _ (fun t_ k_ => XS.icmpNo X157.here hx rfl (hb hby at_82) rfl (tlt (by decide)).2.2.2 k_) ?_
    show G (T157.setTop (mkF m 85 #[.val (.int i0), .val (.int i1), .val (.int i2), .val (.int i3), .val (.int i4), .val (.int 4), .val (.ref b2), .val (.ref b150), .unset, .unset, .unset, .unset, .unset, .unset, .unset, .unset] []))
    refine hG _ _ (fun t_ k_ => XS.aload X157.here hx rfl (hb hby at_85) rfl rfl k_) ?_
    refine hG _ _ (fun t_ k_ => XS.iconst X157.here hx rfl (hb hby at_87) k_) ?_
    refine hG _ _ (fun t_ k_ => XS.aload X157.here hx rfl (hb hby at_88) rfl rfl k_) ?_
    refine hG _ _ (fun t_ k_ => XS.iconst X157.here hx rfl (hb hby at_90) k_) ?_
    show G (T157.setTop (mkF m 91 #[.val (.int i0), .val (.int i1), .val (.int i2), .val (.int i3), .val (.int i4), .val (.int 4), .val (.ref b2), .val (.ref b150), .unset, .unset, .unset, .unset, .unset, .unset, .unset, .unset] [(.int 2), (.ref b2), (.int 2), (.ref b150)]))
    have f160 := (f156.other W157 (own_ne V13.lt (Nat.le_of_eq z150.symm)))
    obtain ⟨c159, Ar159, q159, S159, M159, H159, G159⟩ := id f160
    have hin159 : ¬ ((2 : Int32) < 0 ∨ c159.slots.size ≤ (2 : Int32).toNatClampNeg) := inb_of S159 ⟨by decide, by decide⟩
    refine hG _ _ (X157.caload hx (j := (2 : Int32)) (v := (.int r_9)) (by rw [e157]; exact Ar159.1) (State.isArrayOf_alike hZ.alike Ar159.2.1) Ar159.2.2 hin159 (Has.at H159 hin159 rfl) (g := (mkF m 91 #[.val (.int i0), .val (.int i1), .val (.int i2), .val (.int i3), .val (.int i4), .val (.int 4), .val (.ref b2), .val (.ref b150), .unset, .unset, .unset, .unset, .unset, .unset, .unset, .unset] [(.int 2), (.ref b2), (.int 2), (.ref b150)])) rfl rfl (hb hby at_91)) ?_
    show G (T157.setTop (mkF m 92 #[.val (.int i0), .val (.int i1), .val (.int i2), .val (.int i3), .val (.int i4), .val (.int 4), .val (.ref b2), .val (.ref b150), .unset, .unset, .unset, .unset, .unset, .unset, .unset, .unset] [(.int r_9), (.int 2), (.ref b150)]))
    obtain ⟨c161, Ar161, q161, S161, M161, H161, G161⟩ := id V157
    obtain ⟨T161, h161, X161, e161, W161, st161⟩ := stC X157 hx hZ e157 Ar161 (j := (2 : Int32)) (inb_of S161 ⟨by decide, by decide⟩) (g := (mkF m 92 #[.val (.int i0), .val (.int i1), .val (.int i2), .val (.int i3), .val (.int i4), .val (.int 4), .val (.ref b2), .val (.ref b150), .unset, .unset, .unset, .unset, .unset, .unset, .unset, .unset] [(.int r_9), (.int 2), (.ref b150)])) rfl rfl (hb hby at_92)
    refine hG _ _ st161 ?_
    have sf162 := (R157.safe V153.lt sf158)
    have R161 := (CHr.wr W161 sf162 R157.1)
    have C161 := C157.trans R161
    have K161 : Keep h0 h161 [] := K157.wr W161 (Or.inr (Nat.le_trans K13.1 (Nat.le_of_eq z150.symm)))
    have O161 : own_Old Z h161 := O157.wr W161 (own_ge O13 (Nat.le_of_eq z150.symm))
    rw [own_narC r9_0] at W161
    have V161 : Arv Z h161 b150 k150 .char (4 : Int32) [(.int r_3), (.int r_6), (.int r_9), (.int 0)] (.int 0) := Arv.set Ar161 q161 S161 M161 H161 G161 (own_fitC r9_0) W161 2 rfl (Nat.le_of_ble_eq_true rfl)
    have N161 := Fr.snoc X161 N157 (own_ge O13 (Nat.le_of_eq z150.symm))
    show G (T161.setTop (mkF m 93 #[.val (.int i0), .val (.int i1), .val (.int i2), .val (.int i3), .val (.int i4), .val (.int 4), .val (.ref b2), .val (.ref b150), .unset, .unset, .unset, .unset, .unset, .unset, .unset, .unset] []))
    refine hG _ _ (fun t_ k_ => XS.iload X161.here hx rfl (hb hby at_93) rfl k_) ?_
    refine hG _ _ (fun t_ k_ => XS.iconst X161.here hx rfl (hb hby at_95) k_) ?_
    show G (T161.setTop (mkF m 96 #[.val (.int i0), .val (.int i1), .val (.int i2), .val (.int i3), .val (.int i4), .val (.int 4), .val (.ref b2), .val (.ref b150), .unset, .unset, .unset, .unset, .unset, .unset, .unset, .unset] [(.int 3), (.int 4)]))
    refine hG _ _ (fun t_ k_ => XS.icmpNo X161.here hx rfl (hb hby at_96) rfl (tlt (by decide)).2.2.2 k_) ?_
    show G (T161.setTop (mkF m 99 #[.val (.int i0), .val (.int i1), .val (.int i2), .val (.int i3), .val (.int i4), .val (.int 4), .val (.ref b2), .val (.ref b150), .unset, .unset, .unset, .unset, .unset, .unset, .unset, .unset] []))
    refine hG _ _ (fun t_ k_ => XS.aload X161.here hx rfl (hb hby at_99) rfl rfl k_) ?_
    refine hG _ _ (fun t_ k_ => XS.iconst X161.here hx rfl (hb hby at_101) k_) ?_
    refine hG _ _ (fun t_ k_ => XS.aload X161.here hx rfl (hb hby at_102) rfl rfl k_) ?_
    refine hG _ _ (fun t_ k_ => XS.iconst X161.here hx rfl (hb hby at_104) k_) ?_
    show G (T161.setTop (mkF m 105 #[.val (.int i0), .val (.int i1), .val (.int i2), .val (.int i3), .val (.int i4), .val (.int 4), .val (.ref b2), .val (.ref b150), .unset, .unset, .unset, .unset, .unset, .unset, .unset, .unset] [(.int 3), (.ref b2), (.int 3), (.ref b150)]))
    have f164 := (f160.other W161 (own_ne V13.lt (Nat.le_of_eq z150.symm)))
    obtain ⟨c163, Ar163, q163, S163, M163, H163, G163⟩ := id f164
    have hin163 : ¬ ((3 : Int32) < 0 ∨ c163.slots.size ≤ (3 : Int32).toNatClampNeg) := inb_of S163 ⟨by decide, by decide⟩
    refine hG _ _ (X161.caload hx (j := (3 : Int32)) (v := (.int r_12)) (by rw [e161]; exact Ar163.1) (State.isArrayOf_alike hZ.alike Ar163.2.1) Ar163.2.2 hin163 (Has.at H163 hin163 rfl) (g := (mkF m 105 #[.val (.int i0), .val (.int i1), .val (.int i2), .val (.int i3), .val (.int i4), .val (.int 4), .val (.ref b2), .val (.ref b150), .unset, .unset, .unset, .unset, .unset, .unset, .unset, .unset] [(.int 3), (.ref b2), (.int 3), (.ref b150)])) rfl rfl (hb hby at_105)) ?_
    show G (T161.setTop (mkF m 106 #[.val (.int i0), .val (.int i1), .val (.int i2), .val (.int i3), .val (.int i4), .val (.int 4), .val (.ref b2), .val (.ref b150), .unset, .unset, .unset, .unset, .unset, .unset, .unset, .unset] [(.int r_12), (.int 3), (.ref b150)]))
    obtain ⟨c165, Ar165, q165, S165, M165, H165, G165⟩ := id V161
    obtain ⟨T165, h165, X165, e165, W165, st165⟩ := stC X161 hx hZ e161 Ar165 (j := (3 : Int32)) (inb_of S165 ⟨by decide, by decide⟩) (g := (mkF m 106 #[.val (.int i0), .val (.int i1), .val (.int i2), .val (.int i3), .val (.int i4), .val (.int 4), .val (.ref b2), .val (.ref b150), .unset, .unset, .unset, .unset, .unset, .unset, .unset, .unset] [(.int r_12), (.int 3), (.ref b150)])) rfl rfl (hb hby at_106)
    refine hG _ _ st165 ?_
    have sf166 := (R161.safe V157.lt sf162)
    have R165 := (CHr.wr W165 sf166 R161.1)
    have C165 := C161.trans R165
    have K165 : Keep h0 h165 [] := K161.wr W165 (Or.inr (Nat.le_trans K13.1 (Nat.le_of_eq z150.symm)))
    have O165 : own_Old Z h165 := O161.wr W165 (own_ge O13 (Nat.le_of_eq z150.symm))
    rw [own_narC r12_0] at W165
    have V165 : Arv Z h165 b150 k150 .char (4 : Int32) [(.int r_3), (.int r_6), (.int r_9), (.int r_12)] (.int 0) := Arv.set Ar165 q165 S165 M165 H165 G165 (own_fitC r12_0) W165 3 rfl (Nat.le_of_ble_eq_true rfl)
    have N165 := Fr.snoc X165 N161 (own_ge O13 (Nat.le_of_eq z150.symm))
    show G (T165.setTop (mkF m 107 #[.val (.int i0), .val (.int i1), .val (.int i2), .val (.int i3), .val (.int i4), .val (.int 4), .val (.ref b2), .val (.ref b150), .unset, .unset, .unset, .unset, .unset, .unset, .unset, .unset] []))
    obtain ⟨T167, h167, X167, e167, E167, A167, D167, -, st167⟩ := newO X165 hx hZ hown (ow hw 6 rfl) (ow hw 7 rfl) (ow hw 8 rfl) e165 (g := (mkF m 107 #[.val (.int i0), .val (.int i1), .val (.int i2), .val (.int i3), .val (.int i4), .val (.int 4), .val (.ref b2), .val (.ref b150), .unset, .unset, .unset, .unset, .unset, .unset, .unset, .unset] [])) rfl (hb hby at_107) (by decide) (by decide)
    obtain ⟨b167, z167⟩ : ∃ z, z = h165.size := ⟨_, rfl⟩
    rw [← z167] at A167 D167 st167
    refine hG _ _ st167 ?_
    have R167 := (CHr.ext E167 R165.1)
    have C167 := C165.trans R167
    have K167 : Keep h0 h167 [] := K165.ext E167
    have O167 : own_Old Z h167 := O165.ext E167
    show G (T167.setTop (mkF m 110 #[.val (.int i0), .val (.int i1), .val (.int i2), .val (.int i3), .val (.int i4), .val (.int 4), .val (.ref b2), .val (.ref b150), .unset, .unset, .unset, .unset, .unset, .unset, .unset, .unset] [(.ref b167)]))
    refine hG _ _ (fun t_ k_ => XS.dup X167.here hx rfl (hb hby at_110) rfl rfl k_) ?_
    refine hG _ _ (fun t_ k_ => XS.aload X167.here hx rfl (hb hby at_111) rfl rfl k_) ?_
    show G (T167.setTop (mkF m 113 #[.val (.int i0), .val (.int i1), .val (.int i2), .val (.int i3), .val (.int i4), .val (.int 4), .val (.ref b2), .val (.ref b150), .unset, .unset, .unset, .unset, .unset, .unset, .unset, .unset] [(.ref b150), (.ref b167), (.ref b167)]))
    have f169 := (V165.ext E167)
    refine own_callI X167 hx hZ hG hown rfl (ow hw 9 rfl) (ow hw 10 rfl) (ow hw 8 rfl) (ow hw 11 rfl) (by decide) 1 (own_gstr1 l Z a0 hw b167 b150 k150 [r_3, r_6, r_9, r_12] cpt (.int 0) .null h167 O167 A167 (D167 (Or.inr (ow hw 22 rfl)) (ty := .byte) (by decide)) (D167 (Or.inr (ow hw 21 rfl)) (ty := (.array .byte)) (by decide)) (own_ge O165 (Nat.le_of_eq z167.symm)) f169 (Nat.le_of_ble_eq_true rfl) (Nat.le_of_ble_eq_true rfl) (own_allc r3_0 (own_allc r6_0 (own_allc r9_0 (own_allc r12_0 own_alln)))) g0_S g1_hcpt g2_S g3_S g4_S) (by decide) (by decide) e167 (by rw [hml]; rfl) (lenOf own_pd8 rfl) (argsL := [(.ref b150)]) (rest := [(.ref b167)]) rfl rfl (Nat.le_of_eq rfl) (hb hby at_113) (by decide) (by decide) ?_
    intro T168 h168 v168 L168 X168 e168 q168
    obtain ⟨t_168, kt_168, cd_168, nb_168, vs_168, rfl, M168, J168, y168_0, r168_0, r168_1, r168_2, r168_3, r168_4⟩ := q168
    have N168 := Fr.app N165 M168
    have sf170 : Safe Z consts_1 _ h167 b167 := (own_safeStr hZ.alike A167 (D167 (Or.inr (ow hw 21 rfl)) (ty := (.array .byte)) (by decide)))
    have R168 := (CHr.keep J168 (allS sf170 all0) R167.1)
    have C168 := C167.trans R168
    have K168 : Keep h0 h168 [] := K167.trans J168 (allS (Or.inr (Nat.le_trans K165.1 (Nat.le_of_eq z167.symm))) all0)
    have O168 : own_Old Z h168 := O167.keep J168 (allS (own_ge O165 (Nat.le_of_eq z167.symm)) all0)
    show G (T168.setTop (mkF m 116 #[.val (.int i0), .val (.int i1), .val (.int i2), .val (.int i3), .val (.int i4), .val (.int 4), .val (.ref b2), .val (.ref b150), .unset, .unset, .unset, .unset, .unset, .unset, .unset, .unset] [(.ref b167)]))
    refine own_callSW X168 hx hZ hG hown (ow hw 27 rfl) (ow hw 28 rfl) (ow hw 29 rfl) (ow hw 30 rfl) (by decide) 0 (own_strip l Z a0 hw hEL b167 t_168 kt_168 [r_3, r_6, r_9, r_12] cd_168 nb_168 vs_168 cpt fmt h168 O168 r168_0 r168_1 r168_2 r168_3 r168_4 (Nat.le_of_ble_eq_true rfl) (own_allc r3_0 (own_allc r6_0 (own_allc r9_0 (own_allc r12_0 own_alln)))) g0_S g1_hcpt g2_S g3_S g4_S g5_hfmt g6_S) (by decide) (by decide) e168 SI0 (Nat.le_trans (Nat.le_trans (Nat.le_trans (Nat.le_trans (Nat.le_trans (Nat.le_trans (Nat.le_trans (Nat.le_trans (Nat.le_trans (Nat.le_trans (Nat.le_trans (Nat.le_trans (Nat.le_refl _) R2.2.1) R4.2.1) R7.2.1) R10.2.1) R13.2.1) R150.2.1) R153.2.1) R157.2.1) R161.2.1) R165.2.1) R167.2.1) R168.2.1) hEL R168.1 (by rw [hml]; rfl) (lenOf own_pd28 rfl) (argsL := [(.ref b167)]) (rest := []) rfl rfl (Nat.le_of_eq rfl) (hb hby at_116) (by decide) (by decide) ?_
    intro T171 h171 v171 L171 X171 e171 SI171 hZ171 hown171 Y171 q171
    obtain ⟨B_171, E_171, q_171, u_171, ku_171, c2_171, n2_171, us_171, rfl, M171, J171, r171_0, r171_1, r171_2, r171_3, r171_4, r171_5⟩ := q171
    have N171 := Fr.app N168 M171
    have R171 := Y171
    have C171 := C168.trans R171
    have K171 : Keep h0 h171 [] := K168.trans J171 all0
    have O171 : own_Old Z h171 := O168.keep J171 all0
    show G (T171.setTop (mkF m 119 #[.val (.int i0), .val (.int i1), .val (.int i2), .val (.int i3), .val (.int i4), .val (.int 4), .val (.ref b2), .val (.ref b150), .unset, .unset, .unset, .unset, .unset, .unset, .unset, .unset] [(.ref q_171)]))
    refine hG _ _ (fun t_ k_ => XS.astore X171.here hx rfl (hb hby at_119) rfl rfl (l' := #[.val (.int i0), .val (.int i1), .val (.int i2), .val (.int i3), .val (.int i4), .val (.int 4), .val (.ref b2), .val (.ref b150), .val (.ref q_171), .unset, .unset, .unset, .unset, .unset, .unset, .unset]) rfl k_) ?_
    refine hG _ _ (fun t_ k_ => XS.aload X171.here hx rfl (hb hby at_121) rfl rfl k_) ?_
    refine hG _ _ (fun t_ k_ => XS.iload X171.here hx rfl (hb hby at_123) rfl k_) ?_
    refine hG _ _ (fun t_ k_ => XS.iconst X171.here hx rfl (hb hby at_125) k_) ?_
    show G (T171.setTop (mkF m 126 #[.val (.int i0), .val (.int i1), .val (.int i2), .val (.int i3), .val (.int i4), .val (.int 4), .val (.ref b2), .val (.ref b150), .val (.ref q_171), .unset, .unset, .unset, .unset, .unset, .unset, .unset] [(.int 0), (.int 4), (.ref b2)]))
    have f173 := ((((f164.other W165 (own_ne V13.lt (Nat.le_of_eq z150.symm))).ext E167).keep J168 (ninS (own_ne (Nat.lt_of_lt_of_le f164.lt (Keep.of_wr W165).1) (Nat.le_of_eq z167.symm)) nin0)).keep J171 nin0)
    refine own_callS X171 hx hZ171 hG hown171 (ow hw 56 rfl) (ow hw 57 rfl) (ow hw 3 rfl) (ow hw 58 rfl) (by decide) 0 (own_sol0 l Z a0 hw b2 (4 : Int32) k2 r_3 r_6 r_9 r_12 h171 O171 f173) (by decide) (by decide) e171 (by rw [hml]; rfl) (lenOf own_pd29 rfl) (argsL := [(.ref b2), (.int 4), (.int 0)]) (rest := []) rfl rfl (Nat.le_of_eq rfl) (hb hby at_126) (by decide) (by decide) ?_
    intro T172 h172 v172 L172 X172 e172 q172
    obtain ⟨r_172, rfl, M172, rfl, r172_0⟩ := q172
    have N172 := Fr.app N171 M172
    show G (T172.setTop (mkF m 129 #[.val (.int i0), .val (.int i1), .val (.int i2), .val (.int i3), .val (.int i4), .val (.int 4), .val (.ref b2), .val (.ref b150), .val (.ref q_171), .unset, .unset, .unset, .unset, .unset, .unset, .unset] [(.int r_172)]))
    have so0_174 := own_solc (cs := [r_3, r_6, r_9, r_12]) (k := 0) r172_0 rfl rfl (by decide) (Nat.le_of_ble_eq_true rfl) (fun _ => rfl)
    refine hG _ _ (fun t_ k_ => XS.istore X172.here hx rfl (hb hby at_129) rfl (l' := #[.val (.int i0), .val (.int i1), .val (.int i2), .val (.int i3), .val (.int i4), .val (.int 4), .val (.ref b2), .val (.ref b150), .val (.ref q_171), .val (.int r_172), .unset, .unset, .unset, .unset, .unset, .unset]) rfl k_) ?_
    refine hG _ _ (fun t_ k_ => XS.aload X172.here hx rfl (hb hby at_131) rfl rfl k_) ?_
    refine hG _ _ (fun t_ k_ => XS.iload X172.here hx rfl (hb hby at_133) rfl k_) ?_
    refine hG _ _ (fun t_ k_ => XS.iconst X172.here hx rfl (hb hby at_135) k_) ?_
    show G (T172.setTop (mkF m 136 #[.val (.int i0), .val (.int i1), .val (.int i2), .val (.int i3), .val (.int i4), .val (.int 4), .val (.ref b2), .val (.ref b150), .val (.ref q_171), .val (.int r_172), .unset, .unset, .unset, .unset, .unset, .unset] [(.int 1), (.int 4), (.ref b2)]))
    refine own_callS X172 hx hZ171 hG hown171 (ow hw 56 rfl) (ow hw 57 rfl) (ow hw 3 rfl) (ow hw 58 rfl) (by decide) 0 (own_sol1 l Z a0 hw b2 (4 : Int32) k2 r_3 r_6 r_9 r_12 h171 O171 f173) (by decide) (by decide) e172 (by rw [hml]; rfl) (lenOf own_pd29 rfl) (argsL := [(.ref b2), (.int 4), (.int 1)]) (rest := []) rfl rfl (Nat.le_of_eq rfl) (hb hby at_136) (by decide) (by decide) ?_
    intro T175 h175 v175 L175 X175 e175 q175
    obtain ⟨r_175, rfl, M175, rfl, r175_0⟩ := q175
    have N175 := Fr.app N172 M175
    show G (T175.setTop (mkF m 139 #[.val (.int i0), .val (.int i1), .val (.int i2), .val (.int i3), .val (.int i4), .val (.int 4), .val (.ref b2), .val (.ref b150), .val (.ref q_171), .val (.int r_172), .unset, .unset, .unset, .unset, .unset, .unset] [(.int r_175)]))
    have so1_176 := own_solc (cs := [r_3, r_6, r_9, r_12]) (k := 1) r175_0 rfl rfl (by decide) (Nat.le_of_ble_eq_true rfl) (fun _ => rfl)
    refine hG _ _ (fun t_ k_ => XS.istore X175.here hx rfl (hb hby at_139) rfl (l' := #[.val (.int i0), .val (.int i1), .val (.int i2), .val (.int i3), .val (.int i4), .val (.int 4), .val (.ref b2), .val (.ref b150), .val (.ref q_171), .val (.int r_172), .val (.int r_175), .unset, .unset, .unset, .unset, .unset]) rfl k_) ?_
    refine hG _ _ (fun t_ k_ => XS.aload X175.here hx rfl (hb hby at_141) rfl rfl k_) ?_
    refine hG _ _ (fun t_ k_ => XS.iload X175.here hx rfl (hb hby at_143) rfl k_) ?_
    refine hG _ _ (fun t_ k_ => XS.iconst X175.here hx rfl (hb hby at_145) k_) ?_
    show G (T175.setTop (mkF m 146 #[.val (.int i0), .val (.int i1), .val (.int i2), .val (.int i3), .val (.int i4), .val (.int 4), .val (.ref b2), .val (.ref b150), .val (.ref q_171), .val (.int r_172), .val (.int r_175), .unset, .unset, .unset, .unset, .unset] [(.int 2), (.int 4), (.ref b2)]))
    refine own_callS X175 hx hZ171 hG hown171 (ow hw 56 rfl) (ow hw 57 rfl) (ow hw 3 rfl) (ow hw 58 rfl) (by decide) 0 (own_sol2 l Z a0 hw b2 (4 : Int32) k2 r_3 r_6 r_9 r_12 h171 O171 f173) (by decide) (by decide) e175 (by rw [hml]; rfl) (lenOf own_pd29 rfl) (argsL := [(.ref b2), (.int 4), (.int 2)]) (rest := []) rfl rfl (Nat.le_of_eq rfl) (hb hby at_146) (by decide) (by decide) ?_
    intro T177 h177 v177 L177 X177 e177 q177
    obtain ⟨r_177, rfl, M177, rfl, r177_0⟩ := q177
    have N177 := Fr.app N175 M177
    show G (T177.setTop (mkF m 149 #[.val (.int i0), .val (.int i1), .val (.int i2), .val (.int i3), .val (.int i4), .val (.int 4), .val (.ref b2), .val (.ref b150), .val (.ref q_171), .val (.int r_172), .val (.int r_175), .unset, .unset, .unset, .unset, .unset] [(.int r_177)]))
    have so2_178 := own_solc (cs := [r_3, r_6, r_9, r_12]) (k := 2) r177_0 rfl rfl (by decide) (Nat.le_of_ble_eq_true rfl) (fun _ => rfl)
    refine hG _ _ (fun t_ k_ => XS.istore X177.here hx rfl (hb hby at_149) rfl (l' := #[.val (.int i0), .val (.int i1), .val (.int i2), .val (.int i3), .val (.int i4), .val (.int 4), .val (.ref b2), .val (.ref b150), .val (.ref q_171), .val (.int r_172), .val (.int r_175), .val (.int r_177), .unset, .unset, .unset, .unset]) rfl k_) ?_
    refine hG _ _ (fun t_ k_ => XS.aload X177.here hx rfl (hb hby at_151) rfl rfl k_) ?_
    refine hG _ _ (fun t_ k_ => XS.iload X177.here hx rfl (hb hby at_153) rfl k_) ?_
    refine hG _ _ (fun t_ k_ => XS.iconst X177.here hx rfl (hb hby at_155) k_) ?_
    show G (T177.setTop (mkF m 156 #[.val (.int i0), .val (.int i1), .val (.int i2), .val (.int i3), .val (.int i4), .val (.int 4), .val (.ref b2), .val (.ref b150), .val (.ref q_171), .val (.int r_172), .val (.int r_175), .val (.int r_177), .unset, .unset, .unset, .unset] [(.int 3), (.int 4), (.ref b2)]))
    refine own_callS X177 hx hZ171 hG hown171 (ow hw 56 rfl) (ow hw 57 rfl) (ow hw 3 rfl) (ow hw 58 rfl) (by decide) 0 (own_sol3 l Z a0 hw b2 (4 : Int32) k2 r_3 r_6 r_9 r_12 h171 O171 f173) (by decide) (by decide) e177 (by rw [hml]; rfl) (lenOf own_pd29 rfl) (argsL := [(.ref b2), (.int 4), (.int 3)]) (rest := []) rfl rfl (Nat.le_of_eq rfl) (hb hby at_156) (by decide) (by decide) ?_
    intro T179 h179 v179 L179 X179 e179 q179
    obtain ⟨r_179, rfl, M179, rfl, r179_0⟩ := q179
    have N179 := Fr.app N177 M179
    show G (T179.setTop (mkF m 159 #[.val (.int i0), .val (.int i1), .val (.int i2), .val (.int i3), .val (.int i4), .val (.int 4), .val (.ref b2), .val (.ref b150), .val (.ref q_171), .val (.int r_172), .val (.int r_175), .val (.int r_177), .unset, .unset, .unset, .unset] [(.int r_179)]))
    have so3_180 := own_solc (cs := [r_3, r_6, r_9, r_12]) (k := 3) r179_0 rfl rfl (by decide) (Nat.le_of_ble_eq_true rfl) (fun _ => rfl)
    refine hG _ _ (fun t_ k_ => XS.istore X179.here hx rfl (hb hby at_159) rfl (l' := #[.val (.int i0), .val (.int i1), .val (.int i2), .val (.int i3), .val (.int i4), .val (.int 4), .val (.ref b2), .val (.ref b150), .val (.ref q_171), .val (.int r_172), .val (.int r_175), .val (.int r_177), .val (.int r_179), .unset, .unset, .unset]) rfl k_) ?_
    show G (T179.setTop (mkF m 161 #[.val (.int i0), .val (.int i1), .val (.int i2), .val (.int i3), .val (.int i4), .val (.int 4), .val (.ref b2), .val (.ref b150), .val (.ref q_171), .val (.int r_172), .val (.int r_175), .val (.int r_177), .val (.int r_179), .unset, .unset, .unset] []))
    have jf : ∀ (f : Int32), (f = Int32.ofNat B_171) → G (T179.setTop (mkF m 199 #[.val (.int i0), .val (.int i1), .val (.int i2), .val (.int i3), .val (.int i4), .val (.int 4), .val (.ref b2), .val (.ref b150), .val (.ref q_171), .val (.int r_172), .val (.int r_175), .val (.int r_177), .val (.int r_179), .unset, .unset, .unset] [(.int f)])) := by
      intro f hf
      subst hf
      show G (T179.setTop (mkF m 199 #[.val (.int i0), .val (.int i1), .val (.int i2), .val (.int i3), .val (.int i4), .val (.int 4), .val (.ref b2), .val (.ref b150), .val (.ref q_171), .val (.int r_172), .val (.int r_175), .val (.int r_177), .val (.int r_179), .unset, .unset, .unset] [(.int (Int32.ofNat B_171))]))
      refine hG _ _ (fun t_ k_ => XS.istore X179.here hx rfl (hb hby at_199) rfl (l' := #[.val (.int i0), .val (.int i1), .val (.int i2), .val (.int i3), .val (.int i4), .val (.int 4), .val (.ref b2), .val (.ref b150), .val (.ref q_171), .val (.int r_172), .val (.int r_175), .val (.int r_177), .val (.int r_179), .val (.int (Int32.ofNat B_171)), .unset, .unset]) rfl k_) ?_
      show G (T179.setTop (mkF m 201 #[.val (.int i0), .val (.int i1), .val (.int i2), .val (.int i3), .val (.int i4), .val (.int 4), .val (.ref b2), .val (.ref b150), .val (.ref q_171), .val (.int r_172), .val (.int r_175), .val (.int r_177), .val (.int r_179), .val (.int (Int32.ofNat B_171)), .unset, .unset] []))
      have jl : ∀ (f2 : Int32), (f2 = Int32.ofNat E_171) → G (T179.setTop (mkF m 239 #[.val (.int i0), .val (.int i1), .val (.int i2), .val (.int i3), .val (.int i4), .val (.int 4), .val (.ref b2), .val (.ref b150), .val (.ref q_171), .val (.int r_172), .val (.int r_175), .val (.int r_177), .val (.int r_179), .val (.int (Int32.ofNat B_171)), .unset, .unset] [(.int f2)])) := by
        intro f2 hf2
        subst hf2
        show G (T179.setTop (mkF m 239 #[.val (.int i0), .val (.int i1), .val (.int i2), .val (.int i3), .val (.int i4), .val (.int 4), .val (.ref b2), .val (.ref b150), .val (.ref q_171), .val (.int r_172), .val (.int r_175), .val (.int r_177), .val (.int r_179), .val (.int (Int32.ofNat B_171)), .unset, .unset] [(.int (Int32.ofNat E_171))]))
        refine hG _ _ (fun t_ k_ => XS.istore X179.here hx rfl (hb hby at_239) rfl (l' := #[.val (.int i0), .val (.int i1), .val (.int i2), .val (.int i3), .val (.int i4), .val (.int 4), .val (.ref b2), .val (.ref b150), .val (.ref q_171), .val (.int r_172), .val (.int r_175), .val (.int r_177), .val (.int r_179), .val (.int (Int32.ofNat B_171)), .val (.int (Int32.ofNat E_171)), .unset]) rfl k_) ?_
        refine hG _ _ (fun t_ k_ => XS.iload X179.here hx rfl (hb hby at_241) rfl k_) ?_
        refine hG _ _ (fun t_ k_ => XS.iload X179.here hx rfl (hb hby at_243) rfl k_) ?_
        refine hG _ _ (fun t_ k_ => XS.isub X179.here hx rfl (hb hby at_245) rfl k_) ?_
        show G (T179.setTop (mkF m 246 #[.val (.int i0), .val (.int i1), .val (.int i2), .val (.int i3), .val (.int i4), .val (.int 4), .val (.ref b2), .val (.ref b150), .val (.ref q_171), .val (.int r_172), .val (.int r_175), .val (.int r_177), .val (.int r_179), .val (.int (Int32.ofNat B_171)), .val (.int (Int32.ofNat E_171)), .unset] [(.int ((Int32.ofNat E_171) - (Int32.ofNat B_171)))]))
        rw [show Int32.ofNat E_171 - Int32.ofNat B_171 = Int32.ofNat (E_171 - B_171) from own_subN r171_5.1]
        have hfs := own_from_sub [r_3, r_6, r_9, r_12] r171_5.1 r171_5.2.1
        show G (T179.setTop (mkF m 246 #[.val (.int i0), .val (.int i1), .val (.int i2), .val (.int i3), .val (.int i4), .val (.int 4), .val (.ref b2), .val (.ref b150), .val (.ref q_171), .val (.int r_172), .val (.int r_175), .val (.int r_177), .val (.int r_179), .val (.int (Int32.ofNat B_171)), .val (.int (Int32.ofNat E_171)), .unset] [(.int (Int32.ofNat (E_171 - B_171)))]))
        refine hG _ _ (fun t_ k_ => XS.istore X179.here hx rfl (hb hby at_246) rfl (l' := #[.val (.int i0), .val (.int i1), .val (.int i2), .val (.int i3), .val (.int i4), .val (.int 4), .val (.ref b2), .val (.ref b150), .val (.ref q_171), .val (.int r_172), .val (.int r_175), .val (.int r_177), .val (.int r_179), .val (.int (Int32.ofNat B_171)), .val (.int (Int32.ofNat E_171)), .val (.int (Int32.ofNat (E_171 - B_171)))]) rfl k_) ?_
        refine hG _ _ (fun t_ k_ => XS.aload X179.here hx rfl (hb hby at_248) rfl rfl k_) ?_
        show G (T179.setTop (mkF m 250 #[.val (.int i0), .val (.int i1), .val (.int i2), .val (.int i3), .val (.int i4), .val (.int 4), .val (.ref b2), .val (.ref b150), .val (.ref q_171), .val (.int r_172), .val (.int r_175), .val (.int r_177), .val (.int r_179), .val (.int (Int32.ofNat B_171)), .val (.int (Int32.ofNat E_171)), .val (.int (Int32.ofNat (E_171 - B_171)))] [(.ref q_171)]))
        refine hG _ _ (fun t_ k_ => XS.ifnullNo X179.here hx rfl (hb hby at_250) rfl k_) ?_
        show G (T179.setTop (mkF m 253 #[.val (.int i0), .val (.int i1), .val (.int i2), .val (.int i3), .val (.int i4), .val (.int 4), .val (.ref b2), .val (.ref b150), .val (.ref q_171), .val (.int r_172), .val (.int r_175), .val (.int r_177), .val (.int r_179), .val (.int (Int32.ofNat B_171)), .val (.int (Int32.ofNat E_171)), .val (.int (Int32.ofNat (E_171 - B_171)))] []))
        refine hG _ _ (fun t_ k_ => XS.aload X179.here hx rfl (hb hby at_253) rfl rfl k_) ?_
        show G (T179.setTop (mkF m 255 #[.val (.int i0), .val (.int i1), .val (.int i2), .val (.int i3), .val (.int i4), .val (.int 4), .val (.ref b2), .val (.ref b150), .val (.ref q_171), .val (.int r_172), .val (.int r_175), .val (.int r_177), .val (.int r_179), .val (.int (Int32.ofNat B_171)), .val (.int (Int32.ofNat E_171)), .val (.int (Int32.ofNat (E_171 - B_171)))] [(.ref q_171)]))
        refine own_callV (C := "java/lang/String") X179 hx hZ171 hG hown171 (ow hw 59 rfl) (ow hw 32 rfl) (ow hw 34 rfl) (ow hw 33 rfl) (ow hw 8 rfl) (ow hw 35 rfl) (by decide) 0 (own_len l Z a0 hw q_171 u_171 ku_171 (([r_3, r_6, r_9, r_12].drop B_171).take (E_171 - B_171)) c2_171 n2_171 us_171 cpt h171 O171 r171_0 r171_1 r171_2 r171_3 r171_4 (by rw [hfs.1]; have := r171_5.2.1; have q4 : [r_3, r_6, r_9, r_12].length ≤ 4 := Nat.le_of_ble_eq_true rfl; omega) (own_from_rng hfs.2 (own_allc r3_0 (own_allc r6_0 (own_allc r9_0 (own_allc r12_0 own_alln))))) g0_S g1_hcpt) (by decide) (by decide) e179 r171_0 (by rw [hml]; rfl) (lenOf own_pd11 rfl) (argsL := []) (rest := []) rfl rfl (Nat.le_of_eq rfl) (hb hby at_255) (by decide) (by decide) ?_
        intro T181 h181 v181 L181 X181 e181 q181
        obtain ⟨rfl, M181, rfl⟩ := q181
        have N181 := Fr.app N179 M181
        show G (T181.setTop (mkF m 258 #[.val (.int i0), .val (.int i1), .val (.int i2), .val (.int i3), .val (.int i4), .val (.int 4), .val (.ref b2), .val (.ref b150), .val (.ref q_171), .val (.int r_172), .val (.int r_175), .val (.int r_177), .val (.int r_179), .val (.int (Int32.ofNat B_171)), .val (.int (Int32.ofNat E_171)), .val (.int (Int32.ofNat (E_171 - B_171)))] [(.int (Int32.ofNat (([r_3, r_6, r_9, r_12].drop B_171).take (E_171 - B_171)).length))]))
        refine hG _ _ (fun t_ k_ => XS.iload X181.here hx rfl (hb hby at_258) rfl k_) ?_
        show G (T181.setTop (mkF m 260 #[.val (.int i0), .val (.int i1), .val (.int i2), .val (.int i3), .val (.int i4), .val (.int 4), .val (.ref b2), .val (.ref b150), .val (.ref q_171), .val (.int r_172), .val (.int r_175), .val (.int r_177), .val (.int r_179), .val (.int (Int32.ofNat B_171)), .val (.int (Int32.ofNat E_171)), .val (.int (Int32.ofNat (E_171 - B_171)))] [(.int (Int32.ofNat (E_171 - B_171))), (.int (Int32.ofNat (([r_3, r_6, r_9, r_12].drop B_171).take (E_171 - B_171)).length))]))
        refine hG _ _ (fun t_ k_ => XS.icmpYes X181.here hx rfl (pc0 := 260) (pc' := 265) rfl (hb hby at_260) rfl (teq (congrArg Int32.ofNat hfs.1)).1 (by decide) (by decide) k_) ?_
        show G (T181.setTop (mkF m 265 #[.val (.int i0), .val (.int i1), .val (.int i2), .val (.int i3), .val (.int i4), .val (.int 4), .val (.ref b2), .val (.ref b150), .val (.ref q_171), .val (.int r_172), .val (.int r_175), .val (.int r_177), .val (.int r_179), .val (.int (Int32.ofNat B_171)), .val (.int (Int32.ofNat E_171)), .val (.int (Int32.ofNat (E_171 - B_171)))] []))
        refine hG _ _ (fun t_ k_ => XS.aload X181.here hx rfl (hb hby at_265) rfl rfl k_) ?_
        refine hG _ _ (fun t_ k_ => XS.iload X181.here hx rfl (hb hby at_267) rfl k_) ?_
        refine hG _ _ (fun t_ k_ => XS.aload X181.here hx rfl (hb hby at_269) rfl rfl k_) ?_
        refine hG _ _ (fun t_ k_ => XS.iload X181.here hx rfl (hb hby at_271) rfl k_) ?_
        refine hG _ _ (fun t_ k_ => XS.iconst X181.here hx rfl (hb hby at_273) k_) ?_
        show G (T181.setTop (mkF m 274 #[.val (.int i0), .val (.int i1), .val (.int i2), .val (.int i3), .val (.int i4), .val (.int 4), .val (.ref b2), .val (.ref b150), .val (.ref q_171), .val (.int r_172), .val (.int r_175), .val (.int r_177), .val (.int r_179), .val (.int (Int32.ofNat B_171)), .val (.int (Int32.ofNat E_171)), .val (.int (Int32.ofNat (E_171 - B_171)))] [(.int 0), (.int (Int32.ofNat B_171)), (.ref b2), (.int (Int32.ofNat (E_171 - B_171))), (.ref q_171)]))
        refine own_callS X181 hx hZ171 hG hown171 (ow hw 60 rfl) (ow hw 61 rfl) (ow hw 3 rfl) (ow hw 62 rfl) (by decide) 0 (own_at l Z a0 hw q_171 u_171 ku_171 (([r_3, r_6, r_9, r_12].drop B_171).take (E_171 - B_171)) c2_171 n2_171 us_171 cpt b2 k2 r_3 r_6 r_9 r_12 B_171 0 (E_171 - B_171) fmt h171 O171 r171_0 r171_1 r171_2 r171_3 r171_4 (by rw [hfs.1]; have := r171_5.2.1; have q4 : [r_3, r_6, r_9, r_12].length ≤ 4 := Nat.le_of_ble_eq_true rfl; omega) (own_from_rng hfs.2 (own_allc r3_0 (own_allc r6_0 (own_allc r9_0 (own_allc r12_0 own_alln))))) g0_S g1_hcpt g2_S g3_S g4_S f173 hfs.1.symm (own_atc (xs := [r_3, r_6, r_9, r_12]) (m := 4) rfl rfl r171_5.1 r171_5.2.1) (by decide) g5_hfmt g6_S) (by decide) (by decide) e181 (by rw [hml]; rfl) (lenOf own_pd30 rfl) (argsL := [(.ref q_171), (.int (Int32.ofNat (E_171 - B_171))), (.ref b2), (.int (Int32.ofNat B_171)), (.int 0)]) (rest := []) rfl rfl (Nat.le_of_eq rfl) (hb hby at_274) (by decide) (by decide) ?_
        intro T182 h182 v182 L182 X182 e182 q182
        obtain ⟨rfl, M182, rfl⟩ := q182
        have N182 := Fr.app N181 M182
        show G (T182.setTop (mkF m 277 #[.val (.int i0), .val (.int i1), .val (.int i2), .val (.int i3), .val (.int i4), .val (.int 4), .val (.ref b2), .val (.ref b150), .val (.ref q_171), .val (.int r_172), .val (.int r_175), .val (.int r_177), .val (.int r_179), .val (.int (Int32.ofNat B_171)), .val (.int (Int32.ofNat E_171)), .val (.int (Int32.ofNat (E_171 - B_171)))] [(.int 1)]))
        refine hG _ _ (fun t_ k_ => XS.ifNo X182.here hx rfl (hb hby at_277) rfl ((if0 _ _).trans (feq (by decide)).1) k_) ?_
        show G (T182.setTop (mkF m 280 #[.val (.int i0), .val (.int i1), .val (.int i2), .val (.int i3), .val (.int i4), .val (.int 4), .val (.ref b2), .val (.ref b150), .val (.ref q_171), .val (.int r_172), .val (.int r_175), .val (.int r_177), .val (.int r_179), .val (.int (Int32.ofNat B_171)), .val (.int (Int32.ofNat E_171)), .val (.int (Int32.ofNat (E_171 - B_171)))] []))
        refine hG _ _ (fun t_ k_ => XS.aload X182.here hx rfl (hb hby at_280) rfl rfl k_) ?_
        refine hG _ _ (fun t_ k_ => XS.iload X182.here hx rfl (hb hby at_282) rfl k_) ?_
        refine hG _ _ (fun t_ k_ => XS.aload X182.here hx rfl (hb hby at_284) rfl rfl k_) ?_
        refine hG _ _ (fun t_ k_ => XS.iload X182.here hx rfl (hb hby at_286) rfl k_) ?_
        refine hG _ _ (fun t_ k_ => XS.iconst X182.here hx rfl (hb hby at_288) k_) ?_
        show G (T182.setTop (mkF m 289 #[.val (.int i0), .val (.int i1), .val (.int i2), .val (.int i3), .val (.int i4), .val (.int 4), .val (.ref b2), .val (.ref b150), .val (.ref q_171), .val (.int r_172), .val (.int r_175), .val (.int r_177), .val (.int r_179), .val (.int (Int32.ofNat B_171)), .val (.int (Int32.ofNat E_171)), .val (.int (Int32.ofNat (E_171 - B_171)))] [(.int 1), (.int (Int32.ofNat B_171)), (.ref b2), (.int (Int32.ofNat (E_171 - B_171))), (.ref q_171)]))
        refine own_callS X182 hx hZ171 hG hown171 (ow hw 60 rfl) (ow hw 61 rfl) (ow hw 3 rfl) (ow hw 62 rfl) (by decide) 0 (own_at l Z a0 hw q_171 u_171 ku_171 (([r_3, r_6, r_9, r_12].drop B_171).take (E_171 - B_171)) c2_171 n2_171 us_171 cpt b2 k2 r_3 r_6 r_9 r_12 B_171 1 (E_171 - B_171) fmt h171 O171 r171_0 r171_1 r171_2 r171_3 r171_4 (by rw [hfs.1]; have := r171_5.2.1; have q4 : [r_3, r_6, r_9, r_12].length ≤ 4 := Nat.le_of_ble_eq_true rfl; omega) (own_from_rng hfs.2 (own_allc r3_0 (own_allc r6_0 (own_allc r9_0 (own_allc r12_0 own_alln))))) g0_S g1_hcpt g2_S g3_S g4_S f173 hfs.1.symm (own_atc (xs := [r_3, r_6, r_9, r_12]) (m := 4) rfl rfl r171_5.1 r171_5.2.1) (by decide) g5_hfmt g6_S) (by decide) (by decide) e182 (by rw [hml]; rfl) (lenOf own_pd30 rfl) (argsL := [(.ref q_171), (.int (Int32.ofNat (E_171 - B_171))), (.ref b2), (.int (Int32.ofNat B_171)), (.int 1)]) (rest := []) rfl rfl (Nat.le_of_eq rfl) (hb hby at_289) (by decide) (by decide) ?_
        intro T183 h183 v183 L183 X183 e183 q183
        obtain ⟨rfl, M183, rfl⟩ := q183
        have N183 := Fr.app N182 M183
        show G (T183.setTop (mkF m 292 #[.val (.int i0), .val (.int i1), .val (.int i2), .val (.int i3), .val (.int i4), .val (.int 4), .val (.ref b2), .val (.ref b150), .val (.ref q_171), .val (.int r_172), .val (.int r_175), .val (.int r_177), .val (.int r_179), .val (.int (Int32.ofNat B_171)), .val (.int (Int32.ofNat E_171)), .val (.int (Int32.ofNat (E_171 - B_171)))] [(.int 1)]))
        refine hG _ _ (fun t_ k_ => XS.ifNo X183.here hx rfl (hb hby at_292) rfl ((if0 _ _).trans (feq (by decide)).1) k_) ?_
        show G (T183.setTop (mkF m 295 #[.val (.int i0), .val (.int i1), .val (.int i2), .val (.int i3), .val (.int i4), .val (.int 4), .val (.ref b2), .val (.ref b150), .val (.ref q_171), .val (.int r_172), .val (.int r_175), .val (.int r_177), .val (.int r_179), .val (.int (Int32.ofNat B_171)), .val (.int (Int32.ofNat E_171)), .val (.int (Int32.ofNat (E_171 - B_171)))] []))
        refine hG _ _ (fun t_ k_ => XS.aload X183.here hx rfl (hb hby at_295) rfl rfl k_) ?_
        refine hG _ _ (fun t_ k_ => XS.iload X183.here hx rfl (hb hby at_297) rfl k_) ?_
        refine hG _ _ (fun t_ k_ => XS.aload X183.here hx rfl (hb hby at_299) rfl rfl k_) ?_
        refine hG _ _ (fun t_ k_ => XS.iload X183.here hx rfl (hb hby at_301) rfl k_) ?_
        refine hG _ _ (fun t_ k_ => XS.iconst X183.here hx rfl (hb hby at_303) k_) ?_
        show G (T183.setTop (mkF m 304 #[.val (.int i0), .val (.int i1), .val (.int i2), .val (.int i3), .val (.int i4), .val (.int 4), .val (.ref b2), .val (.ref b150), .val (.ref q_171), .val (.int r_172), .val (.int r_175), .val (.int r_177), .val (.int r_179), .val (.int (Int32.ofNat B_171)), .val (.int (Int32.ofNat E_171)), .val (.int (Int32.ofNat (E_171 - B_171)))] [(.int 2), (.int (Int32.ofNat B_171)), (.ref b2), (.int (Int32.ofNat (E_171 - B_171))), (.ref q_171)]))
        refine own_callS X183 hx hZ171 hG hown171 (ow hw 60 rfl) (ow hw 61 rfl) (ow hw 3 rfl) (ow hw 62 rfl) (by decide) 0 (own_at l Z a0 hw q_171 u_171 ku_171 (([r_3, r_6, r_9, r_12].drop B_171).take (E_171 - B_171)) c2_171 n2_171 us_171 cpt b2 k2 r_3 r_6 r_9 r_12 B_171 2 (E_171 - B_171) fmt h171 O171 r171_0 r171_1 r171_2 r171_3 r171_4 (by rw [hfs.1]; have := r171_5.2.1; have q4 : [r_3, r_6, r_9, r_12].length ≤ 4 := Nat.le_of_ble_eq_true rfl; omega) (own_from_rng hfs.2 (own_allc r3_0 (own_allc r6_0 (own_allc r9_0 (own_allc r12_0 own_alln))))) g0_S g1_hcpt g2_S g3_S g4_S f173 hfs.1.symm (own_atc (xs := [r_3, r_6, r_9, r_12]) (m := 4) rfl rfl r171_5.1 r171_5.2.1) (by decide) g5_hfmt g6_S) (by decide) (by decide) e183 (by rw [hml]; rfl) (lenOf own_pd30 rfl) (argsL := [(.ref q_171), (.int (Int32.ofNat (E_171 - B_171))), (.ref b2), (.int (Int32.ofNat B_171)), (.int 2)]) (rest := []) rfl rfl (Nat.le_of_eq rfl) (hb hby at_304) (by decide) (by decide) ?_
        intro T184 h184 v184 L184 X184 e184 q184
        obtain ⟨rfl, M184, rfl⟩ := q184
        have N184 := Fr.app N183 M184
        show G (T184.setTop (mkF m 307 #[.val (.int i0), .val (.int i1), .val (.int i2), .val (.int i3), .val (.int i4), .val (.int 4), .val (.ref b2), .val (.ref b150), .val (.ref q_171), .val (.int r_172), .val (.int r_175), .val (.int r_177), .val (.int r_179), .val (.int (Int32.ofNat B_171)), .val (.int (Int32.ofNat E_171)), .val (.int (Int32.ofNat (E_171 - B_171)))] [(.int 1)]))
        refine hG _ _ (fun t_ k_ => XS.ifNo X184.here hx rfl (hb hby at_307) rfl ((if0 _ _).trans (feq (by decide)).1) k_) ?_
        show G (T184.setTop (mkF m 310 #[.val (.int i0), .val (.int i1), .val (.int i2), .val (.int i3), .val (.int i4), .val (.int 4), .val (.ref b2), .val (.ref b150), .val (.ref q_171), .val (.int r_172), .val (.int r_175), .val (.int r_177), .val (.int r_179), .val (.int (Int32.ofNat B_171)), .val (.int (Int32.ofNat E_171)), .val (.int (Int32.ofNat (E_171 - B_171)))] []))
        refine hG _ _ (fun t_ k_ => XS.aload X184.here hx rfl (hb hby at_310) rfl rfl k_) ?_
        refine hG _ _ (fun t_ k_ => XS.iload X184.here hx rfl (hb hby at_312) rfl k_) ?_
        refine hG _ _ (fun t_ k_ => XS.aload X184.here hx rfl (hb hby at_314) rfl rfl k_) ?_
        refine hG _ _ (fun t_ k_ => XS.iload X184.here hx rfl (hb hby at_316) rfl k_) ?_
        refine hG _ _ (fun t_ k_ => XS.iconst X184.here hx rfl (hb hby at_318) k_) ?_
        show G (T184.setTop (mkF m 319 #[.val (.int i0), .val (.int i1), .val (.int i2), .val (.int i3), .val (.int i4), .val (.int 4), .val (.ref b2), .val (.ref b150), .val (.ref q_171), .val (.int r_172), .val (.int r_175), .val (.int r_177), .val (.int r_179), .val (.int (Int32.ofNat B_171)), .val (.int (Int32.ofNat E_171)), .val (.int (Int32.ofNat (E_171 - B_171)))] [(.int 3), (.int (Int32.ofNat B_171)), (.ref b2), (.int (Int32.ofNat (E_171 - B_171))), (.ref q_171)]))
        refine own_callS X184 hx hZ171 hG hown171 (ow hw 60 rfl) (ow hw 61 rfl) (ow hw 3 rfl) (ow hw 62 rfl) (by decide) 0 (own_at l Z a0 hw q_171 u_171 ku_171 (([r_3, r_6, r_9, r_12].drop B_171).take (E_171 - B_171)) c2_171 n2_171 us_171 cpt b2 k2 r_3 r_6 r_9 r_12 B_171 3 (E_171 - B_171) fmt h171 O171 r171_0 r171_1 r171_2 r171_3 r171_4 (by rw [hfs.1]; have := r171_5.2.1; have q4 : [r_3, r_6, r_9, r_12].length ≤ 4 := Nat.le_of_ble_eq_true rfl; omega) (own_from_rng hfs.2 (own_allc r3_0 (own_allc r6_0 (own_allc r9_0 (own_allc r12_0 own_alln))))) g0_S g1_hcpt g2_S g3_S g4_S f173 hfs.1.symm (own_atc (xs := [r_3, r_6, r_9, r_12]) (m := 4) rfl rfl r171_5.1 r171_5.2.1) (by decide) g5_hfmt g6_S) (by decide) (by decide) e184 (by rw [hml]; rfl) (lenOf own_pd30 rfl) (argsL := [(.ref q_171), (.int (Int32.ofNat (E_171 - B_171))), (.ref b2), (.int (Int32.ofNat B_171)), (.int 3)]) (rest := []) rfl rfl (Nat.le_of_eq rfl) (hb hby at_319) (by decide) (by decide) ?_
        intro T185 h185 v185 L185 X185 e185 q185
        obtain ⟨rfl, M185, rfl⟩ := q185
        have N185 := Fr.app N184 M185
        show G (T185.setTop (mkF m 322 #[.val (.int i0), .val (.int i1), .val (.int i2), .val (.int i3), .val (.int i4), .val (.int 4), .val (.ref b2), .val (.ref b150), .val (.ref q_171), .val (.int r_172), .val (.int r_175), .val (.int r_177), .val (.int r_179), .val (.int (Int32.ofNat B_171)), .val (.int (Int32.ofNat E_171)), .val (.int (Int32.ofNat (E_171 - B_171)))] [(.int 1)]))
        refine hG _ _ (fun t_ k_ => XS.ifNo X185.here hx rfl (hb hby at_322) rfl ((if0 _ _).trans (feq (by decide)).1) k_) ?_
        show G (T185.setTop (mkF m 325 #[.val (.int i0), .val (.int i1), .val (.int i2), .val (.int i3), .val (.int i4), .val (.int 4), .val (.ref b2), .val (.ref b150), .val (.ref q_171), .val (.int r_172), .val (.int r_175), .val (.int r_177), .val (.int r_179), .val (.int (Int32.ofNat B_171)), .val (.int (Int32.ofNat E_171)), .val (.int (Int32.ofNat (E_171 - B_171)))] []))
        refine hG _ _ (fun t_ k_ => XS.iconst X185.here hx rfl (hb hby at_325) k_) ?_
        refine hG _ _ (fun t_ k_ => XS.goto X185.here hx rfl (pc0 := 326) (pc' := 330) rfl (hb hby at_326) (by decide) (by decide) k_) ?_
        show G (T185.setTop (mkF m 330 #[.val (.int i0), .val (.int i1), .val (.int i2), .val (.int i3), .val (.int i4), .val (.int 4), .val (.ref b2), .val (.ref b150), .val (.ref q_171), .val (.int r_172), .val (.int r_175), .val (.int r_177), .val (.int r_179), .val (.int (Int32.ofNat B_171)), .val (.int (Int32.ofNat E_171)), .val (.int (Int32.ofNat (E_171 - B_171)))] [(.int 1)]))
        exact own_retNW hR hret (by simp) X185 hx (hb hby at_330) e185 SI171 (Nat.le_refl _) hZ171 C171 (by decide) (by decide) ⟨rfl, N185, K171⟩
      show G (T179.setTop (mkF m 201 #[.val (.int i0), .val (.int i1), .val (.int i2), .val (.int i3), .val (.int i4), .val (.int 4), .val (.ref b2), .val (.ref b150), .val (.ref q_171), .val (.int r_172), .val (.int r_175), .val (.int r_177), .val (.int r_179), .val (.int (Int32.ofNat B_171)), .unset, .unset] []))
      refine hG _ _ (fun t_ k_ => XS.iload X179.here hx rfl (hb hby at_201) rfl k_) ?_
      show G (T179.setTop (mkF m 203 #[.val (.int i0), .val (.int i1), .val (.int i2), .val (.int i3), .val (.int i4), .val (.int 4), .val (.ref b2), .val (.ref b150), .val (.ref q_171), .val (.int r_172), .val (.int r_175), .val (.int r_177), .val (.int r_179), .val (.int (Int32.ofNat B_171)), .unset, .unset] [(.int r_179)]))
      by_cases hc203_186 : r_179 = (0 : Int32)
      · skip
        refine hG _ _ (fun t_ k_ => XS.ifYes X179.here hx rfl (pc0 := 203) (pc' := 210) rfl (hb hby at_203) rfl ((if0 _ _).trans (teq hc203_186).1) (by decide) (by decide) k_) ?_
        show G (T179.setTop (mkF m 210 #[.val (.int i0), .val (.int i1), .val (.int i2), .val (.int i3), .val (.int i4), .val (.int 4), .val (.ref b2), .val (.ref b150), .val (.ref q_171), .val (.int r_172), .val (.int r_175), .val (.int r_177), .val (.int r_179), .val (.int (Int32.ofNat B_171)), .unset, .unset] []))
        refine hG _ _ (fun t_ k_ => XS.iload X179.here hx rfl (hb hby at_210) rfl k_) ?_
        show G (T179.setTop (mkF m 212 #[.val (.int i0), .val (.int i1), .val (.int i2), .val (.int i3), .val (.int i4), .val (.int 4), .val (.ref b2), .val (.ref b150), .val (.ref q_171), .val (.int r_172), .val (.int r_175), .val (.int r_177), .val (.int r_179), .val (.int (Int32.ofNat B_171)), .unset, .unset] [(.int r_177)]))
        by_cases hc212_187 : r_177 = (0 : Int32)
        · skip
          refine hG _ _ (fun t_ k_ => XS.ifYes X179.here hx rfl (pc0 := 212) (pc' := 219) rfl (hb hby at_212) rfl ((if0 _ _).trans (teq hc212_187).1) (by decide) (by decide) k_) ?_
          show G (T179.setTop (mkF m 219 #[.val (.int i0), .val (.int i1), .val (.int i2), .val (.int i3), .val (.int i4), .val (.int 4), .val (.ref b2), .val (.ref b150), .val (.ref q_171), .val (.int r_172), .val (.int r_175), .val (.int r_177), .val (.int r_179), .val (.int (Int32.ofNat B_171)), .unset, .unset] []))
          refine hG _ _ (fun t_ k_ => XS.iload X179.here hx rfl (hb hby at_219) rfl k_) ?_
          show G (T179.setTop (mkF m 221 #[.val (.int i0), .val (.int i1), .val (.int i2), .val (.int i3), .val (.int i4), .val (.int 4), .val (.ref b2), .val (.ref b150), .val (.ref q_171), .val (.int r_172), .val (.int r_175), .val (.int r_177), .val (.int r_179), .val (.int (Int32.ofNat B_171)), .unset, .unset] [(.int r_175)]))
          by_cases hc221_188 : r_175 = (0 : Int32)
          · skip
            refine hG _ _ (fun t_ k_ => XS.ifYes X179.here hx rfl (pc0 := 221) (pc' := 228) rfl (hb hby at_221) rfl ((if0 _ _).trans (teq hc221_188).1) (by decide) (by decide) k_) ?_
            show G (T179.setTop (mkF m 228 #[.val (.int i0), .val (.int i1), .val (.int i2), .val (.int i3), .val (.int i4), .val (.int 4), .val (.ref b2), .val (.ref b150), .val (.ref q_171), .val (.int r_172), .val (.int r_175), .val (.int r_177), .val (.int r_179), .val (.int (Int32.ofNat B_171)), .unset, .unset] []))
            refine hG _ _ (fun t_ k_ => XS.iload X179.here hx rfl (hb hby at_228) rfl k_) ?_
            show G (T179.setTop (mkF m 230 #[.val (.int i0), .val (.int i1), .val (.int i2), .val (.int i3), .val (.int i4), .val (.int 4), .val (.ref b2), .val (.ref b150), .val (.ref q_171), .val (.int r_172), .val (.int r_175), .val (.int r_177), .val (.int r_179), .val (.int (Int32.ofNat B_171)), .unset, .unset] [(.int r_172)]))
            by_cases hc230_189 : r_172 = (0 : Int32)
            · skip
              refine hG _ _ (fun t_ k_ => XS.ifYes X179.here hx rfl (pc0 := 230) (pc' := 237) rfl (hb hby at_230) rfl ((if0 _ _).trans (teq hc230_189).1) (by decide) (by decide) k_) ?_
              show G (T179.setTop (mkF m 237 #[.val (.int i0), .val (.int i1), .val (.int i2), .val (.int i3), .val (.int i4), .val (.int 4), .val (.ref b2), .val (.ref b150), .val (.ref q_171), .val (.int r_172), .val (.int r_175), .val (.int r_177), .val (.int r_179), .val (.int (Int32.ofNat B_171)), .unset, .unset] []))
              refine hG _ _ (fun t_ k_ => XS.iload X179.here hx rfl (hb hby at_237) rfl k_) ?_
              show G (T179.setTop (mkF m 239 #[.val (.int i0), .val (.int i1), .val (.int i2), .val (.int i3), .val (.int i4), .val (.int 4), .val (.ref b2), .val (.ref b150), .val (.ref q_171), .val (.int r_172), .val (.int r_175), .val (.int r_177), .val (.int r_179), .val (.int (Int32.ofNat B_171)), .unset, .unset] [(.int 4)]))
              exact jl _ (own_litN ((own_none r171_5 (Nat.le_of_ble_eq_true rfl) (own_ltS (own_ltS (own_ltS (own_ltS own_lt0 (own_zer so0_174 hc230_189)) (own_zer so1_176 hc221_188)) (own_zer so2_178 hc212_187)) (own_zer so3_180 hc203_186))).2) rfl)
            · skip
              refine hG _ _ (fun t_ k_ => XS.ifNo X179.here hx rfl (hb hby at_230) rfl ((if0 _ _).trans (feq hc230_189).1) k_) ?_
              show G (T179.setTop (mkF m 233 #[.val (.int i0), .val (.int i1), .val (.int i2), .val (.int i3), .val (.int i4), .val (.int 4), .val (.ref b2), .val (.ref b150), .val (.ref q_171), .val (.int r_172), .val (.int r_175), .val (.int r_177), .val (.int r_179), .val (.int (Int32.ofNat B_171)), .unset, .unset] []))
              refine hG _ _ (fun t_ k_ => XS.iconst X179.here hx rfl (hb hby at_233) k_) ?_
              refine hG _ _ (fun t_ k_ => XS.goto X179.here hx rfl (pc0 := 234) (pc' := 239) rfl (hb hby at_234) (by decide) (by decide) k_) ?_
              show G (T179.setTop (mkF m 239 #[.val (.int i0), .val (.int i1), .val (.int i2), .val (.int i3), .val (.int i4), .val (.int 4), .val (.ref b2), .val (.ref b150), .val (.ref q_171), .val (.int r_172), .val (.int r_175), .val (.int r_177), .val (.int r_179), .val (.int (Int32.ofNat B_171)), .unset, .unset] [(.int 1)]))
              exact jl _ (own_litN (own_lst r171_5 (Nat.le_of_ble_eq_true rfl) (fun j hj hj4 => by rcases (show j = 1 ∨ j = 2 ∨ j = 3 by omega) with rfl | rfl | rfl; exact (own_zer so1_176 hc221_188); exact (own_zer so2_178 hc212_187); exact (own_zer so3_180 hc203_186)) (own_one so0_174 hc230_189)) rfl)
          · skip
            refine hG _ _ (fun t_ k_ => XS.ifNo X179.here hx rfl (hb hby at_221) rfl ((if0 _ _).trans (feq hc221_188).1) k_) ?_
            show G (T179.setTop (mkF m 224 #[.val (.int i0), .val (.int i1), .val (.int i2), .val (.int i3), .val (.int i4), .val (.int 4), .val (.ref b2), .val (.ref b150), .val (.ref q_171), .val (.int r_172), .val (.int r_175), .val (.int r_177), .val (.int r_179), .val (.int (Int32.ofNat B_171)), .unset, .unset] []))
            refine hG _ _ (fun t_ k_ => XS.iconst X179.here hx rfl (hb hby at_224) k_) ?_
            refine hG _ _ (fun t_ k_ => XS.goto X179.here hx rfl (pc0 := 225) (pc' := 239) rfl (hb hby at_225) (by decide) (by decide) k_) ?_
            show G (T179.setTop (mkF m 239 #[.val (.int i0), .val (.int i1), .val (.int i2), .val (.int i3), .val (.int i4), .val (.int 4), .val (.ref b2), .val (.ref b150), .val (.ref q_171), .val (.int r_172), .val (.int r_175), .val (.int r_177), .val (.int r_179), .val (.int (Int32.ofNat B_171)), .unset, .unset] [(.int 2)]))
            exact jl _ (own_litN (own_lst r171_5 (Nat.le_of_ble_eq_true rfl) (fun j hj hj4 => by rcases (show j = 2 ∨ j = 3 by omega) with rfl | rfl; exact (own_zer so2_178 hc212_187); exact (own_zer so3_180 hc203_186)) (own_one so1_176 hc221_188)) rfl)
        · skip
          refine hG _ _ (fun t_ k_ => XS.ifNo X179.here hx rfl (hb hby at_212) rfl ((if0 _ _).trans (feq hc212_187).1) k_) ?_
          show G (T179.setTop (mkF m 215 #[.val (.int i0), .val (.int i1), .val (.int i2), .val (.int i3), .val (.int i4), .val (.int 4), .val (.ref b2), .val (.ref b150), .val (.ref q_171), .val (.int r_172), .val (.int r_175), .val (.int r_177), .val (.int r_179), .val (.int (Int32.ofNat B_171)), .unset, .unset] []))
          refine hG _ _ (fun t_ k_ => XS.iconst X179.here hx rfl (hb hby at_215) k_) ?_
          refine hG _ _ (fun t_ k_ => XS.goto X179.here hx rfl (pc0 := 216) (pc' := 239) rfl (hb hby at_216) (by decide) (by decide) k_) ?_
          show G (T179.setTop (mkF m 239 #[.val (.int i0), .val (.int i1), .val (.int i2), .val (.int i3), .val (.int i4), .val (.int 4), .val (.ref b2), .val (.ref b150), .val (.ref q_171), .val (.int r_172), .val (.int r_175), .val (.int r_177), .val (.int r_179), .val (.int (Int32.ofNat B_171)), .unset, .unset] [(.int 3)]))
          exact jl _ (own_litN (own_lst r171_5 (Nat.le_of_ble_eq_true rfl) (fun j hj hj4 => by rcases (show j = 3 by omega) with rfl; exact (own_zer so3_180 hc203_186)) (own_one so2_178 hc212_187)) rfl)
      · skip
        refine hG _ _ (fun t_ k_ => XS.ifNo X179.here hx rfl (hb hby at_203) rfl ((if0 _ _).trans (feq hc203_186).1) k_) ?_
        show G (T179.setTop (mkF m 206 #[.val (.int i0), .val (.int i1), .val (.int i2), .val (.int i3), .val (.int i4), .val (.int 4), .val (.ref b2), .val (.ref b150), .val (.ref q_171), .val (.int r_172), .val (.int r_175), .val (.int r_177), .val (.int r_179), .val (.int (Int32.ofNat B_171)), .unset, .unset] []))
        refine hG _ _ (fun t_ k_ => XS.iconst X179.here hx rfl (hb hby at_206) k_) ?_
        refine hG _ _ (fun t_ k_ => XS.goto X179.here hx rfl (pc0 := 207) (pc' := 239) rfl (hb hby at_207) (by decide) (by decide) k_) ?_
        show G (T179.setTop (mkF m 239 #[.val (.int i0), .val (.int i1), .val (.int i2), .val (.int i3), .val (.int i4), .val (.int 4), .val (.ref b2), .val (.ref b150), .val (.ref q_171), .val (.int r_172), .val (.int r_175), .val (.int r_177), .val (.int r_179), .val (.int (Int32.ofNat B_171)), .unset, .unset] [(.int 4)]))
        exact jl _ (own_litN (own_lst r171_5 (Nat.le_of_ble_eq_true rfl) (fun j hj hj4 => by omega) (own_one so3_180 hc203_186)) rfl)
    show G (T179.setTop (mkF m 161 #[.val (.int i0), .val (.int i1), .val (.int i2), .val (.int i3), .val (.int i4), .val (.int 4), .val (.ref b2), .val (.ref b150), .val (.ref q_171), .val (.int r_172), .val (.int r_175), .val (.int r_177), .val (.int r_179), .unset, .unset, .unset] []))
    refine hG _ _ (fun t_ k_ => XS.iload X179.here hx rfl (hb hby at_161) rfl k_) ?_
    show G (T179.setTop (mkF m 163 #[.val (.int i0), .val (.int i1), .val (.int i2), .val (.int i3), .val (.int i4), .val (.int 4), .val (.ref b2), .val (.ref b150), .val (.ref q_171), .val (.int r_172), .val (.int r_175), .val (.int r_177), .val (.int r_179), .unset, .unset, .unset] [(.int r_172)]))
    by_cases hc163_190 : r_172 = (0 : Int32)
    · skip
      refine hG _ _ (fun t_ k_ => XS.ifYes X179.here hx rfl (pc0 := 163) (pc' := 170) rfl (hb hby at_163) rfl ((if0 _ _).trans (teq hc163_190).1) (by decide) (by decide) k_) ?_
      show G (T179.setTop (mkF m 170 #[.val (.int i0), .val (.int i1), .val (.int i2), .val (.int i3), .val (.int i4), .val (.int 4), .val (.ref b2), .val (.ref b150), .val (.ref q_171), .val (.int r_172), .val (.int r_175), .val (.int r_177), .val (.int r_179), .unset, .unset, .unset] []))
      refine hG _ _ (fun t_ k_ => XS.iload X179.here hx rfl (hb hby at_170) rfl k_) ?_
      show G (T179.setTop (mkF m 172 #[.val (.int i0), .val (.int i1), .val (.int i2), .val (.int i3), .val (.int i4), .val (.int 4), .val (.ref b2), .val (.ref b150), .val (.ref q_171), .val (.int r_172), .val (.int r_175), .val (.int r_177), .val (.int r_179), .unset, .unset, .unset] [(.int r_175)]))
      by_cases hc172_191 : r_175 = (0 : Int32)
      · skip
        refine hG _ _ (fun t_ k_ => XS.ifYes X179.here hx rfl (pc0 := 172) (pc' := 179) rfl (hb hby at_172) rfl ((if0 _ _).trans (teq hc172_191).1) (by decide) (by decide) k_) ?_
        show G (T179.setTop (mkF m 179 #[.val (.int i0), .val (.int i1), .val (.int i2), .val (.int i3), .val (.int i4), .val (.int 4), .val (.ref b2), .val (.ref b150), .val (.ref q_171), .val (.int r_172), .val (.int r_175), .val (.int r_177), .val (.int r_179), .unset, .unset, .unset] []))
        refine hG _ _ (fun t_ k_ => XS.iload X179.here hx rfl (hb hby at_179) rfl k_) ?_
        show G (T179.setTop (mkF m 181 #[.val (.int i0), .val (.int i1), .val (.int i2), .val (.int i3), .val (.int i4), .val (.int 4), .val (.ref b2), .val (.ref b150), .val (.ref q_171), .val (.int r_172), .val (.int r_175), .val (.int r_177), .val (.int r_179), .unset, .unset, .unset] [(.int r_177)]))
        by_cases hc181_192 : r_177 = (0 : Int32)
        · skip
          refine hG _ _ (fun t_ k_ => XS.ifYes X179.here hx rfl (pc0 := 181) (pc' := 188) rfl (hb hby at_181) rfl ((if0 _ _).trans (teq hc181_192).1) (by decide) (by decide) k_) ?_
          show G (T179.setTop (mkF m 188 #[.val (.int i0), .val (.int i1), .val (.int i2), .val (.int i3), .val (.int i4), .val (.int 4), .val (.ref b2), .val (.ref b150), .val (.ref q_171), .val (.int r_172), .val (.int r_175), .val (.int r_177), .val (.int r_179), .unset, .unset, .unset] []))
          refine hG _ _ (fun t_ k_ => XS.iload X179.here hx rfl (hb hby at_188) rfl k_) ?_
          show G (T179.setTop (mkF m 190 #[.val (.int i0), .val (.int i1), .val (.int i2), .val (.int i3), .val (.int i4), .val (.int 4), .val (.ref b2), .val (.ref b150), .val (.ref q_171), .val (.int r_172), .val (.int r_175), .val (.int r_177), .val (.int r_179), .unset, .unset, .unset] [(.int r_179)]))
          by_cases hc190_193 : r_179 = (0 : Int32)
          · skip
            refine hG _ _ (fun t_ k_ => XS.ifYes X179.here hx rfl (pc0 := 190) (pc' := 197) rfl (hb hby at_190) rfl ((if0 _ _).trans (teq hc190_193).1) (by decide) (by decide) k_) ?_
            show G (T179.setTop (mkF m 197 #[.val (.int i0), .val (.int i1), .val (.int i2), .val (.int i3), .val (.int i4), .val (.int 4), .val (.ref b2), .val (.ref b150), .val (.ref q_171), .val (.int r_172), .val (.int r_175), .val (.int r_177), .val (.int r_179), .unset, .unset, .unset] []))
            refine hG _ _ (fun t_ k_ => XS.iload X179.here hx rfl (hb hby at_197) rfl k_) ?_
            show G (T179.setTop (mkF m 199 #[.val (.int i0), .val (.int i1), .val (.int i2), .val (.int i3), .val (.int i4), .val (.int 4), .val (.ref b2), .val (.ref b150), .val (.ref q_171), .val (.int r_172), .val (.int r_175), .val (.int r_177), .val (.int r_179), .unset, .unset, .unset] [(.int 4)]))
            exact jf _ (own_litN ((own_none r171_5 (Nat.le_of_ble_eq_true rfl) (own_ltS (own_ltS (own_ltS (own_ltS own_lt0 (own_zer so0_174 hc163_190)) (own_zer so1_176 hc172_191)) (own_zer so2_178 hc181_192)) (own_zer so3_180 hc190_193))).1) rfl)
          · skip
            refine hG _ _ (fun t_ k_ => XS.ifNo X179.here hx rfl (hb hby at_190) rfl ((if0 _ _).trans (feq hc190_193).1) k_) ?_
            show G (T179.setTop (mkF m 193 #[.val (.int i0), .val (.int i1), .val (.int i2), .val (.int i3), .val (.int i4), .val (.int 4), .val (.ref b2), .val (.ref b150), .val (.ref q_171), .val (.int r_172), .val (.int r_175), .val (.int r_177), .val (.int r_179), .unset, .unset, .unset] []))
            refine hG _ _ (fun t_ k_ => XS.iconst X179.here hx rfl (hb hby at_193) k_) ?_
            refine hG _ _ (fun t_ k_ => XS.goto X179.here hx rfl (pc0 := 194) (pc' := 199) rfl (hb hby at_194) (by decide) (by decide) k_) ?_
            show G (T179.setTop (mkF m 199 #[.val (.int i0), .val (.int i1), .val (.int i2), .val (.int i3), .val (.int i4), .val (.int 4), .val (.ref b2), .val (.ref b150), .val (.ref q_171), .val (.int r_172), .val (.int r_175), .val (.int r_177), .val (.int r_179), .unset, .unset, .unset] [(.int 3)]))
            exact jf _ (own_litN (own_fst r171_5 (own_ltS (own_ltS (own_ltS own_lt0 (own_zer so0_174 hc163_190)) (own_zer so1_176 hc172_191)) (own_zer so2_178 hc181_192)) (own_one so3_180 hc190_193)) rfl)
        · skip
          refine hG _ _ (fun t_ k_ => XS.ifNo X179.here hx rfl (hb hby at_181) rfl ((if0 _ _).trans (feq hc181_192).1) k_) ?_
          show G (T179.setTop (mkF m 184 #[.val (.int i0), .val (.int i1), .val (.int i2), .val (.int i3), .val (.int i4), .val (.int 4), .val (.ref b2), .val (.ref b150), .val (.ref q_171), .val (.int r_172), .val (.int r_175), .val (.int r_177), .val (.int r_179), .unset, .unset, .unset] []))
          refine hG _ _ (fun t_ k_ => XS.iconst X179.here hx rfl (hb hby at_184) k_) ?_
          refine hG _ _ (fun t_ k_ => XS.goto X179.here hx rfl (pc0 := 185) (pc' := 199) rfl (hb hby at_185) (by decide) (by decide) k_) ?_
          show G (T179.setTop (mkF m 199 #[.val (.int i0), .val (.int i1), .val (.int i2), .val (.int i3), .val (.int i4), .val (.int 4), .val (.ref b2), .val (.ref b150), .val (.ref q_171), .val (.int r_172), .val (.int r_175), .val (.int r_177), .val (.int r_179), .unset, .unset, .unset] [(.int 2)]))
          exact jf _ (own_litN (own_fst r171_5 (own_ltS (own_ltS own_lt0 (own_zer so0_174 hc163_190)) (own_zer so1_176 hc172_191)) (own_one so2_178 hc181_192)) rfl)
      · skip
        refine hG _ _ (fun t_ k_ => XS.ifNo X179.here hx rfl (hb hby at_172) rfl ((if0 _ _).trans (feq hc172_191).1) k_) ?_
        show G (T179.setTop (mkF m 175 #[.val (.int i0), .val (.int i1), .val (.int i2), .val (.int i3), .val (.int i4), .val (.int 4), .val (.ref b2), .val (.ref b150), .val (.ref q_171), .val (.int r_172), .val (.int r_175), .val (.int r_177), .val (.int r_179), .unset, .unset, .unset] []))
        refine hG _ _ (fun t_ k_ => XS.iconst X179.here hx rfl (hb hby at_175) k_) ?_
        refine hG _ _ (fun t_ k_ => XS.goto X179.here hx rfl (pc0 := 176) (pc' := 199) rfl (hb hby at_176) (by decide) (by decide) k_) ?_
        show G (T179.setTop (mkF m 199 #[.val (.int i0), .val (.int i1), .val (.int i2), .val (.int i3), .val (.int i4), .val (.int 4), .val (.ref b2), .val (.ref b150), .val (.ref q_171), .val (.int r_172), .val (.int r_175), .val (.int r_177), .val (.int r_179), .unset, .unset, .unset] [(.int 1)]))
        exact jf _ (own_litN (own_fst r171_5 (own_ltS own_lt0 (own_zer so0_174 hc163_190)) (own_one so1_176 hc172_191)) rfl)
    · skip
      refine hG _ _ (fun t_ k_ => XS.ifNo X179.here hx rfl (hb hby at_163) rfl ((if0 _ _).trans (feq hc163_190).1) k_) ?_
      show G (T179.setTop (mkF m 166 #[.val (.int i0), .val (.int i1), .val (.int i2), .val (.int i3), .val (.int i4), .val (.int 4), .val (.ref b2), .val (.ref b150), .val (.ref q_171), .val (.int r_172), .val (.int r_175), .val (.int r_177), .val (.int r_179), .unset, .unset, .unset] []))
      refine hG _ _ (fun t_ k_ => XS.iconst X179.here hx rfl (hb hby at_166) k_) ?_
      refine hG _ _ (fun t_ k_ => XS.goto X179.here hx rfl (pc0 := 167) (pc' := 199) rfl (hb hby at_167) (by decide) (by decide) k_) ?_
      show G (T179.setTop (mkF m 199 #[.val (.int i0), .val (.int i1), .val (.int i2), .val (.int i3), .val (.int i4), .val (.int 4), .val (.ref b2), .val (.ref b150), .val (.ref q_171), .val (.int r_172), .val (.int r_175), .val (.int r_177), .val (.int r_179), .unset, .unset, .unset] [(.int 0)]))
      exact jf _ (own_litN (own_fst r171_5 own_lt0 (own_one so0_174 hc163_190)) rfl)
set_option maxRecDepth 65536 in
set_option maxHeartbeats 40000000 in
theorem own_comes {Post : Tables → Env → Array Value → State → Outcome → State → Prop} (hpost : ∀ tb e args s v u, (limb_1_1.after args s (.returned v) u = true ∧ limb_1_2.after args s (.returned v) u = true ∧ True) → ReturnedEndW s (.returned v) u (Jvm.fieldLocs frame_1_writes args s ++ Jvm.arrayLocs frame_1_arrays args s ++ Jvm.staticLocs frame_1_statics s) 32 2240 → Post tb e args s (.returned v) u) :
    ArmFor flags0 classFile x code maxLocals ret World_1 tables_1 room_1 Calls_1 rest_1 Pre_1 Post := by
  intro l hfl _ _ p e ha hc hk s m args below hf hA hF happ hP
  obtain ⟨hcalls, hrest, hpre⟩ := hP
  obtain ⟨-, -, -, hnamed, -, -, -, hat⟩ := (Spec.applies_iff hf).mp happ
  obtain ⟨hg, hn⟩ := and_e (Cond.before_iff.mp (show (Jvm.Cond.and given_1 narrow_1).before args s = true from hpre))
  obtain ⟨hcnt, hg⟩ := and_e hg
  obtain ⟨g0, hg⟩ := and_e hg
  obtain ⟨g1, hg⟩ := and_e hg
  obtain ⟨g2, hg⟩ := and_e hg
  obtain ⟨g3, hg⟩ := and_e hg
  have g4 := hg
  obtain ⟨w0, w1, w2, w3, w4, rfl⟩ : ∃ w0 w1 w2 w3 w4 : Value, args = #[w0, w1, w2, w3, w4] := by
    have hs : args.size = 5 := by simpa [Cond.value, given_1] using hcnt
    obtain ⟨L⟩ := args
    match L, hs with
    | [w0, w1, w2, w3, w4], _ => exact ⟨w0, w1, w2, w3, w4, rfl⟩
  have hw := fun d (hd : d ∈ tables_1) => atoms_spec (ws := Jvm.Cond.code x code maxLocals ret :: tables_1) hat d (List.mem_cons_of_mem _ hd)
  have hfit : Fit s := fun {y c} hc i hi => by
    obtain ⟨ha, rfl⟩ := Array.getElem?_eq_some_iff.mp hc
    have q := List.all_eq_true.mp ((Array.all_eq_true_iff_forall_mem.mp hF) _ (Array.getElem_mem ha)) i (List.mem_range.mpr hi)
    simpa [Array.getElem?_eq_getElem hi] using q
  obtain ⟨hsets, hown0⟩ := atoms_of _ (rest_1_c_eq ▸ (show rest_1_c.before _ s = true from hrest))
  have hr0 := Cond.before_iff.mp hown0
  obtain ⟨i0, ei0⟩ := is_v g0
  obtain rfl : w0 = (.int i0) := Option.some.inj ei0
  obtain ⟨i1, ei1⟩ := is_v g1
  obtain rfl : w1 = (.int i1) := Option.some.inj ei1
  obtain ⟨i2, ei2⟩ := is_v g2
  obtain rfl : w2 = (.int i2) := Option.some.inj ei2
  obtain ⟨i3, ei3⟩ := is_v g3
  obtain rfl : w3 = (.int i3) := Option.some.inj ei3
  obtain ⟨i4, ei4⟩ := is_v g4
  obtain rfl : w4 = (.int i4) := Option.some.inj ei4
  obtain ⟨cpt, ecpt⟩ := is_v (Cond.before_iff.mp (hsets _ (List.mem_of_getElem? (i := 1) rfl)))
  have S_cpt : Sta s s.heap "java/lang/String" "COMPACT_STRINGS" "Z" (.int cpt) := Sta.start ecpt (Or.inl (hsets _ (List.mem_of_getElem? (i := 0) rfl)))
  have h_cpt : ¬ (cpt = (0 : Int32)) := gotF (Cond.eq_ints ecpt (Term.int_eval (0))) (not_v (Cond.before_iff.mp (hsets _ (List.mem_of_getElem? (i := 2) rfl))))
  have S_ad : Sta s s.heap "java/lang/StringUTF16" "$assertionsDisabled" "Z" (.int 1) := Sta.start (Cond.eq_int (hsets _ (List.mem_of_getElem? (i := 12) rfl)) rfl) (Or.inl (hsets _ (List.mem_of_getElem? (i := 11) rfl)))
  have S_hs : Sta s s.heap "java/lang/StringUTF16" "HI_BYTE_SHIFT" "I" (.int 0) := Sta.start (Cond.eq_int (hsets _ (List.mem_of_getElem? (i := 15) rfl)) rfl) (Or.inl (hsets _ (List.mem_of_getElem? (i := 14) rfl)))
  have S_ls : Sta s s.heap "java/lang/StringUTF16" "LO_BYTE_SHIFT" "I" (.int 8) := Sta.start (Cond.eq_int (hsets _ (List.mem_of_getElem? (i := 18) rfl)) rfl) (Or.inl (hsets _ (List.mem_of_getElem? (i := 17) rfl)))
  obtain ⟨fmt, efmt, h_fmt⟩ := isR_v (Cond.before_iff.mp (hsets _ (List.mem_of_getElem? (i := 8) rfl)))
  have S_fmt : Sta s s.heap "jdk/internal/util/Preconditions" "SIOOBE_FORMATTER" "Ljava/util/function/BiFunction;" fmt := Sta.start efmt (Or.inl (hsets _ (List.mem_of_getElem? (i := 7) rfl)))
  have hEL : EW s _ consts_1 := (EW.cons (ow hw 19 rfl) (by decide) (EW.cons (ow hw 174 rfl) (by decide) EW.nil))
  have H0 : CHv s consts_1 s.vm s.heap := CHv.start hEL (show ∀ p ∈ consts_1, Jvm.Lit.constHeld s p.1 p.2 from hcalls.1) (hsets _ (List.mem_of_getElem? (i := 2) rfl)) (ow hw 20 rfl) (ow hw 7 rfl)
  obtain ⟨n, o, h1, h2, h3, _, L, rfl, ⟨rfl, N, K⟩, hC, hq⟩ := own_law l s _ hw tables_1 hEL i0 i1 i2 i3 i4 cpt fmt s.heap (Old.start s) S_cpt h_cpt S_ad S_hs S_ls h_fmt S_fmt p e ha hc hk s m _ below hf ((Spec.applies_iff_loose hf).mp happ).1 ⟨rfl, State.Warmed39.refl s, rfl, H0⟩ trivial
  refine ⟨n, _, h1, h2, h3, hpost _ _ _ _ _ _ ⟨Cond.after_iff.mpr rfl, Cond.after_iff.mpr (eq_i res_at (Term.int_eval (1)) rfl), trivial⟩ ⟨hq.1, hq.2.1, hq.2.2.1, (hq.2.2.2.sift fun y hy => Or.inr (N y hy)).mono (by decide) (by decide)⟩⟩
theorem main_1_1 : Claimed_1_1 := own_comes fun _ _ _ _ _ _ h hF => ⟨h.1, hF⟩
theorem main_1_2 : Claimed_1_2 := own_comes fun _ _ _ _ _ _ h hF => ⟨h.2.1, hF⟩
end Jvm.Pilot.@@N@@
namespace Jvm.Pilot.@@N@@
open Jvm Jvm.ClassFile Sem Op Lib Jvm.Free Jvm.Stand Jvm.Pilot.@@N@@.Jvm.D
/-! MADE BY PROGRAM (witnessworld.py) out of the Statement's table words and the real class files: 23 classes; the members and pool entries that the words name. The judged class is class 1, her method 4. -/
namespace start1
open Jvm.ClassFile
def u (s : String) : CpInfo := .utf8 (stringToUtf16 s)
/-- a pool by its gaps: so many unusable entries, then the entry; so many at the end -/
def gap : Nat → List CpInfo → List CpInfo
  | 0, r => r
  | n + 1, r => .unusable :: gap n r
def poolList (es : List (Nat × CpInfo)) (last : Nat) : List CpInfo := es.foldr (fun e r => gap e.1 (e.2 :: r)) (gap last [])
def pool (es : List (Nat × CpInfo)) (last : Nat) : Array CpInfo := ⟨poolList es last⟩
def fileOf (pool : Array CpInfo) (this : Nat) (attrs : Array Attribute := #[]) (ms : Array MethodInfo := #[]) (fl : Nat := 33) (sup : Nat := 0) (ifs : Array Nat := #[]) (fds : Array FieldInfo := #[]) : ClassFile where
  minorVersion := 0
  majorVersion := 65
  constantPool := pool
  accessFlags := fl
  thisClass := this
  superClass := sup
  interfaces := ifs
  fields := fds
  methods := ms
  attributes := attrs
def plain (name : String) (sup : Option ClassId) : Class where
  name := name
  kind := .ordinary
  loader := none
  accessFlags := 33
  super := sup
  interfaces := #[]
  cf := none
  fields := #[]
  methods := #[]
  instanceTypes := #[]
  staticTypes := #[]
  resolved := #[]
  callSites := []
  init := .initialized
  statics := none
  mirror := none

def pool0 : Array CpInfo := pool [(5, u "<init>"), (0, u "()V"), (1, .class_ 10), (1, u "java/lang/Object")] 113

def k0c0 : Code := { maxStack := 0, maxLocals := 1, code := object_method_1_code, exceptionTable := #[], attributes := #[] }
def k0m0 : Method := { name := "<init>", desc := "()V", sig := { parameters := [], returnType := none }, accessFlags := 1, code := some k0c0 }
/-- java/lang/Object -/
def k0 : Class := { plain "java/lang/Object" none with
  accessFlags := 33
  interfaces := #[]
  cf := some (fileOf pool0 8 #[] #[{ accessFlags := 1, nameIndex := 5, descriptorIndex := 6, attributes := #[] }] 33 0 #[] #[])
  fields := #[]
  methods := #[k0m0]
  instanceTypes := #[]
  staticTypes := #[]
  resolved := Array.replicate 124 none
  statics := none }

def pool1 : Array CpInfo := pool [(2, .class_ 4), (1, u "java/lang/Object"), (0, u "<init>"), (0, u "()V"), (0, .integer 65535), (0, .methodref 9 10), (0, .class_ 11), (0, .nameAndType 12 13), (0, u "java/lang/String"), (0, u "charAt"), (0, u "(I)C"), (0, .methodref 15 16), (0, .class_ 17), (0, .nameAndType 18 13), (0, u "com/example/handlewright/handlewright/OrderStripBlanksPinLaw"), (0, u "draw"), (0, .methodref 9 20), (0, .nameAndType 5 21), (0, u "([C)V"), (0, .methodref 23 24), (0, .class_ 25), (0, .nameAndType 26 27), (0, u "com/example/handlewright/handlewright/Order"), (0, u "stripBlanks"), (0, u "(Ljava/lang/String;)Ljava/lang/String;"), (0, .methodref 15 29), (0, .nameAndType 30 31), (0, u "solid"), (0, u "([CII)Z"), (0, .methodref 9 33), (0, .nameAndType 34 35), (0, u "length"), (0, u "()I"), (0, .methodref 15 37), (0, .nameAndType 38 39), (0, u "at"), (0, u "(Ljava/lang/String;I[CII)Z"), (3, u "law"), (0, u "(IIIII)Z")] 4

def k1m0 : Method := { name := "<init>", desc := "()V", sig := { parameters := [], returnType := none }, accessFlags := 1, code := none }
def k1c1 : Code := { maxStack := 2, maxLocals := 2, code := method_2_code, exceptionTable := #[], attributes := #[] }
def k1m1 : Method := { name := "draw", desc := "(I)C", sig := { parameters := [.int], returnType := some .char }, accessFlags := 10, code := some k1c1 }
def k1c2 : Code := { maxStack := 2, maxLocals := 3, code := method_3_code, exceptionTable := #[], attributes := #[] }
def k1m2 : Method := { name := "solid", desc := "([CII)Z", sig := { parameters := [(.array .char), .int, .int], returnType := some .boolean }, accessFlags := 10, code := some k1c2 }
def k1c3 : Code := { maxStack := 4, maxLocals := 5, code := method_4_code, exceptionTable := #[], attributes := #[] }
def k1m3 : Method := { name := "at", desc := "(Ljava/lang/String;I[CII)Z", sig := { parameters := [(.object "java/lang/String"), .int, (.array .char), .int, .int], returnType := some .boolean }, accessFlags := 10, code := some k1c3 }
def k1c4 : Code := { maxStack := 5, maxLocals := 16, code := code, exceptionTable := #[], attributes := #[] }
def k1m4 : Method := { name := "law", desc := "(IIIII)Z", sig := { parameters := [.int, .int, .int, .int, .int], returnType := some .boolean }, accessFlags := 9, code := some k1c4 }
/-- com/example/handlewright/handlewright/OrderStripBlanksPinLaw -/
def k1 : Class := { plain "com/example/handlewright/handlewright/OrderStripBlanksPinLaw" (some 0) with
  accessFlags := 49
  interfaces := #[]
  cf := some (fileOf pool1 15 #[] #[{ accessFlags := 1, nameIndex := 5, descriptorIndex := 6, attributes := #[] }, { accessFlags := 10, nameIndex := 18, descriptorIndex := 13, attributes := #[] }, { accessFlags := 10, nameIndex := 30, descriptorIndex := 31, attributes := #[] }, { accessFlags := 10, nameIndex := 38, descriptorIndex := 39, attributes := #[] }, { accessFlags := 9, nameIndex := 43, descriptorIndex := 44, attributes := #[] }] 49 2 #[] #[])
  fields := #[]
  methods := #[k1m0, k1m1, k1m2, k1m3, k1m4]
  instanceTypes := #[]
  staticTypes := #[]
  resolved := Array.replicate 49 none
  statics := none }

def pool2 : Array CpInfo := pool [(1, .class_ 2), (0, u "java/io/Serializable"), (0, .class_ 4), (0, u "java/lang/Object")] 2

/-- java/io/Serializable -/
def k2 : Class := { plain "java/io/Serializable" (some 0) with
  accessFlags := 1537
  interfaces := #[]
  cf := some (fileOf pool2 1 #[] #[] 1537 3 #[] #[])
  fields := #[]
  methods := #[]
  instanceTypes := #[]
  staticTypes := #[]
  resolved := Array.replicate 7 none
  statics := none }

def pool3 : Array CpInfo := pool [(1, .class_ 2), (0, u "java/lang/Comparable"), (0, .class_ 4), (0, u "java/lang/Object")] 7

/-- java/lang/Comparable -/
def k3 : Class := { plain "java/lang/Comparable" (some 0) with
  accessFlags := 1537
  interfaces := #[]
  cf := some (fileOf pool3 1 #[] #[] 1537 3 #[] #[])
  fields := #[]
  methods := #[]
  instanceTypes := #[]
  staticTypes := #[]
  resolved := Array.replicate 12 none
  statics := none }

def pool4 : Array CpInfo := pool [(2, .class_ 4), (1, u "java/lang/CharSequence"), (42, .class_ 48), (0, u "java/lang/CharSequence$1CodePointIterator"), (10, .class_ 60), (0, u "java/lang/CharSequence$1CharIterator"), (5, .class_ 67), (0, u "java/lang/Object")] 63

/-- java/lang/CharSequence -/
def k4 : Class := { plain "java/lang/CharSequence" (some 0) with
  accessFlags := 1537
  interfaces := #[]
  cf := some (fileOf pool4 2 #[.nestMembers #[47, 59]] #[] 1537 66 #[] #[])
  fields := #[]
  methods := #[]
  instanceTypes := #[]
  staticTypes := #[]
  resolved := Array.replicate 131 none
  statics := none }

def pool5 : Array CpInfo := pool [(1, .class_ 2), (0, u "java/lang/constant/Constable"), (0, .class_ 4), (0, u "java/lang/Object")] 6

/-- java/lang/constant/Constable -/
def k5 : Class := { plain "java/lang/constant/Constable" (some 0) with
  accessFlags := 1537
  interfaces := #[]
  cf := some (fileOf pool5 1 #[] #[] 1537 3 #[] #[])
  fields := #[]
  methods := #[]
  instanceTypes := #[]
  staticTypes := #[]
  resolved := Array.replicate 11 none
  statics := none }

def pool6 : Array CpInfo := pool [(1, .class_ 2), (0, u "java/lang/constant/ConstantDesc"), (0, .class_ 4), (0, u "java/lang/Object")] 32

/-- java/lang/constant/ConstantDesc -/
def k6 : Class := { plain "java/lang/constant/ConstantDesc" (some 0) with
  accessFlags := 1537
  interfaces := #[]
  cf := some (fileOf pool6 1 #[] #[] 1537 3 #[] #[])
  fields := #[]
  methods := #[]
  instanceTypes := #[]
  staticTypes := #[]
  resolved := Array.replicate 37 none
  statics := none }

def pool7 : Array CpInfo := pool [(1, .methodref 2 3), (0, .class_ 4), (0, .nameAndType 5 6), (0, u "java/lang/Object"), (0, u "<init>"), (0, u "()V"), (0, .string 8), (0, u ""), (0, .fieldref 10 11), (0, .class_ 12), (0, .nameAndType 13 14), (0, u "java/lang/String"), (0, u "value"), (0, u "[B"), (0, .fieldref 10 16), (0, .nameAndType 17 18), (0, u "coder"), (0, u "B"), (2, u "hash"), (0, u "I"), (2, u "hashIsZero"), (0, u "Z"), (0, .methodref 10 28), (0, .nameAndType 5 29), (0, u "([CIILjava/lang/Void;)V"), (6, u "checkBoundsOffCount"), (0, u "(III)I"), (0, .fieldref 10 39), (0, .nameAndType 40 26), (0, u "COMPACT_STRINGS"), (1, .class_ 44), (1, u "java/lang/StringUTF16"), (0, u "compress"), (1, .methodref 42 48), (0, .nameAndType 49 50), (0, u "coderFromArrayLen"), (0, u "([BI)B"), (56, .class_ 109), (1, u "java/lang/StringLatin1"), (32, u "()Z"), (34, .methodref 42 178), (0, .nameAndType 45 179), (0, u "([CII)[B"), (31, u "([BB)V"), (122, u "()I"), (0, .methodref 10 336), (0, .nameAndType 17 337), (0, u "()B"), (25, u "([BI)C"), (27, u "(II)V"), (35, u "(I)C"), (64, .methodref 10 493), (0, .nameAndType 494 142), (0, u "isLatin1"), (0, .methodref 107 496), (0, .nameAndType 497 363), (0, u "charAt"), (0, .methodref 42 496), (2, u "checkIndex"), (3, .methodref 10 506), (0, .nameAndType 507 334), (0, u "length"), (5, u "checkFromToIndex"), (7, .methodref 10 522), (0, .nameAndType 523 524), (0, u "checkBoundsBeginEnd"), (0, u "(III)V"), (50, .class_ 576), (0, u "java/lang/CharSequence"), (22, u "CASE_INSENSITIVE_ORDER"), (0, u "Ljava/util/Comparator;"), (82, u "substring"), (0, u "(II)Ljava/lang/String;"), (0, .methodref 107 686), (0, .nameAndType 687 688), (0, u "newString"), (0, u "([BII)Ljava/lang/String;"), (0, .methodref 42 686), (320, u "([C)V"), (42, .fieldref 1054 1055), (0, .class_ 1056), (0, .nameAndType 1057 1058), (0, u "jdk/internal/util/Preconditions"), (0, u "SIOOBE_FORMATTER"), (0, u "Ljava/util/function/BiFunction;"), (0, .methodref 1054 1060), (0, .nameAndType 501 1061), (0, u "(IILjava/util/function/BiFunction;)I"), (0, .methodref 1054 1063), (0, .nameAndType 513 1064), (0, u "(IIILjava/util/function/BiFunction;)I"), (0, .methodref 1054 1066), (0, .nameAndType 1067 1064), (0, u "checkFromIndexSize"), (33, u "serialPersistentFields"), (0, u "[Ljava/io/ObjectStreamField;"), (0, .class_ 1104), (0, u "java/lang/String$CaseInsensitiveComparator"), (1, .class_ 1107), (0, u "java/io/Serializable"), (0, .class_ 1109), (0, u "java/lang/Comparable"), (0, .class_ 1111), (0, u "java/lang/constant/Constable"), (0, .class_ 1113), (0, u "java/lang/constant/ConstantDesc"), (2, u "serialVersionUID"), (0, u "J"), (3, u "REPL"), (0, u "C"), (2, u "LATIN1"), (1, u "UTF16")] 323

def k7m0 : Method := { name := "<init>", desc := "()V", sig := { parameters := [], returnType := none }, accessFlags := 1, code := none }
def k7c1 : Code := { maxStack := 5, maxLocals := 2, code := jdk_42_method_3_code, exceptionTable := #[], attributes := #[] }
def k7m1 : Method := { name := "<init>", desc := "([C)V", sig := { parameters := [(.array .char)], returnType := none }, accessFlags := 1, code := some k7c1 }
def k7c2 : Code := { maxStack := 2, maxLocals := 1, code := jdk_42_method_54_code, exceptionTable := #[], attributes := #[] }
def k7m2 : Method := { name := "length", desc := "()I", sig := { parameters := [], returnType := some .int }, accessFlags := 1, code := some k7c2 }
def k7c3 : Code := { maxStack := 2, maxLocals := 2, code := jdk_42_method_56_code, exceptionTable := #[], attributes := #[] }
def k7m3 : Method := { name := "charAt", desc := "(I)C", sig := { parameters := [.int], returnType := some .char }, accessFlags := 1, code := some k7c3 }
def k7c4 : Code := { maxStack := 3, maxLocals := 5, code := jdk_42_method_92_code, exceptionTable := #[], attributes := #[] }
def k7m4 : Method := { name := "substring", desc := "(II)Ljava/lang/String;", sig := { parameters := [.int, .int], returnType := some (.object "java/lang/String") }, accessFlags := 1, code := some k7c4 }
def k7c5 : Code := { maxStack := 4, maxLocals := 6, code := jdk_42_method_149_code, exceptionTable := #[], attributes := #[] }
def k7m5 : Method := { name := "<init>", desc := "([CIILjava/lang/Void;)V", sig := { parameters := [(.array .char), .int, .int, (.object "java/lang/Void")], returnType := none }, accessFlags := 2, code := some k7c5 }
def k7c6 : Code := { maxStack := 2, maxLocals := 3, code := jdk_42_method_151_code, exceptionTable := #[], attributes := #[] }
def k7m6 : Method := { name := "<init>", desc := "([BB)V", sig := { parameters := [(.array .byte), .byte], returnType := none }, accessFlags := 0, code := some k7c6 }
def k7c7 : Code := { maxStack := 1, maxLocals := 1, code := jdk_42_method_152_code, exceptionTable := #[], attributes := #[] }
def k7m7 : Method := { name := "coder", desc := "()B", sig := { parameters := [], returnType := some .byte }, accessFlags := 0, code := some k7c7 }
def k7c8 : Code := { maxStack := 1, maxLocals := 1, code := jdk_42_method_154_code, exceptionTable := #[], attributes := #[] }
def k7m8 : Method := { name := "isLatin1", desc := "()Z", sig := { parameters := [], returnType := some .boolean }, accessFlags := 0, code := some k7c8 }
def k7c9 : Code := { maxStack := 3, maxLocals := 2, code := jdk_42_method_155_code, exceptionTable := #[], attributes := #[] }
def k7m9 : Method := { name := "checkIndex", desc := "(II)V", sig := { parameters := [.int, .int], returnType := none }, accessFlags := 8, code := some k7c9 }
def k7c10 : Code := { maxStack := 4, maxLocals := 3, code := jdk_42_method_157_code, exceptionTable := #[], attributes := #[] }
def k7m10 : Method := { name := "checkBoundsOffCount", desc := "(III)I", sig := { parameters := [.int, .int, .int], returnType := some .int }, accessFlags := 8, code := some k7c10 }
def k7c11 : Code := { maxStack := 4, maxLocals := 3, code := jdk_42_method_158_code, exceptionTable := #[], attributes := #[] }
def k7m11 : Method := { name := "checkBoundsBeginEnd", desc := "(III)V", sig := { parameters := [.int, .int, .int], returnType := none }, accessFlags := 8, code := some k7c11 }
/-- java/lang/String -/
def k7 : Class := { plain "java/lang/String" (some 0) with
  accessFlags := 49
  interfaces := #[2, 3, 4, 5, 6]
  cf := some (fileOf pool7 10 #[.nestMembers #[1103]] #[{ accessFlags := 1, nameIndex := 5, descriptorIndex := 6, attributes := #[] }, { accessFlags := 1, nameIndex := 5, descriptorIndex := 1010, attributes := #[] }, { accessFlags := 1, nameIndex := 507, descriptorIndex := 334, attributes := #[] }, { accessFlags := 1, nameIndex := 497, descriptorIndex := 427, attributes := #[] }, { accessFlags := 1, nameIndex := 683, descriptorIndex := 684, attributes := #[] }, { accessFlags := 2, nameIndex := 5, descriptorIndex := 29, attributes := #[] }, { accessFlags := 0, nameIndex := 5, descriptorIndex := 211, attributes := #[] }, { accessFlags := 0, nameIndex := 17, descriptorIndex := 337, attributes := #[] }, { accessFlags := 0, nameIndex := 494, descriptorIndex := 142, attributes := #[] }, { accessFlags := 8, nameIndex := 501, descriptorIndex := 391, attributes := #[] }, { accessFlags := 8, nameIndex := 36, descriptorIndex := 37, attributes := #[] }, { accessFlags := 8, nameIndex := 523, descriptorIndex := 524, attributes := #[] }] 49 2 #[1106, 1108, 575, 1110, 1112] #[{ accessFlags := 18, nameIndex := 13, descriptorIndex := 14, attributes := #[] }, { accessFlags := 18, nameIndex := 17, descriptorIndex := 18, attributes := #[] }, { accessFlags := 2, nameIndex := 21, descriptorIndex := 22, attributes := #[] }, { accessFlags := 2, nameIndex := 25, descriptorIndex := 26, attributes := #[] }, { accessFlags := 26, nameIndex := 1116, descriptorIndex := 1117, attributes := #[] }, { accessFlags := 24, nameIndex := 40, descriptorIndex := 26, attributes := #[] }, { accessFlags := 26, nameIndex := 1101, descriptorIndex := 1102, attributes := #[] }, { accessFlags := 26, nameIndex := 1121, descriptorIndex := 1122, attributes := #[] }, { accessFlags := 25, nameIndex := 599, descriptorIndex := 600, attributes := #[] }, { accessFlags := 24, nameIndex := 1125, descriptorIndex := 18, attributes := #[] }, { accessFlags := 24, nameIndex := 1127, descriptorIndex := 18, attributes := #[] }])
  fields := #[{ name := "value", type := (.array .byte), accessFlags := 18, slot := 0, constantValue := 0 }, { name := "coder", type := .byte, accessFlags := 18, slot := 1, constantValue := 0 }, { name := "hash", type := .int, accessFlags := 2, slot := 2, constantValue := 0 }, { name := "hashIsZero", type := .boolean, accessFlags := 2, slot := 3, constantValue := 0 }, { name := "serialVersionUID", type := .long, accessFlags := 26, slot := 0, constantValue := 0 }, { name := "COMPACT_STRINGS", type := .boolean, accessFlags := 24, slot := 1, constantValue := 0 }, { name := "serialPersistentFields", type := (.array (.object "java/io/ObjectStreamField")), accessFlags := 26, slot := 2, constantValue := 0 }, { name := "REPL", type := .char, accessFlags := 26, slot := 3, constantValue := 0 }, { name := "CASE_INSENSITIVE_ORDER", type := (.object "java/util/Comparator"), accessFlags := 25, slot := 4, constantValue := 0 }, { name := "LATIN1", type := .byte, accessFlags := 24, slot := 5, constantValue := 0 }, { name := "UTF16", type := .byte, accessFlags := 24, slot := 6, constantValue := 0 }]
  methods := #[k7m0, k7m1, k7m2, k7m3, k7m4, k7m5, k7m6, k7m7, k7m8, k7m9, k7m10, k7m11]
  instanceTypes := #[(.array .byte), .byte, .int, .boolean]
  staticTypes := #[.long, .boolean, (.array (.object "java/io/ObjectStreamField")), .char, (.object "java/util/Comparator"), .byte, .byte]
  resolved := Array.replicate 1451 none
  statics := some 0 }

def pool8 : Array CpInfo := pool [(2, .class_ 4), (1, u "java/lang/Object"), (0, u "<init>"), (0, u "()V"), (4, .class_ 13), (1, u "com/example/handlewright/handlewright/Order"), (0, u "firsts"), (0, u "Ljava/util/Map;"), (2, u "values"), (5, u "sections"), (0, u "Ljava/util/List;"), (2, u "whole"), (0, u "Lcom/example/handlewright/handlewright/Order;"), (6, u "firstUnknown"), (0, u "Lcom/example/handlewright/handlewright/Order$Place;"), (0, .class_ 39), (0, u "com/example/handlewright/handlewright/Order$Place"), (29, .class_ 70), (0, u "com/example/handlewright/handlewright/Order$Section"), (5, u "fields"), (0, u "I"), (14, .class_ 93), (0, u "java/lang/String"), (3, u "(Ljava/lang/String;)Ljava/lang/String;"), (37, u "()I"), (87, .methodref 92 224), (0, .nameAndType 225 135), (0, u "length"), (0, .methodref 92 227), (0, .nameAndType 228 229), (0, u "charAt"), (0, u "(I)C"), (0, .methodref 11 231), (0, .nameAndType 232 233), (0, u "isBlank"), (0, u "(C)Z"), (0, .methodref 92 235), (0, .nameAndType 236 237), (0, u "substring"), (0, u "(II)Ljava/lang/String;"), (0, u "MAX_FIELDS"), (27, u "stripBlanks")] 44

def k8m0 : Method := { name := "<init>", desc := "()V", sig := { parameters := [], returnType := none }, accessFlags := 0, code := none }
def k8c1 : Code := { maxStack := 3, maxLocals := 3, code := prog_21_method_15_code, exceptionTable := #[], attributes := #[] }
def k8m1 : Method := { name := "stripBlanks", desc := "(Ljava/lang/String;)Ljava/lang/String;", sig := { parameters := [(.object "java/lang/String")], returnType := some (.object "java/lang/String") }, accessFlags := 8, code := some k8c1 }
def k8c2 : Code := { maxStack := 2, maxLocals := 1, code := prog_21_method_16_code, exceptionTable := #[], attributes := #[] }
def k8m2 : Method := { name := "isBlank", desc := "(C)Z", sig := { parameters := [.char], returnType := some .boolean }, accessFlags := 10, code := some k8c2 }
/-- com/example/handlewright/handlewright/Order -/
def k8 : Class := { plain "com/example/handlewright/handlewright/Order" (some 0) with
  accessFlags := 48
  interfaces := #[]
  cf := some (fileOf pool8 11 #[.nestMembers #[69, 38]] #[{ accessFlags := 0, nameIndex := 5, descriptorIndex := 6, attributes := #[] }, { accessFlags := 8, nameIndex := 266, descriptorIndex := 97, attributes := #[] }, { accessFlags := 10, nameIndex := 232, descriptorIndex := 233, attributes := #[] }] 48 2 #[] #[{ accessFlags := 24, nameIndex := 238, descriptorIndex := 77, attributes := #[] }, { accessFlags := 18, nameIndex := 14, descriptorIndex := 15, attributes := #[] }, { accessFlags := 2, nameIndex := 36, descriptorIndex := 37, attributes := #[] }, { accessFlags := 18, nameIndex := 28, descriptorIndex := 29, attributes := #[] }, { accessFlags := 2, nameIndex := 76, descriptorIndex := 77, attributes := #[] }, { accessFlags := 18, nameIndex := 18, descriptorIndex := 15, attributes := #[] }, { accessFlags := 18, nameIndex := 24, descriptorIndex := 25, attributes := #[] }])
  fields := #[{ name := "MAX_FIELDS", type := .int, accessFlags := 24, slot := 0, constantValue := 0 }, { name := "firsts", type := (.object "java/util/Map"), accessFlags := 18, slot := 0, constantValue := 0 }, { name := "firstUnknown", type := (.object "com/example/handlewright/handlewright/Order$Place"), accessFlags := 2, slot := 1, constantValue := 0 }, { name := "whole", type := (.object "com/example/handlewright/handlewright/Order"), accessFlags := 18, slot := 2, constantValue := 0 }, { name := "fields", type := .int, accessFlags := 2, slot := 3, constantValue := 0 }, { name := "values", type := (.object "java/util/Map"), accessFlags := 18, slot := 4, constantValue := 0 }, { name := "sections", type := (.object "java/util/List"), accessFlags := 18, slot := 5, constantValue := 0 }]
  methods := #[k8m0, k8m1, k8m2]
  instanceTypes := #[(.object "java/util/Map"), (.object "com/example/handlewright/handlewright/Order$Place"), (.object "com/example/handlewright/handlewright/Order"), .int, (.object "java/util/Map"), (.object "java/util/List")]
  staticTypes := #[.int]
  resolved := Array.replicate 311 none
  statics := none }

def pool9 : Array CpInfo := pool [(2, .class_ 4), (1, u "java/lang/Object"), (0, u "<init>"), (0, u "()V"), (17, .class_ 26), (1, u "jdk/internal/util/Preconditions"), (6, u "checkIndex"), (13, u "checkFromToIndex"), (1, u "checkFromIndexSize"), (5, .class_ 56), (0, u "jdk/internal/util/Preconditions$4"), (57, .class_ 115), (0, u "jdk/internal/util/Preconditions$1"), (7, u "SIOOBE_FORMATTER"), (0, u "Ljava/util/function/BiFunction;"), (0, .class_ 126), (0, u "jdk/internal/util/Preconditions$2"), (3, u "AIOOBE_FORMATTER"), (0, .class_ 132), (0, u "jdk/internal/util/Preconditions$3"), (3, u "IOOBE_FORMATTER"), (41, u "(IILjava/util/function/BiFunction;)I"), (4, u "(IIILjava/util/function/BiFunction;)I")] 10

def k9m0 : Method := { name := "<init>", desc := "()V", sig := { parameters := [], returnType := none }, accessFlags := 1, code := none }
def k9c1 : Code := { maxStack := 3, maxLocals := 3, code := jdk_41_method_11_code, exceptionTable := #[], attributes := #[] }
def k9m1 : Method := { name := "checkIndex", desc := "(IILjava/util/function/BiFunction;)I", sig := { parameters := [.int, .int, (.object "java/util/function/BiFunction")], returnType := some .int }, accessFlags := 9, code := some k9c1 }
def k9c2 : Code := { maxStack := 4, maxLocals := 4, code := jdk_41_method_12_code, exceptionTable := #[], attributes := #[] }
def k9m2 : Method := { name := "checkFromToIndex", desc := "(IIILjava/util/function/BiFunction;)I", sig := { parameters := [.int, .int, .int, (.object "java/util/function/BiFunction")], returnType := some .int }, accessFlags := 9, code := some k9c2 }
def k9c3 : Code := { maxStack := 4, maxLocals := 4, code := jdk_41_method_13_code, exceptionTable := #[], attributes := #[] }
def k9m3 : Method := { name := "checkFromIndexSize", desc := "(IIILjava/util/function/BiFunction;)I", sig := { parameters := [.int, .int, .int, (.object "java/util/function/BiFunction")], returnType := some .int }, accessFlags := 9, code := some k9c3 }
/-- jdk/internal/util/Preconditions -/
def k9 : Class := { plain "jdk/internal/util/Preconditions" (some 0) with
  accessFlags := 33
  interfaces := #[]
  cf := some (fileOf pool9 24 #[.nestMembers #[55, 131, 125, 114]] #[{ accessFlags := 1, nameIndex := 5, descriptorIndex := 6, attributes := #[] }, { accessFlags := 9, nameIndex := 33, descriptorIndex := 178, attributes := #[] }, { accessFlags := 9, nameIndex := 47, descriptorIndex := 183, attributes := #[] }, { accessFlags := 9, nameIndex := 49, descriptorIndex := 183, attributes := #[] }] 33 2 #[] #[{ accessFlags := 25, nameIndex := 123, descriptorIndex := 124, attributes := #[] }, { accessFlags := 25, nameIndex := 130, descriptorIndex := 124, attributes := #[] }, { accessFlags := 25, nameIndex := 136, descriptorIndex := 124, attributes := #[] }])
  fields := #[{ name := "SIOOBE_FORMATTER", type := (.object "java/util/function/BiFunction"), accessFlags := 25, slot := 0, constantValue := 0 }, { name := "AIOOBE_FORMATTER", type := (.object "java/util/function/BiFunction"), accessFlags := 25, slot := 1, constantValue := 0 }, { name := "IOOBE_FORMATTER", type := (.object "java/util/function/BiFunction"), accessFlags := 25, slot := 2, constantValue := 0 }]
  methods := #[k9m0, k9m1, k9m2, k9m3]
  instanceTypes := #[]
  staticTypes := #[(.object "java/util/function/BiFunction"), (.object "java/util/function/BiFunction"), (.object "java/util/function/BiFunction")]
  resolved := Array.replicate 194 none
  statics := some 1 }

def pool10 : Array CpInfo := pool [(3, .class_ 4), (0, u "java/lang/String"), (1, .class_ 8), (1, u "java/lang/Object"), (0, u "<init>"), (0, u "()V"), (0, .methodref 12 13), (0, .class_ 14), (0, .nameAndType 15 16), (0, u "java/lang/StringUTF16"), (0, u "newBytesLength"), (0, u "(I)I"), (3, .integer 1073741823), (23, .fieldref 12 45), (0, .nameAndType 46 47), (0, u "$assertionsDisabled"), (0, u "Z"), (0, .methodref 12 49), (0, .nameAndType 50 51), (0, u "length"), (0, u "([B)I"), (7, .fieldref 12 60), (0, .nameAndType 61 62), (0, u "HI_BYTE_SHIFT"), (0, u "I"), (0, .fieldref 12 64), (0, .nameAndType 65 62), (0, u "LO_BYTE_SHIFT"), (1, .methodref 12 68), (0, .nameAndType 69 70), (0, u "checkIndex"), (0, u "(I[B)V"), (0, .methodref 12 72), (0, .nameAndType 73 74), (0, u "getChar"), (0, u "([BI)C"), (24, u "(II[B)V"), (7, .methodref 12 108), (0, .nameAndType 109 110), (0, u "newBytesFor"), (0, u "(I)[B"), (0, .methodref 12 112), (0, .nameAndType 113 114), (0, u "putChar"), (0, u "([BII)V"), (0, .methodref 12 116), (0, .nameAndType 117 118), (0, u "compress"), (0, u "([CI[BII)I"), (0, .methodref 12 120), (0, .nameAndType 121 122), (0, u "toBytes"), (0, u "([CII)[B"), (0, .methodref 12 124), (0, .nameAndType 117 125), (0, u "([BI[BII)I"), (0, .methodref 127 128), (0, .class_ 129), (0, .nameAndType 130 131), (0, u "java/util/Arrays"), (0, u "copyOfRange"), (0, u "([BII)[B"), (41, .methodref 12 174), (0, .nameAndType 175 99), (0, u "checkBoundsOffCount"), (75, .fieldref 3 252), (0, .nameAndType 253 47), (0, u "COMPACT_STRINGS"), (3, .methodref 12 258), (0, .nameAndType 117 131), (0, .methodref 12 260), (0, .nameAndType 261 262), (0, u "coderFromArrayLen"), (0, u "([BI)B"), (0, .methodref 3 264), (0, .nameAndType 9 265), (0, u "([BB)V"), (15, u "(III)I"), (45, u "newString"), (0, u "([BII)Ljava/lang/String;"), (40, .class_ 371), (1, u "java/lang/StringUTF16$LinesSpliterator"), (20, u "charAt"), (21, .methodref 3 415), (0, .nameAndType 69 416), (0, u "(II)V"), (2, .methodref 3 420), (0, .nameAndType 175 281), (9, u "MAX_LENGTH"), (196, .class_ 628), (0, u "java/lang/StringUTF16$CodePointsSpliterator"), (0, .class_ 630), (0, u "java/lang/StringUTF16$CharsSpliterator")] 4

def k10m0 : Method := { name := "<init>", desc := "()V", sig := { parameters := [], returnType := none }, accessFlags := 0, code := none }
def k10c1 : Code := { maxStack := 1, maxLocals := 1, code := jdk_52_method_2_code, exceptionTable := #[], attributes := #[] }
def k10m1 : Method := { name := "newBytesFor", desc := "(I)[B", sig := { parameters := [.int], returnType := some (.array .byte) }, accessFlags := 9, code := some k10c1 }
def k10c2 : Code := { maxStack := 4, maxLocals := 1, code := jdk_52_method_3_code, exceptionTable := #[], attributes := #[] }
def k10m2 : Method := { name := "newBytesLength", desc := "(I)I", sig := { parameters := [.int], returnType := some .int }, accessFlags := 9, code := some k10c2 }
def k10c3 : Code := { maxStack := 4, maxLocals := 3, code := jdk_52_method_4_code, exceptionTable := #[], attributes := #[] }
def k10m3 : Method := { name := "putChar", desc := "([BII)V", sig := { parameters := [(.array .byte), .int, .int], returnType := none }, accessFlags := 8, code := some k10c3 }
def k10c4 : Code := { maxStack := 3, maxLocals := 2, code := jdk_52_method_5_code, exceptionTable := #[], attributes := #[] }
def k10m4 : Method := { name := "getChar", desc := "([BI)C", sig := { parameters := [(.array .byte), .int], returnType := some .char }, accessFlags := 8, code := some k10c4 }
def k10c5 : Code := { maxStack := 2, maxLocals := 1, code := jdk_52_method_6_code, exceptionTable := #[], attributes := #[] }
def k10m5 : Method := { name := "length", desc := "([B)I", sig := { parameters := [(.array .byte)], returnType := some .int }, accessFlags := 9, code := some k10c5 }
def k10c6 : Code := { maxStack := 4, maxLocals := 5, code := jdk_52_method_14_code, exceptionTable := #[], attributes := #[] }
def k10m6 : Method := { name := "toBytes", desc := "([CII)[B", sig := { parameters := [(.array .char), .int, .int], returnType := some (.array .byte) }, accessFlags := 9, code := some k10c6 }
def k10c7 : Code := { maxStack := 2, maxLocals := 2, code := jdk_52_method_15_code, exceptionTable := #[], attributes := #[] }
def k10m7 : Method := { name := "coderFromArrayLen", desc := "([BI)B", sig := { parameters := [(.array .byte), .int], returnType := some .byte }, accessFlags := 8, code := some k10c7 }
def k10c8 : Code := { maxStack := 5, maxLocals := 6, code := jdk_52_method_16_code, exceptionTable := #[], attributes := #[] }
def k10m8 : Method := { name := "compress", desc := "([CII)[B", sig := { parameters := [(.array .char), .int, .int], returnType := some (.array .byte) }, accessFlags := 9, code := some k10c8 }
def k10c9 : Code := { maxStack := 5, maxLocals := 6, code := jdk_52_method_17_code, exceptionTable := #[], attributes := #[] }
def k10m9 : Method := { name := "compress", desc := "([BII)[B", sig := { parameters := [(.array .byte), .int, .int], returnType := some (.array .byte) }, accessFlags := 9, code := some k10c9 }
def k10c10 : Code := { maxStack := 3, maxLocals := 7, code := jdk_52_method_21_code, exceptionTable := #[], attributes := #[] }
def k10m10 : Method := { name := "compress", desc := "([CI[BII)I", sig := { parameters := [(.array .char), .int, (.array .byte), .int, .int], returnType := some .int }, accessFlags := 9, code := some k10c10 }
def k10c11 : Code := { maxStack := 3, maxLocals := 7, code := jdk_52_method_22_code, exceptionTable := #[], attributes := #[] }
def k10m11 : Method := { name := "compress", desc := "([BI[BII)I", sig := { parameters := [(.array .byte), .int, (.array .byte), .int, .int], returnType := some .int }, accessFlags := 9, code := some k10c11 }
def k10c12 : Code := { maxStack := 6, maxLocals := 5, code := jdk_52_method_69_code, exceptionTable := #[], attributes := #[] }
def k10m12 : Method := { name := "newString", desc := "([BII)Ljava/lang/String;", sig := { parameters := [(.array .byte), .int, .int], returnType := some (.object "java/lang/String") }, accessFlags := 9, code := some k10c12 }
def k10c13 : Code := { maxStack := 2, maxLocals := 2, code := jdk_52_method_83_code, exceptionTable := #[], attributes := #[] }
def k10m13 : Method := { name := "charAt", desc := "([BI)C", sig := { parameters := [(.array .byte), .int], returnType := some .char }, accessFlags := 9, code := some k10c13 }
def k10c14 : Code := { maxStack := 2, maxLocals := 2, code := jdk_52_method_91_code, exceptionTable := #[], attributes := #[] }
def k10m14 : Method := { name := "checkIndex", desc := "(I[B)V", sig := { parameters := [.int, (.array .byte)], returnType := none }, accessFlags := 9, code := some k10c14 }
def k10c15 : Code := { maxStack := 3, maxLocals := 3, code := jdk_52_method_94_code, exceptionTable := #[], attributes := #[] }
def k10m15 : Method := { name := "checkBoundsOffCount", desc := "(II[B)V", sig := { parameters := [.int, .int, (.array .byte)], returnType := none }, accessFlags := 9, code := some k10c15 }
/-- java/lang/StringUTF16 -/
def k10 : Class := { plain "java/lang/StringUTF16" (some 0) with
  accessFlags := 48
  interfaces := #[]
  cf := some (fileOf pool10 12 #[.nestMembers #[627, 629, 369]] #[{ accessFlags := 0, nameIndex := 9, descriptorIndex := 10, attributes := #[] }, { accessFlags := 9, nameIndex := 109, descriptorIndex := 110, attributes := #[] }, { accessFlags := 9, nameIndex := 15, descriptorIndex := 16, attributes := #[] }, { accessFlags := 8, nameIndex := 113, descriptorIndex := 114, attributes := #[] }, { accessFlags := 8, nameIndex := 73, descriptorIndex := 74, attributes := #[] }, { accessFlags := 9, nameIndex := 50, descriptorIndex := 51, attributes := #[] }, { accessFlags := 9, nameIndex := 121, descriptorIndex := 122, attributes := #[] }, { accessFlags := 8, nameIndex := 261, descriptorIndex := 262, attributes := #[] }, { accessFlags := 9, nameIndex := 117, descriptorIndex := 122, attributes := #[] }, { accessFlags := 9, nameIndex := 117, descriptorIndex := 131, attributes := #[] }, { accessFlags := 9, nameIndex := 117, descriptorIndex := 118, attributes := #[] }, { accessFlags := 9, nameIndex := 117, descriptorIndex := 125, attributes := #[] }, { accessFlags := 9, nameIndex := 327, descriptorIndex := 328, attributes := #[] }, { accessFlags := 9, nameIndex := 392, descriptorIndex := 74, attributes := #[] }, { accessFlags := 9, nameIndex := 69, descriptorIndex := 70, attributes := #[] }, { accessFlags := 9, nameIndex := 175, descriptorIndex := 99, attributes := #[] }] 48 6 #[] #[{ accessFlags := 26, nameIndex := 61, descriptorIndex := 62, attributes := #[] }, { accessFlags := 26, nameIndex := 65, descriptorIndex := 62, attributes := #[] }, { accessFlags := 24, nameIndex := 430, descriptorIndex := 62, attributes := #[] }, { accessFlags := 4120, nameIndex := 46, descriptorIndex := 47, attributes := #[] }])
  fields := #[{ name := "HI_BYTE_SHIFT", type := .int, accessFlags := 26, slot := 0, constantValue := 0 }, { name := "LO_BYTE_SHIFT", type := .int, accessFlags := 26, slot := 1, constantValue := 0 }, { name := "MAX_LENGTH", type := .int, accessFlags := 24, slot := 2, constantValue := 0 }, { name := "$assertionsDisabled", type := .boolean, accessFlags := 4120, slot := 3, constantValue := 0 }]
  methods := #[k10m0, k10m1, k10m2, k10m3, k10m4, k10m5, k10m6, k10m7, k10m8, k10m9, k10m10, k10m11, k10m12, k10m13, k10m14, k10m15]
  instanceTypes := #[]
  staticTypes := #[.int, .int, .int, .boolean]
  resolved := Array.replicate 635 none
  statics := some 2 }

def pool11 : Array CpInfo := pool [(1, .class_ 2), (0, u "java/lang/String"), (1, .class_ 6), (1, u "java/lang/Object"), (0, u "<init>"), (0, u "()V"), (0, .methodref 1 10), (0, .nameAndType 11 12), (0, u "checkIndex"), (0, u "(II)V"), (1, .class_ 16), (1, u "java/lang/StringLatin1"), (36, u "([BI)C"), (58, .methodref 1 113), (0, .nameAndType 7 114), (0, u "([BB)V"), (6, u "$assertionsDisabled"), (0, u "Z"), (8, .class_ 133), (1, u "java/util/Arrays"), (17, .string 152), (0, u ""), (43, u "newString"), (0, u "([BII)Ljava/lang/String;"), (23, .class_ 223), (1, u "java/lang/StringLatin1$LinesSpliterator"), (8, .methodref 131 233), (0, .nameAndType 234 235), (0, u "copyOfRange"), (0, u "([BII)[B"), (16, u "charAt"), (137, .class_ 391), (0, u "java/lang/StringLatin1$CharsSpliterator")] 3

def k11m0 : Method := { name := "<init>", desc := "()V", sig := { parameters := [], returnType := none }, accessFlags := 0, code := none }
def k11c1 : Code := { maxStack := 2, maxLocals := 2, code := jdk_43_method_2_code, exceptionTable := #[], attributes := #[] }
def k11m1 : Method := { name := "charAt", desc := "([BI)C", sig := { parameters := [(.array .byte), .int], returnType := some .char }, accessFlags := 9, code := some k11c1 }
def k11c2 : Code := { maxStack := 6, maxLocals := 3, code := jdk_43_method_47_code, exceptionTable := #[], attributes := #[] }
def k11m2 : Method := { name := "newString", desc := "([BII)Ljava/lang/String;", sig := { parameters := [(.array .byte), .int, .int], returnType := some (.object "java/lang/String") }, accessFlags := 9, code := some k11c2 }
/-- java/lang/StringLatin1 -/
def k11 : Class := { plain "java/lang/StringLatin1" (some 0) with
  accessFlags := 48
  interfaces := #[]
  cf := some (fileOf pool11 14 #[.nestMembers #[390, 221]] #[{ accessFlags := 0, nameIndex := 7, descriptorIndex := 8, attributes := #[] }, { accessFlags := 9, nameIndex := 252, descriptorIndex := 53, attributes := #[] }, { accessFlags := 9, nameIndex := 196, descriptorIndex := 197, attributes := #[] }] 48 4 #[] #[{ accessFlags := 4120, nameIndex := 121, descriptorIndex := 122, attributes := #[] }])
  fields := #[{ name := "$assertionsDisabled", type := .boolean, accessFlags := 4120, slot := 0, constantValue := 0 }]
  methods := #[k11m0, k11m1, k11m2]
  instanceTypes := #[]
  staticTypes := #[.boolean]
  resolved := Array.replicate 395 none
  statics := none }

def pool12 : Array CpInfo := pool [(2, .class_ 4), (1, u "java/lang/Object"), (0, u "<init>"), (0, u "()V"), (7, .class_ 16), (1, u "java/util/Arrays"), (57, .class_ 76), (1, u "java/util/Arrays$NaturalOrder"), (36, .class_ 115), (1, u "java/util/Arrays$LegacyMergeSort"), (1, u "Z"), (21, u "copyOfRange"), (10, .methodref 151 152), (0, .class_ 153), (0, .nameAndType 154 155), (0, u "java/lang/System"), (0, u "arraycopy"), (0, u "(Ljava/lang/Object;ILjava/lang/Object;II)V"), (148, .methodref 305 306), (0, .class_ 307), (0, .nameAndType 308 309), (0, u "java/lang/Math"), (0, u "min"), (0, u "(II)I"), (29, .methodref 14 340), (0, .nameAndType 341 342), (0, u "copyOfRangeByte"), (0, u "([BII)[B"), (0, .methodref 14 344), (0, .nameAndType 345 346), (0, u "checkLength"), (0, u "(II)V"), (28, .class_ 376), (0, u "java/util/Arrays$ArrayList"), (68, u "$assertionsDisabled"), (269, u "MIN_ARRAY_SORT_GRAN"), (0, u "I"), (2, u "INSERTIONSORT_THRESHOLD"), (255, .class_ 976), (0, u "java/util/Arrays$ArrayItr")] 52

def k12m0 : Method := { name := "<init>", desc := "()V", sig := { parameters := [], returnType := none }, accessFlags := 2, code := none }
def k12c1 : Code := { maxStack := 4, maxLocals := 2, code := jdk_65_method_131_code, exceptionTable := #[], attributes := #[] }
def k12m1 : Method := { name := "checkLength", desc := "(II)V", sig := { parameters := [.int, .int], returnType := none }, accessFlags := 10, code := some k12c1 }
def k12c2 : Code := { maxStack := 3, maxLocals := 3, code := jdk_65_method_132_code, exceptionTable := #[], attributes := #[] }
def k12m2 : Method := { name := "copyOfRange", desc := "([BII)[B", sig := { parameters := [(.array .byte), .int, .int], returnType := some (.array .byte) }, accessFlags := 9, code := some k12c2 }
def k12c3 : Code := { maxStack := 6, maxLocals := 5, code := jdk_65_method_133_code, exceptionTable := #[], attributes := #[] }
def k12m3 : Method := { name := "copyOfRangeByte", desc := "([BII)[B", sig := { parameters := [(.array .byte), .int, .int], returnType := some (.array .byte) }, accessFlags := 10, code := some k12c3 }
/-- java/util/Arrays -/
def k12 : Class := { plain "java/util/Arrays" (some 0) with
  accessFlags := 49
  interfaces := #[]
  cf := some (fileOf pool12 14 #[.nestMembers #[975, 375, 113, 74]] #[{ accessFlags := 2, nameIndex := 5, descriptorIndex := 6, attributes := #[] }, { accessFlags := 10, nameIndex := 345, descriptorIndex := 346, attributes := #[] }, { accessFlags := 9, nameIndex := 139, descriptorIndex := 342, attributes := #[] }, { accessFlags := 10, nameIndex := 341, descriptorIndex := 342, attributes := #[] }] 49 2 #[] #[{ accessFlags := 26, nameIndex := 715, descriptorIndex := 716, attributes := #[] }, { accessFlags := 26, nameIndex := 719, descriptorIndex := 716, attributes := #[] }, { accessFlags := 4120, nameIndex := 445, descriptorIndex := 117, attributes := #[] }])
  fields := #[{ name := "MIN_ARRAY_SORT_GRAN", type := .int, accessFlags := 26, slot := 0, constantValue := 0 }, { name := "INSERTIONSORT_THRESHOLD", type := .int, accessFlags := 26, slot := 1, constantValue := 0 }, { name := "$assertionsDisabled", type := .boolean, accessFlags := 4120, slot := 2, constantValue := 0 }]
  methods := #[k12m0, k12m1, k12m2, k12m3]
  instanceTypes := #[]
  staticTypes := #[.int, .int, .boolean]
  resolved := Array.replicate 1029 none
  statics := none }

def pool13 : Array CpInfo := pool [(1, .class_ 2), (0, u "java/lang/Math"), (1, .class_ 6), (1, u "java/lang/Object"), (0, u "<init>"), (0, u "()V"), (89, .class_ 100), (1, u "java/lang/Math$RandomNumberGeneratorHolder"), (71, u "negativeZeroFloatBits"), (0, u "J"), (2, u "negativeZeroDoubleBits"), (24, u "min"), (43, u "$assertionsDisabled"), (0, u "Z"), (88, u "(II)I"), (2, u "twoToTheDoubleScaleDown"), (0, u "D"), (4, u "twoToTheDoubleScaleUp"), (9, u "E"), (3, u "PI"), (2, u "TAU"), (2, u "DEGREES_TO_RADIANS"), (0, u "RADIANS_TO_DEGREES")] 94

def k13m0 : Method := { name := "<init>", desc := "()V", sig := { parameters := [], returnType := none }, accessFlags := 2, code := none }
def k13c1 : Code := { maxStack := 2, maxLocals := 2, code := jdk_29_method_69_code, exceptionTable := #[], attributes := #[] }
def k13m1 : Method := { name := "min", desc := "(II)I", sig := { parameters := [.int, .int], returnType := some .int }, accessFlags := 9, code := some k13c1 }
/-- java/lang/Math -/
def k13 : Class := { plain "java/lang/Math" (some 0) with
  accessFlags := 49
  interfaces := #[]
  cf := some (fileOf pool13 1 #[.nestMembers #[98]] #[{ accessFlags := 2, nameIndex := 7, descriptorIndex := 8, attributes := #[] }, { accessFlags := 9, nameIndex := 201, descriptorIndex := 335, attributes := #[] }] 49 4 #[] #[{ accessFlags := 25, nameIndex := 354, descriptorIndex := 339, attributes := #[] }, { accessFlags := 25, nameIndex := 358, descriptorIndex := 339, attributes := #[] }, { accessFlags := 25, nameIndex := 361, descriptorIndex := 339, attributes := #[] }, { accessFlags := 26, nameIndex := 364, descriptorIndex := 339, attributes := #[] }, { accessFlags := 26, nameIndex := 365, descriptorIndex := 339, attributes := #[] }, { accessFlags := 26, nameIndex := 172, descriptorIndex := 173, attributes := #[] }, { accessFlags := 26, nameIndex := 176, descriptorIndex := 173, attributes := #[] }, { accessFlags := 8, nameIndex := 344, descriptorIndex := 339, attributes := #[] }, { accessFlags := 8, nameIndex := 338, descriptorIndex := 339, attributes := #[] }, { accessFlags := 4120, nameIndex := 245, descriptorIndex := 246, attributes := #[] }])
  fields := #[{ name := "E", type := .double, accessFlags := 25, slot := 0, constantValue := 0 }, { name := "PI", type := .double, accessFlags := 25, slot := 1, constantValue := 0 }, { name := "TAU", type := .double, accessFlags := 25, slot := 2, constantValue := 0 }, { name := "DEGREES_TO_RADIANS", type := .double, accessFlags := 26, slot := 3, constantValue := 0 }, { name := "RADIANS_TO_DEGREES", type := .double, accessFlags := 26, slot := 4, constantValue := 0 }, { name := "negativeZeroFloatBits", type := .long, accessFlags := 26, slot := 5, constantValue := 0 }, { name := "negativeZeroDoubleBits", type := .long, accessFlags := 26, slot := 6, constantValue := 0 }, { name := "twoToTheDoubleScaleUp", type := .double, accessFlags := 8, slot := 7, constantValue := 0 }, { name := "twoToTheDoubleScaleDown", type := .double, accessFlags := 8, slot := 8, constantValue := 0 }, { name := "$assertionsDisabled", type := .boolean, accessFlags := 4120, slot := 9, constantValue := 0 }]
  methods := #[k13m0, k13m1]
  instanceTypes := #[]
  staticTypes := #[.double, .double, .double, .double, .double, .long, .long, .double, .double, .boolean]
  resolved := Array.replicate 460 none
  statics := none }

def pool14 : Array CpInfo := pool [(2, .class_ 4), (1, u "java/lang/Object"), (0, u "<init>"), (0, u "()V"), (1, .class_ 10), (1, u "java/lang/System"), (0, u "allowSecurityManager"), (0, u "I"), (16, u "cons"), (0, u "Ljava/io/Console;"), (77, .class_ 110), (1, u "java/lang/System$CallersHolder"), (43, u "initialErrStream"), (0, u "Ljava/io/PrintStream;"), (19, u "security"), (0, u "Ljava/lang/SecurityManager;"), (31, .class_ 209), (0, u "java/lang/System$1"), (7, u "props"), (0, u "Ljava/util/Properties;"), (2, u "lineSeparator"), (0, u "Ljava/lang/String;"), (96, .class_ 321), (1, u "java/lang/System$LoggerFinder"), (5, .class_ 328), (0, u "java/lang/System$Logger"), (67, u "err"), (2, u "out"), (91, u "notSupportedJnuEncoding"), (15, u "in"), (17, u "initialIn"), (0, u "Ljava/io/InputStream;"), (35, u "bootLayer"), (0, u "Ljava/lang/ModuleLayer;"), (99, .class_ 664), (0, u "java/lang/System$2"), (9, u "NEVER"), (2, u "MAYBE"), (49, u "arraycopy"), (0, u "(Ljava/lang/Object;ILjava/lang/Object;II)V"), (72, .class_ 802), (0, u "java/lang/System$Logger$Level")] 31

def k14m0 : Method := { name := "<init>", desc := "()V", sig := { parameters := [], returnType := none }, accessFlags := 2, code := none }
def k14m1 : Method := { name := "arraycopy", desc := "(Ljava/lang/Object;ILjava/lang/Object;II)V", sig := { parameters := [(.object "java/lang/Object"), .int, (.object "java/lang/Object"), .int, .int], returnType := none }, accessFlags := 265, code := none }
/-- java/lang/System -/
def k14 : Class := { plain "java/lang/System" (some 0) with
  accessFlags := 49
  interfaces := #[]
  cf := some (fileOf pool14 8 #[.nestMembers #[319, 327, 801, 108, 663, 208]] #[{ accessFlags := 2, nameIndex := 5, descriptorIndex := 6, attributes := #[] }, { accessFlags := 265, nameIndex := 727, descriptorIndex := 728, attributes := #[] }] 49 2 #[] #[{ accessFlags := 25, nameIndex := 507, descriptorIndex := 526, attributes := #[] }, { accessFlags := 25, nameIndex := 399, descriptorIndex := 155, attributes := #[] }, { accessFlags := 25, nameIndex := 396, descriptorIndex := 155, attributes := #[] }, { accessFlags := 10, nameIndex := 525, descriptorIndex := 526, attributes := #[] }, { accessFlags := 26, nameIndex := 674, descriptorIndex := 12, attributes := #[] }, { accessFlags := 26, nameIndex := 677, descriptorIndex := 12, attributes := #[] }, { accessFlags := 10, nameIndex := 11, descriptorIndex := 12, attributes := #[] }, { accessFlags := 74, nameIndex := 175, descriptorIndex := 176, attributes := #[] }, { accessFlags := 10, nameIndex := 491, descriptorIndex := 222, attributes := #[] }, { accessFlags := 74, nameIndex := 29, descriptorIndex := 30, attributes := #[] }, { accessFlags := 74, nameIndex := 154, descriptorIndex := 155, attributes := #[] }, { accessFlags := 10, nameIndex := 217, descriptorIndex := 218, attributes := #[] }, { accessFlags := 10, nameIndex := 221, descriptorIndex := 222, attributes := #[] }, { accessFlags := 8, nameIndex := 562, descriptorIndex := 563, attributes := #[] }])
  fields := #[{ name := "in", type := (.object "java/io/InputStream"), accessFlags := 25, slot := 0, constantValue := 0 }, { name := "out", type := (.object "java/io/PrintStream"), accessFlags := 25, slot := 1, constantValue := 0 }, { name := "err", type := (.object "java/io/PrintStream"), accessFlags := 25, slot := 2, constantValue := 0 }, { name := "initialIn", type := (.object "java/io/InputStream"), accessFlags := 10, slot := 3, constantValue := 0 }, { name := "NEVER", type := .int, accessFlags := 26, slot := 4, constantValue := 0 }, { name := "MAYBE", type := .int, accessFlags := 26, slot := 5, constantValue := 0 }, { name := "allowSecurityManager", type := .int, accessFlags := 10, slot := 6, constantValue := 0 }, { name := "security", type := (.object "java/lang/SecurityManager"), accessFlags := 74, slot := 7, constantValue := 0 }, { name := "notSupportedJnuEncoding", type := (.object "java/lang/String"), accessFlags := 10, slot := 8, constantValue := 0 }, { name := "cons", type := (.object "java/io/Console"), accessFlags := 74, slot := 9, constantValue := 0 }, { name := "initialErrStream", type := (.object "java/io/PrintStream"), accessFlags := 74, slot := 10, constantValue := 0 }, { name := "props", type := (.object "java/util/Properties"), accessFlags := 10, slot := 11, constantValue := 0 }, { name := "lineSeparator", type := (.object "java/lang/String"), accessFlags := 10, slot := 12, constantValue := 0 }, { name := "bootLayer", type := (.object "java/lang/ModuleLayer"), accessFlags := 8, slot := 13, constantValue := 0 }]
  methods := #[k14m0, k14m1]
  instanceTypes := #[]
  staticTypes := #[(.object "java/io/InputStream"), (.object "java/io/PrintStream"), (.object "java/io/PrintStream"), (.object "java/io/InputStream"), .int, .int, .int, (.object "java/lang/SecurityManager"), (.object "java/lang/String"), (.object "java/io/Console"), (.object "java/io/PrintStream"), (.object "java/util/Properties"), (.object "java/lang/String"), (.object "java/lang/ModuleLayer")]
  resolved := Array.replicate 834 none
  statics := none }

def pool15 : Array CpInfo := pool [(9, u "<init>"), (6, .class_ 18), (1, u "java/lang/Object"), (0, u "()V"), (1, .class_ 23), (1, u "jdk/internal/util/ArraysSupport"), (0, u "LOG2_ARRAY_LONG_INDEX_SCALE"), (0, u "I"), (2, u "U"), (0, u "Ljdk/internal/misc/Unsafe;"), (8, u "BIG_ENDIAN"), (0, u "Z"), (8, u "LOG2_BYTE_BIT_SIZE"), (4, u "LOG2_ARRAY_INT_INDEX_SCALE"), (54, u "JLA"), (0, u "Ljdk/internal/access/JavaLangAccess;"), (11, u "LOG2_ARRAY_BOOLEAN_INDEX_SCALE"), (9, u "LOG2_ARRAY_BYTE_INDEX_SCALE"), (5, u "LOG2_ARRAY_CHAR_INDEX_SCALE"), (5, u "LOG2_ARRAY_SHORT_INDEX_SCALE"), (18, u "LOG2_ARRAY_FLOAT_INDEX_SCALE"), (24, u "LOG2_ARRAY_DOUBLE_INDEX_SCALE"), (89, u "T_BOOLEAN"), (2, u "T_CHAR"), (1, u "T_FLOAT"), (1, u "T_DOUBLE"), (1, u "T_BYTE"), (1, u "T_SHORT"), (1, u "T_INT"), (1, u "T_LONG"), (1, u "SOFT_MAX_ARRAY_LENGTH")] 83

def k15m0 : Method := { name := "<init>", desc := "()V", sig := { parameters := [], returnType := none }, accessFlags := 2, code := none }
/-- jdk/internal/util/ArraysSupport -/
def k15 : Class := { plain "jdk/internal/util/ArraysSupport" (some 0) with
  accessFlags := 33
  interfaces := #[]
  cf := some (fileOf pool15 21 #[] #[{ accessFlags := 2, nameIndex := 9, descriptorIndex := 19, attributes := #[] }] 33 16 #[] #[{ accessFlags := 24, nameIndex := 28, descriptorIndex := 29, attributes := #[] }, { accessFlags := 26, nameIndex := 38, descriptorIndex := 39, attributes := #[] }, { accessFlags := 25, nameIndex := 121, descriptorIndex := 25, attributes := #[] }, { accessFlags := 25, nameIndex := 131, descriptorIndex := 25, attributes := #[] }, { accessFlags := 25, nameIndex := 137, descriptorIndex := 25, attributes := #[] }, { accessFlags := 25, nameIndex := 143, descriptorIndex := 25, attributes := #[] }, { accessFlags := 25, nameIndex := 53, descriptorIndex := 25, attributes := #[] }, { accessFlags := 25, nameIndex := 24, descriptorIndex := 25, attributes := #[] }, { accessFlags := 25, nameIndex := 162, descriptorIndex := 25, attributes := #[] }, { accessFlags := 25, nameIndex := 187, descriptorIndex := 25, attributes := #[] }, { accessFlags := 26, nameIndex := 48, descriptorIndex := 25, attributes := #[] }, { accessFlags := 25, nameIndex := 277, descriptorIndex := 25, attributes := #[] }, { accessFlags := 25, nameIndex := 280, descriptorIndex := 25, attributes := #[] }, { accessFlags := 25, nameIndex := 282, descriptorIndex := 25, attributes := #[] }, { accessFlags := 25, nameIndex := 284, descriptorIndex := 25, attributes := #[] }, { accessFlags := 25, nameIndex := 286, descriptorIndex := 25, attributes := #[] }, { accessFlags := 25, nameIndex := 288, descriptorIndex := 25, attributes := #[] }, { accessFlags := 25, nameIndex := 290, descriptorIndex := 25, attributes := #[] }, { accessFlags := 25, nameIndex := 292, descriptorIndex := 25, attributes := #[] }, { accessFlags := 26, nameIndex := 108, descriptorIndex := 109, attributes := #[] }, { accessFlags := 25, nameIndex := 294, descriptorIndex := 25, attributes := #[] }])
  fields := #[{ name := "U", type := (.object "jdk/internal/misc/Unsafe"), accessFlags := 24, slot := 0, constantValue := 0 }, { name := "BIG_ENDIAN", type := .boolean, accessFlags := 26, slot := 1, constantValue := 0 }, { name := "LOG2_ARRAY_BOOLEAN_INDEX_SCALE", type := .int, accessFlags := 25, slot := 2, constantValue := 0 }, { name := "LOG2_ARRAY_BYTE_INDEX_SCALE", type := .int, accessFlags := 25, slot := 3, constantValue := 0 }, { name := "LOG2_ARRAY_CHAR_INDEX_SCALE", type := .int, accessFlags := 25, slot := 4, constantValue := 0 }, { name := "LOG2_ARRAY_SHORT_INDEX_SCALE", type := .int, accessFlags := 25, slot := 5, constantValue := 0 }, { name := "LOG2_ARRAY_INT_INDEX_SCALE", type := .int, accessFlags := 25, slot := 6, constantValue := 0 }, { name := "LOG2_ARRAY_LONG_INDEX_SCALE", type := .int, accessFlags := 25, slot := 7, constantValue := 0 }, { name := "LOG2_ARRAY_FLOAT_INDEX_SCALE", type := .int, accessFlags := 25, slot := 8, constantValue := 0 }, { name := "LOG2_ARRAY_DOUBLE_INDEX_SCALE", type := .int, accessFlags := 25, slot := 9, constantValue := 0 }, { name := "LOG2_BYTE_BIT_SIZE", type := .int, accessFlags := 26, slot := 10, constantValue := 0 }, { name := "T_BOOLEAN", type := .int, accessFlags := 25, slot := 11, constantValue := 0 }, { name := "T_CHAR", type := .int, accessFlags := 25, slot := 12, constantValue := 0 }, { name := "T_FLOAT", type := .int, accessFlags := 25, slot := 13, constantValue := 0 }, { name := "T_DOUBLE", type := .int, accessFlags := 25, slot := 14, constantValue := 0 }, { name := "T_BYTE", type := .int, accessFlags := 25, slot := 15, constantValue := 0 }, { name := "T_SHORT", type := .int, accessFlags := 25, slot := 16, constantValue := 0 }, { name := "T_INT", type := .int, accessFlags := 25, slot := 17, constantValue := 0 }, { name := "T_LONG", type := .int, accessFlags := 25, slot := 18, constantValue := 0 }, { name := "JLA", type := (.object "jdk/internal/access/JavaLangAccess"), accessFlags := 26, slot := 19, constantValue := 0 }, { name := "SOFT_MAX_ARRAY_LENGTH", type := .int, accessFlags := 25, slot := 20, constantValue := 0 }]
  methods := #[k15m0]
  instanceTypes := #[]
  staticTypes := #[(.object "jdk/internal/misc/Unsafe"), .boolean, .int, .int, .int, .int, .int, .int, .int, .int, .int, .int, .int, .int, .int, .int, .int, .int, .int, (.object "jdk/internal/access/JavaLangAccess"), .int]
  resolved := Array.replicate 378 none
  statics := none }

def pool16 : Array CpInfo := pool [(1, u "java/lang/Cloneable"), (0, .class_ 1), (0, u "java/lang/Object"), (0, .class_ 3)] 3

/-- java/lang/Cloneable -/
def k16 : Class := { plain "java/lang/Cloneable" (some 0) with
  accessFlags := 1537
  interfaces := #[]
  cf := some (fileOf pool16 2 #[] #[] 1537 4 #[] #[])
  fields := #[]
  methods := #[]
  instanceTypes := #[]
  staticTypes := #[]
  resolved := Array.replicate 8 none
  statics := none }

/-- the primitive byte -/
def k17 : Class := { plain "byte" none with kind := .primitive 'B', accessFlags := 0x411 }
/-- [B -/
def k18 : Class := { plain "[B" (some 0) with kind := .array 17 .byte, interfaces := #[16, 2], accessFlags := 1041 }

/-- the primitive char -/
def k19 : Class := { plain "char" none with kind := .primitive 'C', accessFlags := 0x411 }
/-- [C -/
def k20 : Class := { plain "[C" (some 0) with kind := .array 19 .char, interfaces := #[16, 2], accessFlags := 1041 }

/-- the primitive int -/
def k21 : Class := { plain "int" none with kind := .primitive 'I', accessFlags := 0x411 }
/-- [I -/
def k22 : Class := { plain "[I" (some 0) with kind := .array 21 .int, interfaces := #[16, 2], accessFlags := 1041 }

def heap : Heap := #[{ cls := 7, slots := #[.long 0, .int 1, .null, .int 0, .null, .int 0, .int 0], vm := .statics 7 },
  { cls := 9, slots := #[.null, .null, .null], vm := .statics 9 },
  { cls := 10, slots := #[.int 0, .int 8, .int 0, .int 1], vm := .statics 10 }]
def classes : Array Class := #[k0, k1, k2, k3, k4, k5, k6, k7, k8, k9, k10, k11, k12, k13, k14, k15, k16, k17, k18, k19, k20, k21, k22]
def interned : List (Array UInt16 × Addr) := []
def slotsUsed : Nat := 14
def theMethod : MethodId := ⟨1, 4⟩
def args0 : Array Value := #[.int 5, .int 5, .int 5, .int 5, .int 5]
def aboutOver (below : List Frame) : State where
  vm := { classes := classes, interned := interned.toArray }
  heap := heap
  slotsUsed := slotsUsed
  threads := #[{ frames := .invoking theMethod args0 :: below }]
def below0 : List Frame := [.native { method := ⟨0, 0⟩, args := #[] }]
def about1 : State := aboutOver below0
def p0 : Program := .bare "" "" ""
def e0 : Env := launch0.env 0 0 0
theorem w_frames : about1.frames = Frame.invoking theMethod args0 :: below0 := rfl
set_option maxRecDepth 65536 in
theorem w_args : argsFit about1.vm theMethod args0 = true := by decide +kernel
set_option maxRecDepth 65536 in
theorem w_heap : heapFits about1 = true := by decide +kernel
set_option maxRecDepth 65536 in
theorem w_runnable : about1.curStatus? = some .runnable := by decide +kernel
set_option maxRecDepth 65536 in
theorem w_alone : about1.alone = true := by decide +kernel
set_option maxRecDepth 65536 in
theorem w_named : about1.methodNamed? x = some theMethod := by decide +kernel
set_option maxRecDepth 65536 in
theorem w_hears : about1.hears theMethod below0 = true := by decide +kernel
set_option maxRecDepth 65536 in
theorem w_ripe : about1.ripe theMethod args0 below0 = true := by decide +kernel
theorem w_running : about1.status = .running := rfl
set_option maxRecDepth 65536 in
theorem w_room : about1.hasRoom e0.platform room_1 = true :=
  launch0.hasRoom_least _ room_1 (by decide +kernel) (by decide +kernel) (by decide +kernel) (by decide +kernel) (by decide +kernel) (by decide +kernel)
theorem allAtoms_all (ts : List Jvm.Cond) (a : Array Jvm.Value) (st : Jvm.State) : (allAtoms ts).before a st = ts.all (fun c => c.before a st) := by
  induction ts with
  | nil => rfl
  | cons c t ih =>
    show (Jvm.Cond.and c (allAtoms t)).before a st = _
    rw [Jvm.Cond.before_and, ih, List.all_cons]
def words1 : List Jvm.Cond := Jvm.Cond.code x code maxLocals ret :: tables_1
/-- a 'code' word, met by the world's own term for the bytes: nothing is compared byte by byte -/
theorem code_word {y : MethodName} {bytes : ByteArray} {mx : Nat} {rt : Option FieldType} {a : Array Value} {s : State} {m : MethodId} {meth : Method} {c : Code} (h1 : s.methodNamed? y = some m) (h2 : s.vm.method? m = some meth) (h3 : meth.code = some c) (h4 : c.code = bytes)
    (h5 : (c.maxLocals == mx && c.exceptionTable.isEmpty && decide (c.maxStack ≤ mostOperands) && decide (meth.sig.returnType = rt) && !meth.locks && decide (parseMethodDescriptor y.desc = some meth.sig)) = true) : (Jvm.Cond.code y bytes mx rt).before a s = true := by
  simp only [Bool.and_eq_true, beq_iff_eq, Bool.not_eq_true', decide_eq_true_eq] at h5
  obtain ⟨⟨⟨⟨⟨g1, g2⟩, g3⟩, g4⟩, g5⟩, g6⟩ := h5
  simp [Cond.before, Cond.holds, Cond.value, h1, h2, h3, h4, g1, g2, g3, g4, g5, g6]
def isCode : Jvm.Cond → Bool
  | .code _ _ _ _ => true
  | _ => false
theorem all_split {L : List Jvm.Cond} {P : Jvm.Cond → Bool} (h1 : L.all (fun c => isCode c || P c) = true) (h2 : ∀ c ∈ L.filter isCode, P c = true) : L.all P = true := by
  refine List.all_eq_true.mpr fun c hc => ?_
  have h := List.all_eq_true.mp h1 c hc
  rcases Bool.eq_false_or_eq_true (isCode c) with hi | hi
  · exact h2 c (List.mem_filter.mpr ⟨hc, hi⟩)
  · simpa [hi] using h
set_option maxRecDepth 65536 in
theorem w_c0 : (Jvm.Cond.code x code maxLocals ret).before args0 about1 = true := code_word (m := ⟨1, 4⟩) (meth := k1m4) (c := k1c4) (by decide +kernel) rfl rfl rfl (by decide +kernel)
set_option maxRecDepth 65536 in
theorem w_c1 : (Jvm.Cond.code ({ cls := "com/example/handlewright/handlewright/OrderStripBlanksPinLaw", name := "draw", desc := "(I)C" } : Jvm.MethodName) method_2_code (2 : Nat) (Option.some Jvm.ClassFile.FieldType.char)).before args0 about1 = true := code_word (m := ⟨1, 1⟩) (meth := k1m1) (c := k1c1) (by decide +kernel) rfl rfl rfl (by decide +kernel)
set_option maxRecDepth 65536 in
theorem w_c2 : (Jvm.Cond.code ({ cls := "java/lang/String", name := "<init>", desc := "([C)V" } : Jvm.MethodName) jdk_42_method_3_code (2 : Nat) (Option.none : Option Jvm.ClassFile.FieldType)).before args0 about1 = true := code_word (m := ⟨7, 1⟩) (meth := k7m1) (c := k7c1) (by decide +kernel) rfl rfl rfl (by decide +kernel)
set_option maxRecDepth 65536 in
theorem w_c3 : (Jvm.Cond.code ({ cls := "java/lang/String", name := "<init>", desc := "([CIILjava/lang/Void;)V" } : Jvm.MethodName) jdk_42_method_149_code (6 : Nat) (Option.none : Option Jvm.ClassFile.FieldType)).before args0 about1 = true := code_word (m := ⟨7, 5⟩) (meth := k7m5) (c := k7c5) (by decide +kernel) rfl rfl rfl (by decide +kernel)
set_option maxRecDepth 65536 in
theorem w_c4 : (Jvm.Cond.code ({ cls := "java/lang/Object", name := "<init>", desc := "()V" } : Jvm.MethodName) object_method_1_code (1 : Nat) (Option.none : Option Jvm.ClassFile.FieldType)).before args0 about1 = true := code_word (m := ⟨0, 0⟩) (meth := k0m0) (c := k0c0) (by decide +kernel) rfl rfl rfl (by decide +kernel)
set_option maxRecDepth 65536 in
theorem w_c5 : (Jvm.Cond.code ({ cls := "com/example/handlewright/handlewright/Order", name := "stripBlanks", desc := "(Ljava/lang/String;)Ljava/lang/String;" } : Jvm.MethodName) prog_21_method_15_code (3 : Nat) (Option.some (Jvm.ClassFile.FieldType.object "java/lang/String"))).before args0 about1 = true := code_word (m := ⟨8, 1⟩) (meth := k8m1) (c := k8c1) (by decide +kernel) rfl rfl rfl (by decide +kernel)
set_option maxRecDepth 65536 in
theorem w_c6 : (Jvm.Cond.code ({ cls := "java/lang/String", name := "length", desc := "()I" } : Jvm.MethodName) jdk_42_method_54_code (1 : Nat) (Option.some Jvm.ClassFile.FieldType.int)).before args0 about1 = true := code_word (m := ⟨7, 2⟩) (meth := k7m2) (c := k7c2) (by decide +kernel) rfl rfl rfl (by decide +kernel)
set_option maxRecDepth 65536 in
theorem w_c7 : (Jvm.Cond.code ({ cls := "java/lang/String", name := "coder", desc := "()B" } : Jvm.MethodName) jdk_42_method_152_code (1 : Nat) (Option.some Jvm.ClassFile.FieldType.byte)).before args0 about1 = true := code_word (m := ⟨7, 7⟩) (meth := k7m7) (c := k7c7) (by decide +kernel) rfl rfl rfl (by decide +kernel)
set_option maxRecDepth 65536 in
theorem w_c8 : (Jvm.Cond.code ({ cls := "java/lang/String", name := "substring", desc := "(II)Ljava/lang/String;" } : Jvm.MethodName) jdk_42_method_92_code (5 : Nat) (Option.some (Jvm.ClassFile.FieldType.object "java/lang/String"))).before args0 about1 = true := code_word (m := ⟨7, 4⟩) (meth := k7m4) (c := k7c4) (by decide +kernel) rfl rfl rfl (by decide +kernel)
set_option maxRecDepth 65536 in
theorem w_c9 : (Jvm.Cond.code ({ cls := "java/lang/String", name := "checkBoundsBeginEnd", desc := "(III)V" } : Jvm.MethodName) jdk_42_method_158_code (3 : Nat) (Option.none : Option Jvm.ClassFile.FieldType)).before args0 about1 = true := code_word (m := ⟨7, 11⟩) (meth := k7m11) (c := k7c11) (by decide +kernel) rfl rfl rfl (by decide +kernel)
set_option maxRecDepth 65536 in
theorem w_c10 : (Jvm.Cond.code ({ cls := "jdk/internal/util/Preconditions", name := "checkFromToIndex", desc := "(IIILjava/util/function/BiFunction;)I" } : Jvm.MethodName) jdk_41_method_12_code (4 : Nat) (Option.some Jvm.ClassFile.FieldType.int)).before args0 about1 = true := code_word (m := ⟨9, 2⟩) (meth := k9m2) (c := k9c2) (by decide +kernel) rfl rfl rfl (by decide +kernel)
set_option maxRecDepth 65536 in
theorem w_c11 : (Jvm.Cond.code ({ cls := "com/example/handlewright/handlewright/OrderStripBlanksPinLaw", name := "solid", desc := "([CII)Z" } : Jvm.MethodName) method_3_code (3 : Nat) (Option.some Jvm.ClassFile.FieldType.boolean)).before args0 about1 = true := code_word (m := ⟨1, 2⟩) (meth := k1m2) (c := k1c2) (by decide +kernel) rfl rfl rfl (by decide +kernel)
set_option maxRecDepth 65536 in
theorem w_c12 : (Jvm.Cond.code ({ cls := "com/example/handlewright/handlewright/OrderStripBlanksPinLaw", name := "at", desc := "(Ljava/lang/String;I[CII)Z" } : Jvm.MethodName) method_4_code (5 : Nat) (Option.some Jvm.ClassFile.FieldType.boolean)).before args0 about1 = true := code_word (m := ⟨1, 3⟩) (meth := k1m3) (c := k1c3) (by decide +kernel) rfl rfl rfl (by decide +kernel)
set_option maxRecDepth 65536 in
theorem w_c13 : (Jvm.Cond.code ({ cls := "java/lang/StringUTF16", name := "compress", desc := "([CII)[B" } : Jvm.MethodName) jdk_52_method_16_code (6 : Nat) (Option.some (Jvm.ClassFile.FieldType.array Jvm.ClassFile.FieldType.byte))).before args0 about1 = true := code_word (m := ⟨10, 8⟩) (meth := k10m8) (c := k10c8) (by decide +kernel) rfl rfl rfl (by decide +kernel)
set_option maxRecDepth 65536 in
theorem w_c14 : (Jvm.Cond.code ({ cls := "java/lang/StringUTF16", name := "compress", desc := "([CI[BII)I" } : Jvm.MethodName) jdk_52_method_21_code (7 : Nat) (Option.some Jvm.ClassFile.FieldType.int)).before args0 about1 = true := code_word (m := ⟨10, 10⟩) (meth := k10m10) (c := k10c10) (by decide +kernel) rfl rfl rfl (by decide +kernel)
set_option maxRecDepth 65536 in
theorem w_c15 : (Jvm.Cond.code ({ cls := "java/lang/StringUTF16", name := "coderFromArrayLen", desc := "([BI)B" } : Jvm.MethodName) jdk_52_method_15_code (2 : Nat) (Option.some Jvm.ClassFile.FieldType.byte)).before args0 about1 = true := code_word (m := ⟨10, 7⟩) (meth := k10m7) (c := k10c7) (by decide +kernel) rfl rfl rfl (by decide +kernel)
set_option maxRecDepth 65536 in
theorem w_c16 : (Jvm.Cond.code ({ cls := "java/lang/String", name := "charAt", desc := "(I)C" } : Jvm.MethodName) jdk_42_method_56_code (2 : Nat) (Option.some Jvm.ClassFile.FieldType.char)).before args0 about1 = true := code_word (m := ⟨7, 3⟩) (meth := k7m3) (c := k7c3) (by decide +kernel) rfl rfl rfl (by decide +kernel)
set_option maxRecDepth 65536 in
theorem w_c17 : (Jvm.Cond.code ({ cls := "java/lang/String", name := "isLatin1", desc := "()Z" } : Jvm.MethodName) jdk_42_method_154_code (1 : Nat) (Option.some Jvm.ClassFile.FieldType.boolean)).before args0 about1 = true := code_word (m := ⟨7, 8⟩) (meth := k7m8) (c := k7c8) (by decide +kernel) rfl rfl rfl (by decide +kernel)
set_option maxRecDepth 65536 in
theorem w_c18 : (Jvm.Cond.code ({ cls := "java/lang/StringLatin1", name := "charAt", desc := "([BI)C" } : Jvm.MethodName) jdk_43_method_2_code (2 : Nat) (Option.some Jvm.ClassFile.FieldType.char)).before args0 about1 = true := code_word (m := ⟨11, 1⟩) (meth := k11m1) (c := k11c1) (by decide +kernel) rfl rfl rfl (by decide +kernel)
set_option maxRecDepth 65536 in
theorem w_c19 : (Jvm.Cond.code ({ cls := "java/lang/String", name := "checkIndex", desc := "(II)V" } : Jvm.MethodName) jdk_42_method_155_code (2 : Nat) (Option.none : Option Jvm.ClassFile.FieldType)).before args0 about1 = true := code_word (m := ⟨7, 9⟩) (meth := k7m9) (c := k7c9) (by decide +kernel) rfl rfl rfl (by decide +kernel)
set_option maxRecDepth 65536 in
theorem w_c20 : (Jvm.Cond.code ({ cls := "jdk/internal/util/Preconditions", name := "checkIndex", desc := "(IILjava/util/function/BiFunction;)I" } : Jvm.MethodName) jdk_41_method_11_code (3 : Nat) (Option.some Jvm.ClassFile.FieldType.int)).before args0 about1 = true := code_word (m := ⟨9, 1⟩) (meth := k9m1) (c := k9c1) (by decide +kernel) rfl rfl rfl (by decide +kernel)
set_option maxRecDepth 65536 in
theorem w_c21 : (Jvm.Cond.code ({ cls := "com/example/handlewright/handlewright/Order", name := "isBlank", desc := "(C)Z" } : Jvm.MethodName) prog_21_method_16_code (1 : Nat) (Option.some Jvm.ClassFile.FieldType.boolean)).before args0 about1 = true := code_word (m := ⟨8, 2⟩) (meth := k8m2) (c := k8c2) (by decide +kernel) rfl rfl rfl (by decide +kernel)
set_option maxRecDepth 65536 in
theorem w_c22 : (Jvm.Cond.code ({ cls := "java/lang/StringLatin1", name := "newString", desc := "([BII)Ljava/lang/String;" } : Jvm.MethodName) jdk_43_method_47_code (3 : Nat) (Option.some (Jvm.ClassFile.FieldType.object "java/lang/String"))).before args0 about1 = true := code_word (m := ⟨11, 2⟩) (meth := k11m2) (c := k11c2) (by decide +kernel) rfl rfl rfl (by decide +kernel)
set_option maxRecDepth 65536 in
theorem w_c23 : (Jvm.Cond.code ({ cls := "java/util/Arrays", name := "copyOfRange", desc := "([BII)[B" } : Jvm.MethodName) jdk_65_method_132_code (3 : Nat) (Option.some (Jvm.ClassFile.FieldType.array Jvm.ClassFile.FieldType.byte))).before args0 about1 = true := code_word (m := ⟨12, 2⟩) (meth := k12m2) (c := k12c2) (by decide +kernel) rfl rfl rfl (by decide +kernel)
set_option maxRecDepth 65536 in
theorem w_c24 : (Jvm.Cond.code ({ cls := "java/util/Arrays", name := "copyOfRangeByte", desc := "([BII)[B" } : Jvm.MethodName) jdk_65_method_133_code (5 : Nat) (Option.some (Jvm.ClassFile.FieldType.array Jvm.ClassFile.FieldType.byte))).before args0 about1 = true := code_word (m := ⟨12, 3⟩) (meth := k12m3) (c := k12c3) (by decide +kernel) rfl rfl rfl (by decide +kernel)
set_option maxRecDepth 65536 in
theorem w_c25 : (Jvm.Cond.code ({ cls := "java/util/Arrays", name := "checkLength", desc := "(II)V" } : Jvm.MethodName) jdk_65_method_131_code (2 : Nat) (Option.none : Option Jvm.ClassFile.FieldType)).before args0 about1 = true := code_word (m := ⟨12, 1⟩) (meth := k12m1) (c := k12c1) (by decide +kernel) rfl rfl rfl (by decide +kernel)
set_option maxRecDepth 65536 in
theorem w_c26 : (Jvm.Cond.code ({ cls := "java/lang/Math", name := "min", desc := "(II)I" } : Jvm.MethodName) jdk_29_method_69_code (2 : Nat) (Option.some Jvm.ClassFile.FieldType.int)).before args0 about1 = true := code_word (m := ⟨13, 1⟩) (meth := k13m1) (c := k13c1) (by decide +kernel) rfl rfl rfl (by decide +kernel)
set_option maxRecDepth 65536 in
theorem w_c27 : (Jvm.Cond.code ({ cls := "java/lang/String", name := "<init>", desc := "([BB)V" } : Jvm.MethodName) jdk_42_method_151_code (3 : Nat) (Option.none : Option Jvm.ClassFile.FieldType)).before args0 about1 = true := code_word (m := ⟨7, 6⟩) (meth := k7m6) (c := k7c6) (by decide +kernel) rfl rfl rfl (by decide +kernel)
set_option maxRecDepth 65536 in
theorem w_c28 : (Jvm.Cond.code ({ cls := "java/lang/StringUTF16", name := "toBytes", desc := "([CII)[B" } : Jvm.MethodName) jdk_52_method_14_code (5 : Nat) (Option.some (Jvm.ClassFile.FieldType.array Jvm.ClassFile.FieldType.byte))).before args0 about1 = true := code_word (m := ⟨10, 6⟩) (meth := k10m6) (c := k10c6) (by decide +kernel) rfl rfl rfl (by decide +kernel)
set_option maxRecDepth 65536 in
theorem w_c29 : (Jvm.Cond.code ({ cls := "java/lang/StringUTF16", name := "newBytesFor", desc := "(I)[B" } : Jvm.MethodName) jdk_52_method_2_code (1 : Nat) (Option.some (Jvm.ClassFile.FieldType.array Jvm.ClassFile.FieldType.byte))).before args0 about1 = true := code_word (m := ⟨10, 1⟩) (meth := k10m1) (c := k10c1) (by decide +kernel) rfl rfl rfl (by decide +kernel)
set_option maxRecDepth 65536 in
theorem w_c30 : (Jvm.Cond.code ({ cls := "java/lang/StringUTF16", name := "newBytesLength", desc := "(I)I" } : Jvm.MethodName) jdk_52_method_3_code (1 : Nat) (Option.some Jvm.ClassFile.FieldType.int)).before args0 about1 = true := code_word (m := ⟨10, 2⟩) (meth := k10m2) (c := k10c2) (by decide +kernel) rfl rfl rfl (by decide +kernel)
set_option maxRecDepth 65536 in
theorem w_c31 : (Jvm.Cond.code ({ cls := "java/lang/StringUTF16", name := "putChar", desc := "([BII)V" } : Jvm.MethodName) jdk_52_method_4_code (3 : Nat) (Option.none : Option Jvm.ClassFile.FieldType)).before args0 about1 = true := code_word (m := ⟨10, 3⟩) (meth := k10m3) (c := k10c3) (by decide +kernel) rfl rfl rfl (by decide +kernel)
set_option maxRecDepth 65536 in
theorem w_c32 : (Jvm.Cond.code ({ cls := "java/lang/StringUTF16", name := "getChar", desc := "([BI)C" } : Jvm.MethodName) jdk_52_method_5_code (2 : Nat) (Option.some Jvm.ClassFile.FieldType.char)).before args0 about1 = true := code_word (m := ⟨10, 4⟩) (meth := k10m4) (c := k10c4) (by decide +kernel) rfl rfl rfl (by decide +kernel)
set_option maxRecDepth 65536 in
theorem w_c33 : (Jvm.Cond.code ({ cls := "java/lang/StringUTF16", name := "charAt", desc := "([BI)C" } : Jvm.MethodName) jdk_52_method_83_code (2 : Nat) (Option.some Jvm.ClassFile.FieldType.char)).before args0 about1 = true := code_word (m := ⟨10, 13⟩) (meth := k10m13) (c := k10c13) (by decide +kernel) rfl rfl rfl (by decide +kernel)
set_option maxRecDepth 65536 in
theorem w_c34 : (Jvm.Cond.code ({ cls := "java/lang/StringUTF16", name := "checkIndex", desc := "(I[B)V" } : Jvm.MethodName) jdk_52_method_91_code (2 : Nat) (Option.none : Option Jvm.ClassFile.FieldType)).before args0 about1 = true := code_word (m := ⟨10, 14⟩) (meth := k10m14) (c := k10c14) (by decide +kernel) rfl rfl rfl (by decide +kernel)
set_option maxRecDepth 65536 in
theorem w_c35 : (Jvm.Cond.code ({ cls := "java/lang/StringUTF16", name := "length", desc := "([B)I" } : Jvm.MethodName) jdk_52_method_6_code (1 : Nat) (Option.some Jvm.ClassFile.FieldType.int)).before args0 about1 = true := code_word (m := ⟨10, 5⟩) (meth := k10m5) (c := k10c5) (by decide +kernel) rfl rfl rfl (by decide +kernel)
set_option maxRecDepth 65536 in
theorem w_c36 : (Jvm.Cond.code ({ cls := "java/lang/StringUTF16", name := "newString", desc := "([BII)Ljava/lang/String;" } : Jvm.MethodName) jdk_52_method_69_code (5 : Nat) (Option.some (Jvm.ClassFile.FieldType.object "java/lang/String"))).before args0 about1 = true := code_word (m := ⟨10, 12⟩) (meth := k10m12) (c := k10c12) (by decide +kernel) rfl rfl rfl (by decide +kernel)
set_option maxRecDepth 65536 in
theorem w_c37 : (Jvm.Cond.code ({ cls := "java/lang/StringUTF16", name := "compress", desc := "([BII)[B" } : Jvm.MethodName) jdk_52_method_17_code (6 : Nat) (Option.some (Jvm.ClassFile.FieldType.array Jvm.ClassFile.FieldType.byte))).before args0 about1 = true := code_word (m := ⟨10, 9⟩) (meth := k10m9) (c := k10c9) (by decide +kernel) rfl rfl rfl (by decide +kernel)
set_option maxRecDepth 65536 in
theorem w_c38 : (Jvm.Cond.code ({ cls := "java/lang/StringUTF16", name := "compress", desc := "([BI[BII)I" } : Jvm.MethodName) jdk_52_method_22_code (7 : Nat) (Option.some Jvm.ClassFile.FieldType.int)).before args0 about1 = true := code_word (m := ⟨10, 11⟩) (meth := k10m11) (c := k10c11) (by decide +kernel) rfl rfl rfl (by decide +kernel)
set_option maxRecDepth 65536 in
theorem w_c39 : (Jvm.Cond.code ({ cls := "java/lang/StringUTF16", name := "checkBoundsOffCount", desc := "(II[B)V" } : Jvm.MethodName) jdk_52_method_94_code (3 : Nat) (Option.none : Option Jvm.ClassFile.FieldType)).before args0 about1 = true := code_word (m := ⟨10, 15⟩) (meth := k10m15) (c := k10c15) (by decide +kernel) rfl rfl rfl (by decide +kernel)
set_option maxRecDepth 65536 in
theorem w_c40 : (Jvm.Cond.code ({ cls := "java/lang/String", name := "checkBoundsOffCount", desc := "(III)I" } : Jvm.MethodName) jdk_42_method_157_code (3 : Nat) (Option.some Jvm.ClassFile.FieldType.int)).before args0 about1 = true := code_word (m := ⟨7, 10⟩) (meth := k7m10) (c := k7c10) (by decide +kernel) rfl rfl rfl (by decide +kernel)
set_option maxRecDepth 65536 in
theorem w_c41 : (Jvm.Cond.code ({ cls := "jdk/internal/util/Preconditions", name := "checkFromIndexSize", desc := "(IIILjava/util/function/BiFunction;)I" } : Jvm.MethodName) jdk_41_method_13_code (4 : Nat) (Option.some Jvm.ClassFile.FieldType.int)).before args0 about1 = true := code_word (m := ⟨9, 3⟩) (meth := k9m3) (c := k9c3) (by decide +kernel) rfl rfl rfl (by decide +kernel)
def codes1 : List Jvm.Cond := [Jvm.Cond.code x code maxLocals ret, Jvm.Cond.code ({ cls := "com/example/handlewright/handlewright/OrderStripBlanksPinLaw", name := "draw", desc := "(I)C" } : Jvm.MethodName) method_2_code (2 : Nat) (Option.some Jvm.ClassFile.FieldType.char), Jvm.Cond.code ({ cls := "java/lang/String", name := "<init>", desc := "([C)V" } : Jvm.MethodName) jdk_42_method_3_code (2 : Nat) (Option.none : Option Jvm.ClassFile.FieldType), Jvm.Cond.code ({ cls := "java/lang/String", name := "<init>", desc := "([CIILjava/lang/Void;)V" } : Jvm.MethodName) jdk_42_method_149_code (6 : Nat) (Option.none : Option Jvm.ClassFile.FieldType), Jvm.Cond.code ({ cls := "java/lang/Object", name := "<init>", desc := "()V" } : Jvm.MethodName) object_method_1_code (1 : Nat) (Option.none : Option Jvm.ClassFile.FieldType), Jvm.Cond.code ({ cls := "com/example/handlewright/handlewright/Order", name := "stripBlanks", desc := "(Ljava/lang/String;)Ljava/lang/String;" } : Jvm.MethodName) prog_21_method_15_code (3 : Nat) (Option.some (Jvm.ClassFile.FieldType.object "java/lang/String")), Jvm.Cond.code ({ cls := "java/lang/String", name := "length", desc := "()I" } : Jvm.MethodName) jdk_42_method_54_code (1 : Nat) (Option.some Jvm.ClassFile.FieldType.int), Jvm.Cond.code ({ cls := "java/lang/String", name := "coder", desc := "()B" } : Jvm.MethodName) jdk_42_method_152_code (1 : Nat) (Option.some Jvm.ClassFile.FieldType.byte), Jvm.Cond.code ({ cls := "java/lang/String", name := "substring", desc := "(II)Ljava/lang/String;" } : Jvm.MethodName) jdk_42_method_92_code (5 : Nat) (Option.some (Jvm.ClassFile.FieldType.object "java/lang/String")), Jvm.Cond.code ({ cls := "java/lang/String", name := "checkBoundsBeginEnd", desc := "(III)V" } : Jvm.MethodName) jdk_42_method_158_code (3 : Nat) (Option.none : Option Jvm.ClassFile.FieldType), Jvm.Cond.code ({ cls := "jdk/internal/util/Preconditions", name := "checkFromToIndex", desc := "(IIILjava/util/function/BiFunction;)I" } : Jvm.MethodName) jdk_41_method_12_code (4 : Nat) (Option.some Jvm.ClassFile.FieldType.int), Jvm.Cond.code ({ cls := "com/example/handlewright/handlewright/OrderStripBlanksPinLaw", name := "solid", desc := "([CII)Z" } : Jvm.MethodName) method_3_code (3 : Nat) (Option.some Jvm.ClassFile.FieldType.boolean), Jvm.Cond.code ({ cls := "com/example/handlewright/handlewright/OrderStripBlanksPinLaw", name := "at", desc := "(Ljava/lang/String;I[CII)Z" } : Jvm.MethodName) method_4_code (5 : Nat) (Option.some Jvm.ClassFile.FieldType.boolean), Jvm.Cond.code ({ cls := "java/lang/StringUTF16", name := "compress", desc := "([CII)[B" } : Jvm.MethodName) jdk_52_method_16_code (6 : Nat) (Option.some (Jvm.ClassFile.FieldType.array Jvm.ClassFile.FieldType.byte)), Jvm.Cond.code ({ cls := "java/lang/StringUTF16", name := "compress", desc := "([CI[BII)I" } : Jvm.MethodName) jdk_52_method_21_code (7 : Nat) (Option.some Jvm.ClassFile.FieldType.int), Jvm.Cond.code ({ cls := "java/lang/StringUTF16", name := "coderFromArrayLen", desc := "([BI)B" } : Jvm.MethodName) jdk_52_method_15_code (2 : Nat) (Option.some Jvm.ClassFile.FieldType.byte), Jvm.Cond.code ({ cls := "java/lang/String", name := "charAt", desc := "(I)C" } : Jvm.MethodName) jdk_42_method_56_code (2 : Nat) (Option.some Jvm.ClassFile.FieldType.char), Jvm.Cond.code ({ cls := "java/lang/String", name := "isLatin1", desc := "()Z" } : Jvm.MethodName) jdk_42_method_154_code (1 : Nat) (Option.some Jvm.ClassFile.FieldType.boolean), Jvm.Cond.code ({ cls := "java/lang/StringLatin1", name := "charAt", desc := "([BI)C" } : Jvm.MethodName) jdk_43_method_2_code (2 : Nat) (Option.some Jvm.ClassFile.FieldType.char), Jvm.Cond.code ({ cls := "java/lang/String", name := "checkIndex", desc := "(II)V" } : Jvm.MethodName) jdk_42_method_155_code (2 : Nat) (Option.none : Option Jvm.ClassFile.FieldType), Jvm.Cond.code ({ cls := "jdk/internal/util/Preconditions", name := "checkIndex", desc := "(IILjava/util/function/BiFunction;)I" } : Jvm.MethodName) jdk_41_method_11_code (3 : Nat) (Option.some Jvm.ClassFile.FieldType.int), Jvm.Cond.code ({ cls := "com/example/handlewright/handlewright/Order", name := "isBlank", desc := "(C)Z" } : Jvm.MethodName) prog_21_method_16_code (1 : Nat) (Option.some Jvm.ClassFile.FieldType.boolean), Jvm.Cond.code ({ cls := "java/lang/StringLatin1", name := "newString", desc := "([BII)Ljava/lang/String;" } : Jvm.MethodName) jdk_43_method_47_code (3 : Nat) (Option.some (Jvm.ClassFile.FieldType.object "java/lang/String")), Jvm.Cond.code ({ cls := "java/util/Arrays", name := "copyOfRange", desc := "([BII)[B" } : Jvm.MethodName) jdk_65_method_132_code (3 : Nat) (Option.some (Jvm.ClassFile.FieldType.array Jvm.ClassFile.FieldType.byte)), Jvm.Cond.code ({ cls := "java/util/Arrays", name := "copyOfRangeByte", desc := "([BII)[B" } : Jvm.MethodName) jdk_65_method_133_code (5 : Nat) (Option.some (Jvm.ClassFile.FieldType.array Jvm.ClassFile.FieldType.byte)), Jvm.Cond.code ({ cls := "java/util/Arrays", name := "checkLength", desc := "(II)V" } : Jvm.MethodName) jdk_65_method_131_code (2 : Nat) (Option.none : Option Jvm.ClassFile.FieldType), Jvm.Cond.code ({ cls := "java/lang/Math", name := "min", desc := "(II)I" } : Jvm.MethodName) jdk_29_method_69_code (2 : Nat) (Option.some Jvm.ClassFile.FieldType.int), Jvm.Cond.code ({ cls := "java/lang/String", name := "<init>", desc := "([BB)V" } : Jvm.MethodName) jdk_42_method_151_code (3 : Nat) (Option.none : Option Jvm.ClassFile.FieldType), Jvm.Cond.code ({ cls := "java/lang/StringUTF16", name := "toBytes", desc := "([CII)[B" } : Jvm.MethodName) jdk_52_method_14_code (5 : Nat) (Option.some (Jvm.ClassFile.FieldType.array Jvm.ClassFile.FieldType.byte)), Jvm.Cond.code ({ cls := "java/lang/StringUTF16", name := "newBytesFor", desc := "(I)[B" } : Jvm.MethodName) jdk_52_method_2_code (1 : Nat) (Option.some (Jvm.ClassFile.FieldType.array Jvm.ClassFile.FieldType.byte)), Jvm.Cond.code ({ cls := "java/lang/StringUTF16", name := "newBytesLength", desc := "(I)I" } : Jvm.MethodName) jdk_52_method_3_code (1 : Nat) (Option.some Jvm.ClassFile.FieldType.int), Jvm.Cond.code ({ cls := "java/lang/StringUTF16", name := "putChar", desc := "([BII)V" } : Jvm.MethodName) jdk_52_method_4_code (3 : Nat) (Option.none : Option Jvm.ClassFile.FieldType), Jvm.Cond.code ({ cls := "java/lang/StringUTF16", name := "getChar", desc := "([BI)C" } : Jvm.MethodName) jdk_52_method_5_code (2 : Nat) (Option.some Jvm.ClassFile.FieldType.char), Jvm.Cond.code ({ cls := "java/lang/StringUTF16", name := "charAt", desc := "([BI)C" } : Jvm.MethodName) jdk_52_method_83_code (2 : Nat) (Option.some Jvm.ClassFile.FieldType.char), Jvm.Cond.code ({ cls := "java/lang/StringUTF16", name := "checkIndex", desc := "(I[B)V" } : Jvm.MethodName) jdk_52_method_91_code (2 : Nat) (Option.none : Option Jvm.ClassFile.FieldType), Jvm.Cond.code ({ cls := "java/lang/StringUTF16", name := "length", desc := "([B)I" } : Jvm.MethodName) jdk_52_method_6_code (1 : Nat) (Option.some Jvm.ClassFile.FieldType.int), Jvm.Cond.code ({ cls := "java/lang/StringUTF16", name := "newString", desc := "([BII)Ljava/lang/String;" } : Jvm.MethodName) jdk_52_method_69_code (5 : Nat) (Option.some (Jvm.ClassFile.FieldType.object "java/lang/String")), Jvm.Cond.code ({ cls := "java/lang/StringUTF16", name := "compress", desc := "([BII)[B" } : Jvm.MethodName) jdk_52_method_17_code (6 : Nat) (Option.some (Jvm.ClassFile.FieldType.array Jvm.ClassFile.FieldType.byte)), Jvm.Cond.code ({ cls := "java/lang/StringUTF16", name := "compress", desc := "([BI[BII)I" } : Jvm.MethodName) jdk_52_method_22_code (7 : Nat) (Option.some Jvm.ClassFile.FieldType.int), Jvm.Cond.code ({ cls := "java/lang/StringUTF16", name := "checkBoundsOffCount", desc := "(II[B)V" } : Jvm.MethodName) jdk_52_method_94_code (3 : Nat) (Option.none : Option Jvm.ClassFile.FieldType), Jvm.Cond.code ({ cls := "java/lang/String", name := "checkBoundsOffCount", desc := "(III)I" } : Jvm.MethodName) jdk_42_method_157_code (3 : Nat) (Option.some Jvm.ClassFile.FieldType.int), Jvm.Cond.code ({ cls := "jdk/internal/util/Preconditions", name := "checkFromIndexSize", desc := "(IIILjava/util/function/BiFunction;)I" } : Jvm.MethodName) jdk_41_method_13_code (4 : Nat) (Option.some Jvm.ClassFile.FieldType.int)]
set_option maxRecDepth 65536 in
theorem codes_eq : words1.filter isCode = codes1 := rfl
theorem w_codes : ∀ c ∈ words1.filter isCode, c.before args0 about1 = true := by
  rw [codes_eq]
  intro c hc
  simp only [codes1, List.mem_cons, List.not_mem_nil, or_false] at hc
  rcases hc with rfl | rfl | rfl | rfl | rfl | rfl | rfl | rfl | rfl | rfl | rfl | rfl | rfl | rfl | rfl | rfl | rfl | rfl | rfl | rfl | rfl | rfl | rfl | rfl | rfl | rfl | rfl | rfl | rfl | rfl | rfl | rfl | rfl | rfl | rfl | rfl | rfl | rfl | rfl | rfl | rfl | rfl
  · exact w_c0
  · exact w_c1
  · exact w_c2
  · exact w_c3
  · exact w_c4
  · exact w_c5
  · exact w_c6
  · exact w_c7
  · exact w_c8
  · exact w_c9
  · exact w_c10
  · exact w_c11
  · exact w_c12
  · exact w_c13
  · exact w_c14
  · exact w_c15
  · exact w_c16
  · exact w_c17
  · exact w_c18
  · exact w_c19
  · exact w_c20
  · exact w_c21
  · exact w_c22
  · exact w_c23
  · exact w_c24
  · exact w_c25
  · exact w_c26
  · exact w_c27
  · exact w_c28
  · exact w_c29
  · exact w_c30
  · exact w_c31
  · exact w_c32
  · exact w_c33
  · exact w_c34
  · exact w_c35
  · exact w_c36
  · exact w_c37
  · exact w_c38
  · exact w_c39
  · exact w_c40
  · exact w_c41
set_option maxRecDepth 65536 in
theorem w_t1 : (words1.take 24).all (fun c => isCode c || c.before args0 about1) = true := by decide +kernel
set_option maxRecDepth 65536 in
theorem w_t2 : ((words1.drop 24).take 24).all (fun c => isCode c || c.before args0 about1) = true := by decide +kernel
set_option maxRecDepth 65536 in
theorem w_t3 : (((words1.drop 24).drop 24).take 24).all (fun c => isCode c || c.before args0 about1) = true := by decide +kernel
set_option maxRecDepth 65536 in
theorem w_t4 : ((((words1.drop 24).drop 24).drop 24).take 24).all (fun c => isCode c || c.before args0 about1) = true := by decide +kernel
set_option maxRecDepth 65536 in
theorem w_t5 : (((((words1.drop 24).drop 24).drop 24).drop 24).take 24).all (fun c => isCode c || c.before args0 about1) = true := by decide +kernel
set_option maxRecDepth 65536 in
theorem w_t6 : ((((((words1.drop 24).drop 24).drop 24).drop 24).drop 24).take 24).all (fun c => isCode c || c.before args0 about1) = true := by decide +kernel
set_option maxRecDepth 65536 in
theorem w_t7 : (((((((words1.drop 24).drop 24).drop 24).drop 24).drop 24).drop 24).take 24).all (fun c => isCode c || c.before args0 about1) = true := by decide +kernel
set_option maxRecDepth 65536 in
theorem w_t8 : (((((((words1.drop 24).drop 24).drop 24).drop 24).drop 24).drop 24).drop 24).all (fun c => isCode c || c.before args0 about1) = true := by decide +kernel
theorem w_tables : (allAtoms (Jvm.Cond.code x code maxLocals ret :: tables_1)).before args0 about1 = true := by
  rw [allAtoms_all]
  show words1.all (fun c => c.before args0 about1) = true
  refine all_split ?_ w_codes
  rw [← List.take_append_drop 24 words1, List.all_append, w_t1, ← List.take_append_drop 24 (words1.drop 24), List.all_append, w_t2, ← List.take_append_drop 24 ((words1.drop 24).drop 24), List.all_append, w_t3, ← List.take_append_drop 24 (((words1.drop 24).drop 24).drop 24), List.all_append, w_t4, ← List.take_append_drop 24 ((((words1.drop 24).drop 24).drop 24).drop 24), List.all_append, w_t5, ← List.take_append_drop 24 (((((words1.drop 24).drop 24).drop 24).drop 24).drop 24), List.all_append, w_t6, ← List.take_append_drop 24 ((((((words1.drop 24).drop 24).drop 24).drop 24).drop 24).drop 24), List.all_append, w_t7, w_t8]
  rfl
set_option maxRecDepth 65536 in
theorem w_rest : rest_1_c.before args0 about1 = true := by decide +kernel
set_option maxRecDepth 65536 in
theorem w_case : (Jvm.Cond.and given_1 narrow_1).before args0 about1 = true := by decide +kernel
set_option maxRecDepth 65536 in
theorem w_consts : constsHeld consts_1 about1 := Jvm.Lit.constsHeldB_iff.mp (by decide +kernel)
theorem w_applies : (headSpec (Jvm.Cond.code x code maxLocals ret :: tables_1) room_1).applies x e0.platform about1 = true :=
  (Spec.applies_iff w_frames).mpr ⟨w_running, w_runnable, w_alone, w_named, w_hears, w_ripe, w_room, w_tables⟩
theorem atStart : AtStart classFile x code maxLocals ret World_1 tables_1 room_1 Calls_1 rest_1 Pre_1 launch0 p0 e0 about1 theMethod args0 below0 :=
  ⟨lists_1, trivial, launch0.admits_env _ _ _, launch0.least_env, fairChoices_fair.cas, fairChoices_fair.clock, w_frames, w_args, w_heap, w_applies, ⟨w_consts, trivial⟩, w_rest, w_case⟩
end start1
theorem witness_1 : WitnessClaimed_1 := ⟨start1.p0, start1.e0, start1.about1, start1.theMethod, start1.args0, start1.below0, start1.atStart⟩
end Jvm.Pilot.@@N@@
