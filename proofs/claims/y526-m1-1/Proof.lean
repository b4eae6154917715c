import JvmDerived
import JvmDerived.Pilot.@@N@@Statement
import JvmDerived.Pilot.@@N@@Code
set_option linter.unusedVariables false
set_option linter.unusedSimpArgs false
namespace Jvm.Pilot.@@N@@
open Jvm Jvm.ClassFile Sem Op Lib Jvm.Free Jvm.Stand Jvm.LawKit Jvm.RoadKit Bundle Jvm.Pilot.@@N@@.Jvm.D
section OwnKit
variable {p : Program} {l : Launch} {e : Env} {R : Room} {s : State} {m : MethodId} {args : Array Value} {below : List Frame} {meth : Method} {c : Code} {T : State} {locs : List Loc} {cells slots : Nat}
/-- the contract of a body at given arguments and a given heap -/
def own_Con (l : Launch) (Z : State) (y : MethodName) (bytes : ByteArray) (maxL : Nat) (ret : Option FieldType) (ws : List Jvm.Cond) (rm : Room) (as' : Array Value) (h0 : Heap) (Q : Option Value → Heap → List Loc → Prop) : Prop :=
  MetFree l y (head1 (Jvm.Cond.code y bytes maxL ret :: ws) rm) (fun a U => a = as' ∧ Z.Warmed39 U.vm ∧ U.heap = h0) (fun _ _ _ _ _ => True) (fun _ U o U' => ∃ v L, o = .returned v ∧ Q v U'.heap L ∧ FrameEnd U o U' L rm.cells rm.slots)
/-- G holds of a state where the walk is owed; it goes backwards over steps -/
def own_Bk (p : Program) (e : Env) (below : List Frame) (G : State → Prop) : Prop := ∀ S S', (∀ t, Steps p.tables e below S' t → Steps p.tables e below S t) → G S' → G S
/-- a walk may end where its body returns -/
def own_Rt (p : Program) (l : Launch) (e : Env) (rm : Room) (s : State) (m : MethodId) (as' : Array Value) (below : List Frame) (meth : Method) (c : Code) (ret : Option FieldType) (Q : Option Value → Heap → List Loc → Prop) (G : State → Prop) : Prop :=
  ∀ T locs cells slots v S, Stand p l e rm s m as' below meth c T locs cells slots → cells ≤ rm.cells → slots ≤ rm.slots → (ret = none → v = none) → Q v T.heap locs →
    (∀ fs, (∀ (f : JFrame) (acts : List Action), f.method = m → f.locked = none → f.entered = [] → (doReturn e (T.setTop f) acts v).1 = T.setFrames fs) → Steps p.tables e below S (T.setFrames fs)) → G S
theorem own_intro {Z : State} {y : MethodName} {bytes : ByteArray} {maxL : Nat} {ret : Option FieldType} {ws : List Jvm.Cond} {rm : Room} {as' : Array Value} {h0 : Heap} {Q : Option Value → Heap → List Loc → Prop} (hpn : plainFor y = true)
    (H : ∀ (p : Program) (e : Env) (s : State) (m : MethodId) (below : List Frame) (meth : Method) (c : Code) (s₁ : State) (G : State → Prop), p.tables.exec = Jvm.exec → c.code = bytes → c.maxLocals = maxL → s.vm.findClass y.cls = some m.cls → meth.name = y.name → meth.sig.returnType = ret → Z.Warmed39 s.vm →
      Stand p l e rm s m as' below meth c s₁ [] 0 0 → s₁.heap = h0 → own_Bk p e below G → own_Rt p l e rm s m as' below meth c ret Q G → G (s₁.setTop (entryFrame m as' maxL))) : own_Con l Z y bytes maxL ret ws rm as' h0 Q := by
  refine MetFree.of_bodySF hpn hisR ?_
  intro p e s m args below meth c s₁ Bd hml hP hK
  obtain ⟨rfl, hZ, hh⟩ := hP
  refine H p e s m below meth c s₁ (fun S => ∃ s₂ o, Steps p.tables e below S s₂ ∧ s₂.status = .running ∧ Ended s₂ below o ∧ ∃ v L, o = .returned v ∧ Q v s₂.heap L ∧ FrameEnd s o s₂ L rm.cells rm.slots) Bd.exec Bd.bytes hml (findClass_of_methodNamed Bd.named) (name_of_methodNamed Bd.named Bd.method).1 Bd.returns hZ (Stand.of_body Bd) (by rw [← hh, Bd.state]; rfl) ?_ ?_
  · rintro S S' st ⟨s₂, o, h1, h2⟩
    exact ⟨s₂, o, st _ h1, h2⟩
  · intro T locs cells slots v S X hc hs hv hQ hst
    obtain ⟨fs, hr, hrun, hended, hW, hsame⟩ := X.leave (v := v) (fun h => hv (Bd.returns ▸ h))
    exact ⟨_, _, hst fs hr, hrun, hended, v, locs, rfl, hQ, ⟨_, rfl⟩, hW, hsame.mono hc hs⟩
section Rets
variable {Q : Option Value → Heap → List Loc → Prop} {G : State → Prop} {ret : Option FieldType} {pc : Nat} {Ls : Array Slot} {rest : List Value}
theorem own_retV (hR : own_Rt p l e R s m args below meth c none Q G) (hret : meth.sig.returnType = none) (X : Stand p l e R s m args below meth c T locs cells slots) (hx : p.tables.exec = Jvm.exec) (hd : decode c.code pc = .ok (.return_, 1)) (hc : cells ≤ R.cells) (hs : slots ≤ R.slots) (hQ : Q none T.heap locs) : G (T.setTop (mkF m pc Ls [])) :=
  hR T locs cells slots none _ X hc hs (fun _ => rfl) hQ fun fs hr => X.returnOut hx hret hd hr
theorem own_retA {t : FieldType} {v : Value} (hR : own_Rt p l e R s m args below meth c (some t) Q G) (hret : meth.sig.returnType = some t) (ht : t.isReference = true) (hv : v.isRef = true) (X : Stand p l e R s m args below meth c T locs cells slots) (hx : p.tables.exec = Jvm.exec) (hd : decode c.code pc = .ok (.areturn, 1)) (hc : cells ≤ R.cells) (hs : slots ≤ R.slots) (hQ : Q (some v) T.heap locs) : G (T.setTop (mkF m pc Ls (v :: rest))) :=
  hR T locs cells slots (some v) _ X hc hs (fun h => nomatch h) hQ fun fs hr => retOut X hx hret (by cases t <;> simp_all [FieldType.isReference, narrow]) (Or.inr (Or.inr (Or.inr (Or.inr ⟨rfl, ht, hv⟩)))) hd hr
theorem own_retI {z : Int32} (hR : own_Rt p l e R s m args below meth c (some .int) Q G) (hret : meth.sig.returnType = some .int) (X : Stand p l e R s m args below meth c T locs cells slots) (hx : p.tables.exec = Jvm.exec) (hd : decode c.code pc = .ok (.ireturn, 1)) (hc : cells ≤ R.cells) (hs : slots ≤ R.slots) (hQ : Q (some (.int z)) T.heap locs) : G (T.setTop (mkF m pc Ls (.int z :: rest))) :=
  hR T locs cells slots (some (.int z)) _ X hc hs (fun h => nomatch h) hQ fun fs hr => retOut X hx hret rfl (Or.inl ⟨rfl, Or.inl rfl, z, rfl⟩) hd hr
theorem own_retL {z : Int64} (hR : own_Rt p l e R s m args below meth c (some .long) Q G) (hret : meth.sig.returnType = some .long) (X : Stand p l e R s m args below meth c T locs cells slots) (hx : p.tables.exec = Jvm.exec) (hd : decode c.code pc = .ok (.lreturn, 1)) (hc : cells ≤ R.cells) (hs : slots ≤ R.slots) (hQ : Q (some (.long z)) T.heap locs) : G (T.setTop (mkF m pc Ls (.long z :: rest))) :=
  hR T locs cells slots (some (.long z)) _ X hc hs (fun h => nomatch h) hQ fun fs hr => retOut X hx hret rfl (Or.inr (Or.inl ⟨rfl, rfl, z, rfl⟩)) hd hr
theorem own_retN {z : Int32} {t : FieldType} (hR : own_Rt p l e R s m args below meth c (some t) Q G) (hret : meth.sig.returnType = some t) (ht : t = .boolean ∨ t = .byte ∨ t = .char ∨ t = .short) (X : Stand p l e R s m args below meth c T locs cells slots) (hx : p.tables.exec = Jvm.exec) (hd : decode c.code pc = .ok (.ireturn, 1)) (hc : cells ≤ R.cells) (hs : slots ≤ R.slots) (hQ : Q (some (.int (nar t z))) T.heap locs) : G (T.setTop (mkF m pc Ls (.int z :: rest))) :=
  hR T locs cells slots (some (.int (nar t z))) _ X hc hs (fun h => nomatch h) hQ fun fs hr => retN X hx hret ht hd hr
end Rets
section Calls
variable {Z : State} {a0 : Array Value} {own : String} {index : Nat} {y z : MethodName} {bytes : ByteArray} {maxL : Nat} {ret : Option FieldType} {rm : Room} {as' : Array Value} {h : Heap} {Q : Option Value → Heap → List Loc → Prop} {G : State → Prop} {pc : Nat} {Ls : Array Slot} {stk argsL rest : List Value}
theorem own_callS (X : Stand p l e R s m args below meth c T locs cells slots) (hx : p.tables.exec = Jvm.exec) (hZ : Z.Warmed39 s.vm) (hG : own_Bk p e below G) (hown : s.vm.findClass own = some m.cls)
    (w1 : (Jvm.Cond.methodLink own index y).before a0 Z = true) (w2 : (Jvm.Cond.static y).before a0 Z = true) (w3 : (Jvm.Cond.initialized y.cls).before a0 Z = true) (w4 : (Jvm.Cond.code y bytes maxL ret).before a0 Z = true)
    (hy : y.cls ≠ "java/lang/invoke/MethodHandle" ∧ y.cls ≠ "java/lang/invoke/VarHandle") (W : Nat) (hM : own_Con l Z y bytes maxL ret [] rm as' h Q) (hf : rm.frames + 1 ≤ R.frames) (hlo : W + (maxL + 11) + rm.locals ≤ R.locals) (eT : T.heap = h)
    (hsize : Ls.size = c.maxLocals) (hlen : ∀ sig, parseMethodDescriptor y.desc = some sig → argsL.length = sig.parameters.length) (has : argsL.toArray = as') (hst : stk = argsL.reverse ++ rest) (hW : (rest.map fun v => v.category).sum ≤ W)
    (hd : decode c.code pc = .ok (.invokestatic index, 3)) (hc : cells + rm.cells ≤ R.cells) (hs : slots + rm.slots ≤ R.slots)
    (k : ∀ T' h' v L, Stand p l e R s m args below meth c T' (locs ++ L) (cells + rm.cells) (slots + rm.slots) → T'.heap = h' → Q v h' L → G (T'.setTop (mkF m (pc + 3) Ls (v.toList ++ rest)))) : G (T.setTop (mkF m pc Ls stk)) := by
  obtain ⟨v, _, ⟨T1, L1, k1, n1⟩, -, X1, ⟨L, hQ, rfl, rfl, rfl⟩, st⟩ := Jvm.LawKit.callS X hx (y := y) hown (mvT hZ w1) (mvT hZ w2) (mvT hZ w3) (mvT hZ w4) hy (backOf (W := W) hM hZ w4 w3 hf hlo) (g := mkF m pc Ls stk) rfl hsize (argsL := argsL) (rest := rest) hlen hst (by show 2 * 0 + _ ≤ _; rw [Nat.mul_zero, Nat.zero_add]; exact hW) hd (fun _ _ => ⟨has, eT, hc, hs⟩)
  exact hG _ _ st (k T1 _ v L X1 rfl hQ)
theorem own_callI (X : Stand p l e R s m args below meth c T locs cells slots) (hx : p.tables.exec = Jvm.exec) (hZ : Z.Warmed39 s.vm) (hG : own_Bk p e below G) (hown : s.vm.findClass own = some m.cls) (hy1 : y.name = "<init>")
    (w1 : (Jvm.Cond.methodLink own index y).before a0 Z = true) (w2 : (Jvm.Cond.instanceMethod y).before a0 Z = true) (w3 : (Jvm.Cond.initialized y.cls).before a0 Z = true) (w4 : (Jvm.Cond.code y bytes maxL none).before a0 Z = true)
    (hy : y.cls ≠ "java/lang/invoke/MethodHandle" ∧ y.cls ≠ "java/lang/invoke/VarHandle") (W : Nat) (hM : own_Con l Z y bytes maxL none [] rm as' h Q) (hf : rm.frames + 1 ≤ R.frames) (hlo : W + (maxL + 11) + rm.locals ≤ R.locals) (eT : T.heap = h)
    (hsize : Ls.size = c.maxLocals) (hlen : ∀ sig, parseMethodDescriptor y.desc = some sig → argsL.length = sig.parameters.length) {a : Addr} (has : (.ref a :: argsL).toArray = as') (hst : stk = argsL.reverse ++ .ref a :: rest) (hW : (rest.map fun v => v.category).sum ≤ W)
    (hd : decode c.code pc = .ok (.invokespecial index, 3)) (hc : cells + rm.cells ≤ R.cells) (hs : slots + rm.slots ≤ R.slots)
    (k : ∀ T' h' v L, Stand p l e R s m args below meth c T' (locs ++ L) (cells + rm.cells) (slots + rm.slots) → T'.heap = h' → Q v h' L → G (T'.setTop (mkF m (pc + 3) Ls (v.toList ++ rest)))) : G (T.setTop (mkF m pc Ls stk)) := by
  obtain ⟨v, _, ⟨T1, L1, k1, n1⟩, -, X1, ⟨L, hQ, rfl, rfl, rfl⟩, st⟩ := X.specialBack hx (y := y) hy1 hown (mvT hZ w1) (mvT hZ w2) (mvT hZ w4) hy (backOf (W := W) hM hZ w4 w3 hf hlo) (g := mkF m pc Ls stk) rfl hsize (Steps.refl _) (a := a) (argsL := argsL) (rest := rest) hlen hst (by show 2 * 0 + _ ≤ _; rw [Nat.mul_zero, Nat.zero_add]; exact hW) hd (fun _ _ => ⟨has, eT, hc, hs⟩)
  exact hG _ _ (fun t kk => st.trans kk) (k T1 _ v L X1 rfl hQ)
theorem own_callV {C : String} (X : Stand p l e R s m args below meth c T locs cells slots) (hx : p.tables.exec = Jvm.exec) (hZ : Z.Warmed39 s.vm) (hG : own_Bk p e below G) (hown : s.vm.findClass own = some m.cls)
    (w1 : (Jvm.Cond.methodLink own index y).before a0 Z = true) (w2 : (Jvm.Cond.declares y).before a0 Z = true) (w3 : (Jvm.Cond.selects C y y).before a0 Z = true) (w4 : (Jvm.Cond.instanceMethod y).before a0 Z = true) (w5 : (Jvm.Cond.initialized y.cls).before a0 Z = true) (w6 : (Jvm.Cond.code y bytes maxL ret).before a0 Z = true)
    (hy : y.cls ≠ "java/lang/invoke/MethodHandle" ∧ y.cls ≠ "java/lang/invoke/VarHandle") (W : Nat) (hM : own_Con l Z y bytes maxL ret [] rm as' h Q) (hf : rm.frames + 1 ≤ R.frames) (hlo : W + (maxL + 11) + rm.locals ≤ R.locals) (eT : T.heap = h) {b : Addr} (E : Exa Z h b C)
    (hsize : Ls.size = c.maxLocals) (hlen : ∀ sig, parseMethodDescriptor y.desc = some sig → argsL.length = sig.parameters.length) (has : (.ref b :: argsL).toArray = as') (hst : stk = argsL.reverse ++ .ref b :: rest) (hW : (rest.map fun v => v.category).sum ≤ W)
    (hd : decode c.code pc = .ok (.invokevirtual index, 3)) (hc : cells + rm.cells ≤ R.cells) (hs : slots + rm.slots ≤ R.slots)
    (k : ∀ T' h' v L, Stand p l e R s m args below meth c T' (locs ++ L) (cells + rm.cells) (slots + rm.slots) → T'.heap = h' → Q v h' L → G (T'.setTop (mkF m (pc + 3) Ls (v.toList ++ rest)))) : G (T.setTop (mkF m pc Ls stk)) := by
  obtain ⟨cq, kq, qa, qb, qc⟩ := isOf hZ eT E
  obtain ⟨v, _, ⟨T1, L1, k1, n1⟩, -, X1, ⟨L, hQ, rfl, rfl, rfl⟩, st⟩ := X.virtualBack hx (y := y) (z := y) hown (mvT hZ w1) (mvT hZ w2) (notFace_of_selects (args := #[]) (mvT hZ w3)) (mvT hZ w3) (mvT hZ w4) hy (backOf (W := W) hM hZ w6 w5 hf hlo) qa qc (g := mkF m pc Ls stk) rfl hsize (Steps.refl _) (argsL := argsL) (rest := rest) hlen hst (by show 2 * 0 + _ ≤ _; rw [Nat.mul_zero, Nat.zero_add]; exact hW) hd (fun _ _ => ⟨has, eT, hc, hs⟩)
  exact hG _ _ (fun t kk => st.trans kk) (k T1 _ v L X1 rfl hQ)
theorem own_callP (X : Stand p l e R s m args below meth c T locs cells slots) (hx : p.tables.exec = Jvm.exec) (hZ : Z.Warmed39 s.vm) (hG : own_Bk p e below G) (hown : s.vm.findClass own = some m.cls)
    (w1 : (Jvm.Cond.methodLink own index y).before a0 Z = true) (w2 : (Jvm.Cond.instanceMethod y).before a0 Z = true) (w3 : (Jvm.Cond.selects y.cls y y).before a0 Z = true) (wp : (Jvm.Cond.privateMethod y).before a0 Z = true) (w5 : (Jvm.Cond.initialized y.cls).before a0 Z = true) (w6 : (Jvm.Cond.code y bytes maxL ret).before a0 Z = true)
    (hy : y.cls ≠ "java/lang/invoke/MethodHandle" ∧ y.cls ≠ "java/lang/invoke/VarHandle") (W : Nat) (hM : own_Con l Z y bytes maxL ret [] rm as' h Q) (hf : rm.frames + 1 ≤ R.frames) (hlo : W + (maxL + 11) + rm.locals ≤ R.locals) (eT : T.heap = h) {b : Addr} {C : String} (E : Exa Z h b C)
    (hsize : Ls.size = c.maxLocals) (hlen : ∀ sig, parseMethodDescriptor y.desc = some sig → argsL.length = sig.parameters.length) (has : (.ref b :: argsL).toArray = as') (hst : stk = argsL.reverse ++ .ref b :: rest) (hW : (rest.map fun v => v.category).sum ≤ W)
    (hd : decode c.code pc = .ok (.invokevirtual index, 3)) (hc : cells + rm.cells ≤ R.cells) (hs : slots + rm.slots ≤ R.slots)
    (k : ∀ T' h' v L, Stand p l e R s m args below meth c T' (locs ++ L) (cells + rm.cells) (slots + rm.slots) → T'.heap = h' → Q v h' L → G (T'.setTop (mkF m (pc + 3) Ls (v.toList ++ rest)))) : G (T.setTop (mkF m pc Ls stk)) := by
  obtain ⟨cell, hc1, hc2⟩ := (Ins.self E).cell
  obtain ⟨v, _, ⟨T1, L1, k1, n1⟩, -, X1, ⟨L, hQ, rfl, rfl, rfl⟩, st⟩ := X.privateBack hx (y := y) hown (mvT hZ w1) (mvT hZ w2) (mvT hZ w3) (Cond.privateMethod_at (mvP hZ wp (args := #[]))) (mvT hZ w6) hy (backOf (W := W) hM hZ w6 w5 hf hlo) (g := mkF m pc Ls stk) rfl hsize (Steps.refl _) (a := b) (by rw [eT]; exact hc1) hc2 (argsL := argsL) (rest := rest) hlen hst (by show 2 * 0 + _ ≤ _; rw [Nat.mul_zero, Nat.zero_add]; exact hW) hd (fun _ _ => ⟨has, eT, hc, hs⟩)
  exact hG _ _ (fun t kk => st.trans kk) (k T1 _ v L X1 rfl hQ)
theorem own_callF {C : String} {count : Nat} (X : Stand p l e R s m args below meth c T locs cells slots) (hx : p.tables.exec = Jvm.exec) (hZ : Z.Warmed39 s.vm) (hG : own_Bk p e below G) (hown : s.vm.findClass own = some m.cls)
    (w1 : (Jvm.Cond.methodLink own index z).before a0 Z = true) (w2 : (Jvm.Cond.declares z).before a0 Z = true) (wf : ∀ s' : State, Z.Warmed39 s'.vm → (Jvm.Cond.interfaceMethod z.cls z.cls z.name z.desc).before args s' = true) (w3 : (Jvm.Cond.selects C z y).before a0 Z = true) (w4 : (Jvm.Cond.instanceMethod y).before a0 Z = true) (wp : (Jvm.Cond.publicMethod y).before a0 Z = true) (wu : (Jvm.Cond.unhidden C z.name z.desc).before a0 Z = true) (wc : (Jvm.Cond.castable C z.cls).before a0 Z = true) (w5 : (Jvm.Cond.initialized y.cls).before a0 Z = true) (w6 : (Jvm.Cond.code y bytes maxL ret).before a0 Z = true)
    (hy : z.cls ≠ "java/lang/invoke/MethodHandle" ∧ z.cls ≠ "java/lang/invoke/VarHandle") (W : Nat) (hM : own_Con l Z y bytes maxL ret [] rm as' h Q) (hf : rm.frames + 1 ≤ R.frames) (hlo : W + (maxL + 11) + rm.locals ≤ R.locals) (eT : T.heap = h) {b : Addr} (E : Exa Z h b C)
    (hsize : Ls.size = c.maxLocals) (hlen : ∀ sig, parseMethodDescriptor z.desc = some sig → argsL.length = sig.parameters.length) (has : (.ref b :: argsL).toArray = as') (hst : stk = argsL.reverse ++ .ref b :: rest) (hW : (rest.map fun v => v.category).sum ≤ W)
    (hd : decode c.code pc = .ok (.invokeinterface index count, 5)) (hc : cells + rm.cells ≤ R.cells) (hs : slots + rm.slots ≤ R.slots)
    (k : ∀ T' h' v L, Stand p l e R s m args below meth c T' (locs ++ L) (cells + rm.cells) (slots + rm.slots) → T'.heap = h' → Q v h' L → G (T'.setTop (mkF m (pc + 5) Ls (v.toList ++ rest)))) : G (T.setTop (mkF m pc Ls stk)) := by
  obtain ⟨cq, kq, qa, qb, qc⟩ := isOf hZ eT E
  obtain ⟨v, _, ⟨T1, L1, k1, n1⟩, -, X1, ⟨L, hQ, rfl, rfl, rfl⟩, st⟩ := X.interfaceBack hx (xi := z) (y := y) hown (mvT hZ w1) (mvT hZ w2) (wf s hZ) (mvT hZ w3) (mvT hZ w4) (mvT hZ wp) (mvT hZ wu) (mvT hZ wc) hy (backOf (W := W) hM hZ w6 w5 hf hlo) qa qb qc (g := mkF m pc Ls stk) rfl hsize (Steps.refl _) (argsL := argsL) (rest := rest) hlen hst (by show 2 * 0 + _ ≤ _; rw [Nat.mul_zero, Nat.zero_add]; exact hW) hd (fun _ _ => ⟨has, eT, hc, hs⟩)
  exact hG _ _ (fun t kk => st.trans kk) (k T1 _ v L X1 rfl hQ)
end Calls
theorem own_entry {G : State → Prop} {n : Nat} {Ls : Array Slot} (q : entryFrame m args n = mkF m 0 Ls []) (k : G (T.setTop (mkF m 0 Ls []))) : G (T.setTop (entryFrame m args n)) := q ▸ k
abbrev own_Old (Z : State) (h : Heap) : Prop := Old Z Z.heap.size h
abbrev own_Fr (Z : State) (L : List Loc) : Prop := Fr Z.heap.size L
theorem own_ge {Z : State} {h : Heap} (O : own_Old Z h) {b : Addr} (q : h.size ≤ b) : Z.heap.size ≤ b := Nat.le_trans O.2.1 q
theorem own_sta {Z : State} {h : Heap} {C n d : String} {v : Value} (S : Sta Z Z.heap C n d v) (O : own_Old Z h) : Sta Z h C n d v := S.ext O.2
theorem own_ne {h : Heap} {a b : Addr} (q : a < h.size) (r : h.size ≤ b) : a ≠ b := Nat.ne_of_lt (Nat.lt_of_lt_of_le q r)
end OwnKit
theorem own_toInt {i : Nat} (h : i < 2147483648) : (Int32.ofNat i).toInt = i := Int32.toInt_ofNat_of_lt (by omega)
theorem own_clamp {i : Nat} (h : i < 2147483648) : (Int32.ofNat i).toNatClampNeg = i := by
  show ((Int32.ofNat i).toInt).toNat = i
  rw [own_toInt h]; rfl
theorem own_inc (i : Nat) : Int32.ofNat i + 1 = Int32.ofNat (i + 1) := (Int32.ofNat_add i 1).symm
theorem own_nn {i : Nat} (h : i < 2147483648) : ¬ Int32.ofNat i < 0 := by
  rw [Int32.lt_iff_toInt_lt, own_toInt h]; simp
theorem own_lt {i n : Nat} (h : i < n) (hn : n < 2147483648) : Int32.ofNat i < Int32.ofNat n := by
  rw [Int32.lt_iff_toInt_lt, own_toInt (by omega), own_toInt hn]; omega
theorem own_nlt {i n : Nat} (h : n ≤ i) (hi : i < 2147483648) : ¬ Int32.ofNat i < Int32.ofNat n := by
  rw [Int32.lt_iff_toInt_lt, own_toInt hi, own_toInt (by omega)]; omega
theorem own_ofNat_inj {i n : Nat} (hi : i < 2147483648) (hn : n < 2147483648) (h : Int32.ofNat i = Int32.ofNat n) : i = n := by
  have := congrArg Int32.toInt h
  rw [own_toInt hi, own_toInt hn] at this; omega
theorem own_getD_set {α : Type} (vs : List α) (i j : Nat) (x d : α) (h : i < vs.length) : (vs.set i x).getD j d = if j = i then x else vs.getD j d := by
  simp only [List.getD_eq_getElem?_getD, List.getElem?_set]
  by_cases e : i = j
  · subst e; simp [h]
  · simp [e, Ne.symm e]
theorem own_getD_map {α β : Type} (f : α → β) (cs : List α) (j : Nat) (d : β) (e : α) (h : j < cs.length) : (cs.map f).getD j d = f (cs.getD j e) := by
  simp [List.getD_eq_getElem?_getD, List.getElem?_map, h]
theorem own_mapEq {α β : Type} (f : α → β) (cs : List α) (vs : List β) (d : β) (e : α) (hl : vs.length = cs.length) (h : ∀ j, j < cs.length → vs.getD j d = f (cs.getD j e)) : vs = cs.map f := by
  apply List.ext_getElem (by simpa using hl)
  intro j h1 h2
  have q := h j (by simpa using h2)
  have h3 : j < cs.length := by simpa using h2
  simp [List.getD_eq_getElem?_getD, h1, h3] at q
  simpa using q
theorem own_narR {t : FieldType} {v : Value} (ht : t.isReference = true) (hv : v.isRef = true) : narrow t v = v := by cases t <;> simp_all [FieldType.isReference, narrow]
theorem own_nb (x : Int32) : nar .byte x.toInt8.toInt32 = x.toInt8.toInt32 := by
  show x.toInt8.toInt32.toInt8.toInt32 = _
  rw [Int8.toInt8_toInt32]
theorem own_nc (x : Int32) : nar .char x.toUInt32.toUInt16.toUInt32.toInt32 = x.toUInt32.toUInt16.toUInt32.toInt32 := by
  simp only [nar, UInt32.toUInt32_toInt32, UInt16.toUInt16_toUInt32]
theorem own_getD_mem {α : Type} (cs : List α) (i : Nat) (d : α) (h : i < cs.length) : cs.getD i d ∈ cs := by
  rw [List.getD_eq_getElem?_getD, List.getElem?_eq_getElem h]; exact List.getElem_mem h
theorem own_alln {α : Type} {P : α → Prop} : ∀ c ∈ ([] : List α), P c := fun _ q => nomatch q
theorem own_allc {α : Type} {P : α → Prop} {x : α} {L : List α} (q : P x) (r : ∀ c ∈ L, P c) : ∀ c ∈ x :: L, P c := fun c z => (List.mem_cons.mp z).elim (fun u => u ▸ q) (r c)
theorem own_and255 (x : Int32) : 0 ≤ (x &&& 255).toInt ∧ (x &&& 255).toInt ≤ 255 := by
  rw [c_mask x 255 8 (by decide) (by decide)]
  have h1 := Int.emod_nonneg x.toInt (show ((2 ^ 8 : Nat) : Int) ≠ 0 by decide)
  have h2 := Int.emod_lt_of_pos x.toInt (show (0 : Int) < ((2 ^ 8 : Nat) : Int) by decide)
  omega
theorem own_mask8 {x c : Int32} (h : (x &&& 255).toUInt32.toUInt16.toUInt32.toInt32 = c) : 0 ≤ c.toInt ∧ c.toInt ≤ 255 := by
  rw [i2c_mask] at h; subst h; exact own_and255 x
theorem own_narC {c : Int32} (h : 0 ≤ c.toInt ∧ c.toInt ≤ 65535) : nar .char c = c := by
  apply Int32.toInt_inj.mp
  have q := c_i2c c
  show c.toUInt32.toUInt16.toUInt32.toInt32.toInt = c.toInt
  omega
theorem own_le255 {c : Int32} (h : 0 ≤ c.toInt ∧ c.toInt ≤ 255) : ¬ ((255 : Int32) < c) := by
  rw [Int32.lt_iff_toInt_lt]
  have : (255 : Int32).toInt = 255 := by decide
  omega
theorem own_nar8 {c : Int32} (h : 0 ≤ c.toInt ∧ c.toInt ≤ 255) : ¬ ((255 : Int32) < nar .char c) := by
  rw [own_narC ⟨h.1, by omega⟩]; exact own_le255 h
theorem own_setNext {vs : List Value} {cs : List Int32} {i : Nat} (f : Int32 → Value) (d x : Value) (hi : i < vs.length) (hx : x = f (cs.getD i 0)) (hv : ∀ j, j < i → vs.getD j d = f (cs.getD j 0)) : ∀ j, j < i + 1 → (vs.set i x).getD j d = f (cs.getD j 0) := by
  intro j hj
  rw [own_getD_set _ _ _ _ _ hi]
  by_cases e : j = i
  · subst e; rw [if_pos rfl]; exact hx
  · rw [if_neg e]; exact hv j (by omega)
theorem own_fitR {t : FieldType} {v : Value} (ht : t.isReference = true) (hv : v.isRef = true) : fits t v = true := by
  rcases ref_cases hv with rfl | ⟨a, rfl⟩ <;> cases t <;> simp_all [FieldType.isReference, fits]
section OwnKitW
variable {p : Program} {l : Launch} {e : Env} {R : Room} {s : State} {m : MethodId} {args : Array Value} {below : List Frame} {meth : Method} {c : Code} {T : State} {locs : List Loc} {cells slots : Nat} {EL : List (String × Nat)} {Z : State} {a0 : Array Value}
/-- the contract of a body that may load String constants -/
def own_ConW (l : Launch) (Z : State) (EL : List (String × Nat)) (y : MethodName) (bytes : ByteArray) (maxL : Nat) (ret : Option FieldType) (ws : List Jvm.Cond) (rm : Room) (as' : Array Value) (h0 : Heap) (Q : Option Value → Heap → List Loc → Prop) : Prop :=
  MetFree l y (head1 (Jvm.Cond.code y bytes maxL ret :: ws) rm) (fun a U => a = as' ∧ Z.Warmed39 U.vm ∧ U.heap = h0 ∧ CHv Z EL U.vm h0) (fun _ _ _ _ _ => True) (fun _ U o U' => ∃ v L, o = .returned v ∧ Q v U'.heap L ∧ CHr Z EL U.vm U.heap U'.vm U'.heap ∧ ReturnedEndW U o U' L rm.cells rm.slots)
def own_RtW (p : Program) (l : Launch) (e : Env) (Z : State) (EL : List (String × Nat)) (rm : Room) (s : State) (m : MethodId) (as' : Array Value) (below : List Frame) (meth : Method) (c : Code) (ret : Option FieldType) (h0 : Heap) (Q : Option Value → Heap → List Loc → Prop) (G : State → Prop) : Prop :=
  ∀ T locs cells slots v S vm0 k0, Stand p l e rm (s.setVm vm0) m as' below meth c T locs cells slots → s.Since vm0 k0 → k0 ≤ T.heap.size → Z.Warmed39 vm0 → CHr Z EL s.vm h0 vm0 T.heap → cells ≤ rm.cells → slots ≤ rm.slots → (ret = none → v = none) → Q v T.heap locs →
    (∀ fs, (∀ (f : JFrame) (acts : List Action), f.method = m → f.locked = none → f.entered = [] → (doReturn e (T.setTop f) acts v).1 = T.setFrames fs) → Steps p.tables e below S (T.setFrames fs)) → G S
theorem own_introW {y : MethodName} {bytes : ByteArray} {maxL : Nat} {ret : Option FieldType} {ws : List Jvm.Cond} {rm : Room} {as' : Array Value} {h0 : Heap} {Q : Option Value → Heap → List Loc → Prop} (hEL : EW Z a0 EL) (hpn : plainFor y = true)
    (H : ∀ (p : Program) (e : Env) (s : State) (m : MethodId) (below : List Frame) (meth : Method) (c : Code) (s₁ : State) (G : State → Prop), p.tables.exec = Jvm.exec → c.code = bytes → c.maxLocals = maxL → (s.setVm s.vm).vm.findClass y.cls = some m.cls → meth.name = y.name → meth.sig.returnType = ret → Z.Warmed39 (s.setVm s.vm).vm →
      Stand p l e rm (s.setVm s.vm) m as' below meth c s₁ [] 0 0 → s₁.heap = h0 → CHv Z EL s.vm h0 → s.Since s.vm h0.size → own_Bk p e below G → own_RtW p l e Z EL rm s m as' below meth c ret h0 Q G → G (s₁.setTop (entryFrame m as' maxL))) : own_ConW l Z EL y bytes maxL ret ws rm as' h0 Q := by
  refine MetFree.of_bodySF hpn hisR ?_
  intro p e s m args below meth c s₁ Bd hml hP hK
  obtain ⟨rfl, hZ, hh, hC⟩ := hP
  refine H p e s m below meth c s₁ (fun S => ∃ s₂ o, Steps p.tables e below S s₂ ∧ s₂.status = .running ∧ Ended s₂ below o ∧ ∃ v L, o = .returned v ∧ Q v s₂.heap L ∧ CHr Z EL s.vm s.heap s₂.vm s₂.heap ∧ ReturnedEndW s o s₂ L rm.cells rm.slots) Bd.exec Bd.bytes hml (findClass_of_methodNamed Bd.named) (name_of_methodNamed Bd.named Bd.method).1 Bd.returns hZ (Stand.of_body Bd) (by rw [← hh, Bd.state]; rfl) hC ((State.WarmedH.refl s).since _) ?_ ?_
  · rintro S S' st ⟨s₂, o, h1, h2⟩
    exact ⟨s₂, o, st _ h1, h2⟩
  · intro T locs cells slots v S vm0 k0 X hS hk hZ0 hC0 hc hs hv hQ hst
    obtain ⟨fs, hr, hrun, hended, hW, hsame⟩ := X.leave (v := v) (fun h => hv (Bd.returns ▸ h)) Bd.notSynchronized
    obtain ⟨q1, q2, q3⟩ := hS.ended (U := T.setFrames fs) hW hk hsame
    have hA : CHr Z EL vm0 T.heap T.vm T.heap := CHv.at X hZ0 hEL hC0.1
    refine ⟨_, _, hst fs hr, hrun, hended, v, locs, rfl, hQ, ?_, ⟨_, rfl⟩, q1, q2, q3.mono hc hs⟩
    rw [hh]
    exact hC0.trans hA
section Rets
variable {Q : Option Value → Heap → List Loc → Prop} {G : State → Prop} {pc : Nat} {Ls : Array Slot} {rest : List Value} {h0 h : Heap} {vm0 : Vm} {k0 : Nat}
theorem own_retVW (hR : own_RtW p l e Z EL R s m args below meth c none h0 Q G) (hret : meth.sig.returnType = none) (X : Stand p l e R (s.setVm vm0) m args below meth c T locs cells slots) (hx : p.tables.exec = Jvm.exec) (hd : decode c.code pc = .ok (.return_, 1)) (eT : T.heap = h) (hS : s.Since vm0 k0) (hk : k0 ≤ h.size) (hZ : Z.Warmed39 (s.setVm vm0).vm) (hC : CHr Z EL s.vm h0 vm0 h) (hc : cells ≤ R.cells) (hs : slots ≤ R.slots) (hQ : Q none h locs) : G (T.setTop (mkF m pc Ls [])) :=
  hR T locs cells slots none _ vm0 k0 X hS (by rw [eT]; exact hk) hZ (by rw [eT]; exact hC) hc hs (fun _ => rfl) (by rw [eT]; exact hQ) fun fs hr => X.returnOut hx hret hd hr
theorem own_retAW {t : FieldType} {v : Value} (hR : own_RtW p l e Z EL R s m args below meth c (some t) h0 Q G) (hret : meth.sig.returnType = some t) (ht : t.isReference = true) (hv : v.isRef = true) (X : Stand p l e R (s.setVm vm0) m args below meth c T locs cells slots) (hx : p.tables.exec = Jvm.exec) (hd : decode c.code pc = .ok (.areturn, 1)) (eT : T.heap = h) (hS : s.Since vm0 k0) (hk : k0 ≤ h.size) (hZ : Z.Warmed39 (s.setVm vm0).vm) (hC : CHr Z EL s.vm h0 vm0 h) (hc : cells ≤ R.cells) (hs : slots ≤ R.slots) (hQ : Q (some v) h locs) : G (T.setTop (mkF m pc Ls (v :: rest))) :=
  hR T locs cells slots (some v) _ vm0 k0 X hS (by rw [eT]; exact hk) hZ (by rw [eT]; exact hC) hc hs (fun h => nomatch h) (by rw [eT]; exact hQ) fun fs hr => retOut X hx hret (by cases t <;> simp_all [FieldType.isReference, narrow]) (Or.inr (Or.inr (Or.inr (Or.inr ⟨rfl, ht, hv⟩)))) hd hr
theorem own_retNW {z : Int32} {t : FieldType} (hR : own_RtW p l e Z EL R s m args below meth c (some t) h0 Q G) (hret : meth.sig.returnType = some t) (ht : t = .boolean ∨ t = .byte ∨ t = .char ∨ t = .short) (X : Stand p l e R (s.setVm vm0) m args below meth c T locs cells slots) (hx : p.tables.exec = Jvm.exec) (hd : decode c.code pc = .ok (.ireturn, 1)) (eT : T.heap = h) (hS : s.Since vm0 k0) (hk : k0 ≤ h.size) (hZ : Z.Warmed39 (s.setVm vm0).vm) (hC : CHr Z EL s.vm h0 vm0 h) (hc : cells ≤ R.cells) (hs : slots ≤ R.slots) (hQ : Q (some (.int (nar t z))) h locs) : G (T.setTop (mkF m pc Ls (.int z :: rest))) :=
  hR T locs cells slots (some (.int (nar t z))) _ vm0 k0 X hS (by rw [eT]; exact hk) hZ (by rw [eT]; exact hC) hc hs (fun h => nomatch h) (by rw [eT]; exact hQ) fun fs hr => retN X hx hret ht hd hr
end Rets
section Calls
variable {own : String} {index : Nat} {y : MethodName} {bytes : ByteArray} {maxL : Nat} {ret : Option FieldType} {rm : Room} {as' : Array Value} {h : Heap} {Q : Option Value → Heap → List Loc → Prop} {G : State → Prop} {pc : Nat} {Ls : Array Slot} {stk argsL rest : List Value} {vm0 : Vm} {k0 : Nat}
theorem own_callSW (X : Stand p l e R (s.setVm vm0) m args below meth c T locs cells slots) (hx : p.tables.exec = Jvm.exec) (hZ : Z.Warmed39 (s.setVm vm0).vm) (hG : own_Bk p e below G) (hown : (s.setVm vm0).vm.findClass own = some m.cls)
    (w1 : (Jvm.Cond.methodLink own index y).before a0 Z = true) (w2 : (Jvm.Cond.static y).before a0 Z = true) (w3 : (Jvm.Cond.initialized y.cls).before a0 Z = true) (w4 : (Jvm.Cond.code y bytes maxL ret).before a0 Z = true)
    (hy : y.cls ≠ "java/lang/invoke/MethodHandle" ∧ y.cls ≠ "java/lang/invoke/VarHandle") (W : Nat) (hM : own_ConW l Z EL y bytes maxL ret [] rm as' h Q) (hf : rm.frames + 1 ≤ R.frames) (hlo : W + (maxL + 11) + rm.locals ≤ R.locals) (eT : T.heap = h)
    (hS : s.Since vm0 k0) (hk : k0 ≤ h.size) (hEL : EW Z a0 EL) (H : CHv Z EL vm0 h)
    (hsize : Ls.size = c.maxLocals) (hlen : ∀ sig, parseMethodDescriptor y.desc = some sig → argsL.length = sig.parameters.length) (has : argsL.toArray = as') (hst : stk = argsL.reverse ++ rest) (hW : (rest.map fun v => v.category).sum ≤ W)
    (hd : decode c.code pc = .ok (.invokestatic index, 3)) (hc : cells + rm.cells ≤ R.cells) (hs : slots + rm.slots ≤ R.slots)
    (k : ∀ T' h' v L, Stand p l e R (s.setVm T'.vm) m args below meth c T' (locs ++ L) (cells + rm.cells) (slots + rm.slots) → T'.heap = h' → s.Since T'.vm h'.size → Z.Warmed39 (s.setVm T'.vm).vm → (s.setVm T'.vm).vm.findClass own = some m.cls → CHr Z EL vm0 h T'.vm h' → Q v h' L → G (T'.setTop (mkF m (pc + 3) Ls (v.toList ++ rest)))) : G (T.setTop (mkF m pc Ls stk)) := by
  obtain ⟨v, _, ⟨T1, L1, k1, n1⟩, -, X1, hS1, hg1, ⟨L, hQ, rfl, rfl, rfl, hC⟩, st⟩ := callSS X hx (y := y) hown (mvT hZ w1) (mvT hZ w2) (mvT hZ w3) (mvT hZ w4) hy (backOfSH (W := W) hM hZ w4 w3 hf hlo hEL H) (g := mkF m pc Ls stk) rfl hsize (argsL := argsL) (rest := rest) hlen hst (by show 2 * 0 + _ ≤ _; rw [Nat.mul_zero, Nat.zero_add]; exact hW) hd (fun _ _ => ⟨has, eT, hc, hs⟩)
  obtain ⟨X2, hS2, hZ2, hown2⟩ := rebS hS (by rw [eT]; exact hk) X1 hS1 hg1 hZ hown
  exact hG _ _ (fun t kk => st.trans kk) (k T1 _ v L X2 rfl hS2 hZ2 hown2 hC hQ)
theorem own_callIW (X : Stand p l e R (s.setVm vm0) m args below meth c T locs cells slots) (hx : p.tables.exec = Jvm.exec) (hZ : Z.Warmed39 (s.setVm vm0).vm) (hG : own_Bk p e below G) (hown : (s.setVm vm0).vm.findClass own = some m.cls) (hy1 : y.name = "<init>")
    (w1 : (Jvm.Cond.methodLink own index y).before a0 Z = true) (w2 : (Jvm.Cond.instanceMethod y).before a0 Z = true) (w3 : (Jvm.Cond.initialized y.cls).before a0 Z = true) (w4 : (Jvm.Cond.code y bytes maxL none).before a0 Z = true)
    (hy : y.cls ≠ "java/lang/invoke/MethodHandle" ∧ y.cls ≠ "java/lang/invoke/VarHandle") (W : Nat) (hM : own_ConW l Z EL y bytes maxL none [] rm as' h Q) (hf : rm.frames + 1 ≤ R.frames) (hlo : W + (maxL + 11) + rm.locals ≤ R.locals) (eT : T.heap = h)
    (hS : s.Since vm0 k0) (hk : k0 ≤ h.size) (hEL : EW Z a0 EL) (H : CHv Z EL vm0 h)
    (hsize : Ls.size = c.maxLocals) (hlen : ∀ sig, parseMethodDescriptor y.desc = some sig → argsL.length = sig.parameters.length) {a : Addr} (has : (.ref a :: argsL).toArray = as') (hst : stk = argsL.reverse ++ .ref a :: rest) (hW : (rest.map fun v => v.category).sum ≤ W)
    (hd : decode c.code pc = .ok (.invokespecial index, 3)) (hc : cells + rm.cells ≤ R.cells) (hs : slots + rm.slots ≤ R.slots)
    (k : ∀ T' h' v L, Stand p l e R (s.setVm T'.vm) m args below meth c T' (locs ++ L) (cells + rm.cells) (slots + rm.slots) → T'.heap = h' → s.Since T'.vm h'.size → Z.Warmed39 (s.setVm T'.vm).vm → (s.setVm T'.vm).vm.findClass own = some m.cls → CHr Z EL vm0 h T'.vm h' → Q v h' L → G (T'.setTop (mkF m (pc + 3) Ls (v.toList ++ rest)))) : G (T.setTop (mkF m pc Ls stk)) := by
  obtain ⟨v, _, ⟨T1, L1, k1, n1⟩, -, X1, hS1, hg1, ⟨L, hQ, rfl, rfl, rfl, hC⟩, st⟩ := X.specialBackS hx (y := y) hy1 hown (mvT hZ w1) (mvT hZ w2) (mvT hZ w4) hy (backOfSH (W := W) hM hZ w4 w3 hf hlo hEL H) (g := mkF m pc Ls stk) rfl hsize (Steps.refl _) (a := a) (argsL := argsL) (rest := rest) hlen hst (by show 2 * 0 + _ ≤ _; rw [Nat.mul_zero, Nat.zero_add]; exact hW) hd (fun _ _ => ⟨has, eT, hc, hs⟩)
  obtain ⟨X2, hS2, hZ2, hown2⟩ := rebS hS (by rw [eT]; exact hk) X1 hS1 hg1 hZ hown
  exact hG _ _ (fun t kk => st.trans kk) (k T1 _ v L X2 rfl hS2 hZ2 hown2 hC hQ)
theorem own_callVW {C : String} (X : Stand p l e R (s.setVm vm0) m args below meth c T locs cells slots) (hx : p.tables.exec = Jvm.exec) (hZ : Z.Warmed39 (s.setVm vm0).vm) (hG : own_Bk p e below G) (hown : (s.setVm vm0).vm.findClass own = some m.cls)
    (w1 : (Jvm.Cond.methodLink own index y).before a0 Z = true) (w2 : (Jvm.Cond.declares y).before a0 Z = true) (w3 : (Jvm.Cond.selects C y y).before a0 Z = true) (w4 : (Jvm.Cond.instanceMethod y).before a0 Z = true) (w5 : (Jvm.Cond.initialized y.cls).before a0 Z = true) (w6 : (Jvm.Cond.code y bytes maxL ret).before a0 Z = true)
    (hy : y.cls ≠ "java/lang/invoke/MethodHandle" ∧ y.cls ≠ "java/lang/invoke/VarHandle") (W : Nat) (hM : own_ConW l Z EL y bytes maxL ret [] rm as' h Q) (hf : rm.frames + 1 ≤ R.frames) (hlo : W + (maxL + 11) + rm.locals ≤ R.locals) (eT : T.heap = h)
    (hS : s.Since vm0 k0) (hk : k0 ≤ h.size) (hEL : EW Z a0 EL) (H : CHv Z EL vm0 h) {b : Addr} (E : Exa Z h b C)
    (hsize : Ls.size = c.maxLocals) (hlen : ∀ sig, parseMethodDescriptor y.desc = some sig → argsL.length = sig.parameters.length) (has : (.ref b :: argsL).toArray = as') (hst : stk = argsL.reverse ++ .ref b :: rest) (hW : (rest.map fun v => v.category).sum ≤ W)
    (hd : decode c.code pc = .ok (.invokevirtual index, 3)) (hc : cells + rm.cells ≤ R.cells) (hs : slots + rm.slots ≤ R.slots)
    (k : ∀ T' h' v L, Stand p l e R (s.setVm T'.vm) m args below meth c T' (locs ++ L) (cells + rm.cells) (slots + rm.slots) → T'.heap = h' → s.Since T'.vm h'.size → Z.Warmed39 (s.setVm T'.vm).vm → (s.setVm T'.vm).vm.findClass own = some m.cls → CHr Z EL vm0 h T'.vm h' → Q v h' L → G (T'.setTop (mkF m (pc + 3) Ls (v.toList ++ rest)))) : G (T.setTop (mkF m pc Ls stk)) := by
  obtain ⟨cq, kq, qa, qb, qc⟩ := isOf hZ eT E
  obtain ⟨v, _, ⟨T1, L1, k1, n1⟩, -, X1, hS1, hg1, ⟨L, hQ, rfl, rfl, rfl, hC⟩, st⟩ := X.virtualBackS hx (y := y) (z := y) hown (mvT hZ w1) (mvT hZ w2) (notFace_of_selects (args := #[]) (mvT hZ w3)) (mvT hZ w3) (mvT hZ w4) hy (backOfSH (W := W) hM hZ w6 w5 hf hlo hEL H) qa qc (g := mkF m pc Ls stk) rfl hsize (Steps.refl _) (argsL := argsL) (rest := rest) hlen hst (by show 2 * 0 + _ ≤ _; rw [Nat.mul_zero, Nat.zero_add]; exact hW) hd (fun _ _ => ⟨has, eT, hc, hs⟩)
  obtain ⟨X2, hS2, hZ2, hown2⟩ := rebS hS (by rw [eT]; exact hk) X1 hS1 hg1 hZ hown
  exact hG _ _ (fun t kk => st.trans kk) (k T1 _ v L X2 rfl hS2 hZ2 hown2 hC hQ)
end Calls
/-- a String whose value is still null is none that the JVM holds for a constant -/
theorem own_safeStr {vm : Vm} {h : Heap} {a : Addr} (hal : Z.vm.Alike vm) (E : Exa Z h a "java/lang/String") (F : Fld Z h a "java/lang/String" "value" "[B" .null) : Safe Z EL vm h a := fun B => by
  obtain ⟨p0, hp0, u, a', hb, q, hqa, S, hy⟩ := B
  obtain ⟨cS, ⟨⟨s1, s2, s3, ⟨cv, kv, iv, s4, s4'⟩, ⟨cc, kc, ic, s5, s5'⟩, s6, s7, s8, s9, s10, -⟩, hfS, hcS⟩, -, hB, -⟩ := S
  obtain ⟨kv', z4⟩ := ff_back (U := Wst Z vm h) hal s4
  rcases hy with rfl | rfl
  · have G : Fld Z h q.sa "java/lang/String" "value" "[B" (.ref q.sd) := ⟨q.sC, cv, kv', iv, q.fSV, s1, z4, s6, s2, s3, by rw [← hal.assignable]; exact s4', s8⟩
    exact Fld.ne F G (by simp) rfl
  · obtain ⟨cell, k, e1, e2, -⟩ := E
    have s10' : h[q.sd]? = some q.SA := s10
    cases s10'.symm.trans e1
    have hB' : vm.findClass "[B" = some q.SA.cls := hB
    have hBZ : Z.vm.findClass "[B" = some q.SA.cls := by rw [← hal.findClass]; exact hB'
    obtain ⟨k1, x1, x2⟩ := Vm.findClass_spec e2
    obtain ⟨k2, y1, y2⟩ := Vm.findClass_spec hBZ
    cases x1.symm.trans y1
    exact absurd (x2.symm.trans y2) (by decide)
theorem own_safeArv {vm : Vm} {h : Heap} {a : Addr} {k : ClassId} {ty : FieldType} {z : Int32} {vs : List Value} {d : Value} (hal : Z.vm.Alike vm) (A : Arv Z h a k ty z vs d) (ht : ty ≠ .byte) : Safe Z EL vm h a := by
  obtain ⟨cl, Ar, -⟩ := A
  exact Safe.arr hal Ar ht
end OwnKitW

def own_lo (ch : Int32) : Int32 := nar .byte ((ch >>> ((0 : Int32) &&& 31)).toInt8.toInt32)
def own_hi (ch : Int32) : Int32 := nar .byte ((ch >>> ((8 : Int32) &&& 31)).toInt8.toInt32)
def own_join (x y : Int32) : Int32 := nar .char ((((x &&& (255 : Int32)) <<< ((0 : Int32) &&& 31)) ||| ((y &&& (255 : Int32)) <<< ((8 : Int32) &&& 31))).toUInt32.toUInt16.toUInt32.toInt32)
def own_is16 (cs : List Int32) (vs : List Value) : Prop := vs.length = 2 * cs.length ∧ ∀ j, j < cs.length → vs.getD (2 * j) (.int (0 : Int32)) = .int (own_lo (cs.getD j 0)) ∧ vs.getD (2 * j + 1) (.int (0 : Int32)) = .int (own_hi (cs.getD j 0))
/-- the bytes of a String of these chars -/
def own_enc (cs : List Int32) (cd nb : Int32) (vs : List Value) : Prop :=
  ((∀ c ∈ cs, ¬ ((255 : Int32) < c)) ∧ cd = 0 ∧ nb = Int32.ofNat cs.length ∧ vs = (cs.map fun c => Value.int c.toInt8.toInt32)) ∨
    ((∃ k, k < cs.length ∧ (255 : Int32) < cs.getD k 0) ∧ cd = 1 ∧ nb = Int32.ofNat (2 * cs.length) ∧ own_is16 cs vs)
theorem own_shl1 (i : Nat) : Int32.ofNat i <<< ((1 : Int32) &&& 31) = Int32.ofNat (2 * i) := by
  rw [shlm (x := Int32.ofNat i) (k := 1) (m := 2) (by decide), Nat.mul_comm, Int32.ofNat_mul]; rfl
theorem own_lo_rng (ch : Int32) : (own_lo ch).toInt % 256 = ch.toInt % 256 := by
  have h0 : (ch >>> ((0 : Int32) &&& 31)).toInt = ch.toInt / (2 ^ 0 : Nat) := c_ishr ch 0 0 (by decide)
  have h1 := c_i2b (ch >>> ((0 : Int32) &&& 31))
  show (nar .byte _).toInt % 256 = _
  rw [own_nb]
  omega
theorem own_hi_rng (ch : Int32) : (own_hi ch).toInt % 256 = (ch.toInt / 256) % 256 := by
  have h0 : (ch >>> ((8 : Int32) &&& 31)).toInt = ch.toInt / (2 ^ 8 : Nat) := c_ishr ch 8 8 (by decide)
  have h1 := c_i2b (ch >>> ((8 : Int32) &&& 31))
  show (nar .byte _).toInt % 256 = _
  rw [own_nb]
  omega
theorem own_join_eq {ch : Int32} (h : 0 ≤ ch.toInt ∧ ch.toInt ≤ 65535) : own_join (own_lo ch) (own_hi ch) = ch := by
  have l := own_lo_rng ch; have g := own_hi_rng ch
  unfold own_join
  rw [own_nc]
  generalize own_lo ch = x at *
  generalize own_hi ch = y at *
  have m1 : (x &&& (255 : Int32)).toInt = x.toInt % 256 := c_mask x 255 8 (by decide) (by decide)
  have m2 : (y &&& (255 : Int32)).toInt = y.toInt % 256 := c_mask y 255 8 (by decide) (by decide)
  have s1 : ((x &&& (255 : Int32)) <<< ((0 : Int32) &&& 31)) = (x &&& (255 : Int32)) := by
    rw [shlm (m := 1) (by decide)]; simp
  have s2 := c_ishl (y &&& (255 : Int32)) 8 8 (by decide)
  rw [s1]
  generalize (x &&& (255 : Int32)) = X at *
  generalize ((y &&& (255 : Int32)) <<< ((8 : Int32) &&& 31)) = Y at *
  have rY := rng32 Y
  have eY : Y.toInt = (y.toInt % 256) * 256 := by omega
  have o := c_or' X Y 8 (by decide) 256 rfl (by omega) (by omega) (by omega)
  have rO := rng32 (X ||| Y)
  have c2 := c_i2c (X ||| Y)
  apply Int32.toInt_inj.mp
  omega
theorem own_coder0 (n : Int32) : nar .byte ((((n - n).toUInt32 >>> ((31 : Int32) &&& 31).toUInt32).toInt32).toInt8.toInt32) = 0 := by rw [Int32.sub_self]; rfl
theorem own_coder1 {n : Nat} (h0 : 0 < n) (h : n < 536870912) : nar .byte ((((Int32.ofNat n - Int32.ofNat (2 * n)).toUInt32 >>> ((31 : Int32) &&& 31).toUInt32).toInt32).toInt8.toInt32) = 1 := by
  have e := c_isub (Int32.ofNat n) (Int32.ofNat (2 * n))
  rw [own_toInt (by omega), own_toInt (by omega)] at e
  have r := rng32 (Int32.ofNat n - Int32.ofNat (2 * n))
  have s := c_iushr (Int32.ofNat n - Int32.ofNat (2 * n)) 31 31 (by decide) (by decide)
  generalize Int32.ofNat n - Int32.ofNat (2 * n) = D at *
  generalize ((D.toUInt32 >>> ((31 : Int32) &&& 31).toUInt32).toInt32) = S at *
  have hS : S.toInt = 1 := by rw [s]; omega
  have : S = 1 := Int32.toInt_inj.mp (by rw [hS]; rfl)
  rw [this]; rfl
theorem own_mask16 {x c : Int32} (h : (x &&& 65535).toUInt32.toUInt16.toUInt32.toInt32 = c) : 0 ≤ c.toInt ∧ c.toInt ≤ 65535 := by
  have q := c_i2c (x &&& 65535); rw [h] at q; omega
theorem own_i2c16 {x c : Int32} (h : x.toUInt32.toUInt16.toUInt32.toInt32 = c) : 0 ≤ c.toInt ∧ c.toInt ≤ 65535 := by
  have q := c_i2c x; rw [h] at q; omega
theorem own_nar16 {c : Int32} (h : 0 ≤ c.toInt ∧ c.toInt ≤ 65535) : 0 ≤ (nar .char c).toInt ∧ (nar .char c).toInt ≤ 65535 := by rw [own_narC h]; exact h
theorem own_ltK {n : Nat} (h : n < 1073741823) : Int32.ofNat n < (1073741823 : Int32) := by
  rw [Int32.lt_iff_toInt_lt, own_toInt (by omega)]
  have : (1073741823 : Int32).toInt = 1073741823 := by decide
  omega
theorem own_ofNat_ne {i n : Nat} (h : i < n) (hn : n < 2147483648) : ¬ (Int32.ofNat i = Int32.ofNat n) := fun e => by
  have := own_ofNat_inj (by omega) hn e; omega
theorem own_set16 {cs : List Int32} {vs : List Value} {i : Nat} (hl : vs.length = 2 * cs.length) (hi : i < cs.length)
    (hv : ∀ j, j < i → vs.getD (2 * j) (.int (0 : Int32)) = .int (own_lo (cs.getD j 0)) ∧ vs.getD (2 * j + 1) (.int (0 : Int32)) = .int (own_hi (cs.getD j 0))) :
    ∀ j, j < i + 1 → ((vs.set (2 * i) (.int (own_lo (cs.getD i 0)))).set (2 * i + 1) (.int (own_hi (cs.getD i 0)))).getD (2 * j) (.int (0 : Int32)) = .int (own_lo (cs.getD j 0)) ∧ ((vs.set (2 * i) (.int (own_lo (cs.getD i 0)))).set (2 * i + 1) (.int (own_hi (cs.getD i 0)))).getD (2 * j + 1) (.int (0 : Int32)) = .int (own_hi (cs.getD j 0)) := by
  intro j hj
  have h1 : 2 * i + 1 < (vs.set (2 * i) (Value.int (own_lo (cs.getD i 0)))).length := by rw [List.length_set]; omega
  have h2 : 2 * i < vs.length := by omega
  rw [own_getD_set _ _ _ _ _ h1, own_getD_set _ _ _ _ _ h2, own_getD_set _ _ _ _ _ h1, own_getD_set _ _ _ _ _ h2]
  by_cases e : j = i
  · subst e
    rw [if_neg (by omega), if_pos rfl, if_pos rfl]; exact ⟨rfl, rfl⟩
  · rw [if_neg (by omega), if_neg (by omega), if_neg (by omega), if_neg (by omega)]; exact hv j (by omega)
theorem own_allD {α : Type} {P : α → Prop} (cs : List α) (d : α) (h : ∀ j, j < cs.length → P (cs.getD j d)) : ∀ c ∈ cs, P c := by
  intro c hc
  obtain ⟨j, hj, rfl⟩ := List.getElem_of_mem hc
  have q := h j hj
  rw [List.getD_eq_getElem?_getD, List.getElem?_eq_getElem hj] at q
  exact q
theorem own_nextD {P : Int32 → Prop} {cs : List Int32} {i : Nat} (h : ∀ j, j < i → P (cs.getD j 0)) (q : P (cs.getD i 0)) : ∀ j, j < i + 1 → P (cs.getD j 0) := by
  intro j hj
  by_cases e : j = i
  · subst e; exact q
  · exact h j (by omega)
theorem own_is16_1 (ch : Int32) : own_is16 [ch] [.int (own_lo ch), .int (own_hi ch)] := ⟨rfl, fun j hj => by
  have e : j = 0 := by simpa using hj
  subst e; exact ⟨rfl, rfl⟩⟩
theorem own_enc_lat1 {ch : Int32} (h : ¬ ((255 : Int32) < ch)) : own_enc [ch] 0 (1 : Int32) [.int (nar .byte (ch.toInt8.toInt32))] :=
  Or.inl ⟨own_allc h own_alln, rfl, rfl, by rw [own_nb]; rfl⟩
theorem own_enc_u1 {ch : Int32} (h : (255 : Int32) < ch) : own_enc [ch] 1 (2 : Int32) [.int (own_lo ch), .int (own_hi ch)] :=
  Or.inr ⟨⟨0, Nat.zero_lt_one, h⟩, rfl, rfl, own_is16_1 ch⟩

theorem own_d1_0 : decode prog_29_method_2_code 0 = .ok (.new 10, 3) := by decide +kernel
theorem own_d1_3 : decode prog_29_method_2_code 3 = .ok (.dup, 1) := by decide +kernel
theorem own_d1_4 : decode prog_29_method_2_code 4 = .ok (.getstatic 36, 3) := by decide +kernel
theorem own_d1_7 : decode prog_29_method_2_code 7 = .ok (.aload_n 0, 1) := by decide +kernel
theorem own_d1_8 : decode prog_29_method_2_code 8 = .ok (.lload_n 1, 1) := by decide +kernel
theorem own_d1_9 : decode prog_29_method_2_code 9 = .ok (.aconst_null, 1) := by decide +kernel
theorem own_d1_10 : decode prog_29_method_2_code 10 = .ok (.aconst_null, 1) := by decide +kernel
theorem own_d1_11 : decode prog_29_method_2_code 11 = .ok (.aconst_null, 1) := by decide +kernel
theorem own_d1_12 : decode prog_29_method_2_code 12 = .ok (.aconst_null, 1) := by decide +kernel
theorem own_d1_13 : decode prog_29_method_2_code 13 = .ok (.invokespecial 41, 3) := by decide +kernel
theorem own_d1_16 : decode prog_29_method_2_code 16 = .ok (.areturn, 1) := by decide +kernel
theorem own_d2_0 : decode prog_29_method_1_code 0 = .ok (.aload_n 0, 1) := by decide +kernel
theorem own_d2_1 : decode prog_29_method_1_code 1 = .ok (.invokespecial 3, 3) := by decide +kernel
theorem own_d2_4 : decode prog_29_method_1_code 4 = .ok (.aload_n 0, 1) := by decide +kernel
theorem own_d2_5 : decode prog_29_method_1_code 5 = .ok (.aload_n 1, 1) := by decide +kernel
theorem own_d2_6 : decode prog_29_method_1_code 6 = .ok (.putfield 9, 3) := by decide +kernel
theorem own_d2_9 : decode prog_29_method_1_code 9 = .ok (.aload_n 0, 1) := by decide +kernel
theorem own_d2_10 : decode prog_29_method_1_code 10 = .ok (.aload_n 2, 1) := by decide +kernel
theorem own_d2_11 : decode prog_29_method_1_code 11 = .ok (.putfield 15, 3) := by decide +kernel
theorem own_d2_14 : decode prog_29_method_1_code 14 = .ok (.aload_n 0, 1) := by decide +kernel
theorem own_d2_15 : decode prog_29_method_1_code 15 = .ok (.lload_n 3, 1) := by decide +kernel
theorem own_d2_16 : decode prog_29_method_1_code 16 = .ok (.putfield 19, 3) := by decide +kernel
theorem own_d2_19 : decode prog_29_method_1_code 19 = .ok (.aload_n 0, 1) := by decide +kernel
theorem own_d2_20 : decode prog_29_method_1_code 20 = .ok (.aload 5, 2) := by decide +kernel
theorem own_d2_22 : decode prog_29_method_1_code 22 = .ok (.putfield 23, 3) := by decide +kernel
theorem own_d2_25 : decode prog_29_method_1_code 25 = .ok (.aload_n 0, 1) := by decide +kernel
theorem own_d2_26 : decode prog_29_method_1_code 26 = .ok (.aload 6, 2) := by decide +kernel
theorem own_d2_28 : decode prog_29_method_1_code 28 = .ok (.putfield 26, 3) := by decide +kernel
theorem own_d2_31 : decode prog_29_method_1_code 31 = .ok (.aload_n 0, 1) := by decide +kernel
theorem own_d2_32 : decode prog_29_method_1_code 32 = .ok (.aload 7, 2) := by decide +kernel
theorem own_d2_34 : decode prog_29_method_1_code 34 = .ok (.putfield 29, 3) := by decide +kernel
theorem own_d2_37 : decode prog_29_method_1_code 37 = .ok (.aload_n 0, 1) := by decide +kernel
theorem own_d2_38 : decode prog_29_method_1_code 38 = .ok (.aload 8, 2) := by decide +kernel
theorem own_d2_40 : decode prog_29_method_1_code 40 = .ok (.putfield 32, 3) := by decide +kernel
theorem own_d2_43 : decode prog_29_method_1_code 43 = .ok (.return_, 1) := by decide +kernel
theorem own_d3_0 : decode jdk_30_method_1_code 0 = .ok (.aload_n 0, 1) := by decide +kernel
theorem own_d3_1 : decode jdk_30_method_1_code 1 = .ok (.invokespecial 1, 3) := by decide +kernel
theorem own_d3_4 : decode jdk_30_method_1_code 4 = .ok (.return_, 1) := by decide +kernel
theorem own_d5_0 : decode prog_29_method_28_code 0 = .ok (.aload_n 0, 1) := by decide +kernel
theorem own_d5_1 : decode prog_29_method_28_code 1 = .ok (.getfield 15, 3) := by decide +kernel
theorem own_d5_4 : decode prog_29_method_28_code 4 = .ok (.areturn, 1) := by decide +kernel
theorem own_d6_0 : decode prog_29_method_27_code 0 = .ok (.aload_n 0, 1) := by decide +kernel
theorem own_d6_1 : decode prog_29_method_27_code 1 = .ok (.getfield 9, 3) := by decide +kernel
theorem own_d6_4 : decode prog_29_method_27_code 4 = .ok (.areturn, 1) := by decide +kernel
theorem own_d7_0 : decode prog_29_method_29_code 0 = .ok (.aload_n 0, 1) := by decide +kernel
theorem own_d7_1 : decode prog_29_method_29_code 1 = .ok (.getfield 19, 3) := by decide +kernel
theorem own_d7_4 : decode prog_29_method_29_code 4 = .ok (.lreturn, 1) := by decide +kernel
theorem own_d8_0 : decode prog_29_method_30_code 0 = .ok (.aload_n 0, 1) := by decide +kernel
theorem own_d8_1 : decode prog_29_method_30_code 1 = .ok (.getfield 23, 3) := by decide +kernel
theorem own_d8_4 : decode prog_29_method_30_code 4 = .ok (.areturn, 1) := by decide +kernel
theorem own_d9_0 : decode prog_29_method_31_code 0 = .ok (.aload_n 0, 1) := by decide +kernel
theorem own_d9_1 : decode prog_29_method_31_code 1 = .ok (.getfield 26, 3) := by decide +kernel
theorem own_d9_4 : decode prog_29_method_31_code 4 = .ok (.areturn, 1) := by decide +kernel
theorem own_d10_0 : decode prog_29_method_32_code 0 = .ok (.aload_n 0, 1) := by decide +kernel
theorem own_d10_1 : decode prog_29_method_32_code 1 = .ok (.getfield 29, 3) := by decide +kernel
theorem own_d10_4 : decode prog_29_method_32_code 4 = .ok (.areturn, 1) := by decide +kernel
theorem own_d11_0 : decode prog_29_method_33_code 0 = .ok (.aload_n 0, 1) := by decide +kernel
theorem own_d11_1 : decode prog_29_method_33_code 1 = .ok (.getfield 32, 3) := by decide +kernel
theorem own_d11_4 : decode prog_29_method_33_code 4 = .ok (.areturn, 1) := by decide +kernel
theorem own_d12_0 : decode jdk_42_method_139_code 0 = .ok (.getstatic 38, 3) := by decide +kernel
theorem own_d12_3 : decode jdk_42_method_139_code 3 = .ok (.ifCond .eq 23, 3) := by decide +kernel
theorem own_d12_6 : decode jdk_42_method_139_code 6 = .ok (.iload_n 0, 1) := by decide +kernel
theorem own_d12_7 : decode jdk_42_method_139_code 7 = .ok (.invokestatic 1015, 3) := by decide +kernel
theorem own_d12_10 : decode jdk_42_method_139_code 10 = .ok (.ifCond .eq 16, 3) := by decide +kernel
theorem own_d12_13 : decode jdk_42_method_139_code 13 = .ok (.new 10, 3) := by decide +kernel
theorem own_d12_16 : decode jdk_42_method_139_code 16 = .ok (.dup, 1) := by decide +kernel
theorem own_d12_17 : decode jdk_42_method_139_code 17 = .ok (.iload_n 0, 1) := by decide +kernel
theorem own_d12_18 : decode jdk_42_method_139_code 18 = .ok (.invokestatic 1018, 3) := by decide +kernel
theorem own_d12_21 : decode jdk_42_method_139_code 21 = .ok (.iconst 0, 1) := by decide +kernel
theorem own_d12_22 : decode jdk_42_method_139_code 22 = .ok (.invokespecial 209, 3) := by decide +kernel
theorem own_d12_25 : decode jdk_42_method_139_code 25 = .ok (.areturn, 1) := by decide +kernel
theorem own_d12_26 : decode jdk_42_method_139_code 26 = .ok (.new 10, 3) := by decide +kernel
theorem own_d12_29 : decode jdk_42_method_139_code 29 = .ok (.dup, 1) := by decide +kernel
theorem own_d12_30 : decode jdk_42_method_139_code 30 = .ok (.iload_n 0, 1) := by decide +kernel
theorem own_d12_31 : decode jdk_42_method_139_code 31 = .ok (.invokestatic 1021, 3) := by decide +kernel
theorem own_d12_34 : decode jdk_42_method_139_code 34 = .ok (.iconst 1, 1) := by decide +kernel
theorem own_d12_35 : decode jdk_42_method_139_code 35 = .ok (.invokespecial 209, 3) := by decide +kernel
theorem own_d12_38 : decode jdk_42_method_139_code 38 = .ok (.areturn, 1) := by decide +kernel
theorem own_d13_0 : decode jdk_43_method_3_code 0 = .ok (.iload_n 0, 1) := by decide +kernel
theorem own_d13_1 : decode jdk_43_method_3_code 1 = .ok (.sipush 255, 3) := by decide +kernel
theorem own_d13_4 : decode jdk_43_method_3_code 4 = .ok (.if_icmp .gt 7, 3) := by decide +kernel
theorem own_d13_7 : decode jdk_43_method_3_code 7 = .ok (.iconst 1, 1) := by decide +kernel
theorem own_d13_8 : decode jdk_43_method_3_code 8 = .ok (.goto 4, 3) := by decide +kernel
theorem own_d13_11 : decode jdk_43_method_3_code 11 = .ok (.iconst 0, 1) := by decide +kernel
theorem own_d13_12 : decode jdk_43_method_3_code 12 = .ok (.ireturn, 1) := by decide +kernel
theorem own_d14_0 : decode jdk_43_method_46_code 0 = .ok (.iconst 1, 1) := by decide +kernel
theorem own_d14_1 : decode jdk_43_method_46_code 1 = .ok (.newarray .byte, 2) := by decide +kernel
theorem own_d14_3 : decode jdk_43_method_46_code 3 = .ok (.dup, 1) := by decide +kernel
theorem own_d14_4 : decode jdk_43_method_46_code 4 = .ok (.iconst 0, 1) := by decide +kernel
theorem own_d14_5 : decode jdk_43_method_46_code 5 = .ok (.iload_n 0, 1) := by decide +kernel
theorem own_d14_6 : decode jdk_43_method_46_code 6 = .ok (.i2b, 1) := by decide +kernel
theorem own_d14_7 : decode jdk_43_method_46_code 7 = .ok (.bastore, 1) := by decide +kernel
theorem own_d14_8 : decode jdk_43_method_46_code 8 = .ok (.areturn, 1) := by decide +kernel
theorem own_d15_0 : decode jdk_42_method_151_code 0 = .ok (.aload_n 0, 1) := by decide +kernel
theorem own_d15_1 : decode jdk_42_method_151_code 1 = .ok (.invokespecial 1, 3) := by decide +kernel
theorem own_d15_4 : decode jdk_42_method_151_code 4 = .ok (.aload_n 0, 1) := by decide +kernel
theorem own_d15_5 : decode jdk_42_method_151_code 5 = .ok (.aload_n 1, 1) := by decide +kernel
theorem own_d15_6 : decode jdk_42_method_151_code 6 = .ok (.putfield 9, 3) := by decide +kernel
theorem own_d15_9 : decode jdk_42_method_151_code 9 = .ok (.aload_n 0, 1) := by decide +kernel
theorem own_d15_10 : decode jdk_42_method_151_code 10 = .ok (.iload_n 2, 1) := by decide +kernel
theorem own_d15_11 : decode jdk_42_method_151_code 11 = .ok (.putfield 15, 3) := by decide +kernel
theorem own_d15_14 : decode jdk_42_method_151_code 14 = .ok (.return_, 1) := by decide +kernel
theorem own_d16_0 : decode jdk_42_method_66_code 0 = .ok (.aload_n 0, 1) := by decide +kernel
theorem own_d16_1 : decode jdk_42_method_66_code 1 = .ok (.aload_n 1, 1) := by decide +kernel
theorem own_d16_2 : decode jdk_42_method_66_code 2 = .ok (.if_acmp .ne 5, 3) := by decide +kernel
theorem own_d16_5 : decode jdk_42_method_66_code 5 = .ok (.iconst 1, 1) := by decide +kernel
theorem own_d16_6 : decode jdk_42_method_66_code 6 = .ok (.ireturn, 1) := by decide +kernel
theorem own_d17_0 : decode jdk_42_method_3_code 0 = .ok (.aload_n 0, 1) := by decide +kernel
theorem own_d17_1 : decode jdk_42_method_3_code 1 = .ok (.aload_n 1, 1) := by decide +kernel
theorem own_d17_2 : decode jdk_42_method_3_code 2 = .ok (.iconst 0, 1) := by decide +kernel
theorem own_d17_3 : decode jdk_42_method_3_code 3 = .ok (.aload_n 1, 1) := by decide +kernel
theorem own_d17_4 : decode jdk_42_method_3_code 4 = .ok (.arraylength, 1) := by decide +kernel
theorem own_d17_5 : decode jdk_42_method_3_code 5 = .ok (.aconst_null, 1) := by decide +kernel
theorem own_d17_6 : decode jdk_42_method_3_code 6 = .ok (.invokespecial 27, 3) := by decide +kernel
theorem own_d17_9 : decode jdk_42_method_3_code 9 = .ok (.return_, 1) := by decide +kernel
theorem own_d18_0 : decode jdk_42_method_149_code 0 = .ok (.aload_n 0, 1) := by decide +kernel
theorem own_d18_1 : decode jdk_42_method_149_code 1 = .ok (.invokespecial 1, 3) := by decide +kernel
theorem own_d18_4 : decode jdk_42_method_149_code 4 = .ok (.iload_n 3, 1) := by decide +kernel
theorem own_d18_5 : decode jdk_42_method_149_code 5 = .ok (.ifCond .ne 22, 3) := by decide +kernel
theorem own_d18_8 : decode jdk_42_method_149_code 8 = .ok (.aload_n 0, 1) := by decide +kernel
theorem own_d18_9 : decode jdk_42_method_149_code 9 = .ok (.ldc 7, 2) := by decide +kernel
theorem own_d18_11 : decode jdk_42_method_149_code 11 = .ok (.getfield 9, 3) := by decide +kernel
theorem own_d18_14 : decode jdk_42_method_149_code 14 = .ok (.putfield 9, 3) := by decide +kernel
theorem own_d18_17 : decode jdk_42_method_149_code 17 = .ok (.aload_n 0, 1) := by decide +kernel
theorem own_d18_18 : decode jdk_42_method_149_code 18 = .ok (.ldc 7, 2) := by decide +kernel
theorem own_d18_20 : decode jdk_42_method_149_code 20 = .ok (.getfield 15, 3) := by decide +kernel
theorem own_d18_23 : decode jdk_42_method_149_code 23 = .ok (.putfield 15, 3) := by decide +kernel
theorem own_d18_26 : decode jdk_42_method_149_code 26 = .ok (.return_, 1) := by decide +kernel
theorem own_d18_27 : decode jdk_42_method_149_code 27 = .ok (.getstatic 38, 3) := by decide +kernel
theorem own_d18_30 : decode jdk_42_method_149_code 30 = .ok (.ifCond .eq 28, 3) := by decide +kernel
theorem own_d18_33 : decode jdk_42_method_149_code 33 = .ok (.aload_n 1, 1) := by decide +kernel
theorem own_d18_34 : decode jdk_42_method_149_code 34 = .ok (.iload_n 2, 1) := by decide +kernel
theorem own_d18_35 : decode jdk_42_method_149_code 35 = .ok (.iload_n 3, 1) := by decide +kernel
theorem own_d18_36 : decode jdk_42_method_149_code 36 = .ok (.invokestatic 177, 3) := by decide +kernel
theorem own_d18_39 : decode jdk_42_method_149_code 39 = .ok (.astore 5, 2) := by decide +kernel
theorem own_d18_41 : decode jdk_42_method_149_code 41 = .ok (.aload_n 0, 1) := by decide +kernel
theorem own_d18_42 : decode jdk_42_method_149_code 42 = .ok (.aload 5, 2) := by decide +kernel
theorem own_d18_44 : decode jdk_42_method_149_code 44 = .ok (.iload_n 3, 1) := by decide +kernel
theorem own_d18_45 : decode jdk_42_method_149_code 45 = .ok (.invokestatic 47, 3) := by decide +kernel
theorem own_d18_48 : decode jdk_42_method_149_code 48 = .ok (.putfield 15, 3) := by decide +kernel
theorem own_d18_51 : decode jdk_42_method_149_code 51 = .ok (.aload_n 0, 1) := by decide +kernel
theorem own_d18_52 : decode jdk_42_method_149_code 52 = .ok (.aload 5, 2) := by decide +kernel
theorem own_d18_54 : decode jdk_42_method_149_code 54 = .ok (.putfield 9, 3) := by decide +kernel
theorem own_d18_57 : decode jdk_42_method_149_code 57 = .ok (.return_, 1) := by decide +kernel
theorem own_d19_0 : decode jdk_52_method_16_code 0 = .ok (.iload_n 2, 1) := by decide +kernel
theorem own_d19_1 : decode jdk_52_method_16_code 1 = .ok (.newarray .byte, 2) := by decide +kernel
theorem own_d19_3 : decode jdk_52_method_16_code 3 = .ok (.astore_n 3, 1) := by decide +kernel
theorem own_d19_4 : decode jdk_52_method_16_code 4 = .ok (.aload_n 0, 1) := by decide +kernel
theorem own_d19_5 : decode jdk_52_method_16_code 5 = .ok (.iload_n 1, 1) := by decide +kernel
theorem own_d19_6 : decode jdk_52_method_16_code 6 = .ok (.aload_n 3, 1) := by decide +kernel
theorem own_d19_7 : decode jdk_52_method_16_code 7 = .ok (.iconst 0, 1) := by decide +kernel
theorem own_d19_8 : decode jdk_52_method_16_code 8 = .ok (.iload_n 2, 1) := by decide +kernel
theorem own_d19_9 : decode jdk_52_method_16_code 9 = .ok (.invokestatic 115, 3) := by decide +kernel
theorem own_d19_12 : decode jdk_52_method_16_code 12 = .ok (.istore 4, 2) := by decide +kernel
theorem own_d19_14 : decode jdk_52_method_16_code 14 = .ok (.iload 4, 2) := by decide +kernel
theorem own_d19_16 : decode jdk_52_method_16_code 16 = .ok (.iload_n 2, 1) := by decide +kernel
theorem own_d19_17 : decode jdk_52_method_16_code 17 = .ok (.if_icmp .eq 40, 3) := by decide +kernel
theorem own_d19_20 : decode jdk_52_method_16_code 20 = .ok (.aload_n 0, 1) := by decide +kernel
theorem own_d19_21 : decode jdk_52_method_16_code 21 = .ok (.iload_n 1, 1) := by decide +kernel
theorem own_d19_22 : decode jdk_52_method_16_code 22 = .ok (.iload_n 2, 1) := by decide +kernel
theorem own_d19_23 : decode jdk_52_method_16_code 23 = .ok (.invokestatic 119, 3) := by decide +kernel
theorem own_d19_26 : decode jdk_52_method_16_code 26 = .ok (.astore 5, 2) := by decide +kernel
theorem own_d19_28 : decode jdk_52_method_16_code 28 = .ok (.aload 5, 2) := by decide +kernel
theorem own_d19_30 : decode jdk_52_method_16_code 30 = .ok (.iload 4, 2) := by decide +kernel
theorem own_d19_32 : decode jdk_52_method_16_code 32 = .ok (.invokestatic 71, 3) := by decide +kernel
theorem own_d19_35 : decode jdk_52_method_16_code 35 = .ok (.sipush 255, 3) := by decide +kernel
theorem own_d19_38 : decode jdk_52_method_16_code 38 = .ok (.if_icmp .gt 16, 3) := by decide +kernel
theorem own_d19_54 : decode jdk_52_method_16_code 54 = .ok (.aload 5, 2) := by decide +kernel
theorem own_d19_56 : decode jdk_52_method_16_code 56 = .ok (.areturn, 1) := by decide +kernel
theorem own_d19_57 : decode jdk_52_method_16_code 57 = .ok (.aload_n 3, 1) := by decide +kernel
theorem own_d19_58 : decode jdk_52_method_16_code 58 = .ok (.areturn, 1) := by decide +kernel
theorem own_d20_0 : decode jdk_52_method_21_code 0 = .ok (.iconst 0, 1) := by decide +kernel
theorem own_d20_1 : decode jdk_52_method_21_code 1 = .ok (.istore 5, 2) := by decide +kernel
theorem own_d20_3 : decode jdk_52_method_21_code 3 = .ok (.iload 5, 2) := by decide +kernel
theorem own_d20_5 : decode jdk_52_method_21_code 5 = .ok (.iload 4, 2) := by decide +kernel
theorem own_d20_7 : decode jdk_52_method_21_code 7 = .ok (.if_icmp .ge 37, 3) := by decide +kernel
theorem own_d20_10 : decode jdk_52_method_21_code 10 = .ok (.aload_n 0, 1) := by decide +kernel
theorem own_d20_11 : decode jdk_52_method_21_code 11 = .ok (.iload_n 1, 1) := by decide +kernel
theorem own_d20_12 : decode jdk_52_method_21_code 12 = .ok (.caload, 1) := by decide +kernel
theorem own_d20_13 : decode jdk_52_method_21_code 13 = .ok (.istore 6, 2) := by decide +kernel
theorem own_d20_15 : decode jdk_52_method_21_code 15 = .ok (.iload 6, 2) := by decide +kernel
theorem own_d20_17 : decode jdk_52_method_21_code 17 = .ok (.sipush 255, 3) := by decide +kernel
theorem own_d20_20 : decode jdk_52_method_21_code 20 = .ok (.if_icmp .le 6, 3) := by decide +kernel
theorem own_d20_23 : decode jdk_52_method_21_code 23 = .ok (.iload 5, 2) := by decide +kernel
theorem own_d20_25 : decode jdk_52_method_21_code 25 = .ok (.ireturn, 1) := by decide +kernel
theorem own_d20_26 : decode jdk_52_method_21_code 26 = .ok (.aload_n 2, 1) := by decide +kernel
theorem own_d20_27 : decode jdk_52_method_21_code 27 = .ok (.iload_n 3, 1) := by decide +kernel
theorem own_d20_28 : decode jdk_52_method_21_code 28 = .ok (.iload 6, 2) := by decide +kernel
theorem own_d20_30 : decode jdk_52_method_21_code 30 = .ok (.i2b, 1) := by decide +kernel
theorem own_d20_31 : decode jdk_52_method_21_code 31 = .ok (.bastore, 1) := by decide +kernel
theorem own_d20_32 : decode jdk_52_method_21_code 32 = .ok (.iinc 1 1, 3) := by decide +kernel
theorem own_d20_35 : decode jdk_52_method_21_code 35 = .ok (.iinc 3 1, 3) := by decide +kernel
theorem own_d20_38 : decode jdk_52_method_21_code 38 = .ok (.iinc 5 1, 3) := by decide +kernel
theorem own_d20_41 : decode jdk_52_method_21_code 41 = .ok (.goto (-38), 3) := by decide +kernel
theorem own_d20_44 : decode jdk_52_method_21_code 44 = .ok (.iload 4, 2) := by decide +kernel
theorem own_d20_46 : decode jdk_52_method_21_code 46 = .ok (.ireturn, 1) := by decide +kernel
theorem own_d21_0 : decode jdk_52_method_14_code 0 = .ok (.iload_n 2, 1) := by decide +kernel
theorem own_d21_1 : decode jdk_52_method_14_code 1 = .ok (.invokestatic 107, 3) := by decide +kernel
theorem own_d21_4 : decode jdk_52_method_14_code 4 = .ok (.astore_n 3, 1) := by decide +kernel
theorem own_d21_5 : decode jdk_52_method_14_code 5 = .ok (.iconst 0, 1) := by decide +kernel
theorem own_d21_6 : decode jdk_52_method_14_code 6 = .ok (.istore 4, 2) := by decide +kernel
theorem own_d21_8 : decode jdk_52_method_14_code 8 = .ok (.iload 4, 2) := by decide +kernel
theorem own_d21_10 : decode jdk_52_method_14_code 10 = .ok (.iload_n 2, 1) := by decide +kernel
theorem own_d21_11 : decode jdk_52_method_14_code 11 = .ok (.if_icmp .ge 21, 3) := by decide +kernel
theorem own_d21_14 : decode jdk_52_method_14_code 14 = .ok (.aload_n 3, 1) := by decide +kernel
theorem own_d21_15 : decode jdk_52_method_14_code 15 = .ok (.iload 4, 2) := by decide +kernel
theorem own_d21_17 : decode jdk_52_method_14_code 17 = .ok (.aload_n 0, 1) := by decide +kernel
theorem own_d21_18 : decode jdk_52_method_14_code 18 = .ok (.iload_n 1, 1) := by decide +kernel
theorem own_d21_19 : decode jdk_52_method_14_code 19 = .ok (.caload, 1) := by decide +kernel
theorem own_d21_20 : decode jdk_52_method_14_code 20 = .ok (.invokestatic 111, 3) := by decide +kernel
theorem own_d21_23 : decode jdk_52_method_14_code 23 = .ok (.iinc 1 1, 3) := by decide +kernel
theorem own_d21_26 : decode jdk_52_method_14_code 26 = .ok (.iinc 4 1, 3) := by decide +kernel
theorem own_d21_29 : decode jdk_52_method_14_code 29 = .ok (.goto (-21), 3) := by decide +kernel
theorem own_d21_32 : decode jdk_52_method_14_code 32 = .ok (.aload_n 3, 1) := by decide +kernel
theorem own_d21_33 : decode jdk_52_method_14_code 33 = .ok (.areturn, 1) := by decide +kernel
theorem own_d22_0 : decode jdk_52_method_2_code 0 = .ok (.iload_n 0, 1) := by decide +kernel
theorem own_d22_1 : decode jdk_52_method_2_code 1 = .ok (.invokestatic 11, 3) := by decide +kernel
theorem own_d22_4 : decode jdk_52_method_2_code 4 = .ok (.newarray .byte, 2) := by decide +kernel
theorem own_d22_6 : decode jdk_52_method_2_code 6 = .ok (.areturn, 1) := by decide +kernel
theorem own_d23_0 : decode jdk_52_method_3_code 0 = .ok (.iload_n 0, 1) := by decide +kernel
theorem own_d23_1 : decode jdk_52_method_3_code 1 = .ok (.ifCond .ge 11, 3) := by decide +kernel
theorem own_d23_12 : decode jdk_52_method_3_code 12 = .ok (.iload_n 0, 1) := by decide +kernel
theorem own_d23_13 : decode jdk_52_method_3_code 13 = .ok (.ldc 20, 2) := by decide +kernel
theorem own_d23_15 : decode jdk_52_method_3_code 15 = .ok (.if_icmp .lt 40, 3) := by decide +kernel
theorem own_d23_55 : decode jdk_52_method_3_code 55 = .ok (.iload_n 0, 1) := by decide +kernel
theorem own_d23_56 : decode jdk_52_method_3_code 56 = .ok (.iconst 1, 1) := by decide +kernel
theorem own_d23_57 : decode jdk_52_method_3_code 57 = .ok (.ishl, 1) := by decide +kernel
theorem own_d23_58 : decode jdk_52_method_3_code 58 = .ok (.ireturn, 1) := by decide +kernel
theorem own_d24_0 : decode jdk_52_method_4_code 0 = .ok (.getstatic 44, 3) := by decide +kernel
theorem own_d24_3 : decode jdk_52_method_4_code 3 = .ok (.ifCond .ne 25, 3) := by decide +kernel
theorem own_d24_28 : decode jdk_52_method_4_code 28 = .ok (.iload_n 1, 1) := by decide +kernel
theorem own_d24_29 : decode jdk_52_method_4_code 29 = .ok (.iconst 1, 1) := by decide +kernel
theorem own_d24_30 : decode jdk_52_method_4_code 30 = .ok (.ishl, 1) := by decide +kernel
theorem own_d24_31 : decode jdk_52_method_4_code 31 = .ok (.istore_n 1, 1) := by decide +kernel
theorem own_d24_32 : decode jdk_52_method_4_code 32 = .ok (.aload_n 0, 1) := by decide +kernel
theorem own_d24_33 : decode jdk_52_method_4_code 33 = .ok (.iload_n 1, 1) := by decide +kernel
theorem own_d24_34 : decode jdk_52_method_4_code 34 = .ok (.iinc 1 1, 3) := by decide +kernel
theorem own_d24_37 : decode jdk_52_method_4_code 37 = .ok (.iload_n 2, 1) := by decide +kernel
theorem own_d24_38 : decode jdk_52_method_4_code 38 = .ok (.getstatic 59, 3) := by decide +kernel
theorem own_d24_41 : decode jdk_52_method_4_code 41 = .ok (.ishr, 1) := by decide +kernel
theorem own_d24_42 : decode jdk_52_method_4_code 42 = .ok (.i2b, 1) := by decide +kernel
theorem own_d24_43 : decode jdk_52_method_4_code 43 = .ok (.bastore, 1) := by decide +kernel
theorem own_d24_44 : decode jdk_52_method_4_code 44 = .ok (.aload_n 0, 1) := by decide +kernel
theorem own_d24_45 : decode jdk_52_method_4_code 45 = .ok (.iload_n 1, 1) := by decide +kernel
theorem own_d24_46 : decode jdk_52_method_4_code 46 = .ok (.iload_n 2, 1) := by decide +kernel
theorem own_d24_47 : decode jdk_52_method_4_code 47 = .ok (.getstatic 63, 3) := by decide +kernel
theorem own_d24_50 : decode jdk_52_method_4_code 50 = .ok (.ishr, 1) := by decide +kernel
theorem own_d24_51 : decode jdk_52_method_4_code 51 = .ok (.i2b, 1) := by decide +kernel
theorem own_d24_52 : decode jdk_52_method_4_code 52 = .ok (.bastore, 1) := by decide +kernel
theorem own_d24_53 : decode jdk_52_method_4_code 53 = .ok (.return_, 1) := by decide +kernel
theorem own_d25_0 : decode jdk_52_method_5_code 0 = .ok (.getstatic 44, 3) := by decide +kernel
theorem own_d25_3 : decode jdk_52_method_5_code 3 = .ok (.ifCond .ne 25, 3) := by decide +kernel
theorem own_d25_28 : decode jdk_52_method_5_code 28 = .ok (.iload_n 1, 1) := by decide +kernel
theorem own_d25_29 : decode jdk_52_method_5_code 29 = .ok (.iconst 1, 1) := by decide +kernel
theorem own_d25_30 : decode jdk_52_method_5_code 30 = .ok (.ishl, 1) := by decide +kernel
theorem own_d25_31 : decode jdk_52_method_5_code 31 = .ok (.istore_n 1, 1) := by decide +kernel
theorem own_d25_32 : decode jdk_52_method_5_code 32 = .ok (.aload_n 0, 1) := by decide +kernel
theorem own_d25_33 : decode jdk_52_method_5_code 33 = .ok (.iload_n 1, 1) := by decide +kernel
theorem own_d25_34 : decode jdk_52_method_5_code 34 = .ok (.iinc 1 1, 3) := by decide +kernel
theorem own_d25_37 : decode jdk_52_method_5_code 37 = .ok (.baload, 1) := by decide +kernel
theorem own_d25_38 : decode jdk_52_method_5_code 38 = .ok (.sipush 255, 3) := by decide +kernel
theorem own_d25_41 : decode jdk_52_method_5_code 41 = .ok (.iand, 1) := by decide +kernel
theorem own_d25_42 : decode jdk_52_method_5_code 42 = .ok (.getstatic 59, 3) := by decide +kernel
theorem own_d25_45 : decode jdk_52_method_5_code 45 = .ok (.ishl, 1) := by decide +kernel
theorem own_d25_46 : decode jdk_52_method_5_code 46 = .ok (.aload_n 0, 1) := by decide +kernel
theorem own_d25_47 : decode jdk_52_method_5_code 47 = .ok (.iload_n 1, 1) := by decide +kernel
theorem own_d25_48 : decode jdk_52_method_5_code 48 = .ok (.baload, 1) := by decide +kernel
theorem own_d25_49 : decode jdk_52_method_5_code 49 = .ok (.sipush 255, 3) := by decide +kernel
theorem own_d25_52 : decode jdk_52_method_5_code 52 = .ok (.iand, 1) := by decide +kernel
theorem own_d25_53 : decode jdk_52_method_5_code 53 = .ok (.getstatic 63, 3) := by decide +kernel
theorem own_d25_56 : decode jdk_52_method_5_code 56 = .ok (.ishl, 1) := by decide +kernel
theorem own_d25_57 : decode jdk_52_method_5_code 57 = .ok (.ior, 1) := by decide +kernel
theorem own_d25_58 : decode jdk_52_method_5_code 58 = .ok (.i2c, 1) := by decide +kernel
theorem own_d25_59 : decode jdk_52_method_5_code 59 = .ok (.ireturn, 1) := by decide +kernel
theorem own_d26_0 : decode jdk_52_method_15_code 0 = .ok (.iload_n 1, 1) := by decide +kernel
theorem own_d26_1 : decode jdk_52_method_15_code 1 = .ok (.aload_n 0, 1) := by decide +kernel
theorem own_d26_2 : decode jdk_52_method_15_code 2 = .ok (.arraylength, 1) := by decide +kernel
theorem own_d26_3 : decode jdk_52_method_15_code 3 = .ok (.isub, 1) := by decide +kernel
theorem own_d26_4 : decode jdk_52_method_15_code 4 = .ok (.bipush 31, 2) := by decide +kernel
theorem own_d26_6 : decode jdk_52_method_15_code 6 = .ok (.iushr, 1) := by decide +kernel
theorem own_d26_7 : decode jdk_52_method_15_code 7 = .ok (.i2b, 1) := by decide +kernel
theorem own_d26_8 : decode jdk_52_method_15_code 8 = .ok (.ireturn, 1) := by decide +kernel
theorem own_d27_0 : decode jdk_52_method_24_code 0 = .ok (.iconst 2, 1) := by decide +kernel
theorem own_d27_1 : decode jdk_52_method_24_code 1 = .ok (.newarray .byte, 2) := by decide +kernel
theorem own_d27_3 : decode jdk_52_method_24_code 3 = .ok (.astore_n 1, 1) := by decide +kernel
theorem own_d27_4 : decode jdk_52_method_24_code 4 = .ok (.aload_n 1, 1) := by decide +kernel
theorem own_d27_5 : decode jdk_52_method_24_code 5 = .ok (.iconst 0, 1) := by decide +kernel
theorem own_d27_6 : decode jdk_52_method_24_code 6 = .ok (.iload_n 0, 1) := by decide +kernel
theorem own_d27_7 : decode jdk_52_method_24_code 7 = .ok (.invokestatic 111, 3) := by decide +kernel
theorem own_d27_10 : decode jdk_52_method_24_code 10 = .ok (.aload_n 1, 1) := by decide +kernel
theorem own_d27_11 : decode jdk_52_method_24_code 11 = .ok (.areturn, 1) := by decide +kernel
theorem own_wS {Z : State} {a0 : Array Value} (hw : ∀ d ∈ tables_1, d.before a0 Z = true) : ∀ a ∈ Bundle.stringAtoms, a.before a0 Z = true := by
  intro a ha
  simp only [Bundle.stringAtoms, List.mem_cons, List.not_mem_nil, or_false] at ha
  rcases ha with rfl | rfl | rfl | rfl | rfl | rfl | rfl
  · exact (hw _ (List.mem_of_getElem? (i := 73) rfl))
  · exact (hw _ (List.mem_of_getElem? (i := 81) rfl))
  · exact (hw _ (List.mem_of_getElem? (i := 85) rfl))
  · exact (hw _ (List.mem_of_getElem? (i := 92) rfl))
  · exact (hw _ (List.mem_of_getElem? (i := 94) rfl))
  · exact (hw _ (List.mem_of_getElem? (i := 138) rfl))
  · exact (hw _ (List.mem_of_getElem? (i := 139) rfl))
theorem own_pd0 : parseMethodDescriptor "()V" = some ⟨[], none⟩ := by decide +kernel
set_option maxRecDepth 65536 in
set_option maxHeartbeats 40000000 in
theorem own_rec (l : Launch) (Z : State) (a0 : Array Value) (hw : ∀ d ∈ tables_1, d.before a0 Z = true) (a : Addr) (h0 : Heap) (O0 : own_Old Z h0) :
    own_Con l Z (⟨"java/lang/Record", "<init>", "()V"⟩ : MethodName) jdk_30_method_1_code 1 none [] ({ frames := 1, cells := 0, slots := 0, locals := 12 } : Room) #[(.ref a)] h0 (fun rv rh rL => rv = none ∧ own_Fr Z rL ∧ h0 = rh) := by
  refine own_intro (plainFor_of_name (by first | (simp [plainName, overriddenIn]; done) | decide +kernel)) ?_
  intro p e s m below meth c s₁ G hx hby hml hown hnm hret hZ X0 e0 hG hR
  have N0 := Fr.nil Z.heap.size
  refine own_entry (Ls := #[.val (.ref a)]) (by first | (simp [entryFrame, mkF, argsToLocals, Value.category]; done) | rfl) ?_
  show G (s₁.setTop (mkF m 0 #[.val (.ref a)] []))
  refine hG _ _ (fun t k => XS.aloadN X0.here hx rfl (hb hby own_d3_0) rfl rfl k) ?_
  show G (s₁.setTop (mkF m 1 #[.val (.ref a)] [(.ref a)]))
  obtain ⟨T1, X1, e1, st1⟩ := initO X0 hx hZ hown (hw _ (List.mem_of_getElem? (i := 18) rfl)) (hw _ (List.mem_of_getElem? (i := 19) rfl)) (hw _ (List.mem_of_getElem? (i := 20) rfl)) e0 (g := (mkF m 1 #[.val (.ref a)] [(.ref a)])) rfl (by rw [hml]; rfl) rfl (hb hby own_d3_1) (by decide) (W := 0) (by show 2 * 0 + _ ≤ _; exact Nat.le_of_eq rfl) (by decide)
  refine hG _ _ st1 ?_
  show G (T1.setTop (mkF m 4 #[.val (.ref a)] []))
  exact own_retV hR hret X1 hx (hb hby own_d3_4) (by decide) (by decide) (by rw [e1]; exact ⟨rfl, N0, rfl⟩)
theorem own_pd1 : parseMethodDescriptor "([BII)V" = some ⟨[(.array .byte), .int, .int], none⟩ := by decide +kernel
set_option maxRecDepth 65536 in
set_option maxHeartbeats 40000000 in
theorem own_put (l : Launch) (Z : State) (a0 : Array Value) (hw : ∀ d ∈ tables_1, d.before a0 Z = true) (b : Addr) (kb : ClassId) (M : Nat) (vs : List Value) (i : Nat) (ch : Int32) (h0 : Heap) (O0 : own_Old Z h0) (g0_V : Arv Z h0 b kb .byte (Int32.ofNat M) vs (.int (0 : Int32))) (g1_G : Z.heap.size ≤ b) (g2_hM : M < 2147483648) (g3_hi : 2 * i + 1 < M) (g4_hl : vs.length = M) (g5_S : Sta Z Z.heap "java/lang/StringUTF16" "$assertionsDisabled" "Z" (.int (1 : Int32))) (g6_S : Sta Z Z.heap "java/lang/StringUTF16" "HI_BYTE_SHIFT" "I" (.int (0 : Int32))) (g7_S : Sta Z Z.heap "java/lang/StringUTF16" "LO_BYTE_SHIFT" "I" (.int (8 : Int32))) :
    own_Con l Z (⟨"java/lang/StringUTF16", "putChar", "([BII)V"⟩ : MethodName) jdk_52_method_4_code 3 none [] ({ frames := 0, cells := 0, slots := 0, locals := 0 } : Room) #[(.ref b), (.int (Int32.ofNat i)), (.int ch)] h0 (fun rv rh rL => rv = none ∧ own_Fr Z rL ∧ Keep h0 rh [b] ∧ (Arv Z rh b kb .byte (Int32.ofNat M) ((vs.set (2 * i) (.int (own_lo ch))).set (2 * i + 1) (.int (own_hi ch))) (.int (0 : Int32)))) := by
  refine own_intro (plainFor_of_name (by first | (simp [plainName, overriddenIn]; done) | decide +kernel)) ?_
  intro p e s m below meth c s₁ G hx hby hml hown hnm hret hZ X0 e0 hG hR
  have N0 := Fr.nil Z.heap.size
  refine own_entry (Ls := #[.val (.ref b), .val (.int (Int32.ofNat i)), .val (.int ch)]) (by first | (simp [entryFrame, mkF, argsToLocals, Value.category]; done) | rfl) ?_
  show G (s₁.setTop (mkF m 0 #[.val (.ref b), .val (.int (Int32.ofNat i)), .val (.int ch)] []))
  obtain ⟨T1, X1, e1, st1⟩ := getS2 X0 hx hZ hown (host := "") (Or.inl (hw _ (List.mem_of_getElem? (i := 128) rfl))) Via.refl e0 (own_sta g5_S O0) (g := (mkF m 0 #[.val (.ref b), .val (.int (Int32.ofNat i)), .val (.int ch)] [])) rfl (hb hby own_d24_0)
  refine hG _ _ st1 ?_
  show G (T1.setTop (mkF m 3 #[.val (.ref b), .val (.int (Int32.ofNat i)), .val (.int ch)] [(.int (1 : Int32))]))
  refine hG _ _ (fun t k => XS.ifYes X1.here hx rfl (pc0 := 3) (pc' := 28) rfl (hb hby own_d24_3) rfl ((if0 _ _).trans (feq (by decide)).2) (by decide) (by decide) k) ?_
  show G (T1.setTop (mkF m 28 #[.val (.ref b), .val (.int (Int32.ofNat i)), .val (.int ch)] []))
  refine hG _ _ (fun t k => XS.iloadN X1.here hx rfl (hb hby own_d24_28) rfl k) ?_
  show G (T1.setTop (mkF m 29 #[.val (.ref b), .val (.int (Int32.ofNat i)), .val (.int ch)] [(.int (Int32.ofNat i))]))
  refine hG _ _ (fun t k => XS.iconst X1.here hx rfl (hb hby own_d24_29) k) ?_
  show G (T1.setTop (mkF m 30 #[.val (.ref b), .val (.int (Int32.ofNat i)), .val (.int ch)] [(.int (1 : Int32)), (.int (Int32.ofNat i))]))
  refine hG _ _ (fun t k => XS.ishl X1.here hx rfl (hb hby own_d24_30) rfl k) ?_
  show G (T1.setTop (mkF m 31 #[.val (.ref b), .val (.int (Int32.ofNat i)), .val (.int ch)] [(.int ((Int32.ofNat i) <<< ((1 : Int32) &&& 31)))]))
  refine hG _ _ (fun t k => XS.istoreN X1.here hx rfl (hb hby own_d24_31) rfl (l' := #[.val (.ref b), .val (.int ((Int32.ofNat i) <<< ((1 : Int32) &&& 31))), .val (.int ch)]) rfl k) ?_
  show G (T1.setTop (mkF m 32 #[.val (.ref b), .val (.int ((Int32.ofNat i) <<< ((1 : Int32) &&& 31))), .val (.int ch)] []))
  rw [own_shl1 i]
  show G (T1.setTop (mkF m 32 #[.val (.ref b), .val (.int (Int32.ofNat (2 * i))), .val (.int ch)] []))
  refine hG _ _ (fun t k => XS.aloadN X1.here hx rfl (hb hby own_d24_32) rfl rfl k) ?_
  show G (T1.setTop (mkF m 33 #[.val (.ref b), .val (.int (Int32.ofNat (2 * i))), .val (.int ch)] [(.ref b)]))
  refine hG _ _ (fun t k => XS.iloadN X1.here hx rfl (hb hby own_d24_33) rfl k) ?_
  show G (T1.setTop (mkF m 34 #[.val (.ref b), .val (.int (Int32.ofNat (2 * i))), .val (.int ch)] [(.int (Int32.ofNat (2 * i))), (.ref b)]))
  refine hG _ _ (fun t k => XS.iinc X1.here hx rfl (hb hby own_d24_34) rfl (l' := #[.val (.ref b), .val (.int ((Int32.ofNat (2 * i)) + (1 : Int32))), .val (.int ch)]) rfl k) ?_
  show G (T1.setTop (mkF m 37 #[.val (.ref b), .val (.int ((Int32.ofNat (2 * i)) + (1 : Int32))), .val (.int ch)] [(.int (Int32.ofNat (2 * i))), (.ref b)]))
  rw [own_inc (2 * i)]
  show G (T1.setTop (mkF m 37 #[.val (.ref b), .val (.int (Int32.ofNat (2 * i + 1))), .val (.int ch)] [(.int (Int32.ofNat (2 * i))), (.ref b)]))
  refine hG _ _ (fun t k => XS.iloadN X1.here hx rfl (hb hby own_d24_37) rfl k) ?_
  show G (T1.setTop (mkF m 38 #[.val (.ref b), .val (.int (Int32.ofNat (2 * i + 1))), .val (.int ch)] [(.int ch), (.int (Int32.ofNat (2 * i))), (.ref b)]))
  obtain ⟨T2, X2, e2, st2⟩ := getS2 X1 hx hZ hown (host := "") (Or.inl (hw _ (List.mem_of_getElem? (i := 129) rfl))) Via.refl e1 (own_sta g6_S O0) (g := (mkF m 38 #[.val (.ref b), .val (.int (Int32.ofNat (2 * i + 1))), .val (.int ch)] [(.int ch), (.int (Int32.ofNat (2 * i))), (.ref b)])) rfl (hb hby own_d24_38)
  refine hG _ _ st2 ?_
  show G (T2.setTop (mkF m 41 #[.val (.ref b), .val (.int (Int32.ofNat (2 * i + 1))), .val (.int ch)] [(.int (0 : Int32)), (.int ch), (.int (Int32.ofNat (2 * i))), (.ref b)]))
  refine hG _ _ (fun t k => XS.ishr X2.here hx rfl (hb hby own_d24_41) rfl k) ?_
  show G (T2.setTop (mkF m 42 #[.val (.ref b), .val (.int (Int32.ofNat (2 * i + 1))), .val (.int ch)] [(.int (ch >>> ((0 : Int32) &&& 31))), (.int (Int32.ofNat (2 * i))), (.ref b)]))
  refine hG _ _ (fun t k => XS.i2b X2.here hx rfl (hb hby own_d24_42) rfl k) ?_
  show G (T2.setTop (mkF m 43 #[.val (.ref b), .val (.int (Int32.ofNat (2 * i + 1))), .val (.int ch)] [(.int ((ch >>> ((0 : Int32) &&& 31)).toInt8.toInt32)), (.int (Int32.ofNat (2 * i))), (.ref b)]))
  obtain ⟨c3, Ar3, q3, S3, M3, H3, G3⟩ := id g0_V
  obtain ⟨T3, h3, X3, e3, W3, st3⟩ := stB X2 hx hZ e2 Ar3 (j := (Int32.ofNat (2 * i))) (inb_of S3 ⟨own_nn (by omega), own_lt (by omega) g2_hM⟩) (g := (mkF m 43 #[.val (.ref b), .val (.int (Int32.ofNat (2 * i + 1))), .val (.int ch)] [(.int ((ch >>> ((0 : Int32) &&& 31)).toInt8.toInt32)), (.int (Int32.ofNat (2 * i))), (.ref b)])) rfl rfl (hb hby own_d24_43)
  refine hG _ _ st3 ?_
  have K3 : Keep h0 h3 [b] := (Keep.refl h0 [b]).wr W3 (Or.inl (List.mem_of_getElem? (i := 0) rfl))
  have O3 : own_Old Z h3 := O0.wr W3 g1_G
  have V3 : Arv Z h3 b kb .byte (Int32.ofNat M) (vs.set (2 * i) (.int (nar .byte ((ch >>> ((0 : Int32) &&& 31)).toInt8.toInt32)))) (.int (0 : Int32)) := Arv.set Ar3 q3 S3 M3 H3 G3 (fits_nar_byte _) W3 (2 * i) (own_clamp (by omega)) (by omega)
  have N3 := Fr.snoc X3 N0 g1_G
  show G (T3.setTop (mkF m 44 #[.val (.ref b), .val (.int (Int32.ofNat (2 * i + 1))), .val (.int ch)] []))
  refine hG _ _ (fun t k => XS.aloadN X3.here hx rfl (hb hby own_d24_44) rfl rfl k) ?_
  show G (T3.setTop (mkF m 45 #[.val (.ref b), .val (.int (Int32.ofNat (2 * i + 1))), .val (.int ch)] [(.ref b)]))
  refine hG _ _ (fun t k => XS.iloadN X3.here hx rfl (hb hby own_d24_45) rfl k) ?_
  show G (T3.setTop (mkF m 46 #[.val (.ref b), .val (.int (Int32.ofNat (2 * i + 1))), .val (.int ch)] [(.int (Int32.ofNat (2 * i + 1))), (.ref b)]))
  refine hG _ _ (fun t k => XS.iloadN X3.here hx rfl (hb hby own_d24_46) rfl k) ?_
  show G (T3.setTop (mkF m 47 #[.val (.ref b), .val (.int (Int32.ofNat (2 * i + 1))), .val (.int ch)] [(.int ch), (.int (Int32.ofNat (2 * i + 1))), (.ref b)]))
  obtain ⟨T4, X4, e4, st4⟩ := getS2 X3 hx hZ hown (host := "") (Or.inl (hw _ (List.mem_of_getElem? (i := 130) rfl))) Via.refl e3 (own_sta g7_S O3) (g := (mkF m 47 #[.val (.ref b), .val (.int (Int32.ofNat (2 * i + 1))), .val (.int ch)] [(.int ch), (.int (Int32.ofNat (2 * i + 1))), (.ref b)])) rfl (hb hby own_d24_47)
  refine hG _ _ st4 ?_
  show G (T4.setTop (mkF m 50 #[.val (.ref b), .val (.int (Int32.ofNat (2 * i + 1))), .val (.int ch)] [(.int (8 : Int32)), (.int ch), (.int (Int32.ofNat (2 * i + 1))), (.ref b)]))
  refine hG _ _ (fun t k => XS.ishr X4.here hx rfl (hb hby own_d24_50) rfl k) ?_
  show G (T4.setTop (mkF m 51 #[.val (.ref b), .val (.int (Int32.ofNat (2 * i + 1))), .val (.int ch)] [(.int (ch >>> ((8 : Int32) &&& 31))), (.int (Int32.ofNat (2 * i + 1))), (.ref b)]))
  refine hG _ _ (fun t k => XS.i2b X4.here hx rfl (hb hby own_d24_51) rfl k) ?_
  show G (T4.setTop (mkF m 52 #[.val (.ref b), .val (.int (Int32.ofNat (2 * i + 1))), .val (.int ch)] [(.int ((ch >>> ((8 : Int32) &&& 31)).toInt8.toInt32)), (.int (Int32.ofNat (2 * i + 1))), (.ref b)]))
  obtain ⟨c5, Ar5, q5, S5, M5, H5, G5⟩ := id V3
  obtain ⟨T5, h5, X5, e5, W5, st5⟩ := stB X4 hx hZ e4 Ar5 (j := (Int32.ofNat (2 * i + 1))) (inb_of S5 ⟨own_nn (by omega), own_lt (by omega) g2_hM⟩) (g := (mkF m 52 #[.val (.ref b), .val (.int (Int32.ofNat (2 * i + 1))), .val (.int ch)] [(.int ((ch >>> ((8 : Int32) &&& 31)).toInt8.toInt32)), (.int (Int32.ofNat (2 * i + 1))), (.ref b)])) rfl rfl (hb hby own_d24_52)
  refine hG _ _ st5 ?_
  have K5 : Keep h0 h5 [b] := K3.wr W5 (Or.inl (List.mem_of_getElem? (i := 0) rfl))
  have O5 : own_Old Z h5 := O3.wr W5 g1_G
  have V5 : Arv Z h5 b kb .byte (Int32.ofNat M) ((vs.set (2 * i) (.int (nar .byte ((ch >>> ((0 : Int32) &&& 31)).toInt8.toInt32)))).set (2 * i + 1) (.int (nar .byte ((ch >>> ((8 : Int32) &&& 31)).toInt8.toInt32)))) (.int (0 : Int32)) := Arv.set Ar5 q5 S5 M5 H5 G5 (fits_nar_byte _) W5 (2 * i + 1) (own_clamp (by omega)) (by rw [List.length_set]; omega)
  have N5 := Fr.snoc X5 N3 g1_G
  show G (T5.setTop (mkF m 53 #[.val (.ref b), .val (.int (Int32.ofNat (2 * i + 1))), .val (.int ch)] []))
  exact own_retV hR hret X5 hx (hb hby own_d24_53) (by decide) (by decide) (by rw [e5]; exact ⟨rfl, N5, K5, V5⟩)
theorem own_pd2 : parseMethodDescriptor "([BI)C" = some ⟨[(.array .byte), .int], some .char⟩ := by decide +kernel
set_option maxRecDepth 65536 in
set_option maxHeartbeats 40000000 in
theorem own_gch (l : Launch) (Z : State) (a0 : Array Value) (hw : ∀ d ∈ tables_1, d.before a0 Z = true) (b : Addr) (kb : ClassId) (M : Nat) (vs : List Value) (i : Nat) (x : Int32) (y : Int32) (h0 : Heap) (O0 : own_Old Z h0) (g0_V : Arv Z h0 b kb .byte (Int32.ofNat M) vs (.int (0 : Int32))) (g1_hM : M < 2147483648) (g2_hi : 2 * i + 1 < M) (g3_hx : vs.getD (2 * i) (.int (0 : Int32)) = .int x) (g4_hy : vs.getD (2 * i + 1) (.int (0 : Int32)) = .int y) (g5_S : Sta Z Z.heap "java/lang/StringUTF16" "$assertionsDisabled" "Z" (.int (1 : Int32))) (g6_S : Sta Z Z.heap "java/lang/StringUTF16" "HI_BYTE_SHIFT" "I" (.int (0 : Int32))) (g7_S : Sta Z Z.heap "java/lang/StringUTF16" "LO_BYTE_SHIFT" "I" (.int (8 : Int32))) :
    own_Con l Z (⟨"java/lang/StringUTF16", "getChar", "([BI)C"⟩ : MethodName) jdk_52_method_5_code 2 (some .char) [] ({ frames := 0, cells := 0, slots := 0, locals := 0 } : Room) #[(.ref b), (.int (Int32.ofNat i))] h0 (fun rv rh rL => rv = some (.int (own_join x y)) ∧ own_Fr Z rL ∧ h0 = rh) := by
  refine own_intro (plainFor_of_name (by first | (simp [plainName, overriddenIn]; done) | decide +kernel)) ?_
  intro p e s m below meth c s₁ G hx hby hml hown hnm hret hZ X0 e0 hG hR
  have N0 := Fr.nil Z.heap.size
  refine own_entry (Ls := #[.val (.ref b), .val (.int (Int32.ofNat i))]) (by first | (simp [entryFrame, mkF, argsToLocals, Value.category]; done) | rfl) ?_
  show G (s₁.setTop (mkF m 0 #[.val (.ref b), .val (.int (Int32.ofNat i))] []))
  obtain ⟨T1, X1, e1, st1⟩ := getS2 X0 hx hZ hown (host := "") (Or.inl (hw _ (List.mem_of_getElem? (i := 128) rfl))) Via.refl e0 (own_sta g5_S O0) (g := (mkF m 0 #[.val (.ref b), .val (.int (Int32.ofNat i))] [])) rfl (hb hby own_d25_0)
  refine hG _ _ st1 ?_
  show G (T1.setTop (mkF m 3 #[.val (.ref b), .val (.int (Int32.ofNat i))] [(.int (1 : Int32))]))
  refine hG _ _ (fun t k => XS.ifYes X1.here hx rfl (pc0 := 3) (pc' := 28) rfl (hb hby own_d25_3) rfl ((if0 _ _).trans (feq (by decide)).2) (by decide) (by decide) k) ?_
  show G (T1.setTop (mkF m 28 #[.val (.ref b), .val (.int (Int32.ofNat i))] []))
  refine hG _ _ (fun t k => XS.iloadN X1.here hx rfl (hb hby own_d25_28) rfl k) ?_
  show G (T1.setTop (mkF m 29 #[.val (.ref b), .val (.int (Int32.ofNat i))] [(.int (Int32.ofNat i))]))
  refine hG _ _ (fun t k => XS.iconst X1.here hx rfl (hb hby own_d25_29) k) ?_
  show G (T1.setTop (mkF m 30 #[.val (.ref b), .val (.int (Int32.ofNat i))] [(.int (1 : Int32)), (.int (Int32.ofNat i))]))
  refine hG _ _ (fun t k => XS.ishl X1.here hx rfl (hb hby own_d25_30) rfl k) ?_
  show G (T1.setTop (mkF m 31 #[.val (.ref b), .val (.int (Int32.ofNat i))] [(.int ((Int32.ofNat i) <<< ((1 : Int32) &&& 31)))]))
  refine hG _ _ (fun t k => XS.istoreN X1.here hx rfl (hb hby own_d25_31) rfl (l' := #[.val (.ref b), .val (.int ((Int32.ofNat i) <<< ((1 : Int32) &&& 31)))]) rfl k) ?_
  show G (T1.setTop (mkF m 32 #[.val (.ref b), .val (.int ((Int32.ofNat i) <<< ((1 : Int32) &&& 31)))] []))
  rw [own_shl1 i]
  show G (T1.setTop (mkF m 32 #[.val (.ref b), .val (.int (Int32.ofNat (2 * i)))] []))
  refine hG _ _ (fun t k => XS.aloadN X1.here hx rfl (hb hby own_d25_32) rfl rfl k) ?_
  show G (T1.setTop (mkF m 33 #[.val (.ref b), .val (.int (Int32.ofNat (2 * i)))] [(.ref b)]))
  refine hG _ _ (fun t k => XS.iloadN X1.here hx rfl (hb hby own_d25_33) rfl k) ?_
  show G (T1.setTop (mkF m 34 #[.val (.ref b), .val (.int (Int32.ofNat (2 * i)))] [(.int (Int32.ofNat (2 * i))), (.ref b)]))
  refine hG _ _ (fun t k => XS.iinc X1.here hx rfl (hb hby own_d25_34) rfl (l' := #[.val (.ref b), .val (.int ((Int32.ofNat (2 * i)) + (1 : Int32)))]) rfl k) ?_
  show G (T1.setTop (mkF m 37 #[.val (.ref b), .val (.int ((Int32.ofNat (2 * i)) + (1 : Int32)))] [(.int (Int32.ofNat (2 * i))), (.ref b)]))
  rw [own_inc (2 * i)]
  show G (T1.setTop (mkF m 37 #[.val (.ref b), .val (.int (Int32.ofNat (2 * i + 1)))] [(.int (Int32.ofNat (2 * i))), (.ref b)]))
  obtain ⟨c2, Ar2, q2, S2, M2, H2, G2⟩ := id g0_V
  have hin2 : ¬ ((Int32.ofNat (2 * i)) < 0 ∨ c2.slots.size ≤ (Int32.ofNat (2 * i)).toNatClampNeg) := inb_of S2 ⟨own_nn (by omega), own_lt (by omega) g1_hM⟩
  refine hG _ _ (X1.baloadBytes hx (j := (Int32.ofNat (2 * i))) (v := (.int x)) (by rw [e1]; exact Ar2.1) (State.isArrayOf_alike hZ.alike Ar2.2.1) Ar2.2.2 hin2 (Has.at H2 hin2 (by rw [own_clamp (by omega)]; exact g3_hx)) (g := (mkF m 37 #[.val (.ref b), .val (.int (Int32.ofNat (2 * i + 1)))] [(.int (Int32.ofNat (2 * i))), (.ref b)])) rfl rfl (hb hby own_d25_37)) ?_
  show G (T1.setTop (mkF m 38 #[.val (.ref b), .val (.int (Int32.ofNat (2 * i + 1)))] [(.int x)]))
  refine hG _ _ (fun t k => XS.sipush X1.here hx rfl (hb hby own_d25_38) k) ?_
  show G (T1.setTop (mkF m 41 #[.val (.ref b), .val (.int (Int32.ofNat (2 * i + 1)))] [(.int (255 : Int32)), (.int x)]))
  refine hG _ _ (fun t k => XS.iand X1.here hx rfl (hb hby own_d25_41) rfl k) ?_
  show G (T1.setTop (mkF m 42 #[.val (.ref b), .val (.int (Int32.ofNat (2 * i + 1)))] [(.int (x &&& (255 : Int32)))]))
  obtain ⟨T3, X3, e3, st3⟩ := getS2 X1 hx hZ hown (host := "") (Or.inl (hw _ (List.mem_of_getElem? (i := 129) rfl))) Via.refl e1 (own_sta g6_S O0) (g := (mkF m 42 #[.val (.ref b), .val (.int (Int32.ofNat (2 * i + 1)))] [(.int (x &&& (255 : Int32)))])) rfl (hb hby own_d25_42)
  refine hG _ _ st3 ?_
  show G (T3.setTop (mkF m 45 #[.val (.ref b), .val (.int (Int32.ofNat (2 * i + 1)))] [(.int (0 : Int32)), (.int (x &&& (255 : Int32)))]))
  refine hG _ _ (fun t k => XS.ishl X3.here hx rfl (hb hby own_d25_45) rfl k) ?_
  show G (T3.setTop (mkF m 46 #[.val (.ref b), .val (.int (Int32.ofNat (2 * i + 1)))] [(.int ((x &&& (255 : Int32)) <<< ((0 : Int32) &&& 31)))]))
  refine hG _ _ (fun t k => XS.aloadN X3.here hx rfl (hb hby own_d25_46) rfl rfl k) ?_
  show G (T3.setTop (mkF m 47 #[.val (.ref b), .val (.int (Int32.ofNat (2 * i + 1)))] [(.ref b), (.int ((x &&& (255 : Int32)) <<< ((0 : Int32) &&& 31)))]))
  refine hG _ _ (fun t k => XS.iloadN X3.here hx rfl (hb hby own_d25_47) rfl k) ?_
  show G (T3.setTop (mkF m 48 #[.val (.ref b), .val (.int (Int32.ofNat (2 * i + 1)))] [(.int (Int32.ofNat (2 * i + 1))), (.ref b), (.int ((x &&& (255 : Int32)) <<< ((0 : Int32) &&& 31)))]))
  obtain ⟨c4, Ar4, q4, S4, M4, H4, G4⟩ := id g0_V
  have hin4 : ¬ ((Int32.ofNat (2 * i + 1)) < 0 ∨ c4.slots.size ≤ (Int32.ofNat (2 * i + 1)).toNatClampNeg) := inb_of S4 ⟨own_nn (by omega), own_lt (by omega) g1_hM⟩
  refine hG _ _ (X3.baloadBytes hx (j := (Int32.ofNat (2 * i + 1))) (v := (.int y)) (by rw [e3]; exact Ar4.1) (State.isArrayOf_alike hZ.alike Ar4.2.1) Ar4.2.2 hin4 (Has.at H4 hin4 (by rw [own_clamp (by omega)]; exact g4_hy)) (g := (mkF m 48 #[.val (.ref b), .val (.int (Int32.ofNat (2 * i + 1)))] [(.int (Int32.ofNat (2 * i + 1))), (.ref b), (.int ((x &&& (255 : Int32)) <<< ((0 : Int32) &&& 31)))])) rfl rfl (hb hby own_d25_48)) ?_
  show G (T3.setTop (mkF m 49 #[.val (.ref b), .val (.int (Int32.ofNat (2 * i + 1)))] [(.int y), (.int ((x &&& (255 : Int32)) <<< ((0 : Int32) &&& 31)))]))
  refine hG _ _ (fun t k => XS.sipush X3.here hx rfl (hb hby own_d25_49) k) ?_
  show G (T3.setTop (mkF m 52 #[.val (.ref b), .val (.int (Int32.ofNat (2 * i + 1)))] [(.int (255 : Int32)), (.int y), (.int ((x &&& (255 : Int32)) <<< ((0 : Int32) &&& 31)))]))
  refine hG _ _ (fun t k => XS.iand X3.here hx rfl (hb hby own_d25_52) rfl k) ?_
  show G (T3.setTop (mkF m 53 #[.val (.ref b), .val (.int (Int32.ofNat (2 * i + 1)))] [(.int (y &&& (255 : Int32))), (.int ((x &&& (255 : Int32)) <<< ((0 : Int32) &&& 31)))]))
  obtain ⟨T5, X5, e5, st5⟩ := getS2 X3 hx hZ hown (host := "") (Or.inl (hw _ (List.mem_of_getElem? (i := 130) rfl))) Via.refl e3 (own_sta g7_S O0) (g := (mkF m 53 #[.val (.ref b), .val (.int (Int32.ofNat (2 * i + 1)))] [(.int (y &&& (255 : Int32))), (.int ((x &&& (255 : Int32)) <<< ((0 : Int32) &&& 31)))])) rfl (hb hby own_d25_53)
  refine hG _ _ st5 ?_
  show G (T5.setTop (mkF m 56 #[.val (.ref b), .val (.int (Int32.ofNat (2 * i + 1)))] [(.int (8 : Int32)), (.int (y &&& (255 : Int32))), (.int ((x &&& (255 : Int32)) <<< ((0 : Int32) &&& 31)))]))
  refine hG _ _ (fun t k => XS.ishl X5.here hx rfl (hb hby own_d25_56) rfl k) ?_
  show G (T5.setTop (mkF m 57 #[.val (.ref b), .val (.int (Int32.ofNat (2 * i + 1)))] [(.int ((y &&& (255 : Int32)) <<< ((8 : Int32) &&& 31))), (.int ((x &&& (255 : Int32)) <<< ((0 : Int32) &&& 31)))]))
  refine hG _ _ (fun t k => XS.ior X5.here hx rfl (hb hby own_d25_57) rfl k) ?_
  show G (T5.setTop (mkF m 58 #[.val (.ref b), .val (.int (Int32.ofNat (2 * i + 1)))] [(.int (((x &&& (255 : Int32)) <<< ((0 : Int32) &&& 31)) ||| ((y &&& (255 : Int32)) <<< ((8 : Int32) &&& 31))))]))
  refine hG _ _ (fun t k => XS.i2c X5.here hx rfl (hb hby own_d25_58) rfl k) ?_
  show G (T5.setTop (mkF m 59 #[.val (.ref b), .val (.int (Int32.ofNat (2 * i + 1)))] [(.int ((((x &&& (255 : Int32)) <<< ((0 : Int32) &&& 31)) ||| ((y &&& (255 : Int32)) <<< ((8 : Int32) &&& 31))).toUInt32.toUInt16.toUInt32.toInt32))]))
  exact own_retN hR hret (by simp) X5 hx (hb hby own_d25_59) (by decide) (by decide) (by rw [e5]; exact ⟨rfl, N0, rfl⟩)
theorem own_pd3 : parseMethodDescriptor "([CI[BII)I" = some ⟨[(.array .char), .int, (.array .byte), .int, .int], some .int⟩ := by decide +kernel
set_option maxRecDepth 65536 in
set_option maxHeartbeats 40000000 in
theorem own_gcmp5 (l : Launch) (Z : State) (a0 : Array Value) (hw : ∀ d ∈ tables_1, d.before a0 Z = true) (a : Addr) (b : Addr) (ka : ClassId) (kb : ClassId) (cs : List Int32) (h0 : Heap) (O0 : own_Old Z h0) (g0_V : Arv Z h0 a ka .char (Int32.ofNat cs.length) (cs.map Value.int) (.int (0 : Int32))) (g1_V : Arv Z h0 b kb .byte (Int32.ofNat cs.length) [] (.int (0 : Int32))) (g2_G : Z.heap.size ≤ b) (g3_hne : a ≠ b) (g4_hlen : cs.length < 2147483648) :
    own_Con l Z (⟨"java/lang/StringUTF16", "compress", "([CI[BII)I"⟩ : MethodName) jdk_52_method_21_code 7 (some .int) [] ({ frames := 0, cells := 0, slots := 0, locals := 0 } : Room) #[(.ref a), (.int (0 : Int32)), (.ref b), (.int (0 : Int32)), (.int (Int32.ofNat cs.length))] h0 (fun rv rh rL => ∃ (r : Int32) (vs : List Value), rv = some (.int r) ∧ own_Fr Z rL ∧ Keep h0 rh [b] ∧ (Arv Z rh b kb .byte (Int32.ofNat cs.length) vs (.int (0 : Int32))) ∧ ((r = (Int32.ofNat cs.length) ∧ (∀ c ∈ cs, ¬ ((255 : Int32) < c)) ∧ vs = (cs.map fun c => Value.int c.toInt8.toInt32)) ∨ (∃ k, k < cs.length ∧ r = Int32.ofNat k ∧ (255 : Int32) < cs.getD k 0))) := by
  refine own_intro (plainFor_of_name (by first | (simp [plainName, overriddenIn]; done) | decide +kernel)) ?_
  intro p e s m below meth c s₁ G hx hby hml hown hnm hret hZ X0 e0 hG hR
  have N0 := Fr.nil Z.heap.size
  refine own_entry (Ls := #[.val (.ref a), .val (.int (0 : Int32)), .val (.ref b), .val (.int (0 : Int32)), .val (.int (Int32.ofNat cs.length)), .unset, .unset]) (by first | (simp [entryFrame, mkF, argsToLocals, Value.category]; done) | rfl) ?_
  show G (s₁.setTop (mkF m 0 #[.val (.ref a), .val (.int (0 : Int32)), .val (.ref b), .val (.int (0 : Int32)), .val (.int (Int32.ofNat cs.length)), .unset, .unset] []))
  refine hG _ _ (fun t k => XS.iconst X0.here hx rfl (hb hby own_d20_0) k) ?_
  show G (s₁.setTop (mkF m 1 #[.val (.ref a), .val (.int (0 : Int32)), .val (.ref b), .val (.int (0 : Int32)), .val (.int (Int32.ofNat cs.length)), .unset, .unset] [(.int (0 : Int32))]))
  refine hG _ _ (fun t k => XS.istore X0.here hx rfl (hb hby own_d20_1) rfl (l' := #[.val (.ref a), .val (.int (0 : Int32)), .val (.ref b), .val (.int (0 : Int32)), .val (.int (Int32.ofNat cs.length)), .val (.int (0 : Int32)), .unset]) rfl k) ?_
  show G (s₁.setTop (mkF m 3 #[.val (.ref a), .val (.int (0 : Int32)), .val (.ref b), .val (.int (0 : Int32)), .val (.int (Int32.ofNat cs.length)), .val (.int (0 : Int32)), .unset] []))
  have loop : ∀ (r i : Nat) (T : State) (locs : List Loc) (hT : Heap) (vs : List Value) (ch : Slot), r + i = cs.length → Stand p l e ({ frames := 0, cells := 0, slots := 0, locals := 0 } : Room) s m #[(.ref a), (.int (0 : Int32)), (.ref b), (.int (0 : Int32)), (.int (Int32.ofNat cs.length))] below meth c T locs 0 0 → T.heap = hT → Keep h0 hT [b] → own_Old Z hT → own_Fr Z locs → Arv Z hT b kb .byte (Int32.ofNat cs.length) vs (.int (0 : Int32)) → vs.length = cs.length → (∀ j, j < i → vs.getD j (.int (0 : Int32)) = Value.int (cs.getD j 0).toInt8.toInt32) → (∀ j, j < i → ¬ ((255 : Int32) < cs.getD j 0)) → One ch → G (T.setTop (mkF m 3 #[.val (.ref a), .val (.int (Int32.ofNat i)), .val (.ref b), .val (.int (Int32.ofNat i)), .val (.int (Int32.ofNat cs.length)), .val (.int (Int32.ofNat i)), ch] [])) := by
    intro r
    induction r with
    | zero =>
      intro i T locs hT vs ch hri X eT K O N V hl hv hs hch
      have hi : i = cs.length := by omega
      subst hi
      have hvs := own_mapEq (fun c : Int32 => Value.int c.toInt8.toInt32) cs vs (.int (0 : Int32)) 0 hl hv
      refine hG _ _ (fun t k => XS.iload X.here hx rfl (hb hby own_d20_3) rfl k) ?_
      show G (T.setTop (mkF m 5 #[.val (.ref a), .val (.int (Int32.ofNat cs.length)), .val (.ref b), .val (.int (Int32.ofNat cs.length)), .val (.int (Int32.ofNat cs.length)), .val (.int (Int32.ofNat cs.length)), ch] [(.int (Int32.ofNat cs.length))]))
      refine hG _ _ (fun t k => XS.iload X.here hx rfl (hb hby own_d20_5) rfl k) ?_
      show G (T.setTop (mkF m 7 #[.val (.ref a), .val (.int (Int32.ofNat cs.length)), .val (.ref b), .val (.int (Int32.ofNat cs.length)), .val (.int (Int32.ofNat cs.length)), .val (.int (Int32.ofNat cs.length)), ch] [(.int (Int32.ofNat cs.length)), (.int (Int32.ofNat cs.length))]))
      refine hG _ _ (fun t k => XS.icmpYes X.here hx rfl (pc0 := 7) (pc' := 44) rfl (hb hby own_d20_7) rfl (flt (own_nlt (Nat.le_refl _) g4_hlen)).2.1 (by decide) (by decide) k) ?_
      show G (T.setTop (mkF m 44 #[.val (.ref a), .val (.int (Int32.ofNat cs.length)), .val (.ref b), .val (.int (Int32.ofNat cs.length)), .val (.int (Int32.ofNat cs.length)), .val (.int (Int32.ofNat cs.length)), ch] []))
      refine hG _ _ (fun t k => XS.iload X.here hx rfl (hb hby own_d20_44) rfl k) ?_
      show G (T.setTop (mkF m 46 #[.val (.ref a), .val (.int (Int32.ofNat cs.length)), .val (.ref b), .val (.int (Int32.ofNat cs.length)), .val (.int (Int32.ofNat cs.length)), .val (.int (Int32.ofNat cs.length)), ch] [(.int (Int32.ofNat cs.length))]))
      exact own_retI hR hret X hx (hb hby own_d20_46) (by decide) (by decide) (by rw [eT]; exact ⟨(Int32.ofNat cs.length), vs, rfl, N, K, V, (Or.inl ⟨rfl, own_allD cs 0 hs, hvs⟩)⟩)
    | succ r ih =>
      intro i T locs hT vs ch hri X eT K O N V hl hv hs hch
      have hi : i < cs.length := by omega
      refine hG _ _ (fun t k => XS.iload X.here hx rfl (hb hby own_d20_3) rfl k) ?_
      show G (T.setTop (mkF m 5 #[.val (.ref a), .val (.int (Int32.ofNat i)), .val (.ref b), .val (.int (Int32.ofNat i)), .val (.int (Int32.ofNat cs.length)), .val (.int (Int32.ofNat i)), ch] [(.int (Int32.ofNat i))]))
      refine hG _ _ (fun t k => XS.iload X.here hx rfl (hb hby own_d20_5) rfl k) ?_
      show G (T.setTop (mkF m 7 #[.val (.ref a), .val (.int (Int32.ofNat i)), .val (.ref b), .val (.int (Int32.ofNat i)), .val (.int (Int32.ofNat cs.length)), .val (.int (Int32.ofNat i)), ch] [(.int (Int32.ofNat cs.length)), (.int (Int32.ofNat i))]))
      refine hG _ _ (fun t k => XS.icmpNo X.here hx rfl (hb hby own_d20_7) rfl (tlt (own_lt hi g4_hlen)).2.1 k) ?_
      show G (T.setTop (mkF m 10 #[.val (.ref a), .val (.int (Int32.ofNat i)), .val (.ref b), .val (.int (Int32.ofNat i)), .val (.int (Int32.ofNat cs.length)), .val (.int (Int32.ofNat i)), ch] []))
      refine hG _ _ (fun t k => XS.aloadN X.here hx rfl (hb hby own_d20_10) rfl rfl k) ?_
      show G (T.setTop (mkF m 11 #[.val (.ref a), .val (.int (Int32.ofNat i)), .val (.ref b), .val (.int (Int32.ofNat i)), .val (.int (Int32.ofNat cs.length)), .val (.int (Int32.ofNat i)), ch] [(.ref a)]))
      refine hG _ _ (fun t k => XS.iloadN X.here hx rfl (hb hby own_d20_11) rfl k) ?_
      show G (T.setTop (mkF m 12 #[.val (.ref a), .val (.int (Int32.ofNat i)), .val (.ref b), .val (.int (Int32.ofNat i)), .val (.int (Int32.ofNat cs.length)), .val (.int (Int32.ofNat i)), ch] [(.int (Int32.ofNat i)), (.ref a)]))
      obtain ⟨c1, Ar1, q1, S1, M1, H1, G1⟩ := id (g0_V.keep K (ninS g3_hne nin0))
      have hin1 : ¬ ((Int32.ofNat i) < 0 ∨ c1.slots.size ≤ (Int32.ofNat i).toNatClampNeg) := inb_of S1 ⟨own_nn (by omega), own_lt hi g4_hlen⟩
      refine hG _ _ (X.caload hx (j := (Int32.ofNat i)) (v := (.int (cs.getD i 0))) (by rw [eT]; exact Ar1.1) (State.isArrayOf_alike hZ.alike Ar1.2.1) Ar1.2.2 hin1 (Has.at H1 hin1 (by rw [own_clamp (by omega)]; exact own_getD_map Value.int cs i _ 0 hi)) (g := (mkF m 12 #[.val (.ref a), .val (.int (Int32.ofNat i)), .val (.ref b), .val (.int (Int32.ofNat i)), .val (.int (Int32.ofNat cs.length)), .val (.int (Int32.ofNat i)), ch] [(.int (Int32.ofNat i)), (.ref a)])) rfl rfl (hb hby own_d20_12)) ?_
      show G (T.setTop (mkF m 13 #[.val (.ref a), .val (.int (Int32.ofNat i)), .val (.ref b), .val (.int (Int32.ofNat i)), .val (.int (Int32.ofNat cs.length)), .val (.int (Int32.ofNat i)), ch] [(.int (cs.getD i 0))]))
      refine hG _ _ (fun t k => XS.istoreS X.here hx rfl (hb hby own_d20_13) rfl rfl hch k) ?_
      show G (T.setTop (mkF m 15 #[.val (.ref a), .val (.int (Int32.ofNat i)), .val (.ref b), .val (.int (Int32.ofNat i)), .val (.int (Int32.ofNat cs.length)), .val (.int (Int32.ofNat i)), .val (.int (cs.getD i 0))] []))
      refine hG _ _ (fun t k => XS.iload X.here hx rfl (hb hby own_d20_15) rfl k) ?_
      show G (T.setTop (mkF m 17 #[.val (.ref a), .val (.int (Int32.ofNat i)), .val (.ref b), .val (.int (Int32.ofNat i)), .val (.int (Int32.ofNat cs.length)), .val (.int (Int32.ofNat i)), .val (.int (cs.getD i 0))] [(.int (cs.getD i 0))]))
      refine hG _ _ (fun t k => XS.sipush X.here hx rfl (hb hby own_d20_17) k) ?_
      show G (T.setTop (mkF m 20 #[.val (.ref a), .val (.int (Int32.ofNat i)), .val (.ref b), .val (.int (Int32.ofNat i)), .val (.int (Int32.ofNat cs.length)), .val (.int (Int32.ofNat i)), .val (.int (cs.getD i 0))] [(.int (255 : Int32)), (.int (cs.getD i 0))]))
      by_cases hc20_2 : (255 : Int32) < (cs.getD i 0)
      · skip
        refine hG _ _ (fun t k => XS.icmpNo X.here hx rfl (hb hby own_d20_20) rfl (tlt hc20_2).2.2.2 k) ?_
        show G (T.setTop (mkF m 23 #[.val (.ref a), .val (.int (Int32.ofNat i)), .val (.ref b), .val (.int (Int32.ofNat i)), .val (.int (Int32.ofNat cs.length)), .val (.int (Int32.ofNat i)), .val (.int (cs.getD i 0))] []))
        refine hG _ _ (fun t k => XS.iload X.here hx rfl (hb hby own_d20_23) rfl k) ?_
        show G (T.setTop (mkF m 25 #[.val (.ref a), .val (.int (Int32.ofNat i)), .val (.ref b), .val (.int (Int32.ofNat i)), .val (.int (Int32.ofNat cs.length)), .val (.int (Int32.ofNat i)), .val (.int (cs.getD i 0))] [(.int (Int32.ofNat i))]))
        exact own_retI hR hret X hx (hb hby own_d20_25) (by decide) (by decide) (by rw [eT]; exact ⟨(Int32.ofNat i), vs, rfl, N, K, V, (Or.inr ⟨i, hi, rfl, hc20_2⟩)⟩)
      · skip
        refine hG _ _ (fun t k => XS.icmpYes X.here hx rfl (pc0 := 20) (pc' := 26) rfl (hb hby own_d20_20) rfl (flt hc20_2).2.2.2 (by decide) (by decide) k) ?_
        show G (T.setTop (mkF m 26 #[.val (.ref a), .val (.int (Int32.ofNat i)), .val (.ref b), .val (.int (Int32.ofNat i)), .val (.int (Int32.ofNat cs.length)), .val (.int (Int32.ofNat i)), .val (.int (cs.getD i 0))] []))
        refine hG _ _ (fun t k => XS.aloadN X.here hx rfl (hb hby own_d20_26) rfl rfl k) ?_
        show G (T.setTop (mkF m 27 #[.val (.ref a), .val (.int (Int32.ofNat i)), .val (.ref b), .val (.int (Int32.ofNat i)), .val (.int (Int32.ofNat cs.length)), .val (.int (Int32.ofNat i)), .val (.int (cs.getD i 0))] [(.ref b)]))
        refine hG _ _ (fun t k => XS.iloadN X.here hx rfl (hb hby own_d20_27) rfl k) ?_
        show G (T.setTop (mkF m 28 #[.val (.ref a), .val (.int (Int32.ofNat i)), .val (.ref b), .val (.int (Int32.ofNat i)), .val (.int (Int32.ofNat cs.length)), .val (.int (Int32.ofNat i)), .val (.int (cs.getD i 0))] [(.int (Int32.ofNat i)), (.ref b)]))
        refine hG _ _ (fun t k => XS.iload X.here hx rfl (hb hby own_d20_28) rfl k) ?_
        show G (T.setTop (mkF m 30 #[.val (.ref a), .val (.int (Int32.ofNat i)), .val (.ref b), .val (.int (Int32.ofNat i)), .val (.int (Int32.ofNat cs.length)), .val (.int (Int32.ofNat i)), .val (.int (cs.getD i 0))] [(.int (cs.getD i 0)), (.int (Int32.ofNat i)), (.ref b)]))
        refine hG _ _ (fun t k => XS.i2b X.here hx rfl (hb hby own_d20_30) rfl k) ?_
        show G (T.setTop (mkF m 31 #[.val (.ref a), .val (.int (Int32.ofNat i)), .val (.ref b), .val (.int (Int32.ofNat i)), .val (.int (Int32.ofNat cs.length)), .val (.int (Int32.ofNat i)), .val (.int (cs.getD i 0))] [(.int ((cs.getD i 0).toInt8.toInt32)), (.int (Int32.ofNat i)), (.ref b)]))
        obtain ⟨c3, Ar3, q3, S3, M3, H3, G3⟩ := id V
        obtain ⟨T3, h3, X3, e3, W3, st3⟩ := stB X hx hZ eT Ar3 (j := (Int32.ofNat i)) (inb_of S3 ⟨own_nn (by omega), own_lt hi g4_hlen⟩) (g := (mkF m 31 #[.val (.ref a), .val (.int (Int32.ofNat i)), .val (.ref b), .val (.int (Int32.ofNat i)), .val (.int (Int32.ofNat cs.length)), .val (.int (Int32.ofNat i)), .val (.int (cs.getD i 0))] [(.int ((cs.getD i 0).toInt8.toInt32)), (.int (Int32.ofNat i)), (.ref b)])) rfl rfl (hb hby own_d20_31)
        refine hG _ _ st3 ?_
        have K3 : Keep h0 h3 [b] := K.wr W3 (Or.inl (List.mem_of_getElem? (i := 0) rfl))
        have O3 : own_Old Z h3 := O.wr W3 g2_G
        have V3 : Arv Z h3 b kb .byte (Int32.ofNat cs.length) (vs.set i (.int (nar .byte ((cs.getD i 0).toInt8.toInt32)))) (.int (0 : Int32)) := Arv.set Ar3 q3 S3 M3 H3 G3 (fits_nar_byte _) W3 i (own_clamp (by omega)) (by omega)
        have N3 := Fr.snoc X3 N g2_G
        show G (T3.setTop (mkF m 32 #[.val (.ref a), .val (.int (Int32.ofNat i)), .val (.ref b), .val (.int (Int32.ofNat i)), .val (.int (Int32.ofNat cs.length)), .val (.int (Int32.ofNat i)), .val (.int (cs.getD i 0))] []))
        refine hG _ _ (fun t k => XS.iinc X3.here hx rfl (hb hby own_d20_32) rfl (l' := #[.val (.ref a), .val (.int ((Int32.ofNat i) + (1 : Int32))), .val (.ref b), .val (.int (Int32.ofNat i)), .val (.int (Int32.ofNat cs.length)), .val (.int (Int32.ofNat i)), .val (.int (cs.getD i 0))]) rfl k) ?_
        show G (T3.setTop (mkF m 35 #[.val (.ref a), .val (.int ((Int32.ofNat i) + (1 : Int32))), .val (.ref b), .val (.int (Int32.ofNat i)), .val (.int (Int32.ofNat cs.length)), .val (.int (Int32.ofNat i)), .val (.int (cs.getD i 0))] []))
        refine hG _ _ (fun t k => XS.iinc X3.here hx rfl (hb hby own_d20_35) rfl (l' := #[.val (.ref a), .val (.int ((Int32.ofNat i) + (1 : Int32))), .val (.ref b), .val (.int ((Int32.ofNat i) + (1 : Int32))), .val (.int (Int32.ofNat cs.length)), .val (.int (Int32.ofNat i)), .val (.int (cs.getD i 0))]) rfl k) ?_
        show G (T3.setTop (mkF m 38 #[.val (.ref a), .val (.int ((Int32.ofNat i) + (1 : Int32))), .val (.ref b), .val (.int ((Int32.ofNat i) + (1 : Int32))), .val (.int (Int32.ofNat cs.length)), .val (.int (Int32.ofNat i)), .val (.int (cs.getD i 0))] []))
        refine hG _ _ (fun t k => XS.iinc X3.here hx rfl (hb hby own_d20_38) rfl (l' := #[.val (.ref a), .val (.int ((Int32.ofNat i) + (1 : Int32))), .val (.ref b), .val (.int ((Int32.ofNat i) + (1 : Int32))), .val (.int (Int32.ofNat cs.length)), .val (.int ((Int32.ofNat i) + (1 : Int32))), .val (.int (cs.getD i 0))]) rfl k) ?_
        show G (T3.setTop (mkF m 41 #[.val (.ref a), .val (.int ((Int32.ofNat i) + (1 : Int32))), .val (.ref b), .val (.int ((Int32.ofNat i) + (1 : Int32))), .val (.int (Int32.ofNat cs.length)), .val (.int ((Int32.ofNat i) + (1 : Int32))), .val (.int (cs.getD i 0))] []))
        refine hG _ _ (fun t k => XS.goto X3.here hx rfl (pc0 := 41) (pc' := 3) rfl (hb hby own_d20_41) (by decide) (by decide) k) ?_
        show G (T3.setTop (mkF m 3 #[.val (.ref a), .val (.int ((Int32.ofNat i) + (1 : Int32))), .val (.ref b), .val (.int ((Int32.ofNat i) + (1 : Int32))), .val (.int (Int32.ofNat cs.length)), .val (.int ((Int32.ofNat i) + (1 : Int32))), .val (.int (cs.getD i 0))] []))
        rw [own_inc i]
        exact ih (i + 1) _ _ _ _ _ (by omega) X3 e3 K3 O3 N3 V3 (by rw [List.length_set]; exact hl) (own_setNext (fun c => Value.int c.toInt8.toInt32) _ _ (by omega) (by rw [own_nb]) hv) (own_nextD (P := fun c => ¬ ((255 : Int32) < c)) hs hc20_2) (One.val rfl)
  exact loop cs.length 0 _ _ _ _ _ rfl X0 e0 (Keep.refl h0 [b]) O0 N0 (g1_V.pad (pad_rep [] (.int (0 : Int32)) cs.length)) (by simp) (fun j hj => absurd hj (Nat.not_lt_zero j)) (fun j hj => absurd hj (Nat.not_lt_zero j)) One.u
theorem own_pd4 : parseMethodDescriptor "(I)I" = some ⟨[.int], some .int⟩ := by decide +kernel
set_option maxRecDepth 65536 in
set_option maxHeartbeats 40000000 in
theorem own_nbl (l : Launch) (Z : State) (a0 : Array Value) (hw : ∀ d ∈ tables_1, d.before a0 Z = true) (n : Nat) (h0 : Heap) (O0 : own_Old Z h0) (g0_hn : n < 1073741823) :
    own_Con l Z (⟨"java/lang/StringUTF16", "newBytesLength", "(I)I"⟩ : MethodName) jdk_52_method_3_code 1 (some .int) [] ({ frames := 0, cells := 0, slots := 0, locals := 0 } : Room) #[(.int (Int32.ofNat n))] h0 (fun rv rh rL => rv = some (.int (Int32.ofNat (2 * n))) ∧ own_Fr Z rL ∧ h0 = rh) := by
  refine own_intro (plainFor_of_name (by first | (simp [plainName, overriddenIn]; done) | decide +kernel)) ?_
  intro p e s m below meth c s₁ G hx hby hml hown hnm hret hZ X0 e0 hG hR
  have N0 := Fr.nil Z.heap.size
  refine own_entry (Ls := #[.val (.int (Int32.ofNat n))]) (by first | (simp [entryFrame, mkF, argsToLocals, Value.category]; done) | rfl) ?_
  show G (s₁.setTop (mkF m 0 #[.val (.int (Int32.ofNat n))] []))
  refine hG _ _ (fun t k => XS.iloadN X0.here hx rfl (hb hby own_d23_0) rfl k) ?_
  show G (s₁.setTop (mkF m 1 #[.val (.int (Int32.ofNat n))] [(.int (Int32.ofNat n))]))
  refine hG _ _ (fun t k => XS.ifYes X0.here hx rfl (pc0 := 1) (pc' := 12) rfl (hb hby own_d23_1) rfl ((if0 _ _).trans (flt (own_nn (by omega))).2.1) (by decide) (by decide) k) ?_
  show G (s₁.setTop (mkF m 12 #[.val (.int (Int32.ofNat n))] []))
  refine hG _ _ (fun t k => XS.iloadN X0.here hx rfl (hb hby own_d23_12) rfl k) ?_
  show G (s₁.setTop (mkF m 13 #[.val (.int (Int32.ofNat n))] [(.int (Int32.ofNat n))]))
  refine hG _ _ (X0.ldcInt hx hown (mvT hZ (hw _ (List.mem_of_getElem? (i := 124) rfl))) (g := (mkF m 13 #[.val (.int (Int32.ofNat n))] [(.int (Int32.ofNat n))])) rfl (hb hby own_d23_13)) ?_
  show G (s₁.setTop (mkF m 15 #[.val (.int (Int32.ofNat n))] [(.int (1073741823 : Int32)), (.int (Int32.ofNat n))]))
  refine hG _ _ (fun t k => XS.icmpYes X0.here hx rfl (pc0 := 15) (pc' := 55) rfl (hb hby own_d23_15) rfl (tlt (own_ltK g0_hn)).1 (by decide) (by decide) k) ?_
  show G (s₁.setTop (mkF m 55 #[.val (.int (Int32.ofNat n))] []))
  refine hG _ _ (fun t k => XS.iloadN X0.here hx rfl (hb hby own_d23_55) rfl k) ?_
  show G (s₁.setTop (mkF m 56 #[.val (.int (Int32.ofNat n))] [(.int (Int32.ofNat n))]))
  refine hG _ _ (fun t k => XS.iconst X0.here hx rfl (hb hby own_d23_56) k) ?_
  show G (s₁.setTop (mkF m 57 #[.val (.int (Int32.ofNat n))] [(.int (1 : Int32)), (.int (Int32.ofNat n))]))
  refine hG _ _ (fun t k => XS.ishl X0.here hx rfl (hb hby own_d23_57) rfl k) ?_
  show G (s₁.setTop (mkF m 58 #[.val (.int (Int32.ofNat n))] [(.int ((Int32.ofNat n) <<< ((1 : Int32) &&& 31)))]))
  exact own_retI hR hret X0 hx (hb hby own_d23_58) (by decide) (by decide) (by rw [e0]; exact ⟨(by rw [own_shl1]), N0, rfl⟩)
theorem own_pd5 : parseMethodDescriptor "(I)[B" = some ⟨[.int], some (.array .byte)⟩ := by decide +kernel
set_option maxRecDepth 65536 in
set_option maxHeartbeats 40000000 in
theorem own_nbf (l : Launch) (Z : State) (a0 : Array Value) (hw : ∀ d ∈ tables_1, d.before a0 Z = true) (n : Nat) (h0 : Heap) (O0 : own_Old Z h0) (g0_hn : n ≤ 2) :
    own_Con l Z (⟨"java/lang/StringUTF16", "newBytesFor", "(I)[B"⟩ : MethodName) jdk_52_method_2_code 1 (some (.array .byte)) [] ({ frames := 1, cells := 1, slots := 4, locals := 12 } : Room) #[(.int (Int32.ofNat n))] h0 (fun rv rh rL => ∃ (t : Addr) (kt : ClassId), rv = some (.ref t) ∧ own_Fr Z rL ∧ Keep h0 rh [] ∧ h0.size ≤ t ∧ (Arv Z rh t kt .byte (Int32.ofNat (2 * n)) [] (.int (0 : Int32)))) := by
  refine own_intro (plainFor_of_name (by first | (simp [plainName, overriddenIn]; done) | decide +kernel)) ?_
  intro p e s m below meth c s₁ G hx hby hml hown hnm hret hZ X0 e0 hG hR
  have N0 := Fr.nil Z.heap.size
  refine own_entry (Ls := #[.val (.int (Int32.ofNat n))]) (by first | (simp [entryFrame, mkF, argsToLocals, Value.category]; done) | rfl) ?_
  show G (s₁.setTop (mkF m 0 #[.val (.int (Int32.ofNat n))] []))
  refine hG _ _ (fun t k => XS.iloadN X0.here hx rfl (hb hby own_d22_0) rfl k) ?_
  show G (s₁.setTop (mkF m 1 #[.val (.int (Int32.ofNat n))] [(.int (Int32.ofNat n))]))
  refine own_callS X0 hx hZ hG hown (hw _ (List.mem_of_getElem? (i := 121) rfl)) (hw _ (List.mem_of_getElem? (i := 122) rfl)) (hw _ (List.mem_of_getElem? (i := 110) rfl)) (hw _ (List.mem_of_getElem? (i := 123) rfl)) (by decide) 0 (own_nbl l Z a0 hw n h0 O0 (by omega)) (by decide) (by decide) e0 (by rw [hml]; rfl) (lenOf own_pd4 rfl) (argsL := [(.int (Int32.ofNat n))]) (rest := []) rfl rfl (Nat.le_of_eq rfl) (hb hby own_d22_1) (by decide) (by decide) ?_
  intro T1 h1 v1 L1 X1 e1 q1
  obtain ⟨rfl, M1, rfl⟩ := q1
  have N1 := Fr.app N0 M1
  show G (T1.setTop (mkF m 4 #[.val (.int (Int32.ofNat n))] [(.int (Int32.ofNat (2 * n)))]))
  obtain ⟨T2, h2, k2, X2, e2, E2, A2, st2⟩ := newP X1 hx hZ (hw _ (List.mem_of_getElem? (i := 85) rfl)) e1 (g := (mkF m 4 #[.val (.int (Int32.ofNat n))] [(.int (Int32.ofNat (2 * n)))])) rfl (hb hby own_d22_4) rfl (own_nn (by omega)) (cap := 4) (by rw [own_clamp (by omega)]; omega) (by decide) (by decide) (by decide)
  obtain ⟨b2, z2⟩ : ∃ z, z = h0.size := ⟨_, rfl⟩
  rw [← z2] at A2 st2
  refine hG _ _ st2 ?_
  have K2 : Keep h0 h2 [] := (Keep.refl h0 []).ext E2
  have O2 : own_Old Z h2 := O0.ext E2
  have V2 : Arv Z h2 b2 k2 .byte (Int32.ofNat (2 * n)) [] (.int (0 : Int32)) := Arv.new A2 (own_nn (by omega))
  show G (T2.setTop (mkF m 6 #[.val (.int (Int32.ofNat n))] [(.ref b2)]))
  exact own_retA hR hret rfl rfl X2 hx (hb hby own_d22_6) (by decide) (by decide) (by rw [e2]; exact ⟨b2, k2, rfl, N1, K2, (Nat.le_trans (Keep.refl h0 []).1 (Nat.le_of_eq z2.symm)), V2⟩)
theorem own_pd6 : parseMethodDescriptor "([CII)[B" = some ⟨[(.array .char), .int, .int], some (.array .byte)⟩ := by decide +kernel
set_option maxRecDepth 65536 in
set_option maxHeartbeats 40000000 in
theorem own_tob (l : Launch) (Z : State) (a0 : Array Value) (hw : ∀ d ∈ tables_1, d.before a0 Z = true) (a : Addr) (ka : ClassId) (cs : List Int32) (h0 : Heap) (O0 : own_Old Z h0) (g0_V : Arv Z h0 a ka .char (Int32.ofNat cs.length) (cs.map Value.int) (.int (0 : Int32))) (g1_hcap : cs.length ≤ 2) (g2_S : Sta Z Z.heap "java/lang/StringUTF16" "$assertionsDisabled" "Z" (.int (1 : Int32))) (g3_S : Sta Z Z.heap "java/lang/StringUTF16" "HI_BYTE_SHIFT" "I" (.int (0 : Int32))) (g4_S : Sta Z Z.heap "java/lang/StringUTF16" "LO_BYTE_SHIFT" "I" (.int (8 : Int32))) :
    own_Con l Z (⟨"java/lang/StringUTF16", "toBytes", "([CII)[B"⟩ : MethodName) jdk_52_method_14_code 5 (some (.array .byte)) [] ({ frames := 2, cells := 1, slots := 4, locals := 24 } : Room) #[(.ref a), (.int (0 : Int32)), (.int (Int32.ofNat cs.length))] h0 (fun rv rh rL => ∃ (t : Addr) (kt : ClassId) (vs : List Value), rv = some (.ref t) ∧ own_Fr Z rL ∧ Keep h0 rh [] ∧ h0.size ≤ t ∧ (Arv Z rh t kt .byte (Int32.ofNat (2 * cs.length)) vs (.int (0 : Int32))) ∧ (own_is16 cs vs)) := by
  refine own_intro (plainFor_of_name (by first | (simp [plainName, overriddenIn]; done) | decide +kernel)) ?_
  intro p e s m below meth c s₁ G hx hby hml hown hnm hret hZ X0 e0 hG hR
  have N0 := Fr.nil Z.heap.size
  refine own_entry (Ls := #[.val (.ref a), .val (.int (0 : Int32)), .val (.int (Int32.ofNat cs.length)), .unset, .unset]) (by first | (simp [entryFrame, mkF, argsToLocals, Value.category]; done) | rfl) ?_
  show G (s₁.setTop (mkF m 0 #[.val (.ref a), .val (.int (0 : Int32)), .val (.int (Int32.ofNat cs.length)), .unset, .unset] []))
  refine hG _ _ (fun t k => XS.iloadN X0.here hx rfl (hb hby own_d21_0) rfl k) ?_
  show G (s₁.setTop (mkF m 1 #[.val (.ref a), .val (.int (0 : Int32)), .val (.int (Int32.ofNat cs.length)), .unset, .unset] [(.int (Int32.ofNat cs.length))]))
  refine own_callS X0 hx hZ hG hown (hw _ (List.mem_of_getElem? (i := 118) rfl)) (hw _ (List.mem_of_getElem? (i := 119) rfl)) (hw _ (List.mem_of_getElem? (i := 110) rfl)) (hw _ (List.mem_of_getElem? (i := 120) rfl)) (by decide) 0 (own_nbf l Z a0 hw cs.length h0 O0 g1_hcap) (by decide) (by decide) e0 (by rw [hml]; rfl) (lenOf own_pd5 rfl) (argsL := [(.int (Int32.ofNat cs.length))]) (rest := []) rfl rfl (Nat.le_of_eq rfl) (hb hby own_d21_1) (by decide) (by decide) ?_
  intro T1 h1 v1 L1 X1 e1 q1
  obtain ⟨t_1, kt_1, rfl, M1, J1, y1_0, r1_0⟩ := q1
  have N1 := Fr.app N0 M1
  have K1 : Keep h0 h1 [] := (Keep.refl h0 []).trans J1 all0
  have O1 : own_Old Z h1 := O0.keep J1 all0
  show G (T1.setTop (mkF m 4 #[.val (.ref a), .val (.int (0 : Int32)), .val (.int (Int32.ofNat cs.length)), .unset, .unset] [(.ref t_1)]))
  refine hG _ _ (fun t k => XS.astoreN X1.here hx rfl (hb hby own_d21_4) rfl rfl (l' := #[.val (.ref a), .val (.int (0 : Int32)), .val (.int (Int32.ofNat cs.length)), .val (.ref t_1), .unset]) rfl k) ?_
  show G (T1.setTop (mkF m 5 #[.val (.ref a), .val (.int (0 : Int32)), .val (.int (Int32.ofNat cs.length)), .val (.ref t_1), .unset] []))
  refine hG _ _ (fun t k => XS.iconst X1.here hx rfl (hb hby own_d21_5) k) ?_
  show G (T1.setTop (mkF m 6 #[.val (.ref a), .val (.int (0 : Int32)), .val (.int (Int32.ofNat cs.length)), .val (.ref t_1), .unset] [(.int (0 : Int32))]))
  refine hG _ _ (fun t k => XS.istore X1.here hx rfl (hb hby own_d21_6) rfl (l' := #[.val (.ref a), .val (.int (0 : Int32)), .val (.int (Int32.ofNat cs.length)), .val (.ref t_1), .val (.int (0 : Int32))]) rfl k) ?_
  show G (T1.setTop (mkF m 8 #[.val (.ref a), .val (.int (0 : Int32)), .val (.int (Int32.ofNat cs.length)), .val (.ref t_1), .val (.int (0 : Int32))] []))
  have loop : ∀ (r i : Nat) (T : State) (locs : List Loc) (hT : Heap) (vs : List Value), r + i = cs.length → Stand p l e ({ frames := 2, cells := 1, slots := 4, locals := 24 } : Room) s m #[(.ref a), (.int (0 : Int32)), (.int (Int32.ofNat cs.length))] below meth c T locs 1 4 → T.heap = hT → Keep h0 hT [] → own_Old Z hT → own_Fr Z locs → Arv Z hT t_1 kt_1 .byte (Int32.ofNat (2 * cs.length)) vs (.int (0 : Int32)) → vs.length = 2 * cs.length → (∀ j, j < i → vs.getD (2 * j) (.int (0 : Int32)) = .int (own_lo (cs.getD j 0)) ∧ vs.getD (2 * j + 1) (.int (0 : Int32)) = .int (own_hi (cs.getD j 0))) → G (T.setTop (mkF m 8 #[.val (.ref a), .val (.int (Int32.ofNat i)), .val (.int (Int32.ofNat cs.length)), .val (.ref t_1), .val (.int (Int32.ofNat i))] [])) := by
    intro r
    induction r with
    | zero =>
      intro i T locs hT vs hri X eT K O N V hl hv
      have hi : i = cs.length := by omega
      subst hi
      refine hG _ _ (fun t k => XS.iload X.here hx rfl (hb hby own_d21_8) rfl k) ?_
      show G (T.setTop (mkF m 10 #[.val (.ref a), .val (.int (Int32.ofNat cs.length)), .val (.int (Int32.ofNat cs.length)), .val (.ref t_1), .val (.int (Int32.ofNat cs.length))] [(.int (Int32.ofNat cs.length))]))
      refine hG _ _ (fun t k => XS.iloadN X.here hx rfl (hb hby own_d21_10) rfl k) ?_
      show G (T.setTop (mkF m 11 #[.val (.ref a), .val (.int (Int32.ofNat cs.length)), .val (.int (Int32.ofNat cs.length)), .val (.ref t_1), .val (.int (Int32.ofNat cs.length))] [(.int (Int32.ofNat cs.length)), (.int (Int32.ofNat cs.length))]))
      refine hG _ _ (fun t k => XS.icmpYes X.here hx rfl (pc0 := 11) (pc' := 32) rfl (hb hby own_d21_11) rfl (flt (own_nlt (Nat.le_refl _) (by omega))).2.1 (by decide) (by decide) k) ?_
      show G (T.setTop (mkF m 32 #[.val (.ref a), .val (.int (Int32.ofNat cs.length)), .val (.int (Int32.ofNat cs.length)), .val (.ref t_1), .val (.int (Int32.ofNat cs.length))] []))
      refine hG _ _ (fun t k => XS.aloadN X.here hx rfl (hb hby own_d21_32) rfl rfl k) ?_
      show G (T.setTop (mkF m 33 #[.val (.ref a), .val (.int (Int32.ofNat cs.length)), .val (.int (Int32.ofNat cs.length)), .val (.ref t_1), .val (.int (Int32.ofNat cs.length))] [(.ref t_1)]))
      exact own_retA hR hret rfl rfl X hx (hb hby own_d21_33) (by decide) (by decide) (by rw [eT]; exact ⟨t_1, kt_1, vs, rfl, N, K, (Nat.le_trans (Keep.refl h0 []).1 y1_0), V, ⟨hl, hv⟩⟩)
    | succ r ih =>
      intro i T locs hT vs hri X eT K O N V hl hv
      have hi : i < cs.length := by omega
      refine hG _ _ (fun t k => XS.iload X.here hx rfl (hb hby own_d21_8) rfl k) ?_
      show G (T.setTop (mkF m 10 #[.val (.ref a), .val (.int (Int32.ofNat i)), .val (.int (Int32.ofNat cs.length)), .val (.ref t_1), .val (.int (Int32.ofNat i))] [(.int (Int32.ofNat i))]))
      refine hG _ _ (fun t k => XS.iloadN X.here hx rfl (hb hby own_d21_10) rfl k) ?_
      show G (T.setTop (mkF m 11 #[.val (.ref a), .val (.int (Int32.ofNat i)), .val (.int (Int32.ofNat cs.length)), .val (.ref t_1), .val (.int (Int32.ofNat i))] [(.int (Int32.ofNat cs.length)), (.int (Int32.ofNat i))]))
      refine hG _ _ (fun t k => XS.icmpNo X.here hx rfl (hb hby own_d21_11) rfl (tlt (own_lt hi (by omega))).2.1 k) ?_
      show G (T.setTop (mkF m 14 #[.val (.ref a), .val (.int (Int32.ofNat i)), .val (.int (Int32.ofNat cs.length)), .val (.ref t_1), .val (.int (Int32.ofNat i))] []))
      refine hG _ _ (fun t k => XS.aloadN X.here hx rfl (hb hby own_d21_14) rfl rfl k) ?_
      show G (T.setTop (mkF m 15 #[.val (.ref a), .val (.int (Int32.ofNat i)), .val (.int (Int32.ofNat cs.length)), .val (.ref t_1), .val (.int (Int32.ofNat i))] [(.ref t_1)]))
      refine hG _ _ (fun t k => XS.iload X.here hx rfl (hb hby own_d21_15) rfl k) ?_
      show G (T.setTop (mkF m 17 #[.val (.ref a), .val (.int (Int32.ofNat i)), .val (.int (Int32.ofNat cs.length)), .val (.ref t_1), .val (.int (Int32.ofNat i))] [(.int (Int32.ofNat i)), (.ref t_1)]))
      refine hG _ _ (fun t k => XS.aloadN X.here hx rfl (hb hby own_d21_17) rfl rfl k) ?_
      show G (T.setTop (mkF m 18 #[.val (.ref a), .val (.int (Int32.ofNat i)), .val (.int (Int32.ofNat cs.length)), .val (.ref t_1), .val (.int (Int32.ofNat i))] [(.ref a), (.int (Int32.ofNat i)), (.ref t_1)]))
      refine hG _ _ (fun t k => XS.iloadN X.here hx rfl (hb hby own_d21_18) rfl k) ?_
      show G (T.setTop (mkF m 19 #[.val (.ref a), .val (.int (Int32.ofNat i)), .val (.int (Int32.ofNat cs.length)), .val (.ref t_1), .val (.int (Int32.ofNat i))] [(.int (Int32.ofNat i)), (.ref a), (.int (Int32.ofNat i)), (.ref t_1)]))
      obtain ⟨c2, Ar2, q2, S2, M2, H2, G2⟩ := id (g0_V.keep K nin0)
      have hin2 : ¬ ((Int32.ofNat i) < 0 ∨ c2.slots.size ≤ (Int32.ofNat i).toNatClampNeg) := inb_of S2 ⟨own_nn (by omega), own_lt hi (by omega)⟩
      refine hG _ _ (X.caload hx (j := (Int32.ofNat i)) (v := (.int (cs.getD i 0))) (by rw [eT]; exact Ar2.1) (State.isArrayOf_alike hZ.alike Ar2.2.1) Ar2.2.2 hin2 (Has.at H2 hin2 (by rw [own_clamp (by omega)]; exact own_getD_map Value.int cs i _ 0 hi)) (g := (mkF m 19 #[.val (.ref a), .val (.int (Int32.ofNat i)), .val (.int (Int32.ofNat cs.length)), .val (.ref t_1), .val (.int (Int32.ofNat i))] [(.int (Int32.ofNat i)), (.ref a), (.int (Int32.ofNat i)), (.ref t_1)])) rfl rfl (hb hby own_d21_19)) ?_
      show G (T.setTop (mkF m 20 #[.val (.ref a), .val (.int (Int32.ofNat i)), .val (.int (Int32.ofNat cs.length)), .val (.ref t_1), .val (.int (Int32.ofNat i))] [(.int (cs.getD i 0)), (.int (Int32.ofNat i)), (.ref t_1)]))
      refine own_callS X hx hZ hG hown (hw _ (List.mem_of_getElem? (i := 125) rfl)) (hw _ (List.mem_of_getElem? (i := 126) rfl)) (hw _ (List.mem_of_getElem? (i := 110) rfl)) (hw _ (List.mem_of_getElem? (i := 127) rfl)) (by decide) 0 (own_put l Z a0 hw t_1 kt_1 (2 * cs.length) vs i (cs.getD i 0) hT O V (own_ge O0 y1_0) (by omega) (by omega) hl g2_S g3_S g4_S) (by decide) (by decide) eT (by rw [hml]; rfl) (lenOf own_pd1 rfl) (argsL := [(.ref t_1), (.int (Int32.ofNat i)), (.int (cs.getD i 0))]) (rest := []) rfl rfl (Nat.le_of_eq rfl) (hb hby own_d21_20) (by decide) (by decide) ?_
      intro T3 h3 v3 L3 X3 e3 q3
      obtain ⟨rfl, M3, J3, r3_0⟩ := q3
      have N3 := Fr.app N M3
      have K3 : Keep h0 h3 [] := K.trans J3 (allS (Or.inr (Nat.le_trans (Keep.refl h0 []).1 y1_0)) all0)
      have O3 : own_Old Z h3 := O.keep J3 (allS (own_ge O0 y1_0) all0)
      show G (T3.setTop (mkF m 23 #[.val (.ref a), .val (.int (Int32.ofNat i)), .val (.int (Int32.ofNat cs.length)), .val (.ref t_1), .val (.int (Int32.ofNat i))] []))
      refine hG _ _ (fun t k => XS.iinc X3.here hx rfl (hb hby own_d21_23) rfl (l' := #[.val (.ref a), .val (.int ((Int32.ofNat i) + (1 : Int32))), .val (.int (Int32.ofNat cs.length)), .val (.ref t_1), .val (.int (Int32.ofNat i))]) rfl k) ?_
      show G (T3.setTop (mkF m 26 #[.val (.ref a), .val (.int ((Int32.ofNat i) + (1 : Int32))), .val (.int (Int32.ofNat cs.length)), .val (.ref t_1), .val (.int (Int32.ofNat i))] []))
      refine hG _ _ (fun t k => XS.iinc X3.here hx rfl (hb hby own_d21_26) rfl (l' := #[.val (.ref a), .val (.int ((Int32.ofNat i) + (1 : Int32))), .val (.int (Int32.ofNat cs.length)), .val (.ref t_1), .val (.int ((Int32.ofNat i) + (1 : Int32)))]) rfl k) ?_
      show G (T3.setTop (mkF m 29 #[.val (.ref a), .val (.int ((Int32.ofNat i) + (1 : Int32))), .val (.int (Int32.ofNat cs.length)), .val (.ref t_1), .val (.int ((Int32.ofNat i) + (1 : Int32)))] []))
      refine hG _ _ (fun t k => XS.goto X3.here hx rfl (pc0 := 29) (pc' := 8) rfl (hb hby own_d21_29) (by decide) (by decide) k) ?_
      show G (T3.setTop (mkF m 8 #[.val (.ref a), .val (.int ((Int32.ofNat i) + (1 : Int32))), .val (.int (Int32.ofNat cs.length)), .val (.ref t_1), .val (.int ((Int32.ofNat i) + (1 : Int32)))] []))
      rw [own_inc i]
      exact ih (i + 1) _ _ _ _ (by omega) X3 e3 K3 O3 N3 r3_0 (by rw [List.length_set, List.length_set]; exact hl) (own_set16 hl hi hv)
  exact loop cs.length 0 _ _ _ _ rfl X1 e1 K1 O1 N1 (r1_0.pad (pad_rep [] (.int (0 : Int32)) (2 * cs.length))) (by simp) (fun j hj => absurd hj (Nat.not_lt_zero j))
set_option maxRecDepth 65536 in
set_option maxHeartbeats 40000000 in
theorem own_gcmp3 (l : Launch) (Z : State) (a0 : Array Value) (hw : ∀ d ∈ tables_1, d.before a0 Z = true) (a : Addr) (ka : ClassId) (cs : List Int32) (h0 : Heap) (O0 : own_Old Z h0) (g0_V : Arv Z h0 a ka .char (Int32.ofNat cs.length) (cs.map Value.int) (.int (0 : Int32))) (g1_hcap : cs.length ≤ 2) (g2_h16 : ∀ c ∈ cs, 0 ≤ c.toInt ∧ c.toInt ≤ 65535) (g3_S : Sta Z Z.heap "java/lang/StringUTF16" "$assertionsDisabled" "Z" (.int (1 : Int32))) (g4_S : Sta Z Z.heap "java/lang/StringUTF16" "HI_BYTE_SHIFT" "I" (.int (0 : Int32))) (g5_S : Sta Z Z.heap "java/lang/StringUTF16" "LO_BYTE_SHIFT" "I" (.int (8 : Int32))) :
    own_Con l Z (⟨"java/lang/StringUTF16", "compress", "([CII)[B"⟩ : MethodName) jdk_52_method_16_code 6 (some (.array .byte)) [] ({ frames := 3, cells := 2, slots := 6, locals := 40 } : Room) #[(.ref a), (.int (0 : Int32)), (.int (Int32.ofNat cs.length))] h0 (fun rv rh rL => ∃ (t : Addr) (kt : ClassId) (nb : Int32) (vs : List Value), rv = some (.ref t) ∧ own_Fr Z rL ∧ Keep h0 rh [] ∧ h0.size ≤ t ∧ (Arv Z rh t kt .byte nb vs (.int (0 : Int32))) ∧ (((∀ c ∈ cs, ¬ ((255 : Int32) < c)) ∧ nb = (Int32.ofNat cs.length) ∧ vs = (cs.map fun c => Value.int c.toInt8.toInt32)) ∨ ((∃ k, k < cs.length ∧ (255 : Int32) < cs.getD k 0) ∧ nb = (Int32.ofNat (2 * cs.length)) ∧ own_is16 cs vs))) := by
  refine own_intro (plainFor_of_name (by first | (simp [plainName, overriddenIn]; done) | decide +kernel)) ?_
  intro p e s m below meth c s₁ G hx hby hml hown hnm hret hZ X0 e0 hG hR
  have N0 := Fr.nil Z.heap.size
  refine own_entry (Ls := #[.val (.ref a), .val (.int (0 : Int32)), .val (.int (Int32.ofNat cs.length)), .unset, .unset, .unset]) (by first | (simp [entryFrame, mkF, argsToLocals, Value.category]; done) | rfl) ?_
  show G (s₁.setTop (mkF m 0 #[.val (.ref a), .val (.int (0 : Int32)), .val (.int (Int32.ofNat cs.length)), .unset, .unset, .unset] []))
  refine hG _ _ (fun t k => XS.iloadN X0.here hx rfl (hb hby own_d19_0) rfl k) ?_
  show G (s₁.setTop (mkF m 1 #[.val (.ref a), .val (.int (0 : Int32)), .val (.int (Int32.ofNat cs.length)), .unset, .unset, .unset] [(.int (Int32.ofNat cs.length))]))
  obtain ⟨T1, h1, k1, X1, e1, E1, A1, st1⟩ := newP X0 hx hZ (hw _ (List.mem_of_getElem? (i := 85) rfl)) e0 (g := (mkF m 1 #[.val (.ref a), .val (.int (0 : Int32)), .val (.int (Int32.ofNat cs.length)), .unset, .unset, .unset] [(.int (Int32.ofNat cs.length))])) rfl (hb hby own_d19_1) rfl (own_nn (by omega)) (cap := 2) (by rw [own_clamp (by omega)]; exact g1_hcap) (by decide) (by decide) (by decide)
  obtain ⟨b1, z1⟩ : ∃ z, z = h0.size := ⟨_, rfl⟩
  rw [← z1] at A1 st1
  refine hG _ _ st1 ?_
  have K1 : Keep h0 h1 [] := (Keep.refl h0 []).ext E1
  have O1 : own_Old Z h1 := O0.ext E1
  have V1 : Arv Z h1 b1 k1 .byte (Int32.ofNat cs.length) [] (.int (0 : Int32)) := Arv.new A1 (own_nn (by omega))
  show G (T1.setTop (mkF m 3 #[.val (.ref a), .val (.int (0 : Int32)), .val (.int (Int32.ofNat cs.length)), .unset, .unset, .unset] [(.ref b1)]))
  refine hG _ _ (fun t k => XS.astoreN X1.here hx rfl (hb hby own_d19_3) rfl rfl (l' := #[.val (.ref a), .val (.int (0 : Int32)), .val (.int (Int32.ofNat cs.length)), .val (.ref b1), .unset, .unset]) rfl k) ?_
  show G (T1.setTop (mkF m 4 #[.val (.ref a), .val (.int (0 : Int32)), .val (.int (Int32.ofNat cs.length)), .val (.ref b1), .unset, .unset] []))
  refine hG _ _ (fun t k => XS.aloadN X1.here hx rfl (hb hby own_d19_4) rfl rfl k) ?_
  show G (T1.setTop (mkF m 5 #[.val (.ref a), .val (.int (0 : Int32)), .val (.int (Int32.ofNat cs.length)), .val (.ref b1), .unset, .unset] [(.ref a)]))
  refine hG _ _ (fun t k => XS.iloadN X1.here hx rfl (hb hby own_d19_5) rfl k) ?_
  show G (T1.setTop (mkF m 6 #[.val (.ref a), .val (.int (0 : Int32)), .val (.int (Int32.ofNat cs.length)), .val (.ref b1), .unset, .unset] [(.int (0 : Int32)), (.ref a)]))
  refine hG _ _ (fun t k => XS.aloadN X1.here hx rfl (hb hby own_d19_6) rfl rfl k) ?_
  show G (T1.setTop (mkF m 7 #[.val (.ref a), .val (.int (0 : Int32)), .val (.int (Int32.ofNat cs.length)), .val (.ref b1), .unset, .unset] [(.ref b1), (.int (0 : Int32)), (.ref a)]))
  refine hG _ _ (fun t k => XS.iconst X1.here hx rfl (hb hby own_d19_7) k) ?_
  show G (T1.setTop (mkF m 8 #[.val (.ref a), .val (.int (0 : Int32)), .val (.int (Int32.ofNat cs.length)), .val (.ref b1), .unset, .unset] [(.int (0 : Int32)), (.ref b1), (.int (0 : Int32)), (.ref a)]))
  refine hG _ _ (fun t k => XS.iloadN X1.here hx rfl (hb hby own_d19_8) rfl k) ?_
  show G (T1.setTop (mkF m 9 #[.val (.ref a), .val (.int (0 : Int32)), .val (.int (Int32.ofNat cs.length)), .val (.ref b1), .unset, .unset] [(.int (Int32.ofNat cs.length)), (.int (0 : Int32)), (.ref b1), (.int (0 : Int32)), (.ref a)]))
  have f3 := (g0_V.ext E1)
  refine own_callS X1 hx hZ hG hown (hw _ (List.mem_of_getElem? (i := 112) rfl)) (hw _ (List.mem_of_getElem? (i := 113) rfl)) (hw _ (List.mem_of_getElem? (i := 110) rfl)) (hw _ (List.mem_of_getElem? (i := 114) rfl)) (by decide) 0 (own_gcmp5 l Z a0 hw a b1 ka k1 cs h1 O1 f3 V1 (own_ge O0 (Nat.le_of_eq z1.symm)) (own_ne g0_V.lt (Nat.le_of_eq z1.symm)) (by omega)) (by decide) (by decide) e1 (by rw [hml]; rfl) (lenOf own_pd3 rfl) (argsL := [(.ref a), (.int (0 : Int32)), (.ref b1), (.int (0 : Int32)), (.int (Int32.ofNat cs.length))]) (rest := []) rfl rfl (Nat.le_of_eq rfl) (hb hby own_d19_9) (by decide) (by decide) ?_
  intro T2 h2 v2 L2 X2 e2 q2
  obtain ⟨r_2, vs_2, rfl, M2, J2, r2_0, r2_1⟩ := q2
  have N2 := Fr.app N0 M2
  have K2 : Keep h0 h2 [] := K1.trans J2 (allS (Or.inr (Nat.le_trans (Keep.refl h0 []).1 (Nat.le_of_eq z1.symm))) all0)
  have O2 : own_Old Z h2 := O1.keep J2 (allS (own_ge O0 (Nat.le_of_eq z1.symm)) all0)
  show G (T2.setTop (mkF m 12 #[.val (.ref a), .val (.int (0 : Int32)), .val (.int (Int32.ofNat cs.length)), .val (.ref b1), .unset, .unset] [(.int r_2)]))
  rcases r2_1 with ⟨rfl, hall, rfl⟩ | ⟨kq, hkq, rfl, hbig⟩
  · skip
    show G (T2.setTop (mkF m 12 #[.val (.ref a), .val (.int (0 : Int32)), .val (.int (Int32.ofNat cs.length)), .val (.ref b1), .unset, .unset] [(.int (Int32.ofNat cs.length))]))
    refine hG _ _ (fun t k => XS.istore X2.here hx rfl (hb hby own_d19_12) rfl (l' := #[.val (.ref a), .val (.int (0 : Int32)), .val (.int (Int32.ofNat cs.length)), .val (.ref b1), .val (.int (Int32.ofNat cs.length)), .unset]) rfl k) ?_
    show G (T2.setTop (mkF m 14 #[.val (.ref a), .val (.int (0 : Int32)), .val (.int (Int32.ofNat cs.length)), .val (.ref b1), .val (.int (Int32.ofNat cs.length)), .unset] []))
    refine hG _ _ (fun t k => XS.iload X2.here hx rfl (hb hby own_d19_14) rfl k) ?_
    show G (T2.setTop (mkF m 16 #[.val (.ref a), .val (.int (0 : Int32)), .val (.int (Int32.ofNat cs.length)), .val (.ref b1), .val (.int (Int32.ofNat cs.length)), .unset] [(.int (Int32.ofNat cs.length))]))
    refine hG _ _ (fun t k => XS.iloadN X2.here hx rfl (hb hby own_d19_16) rfl k) ?_
    show G (T2.setTop (mkF m 17 #[.val (.ref a), .val (.int (0 : Int32)), .val (.int (Int32.ofNat cs.length)), .val (.ref b1), .val (.int (Int32.ofNat cs.length)), .unset] [(.int (Int32.ofNat cs.length)), (.int (Int32.ofNat cs.length))]))
    refine hG _ _ (fun t k => XS.icmpYes X2.here hx rfl (pc0 := 17) (pc' := 57) rfl (hb hby own_d19_17) rfl (teq (rfl : (Int32.ofNat cs.length) = (Int32.ofNat cs.length))).1 (by decide) (by decide) k) ?_
    show G (T2.setTop (mkF m 57 #[.val (.ref a), .val (.int (0 : Int32)), .val (.int (Int32.ofNat cs.length)), .val (.ref b1), .val (.int (Int32.ofNat cs.length)), .unset] []))
    refine hG _ _ (fun t k => XS.aloadN X2.here hx rfl (hb hby own_d19_57) rfl rfl k) ?_
    show G (T2.setTop (mkF m 58 #[.val (.ref a), .val (.int (0 : Int32)), .val (.int (Int32.ofNat cs.length)), .val (.ref b1), .val (.int (Int32.ofNat cs.length)), .unset] [(.ref b1)]))
    exact own_retA hR hret rfl rfl X2 hx (hb hby own_d19_58) (by decide) (by decide) (by rw [e2]; exact ⟨b1, k1, (Int32.ofNat cs.length), (cs.map fun c => Value.int c.toInt8.toInt32), rfl, N2, K2, (Nat.le_trans (Keep.refl h0 []).1 (Nat.le_of_eq z1.symm)), r2_0, (Or.inl ⟨hall, rfl, rfl⟩)⟩)
  · skip
    show G (T2.setTop (mkF m 12 #[.val (.ref a), .val (.int (0 : Int32)), .val (.int (Int32.ofNat cs.length)), .val (.ref b1), .unset, .unset] [(.int (Int32.ofNat kq))]))
    refine hG _ _ (fun t k => XS.istore X2.here hx rfl (hb hby own_d19_12) rfl (l' := #[.val (.ref a), .val (.int (0 : Int32)), .val (.int (Int32.ofNat cs.length)), .val (.ref b1), .val (.int (Int32.ofNat kq)), .unset]) rfl k) ?_
    show G (T2.setTop (mkF m 14 #[.val (.ref a), .val (.int (0 : Int32)), .val (.int (Int32.ofNat cs.length)), .val (.ref b1), .val (.int (Int32.ofNat kq)), .unset] []))
    refine hG _ _ (fun t k => XS.iload X2.here hx rfl (hb hby own_d19_14) rfl k) ?_
    show G (T2.setTop (mkF m 16 #[.val (.ref a), .val (.int (0 : Int32)), .val (.int (Int32.ofNat cs.length)), .val (.ref b1), .val (.int (Int32.ofNat kq)), .unset] [(.int (Int32.ofNat kq))]))
    refine hG _ _ (fun t k => XS.iloadN X2.here hx rfl (hb hby own_d19_16) rfl k) ?_
    show G (T2.setTop (mkF m 17 #[.val (.ref a), .val (.int (0 : Int32)), .val (.int (Int32.ofNat cs.length)), .val (.ref b1), .val (.int (Int32.ofNat kq)), .unset] [(.int (Int32.ofNat cs.length)), (.int (Int32.ofNat kq))]))
    refine hG _ _ (fun t k => XS.icmpNo X2.here hx rfl (hb hby own_d19_17) rfl (feq (own_ofNat_ne hkq (by omega))).1 k) ?_
    show G (T2.setTop (mkF m 20 #[.val (.ref a), .val (.int (0 : Int32)), .val (.int (Int32.ofNat cs.length)), .val (.ref b1), .val (.int (Int32.ofNat kq)), .unset] []))
    refine hG _ _ (fun t k => XS.aloadN X2.here hx rfl (hb hby own_d19_20) rfl rfl k) ?_
    show G (T2.setTop (mkF m 21 #[.val (.ref a), .val (.int (0 : Int32)), .val (.int (Int32.ofNat cs.length)), .val (.ref b1), .val (.int (Int32.ofNat kq)), .unset] [(.ref a)]))
    refine hG _ _ (fun t k => XS.iloadN X2.here hx rfl (hb hby own_d19_21) rfl k) ?_
    show G (T2.setTop (mkF m 22 #[.val (.ref a), .val (.int (0 : Int32)), .val (.int (Int32.ofNat cs.length)), .val (.ref b1), .val (.int (Int32.ofNat kq)), .unset] [(.int (0 : Int32)), (.ref a)]))
    refine hG _ _ (fun t k => XS.iloadN X2.here hx rfl (hb hby own_d19_22) rfl k) ?_
    show G (T2.setTop (mkF m 23 #[.val (.ref a), .val (.int (0 : Int32)), .val (.int (Int32.ofNat cs.length)), .val (.ref b1), .val (.int (Int32.ofNat kq)), .unset] [(.int (Int32.ofNat cs.length)), (.int (0 : Int32)), (.ref a)]))
    have f5 := (f3.keep J2 (ninS (own_ne g0_V.lt (Nat.le_of_eq z1.symm)) nin0))
    refine own_callS X2 hx hZ hG hown (hw _ (List.mem_of_getElem? (i := 115) rfl)) (hw _ (List.mem_of_getElem? (i := 116) rfl)) (hw _ (List.mem_of_getElem? (i := 110) rfl)) (hw _ (List.mem_of_getElem? (i := 117) rfl)) (by decide) 0 (own_tob l Z a0 hw a ka cs h2 O2 f5 g1_hcap g3_S g4_S g5_S) (by decide) (by decide) e2 (by rw [hml]; rfl) (lenOf own_pd6 rfl) (argsL := [(.ref a), (.int (0 : Int32)), (.int (Int32.ofNat cs.length))]) (rest := []) rfl rfl (Nat.le_of_eq rfl) (hb hby own_d19_23) (by decide) (by decide) ?_
    intro T4 h4 v4 L4 X4 e4 q4
    obtain ⟨t_4, kt_4, vs_4, rfl, M4, J4, y4_0, r4_0, r4_1⟩ := q4
    have N4 := Fr.app N2 M4
    have K4 : Keep h0 h4 [] := K2.trans J4 all0
    have O4 : own_Old Z h4 := O2.keep J4 all0
    show G (T4.setTop (mkF m 26 #[.val (.ref a), .val (.int (0 : Int32)), .val (.int (Int32.ofNat cs.length)), .val (.ref b1), .val (.int (Int32.ofNat kq)), .unset] [(.ref t_4)]))
    refine hG _ _ (fun t k => XS.astore X4.here hx rfl (hb hby own_d19_26) rfl rfl (l' := #[.val (.ref a), .val (.int (0 : Int32)), .val (.int (Int32.ofNat cs.length)), .val (.ref b1), .val (.int (Int32.ofNat kq)), .val (.ref t_4)]) rfl k) ?_
    show G (T4.setTop (mkF m 28 #[.val (.ref a), .val (.int (0 : Int32)), .val (.int (Int32.ofNat cs.length)), .val (.ref b1), .val (.int (Int32.ofNat kq)), .val (.ref t_4)] []))
    refine hG _ _ (fun t k => XS.aload X4.here hx rfl (hb hby own_d19_28) rfl rfl k) ?_
    show G (T4.setTop (mkF m 30 #[.val (.ref a), .val (.int (0 : Int32)), .val (.int (Int32.ofNat cs.length)), .val (.ref b1), .val (.int (Int32.ofNat kq)), .val (.ref t_4)] [(.ref t_4)]))
    refine hG _ _ (fun t k => XS.iload X4.here hx rfl (hb hby own_d19_30) rfl k) ?_
    show G (T4.setTop (mkF m 32 #[.val (.ref a), .val (.int (0 : Int32)), .val (.int (Int32.ofNat cs.length)), .val (.ref b1), .val (.int (Int32.ofNat kq)), .val (.ref t_4)] [(.int (Int32.ofNat kq)), (.ref t_4)]))
    refine own_callS X4 hx hZ hG hown (hw _ (List.mem_of_getElem? (i := 131) rfl)) (hw _ (List.mem_of_getElem? (i := 132) rfl)) (hw _ (List.mem_of_getElem? (i := 110) rfl)) (hw _ (List.mem_of_getElem? (i := 133) rfl)) (by decide) 0 (own_gch l Z a0 hw t_4 kt_4 (2 * cs.length) vs_4 kq (own_lo (cs.getD kq 0)) (own_hi (cs.getD kq 0)) h4 O4 r4_0 (by omega) (by omega) (r4_1.2 kq hkq).1 (r4_1.2 kq hkq).2 g3_S g4_S g5_S) (by decide) (by decide) e4 (by rw [hml]; rfl) (lenOf own_pd2 rfl) (argsL := [(.ref t_4), (.int (Int32.ofNat kq))]) (rest := []) rfl rfl (Nat.le_of_eq rfl) (hb hby own_d19_32) (by decide) (by decide) ?_
    intro T6 h6 v6 L6 X6 e6 q6
    obtain ⟨rfl, M6, rfl⟩ := q6
    have N6 := Fr.app N4 M6
    show G (T6.setTop (mkF m 35 #[.val (.ref a), .val (.int (0 : Int32)), .val (.int (Int32.ofNat cs.length)), .val (.ref b1), .val (.int (Int32.ofNat kq)), .val (.ref t_4)] [(.int (own_join (own_lo (cs.getD kq 0)) (own_hi (cs.getD kq 0))))]))
    rw [own_join_eq (g2_h16 _ (own_getD_mem cs kq 0 hkq))]
    show G (T6.setTop (mkF m 35 #[.val (.ref a), .val (.int (0 : Int32)), .val (.int (Int32.ofNat cs.length)), .val (.ref b1), .val (.int (Int32.ofNat kq)), .val (.ref t_4)] [(.int (cs.getD kq 0))]))
    refine hG _ _ (fun t k => XS.sipush X6.here hx rfl (hb hby own_d19_35) k) ?_
    show G (T6.setTop (mkF m 38 #[.val (.ref a), .val (.int (0 : Int32)), .val (.int (Int32.ofNat cs.length)), .val (.ref b1), .val (.int (Int32.ofNat kq)), .val (.ref t_4)] [(.int (255 : Int32)), (.int (cs.getD kq 0))]))
    refine hG _ _ (fun t k => XS.icmpYes X6.here hx rfl (pc0 := 38) (pc' := 54) rfl (hb hby own_d19_38) rfl (tlt hbig).2.2.1 (by decide) (by decide) k) ?_
    show G (T6.setTop (mkF m 54 #[.val (.ref a), .val (.int (0 : Int32)), .val (.int (Int32.ofNat cs.length)), .val (.ref b1), .val (.int (Int32.ofNat kq)), .val (.ref t_4)] []))
    refine hG _ _ (fun t k => XS.aload X6.here hx rfl (hb hby own_d19_54) rfl rfl k) ?_
    show G (T6.setTop (mkF m 56 #[.val (.ref a), .val (.int (0 : Int32)), .val (.int (Int32.ofNat cs.length)), .val (.ref b1), .val (.int (Int32.ofNat kq)), .val (.ref t_4)] [(.ref t_4)]))
    exact own_retA hR hret rfl rfl X6 hx (hb hby own_d19_56) (by decide) (by decide) (by rw [e6]; exact ⟨t_4, kt_4, (Int32.ofNat (2 * cs.length)), vs_4, rfl, N6, K4, (Nat.le_trans K2.1 y4_0), r4_0, (Or.inr ⟨⟨kq, hkq, hbig⟩, rfl, r4_1⟩)⟩)
theorem own_pd7 : parseMethodDescriptor "([BI)B" = some ⟨[(.array .byte), .int], some .byte⟩ := by decide +kernel
set_option maxRecDepth 65536 in
set_option maxHeartbeats 40000000 in
theorem own_coder (l : Launch) (Z : State) (a0 : Array Value) (hw : ∀ d ∈ tables_1, d.before a0 Z = true) (t : Addr) (n : Int32) (kt : ClassId) (n2 : Int32) (vs : List Value) (r : Int32) (h0 : Heap) (O0 : own_Old Z h0) (g0_V : Arv Z h0 t kt .byte n2 vs (.int (0 : Int32))) (g1_hr : nar .byte ((((n - n2).toUInt32 >>> ((31 : Int32) &&& 31).toUInt32).toInt32).toInt8.toInt32) = r) :
    own_Con l Z (⟨"java/lang/StringUTF16", "coderFromArrayLen", "([BI)B"⟩ : MethodName) jdk_52_method_15_code 2 (some .byte) [] ({ frames := 0, cells := 0, slots := 0, locals := 0 } : Room) #[(.ref t), (.int n)] h0 (fun rv rh rL => rv = some (.int r) ∧ own_Fr Z rL ∧ h0 = rh) := by
  refine own_intro (plainFor_of_name (by first | (simp [plainName, overriddenIn]; done) | decide +kernel)) ?_
  intro p e s m below meth c s₁ G hx hby hml hown hnm hret hZ X0 e0 hG hR
  have N0 := Fr.nil Z.heap.size
  refine own_entry (Ls := #[.val (.ref t), .val (.int n)]) (by first | (simp [entryFrame, mkF, argsToLocals, Value.category]; done) | rfl) ?_
  show G (s₁.setTop (mkF m 0 #[.val (.ref t), .val (.int n)] []))
  refine hG _ _ (fun t k => XS.iloadN X0.here hx rfl (hb hby own_d26_0) rfl k) ?_
  show G (s₁.setTop (mkF m 1 #[.val (.ref t), .val (.int n)] [(.int n)]))
  refine hG _ _ (fun t k => XS.aloadN X0.here hx rfl (hb hby own_d26_1) rfl rfl k) ?_
  show G (s₁.setTop (mkF m 2 #[.val (.ref t), .val (.int n)] [(.ref t), (.int n)]))
  obtain ⟨c1, Ar1, -, S1, M1, -, -⟩ := id g0_V
  refine hG _ _ (X0.arraylength hx (by rw [e0]; exact Ar1.1) (State.isArrayOf_alike hZ.alike Ar1.2.1) (g := (mkF m 2 #[.val (.ref t), .val (.int n)] [(.ref t), (.int n)])) rfl rfl (hb hby own_d26_2)) ?_
  rw [len_of S1 M1]
  show G (s₁.setTop (mkF m 3 #[.val (.ref t), .val (.int n)] [(.int n2), (.int n)]))
  refine hG _ _ (fun t k => XS.isub X0.here hx rfl (hb hby own_d26_3) rfl k) ?_
  show G (s₁.setTop (mkF m 4 #[.val (.ref t), .val (.int n)] [(.int (n - n2))]))
  refine hG _ _ (fun t k => XS.bipush X0.here hx rfl (hb hby own_d26_4) k) ?_
  show G (s₁.setTop (mkF m 6 #[.val (.ref t), .val (.int n)] [(.int (31 : Int32)), (.int (n - n2))]))
  refine hG _ _ (fun t k => XS.iushr X0.here hx rfl (hb hby own_d26_6) rfl k) ?_
  show G (s₁.setTop (mkF m 7 #[.val (.ref t), .val (.int n)] [(.int (((n - n2).toUInt32 >>> ((31 : Int32) &&& 31).toUInt32).toInt32))]))
  refine hG _ _ (fun t k => XS.i2b X0.here hx rfl (hb hby own_d26_7) rfl k) ?_
  show G (s₁.setTop (mkF m 8 #[.val (.ref t), .val (.int n)] [(.int ((((n - n2).toUInt32 >>> ((31 : Int32) &&& 31).toUInt32).toInt32).toInt8.toInt32))]))
  exact own_retN hR hret (by simp) X0 hx (hb hby own_d26_8) (by decide) (by decide) (by rw [e0]; exact ⟨(by rw [g1_hr]), N0, rfl⟩)
theorem own_pd8 : parseMethodDescriptor "([CIILjava/lang/Void;)V" = some ⟨[(.array .char), .int, .int, (.object "java/lang/Void")], none⟩ := by decide +kernel
set_option maxRecDepth 65536 in
set_option maxHeartbeats 40000000 in
theorem own_gstr4 (l : Launch) (Z : State) (a0 : Array Value) (hw : ∀ d ∈ tables_1, d.before a0 Z = true) (a : Addr) (u : Addr) (ku : ClassId) (cs : List Int32) (cpt : Int32) (v0 : Value) (v1 : Value) (h0 : Heap) (O0 : own_Old Z h0) (g0_E : Exa Z h0 a "java/lang/String") (g1_F : Fld Z h0 a "java/lang/String" "coder" "B" v0) (g2_F : Fld Z h0 a "java/lang/String" "value" "[B" v1) (g3_G : Z.heap.size ≤ a) (g4_V : Arv Z h0 u ku .char (Int32.ofNat cs.length) (cs.map Value.int) (.int (0 : Int32))) (g5_hpos : 0 < cs.length) (g6_hcap : cs.length ≤ 2) (g7_h16 : ∀ c ∈ cs, 0 ≤ c.toInt ∧ c.toInt ≤ 65535) (g8_S : Sta Z Z.heap "java/lang/String" "COMPACT_STRINGS" "Z" (.int cpt)) (g9_hcpt : ¬ (cpt = (0 : Int32))) (g10_S : Sta Z Z.heap "java/lang/StringUTF16" "$assertionsDisabled" "Z" (.int (1 : Int32))) (g11_S : Sta Z Z.heap "java/lang/StringUTF16" "HI_BYTE_SHIFT" "I" (.int (0 : Int32))) (g12_S : Sta Z Z.heap "java/lang/StringUTF16" "LO_BYTE_SHIFT" "I" (.int (8 : Int32))) :
    own_Con l Z (⟨"java/lang/String", "<init>", "([CIILjava/lang/Void;)V"⟩ : MethodName) jdk_42_method_149_code 6 none [] ({ frames := 4, cells := 2, slots := 6, locals := 57 } : Room) #[(.ref a), (.ref u), (.int (0 : Int32)), (.int (Int32.ofNat cs.length)), .null] h0 (fun rv rh rL => ∃ (t : Addr) (kt : ClassId) (cd : Int32) (nb : Int32) (vs : List Value), rv = none ∧ own_Fr Z rL ∧ Keep h0 rh [a] ∧ h0.size ≤ t ∧ (Exa Z rh a "java/lang/String") ∧ (Fld Z rh a "java/lang/String" "coder" "B" (.int cd)) ∧ (Fld Z rh a "java/lang/String" "value" "[B" (.ref t)) ∧ (Arv Z rh t kt .byte nb vs (.int (0 : Int32))) ∧ (own_enc cs cd nb vs)) := by
  refine own_intro (plainFor_of_name (by first | (simp [plainName, overriddenIn]; done) | decide +kernel)) ?_
  intro p e s m below meth c s₁ G hx hby hml hown hnm hret hZ X0 e0 hG hR
  have N0 := Fr.nil Z.heap.size
  refine own_entry (Ls := #[.val (.ref a), .val (.ref u), .val (.int (0 : Int32)), .val (.int (Int32.ofNat cs.length)), .val .null, .unset]) (by first | (simp [entryFrame, mkF, argsToLocals, Value.category]; done) | rfl) ?_
  show G (s₁.setTop (mkF m 0 #[.val (.ref a), .val (.ref u), .val (.int (0 : Int32)), .val (.int (Int32.ofNat cs.length)), .val .null, .unset] []))
  refine hG _ _ (fun t k => XS.aloadN X0.here hx rfl (hb hby own_d18_0) rfl rfl k) ?_
  show G (s₁.setTop (mkF m 1 #[.val (.ref a), .val (.ref u), .val (.int (0 : Int32)), .val (.int (Int32.ofNat cs.length)), .val .null, .unset] [(.ref a)]))
  obtain ⟨T1, X1, e1, st1⟩ := initO X0 hx hZ hown (hw _ (List.mem_of_getElem? (i := 90) rfl)) (hw _ (List.mem_of_getElem? (i := 19) rfl)) (hw _ (List.mem_of_getElem? (i := 20) rfl)) e0 (g := (mkF m 1 #[.val (.ref a), .val (.ref u), .val (.int (0 : Int32)), .val (.int (Int32.ofNat cs.length)), .val .null, .unset] [(.ref a)])) rfl (by rw [hml]; rfl) rfl (hb hby own_d18_1) (by decide) (W := 0) (by show 2 * 0 + _ ≤ _; exact Nat.le_of_eq rfl) (by decide)
  refine hG _ _ st1 ?_
  show G (T1.setTop (mkF m 4 #[.val (.ref a), .val (.ref u), .val (.int (0 : Int32)), .val (.int (Int32.ofNat cs.length)), .val .null, .unset] []))
  refine hG _ _ (fun t k => XS.iloadN X1.here hx rfl (hb hby own_d18_4) rfl k) ?_
  show G (T1.setTop (mkF m 5 #[.val (.ref a), .val (.ref u), .val (.int (0 : Int32)), .val (.int (Int32.ofNat cs.length)), .val .null, .unset] [(.int (Int32.ofNat cs.length))]))
  refine hG _ _ (fun t k => XS.ifYes X1.here hx rfl (pc0 := 5) (pc' := 27) rfl (hb hby own_d18_5) rfl ((if0 _ _).trans (feq (fun q => Nat.ne_of_gt g5_hpos (own_ofNat_inj (by omega) (by decide) q))).2) (by decide) (by decide) k) ?_
  show G (T1.setTop (mkF m 27 #[.val (.ref a), .val (.ref u), .val (.int (0 : Int32)), .val (.int (Int32.ofNat cs.length)), .val .null, .unset] []))
  obtain ⟨T2, X2, e2, st2⟩ := getS2 X1 hx hZ hown (host := "") (Or.inl (hw _ (List.mem_of_getElem? (i := 75) rfl))) Via.refl e1 (own_sta g8_S O0) (g := (mkF m 27 #[.val (.ref a), .val (.ref u), .val (.int (0 : Int32)), .val (.int (Int32.ofNat cs.length)), .val .null, .unset] [])) rfl (hb hby own_d18_27)
  refine hG _ _ st2 ?_
  show G (T2.setTop (mkF m 30 #[.val (.ref a), .val (.ref u), .val (.int (0 : Int32)), .val (.int (Int32.ofNat cs.length)), .val .null, .unset] [(.int cpt)]))
  refine hG _ _ (fun t k => XS.ifNo X2.here hx rfl (hb hby own_d18_30) rfl ((if0 _ _).trans (feq g9_hcpt).1) k) ?_
  show G (T2.setTop (mkF m 33 #[.val (.ref a), .val (.ref u), .val (.int (0 : Int32)), .val (.int (Int32.ofNat cs.length)), .val .null, .unset] []))
  refine hG _ _ (fun t k => XS.aloadN X2.here hx rfl (hb hby own_d18_33) rfl rfl k) ?_
  show G (T2.setTop (mkF m 34 #[.val (.ref a), .val (.ref u), .val (.int (0 : Int32)), .val (.int (Int32.ofNat cs.length)), .val .null, .unset] [(.ref u)]))
  refine hG _ _ (fun t k => XS.iloadN X2.here hx rfl (hb hby own_d18_34) rfl k) ?_
  show G (T2.setTop (mkF m 35 #[.val (.ref a), .val (.ref u), .val (.int (0 : Int32)), .val (.int (Int32.ofNat cs.length)), .val .null, .unset] [(.int (0 : Int32)), (.ref u)]))
  refine hG _ _ (fun t k => XS.iloadN X2.here hx rfl (hb hby own_d18_35) rfl k) ?_
  show G (T2.setTop (mkF m 36 #[.val (.ref a), .val (.ref u), .val (.int (0 : Int32)), .val (.int (Int32.ofNat cs.length)), .val .null, .unset] [(.int (Int32.ofNat cs.length)), (.int (0 : Int32)), (.ref u)]))
  refine own_callS X2 hx hZ hG hown (hw _ (List.mem_of_getElem? (i := 108) rfl)) (hw _ (List.mem_of_getElem? (i := 109) rfl)) (hw _ (List.mem_of_getElem? (i := 110) rfl)) (hw _ (List.mem_of_getElem? (i := 111) rfl)) (by decide) 0 (own_gcmp3 l Z a0 hw u ku cs h0 O0 g4_V g6_hcap g7_h16 g10_S g11_S g12_S) (by decide) (by decide) e2 (by rw [hml]; rfl) (lenOf own_pd6 rfl) (argsL := [(.ref u), (.int (0 : Int32)), (.int (Int32.ofNat cs.length))]) (rest := []) rfl rfl (Nat.le_of_eq rfl) (hb hby own_d18_36) (by decide) (by decide) ?_
  intro T3 h3 v3 L3 X3 e3 q3
  obtain ⟨t_3, kt_3, nb_3, vs_3, rfl, M3, J3, y3_0, r3_0, r3_1⟩ := q3
  have N3 := Fr.app N0 M3
  have K3 : Keep h0 h3 [a] := (Keep.refl h0 [a]).trans J3 all0
  have O3 : own_Old Z h3 := O0.keep J3 all0
  show G (T3.setTop (mkF m 39 #[.val (.ref a), .val (.ref u), .val (.int (0 : Int32)), .val (.int (Int32.ofNat cs.length)), .val .null, .unset] [(.ref t_3)]))
  rcases r3_1 with ⟨hall, rfl, rfl⟩ | ⟨hbig, rfl, h16⟩
  · skip
    show G (T3.setTop (mkF m 39 #[.val (.ref a), .val (.ref u), .val (.int (0 : Int32)), .val (.int (Int32.ofNat cs.length)), .val .null, .unset] [(.ref t_3)]))
    refine hG _ _ (fun t k => XS.astore X3.here hx rfl (hb hby own_d18_39) rfl rfl (l' := #[.val (.ref a), .val (.ref u), .val (.int (0 : Int32)), .val (.int (Int32.ofNat cs.length)), .val .null, .val (.ref t_3)]) rfl k) ?_
    show G (T3.setTop (mkF m 41 #[.val (.ref a), .val (.ref u), .val (.int (0 : Int32)), .val (.int (Int32.ofNat cs.length)), .val .null, .val (.ref t_3)] []))
    refine hG _ _ (fun t k => XS.aloadN X3.here hx rfl (hb hby own_d18_41) rfl rfl k) ?_
    show G (T3.setTop (mkF m 42 #[.val (.ref a), .val (.ref u), .val (.int (0 : Int32)), .val (.int (Int32.ofNat cs.length)), .val .null, .val (.ref t_3)] [(.ref a)]))
    refine hG _ _ (fun t k => XS.aload X3.here hx rfl (hb hby own_d18_42) rfl rfl k) ?_
    show G (T3.setTop (mkF m 44 #[.val (.ref a), .val (.ref u), .val (.int (0 : Int32)), .val (.int (Int32.ofNat cs.length)), .val .null, .val (.ref t_3)] [(.ref t_3), (.ref a)]))
    refine hG _ _ (fun t k => XS.iloadN X3.here hx rfl (hb hby own_d18_44) rfl k) ?_
    show G (T3.setTop (mkF m 45 #[.val (.ref a), .val (.ref u), .val (.int (0 : Int32)), .val (.int (Int32.ofNat cs.length)), .val .null, .val (.ref t_3)] [(.int (Int32.ofNat cs.length)), (.ref t_3), (.ref a)]))
    refine own_callS X3 hx hZ hG hown (hw _ (List.mem_of_getElem? (i := 134) rfl)) (hw _ (List.mem_of_getElem? (i := 135) rfl)) (hw _ (List.mem_of_getElem? (i := 110) rfl)) (hw _ (List.mem_of_getElem? (i := 136) rfl)) (by decide) 1 (own_coder l Z a0 hw t_3 (Int32.ofNat cs.length) kt_3 (Int32.ofNat cs.length) (cs.map fun c => Value.int c.toInt8.toInt32) (0 : Int32) h3 O3 r3_0 (own_coder0 _)) (by decide) (by decide) e3 (by rw [hml]; rfl) (lenOf own_pd7 rfl) (argsL := [(.ref t_3), (.int (Int32.ofNat cs.length))]) (rest := [(.ref a)]) rfl rfl (Nat.le_of_eq rfl) (hb hby own_d18_45) (by decide) (by decide) ?_
    intro T4 h4 v4 L4 X4 e4 q4
    obtain ⟨rfl, M4, rfl⟩ := q4
    have N4 := Fr.app N3 M4
    show G (T4.setTop (mkF m 48 #[.val (.ref a), .val (.ref u), .val (.int (0 : Int32)), .val (.int (Int32.ofNat cs.length)), .val .null, .val (.ref t_3)] [(.int (0 : Int32)), (.ref a)]))
    have f6 := (g1_F.keep J3 nin0)
    have f7 := (g0_E.keep J3)
    obtain ⟨T5, h5, X5, e5, W5, st5⟩ := putFN X4 hx hZ hown (hw _ (List.mem_of_getElem? (i := 93) rfl)) Via.refl e4 f6 f7 (Or.inr ⟨(hw _ (List.mem_of_getElem? (i := 94) rfl)), rfl, hnm⟩) (hw _ (List.mem_of_getElem? (i := 81) rfl)) (ty := .byte) (v' := (.int (0 : Int32))) (by decide) rfl rfl (g := (mkF m 48 #[.val (.ref a), .val (.ref u), .val (.int (0 : Int32)), .val (.int (Int32.ofNat cs.length)), .val .null, .val (.ref t_3)] [(.int (0 : Int32)), (.ref a)])) rfl rfl (hb hby own_d18_48)
    refine hG _ _ st5 ?_
    have K5 : Keep h0 h5 [a] := K3.wr W5 (Or.inl (List.mem_of_getElem? (i := 0) rfl))
    have O5 : own_Old Z h5 := O3.wr W5 g3_G
    have N5 := Fr.snoc X5 N4 g3_G
    show G (T5.setTop (mkF m 51 #[.val (.ref a), .val (.ref u), .val (.int (0 : Int32)), .val (.int (Int32.ofNat cs.length)), .val .null, .val (.ref t_3)] []))
    refine hG _ _ (fun t k => XS.aloadN X5.here hx rfl (hb hby own_d18_51) rfl rfl k) ?_
    show G (T5.setTop (mkF m 52 #[.val (.ref a), .val (.ref u), .val (.int (0 : Int32)), .val (.int (Int32.ofNat cs.length)), .val .null, .val (.ref t_3)] [(.ref a)]))
    refine hG _ _ (fun t k => XS.aload X5.here hx rfl (hb hby own_d18_52) rfl rfl k) ?_
    show G (T5.setTop (mkF m 54 #[.val (.ref a), .val (.ref u), .val (.int (0 : Int32)), .val (.int (Int32.ofNat cs.length)), .val .null, .val (.ref t_3)] [(.ref t_3), (.ref a)]))
    have f9 := ((g2_F.keep J3 nin0).other W5 (Or.inr (slot_ne (Or.inr (hw _ (List.mem_of_getElem? (i := 92) rfl))) (Or.inr (hw _ (List.mem_of_getElem? (i := 94) rfl))) (by decide) (t := (.array .byte)) (t' := .byte) (by decide) (by decide))))
    have f10 := (f7.wr W5)
    obtain ⟨T8, h8, X8, e8, W8, st8⟩ := putF X5 hx hZ hown (host := "") (Or.inl (hw _ (List.mem_of_getElem? (i := 91) rfl))) Via.refl e5 f9 f10 (Or.inr ⟨(hw _ (List.mem_of_getElem? (i := 92) rfl)), rfl, hnm⟩) (hw _ (List.mem_of_getElem? (i := 81) rfl)) (ty := (.array .byte)) (by decide) rfl rfl (g := (mkF m 54 #[.val (.ref a), .val (.ref u), .val (.int (0 : Int32)), .val (.int (Int32.ofNat cs.length)), .val .null, .val (.ref t_3)] [(.ref t_3), (.ref a)])) rfl rfl (hb hby own_d18_54)
    refine hG _ _ st8 ?_
    have K8 : Keep h0 h8 [a] := K5.wr W8 (Or.inl (List.mem_of_getElem? (i := 0) rfl))
    have O8 : own_Old Z h8 := O5.wr W8 g3_G
    have N8 := Fr.snoc X8 N5 g3_G
    show G (T8.setTop (mkF m 57 #[.val (.ref a), .val (.ref u), .val (.int (0 : Int32)), .val (.int (Int32.ofNat cs.length)), .val .null, .val (.ref t_3)] []))
    have f11 := (f10.wr W8)
    have f12 := ((f6.same W5).other W8 (Or.inr (slot_ne (Or.inr (hw _ (List.mem_of_getElem? (i := 94) rfl))) (Or.inr (hw _ (List.mem_of_getElem? (i := 92) rfl))) (by decide) (t := .byte) (t' := (.array .byte)) (by decide) (by decide))))
    have f13 := ((r3_0.other W5 (Ne.symm (own_ne g0_E.lt y3_0))).other W8 (Ne.symm (own_ne g0_E.lt y3_0)))
    exact own_retV hR hret X8 hx (hb hby own_d18_57) (by decide) (by decide) (by rw [e8]; exact ⟨t_3, kt_3, (0 : Int32), (Int32.ofNat cs.length), (cs.map fun c => Value.int c.toInt8.toInt32), rfl, N8, K8, (Nat.le_trans (Keep.refl h0 [a]).1 y3_0), f11, f12, (f9.same W8), f13, (Or.inl ⟨hall, rfl, rfl, rfl⟩)⟩)
  · skip
    show G (T3.setTop (mkF m 39 #[.val (.ref a), .val (.ref u), .val (.int (0 : Int32)), .val (.int (Int32.ofNat cs.length)), .val .null, .unset] [(.ref t_3)]))
    refine hG _ _ (fun t k => XS.astore X3.here hx rfl (hb hby own_d18_39) rfl rfl (l' := #[.val (.ref a), .val (.ref u), .val (.int (0 : Int32)), .val (.int (Int32.ofNat cs.length)), .val .null, .val (.ref t_3)]) rfl k) ?_
    show G (T3.setTop (mkF m 41 #[.val (.ref a), .val (.ref u), .val (.int (0 : Int32)), .val (.int (Int32.ofNat cs.length)), .val .null, .val (.ref t_3)] []))
    refine hG _ _ (fun t k => XS.aloadN X3.here hx rfl (hb hby own_d18_41) rfl rfl k) ?_
    show G (T3.setTop (mkF m 42 #[.val (.ref a), .val (.ref u), .val (.int (0 : Int32)), .val (.int (Int32.ofNat cs.length)), .val .null, .val (.ref t_3)] [(.ref a)]))
    refine hG _ _ (fun t k => XS.aload X3.here hx rfl (hb hby own_d18_42) rfl rfl k) ?_
    show G (T3.setTop (mkF m 44 #[.val (.ref a), .val (.ref u), .val (.int (0 : Int32)), .val (.int (Int32.ofNat cs.length)), .val .null, .val (.ref t_3)] [(.ref t_3), (.ref a)]))
    refine hG _ _ (fun t k => XS.iloadN X3.here hx rfl (hb hby own_d18_44) rfl k) ?_
    show G (T3.setTop (mkF m 45 #[.val (.ref a), .val (.ref u), .val (.int (0 : Int32)), .val (.int (Int32.ofNat cs.length)), .val .null, .val (.ref t_3)] [(.int (Int32.ofNat cs.length)), (.ref t_3), (.ref a)]))
    refine own_callS X3 hx hZ hG hown (hw _ (List.mem_of_getElem? (i := 134) rfl)) (hw _ (List.mem_of_getElem? (i := 135) rfl)) (hw _ (List.mem_of_getElem? (i := 110) rfl)) (hw _ (List.mem_of_getElem? (i := 136) rfl)) (by decide) 1 (own_coder l Z a0 hw t_3 (Int32.ofNat cs.length) kt_3 (Int32.ofNat (2 * cs.length)) vs_3 (1 : Int32) h3 O3 r3_0 (own_coder1 g5_hpos (by omega))) (by decide) (by decide) e3 (by rw [hml]; rfl) (lenOf own_pd7 rfl) (argsL := [(.ref t_3), (.int (Int32.ofNat cs.length))]) (rest := [(.ref a)]) rfl rfl (Nat.le_of_eq rfl) (hb hby own_d18_45) (by decide) (by decide) ?_
    intro T14 h14 v14 L14 X14 e14 q14
    obtain ⟨rfl, M14, rfl⟩ := q14
    have N14 := Fr.app N3 M14
    show G (T14.setTop (mkF m 48 #[.val (.ref a), .val (.ref u), .val (.int (0 : Int32)), .val (.int (Int32.ofNat cs.length)), .val .null, .val (.ref t_3)] [(.int (1 : Int32)), (.ref a)]))
    have f16 := (g1_F.keep J3 nin0)
    have f17 := (g0_E.keep J3)
    obtain ⟨T15, h15, X15, e15, W15, st15⟩ := putFN X14 hx hZ hown (hw _ (List.mem_of_getElem? (i := 93) rfl)) Via.refl e14 f16 f17 (Or.inr ⟨(hw _ (List.mem_of_getElem? (i := 94) rfl)), rfl, hnm⟩) (hw _ (List.mem_of_getElem? (i := 81) rfl)) (ty := .byte) (v' := (.int (1 : Int32))) (by decide) rfl rfl (g := (mkF m 48 #[.val (.ref a), .val (.ref u), .val (.int (0 : Int32)), .val (.int (Int32.ofNat cs.length)), .val .null, .val (.ref t_3)] [(.int (1 : Int32)), (.ref a)])) rfl rfl (hb hby own_d18_48)
    refine hG _ _ st15 ?_
    have K15 : Keep h0 h15 [a] := K3.wr W15 (Or.inl (List.mem_of_getElem? (i := 0) rfl))
    have O15 : own_Old Z h15 := O3.wr W15 g3_G
    have N15 := Fr.snoc X15 N14 g3_G
    show G (T15.setTop (mkF m 51 #[.val (.ref a), .val (.ref u), .val (.int (0 : Int32)), .val (.int (Int32.ofNat cs.length)), .val .null, .val (.ref t_3)] []))
    refine hG _ _ (fun t k => XS.aloadN X15.here hx rfl (hb hby own_d18_51) rfl rfl k) ?_
    show G (T15.setTop (mkF m 52 #[.val (.ref a), .val (.ref u), .val (.int (0 : Int32)), .val (.int (Int32.ofNat cs.length)), .val .null, .val (.ref t_3)] [(.ref a)]))
    refine hG _ _ (fun t k => XS.aload X15.here hx rfl (hb hby own_d18_52) rfl rfl k) ?_
    show G (T15.setTop (mkF m 54 #[.val (.ref a), .val (.ref u), .val (.int (0 : Int32)), .val (.int (Int32.ofNat cs.length)), .val .null, .val (.ref t_3)] [(.ref t_3), (.ref a)]))
    have f19 := ((g2_F.keep J3 nin0).other W15 (Or.inr (slot_ne (Or.inr (hw _ (List.mem_of_getElem? (i := 92) rfl))) (Or.inr (hw _ (List.mem_of_getElem? (i := 94) rfl))) (by decide) (t := (.array .byte)) (t' := .byte) (by decide) (by decide))))
    have f20 := (f17.wr W15)
    obtain ⟨T18, h18, X18, e18, W18, st18⟩ := putF X15 hx hZ hown (host := "") (Or.inl (hw _ (List.mem_of_getElem? (i := 91) rfl))) Via.refl e15 f19 f20 (Or.inr ⟨(hw _ (List.mem_of_getElem? (i := 92) rfl)), rfl, hnm⟩) (hw _ (List.mem_of_getElem? (i := 81) rfl)) (ty := (.array .byte)) (by decide) rfl rfl (g := (mkF m 54 #[.val (.ref a), .val (.ref u), .val (.int (0 : Int32)), .val (.int (Int32.ofNat cs.length)), .val .null, .val (.ref t_3)] [(.ref t_3), (.ref a)])) rfl rfl (hb hby own_d18_54)
    refine hG _ _ st18 ?_
    have K18 : Keep h0 h18 [a] := K15.wr W18 (Or.inl (List.mem_of_getElem? (i := 0) rfl))
    have O18 : own_Old Z h18 := O15.wr W18 g3_G
    have N18 := Fr.snoc X18 N15 g3_G
    show G (T18.setTop (mkF m 57 #[.val (.ref a), .val (.ref u), .val (.int (0 : Int32)), .val (.int (Int32.ofNat cs.length)), .val .null, .val (.ref t_3)] []))
    have f21 := (f20.wr W18)
    have f22 := ((f16.same W15).other W18 (Or.inr (slot_ne (Or.inr (hw _ (List.mem_of_getElem? (i := 94) rfl))) (Or.inr (hw _ (List.mem_of_getElem? (i := 92) rfl))) (by decide) (t := .byte) (t' := (.array .byte)) (by decide) (by decide))))
    have f23 := ((r3_0.other W15 (Ne.symm (own_ne g0_E.lt y3_0))).other W18 (Ne.symm (own_ne g0_E.lt y3_0)))
    exact own_retV hR hret X18 hx (hb hby own_d18_57) (by decide) (by decide) (by rw [e18]; exact ⟨t_3, kt_3, (1 : Int32), (Int32.ofNat (2 * cs.length)), vs_3, rfl, N18, K18, (Nat.le_trans (Keep.refl h0 [a]).1 y3_0), f21, f22, (f19.same W18), f23, (Or.inr ⟨hbig, rfl, rfl, h16⟩)⟩)
theorem own_pd9 : parseMethodDescriptor "([C)V" = some ⟨[(.array .char)], none⟩ := by decide +kernel
set_option maxRecDepth 65536 in
set_option maxHeartbeats 40000000 in
theorem own_gstr1 (l : Launch) (Z : State) (a0 : Array Value) (hw : ∀ d ∈ tables_1, d.before a0 Z = true) (a : Addr) (u : Addr) (ku : ClassId) (cs : List Int32) (cpt : Int32) (v0 : Value) (v1 : Value) (h0 : Heap) (O0 : own_Old Z h0) (g0_E : Exa Z h0 a "java/lang/String") (g1_F : Fld Z h0 a "java/lang/String" "coder" "B" v0) (g2_F : Fld Z h0 a "java/lang/String" "value" "[B" v1) (g3_G : Z.heap.size ≤ a) (g4_V : Arv Z h0 u ku .char (Int32.ofNat cs.length) (cs.map Value.int) (.int (0 : Int32))) (g5_hpos : 0 < cs.length) (g6_hcap : cs.length ≤ 2) (g7_h16 : ∀ c ∈ cs, 0 ≤ c.toInt ∧ c.toInt ≤ 65535) (g8_S : Sta Z Z.heap "java/lang/String" "COMPACT_STRINGS" "Z" (.int cpt)) (g9_hcpt : ¬ (cpt = (0 : Int32))) (g10_S : Sta Z Z.heap "java/lang/StringUTF16" "$assertionsDisabled" "Z" (.int (1 : Int32))) (g11_S : Sta Z Z.heap "java/lang/StringUTF16" "HI_BYTE_SHIFT" "I" (.int (0 : Int32))) (g12_S : Sta Z Z.heap "java/lang/StringUTF16" "LO_BYTE_SHIFT" "I" (.int (8 : Int32))) :
    own_Con l Z (⟨"java/lang/String", "<init>", "([C)V"⟩ : MethodName) jdk_42_method_3_code 2 none [] ({ frames := 5, cells := 2, slots := 6, locals := 74 } : Room) #[(.ref a), (.ref u)] h0 (fun rv rh rL => ∃ (t : Addr) (kt : ClassId) (cd : Int32) (nb : Int32) (vs : List Value), rv = none ∧ own_Fr Z rL ∧ Keep h0 rh [a] ∧ h0.size ≤ t ∧ (Exa Z rh a "java/lang/String") ∧ (Fld Z rh a "java/lang/String" "coder" "B" (.int cd)) ∧ (Fld Z rh a "java/lang/String" "value" "[B" (.ref t)) ∧ (Arv Z rh t kt .byte nb vs (.int (0 : Int32))) ∧ (own_enc cs cd nb vs)) := by
  refine own_intro (plainFor_of_name (by first | (simp [plainName, overriddenIn]; done) | decide +kernel)) ?_
  intro p e s m below meth c s₁ G hx hby hml hown hnm hret hZ X0 e0 hG hR
  have N0 := Fr.nil Z.heap.size
  refine own_entry (Ls := #[.val (.ref a), .val (.ref u)]) (by first | (simp [entryFrame, mkF, argsToLocals, Value.category]; done) | rfl) ?_
  show G (s₁.setTop (mkF m 0 #[.val (.ref a), .val (.ref u)] []))
  refine hG _ _ (fun t k => XS.aloadN X0.here hx rfl (hb hby own_d17_0) rfl rfl k) ?_
  show G (s₁.setTop (mkF m 1 #[.val (.ref a), .val (.ref u)] [(.ref a)]))
  refine hG _ _ (fun t k => XS.aloadN X0.here hx rfl (hb hby own_d17_1) rfl rfl k) ?_
  show G (s₁.setTop (mkF m 2 #[.val (.ref a), .val (.ref u)] [(.ref u), (.ref a)]))
  refine hG _ _ (fun t k => XS.iconst X0.here hx rfl (hb hby own_d17_2) k) ?_
  show G (s₁.setTop (mkF m 3 #[.val (.ref a), .val (.ref u)] [(.int (0 : Int32)), (.ref u), (.ref a)]))
  refine hG _ _ (fun t k => XS.aloadN X0.here hx rfl (hb hby own_d17_3) rfl rfl k) ?_
  show G (s₁.setTop (mkF m 4 #[.val (.ref a), .val (.ref u)] [(.ref u), (.int (0 : Int32)), (.ref u), (.ref a)]))
  obtain ⟨c1, Ar1, -, S1, M1, -, -⟩ := id g4_V
  refine hG _ _ (X0.arraylength hx (by rw [e0]; exact Ar1.1) (State.isArrayOf_alike hZ.alike Ar1.2.1) (g := (mkF m 4 #[.val (.ref a), .val (.ref u)] [(.ref u), (.int (0 : Int32)), (.ref u), (.ref a)])) rfl rfl (hb hby own_d17_4)) ?_
  rw [len_of S1 M1]
  show G (s₁.setTop (mkF m 5 #[.val (.ref a), .val (.ref u)] [(.int (Int32.ofNat cs.length)), (.int (0 : Int32)), (.ref u), (.ref a)]))
  refine hG _ _ (fun t k => XS.aconstNull X0.here hx rfl (hb hby own_d17_5) k) ?_
  show G (s₁.setTop (mkF m 6 #[.val (.ref a), .val (.ref u)] [.null, (.int (Int32.ofNat cs.length)), (.int (0 : Int32)), (.ref u), (.ref a)]))
  refine own_callI X0 hx hZ hG hown rfl (hw _ (List.mem_of_getElem? (i := 105) rfl)) (hw _ (List.mem_of_getElem? (i := 106) rfl)) (hw _ (List.mem_of_getElem? (i := 73) rfl)) (hw _ (List.mem_of_getElem? (i := 107) rfl)) (by decide) 0 (own_gstr4 l Z a0 hw a u ku cs cpt v0 v1 h0 O0 g0_E g1_F g2_F g3_G g4_V g5_hpos g6_hcap g7_h16 g8_S g9_hcpt g10_S g11_S g12_S) (by decide) (by decide) e0 (by rw [hml]; rfl) (lenOf own_pd8 rfl) (argsL := [(.ref u), (.int (0 : Int32)), (.int (Int32.ofNat cs.length)), .null]) (rest := []) rfl rfl (Nat.le_of_eq rfl) (hb hby own_d17_6) (by decide) (by decide) ?_
  intro T2 h2 v2 L2 X2 e2 q2
  obtain ⟨t_2, kt_2, cd_2, nb_2, vs_2, rfl, M2, J2, y2_0, r2_0, r2_1, r2_2, r2_3, r2_4⟩ := q2
  have N2 := Fr.app N0 M2
  have K2 : Keep h0 h2 [a] := (Keep.refl h0 [a]).trans J2 (allS (Or.inl (List.mem_of_getElem? (i := 0) rfl)) all0)
  have O2 : own_Old Z h2 := O0.keep J2 (allS g3_G all0)
  show G (T2.setTop (mkF m 9 #[.val (.ref a), .val (.ref u)] []))
  exact own_retV hR hret X2 hx (hb hby own_d17_9) (by decide) (by decide) (by rw [e2]; exact ⟨t_2, kt_2, cd_2, nb_2, vs_2, rfl, N2, K2, (Nat.le_trans (Keep.refl h0 [a]).1 y2_0), r2_0, r2_1, r2_2, r2_3, r2_4⟩)
set_option maxRecDepth 65536 in
set_option maxHeartbeats 40000000 in
theorem own_str4E (l : Launch) (Z : State) (a0 : Array Value) (hw : ∀ d ∈ tables_1, d.before a0 Z = true) (hEL : EW Z a0 consts_1) (a : Addr) (u : Addr) (v0 : Value) (h0 : Heap) (O0 : own_Old Z h0) (g0_E : Exa Z h0 a "java/lang/String") (g1_F : Fld Z h0 a "java/lang/String" "coder" "B" v0) (g2_F : Fld Z h0 a "java/lang/String" "value" "[B" .null) (g3_G : Z.heap.size ≤ a) :
    own_ConW l Z consts_1 (⟨"java/lang/String", "<init>", "([CIILjava/lang/Void;)V"⟩ : MethodName) jdk_42_method_149_code 6 none [] ({ frames := 1, cells := 4, slots := 8, locals := 12 } : Room) #[(.ref a), (.ref u), (.int (0 : Int32)), (.int (0 : Int32)), .null] h0 (fun rv rh rL => ∃ (t : Addr) (kt : ClassId), rv = none ∧ own_Fr Z rL ∧ Keep h0 rh [a] ∧ (Exa Z rh a "java/lang/String") ∧ (Fld Z rh a "java/lang/String" "coder" "B" (.int (0 : Int32))) ∧ (Fld Z rh a "java/lang/String" "value" "[B" (.ref t)) ∧ (Arv Z rh t kt .byte (0 : Int32) [] (.int (0 : Int32)))) := by
  refine own_introW hEL (plainFor_of_name (by first | (simp [plainName, overriddenIn]; done) | decide +kernel)) ?_
  intro p e s m below meth c s₁ G hx hby hml hown hnm hret hZ X0 e0 H0 SI0 hG hR
  have N0 := Fr.nil Z.heap.size
  refine own_entry (Ls := #[.val (.ref a), .val (.ref u), .val (.int (0 : Int32)), .val (.int (0 : Int32)), .val .null, .unset]) (by first | (simp [entryFrame, mkF, argsToLocals, Value.category]; done) | rfl) ?_
  show G (s₁.setTop (mkF m 0 #[.val (.ref a), .val (.ref u), .val (.int (0 : Int32)), .val (.int (0 : Int32)), .val .null, .unset] []))
  refine hG _ _ (fun t k => XS.aloadN X0.here hx rfl (hb hby own_d18_0) rfl rfl k) ?_
  show G (s₁.setTop (mkF m 1 #[.val (.ref a), .val (.ref u), .val (.int (0 : Int32)), .val (.int (0 : Int32)), .val .null, .unset] [(.ref a)]))
  obtain ⟨T1, X1, e1, st1⟩ := initO X0 hx hZ hown (hw _ (List.mem_of_getElem? (i := 90) rfl)) (hw _ (List.mem_of_getElem? (i := 19) rfl)) (hw _ (List.mem_of_getElem? (i := 20) rfl)) e0 (g := (mkF m 1 #[.val (.ref a), .val (.ref u), .val (.int (0 : Int32)), .val (.int (0 : Int32)), .val .null, .unset] [(.ref a)])) rfl (by rw [hml]; rfl) rfl (hb hby own_d18_1) (by decide) (W := 0) (by show 2 * 0 + _ ≤ _; exact Nat.le_of_eq rfl) (by decide)
  refine hG _ _ st1 ?_
  show G (T1.setTop (mkF m 4 #[.val (.ref a), .val (.ref u), .val (.int (0 : Int32)), .val (.int (0 : Int32)), .val .null, .unset] []))
  refine hG _ _ (fun t k => XS.iloadN X1.here hx rfl (hb hby own_d18_4) rfl k) ?_
  show G (T1.setTop (mkF m 5 #[.val (.ref a), .val (.ref u), .val (.int (0 : Int32)), .val (.int (0 : Int32)), .val .null, .unset] [(.int (0 : Int32))]))
  refine hG _ _ (fun t k => XS.ifNo X1.here hx rfl (hb hby own_d18_5) rfl ((if0 _ _).trans (teq (rfl : (0 : Int32) = (0 : Int32))).2) k) ?_
  show G (T1.setTop (mkF m 8 #[.val (.ref a), .val (.ref u), .val (.int (0 : Int32)), .val (.int (0 : Int32)), .val .null, .unset] []))
  refine hG _ _ (fun t k => XS.aloadN X1.here hx rfl (hb hby own_d18_8) rfl rfl k) ?_
  show G (T1.setTop (mkF m 9 #[.val (.ref a), .val (.ref u), .val (.int (0 : Int32)), .val (.int (0 : Int32)), .val .null, .unset] [(.ref a)]))
  obtain ⟨a2, T2, h2, k2, b2, kc2, X2, e2, E2, SI2, hk2, hZ2, hown2, Ea2, Fc2, Fv2, V2, la2, lb2, Y2, Li2, Nq2, st2⟩ := ldcCH X1 hx hZ hown (hw _ (List.mem_of_getElem? (i := 137) rfl)) (own_wS hw) e1 SI0 (Nat.le_refl _) hEL (List.mem_of_getElem? (i := 0) rfl) H0 (vs := []) (z := (0 : Int32)) ⟨by decide, by decide⟩ (by decide) rfl (g := (mkF m 9 #[.val (.ref a), .val (.ref u), .val (.int (0 : Int32)), .val (.int (0 : Int32)), .val .null, .unset] [(.ref a)])) rfl (hb hby own_d18_9) (n := 0) (by decide) (by decide) (by decide) (by decide)
  refine hG _ _ st2 ?_
  have R2 := Y2
  have C2 := (CHr.refl H0).trans R2
  have K2 : Keep h0 h2 [a] := (Keep.refl h0 [a]).ext E2
  have O2 : own_Old Z h2 := O0.ext E2
  show G (T2.setTop (mkF m 11 #[.val (.ref a), .val (.ref u), .val (.int (0 : Int32)), .val (.int (0 : Int32)), .val .null, .unset] [(.ref a2), (.ref a)]))
  obtain ⟨T3, X3, e3, st3⟩ := getF X2 hx hZ2 hown2 (host := "") (Or.inl (hw _ (List.mem_of_getElem? (i := 91) rfl))) Via.refl e2 Fv2 (g := (mkF m 11 #[.val (.ref a), .val (.ref u), .val (.int (0 : Int32)), .val (.int (0 : Int32)), .val .null, .unset] [(.ref a2), (.ref a)])) rfl rfl (hb hby own_d18_11)
  refine hG _ _ st3 ?_
  show G (T3.setTop (mkF m 14 #[.val (.ref a), .val (.ref u), .val (.int (0 : Int32)), .val (.int (0 : Int32)), .val .null, .unset] [(.ref b2), (.ref a)]))
  have f5 := (g2_F.ext E2)
  have f6 := (g0_E.ext E2)
  obtain ⟨T4, h4, X4, e4, W4, st4⟩ := putF X3 hx hZ2 hown2 (host := "") (Or.inl (hw _ (List.mem_of_getElem? (i := 91) rfl))) Via.refl e3 f5 f6 (Or.inr ⟨(hw _ (List.mem_of_getElem? (i := 92) rfl)), rfl, hnm⟩) (hw _ (List.mem_of_getElem? (i := 81) rfl)) (ty := (.array .byte)) (by decide) rfl rfl (g := (mkF m 14 #[.val (.ref a), .val (.ref u), .val (.int (0 : Int32)), .val (.int (0 : Int32)), .val .null, .unset] [(.ref b2), (.ref a)])) rfl rfl (hb hby own_d18_14)
  refine hG _ _ st4 ?_
  have sf7 : Safe Z consts_1 _ h2 a := (own_safeStr hZ2.alike f6 f5)
  have R4 := (CHr.wr W4 sf7 R2.1)
  have C4 := C2.trans R4
  have K4 : Keep h0 h4 [a] := K2.wr W4 (Or.inl (List.mem_of_getElem? (i := 0) rfl))
  have O4 : own_Old Z h4 := O2.wr W4 g3_G
  have N4 := Fr.snoc X4 N0 g3_G
  show G (T4.setTop (mkF m 17 #[.val (.ref a), .val (.ref u), .val (.int (0 : Int32)), .val (.int (0 : Int32)), .val .null, .unset] []))
  refine hG _ _ (fun t k => XS.aloadN X4.here hx rfl (hb hby own_d18_17) rfl rfl k) ?_
  show G (T4.setTop (mkF m 18 #[.val (.ref a), .val (.ref u), .val (.int (0 : Int32)), .val (.int (0 : Int32)), .val .null, .unset] [(.ref a)]))
  obtain ⟨a8, T8, h8, k8, b8, kc8, X8, e8, E8, SI8, hk8, hZ8, hown8, Ea8, Fc8, Fv8, V8, la8, lb8, Y8, Li8, Nq8, st8⟩ := ldcCH X4 hx hZ2 hown2 (hw _ (List.mem_of_getElem? (i := 137) rfl)) (own_wS hw) e4 SI2 (Nat.le_trans hk2 R4.2.1) hEL (List.mem_of_getElem? (i := 0) rfl) R4.1 (vs := []) (z := (0 : Int32)) ⟨by decide, by decide⟩ (by decide) rfl (g := (mkF m 18 #[.val (.ref a), .val (.ref u), .val (.int (0 : Int32)), .val (.int (0 : Int32)), .val .null, .unset] [(.ref a)])) rfl (hb hby own_d18_18) (n := 0) (by decide) (by decide) (by decide) (by decide)
  refine hG _ _ st8 ?_
  have R8 := Y8
  have C8 := C4.trans R8
  have K8 : Keep h0 h8 [a] := K4.ext E8
  have O8 : own_Old Z h8 := O4.ext E8
  show G (T8.setTop (mkF m 20 #[.val (.ref a), .val (.ref u), .val (.int (0 : Int32)), .val (.int (0 : Int32)), .val .null, .unset] [(.ref a8), (.ref a)]))
  obtain ⟨T9, X9, e9, st9⟩ := getF X8 hx hZ8 hown8 (host := "") (Or.inl (hw _ (List.mem_of_getElem? (i := 93) rfl))) Via.refl e8 Fc8 (g := (mkF m 20 #[.val (.ref a), .val (.ref u), .val (.int (0 : Int32)), .val (.int (0 : Int32)), .val .null, .unset] [(.ref a8), (.ref a)])) rfl rfl (hb hby own_d18_20)
  refine hG _ _ st9 ?_
  show G (T9.setTop (mkF m 23 #[.val (.ref a), .val (.ref u), .val (.int (0 : Int32)), .val (.int (0 : Int32)), .val .null, .unset] [(.int (0 : Int32)), (.ref a)]))
  have f11 := (((g1_F.ext E2).other W4 (Or.inr (slot_ne (Or.inr (hw _ (List.mem_of_getElem? (i := 94) rfl))) (Or.inr (hw _ (List.mem_of_getElem? (i := 92) rfl))) (by decide) (t := .byte) (t' := (.array .byte)) (by decide) (by decide)))).ext E8)
  have f12 := ((f6.wr W4).ext E8)
  obtain ⟨T10, h10, X10, e10, W10, st10⟩ := putFN X9 hx hZ8 hown8 (hw _ (List.mem_of_getElem? (i := 93) rfl)) Via.refl e9 f11 f12 (Or.inr ⟨(hw _ (List.mem_of_getElem? (i := 94) rfl)), rfl, hnm⟩) (hw _ (List.mem_of_getElem? (i := 81) rfl)) (ty := .byte) (v' := (.int (0 : Int32))) (by decide) rfl rfl (g := (mkF m 23 #[.val (.ref a), .val (.ref u), .val (.int (0 : Int32)), .val (.int (0 : Int32)), .val .null, .unset] [(.int (0 : Int32)), (.ref a)])) rfl rfl (hb hby own_d18_23)
  refine hG _ _ st10 ?_
  have sf13 := (R8.safe (f5.same W4).lt (R4.safe f5.lt sf7))
  have R10 := (CHr.wr W10 sf13 R8.1)
  have C10 := C8.trans R10
  have K10 : Keep h0 h10 [a] := K8.wr W10 (Or.inl (List.mem_of_getElem? (i := 0) rfl))
  have O10 : own_Old Z h10 := O8.wr W10 g3_G
  have N10 := Fr.snoc X10 N4 g3_G
  show G (T10.setTop (mkF m 26 #[.val (.ref a), .val (.ref u), .val (.int (0 : Int32)), .val (.int (0 : Int32)), .val .null, .unset] []))
  have f14 := (f12.wr W10)
  have f15 := (((f5.same W4).ext E8).other W10 (Or.inr (slot_ne (Or.inr (hw _ (List.mem_of_getElem? (i := 92) rfl))) (Or.inr (hw _ (List.mem_of_getElem? (i := 94) rfl))) (by decide) (t := (.array .byte)) (t' := .byte) (by decide) (by decide))))
  have f16 := (((V2.other W4 (Ne.symm (Nq2 a sf7).2)).ext E8).other W10 (Ne.symm (Nq2 a sf7).2))
  exact own_retVW hR hret X10 hx (hb hby own_d18_26) e10 SI8 (Nat.le_trans hk8 R10.2.1) hZ8 C10 (by decide) (by decide) ⟨b2, kc2, rfl, N10, K10, f14, (f11.same W10), f15, f16⟩
set_option maxRecDepth 65536 in
set_option maxHeartbeats 40000000 in
theorem own_str1E (l : Launch) (Z : State) (a0 : Array Value) (hw : ∀ d ∈ tables_1, d.before a0 Z = true) (hEL : EW Z a0 consts_1) (a : Addr) (u : Addr) (v0 : Value) (ku : ClassId) (h0 : Heap) (O0 : own_Old Z h0) (g0_E : Exa Z h0 a "java/lang/String") (g1_F : Fld Z h0 a "java/lang/String" "coder" "B" v0) (g2_F : Fld Z h0 a "java/lang/String" "value" "[B" .null) (g3_G : Z.heap.size ≤ a) (g4_V : Arv Z h0 u ku .char (0 : Int32) [] (.int (0 : Int32))) :
    own_ConW l Z consts_1 (⟨"java/lang/String", "<init>", "([C)V"⟩ : MethodName) jdk_42_method_3_code 2 none [] ({ frames := 2, cells := 4, slots := 8, locals := 29 } : Room) #[(.ref a), (.ref u)] h0 (fun rv rh rL => ∃ (t : Addr) (kt : ClassId), rv = none ∧ own_Fr Z rL ∧ Keep h0 rh [a] ∧ (Exa Z rh a "java/lang/String") ∧ (Fld Z rh a "java/lang/String" "coder" "B" (.int (0 : Int32))) ∧ (Fld Z rh a "java/lang/String" "value" "[B" (.ref t)) ∧ (Arv Z rh t kt .byte (0 : Int32) [] (.int (0 : Int32)))) := by
  refine own_introW hEL (plainFor_of_name (by first | (simp [plainName, overriddenIn]; done) | decide +kernel)) ?_
  intro p e s m below meth c s₁ G hx hby hml hown hnm hret hZ X0 e0 H0 SI0 hG hR
  have N0 := Fr.nil Z.heap.size
  refine own_entry (Ls := #[.val (.ref a), .val (.ref u)]) (by first | (simp [entryFrame, mkF, argsToLocals, Value.category]; done) | rfl) ?_
  show G (s₁.setTop (mkF m 0 #[.val (.ref a), .val (.ref u)] []))
  refine hG _ _ (fun t k => XS.aloadN X0.here hx rfl (hb hby own_d17_0) rfl rfl k) ?_
  show G (s₁.setTop (mkF m 1 #[.val (.ref a), .val (.ref u)] [(.ref a)]))
  refine hG _ _ (fun t k => XS.aloadN X0.here hx rfl (hb hby own_d17_1) rfl rfl k) ?_
  show G (s₁.setTop (mkF m 2 #[.val (.ref a), .val (.ref u)] [(.ref u), (.ref a)]))
  refine hG _ _ (fun t k => XS.iconst X0.here hx rfl (hb hby own_d17_2) k) ?_
  show G (s₁.setTop (mkF m 3 #[.val (.ref a), .val (.ref u)] [(.int (0 : Int32)), (.ref u), (.ref a)]))
  refine hG _ _ (fun t k => XS.aloadN X0.here hx rfl (hb hby own_d17_3) rfl rfl k) ?_
  show G (s₁.setTop (mkF m 4 #[.val (.ref a), .val (.ref u)] [(.ref u), (.int (0 : Int32)), (.ref u), (.ref a)]))
  obtain ⟨c1, Ar1, -, S1, M1, -, -⟩ := id g4_V
  refine hG _ _ (X0.arraylength hx (by rw [e0]; exact Ar1.1) (State.isArrayOf_alike hZ.alike Ar1.2.1) (g := (mkF m 4 #[.val (.ref a), .val (.ref u)] [(.ref u), (.int (0 : Int32)), (.ref u), (.ref a)])) rfl rfl (hb hby own_d17_4)) ?_
  rw [len_of S1 M1]
  show G (s₁.setTop (mkF m 5 #[.val (.ref a), .val (.ref u)] [(.int (0 : Int32)), (.int (0 : Int32)), (.ref u), (.ref a)]))
  refine hG _ _ (fun t k => XS.aconstNull X0.here hx rfl (hb hby own_d17_5) k) ?_
  show G (s₁.setTop (mkF m 6 #[.val (.ref a), .val (.ref u)] [.null, (.int (0 : Int32)), (.int (0 : Int32)), (.ref u), (.ref a)]))
  refine own_callIW X0 hx hZ hG hown rfl (hw _ (List.mem_of_getElem? (i := 105) rfl)) (hw _ (List.mem_of_getElem? (i := 106) rfl)) (hw _ (List.mem_of_getElem? (i := 73) rfl)) (hw _ (List.mem_of_getElem? (i := 107) rfl)) (by decide) 0 (own_str4E l Z a0 hw hEL a u v0 h0 O0 g0_E g1_F g2_F g3_G) (by decide) (by decide) e0 SI0 (Nat.le_refl _) hEL H0 (by rw [hml]; rfl) (lenOf own_pd8 rfl) (argsL := [(.ref u), (.int (0 : Int32)), (.int (0 : Int32)), .null]) (rest := []) rfl rfl (Nat.le_of_eq rfl) (hb hby own_d17_6) (by decide) (by decide) ?_
  intro T2 h2 v2 L2 X2 e2 SI2 hZ2 hown2 Y2 q2
  obtain ⟨t_2, kt_2, rfl, M2, J2, r2_0, r2_1, r2_2, r2_3⟩ := q2
  have N2 := Fr.app N0 M2
  have R2 := Y2
  have C2 := (CHr.refl H0).trans R2
  have K2 : Keep h0 h2 [a] := (Keep.refl h0 [a]).trans J2 (allS (Or.inl (List.mem_of_getElem? (i := 0) rfl)) all0)
  have O2 : own_Old Z h2 := O0.keep J2 (allS g3_G all0)
  show G (T2.setTop (mkF m 9 #[.val (.ref a), .val (.ref u)] []))
  exact own_retVW hR hret X2 hx (hb hby own_d17_9) e2 SI2 (Nat.le_refl _) hZ2 C2 (by decide) (by decide) ⟨t_2, kt_2, rfl, N2, K2, r2_0, r2_1, r2_2, r2_3⟩
theorem own_pd10 : parseMethodDescriptor "([BB)V" = some ⟨[(.array .byte), .byte], none⟩ := by decide +kernel
set_option maxRecDepth 65536 in
set_option maxHeartbeats 40000000 in
theorem own_strb0 (l : Launch) (Z : State) (a0 : Array Value) (hw : ∀ d ∈ tables_1, d.before a0 Z = true) (a : Addr) (b : Addr) (v0 : Value) (v1 : Value) (h0 : Heap) (O0 : own_Old Z h0) (g0_E : Exa Z h0 a "java/lang/String") (g1_F : Fld Z h0 a "java/lang/String" "coder" "B" v0) (g2_F : Fld Z h0 a "java/lang/String" "value" "[B" v1) (g3_G : Z.heap.size ≤ a) :
    own_Con l Z (⟨"java/lang/String", "<init>", "([BB)V"⟩ : MethodName) jdk_42_method_151_code 3 none [] ({ frames := 1, cells := 0, slots := 0, locals := 12 } : Room) #[(.ref a), (.ref b), (.int (0 : Int32))] h0 (fun rv rh rL => rv = none ∧ own_Fr Z rL ∧ Keep h0 rh [a] ∧ (Exa Z rh a "java/lang/String") ∧ (Fld Z rh a "java/lang/String" "coder" "B" (.int (0 : Int32))) ∧ (Fld Z rh a "java/lang/String" "value" "[B" (.ref b))) := by
  refine own_intro (plainFor_of_name (by first | (simp [plainName, overriddenIn]; done) | decide +kernel)) ?_
  intro p e s m below meth c s₁ G hx hby hml hown hnm hret hZ X0 e0 hG hR
  have N0 := Fr.nil Z.heap.size
  refine own_entry (Ls := #[.val (.ref a), .val (.ref b), .val (.int (0 : Int32))]) (by first | (simp [entryFrame, mkF, argsToLocals, Value.category]; done) | rfl) ?_
  show G (s₁.setTop (mkF m 0 #[.val (.ref a), .val (.ref b), .val (.int (0 : Int32))] []))
  refine hG _ _ (fun t k => XS.aloadN X0.here hx rfl (hb hby own_d15_0) rfl rfl k) ?_
  show G (s₁.setTop (mkF m 1 #[.val (.ref a), .val (.ref b), .val (.int (0 : Int32))] [(.ref a)]))
  obtain ⟨T1, X1, e1, st1⟩ := initO X0 hx hZ hown (hw _ (List.mem_of_getElem? (i := 90) rfl)) (hw _ (List.mem_of_getElem? (i := 19) rfl)) (hw _ (List.mem_of_getElem? (i := 20) rfl)) e0 (g := (mkF m 1 #[.val (.ref a), .val (.ref b), .val (.int (0 : Int32))] [(.ref a)])) rfl (by rw [hml]; rfl) rfl (hb hby own_d15_1) (by decide) (W := 0) (by show 2 * 0 + _ ≤ _; exact Nat.le_of_eq rfl) (by decide)
  refine hG _ _ st1 ?_
  show G (T1.setTop (mkF m 4 #[.val (.ref a), .val (.ref b), .val (.int (0 : Int32))] []))
  refine hG _ _ (fun t k => XS.aloadN X1.here hx rfl (hb hby own_d15_4) rfl rfl k) ?_
  show G (T1.setTop (mkF m 5 #[.val (.ref a), .val (.ref b), .val (.int (0 : Int32))] [(.ref a)]))
  refine hG _ _ (fun t k => XS.aloadN X1.here hx rfl (hb hby own_d15_5) rfl rfl k) ?_
  show G (T1.setTop (mkF m 6 #[.val (.ref a), .val (.ref b), .val (.int (0 : Int32))] [(.ref b), (.ref a)]))
  obtain ⟨T2, h2, X2, e2, W2, st2⟩ := putF X1 hx hZ hown (host := "") (Or.inl (hw _ (List.mem_of_getElem? (i := 91) rfl))) Via.refl e1 g2_F g0_E (Or.inr ⟨(hw _ (List.mem_of_getElem? (i := 92) rfl)), rfl, hnm⟩) (hw _ (List.mem_of_getElem? (i := 81) rfl)) (ty := (.array .byte)) (by decide) rfl rfl (g := (mkF m 6 #[.val (.ref a), .val (.ref b), .val (.int (0 : Int32))] [(.ref b), (.ref a)])) rfl rfl (hb hby own_d15_6)
  refine hG _ _ st2 ?_
  have K2 : Keep h0 h2 [a] := (Keep.refl h0 [a]).wr W2 (Or.inl (List.mem_of_getElem? (i := 0) rfl))
  have O2 : own_Old Z h2 := O0.wr W2 g3_G
  have N2 := Fr.snoc X2 N0 g3_G
  show G (T2.setTop (mkF m 9 #[.val (.ref a), .val (.ref b), .val (.int (0 : Int32))] []))
  refine hG _ _ (fun t k => XS.aloadN X2.here hx rfl (hb hby own_d15_9) rfl rfl k) ?_
  show G (T2.setTop (mkF m 10 #[.val (.ref a), .val (.ref b), .val (.int (0 : Int32))] [(.ref a)]))
  refine hG _ _ (fun t k => XS.iloadN X2.here hx rfl (hb hby own_d15_10) rfl k) ?_
  show G (T2.setTop (mkF m 11 #[.val (.ref a), .val (.ref b), .val (.int (0 : Int32))] [(.int (0 : Int32)), (.ref a)]))
  have f4 := (g1_F.other W2 (Or.inr (slot_ne (Or.inr (hw _ (List.mem_of_getElem? (i := 94) rfl))) (Or.inr (hw _ (List.mem_of_getElem? (i := 92) rfl))) (by decide) (t := .byte) (t' := (.array .byte)) (by decide) (by decide))))
  have f5 := (g0_E.wr W2)
  obtain ⟨T3, h3, X3, e3, W3, st3⟩ := putFN X2 hx hZ hown (hw _ (List.mem_of_getElem? (i := 93) rfl)) Via.refl e2 f4 f5 (Or.inr ⟨(hw _ (List.mem_of_getElem? (i := 94) rfl)), rfl, hnm⟩) (hw _ (List.mem_of_getElem? (i := 81) rfl)) (ty := .byte) (v' := (.int (0 : Int32))) (by decide) rfl rfl (g := (mkF m 11 #[.val (.ref a), .val (.ref b), .val (.int (0 : Int32))] [(.int (0 : Int32)), (.ref a)])) rfl rfl (hb hby own_d15_11)
  refine hG _ _ st3 ?_
  have K3 : Keep h0 h3 [a] := K2.wr W3 (Or.inl (List.mem_of_getElem? (i := 0) rfl))
  have O3 : own_Old Z h3 := O2.wr W3 g3_G
  have N3 := Fr.snoc X3 N2 g3_G
  show G (T3.setTop (mkF m 14 #[.val (.ref a), .val (.ref b), .val (.int (0 : Int32))] []))
  have f6 := (f5.wr W3)
  have f7 := ((g2_F.same W2).other W3 (Or.inr (slot_ne (Or.inr (hw _ (List.mem_of_getElem? (i := 92) rfl))) (Or.inr (hw _ (List.mem_of_getElem? (i := 94) rfl))) (by decide) (t := (.array .byte)) (t' := .byte) (by decide) (by decide))))
  exact own_retV hR hret X3 hx (hb hby own_d15_14) (by decide) (by decide) (by rw [e3]; exact ⟨rfl, N3, K3, f6, (f4.same W3), f7⟩)
set_option maxRecDepth 65536 in
set_option maxHeartbeats 40000000 in
theorem own_strb1 (l : Launch) (Z : State) (a0 : Array Value) (hw : ∀ d ∈ tables_1, d.before a0 Z = true) (a : Addr) (b : Addr) (v0 : Value) (v1 : Value) (h0 : Heap) (O0 : own_Old Z h0) (g0_E : Exa Z h0 a "java/lang/String") (g1_F : Fld Z h0 a "java/lang/String" "coder" "B" v0) (g2_F : Fld Z h0 a "java/lang/String" "value" "[B" v1) (g3_G : Z.heap.size ≤ a) :
    own_Con l Z (⟨"java/lang/String", "<init>", "([BB)V"⟩ : MethodName) jdk_42_method_151_code 3 none [] ({ frames := 1, cells := 0, slots := 0, locals := 12 } : Room) #[(.ref a), (.ref b), (.int (1 : Int32))] h0 (fun rv rh rL => rv = none ∧ own_Fr Z rL ∧ Keep h0 rh [a] ∧ (Exa Z rh a "java/lang/String") ∧ (Fld Z rh a "java/lang/String" "coder" "B" (.int (1 : Int32))) ∧ (Fld Z rh a "java/lang/String" "value" "[B" (.ref b))) := by
  refine own_intro (plainFor_of_name (by first | (simp [plainName, overriddenIn]; done) | decide +kernel)) ?_
  intro p e s m below meth c s₁ G hx hby hml hown hnm hret hZ X0 e0 hG hR
  have N0 := Fr.nil Z.heap.size
  refine own_entry (Ls := #[.val (.ref a), .val (.ref b), .val (.int (1 : Int32))]) (by first | (simp [entryFrame, mkF, argsToLocals, Value.category]; done) | rfl) ?_
  show G (s₁.setTop (mkF m 0 #[.val (.ref a), .val (.ref b), .val (.int (1 : Int32))] []))
  refine hG _ _ (fun t k => XS.aloadN X0.here hx rfl (hb hby own_d15_0) rfl rfl k) ?_
  show G (s₁.setTop (mkF m 1 #[.val (.ref a), .val (.ref b), .val (.int (1 : Int32))] [(.ref a)]))
  obtain ⟨T1, X1, e1, st1⟩ := initO X0 hx hZ hown (hw _ (List.mem_of_getElem? (i := 90) rfl)) (hw _ (List.mem_of_getElem? (i := 19) rfl)) (hw _ (List.mem_of_getElem? (i := 20) rfl)) e0 (g := (mkF m 1 #[.val (.ref a), .val (.ref b), .val (.int (1 : Int32))] [(.ref a)])) rfl (by rw [hml]; rfl) rfl (hb hby own_d15_1) (by decide) (W := 0) (by show 2 * 0 + _ ≤ _; exact Nat.le_of_eq rfl) (by decide)
  refine hG _ _ st1 ?_
  show G (T1.setTop (mkF m 4 #[.val (.ref a), .val (.ref b), .val (.int (1 : Int32))] []))
  refine hG _ _ (fun t k => XS.aloadN X1.here hx rfl (hb hby own_d15_4) rfl rfl k) ?_
  show G (T1.setTop (mkF m 5 #[.val (.ref a), .val (.ref b), .val (.int (1 : Int32))] [(.ref a)]))
  refine hG _ _ (fun t k => XS.aloadN X1.here hx rfl (hb hby own_d15_5) rfl rfl k) ?_
  show G (T1.setTop (mkF m 6 #[.val (.ref a), .val (.ref b), .val (.int (1 : Int32))] [(.ref b), (.ref a)]))
  obtain ⟨T2, h2, X2, e2, W2, st2⟩ := putF X1 hx hZ hown (host := "") (Or.inl (hw _ (List.mem_of_getElem? (i := 91) rfl))) Via.refl e1 g2_F g0_E (Or.inr ⟨(hw _ (List.mem_of_getElem? (i := 92) rfl)), rfl, hnm⟩) (hw _ (List.mem_of_getElem? (i := 81) rfl)) (ty := (.array .byte)) (by decide) rfl rfl (g := (mkF m 6 #[.val (.ref a), .val (.ref b), .val (.int (1 : Int32))] [(.ref b), (.ref a)])) rfl rfl (hb hby own_d15_6)
  refine hG _ _ st2 ?_
  have K2 : Keep h0 h2 [a] := (Keep.refl h0 [a]).wr W2 (Or.inl (List.mem_of_getElem? (i := 0) rfl))
  have O2 : own_Old Z h2 := O0.wr W2 g3_G
  have N2 := Fr.snoc X2 N0 g3_G
  show G (T2.setTop (mkF m 9 #[.val (.ref a), .val (.ref b), .val (.int (1 : Int32))] []))
  refine hG _ _ (fun t k => XS.aloadN X2.here hx rfl (hb hby own_d15_9) rfl rfl k) ?_
  show G (T2.setTop (mkF m 10 #[.val (.ref a), .val (.ref b), .val (.int (1 : Int32))] [(.ref a)]))
  refine hG _ _ (fun t k => XS.iloadN X2.here hx rfl (hb hby own_d15_10) rfl k) ?_
  show G (T2.setTop (mkF m 11 #[.val (.ref a), .val (.ref b), .val (.int (1 : Int32))] [(.int (1 : Int32)), (.ref a)]))
  have f4 := (g1_F.other W2 (Or.inr (slot_ne (Or.inr (hw _ (List.mem_of_getElem? (i := 94) rfl))) (Or.inr (hw _ (List.mem_of_getElem? (i := 92) rfl))) (by decide) (t := .byte) (t' := (.array .byte)) (by decide) (by decide))))
  have f5 := (g0_E.wr W2)
  obtain ⟨T3, h3, X3, e3, W3, st3⟩ := putFN X2 hx hZ hown (hw _ (List.mem_of_getElem? (i := 93) rfl)) Via.refl e2 f4 f5 (Or.inr ⟨(hw _ (List.mem_of_getElem? (i := 94) rfl)), rfl, hnm⟩) (hw _ (List.mem_of_getElem? (i := 81) rfl)) (ty := .byte) (v' := (.int (1 : Int32))) (by decide) rfl rfl (g := (mkF m 11 #[.val (.ref a), .val (.ref b), .val (.int (1 : Int32))] [(.int (1 : Int32)), (.ref a)])) rfl rfl (hb hby own_d15_11)
  refine hG _ _ st3 ?_
  have K3 : Keep h0 h3 [a] := K2.wr W3 (Or.inl (List.mem_of_getElem? (i := 0) rfl))
  have O3 : own_Old Z h3 := O2.wr W3 g3_G
  have N3 := Fr.snoc X3 N2 g3_G
  show G (T3.setTop (mkF m 14 #[.val (.ref a), .val (.ref b), .val (.int (1 : Int32))] []))
  have f6 := (f5.wr W3)
  have f7 := ((g2_F.same W2).other W3 (Or.inr (slot_ne (Or.inr (hw _ (List.mem_of_getElem? (i := 92) rfl))) (Or.inr (hw _ (List.mem_of_getElem? (i := 94) rfl))) (by decide) (t := (.array .byte)) (t' := .byte) (by decide) (by decide))))
  exact own_retV hR hret X3 hx (hb hby own_d15_14) (by decide) (by decide) (by rw [e3]; exact ⟨rfl, N3, K3, f6, (f4.same W3), f7⟩)
theorem own_pd11 : parseMethodDescriptor "(C)Z" = some ⟨[.char], some .boolean⟩ := by decide +kernel
set_option maxRecDepth 65536 in
set_option maxHeartbeats 40000000 in
theorem own_can1 (l : Launch) (Z : State) (a0 : Array Value) (hw : ∀ d ∈ tables_1, d.before a0 Z = true) (ch : Int32) (h0 : Heap) (O0 : own_Old Z h0) (g0_hch : ¬ ((255 : Int32) < ch)) :
    own_Con l Z (⟨"java/lang/StringLatin1", "canEncode", "(C)Z"⟩ : MethodName) jdk_43_method_3_code 1 (some .boolean) [] ({ frames := 0, cells := 0, slots := 0, locals := 0 } : Room) #[(.int ch)] h0 (fun rv rh rL => rv = some (.int (1 : Int32)) ∧ own_Fr Z rL ∧ h0 = rh) := by
  refine own_intro (plainFor_of_name (by first | (simp [plainName, overriddenIn]; done) | decide +kernel)) ?_
  intro p e s m below meth c s₁ G hx hby hml hown hnm hret hZ X0 e0 hG hR
  have N0 := Fr.nil Z.heap.size
  refine own_entry (Ls := #[.val (.int ch)]) (by first | (simp [entryFrame, mkF, argsToLocals, Value.category]; done) | rfl) ?_
  show G (s₁.setTop (mkF m 0 #[.val (.int ch)] []))
  refine hG _ _ (fun t k => XS.iloadN X0.here hx rfl (hb hby own_d13_0) rfl k) ?_
  show G (s₁.setTop (mkF m 1 #[.val (.int ch)] [(.int ch)]))
  refine hG _ _ (fun t k => XS.sipush X0.here hx rfl (hb hby own_d13_1) k) ?_
  show G (s₁.setTop (mkF m 4 #[.val (.int ch)] [(.int (255 : Int32)), (.int ch)]))
  refine hG _ _ (fun t k => XS.icmpNo X0.here hx rfl (hb hby own_d13_4) rfl (flt g0_hch).2.2.1 k) ?_
  show G (s₁.setTop (mkF m 7 #[.val (.int ch)] []))
  refine hG _ _ (fun t k => XS.iconst X0.here hx rfl (hb hby own_d13_7) k) ?_
  show G (s₁.setTop (mkF m 8 #[.val (.int ch)] [(.int (1 : Int32))]))
  refine hG _ _ (fun t k => XS.goto X0.here hx rfl (pc0 := 8) (pc' := 12) rfl (hb hby own_d13_8) (by decide) (by decide) k) ?_
  show G (s₁.setTop (mkF m 12 #[.val (.int ch)] [(.int (1 : Int32))]))
  exact own_retN hR hret (by simp) X0 hx (hb hby own_d13_12) (by decide) (by decide) (by rw [e0]; exact ⟨rfl, N0, rfl⟩)
set_option maxRecDepth 65536 in
set_option maxHeartbeats 40000000 in
theorem own_can0 (l : Launch) (Z : State) (a0 : Array Value) (hw : ∀ d ∈ tables_1, d.before a0 Z = true) (ch : Int32) (h0 : Heap) (O0 : own_Old Z h0) (g0_hch : (255 : Int32) < ch) :
    own_Con l Z (⟨"java/lang/StringLatin1", "canEncode", "(C)Z"⟩ : MethodName) jdk_43_method_3_code 1 (some .boolean) [] ({ frames := 0, cells := 0, slots := 0, locals := 0 } : Room) #[(.int ch)] h0 (fun rv rh rL => rv = some (.int (0 : Int32)) ∧ own_Fr Z rL ∧ h0 = rh) := by
  refine own_intro (plainFor_of_name (by first | (simp [plainName, overriddenIn]; done) | decide +kernel)) ?_
  intro p e s m below meth c s₁ G hx hby hml hown hnm hret hZ X0 e0 hG hR
  have N0 := Fr.nil Z.heap.size
  refine own_entry (Ls := #[.val (.int ch)]) (by first | (simp [entryFrame, mkF, argsToLocals, Value.category]; done) | rfl) ?_
  show G (s₁.setTop (mkF m 0 #[.val (.int ch)] []))
  refine hG _ _ (fun t k => XS.iloadN X0.here hx rfl (hb hby own_d13_0) rfl k) ?_
  show G (s₁.setTop (mkF m 1 #[.val (.int ch)] [(.int ch)]))
  refine hG _ _ (fun t k => XS.sipush X0.here hx rfl (hb hby own_d13_1) k) ?_
  show G (s₁.setTop (mkF m 4 #[.val (.int ch)] [(.int (255 : Int32)), (.int ch)]))
  refine hG _ _ (fun t k => XS.icmpYes X0.here hx rfl (pc0 := 4) (pc' := 11) rfl (hb hby own_d13_4) rfl (tlt g0_hch).2.2.1 (by decide) (by decide) k) ?_
  show G (s₁.setTop (mkF m 11 #[.val (.int ch)] []))
  refine hG _ _ (fun t k => XS.iconst X0.here hx rfl (hb hby own_d13_11) k) ?_
  show G (s₁.setTop (mkF m 12 #[.val (.int ch)] [(.int (0 : Int32))]))
  exact own_retN hR hret (by simp) X0 hx (hb hby own_d13_12) (by decide) (by decide) (by rw [e0]; exact ⟨rfl, N0, rfl⟩)
theorem own_pd12 : parseMethodDescriptor "(C)[B" = some ⟨[.char], some (.array .byte)⟩ := by decide +kernel
set_option maxRecDepth 65536 in
set_option maxHeartbeats 40000000 in
theorem own_tob1 (l : Launch) (Z : State) (a0 : Array Value) (hw : ∀ d ∈ tables_1, d.before a0 Z = true) (ch : Int32) (h0 : Heap) (O0 : own_Old Z h0) :
    own_Con l Z (⟨"java/lang/StringLatin1", "toBytes", "(C)[B"⟩ : MethodName) jdk_43_method_46_code 1 (some (.array .byte)) [] ({ frames := 0, cells := 1, slots := 1, locals := 0 } : Room) #[(.int ch)] h0 (fun rv rh rL => ∃ (t : Addr) (kt : ClassId), rv = some (.ref t) ∧ own_Fr Z rL ∧ Keep h0 rh [] ∧ h0.size ≤ t ∧ (Arv Z rh t kt .byte (1 : Int32) [(.int (nar .byte (ch.toInt8.toInt32)))] (.int (0 : Int32)))) := by
  refine own_intro (plainFor_of_name (by first | (simp [plainName, overriddenIn]; done) | decide +kernel)) ?_
  intro p e s m below meth c s₁ G hx hby hml hown hnm hret hZ X0 e0 hG hR
  have N0 := Fr.nil Z.heap.size
  refine own_entry (Ls := #[.val (.int ch)]) (by first | (simp [entryFrame, mkF, argsToLocals, Value.category]; done) | rfl) ?_
  show G (s₁.setTop (mkF m 0 #[.val (.int ch)] []))
  refine hG _ _ (fun t k => XS.iconst X0.here hx rfl (hb hby own_d14_0) k) ?_
  show G (s₁.setTop (mkF m 1 #[.val (.int ch)] [(.int (1 : Int32))]))
  obtain ⟨T1, h1, k1, X1, e1, E1, A1, st1⟩ := newP X0 hx hZ (hw _ (List.mem_of_getElem? (i := 85) rfl)) e0 (g := (mkF m 1 #[.val (.int ch)] [(.int (1 : Int32))])) rfl (hb hby own_d14_1) rfl (by decide) (cap := 1) (by decide) (by decide) (by decide) (by decide)
  obtain ⟨b1, z1⟩ : ∃ z, z = h0.size := ⟨_, rfl⟩
  rw [← z1] at A1 st1
  refine hG _ _ st1 ?_
  have K1 : Keep h0 h1 [] := (Keep.refl h0 []).ext E1
  have O1 : own_Old Z h1 := O0.ext E1
  have V1 : Arv Z h1 b1 k1 .byte (1 : Int32) [(.int (0 : Int32))] (.int (0 : Int32)) := (Arv.new A1 (by decide)).pad (pad_rep [] (.int (0 : Int32)) 1)
  show G (T1.setTop (mkF m 3 #[.val (.int ch)] [(.ref b1)]))
  refine hG _ _ (fun t k => XS.dup X1.here hx rfl (hb hby own_d14_3) rfl rfl k) ?_
  show G (T1.setTop (mkF m 4 #[.val (.int ch)] [(.ref b1), (.ref b1)]))
  refine hG _ _ (fun t k => XS.iconst X1.here hx rfl (hb hby own_d14_4) k) ?_
  show G (T1.setTop (mkF m 5 #[.val (.int ch)] [(.int (0 : Int32)), (.ref b1), (.ref b1)]))
  refine hG _ _ (fun t k => XS.iloadN X1.here hx rfl (hb hby own_d14_5) rfl k) ?_
  show G (T1.setTop (mkF m 6 #[.val (.int ch)] [(.int ch), (.int (0 : Int32)), (.ref b1), (.ref b1)]))
  refine hG _ _ (fun t k => XS.i2b X1.here hx rfl (hb hby own_d14_6) rfl k) ?_
  show G (T1.setTop (mkF m 7 #[.val (.int ch)] [(.int (ch.toInt8.toInt32)), (.int (0 : Int32)), (.ref b1), (.ref b1)]))
  obtain ⟨c2, Ar2, q2, S2, M2, H2, G2⟩ := id V1
  obtain ⟨T2, h2, X2, e2, W2, st2⟩ := stB X1 hx hZ e1 Ar2 (j := (0 : Int32)) (inb_of S2 ⟨by decide, by decide⟩) (g := (mkF m 7 #[.val (.int ch)] [(.int (ch.toInt8.toInt32)), (.int (0 : Int32)), (.ref b1), (.ref b1)])) rfl rfl (hb hby own_d14_7)
  refine hG _ _ st2 ?_
  have K2 : Keep h0 h2 [] := K1.wr W2 (Or.inr (Nat.le_trans (Keep.refl h0 []).1 (Nat.le_of_eq z1.symm)))
  have O2 : own_Old Z h2 := O1.wr W2 (own_ge O0 (Nat.le_of_eq z1.symm))
  have V2 : Arv Z h2 b1 k1 .byte (1 : Int32) [(.int (nar .byte (ch.toInt8.toInt32)))] (.int (0 : Int32)) := Arv.set Ar2 q2 S2 M2 H2 G2 (fits_nar_byte _) W2 0 rfl (Nat.le_of_ble_eq_true rfl)
  have N2 := Fr.snoc X2 N0 (own_ge O0 (Nat.le_of_eq z1.symm))
  show G (T2.setTop (mkF m 8 #[.val (.int ch)] [(.ref b1)]))
  exact own_retA hR hret rfl rfl X2 hx (hb hby own_d14_8) (by decide) (by decide) (by rw [e2]; exact ⟨b1, k1, rfl, N2, K2, (Nat.le_trans (Keep.refl h0 []).1 (Nat.le_of_eq z1.symm)), V2⟩)
set_option maxRecDepth 65536 in
set_option maxHeartbeats 40000000 in
theorem own_tob2 (l : Launch) (Z : State) (a0 : Array Value) (hw : ∀ d ∈ tables_1, d.before a0 Z = true) (ch : Int32) (h0 : Heap) (O0 : own_Old Z h0) (g0_S : Sta Z Z.heap "java/lang/StringUTF16" "$assertionsDisabled" "Z" (.int (1 : Int32))) (g1_S : Sta Z Z.heap "java/lang/StringUTF16" "HI_BYTE_SHIFT" "I" (.int (0 : Int32))) (g2_S : Sta Z Z.heap "java/lang/StringUTF16" "LO_BYTE_SHIFT" "I" (.int (8 : Int32))) :
    own_Con l Z (⟨"java/lang/StringUTF16", "toBytes", "(C)[B"⟩ : MethodName) jdk_52_method_24_code 2 (some (.array .byte)) [] ({ frames := 1, cells := 1, slots := 2, locals := 14 } : Room) #[(.int ch)] h0 (fun rv rh rL => ∃ (t : Addr) (kt : ClassId), rv = some (.ref t) ∧ own_Fr Z rL ∧ Keep h0 rh [] ∧ h0.size ≤ t ∧ (Arv Z rh t kt .byte (2 : Int32) [(.int (own_lo ch)), (.int (own_hi ch))] (.int (0 : Int32)))) := by
  refine own_intro (plainFor_of_name (by first | (simp [plainName, overriddenIn]; done) | decide +kernel)) ?_
  intro p e s m below meth c s₁ G hx hby hml hown hnm hret hZ X0 e0 hG hR
  have N0 := Fr.nil Z.heap.size
  refine own_entry (Ls := #[.val (.int ch), .unset]) (by first | (simp [entryFrame, mkF, argsToLocals, Value.category]; done) | rfl) ?_
  show G (s₁.setTop (mkF m 0 #[.val (.int ch), .unset] []))
  refine hG _ _ (fun t k => XS.iconst X0.here hx rfl (hb hby own_d27_0) k) ?_
  show G (s₁.setTop (mkF m 1 #[.val (.int ch), .unset] [(.int (2 : Int32))]))
  obtain ⟨T1, h1, k1, X1, e1, E1, A1, st1⟩ := newP X0 hx hZ (hw _ (List.mem_of_getElem? (i := 85) rfl)) e0 (g := (mkF m 1 #[.val (.int ch), .unset] [(.int (2 : Int32))])) rfl (hb hby own_d27_1) rfl (by decide) (cap := 2) (by decide) (by decide) (by decide) (by decide)
  obtain ⟨b1, z1⟩ : ∃ z, z = h0.size := ⟨_, rfl⟩
  rw [← z1] at A1 st1
  refine hG _ _ st1 ?_
  have K1 : Keep h0 h1 [] := (Keep.refl h0 []).ext E1
  have O1 : own_Old Z h1 := O0.ext E1
  have V1 : Arv Z h1 b1 k1 .byte (2 : Int32) [(.int (0 : Int32)), (.int (0 : Int32))] (.int (0 : Int32)) := (Arv.new A1 (by decide)).pad (pad_rep [] (.int (0 : Int32)) 2)
  show G (T1.setTop (mkF m 3 #[.val (.int ch), .unset] [(.ref b1)]))
  refine hG _ _ (fun t k => XS.astoreN X1.here hx rfl (hb hby own_d27_3) rfl rfl (l' := #[.val (.int ch), .val (.ref b1)]) rfl k) ?_
  show G (T1.setTop (mkF m 4 #[.val (.int ch), .val (.ref b1)] []))
  refine hG _ _ (fun t k => XS.aloadN X1.here hx rfl (hb hby own_d27_4) rfl rfl k) ?_
  show G (T1.setTop (mkF m 5 #[.val (.int ch), .val (.ref b1)] [(.ref b1)]))
  refine hG _ _ (fun t k => XS.iconst X1.here hx rfl (hb hby own_d27_5) k) ?_
  show G (T1.setTop (mkF m 6 #[.val (.int ch), .val (.ref b1)] [(.int (0 : Int32)), (.ref b1)]))
  refine hG _ _ (fun t k => XS.iloadN X1.here hx rfl (hb hby own_d27_6) rfl k) ?_
  show G (T1.setTop (mkF m 7 #[.val (.int ch), .val (.ref b1)] [(.int ch), (.int (0 : Int32)), (.ref b1)]))
  refine own_callS X1 hx hZ hG hown (hw _ (List.mem_of_getElem? (i := 125) rfl)) (hw _ (List.mem_of_getElem? (i := 126) rfl)) (hw _ (List.mem_of_getElem? (i := 110) rfl)) (hw _ (List.mem_of_getElem? (i := 127) rfl)) (by decide) 0 (own_put l Z a0 hw b1 k1 2 [(.int (0 : Int32)), (.int (0 : Int32))] 0 ch h1 O1 V1 (own_ge O0 (Nat.le_of_eq z1.symm)) (by decide) (by decide) rfl g0_S g1_S g2_S) (by decide) (by decide) e1 (by rw [hml]; rfl) (lenOf own_pd1 rfl) (argsL := [(.ref b1), (.int (0 : Int32)), (.int ch)]) (rest := []) rfl rfl (Nat.le_of_eq rfl) (hb hby own_d27_7) (by decide) (by decide) ?_
  intro T2 h2 v2 L2 X2 e2 q2
  obtain ⟨rfl, M2, J2, r2_0⟩ := q2
  have N2 := Fr.app N0 M2
  have K2 : Keep h0 h2 [] := K1.trans J2 (allS (Or.inr (Nat.le_trans (Keep.refl h0 []).1 (Nat.le_of_eq z1.symm))) all0)
  have O2 : own_Old Z h2 := O1.keep J2 (allS (own_ge O0 (Nat.le_of_eq z1.symm)) all0)
  show G (T2.setTop (mkF m 10 #[.val (.int ch), .val (.ref b1)] []))
  refine hG _ _ (fun t k => XS.aloadN X2.here hx rfl (hb hby own_d27_10) rfl rfl k) ?_
  show G (T2.setTop (mkF m 11 #[.val (.int ch), .val (.ref b1)] [(.ref b1)]))
  exact own_retA hR hret rfl rfl X2 hx (hb hby own_d27_11) (by decide) (by decide) (by rw [e2]; exact ⟨b1, k1, rfl, N2, K2, (Nat.le_trans (Keep.refl h0 []).1 (Nat.le_of_eq z1.symm)), r2_0⟩)
theorem own_pd13 : parseMethodDescriptor "(C)Ljava/lang/String;" = some ⟨[.char], some (.object "java/lang/String")⟩ := by decide +kernel
set_option maxRecDepth 65536 in
set_option maxHeartbeats 40000000 in
theorem own_val (l : Launch) (Z : State) (a0 : Array Value) (hw : ∀ d ∈ tables_1, d.before a0 Z = true) (ch : Int32) (cpt : Int32) (h0 : Heap) (O0 : own_Old Z h0) (g0_S : Sta Z Z.heap "java/lang/String" "COMPACT_STRINGS" "Z" (.int cpt)) (g1_hcpt : ¬ (cpt = (0 : Int32))) (g2_S : Sta Z Z.heap "java/lang/StringUTF16" "$assertionsDisabled" "Z" (.int (1 : Int32))) (g3_S : Sta Z Z.heap "java/lang/StringUTF16" "HI_BYTE_SHIFT" "I" (.int (0 : Int32))) (g4_S : Sta Z Z.heap "java/lang/StringUTF16" "LO_BYTE_SHIFT" "I" (.int (8 : Int32))) :
    own_Con l Z (⟨"java/lang/String", "valueOf", "(C)Ljava/lang/String;"⟩ : MethodName) jdk_42_method_139_code 1 (some (.object "java/lang/String")) [] ({ frames := 2, cells := 2, slots := 6, locals := 29 } : Room) #[(.int ch)] h0 (fun rv rh rL => ∃ (t : Addr) (b : Addr) (kb : ClassId) (cd : Int32) (nb : Int32) (vs : List Value), rv = some (.ref t) ∧ own_Fr Z rL ∧ Keep h0 rh [] ∧ h0.size ≤ t ∧ h0.size ≤ b ∧ (Exa Z rh t "java/lang/String") ∧ (Fld Z rh t "java/lang/String" "coder" "B" (.int cd)) ∧ (Fld Z rh t "java/lang/String" "value" "[B" (.ref b)) ∧ (Arv Z rh b kb .byte nb vs (.int (0 : Int32))) ∧ (own_enc [ch] cd nb vs)) := by
  refine own_intro (plainFor_of_name (by first | (simp [plainName, overriddenIn]; done) | decide +kernel)) ?_
  intro p e s m below meth c s₁ G hx hby hml hown hnm hret hZ X0 e0 hG hR
  have N0 := Fr.nil Z.heap.size
  refine own_entry (Ls := #[.val (.int ch)]) (by first | (simp [entryFrame, mkF, argsToLocals, Value.category]; done) | rfl) ?_
  show G (s₁.setTop (mkF m 0 #[.val (.int ch)] []))
  obtain ⟨T1, X1, e1, st1⟩ := getS2 X0 hx hZ hown (host := "") (Or.inl (hw _ (List.mem_of_getElem? (i := 75) rfl))) Via.refl e0 (own_sta g0_S O0) (g := (mkF m 0 #[.val (.int ch)] [])) rfl (hb hby own_d12_0)
  refine hG _ _ st1 ?_
  show G (T1.setTop (mkF m 3 #[.val (.int ch)] [(.int cpt)]))
  refine hG _ _ (fun t k => XS.ifNo X1.here hx rfl (hb hby own_d12_3) rfl ((if0 _ _).trans (feq g1_hcpt).1) k) ?_
  show G (T1.setTop (mkF m 6 #[.val (.int ch)] []))
  by_cases hbig : (255 : Int32) < ch
  · skip
    show G (T1.setTop (mkF m 6 #[.val (.int ch)] []))
    refine hG _ _ (fun t k => XS.iloadN X1.here hx rfl (hb hby own_d12_6) rfl k) ?_
    show G (T1.setTop (mkF m 7 #[.val (.int ch)] [(.int ch)]))
    refine own_callS X1 hx hZ hG hown (hw _ (List.mem_of_getElem? (i := 76) rfl)) (hw _ (List.mem_of_getElem? (i := 77) rfl)) (hw _ (List.mem_of_getElem? (i := 78) rfl)) (hw _ (List.mem_of_getElem? (i := 79) rfl)) (by decide) 0 (own_can0 l Z a0 hw ch h0 O0 hbig) (by decide) (by decide) e1 (by rw [hml]; rfl) (lenOf own_pd11 rfl) (argsL := [(.int ch)]) (rest := []) rfl rfl (Nat.le_of_eq rfl) (hb hby own_d12_7) (by decide) (by decide) ?_
    intro T2 h2 v2 L2 X2 e2 q2
    obtain ⟨rfl, M2, rfl⟩ := q2
    have N2 := Fr.app N0 M2
    show G (T2.setTop (mkF m 10 #[.val (.int ch)] [(.int (0 : Int32))]))
    refine hG _ _ (fun t k => XS.ifYes X2.here hx rfl (pc0 := 10) (pc' := 26) rfl (hb hby own_d12_10) rfl ((if0 _ _).trans (teq (by decide)).1) (by decide) (by decide) k) ?_
    show G (T2.setTop (mkF m 26 #[.val (.int ch)] []))
    obtain ⟨T3, h3, X3, e3, E3, A3, D3, -, st3⟩ := newO X2 hx hZ hown (hw _ (List.mem_of_getElem? (i := 80) rfl)) (hw _ (List.mem_of_getElem? (i := 81) rfl)) (hw _ (List.mem_of_getElem? (i := 73) rfl)) e2 (g := (mkF m 26 #[.val (.int ch)] [])) rfl (hb hby own_d12_26) (by decide) (by decide)
    obtain ⟨b3, z3⟩ : ∃ z, z = h0.size := ⟨_, rfl⟩
    rw [← z3] at A3 D3 st3
    refine hG _ _ st3 ?_
    have K3 : Keep h0 h3 [] := (Keep.refl h0 []).ext E3
    have O3 : own_Old Z h3 := O0.ext E3
    show G (T3.setTop (mkF m 29 #[.val (.int ch)] [(.ref b3)]))
    refine hG _ _ (fun t k => XS.dup X3.here hx rfl (hb hby own_d12_29) rfl rfl k) ?_
    show G (T3.setTop (mkF m 30 #[.val (.int ch)] [(.ref b3), (.ref b3)]))
    refine hG _ _ (fun t k => XS.iloadN X3.here hx rfl (hb hby own_d12_30) rfl k) ?_
    show G (T3.setTop (mkF m 31 #[.val (.int ch)] [(.int ch), (.ref b3), (.ref b3)]))
    refine own_callS X3 hx hZ hG hown (hw _ (List.mem_of_getElem? (i := 140) rfl)) (hw _ (List.mem_of_getElem? (i := 141) rfl)) (hw _ (List.mem_of_getElem? (i := 110) rfl)) (hw _ (List.mem_of_getElem? (i := 142) rfl)) (by decide) 2 (own_tob2 l Z a0 hw ch h3 O3 g2_S g3_S g4_S) (by decide) (by decide) e3 (by rw [hml]; rfl) (lenOf own_pd12 rfl) (argsL := [(.int ch)]) (rest := [(.ref b3), (.ref b3)]) rfl rfl (Nat.le_of_eq rfl) (hb hby own_d12_31) (by decide) (by decide) ?_
    intro T4 h4 v4 L4 X4 e4 q4
    obtain ⟨t_4, kt_4, rfl, M4, J4, y4_0, r4_0⟩ := q4
    have N4 := Fr.app N2 M4
    have K4 : Keep h0 h4 [] := K3.trans J4 all0
    have O4 : own_Old Z h4 := O3.keep J4 all0
    show G (T4.setTop (mkF m 34 #[.val (.int ch)] [(.ref t_4), (.ref b3), (.ref b3)]))
    refine hG _ _ (fun t k => XS.iconst X4.here hx rfl (hb hby own_d12_34) k) ?_
    show G (T4.setTop (mkF m 35 #[.val (.int ch)] [(.int (1 : Int32)), (.ref t_4), (.ref b3), (.ref b3)]))
    have f6 := (A3.keep J4)
    have f7 := ((D3 (Or.inr (hw _ (List.mem_of_getElem? (i := 94) rfl))) (ty := .byte) (by decide)).keep J4 nin0)
    have f8 := ((D3 (Or.inr (hw _ (List.mem_of_getElem? (i := 92) rfl))) (ty := (.array .byte)) (by decide)).keep J4 nin0)
    refine own_callI X4 hx hZ hG hown rfl (hw _ (List.mem_of_getElem? (i := 86) rfl)) (hw _ (List.mem_of_getElem? (i := 87) rfl)) (hw _ (List.mem_of_getElem? (i := 73) rfl)) (hw _ (List.mem_of_getElem? (i := 89) rfl)) (by decide) 1 (own_strb1 l Z a0 hw b3 t_4 (.int (0 : Int32)) .null h4 O4 f6 f7 f8 (own_ge O0 (Nat.le_of_eq z3.symm))) (by decide) (by decide) e4 (by rw [hml]; rfl) (lenOf own_pd10 rfl) (argsL := [(.ref t_4), (.int (1 : Int32))]) (rest := [(.ref b3)]) rfl rfl (Nat.le_of_eq rfl) (hb hby own_d12_35) (by decide) (by decide) ?_
    intro T5 h5 v5 L5 X5 e5 q5
    obtain ⟨rfl, M5, J5, r5_0, r5_1, r5_2⟩ := q5
    have N5 := Fr.app N4 M5
    have K5 : Keep h0 h5 [] := K4.trans J5 (allS (Or.inr (Nat.le_trans (Keep.refl h0 []).1 (Nat.le_of_eq z3.symm))) all0)
    have O5 : own_Old Z h5 := O4.keep J5 (allS (own_ge O0 (Nat.le_of_eq z3.symm)) all0)
    show G (T5.setTop (mkF m 38 #[.val (.int ch)] [(.ref b3)]))
    have f9 := (r4_0.keep J5 (ninS (Ne.symm (own_ne A3.lt y4_0)) nin0))
    exact own_retA hR hret rfl rfl X5 hx (hb hby own_d12_38) (by decide) (by decide) (by rw [e5]; exact ⟨b3, t_4, kt_4, (1 : Int32), (2 : Int32), [.int (own_lo ch), .int (own_hi ch)], rfl, N5, K5, (Nat.le_trans (Keep.refl h0 []).1 (Nat.le_of_eq z3.symm)), (Nat.le_trans K3.1 y4_0), r5_0, r5_1, r5_2, f9, (own_enc_u1 hbig)⟩)
  · skip
    show G (T1.setTop (mkF m 6 #[.val (.int ch)] []))
    refine hG _ _ (fun t k => XS.iloadN X1.here hx rfl (hb hby own_d12_6) rfl k) ?_
    show G (T1.setTop (mkF m 7 #[.val (.int ch)] [(.int ch)]))
    refine own_callS X1 hx hZ hG hown (hw _ (List.mem_of_getElem? (i := 76) rfl)) (hw _ (List.mem_of_getElem? (i := 77) rfl)) (hw _ (List.mem_of_getElem? (i := 78) rfl)) (hw _ (List.mem_of_getElem? (i := 79) rfl)) (by decide) 0 (own_can1 l Z a0 hw ch h0 O0 hbig) (by decide) (by decide) e1 (by rw [hml]; rfl) (lenOf own_pd11 rfl) (argsL := [(.int ch)]) (rest := []) rfl rfl (Nat.le_of_eq rfl) (hb hby own_d12_7) (by decide) (by decide) ?_
    intro T10 h10 v10 L10 X10 e10 q10
    obtain ⟨rfl, M10, rfl⟩ := q10
    have N10 := Fr.app N0 M10
    show G (T10.setTop (mkF m 10 #[.val (.int ch)] [(.int (1 : Int32))]))
    refine hG _ _ (fun t k => XS.ifNo X10.here hx rfl (hb hby own_d12_10) rfl ((if0 _ _).trans (feq (by decide)).1) k) ?_
    show G (T10.setTop (mkF m 13 #[.val (.int ch)] []))
    obtain ⟨T11, h11, X11, e11, E11, A11, D11, -, st11⟩ := newO X10 hx hZ hown (hw _ (List.mem_of_getElem? (i := 80) rfl)) (hw _ (List.mem_of_getElem? (i := 81) rfl)) (hw _ (List.mem_of_getElem? (i := 73) rfl)) e10 (g := (mkF m 13 #[.val (.int ch)] [])) rfl (hb hby own_d12_13) (by decide) (by decide)
    obtain ⟨b11, z11⟩ : ∃ z, z = h0.size := ⟨_, rfl⟩
    rw [← z11] at A11 D11 st11
    refine hG _ _ st11 ?_
    have K11 : Keep h0 h11 [] := (Keep.refl h0 []).ext E11
    have O11 : own_Old Z h11 := O0.ext E11
    show G (T11.setTop (mkF m 16 #[.val (.int ch)] [(.ref b11)]))
    refine hG _ _ (fun t k => XS.dup X11.here hx rfl (hb hby own_d12_16) rfl rfl k) ?_
    show G (T11.setTop (mkF m 17 #[.val (.int ch)] [(.ref b11), (.ref b11)]))
    refine hG _ _ (fun t k => XS.iloadN X11.here hx rfl (hb hby own_d12_17) rfl k) ?_
    show G (T11.setTop (mkF m 18 #[.val (.int ch)] [(.int ch), (.ref b11), (.ref b11)]))
    refine own_callS X11 hx hZ hG hown (hw _ (List.mem_of_getElem? (i := 82) rfl)) (hw _ (List.mem_of_getElem? (i := 83) rfl)) (hw _ (List.mem_of_getElem? (i := 78) rfl)) (hw _ (List.mem_of_getElem? (i := 84) rfl)) (by decide) 2 (own_tob1 l Z a0 hw ch h11 O11) (by decide) (by decide) e11 (by rw [hml]; rfl) (lenOf own_pd12 rfl) (argsL := [(.int ch)]) (rest := [(.ref b11), (.ref b11)]) rfl rfl (Nat.le_of_eq rfl) (hb hby own_d12_18) (by decide) (by decide) ?_
    intro T12 h12 v12 L12 X12 e12 q12
    obtain ⟨t_12, kt_12, rfl, M12, J12, y12_0, r12_0⟩ := q12
    have N12 := Fr.app N10 M12
    have K12 : Keep h0 h12 [] := K11.trans J12 all0
    have O12 : own_Old Z h12 := O11.keep J12 all0
    show G (T12.setTop (mkF m 21 #[.val (.int ch)] [(.ref t_12), (.ref b11), (.ref b11)]))
    refine hG _ _ (fun t k => XS.iconst X12.here hx rfl (hb hby own_d12_21) k) ?_
    show G (T12.setTop (mkF m 22 #[.val (.int ch)] [(.int (0 : Int32)), (.ref t_12), (.ref b11), (.ref b11)]))
    have f14 := (A11.keep J12)
    have f15 := ((D11 (Or.inr (hw _ (List.mem_of_getElem? (i := 94) rfl))) (ty := .byte) (by decide)).keep J12 nin0)
    have f16 := ((D11 (Or.inr (hw _ (List.mem_of_getElem? (i := 92) rfl))) (ty := (.array .byte)) (by decide)).keep J12 nin0)
    refine own_callI X12 hx hZ hG hown rfl (hw _ (List.mem_of_getElem? (i := 86) rfl)) (hw _ (List.mem_of_getElem? (i := 87) rfl)) (hw _ (List.mem_of_getElem? (i := 73) rfl)) (hw _ (List.mem_of_getElem? (i := 89) rfl)) (by decide) 1 (own_strb0 l Z a0 hw b11 t_12 (.int (0 : Int32)) .null h12 O12 f14 f15 f16 (own_ge O0 (Nat.le_of_eq z11.symm))) (by decide) (by decide) e12 (by rw [hml]; rfl) (lenOf own_pd10 rfl) (argsL := [(.ref t_12), (.int (0 : Int32))]) (rest := [(.ref b11)]) rfl rfl (Nat.le_of_eq rfl) (hb hby own_d12_22) (by decide) (by decide) ?_
    intro T13 h13 v13 L13 X13 e13 q13
    obtain ⟨rfl, M13, J13, r13_0, r13_1, r13_2⟩ := q13
    have N13 := Fr.app N12 M13
    have K13 : Keep h0 h13 [] := K12.trans J13 (allS (Or.inr (Nat.le_trans (Keep.refl h0 []).1 (Nat.le_of_eq z11.symm))) all0)
    have O13 : own_Old Z h13 := O12.keep J13 (allS (own_ge O0 (Nat.le_of_eq z11.symm)) all0)
    show G (T13.setTop (mkF m 25 #[.val (.int ch)] [(.ref b11)]))
    have f17 := (r12_0.keep J13 (ninS (Ne.symm (own_ne A11.lt y12_0)) nin0))
    exact own_retA hR hret rfl rfl X13 hx (hb hby own_d12_25) (by decide) (by decide) (by rw [e13]; exact ⟨b11, t_12, kt_12, (0 : Int32), (1 : Int32), [.int (nar .byte (ch.toInt8.toInt32))], rfl, N13, K13, (Nat.le_trans (Keep.refl h0 []).1 (Nat.le_of_eq z11.symm)), (Nat.le_trans K11.1 y12_0), r13_0, r13_1, r13_2, f17, (own_enc_lat1 hbig)⟩)
theorem own_pd14 : parseMethodDescriptor "(Ljava/lang/Object;)Z" = some ⟨[(.object "java/lang/Object")], some .boolean⟩ := by decide +kernel
set_option maxRecDepth 65536 in
set_option maxHeartbeats 40000000 in
theorem own_eqs (l : Launch) (Z : State) (a0 : Array Value) (hw : ∀ d ∈ tables_1, d.before a0 Z = true) (a : Addr) (h0 : Heap) (O0 : own_Old Z h0) :
    own_Con l Z (⟨"java/lang/String", "equals", "(Ljava/lang/Object;)Z"⟩ : MethodName) jdk_42_method_66_code 3 (some .boolean) [] ({ frames := 0, cells := 0, slots := 0, locals := 0 } : Room) #[(.ref a), (.ref a)] h0 (fun rv rh rL => rv = some (.int (1 : Int32)) ∧ own_Fr Z rL ∧ h0 = rh) := by
  refine own_intro (plainFor_of_name (by first | (simp [plainName, overriddenIn]; done) | decide +kernel)) ?_
  intro p e s m below meth c s₁ G hx hby hml hown hnm hret hZ X0 e0 hG hR
  have N0 := Fr.nil Z.heap.size
  refine own_entry (Ls := #[.val (.ref a), .val (.ref a), .unset]) (by first | (simp [entryFrame, mkF, argsToLocals, Value.category]; done) | rfl) ?_
  show G (s₁.setTop (mkF m 0 #[.val (.ref a), .val (.ref a), .unset] []))
  refine hG _ _ (fun t k => XS.aloadN X0.here hx rfl (hb hby own_d16_0) rfl rfl k) ?_
  show G (s₁.setTop (mkF m 1 #[.val (.ref a), .val (.ref a), .unset] [(.ref a)]))
  refine hG _ _ (fun t k => XS.aloadN X0.here hx rfl (hb hby own_d16_1) rfl rfl k) ?_
  show G (s₁.setTop (mkF m 2 #[.val (.ref a), .val (.ref a), .unset] [(.ref a), (.ref a)]))
  refine hG _ _ (fun t k => Jvm.RoadKit.acmp (g := (mkF m 2 #[.val (.ref a), .val (.ref a), .unset] [(.ref a), (.ref a)])) X0 hx rfl rfl rfl (pc0 := 2) (pc' := 5) (same := true) rfl (hb hby own_d16_2) rfl (decide_eq_true rfl) (by decide) (by decide) k) ?_
  show G (s₁.setTop (mkF m 5 #[.val (.ref a), .val (.ref a), .unset] []))
  refine hG _ _ (fun t k => XS.iconst X0.here hx rfl (hb hby own_d16_5) k) ?_
  show G (s₁.setTop (mkF m 6 #[.val (.ref a), .val (.ref a), .unset] [(.int (1 : Int32))]))
  exact own_retN hR hret (by simp) X0 hx (hb hby own_d16_6) (by decide) (by decide) (by rw [e0]; exact ⟨rfl, N0, rfl⟩)
theorem own_pd15 : parseMethodDescriptor "(Lcom/example/helmstead/helmstead/StoreRequest$Kind;Ljava/lang/String;JLjava/lang/String;Ljava/lang/String;Ljava/lang/String;Ljava/util/List;)V" = some ⟨[(.object "com/example/helmstead/helmstead/StoreRequest$Kind"), (.object "java/lang/String"), .long, (.object "java/lang/String"), (.object "java/lang/String"), (.object "java/lang/String"), (.object "java/util/List")], none⟩ := by decide +kernel
set_option maxRecDepth 65536 in
set_option maxHeartbeats 40000000 in
theorem own_finit (l : Launch) (Z : State) (a0 : Array Value) (hw : ∀ d ∈ tables_1, d.before a0 Z = true) (a : Addr) (x0 : Value) (x1 : Value) (x2 : Int64) (x3 : Value) (x4 : Value) (x5 : Value) (x6 : Value) (u0 : Value) (u1 : Value) (u2 : Value) (u3 : Value) (u4 : Value) (u5 : Value) (u6 : Value) (h0 : Heap) (O0 : own_Old Z h0) (g0_hx0 : x0.isRef = true) (g1_hx1 : x1.isRef = true) (g2_hx3 : x3.isRef = true) (g3_hx4 : x4.isRef = true) (g4_hx5 : x5.isRef = true) (g5_hx6 : x6.isRef = true) (g6_E : Exa Z h0 a "com/example/helmstead/helmstead/StoreRequest") (g7_G : Z.heap.size ≤ a) (g8_F : Fld Z h0 a "com/example/helmstead/helmstead/StoreRequest" "kind" "Lcom/example/helmstead/helmstead/StoreRequest$Kind;" u0) (g9_F : Fld Z h0 a "com/example/helmstead/helmstead/StoreRequest" "id" "Ljava/lang/String;" u1) (g10_F : Fld Z h0 a "com/example/helmstead/helmstead/StoreRequest" "leaseMs" "J" u2) (g11_F : Fld Z h0 a "com/example/helmstead/helmstead/StoreRequest" "table" "Ljava/lang/String;" u3) (g12_F : Fld Z h0 a "com/example/helmstead/helmstead/StoreRequest" "key" "Ljava/lang/String;" u4) (g13_F : Fld Z h0 a "com/example/helmstead/helmstead/StoreRequest" "value" "Ljava/lang/String;" u5) (g14_F : Fld Z h0 a "com/example/helmstead/helmstead/StoreRequest" "parts" "Ljava/util/List;" u6) :
    own_Con l Z (⟨"com/example/helmstead/helmstead/StoreRequest", "<init>", "(Lcom/example/helmstead/helmstead/StoreRequest$Kind;Ljava/lang/String;JLjava/lang/String;Ljava/lang/String;Ljava/lang/String;Ljava/util/List;)V"⟩ : MethodName) prog_29_method_1_code 9 none [] ({ frames := 2, cells := 0, slots := 0, locals := 24 } : Room) #[(.ref a), x0, x1, (.long x2), x3, x4, x5, x6] h0 (fun rv rh rL => rv = none ∧ own_Fr Z rL ∧ Keep h0 rh [a] ∧ (Exa Z rh a "com/example/helmstead/helmstead/StoreRequest") ∧ (Fld Z rh a "com/example/helmstead/helmstead/StoreRequest" "kind" "Lcom/example/helmstead/helmstead/StoreRequest$Kind;" x0) ∧ (Fld Z rh a "com/example/helmstead/helmstead/StoreRequest" "id" "Ljava/lang/String;" x1) ∧ (Fld Z rh a "com/example/helmstead/helmstead/StoreRequest" "leaseMs" "J" (.long x2)) ∧ (Fld Z rh a "com/example/helmstead/helmstead/StoreRequest" "table" "Ljava/lang/String;" x3) ∧ (Fld Z rh a "com/example/helmstead/helmstead/StoreRequest" "key" "Ljava/lang/String;" x4) ∧ (Fld Z rh a "com/example/helmstead/helmstead/StoreRequest" "value" "Ljava/lang/String;" x5) ∧ (Fld Z rh a "com/example/helmstead/helmstead/StoreRequest" "parts" "Ljava/util/List;" x6)) := by
  refine own_intro (plainFor_of_name (by first | (simp [plainName, overriddenIn]; done) | decide +kernel)) ?_
  intro p e s m below meth c s₁ G hx hby hml hown hnm hret hZ X0 e0 hG hR
  have N0 := Fr.nil Z.heap.size
  refine own_entry (Ls := #[.val (.ref a), .val x0, .val x1, .val (.long x2), .second, .val x3, .val x4, .val x5, .val x6]) (by rcases ref_cases g0_hx0 with rfl | ⟨_, rfl⟩ <;> rcases ref_cases g1_hx1 with rfl | ⟨_, rfl⟩ <;> rcases ref_cases g2_hx3 with rfl | ⟨_, rfl⟩ <;> rcases ref_cases g3_hx4 with rfl | ⟨_, rfl⟩ <;> rcases ref_cases g4_hx5 with rfl | ⟨_, rfl⟩ <;> rcases ref_cases g5_hx6 with rfl | ⟨_, rfl⟩ <;> first | (simp [entryFrame, mkF, argsToLocals, Value.category]; done) | rfl) ?_
  show G (s₁.setTop (mkF m 0 #[.val (.ref a), .val x0, .val x1, .val (.long x2), .second, .val x3, .val x4, .val x5, .val x6] []))
  refine hG _ _ (fun t k => XS.aloadN X0.here hx rfl (hb hby own_d2_0) rfl rfl k) ?_
  show G (s₁.setTop (mkF m 1 #[.val (.ref a), .val x0, .val x1, .val (.long x2), .second, .val x3, .val x4, .val x5, .val x6] [(.ref a)]))
  refine own_callI X0 hx hZ hG hown rfl (hw _ (List.mem_of_getElem? (i := 13) rfl)) (hw _ (List.mem_of_getElem? (i := 14) rfl)) (hw _ (List.mem_of_getElem? (i := 16) rfl)) (hw _ (List.mem_of_getElem? (i := 17) rfl)) (by decide) 0 (own_rec l Z a0 hw a h0 O0) (by decide) (by decide) e0 (by rw [hml]; rfl) (lenOf own_pd0 rfl) (argsL := []) (rest := []) rfl rfl (Nat.le_of_eq rfl) (hb hby own_d2_1) (by decide) (by decide) ?_
  intro T1 h1 v1 L1 X1 e1 q1
  obtain ⟨rfl, M1, rfl⟩ := q1
  have N1 := Fr.app N0 M1
  show G (T1.setTop (mkF m 4 #[.val (.ref a), .val x0, .val x1, .val (.long x2), .second, .val x3, .val x4, .val x5, .val x6] []))
  refine hG _ _ (fun t k => XS.aloadN X1.here hx rfl (hb hby own_d2_4) rfl rfl k) ?_
  show G (T1.setTop (mkF m 5 #[.val (.ref a), .val x0, .val x1, .val (.long x2), .second, .val x3, .val x4, .val x5, .val x6] [(.ref a)]))
  refine hG _ _ (fun t k => XS.aloadN X1.here hx rfl (hb hby own_d2_5) rfl g0_hx0 k) ?_
  show G (T1.setTop (mkF m 6 #[.val (.ref a), .val x0, .val x1, .val (.long x2), .second, .val x3, .val x4, .val x5, .val x6] [x0, (.ref a)]))
  obtain ⟨T2, h2, X2, e2, W2, st2⟩ := putF X1 hx hZ hown (host := "") (Or.inl (hw _ (List.mem_of_getElem? (i := 21) rfl))) Via.refl e1 g8_F g6_E (Or.inr ⟨(hw _ (List.mem_of_getElem? (i := 22) rfl)), rfl, hnm⟩) (hw _ (List.mem_of_getElem? (i := 6) rfl)) (ty := (.object "com/example/helmstead/helmstead/StoreRequest$Kind")) (by decide) (own_narR rfl g0_hx0) (own_fitR rfl g0_hx0) (g := (mkF m 6 #[.val (.ref a), .val x0, .val x1, .val (.long x2), .second, .val x3, .val x4, .val x5, .val x6] [x0, (.ref a)])) rfl rfl (hb hby own_d2_6)
  refine hG _ _ st2 ?_
  have K2 : Keep h0 h2 [a] := (Keep.refl h0 [a]).wr W2 (Or.inl (List.mem_of_getElem? (i := 0) rfl))
  have O2 : own_Old Z h2 := O0.wr W2 g7_G
  have N2 := Fr.snoc X2 N1 g7_G
  show G (T2.setTop (mkF m 9 #[.val (.ref a), .val x0, .val x1, .val (.long x2), .second, .val x3, .val x4, .val x5, .val x6] []))
  refine hG _ _ (fun t k => XS.aloadN X2.here hx rfl (hb hby own_d2_9) rfl rfl k) ?_
  show G (T2.setTop (mkF m 10 #[.val (.ref a), .val x0, .val x1, .val (.long x2), .second, .val x3, .val x4, .val x5, .val x6] [(.ref a)]))
  refine hG _ _ (fun t k => XS.aloadN X2.here hx rfl (hb hby own_d2_10) rfl g1_hx1 k) ?_
  show G (T2.setTop (mkF m 11 #[.val (.ref a), .val x0, .val x1, .val (.long x2), .second, .val x3, .val x4, .val x5, .val x6] [x1, (.ref a)]))
  have f4 := (g9_F.other W2 (Or.inr (slot_ne (Or.inr (hw _ (List.mem_of_getElem? (i := 24) rfl))) (Or.inr (hw _ (List.mem_of_getElem? (i := 22) rfl))) (by decide) (t := (.object "java/lang/String")) (t' := (.object "com/example/helmstead/helmstead/StoreRequest$Kind")) (by decide) (by decide))))
  have f5 := (g6_E.wr W2)
  obtain ⟨T3, h3, X3, e3, W3, st3⟩ := putF X2 hx hZ hown (host := "") (Or.inl (hw _ (List.mem_of_getElem? (i := 23) rfl))) Via.refl e2 f4 f5 (Or.inr ⟨(hw _ (List.mem_of_getElem? (i := 24) rfl)), rfl, hnm⟩) (hw _ (List.mem_of_getElem? (i := 6) rfl)) (ty := (.object "java/lang/String")) (by decide) (own_narR rfl g1_hx1) (own_fitR rfl g1_hx1) (g := (mkF m 11 #[.val (.ref a), .val x0, .val x1, .val (.long x2), .second, .val x3, .val x4, .val x5, .val x6] [x1, (.ref a)])) rfl rfl (hb hby own_d2_11)
  refine hG _ _ st3 ?_
  have K3 : Keep h0 h3 [a] := K2.wr W3 (Or.inl (List.mem_of_getElem? (i := 0) rfl))
  have O3 : own_Old Z h3 := O2.wr W3 g7_G
  have N3 := Fr.snoc X3 N2 g7_G
  show G (T3.setTop (mkF m 14 #[.val (.ref a), .val x0, .val x1, .val (.long x2), .second, .val x3, .val x4, .val x5, .val x6] []))
  refine hG _ _ (fun t k => XS.aloadN X3.here hx rfl (hb hby own_d2_14) rfl rfl k) ?_
  show G (T3.setTop (mkF m 15 #[.val (.ref a), .val x0, .val x1, .val (.long x2), .second, .val x3, .val x4, .val x5, .val x6] [(.ref a)]))
  refine hG _ _ (fun t k => XS.lloadN X3.here hx rfl (hb hby own_d2_15) rfl k) ?_
  show G (T3.setTop (mkF m 16 #[.val (.ref a), .val x0, .val x1, .val (.long x2), .second, .val x3, .val x4, .val x5, .val x6] [(.long x2), (.ref a)]))
  have f7 := ((g10_F.other W2 (Or.inr (slot_ne (Or.inr (hw _ (List.mem_of_getElem? (i := 26) rfl))) (Or.inr (hw _ (List.mem_of_getElem? (i := 22) rfl))) (by decide) (t := .long) (t' := (.object "com/example/helmstead/helmstead/StoreRequest$Kind")) (by decide) (by decide)))).other W3 (Or.inr (slot_ne (Or.inr (hw _ (List.mem_of_getElem? (i := 26) rfl))) (Or.inr (hw _ (List.mem_of_getElem? (i := 24) rfl))) (by decide) (t := .long) (t' := (.object "java/lang/String")) (by decide) (by decide))))
  have f8 := (f5.wr W3)
  obtain ⟨T6, h6, X6, e6, W6, st6⟩ := putF X3 hx hZ hown (host := "") (Or.inl (hw _ (List.mem_of_getElem? (i := 25) rfl))) Via.refl e3 f7 f8 (Or.inr ⟨(hw _ (List.mem_of_getElem? (i := 26) rfl)), rfl, hnm⟩) (hw _ (List.mem_of_getElem? (i := 6) rfl)) (ty := .long) (by decide) rfl rfl (g := (mkF m 16 #[.val (.ref a), .val x0, .val x1, .val (.long x2), .second, .val x3, .val x4, .val x5, .val x6] [(.long x2), (.ref a)])) rfl rfl (hb hby own_d2_16)
  refine hG _ _ st6 ?_
  have K6 : Keep h0 h6 [a] := K3.wr W6 (Or.inl (List.mem_of_getElem? (i := 0) rfl))
  have O6 : own_Old Z h6 := O3.wr W6 g7_G
  have N6 := Fr.snoc X6 N3 g7_G
  show G (T6.setTop (mkF m 19 #[.val (.ref a), .val x0, .val x1, .val (.long x2), .second, .val x3, .val x4, .val x5, .val x6] []))
  refine hG _ _ (fun t k => XS.aloadN X6.here hx rfl (hb hby own_d2_19) rfl rfl k) ?_
  show G (T6.setTop (mkF m 20 #[.val (.ref a), .val x0, .val x1, .val (.long x2), .second, .val x3, .val x4, .val x5, .val x6] [(.ref a)]))
  refine hG _ _ (fun t k => XS.aload X6.here hx rfl (hb hby own_d2_20) rfl g2_hx3 k) ?_
  show G (T6.setTop (mkF m 22 #[.val (.ref a), .val x0, .val x1, .val (.long x2), .second, .val x3, .val x4, .val x5, .val x6] [x3, (.ref a)]))
  have f10 := (((g11_F.other W2 (Or.inr (slot_ne (Or.inr (hw _ (List.mem_of_getElem? (i := 28) rfl))) (Or.inr (hw _ (List.mem_of_getElem? (i := 22) rfl))) (by decide) (t := (.object "java/lang/String")) (t' := (.object "com/example/helmstead/helmstead/StoreRequest$Kind")) (by decide) (by decide)))).other W3 (Or.inr (slot_ne (Or.inr (hw _ (List.mem_of_getElem? (i := 28) rfl))) (Or.inr (hw _ (List.mem_of_getElem? (i := 24) rfl))) (by decide) (t := (.object "java/lang/String")) (t' := (.object "java/lang/String")) (by decide) (by decide)))).other W6 (Or.inr (slot_ne (Or.inr (hw _ (List.mem_of_getElem? (i := 28) rfl))) (Or.inr (hw _ (List.mem_of_getElem? (i := 26) rfl))) (by decide) (t := (.object "java/lang/String")) (t' := .long) (by decide) (by decide))))
  have f11 := (f8.wr W6)
  obtain ⟨T9, h9, X9, e9, W9, st9⟩ := putF X6 hx hZ hown (host := "") (Or.inl (hw _ (List.mem_of_getElem? (i := 27) rfl))) Via.refl e6 f10 f11 (Or.inr ⟨(hw _ (List.mem_of_getElem? (i := 28) rfl)), rfl, hnm⟩) (hw _ (List.mem_of_getElem? (i := 6) rfl)) (ty := (.object "java/lang/String")) (by decide) (own_narR rfl g2_hx3) (own_fitR rfl g2_hx3) (g := (mkF m 22 #[.val (.ref a), .val x0, .val x1, .val (.long x2), .second, .val x3, .val x4, .val x5, .val x6] [x3, (.ref a)])) rfl rfl (hb hby own_d2_22)
  refine hG _ _ st9 ?_
  have K9 : Keep h0 h9 [a] := K6.wr W9 (Or.inl (List.mem_of_getElem? (i := 0) rfl))
  have O9 : own_Old Z h9 := O6.wr W9 g7_G
  have N9 := Fr.snoc X9 N6 g7_G
  show G (T9.setTop (mkF m 25 #[.val (.ref a), .val x0, .val x1, .val (.long x2), .second, .val x3, .val x4, .val x5, .val x6] []))
  refine hG _ _ (fun t k => XS.aloadN X9.here hx rfl (hb hby own_d2_25) rfl rfl k) ?_
  show G (T9.setTop (mkF m 26 #[.val (.ref a), .val x0, .val x1, .val (.long x2), .second, .val x3, .val x4, .val x5, .val x6] [(.ref a)]))
  refine hG _ _ (fun t k => XS.aload X9.here hx rfl (hb hby own_d2_26) rfl g3_hx4 k) ?_
  show G (T9.setTop (mkF m 28 #[.val (.ref a), .val x0, .val x1, .val (.long x2), .second, .val x3, .val x4, .val x5, .val x6] [x4, (.ref a)]))
  have f13 := ((((g12_F.other W2 (Or.inr (slot_ne (Or.inr (hw _ (List.mem_of_getElem? (i := 30) rfl))) (Or.inr (hw _ (List.mem_of_getElem? (i := 22) rfl))) (by decide) (t := (.object "java/lang/String")) (t' := (.object "com/example/helmstead/helmstead/StoreRequest$Kind")) (by decide) (by decide)))).other W3 (Or.inr (slot_ne (Or.inr (hw _ (List.mem_of_getElem? (i := 30) rfl))) (Or.inr (hw _ (List.mem_of_getElem? (i := 24) rfl))) (by decide) (t := (.object "java/lang/String")) (t' := (.object "java/lang/String")) (by decide) (by decide)))).other W6 (Or.inr (slot_ne (Or.inr (hw _ (List.mem_of_getElem? (i := 30) rfl))) (Or.inr (hw _ (List.mem_of_getElem? (i := 26) rfl))) (by decide) (t := (.object "java/lang/String")) (t' := .long) (by decide) (by decide)))).other W9 (Or.inr (slot_ne (Or.inr (hw _ (List.mem_of_getElem? (i := 30) rfl))) (Or.inr (hw _ (List.mem_of_getElem? (i := 28) rfl))) (by decide) (t := (.object "java/lang/String")) (t' := (.object "java/lang/String")) (by decide) (by decide))))
  have f14 := (f11.wr W9)
  obtain ⟨T12, h12, X12, e12, W12, st12⟩ := putF X9 hx hZ hown (host := "") (Or.inl (hw _ (List.mem_of_getElem? (i := 29) rfl))) Via.refl e9 f13 f14 (Or.inr ⟨(hw _ (List.mem_of_getElem? (i := 30) rfl)), rfl, hnm⟩) (hw _ (List.mem_of_getElem? (i := 6) rfl)) (ty := (.object "java/lang/String")) (by decide) (own_narR rfl g3_hx4) (own_fitR rfl g3_hx4) (g := (mkF m 28 #[.val (.ref a), .val x0, .val x1, .val (.long x2), .second, .val x3, .val x4, .val x5, .val x6] [x4, (.ref a)])) rfl rfl (hb hby own_d2_28)
  refine hG _ _ st12 ?_
  have K12 : Keep h0 h12 [a] := K9.wr W12 (Or.inl (List.mem_of_getElem? (i := 0) rfl))
  have O12 : own_Old Z h12 := O9.wr W12 g7_G
  have N12 := Fr.snoc X12 N9 g7_G
  show G (T12.setTop (mkF m 31 #[.val (.ref a), .val x0, .val x1, .val (.long x2), .second, .val x3, .val x4, .val x5, .val x6] []))
  refine hG _ _ (fun t k => XS.aloadN X12.here hx rfl (hb hby own_d2_31) rfl rfl k) ?_
  show G (T12.setTop (mkF m 32 #[.val (.ref a), .val x0, .val x1, .val (.long x2), .second, .val x3, .val x4, .val x5, .val x6] [(.ref a)]))
  refine hG _ _ (fun t k => XS.aload X12.here hx rfl (hb hby own_d2_32) rfl g4_hx5 k) ?_
  show G (T12.setTop (mkF m 34 #[.val (.ref a), .val x0, .val x1, .val (.long x2), .second, .val x3, .val x4, .val x5, .val x6] [x5, (.ref a)]))
  have f16 := (((((g13_F.other W2 (Or.inr (slot_ne (Or.inr (hw _ (List.mem_of_getElem? (i := 32) rfl))) (Or.inr (hw _ (List.mem_of_getElem? (i := 22) rfl))) (by decide) (t := (.object "java/lang/String")) (t' := (.object "com/example/helmstead/helmstead/StoreRequest$Kind")) (by decide) (by decide)))).other W3 (Or.inr (slot_ne (Or.inr (hw _ (List.mem_of_getElem? (i := 32) rfl))) (Or.inr (hw _ (List.mem_of_getElem? (i := 24) rfl))) (by decide) (t := (.object "java/lang/String")) (t' := (.object "java/lang/String")) (by decide) (by decide)))).other W6 (Or.inr (slot_ne (Or.inr (hw _ (List.mem_of_getElem? (i := 32) rfl))) (Or.inr (hw _ (List.mem_of_getElem? (i := 26) rfl))) (by decide) (t := (.object "java/lang/String")) (t' := .long) (by decide) (by decide)))).other W9 (Or.inr (slot_ne (Or.inr (hw _ (List.mem_of_getElem? (i := 32) rfl))) (Or.inr (hw _ (List.mem_of_getElem? (i := 28) rfl))) (by decide) (t := (.object "java/lang/String")) (t' := (.object "java/lang/String")) (by decide) (by decide)))).other W12 (Or.inr (slot_ne (Or.inr (hw _ (List.mem_of_getElem? (i := 32) rfl))) (Or.inr (hw _ (List.mem_of_getElem? (i := 30) rfl))) (by decide) (t := (.object "java/lang/String")) (t' := (.object "java/lang/String")) (by decide) (by decide))))
  have f17 := (f14.wr W12)
  obtain ⟨T15, h15, X15, e15, W15, st15⟩ := putF X12 hx hZ hown (host := "") (Or.inl (hw _ (List.mem_of_getElem? (i := 31) rfl))) Via.refl e12 f16 f17 (Or.inr ⟨(hw _ (List.mem_of_getElem? (i := 32) rfl)), rfl, hnm⟩) (hw _ (List.mem_of_getElem? (i := 6) rfl)) (ty := (.object "java/lang/String")) (by decide) (own_narR rfl g4_hx5) (own_fitR rfl g4_hx5) (g := (mkF m 34 #[.val (.ref a), .val x0, .val x1, .val (.long x2), .second, .val x3, .val x4, .val x5, .val x6] [x5, (.ref a)])) rfl rfl (hb hby own_d2_34)
  refine hG _ _ st15 ?_
  have K15 : Keep h0 h15 [a] := K12.wr W15 (Or.inl (List.mem_of_getElem? (i := 0) rfl))
  have O15 : own_Old Z h15 := O12.wr W15 g7_G
  have N15 := Fr.snoc X15 N12 g7_G
  show G (T15.setTop (mkF m 37 #[.val (.ref a), .val x0, .val x1, .val (.long x2), .second, .val x3, .val x4, .val x5, .val x6] []))
  refine hG _ _ (fun t k => XS.aloadN X15.here hx rfl (hb hby own_d2_37) rfl rfl k) ?_
  show G (T15.setTop (mkF m 38 #[.val (.ref a), .val x0, .val x1, .val (.long x2), .second, .val x3, .val x4, .val x5, .val x6] [(.ref a)]))
  refine hG _ _ (fun t k => XS.aload X15.here hx rfl (hb hby own_d2_38) rfl g5_hx6 k) ?_
  show G (T15.setTop (mkF m 40 #[.val (.ref a), .val x0, .val x1, .val (.long x2), .second, .val x3, .val x4, .val x5, .val x6] [x6, (.ref a)]))
  have f19 := ((((((g14_F.other W2 (Or.inr (slot_ne (Or.inr (hw _ (List.mem_of_getElem? (i := 34) rfl))) (Or.inr (hw _ (List.mem_of_getElem? (i := 22) rfl))) (by decide) (t := (.object "java/util/List")) (t' := (.object "com/example/helmstead/helmstead/StoreRequest$Kind")) (by decide) (by decide)))).other W3 (Or.inr (slot_ne (Or.inr (hw _ (List.mem_of_getElem? (i := 34) rfl))) (Or.inr (hw _ (List.mem_of_getElem? (i := 24) rfl))) (by decide) (t := (.object "java/util/List")) (t' := (.object "java/lang/String")) (by decide) (by decide)))).other W6 (Or.inr (slot_ne (Or.inr (hw _ (List.mem_of_getElem? (i := 34) rfl))) (Or.inr (hw _ (List.mem_of_getElem? (i := 26) rfl))) (by decide) (t := (.object "java/util/List")) (t' := .long) (by decide) (by decide)))).other W9 (Or.inr (slot_ne (Or.inr (hw _ (List.mem_of_getElem? (i := 34) rfl))) (Or.inr (hw _ (List.mem_of_getElem? (i := 28) rfl))) (by decide) (t := (.object "java/util/List")) (t' := (.object "java/lang/String")) (by decide) (by decide)))).other W12 (Or.inr (slot_ne (Or.inr (hw _ (List.mem_of_getElem? (i := 34) rfl))) (Or.inr (hw _ (List.mem_of_getElem? (i := 30) rfl))) (by decide) (t := (.object "java/util/List")) (t' := (.object "java/lang/String")) (by decide) (by decide)))).other W15 (Or.inr (slot_ne (Or.inr (hw _ (List.mem_of_getElem? (i := 34) rfl))) (Or.inr (hw _ (List.mem_of_getElem? (i := 32) rfl))) (by decide) (t := (.object "java/util/List")) (t' := (.object "java/lang/String")) (by decide) (by decide))))
  have f20 := (f17.wr W15)
  obtain ⟨T18, h18, X18, e18, W18, st18⟩ := putF X15 hx hZ hown (host := "") (Or.inl (hw _ (List.mem_of_getElem? (i := 33) rfl))) Via.refl e15 f19 f20 (Or.inr ⟨(hw _ (List.mem_of_getElem? (i := 34) rfl)), rfl, hnm⟩) (hw _ (List.mem_of_getElem? (i := 6) rfl)) (ty := (.object "java/util/List")) (by decide) (own_narR rfl g5_hx6) (own_fitR rfl g5_hx6) (g := (mkF m 40 #[.val (.ref a), .val x0, .val x1, .val (.long x2), .second, .val x3, .val x4, .val x5, .val x6] [x6, (.ref a)])) rfl rfl (hb hby own_d2_40)
  refine hG _ _ st18 ?_
  have K18 : Keep h0 h18 [a] := K15.wr W18 (Or.inl (List.mem_of_getElem? (i := 0) rfl))
  have O18 : own_Old Z h18 := O15.wr W18 g7_G
  have N18 := Fr.snoc X18 N15 g7_G
  show G (T18.setTop (mkF m 43 #[.val (.ref a), .val x0, .val x1, .val (.long x2), .second, .val x3, .val x4, .val x5, .val x6] []))
  have f21 := (f20.wr W18)
  have f22 := (((((((g8_F.same W2).other W3 (Or.inr (slot_ne (Or.inr (hw _ (List.mem_of_getElem? (i := 22) rfl))) (Or.inr (hw _ (List.mem_of_getElem? (i := 24) rfl))) (by decide) (t := (.object "com/example/helmstead/helmstead/StoreRequest$Kind")) (t' := (.object "java/lang/String")) (by decide) (by decide)))).other W6 (Or.inr (slot_ne (Or.inr (hw _ (List.mem_of_getElem? (i := 22) rfl))) (Or.inr (hw _ (List.mem_of_getElem? (i := 26) rfl))) (by decide) (t := (.object "com/example/helmstead/helmstead/StoreRequest$Kind")) (t' := .long) (by decide) (by decide)))).other W9 (Or.inr (slot_ne (Or.inr (hw _ (List.mem_of_getElem? (i := 22) rfl))) (Or.inr (hw _ (List.mem_of_getElem? (i := 28) rfl))) (by decide) (t := (.object "com/example/helmstead/helmstead/StoreRequest$Kind")) (t' := (.object "java/lang/String")) (by decide) (by decide)))).other W12 (Or.inr (slot_ne (Or.inr (hw _ (List.mem_of_getElem? (i := 22) rfl))) (Or.inr (hw _ (List.mem_of_getElem? (i := 30) rfl))) (by decide) (t := (.object "com/example/helmstead/helmstead/StoreRequest$Kind")) (t' := (.object "java/lang/String")) (by decide) (by decide)))).other W15 (Or.inr (slot_ne (Or.inr (hw _ (List.mem_of_getElem? (i := 22) rfl))) (Or.inr (hw _ (List.mem_of_getElem? (i := 32) rfl))) (by decide) (t := (.object "com/example/helmstead/helmstead/StoreRequest$Kind")) (t' := (.object "java/lang/String")) (by decide) (by decide)))).other W18 (Or.inr (slot_ne (Or.inr (hw _ (List.mem_of_getElem? (i := 22) rfl))) (Or.inr (hw _ (List.mem_of_getElem? (i := 34) rfl))) (by decide) (t := (.object "com/example/helmstead/helmstead/StoreRequest$Kind")) (t' := (.object "java/util/List")) (by decide) (by decide))))
  have f23 := ((((((f4.same W3).other W6 (Or.inr (slot_ne (Or.inr (hw _ (List.mem_of_getElem? (i := 24) rfl))) (Or.inr (hw _ (List.mem_of_getElem? (i := 26) rfl))) (by decide) (t := (.object "java/lang/String")) (t' := .long) (by decide) (by decide)))).other W9 (Or.inr (slot_ne (Or.inr (hw _ (List.mem_of_getElem? (i := 24) rfl))) (Or.inr (hw _ (List.mem_of_getElem? (i := 28) rfl))) (by decide) (t := (.object "java/lang/String")) (t' := (.object "java/lang/String")) (by decide) (by decide)))).other W12 (Or.inr (slot_ne (Or.inr (hw _ (List.mem_of_getElem? (i := 24) rfl))) (Or.inr (hw _ (List.mem_of_getElem? (i := 30) rfl))) (by decide) (t := (.object "java/lang/String")) (t' := (.object "java/lang/String")) (by decide) (by decide)))).other W15 (Or.inr (slot_ne (Or.inr (hw _ (List.mem_of_getElem? (i := 24) rfl))) (Or.inr (hw _ (List.mem_of_getElem? (i := 32) rfl))) (by decide) (t := (.object "java/lang/String")) (t' := (.object "java/lang/String")) (by decide) (by decide)))).other W18 (Or.inr (slot_ne (Or.inr (hw _ (List.mem_of_getElem? (i := 24) rfl))) (Or.inr (hw _ (List.mem_of_getElem? (i := 34) rfl))) (by decide) (t := (.object "java/lang/String")) (t' := (.object "java/util/List")) (by decide) (by decide))))
  have f24 := (((((f7.same W6).other W9 (Or.inr (slot_ne (Or.inr (hw _ (List.mem_of_getElem? (i := 26) rfl))) (Or.inr (hw _ (List.mem_of_getElem? (i := 28) rfl))) (by decide) (t := .long) (t' := (.object "java/lang/String")) (by decide) (by decide)))).other W12 (Or.inr (slot_ne (Or.inr (hw _ (List.mem_of_getElem? (i := 26) rfl))) (Or.inr (hw _ (List.mem_of_getElem? (i := 30) rfl))) (by decide) (t := .long) (t' := (.object "java/lang/String")) (by decide) (by decide)))).other W15 (Or.inr (slot_ne (Or.inr (hw _ (List.mem_of_getElem? (i := 26) rfl))) (Or.inr (hw _ (List.mem_of_getElem? (i := 32) rfl))) (by decide) (t := .long) (t' := (.object "java/lang/String")) (by decide) (by decide)))).other W18 (Or.inr (slot_ne (Or.inr (hw _ (List.mem_of_getElem? (i := 26) rfl))) (Or.inr (hw _ (List.mem_of_getElem? (i := 34) rfl))) (by decide) (t := .long) (t' := (.object "java/util/List")) (by decide) (by decide))))
  have f25 := ((((f10.same W9).other W12 (Or.inr (slot_ne (Or.inr (hw _ (List.mem_of_getElem? (i := 28) rfl))) (Or.inr (hw _ (List.mem_of_getElem? (i := 30) rfl))) (by decide) (t := (.object "java/lang/String")) (t' := (.object "java/lang/String")) (by decide) (by decide)))).other W15 (Or.inr (slot_ne (Or.inr (hw _ (List.mem_of_getElem? (i := 28) rfl))) (Or.inr (hw _ (List.mem_of_getElem? (i := 32) rfl))) (by decide) (t := (.object "java/lang/String")) (t' := (.object "java/lang/String")) (by decide) (by decide)))).other W18 (Or.inr (slot_ne (Or.inr (hw _ (List.mem_of_getElem? (i := 28) rfl))) (Or.inr (hw _ (List.mem_of_getElem? (i := 34) rfl))) (by decide) (t := (.object "java/lang/String")) (t' := (.object "java/util/List")) (by decide) (by decide))))
  have f26 := (((f13.same W12).other W15 (Or.inr (slot_ne (Or.inr (hw _ (List.mem_of_getElem? (i := 30) rfl))) (Or.inr (hw _ (List.mem_of_getElem? (i := 32) rfl))) (by decide) (t := (.object "java/lang/String")) (t' := (.object "java/lang/String")) (by decide) (by decide)))).other W18 (Or.inr (slot_ne (Or.inr (hw _ (List.mem_of_getElem? (i := 30) rfl))) (Or.inr (hw _ (List.mem_of_getElem? (i := 34) rfl))) (by decide) (t := (.object "java/lang/String")) (t' := (.object "java/util/List")) (by decide) (by decide))))
  have f27 := ((f16.same W15).other W18 (Or.inr (slot_ne (Or.inr (hw _ (List.mem_of_getElem? (i := 32) rfl))) (Or.inr (hw _ (List.mem_of_getElem? (i := 34) rfl))) (by decide) (t := (.object "java/lang/String")) (t' := (.object "java/util/List")) (by decide) (by decide))))
  exact own_retV hR hret X18 hx (hb hby own_d2_43) (by decide) (by decide) (by rw [e18]; exact ⟨rfl, N18, K18, f21, f22, f23, f24, f25, f26, f27, (f19.same W18)⟩)
theorem own_pd16 : parseMethodDescriptor "()Lcom/example/helmstead/helmstead/StoreRequest$Kind;" = some ⟨[], some (.object "com/example/helmstead/helmstead/StoreRequest$Kind")⟩ := by decide +kernel
set_option maxRecDepth 65536 in
set_option maxHeartbeats 40000000 in
theorem own_get_kind (l : Launch) (Z : State) (a0 : Array Value) (hw : ∀ d ∈ tables_1, d.before a0 Z = true) (a : Addr) (x : Value) (h0 : Heap) (O0 : own_Old Z h0) (g0_hx : x.isRef = true) (g1_F : Fld Z h0 a "com/example/helmstead/helmstead/StoreRequest" "kind" "Lcom/example/helmstead/helmstead/StoreRequest$Kind;" x) :
    own_Con l Z (⟨"com/example/helmstead/helmstead/StoreRequest", "kind", "()Lcom/example/helmstead/helmstead/StoreRequest$Kind;"⟩ : MethodName) prog_29_method_27_code 1 (some (.object "com/example/helmstead/helmstead/StoreRequest$Kind")) [] ({ frames := 0, cells := 0, slots := 0, locals := 0 } : Room) #[(.ref a)] h0 (fun rv rh rL => rv = some x ∧ own_Fr Z rL ∧ h0 = rh) := by
  refine own_intro (plainFor_of_name (by first | (simp [plainName, overriddenIn]; done) | decide +kernel)) ?_
  intro p e s m below meth c s₁ G hx hby hml hown hnm hret hZ X0 e0 hG hR
  have N0 := Fr.nil Z.heap.size
  refine own_entry (Ls := #[.val (.ref a)]) (by first | (simp [entryFrame, mkF, argsToLocals, Value.category]; done) | rfl) ?_
  show G (s₁.setTop (mkF m 0 #[.val (.ref a)] []))
  refine hG _ _ (fun t k => XS.aloadN X0.here hx rfl (hb hby own_d6_0) rfl rfl k) ?_
  show G (s₁.setTop (mkF m 1 #[.val (.ref a)] [(.ref a)]))
  obtain ⟨T1, X1, e1, st1⟩ := getF X0 hx hZ hown (host := "") (Or.inl (hw _ (List.mem_of_getElem? (i := 21) rfl))) Via.refl e0 g1_F (g := (mkF m 1 #[.val (.ref a)] [(.ref a)])) rfl rfl (hb hby own_d6_1)
  refine hG _ _ st1 ?_
  show G (T1.setTop (mkF m 4 #[.val (.ref a)] [x]))
  exact own_retA hR hret rfl g0_hx X1 hx (hb hby own_d6_4) (by decide) (by decide) (by rw [e1]; exact ⟨rfl, N0, rfl⟩)
theorem own_pd17 : parseMethodDescriptor "()Ljava/lang/String;" = some ⟨[], some (.object "java/lang/String")⟩ := by decide +kernel
set_option maxRecDepth 65536 in
set_option maxHeartbeats 40000000 in
theorem own_get_id (l : Launch) (Z : State) (a0 : Array Value) (hw : ∀ d ∈ tables_1, d.before a0 Z = true) (a : Addr) (x : Value) (h0 : Heap) (O0 : own_Old Z h0) (g0_hx : x.isRef = true) (g1_F : Fld Z h0 a "com/example/helmstead/helmstead/StoreRequest" "id" "Ljava/lang/String;" x) :
    own_Con l Z (⟨"com/example/helmstead/helmstead/StoreRequest", "id", "()Ljava/lang/String;"⟩ : MethodName) prog_29_method_28_code 1 (some (.object "java/lang/String")) [] ({ frames := 0, cells := 0, slots := 0, locals := 0 } : Room) #[(.ref a)] h0 (fun rv rh rL => rv = some x ∧ own_Fr Z rL ∧ h0 = rh) := by
  refine own_intro (plainFor_of_name (by first | (simp [plainName, overriddenIn]; done) | decide +kernel)) ?_
  intro p e s m below meth c s₁ G hx hby hml hown hnm hret hZ X0 e0 hG hR
  have N0 := Fr.nil Z.heap.size
  refine own_entry (Ls := #[.val (.ref a)]) (by first | (simp [entryFrame, mkF, argsToLocals, Value.category]; done) | rfl) ?_
  show G (s₁.setTop (mkF m 0 #[.val (.ref a)] []))
  refine hG _ _ (fun t k => XS.aloadN X0.here hx rfl (hb hby own_d5_0) rfl rfl k) ?_
  show G (s₁.setTop (mkF m 1 #[.val (.ref a)] [(.ref a)]))
  obtain ⟨T1, X1, e1, st1⟩ := getF X0 hx hZ hown (host := "") (Or.inl (hw _ (List.mem_of_getElem? (i := 23) rfl))) Via.refl e0 g1_F (g := (mkF m 1 #[.val (.ref a)] [(.ref a)])) rfl rfl (hb hby own_d5_1)
  refine hG _ _ st1 ?_
  show G (T1.setTop (mkF m 4 #[.val (.ref a)] [x]))
  exact own_retA hR hret rfl g0_hx X1 hx (hb hby own_d5_4) (by decide) (by decide) (by rw [e1]; exact ⟨rfl, N0, rfl⟩)
theorem own_pd18 : parseMethodDescriptor "()J" = some ⟨[], some .long⟩ := by decide +kernel
set_option maxRecDepth 65536 in
set_option maxHeartbeats 40000000 in
theorem own_get_leaseMs (l : Launch) (Z : State) (a0 : Array Value) (hw : ∀ d ∈ tables_1, d.before a0 Z = true) (a : Addr) (x : Int64) (h0 : Heap) (O0 : own_Old Z h0) (g0_F : Fld Z h0 a "com/example/helmstead/helmstead/StoreRequest" "leaseMs" "J" (.long x)) :
    own_Con l Z (⟨"com/example/helmstead/helmstead/StoreRequest", "leaseMs", "()J"⟩ : MethodName) prog_29_method_29_code 1 (some .long) [] ({ frames := 0, cells := 0, slots := 0, locals := 0 } : Room) #[(.ref a)] h0 (fun rv rh rL => rv = some (.long x) ∧ own_Fr Z rL ∧ h0 = rh) := by
  refine own_intro (plainFor_of_name (by first | (simp [plainName, overriddenIn]; done) | decide +kernel)) ?_
  intro p e s m below meth c s₁ G hx hby hml hown hnm hret hZ X0 e0 hG hR
  have N0 := Fr.nil Z.heap.size
  refine own_entry (Ls := #[.val (.ref a)]) (by first | (simp [entryFrame, mkF, argsToLocals, Value.category]; done) | rfl) ?_
  show G (s₁.setTop (mkF m 0 #[.val (.ref a)] []))
  refine hG _ _ (fun t k => XS.aloadN X0.here hx rfl (hb hby own_d7_0) rfl rfl k) ?_
  show G (s₁.setTop (mkF m 1 #[.val (.ref a)] [(.ref a)]))
  obtain ⟨T1, X1, e1, st1⟩ := getF X0 hx hZ hown (host := "") (Or.inl (hw _ (List.mem_of_getElem? (i := 25) rfl))) Via.refl e0 g0_F (g := (mkF m 1 #[.val (.ref a)] [(.ref a)])) rfl rfl (hb hby own_d7_1)
  refine hG _ _ st1 ?_
  show G (T1.setTop (mkF m 4 #[.val (.ref a)] [(.long x)]))
  exact own_retL hR hret X1 hx (hb hby own_d7_4) (by decide) (by decide) (by rw [e1]; exact ⟨rfl, N0, rfl⟩)
set_option maxRecDepth 65536 in
set_option maxHeartbeats 40000000 in
theorem own_get_table (l : Launch) (Z : State) (a0 : Array Value) (hw : ∀ d ∈ tables_1, d.before a0 Z = true) (a : Addr) (x : Value) (h0 : Heap) (O0 : own_Old Z h0) (g0_hx : x.isRef = true) (g1_F : Fld Z h0 a "com/example/helmstead/helmstead/StoreRequest" "table" "Ljava/lang/String;" x) :
    own_Con l Z (⟨"com/example/helmstead/helmstead/StoreRequest", "table", "()Ljava/lang/String;"⟩ : MethodName) prog_29_method_30_code 1 (some (.object "java/lang/String")) [] ({ frames := 0, cells := 0, slots := 0, locals := 0 } : Room) #[(.ref a)] h0 (fun rv rh rL => rv = some x ∧ own_Fr Z rL ∧ h0 = rh) := by
  refine own_intro (plainFor_of_name (by first | (simp [plainName, overriddenIn]; done) | decide +kernel)) ?_
  intro p e s m below meth c s₁ G hx hby hml hown hnm hret hZ X0 e0 hG hR
  have N0 := Fr.nil Z.heap.size
  refine own_entry (Ls := #[.val (.ref a)]) (by first | (simp [entryFrame, mkF, argsToLocals, Value.category]; done) | rfl) ?_
  show G (s₁.setTop (mkF m 0 #[.val (.ref a)] []))
  refine hG _ _ (fun t k => XS.aloadN X0.here hx rfl (hb hby own_d8_0) rfl rfl k) ?_
  show G (s₁.setTop (mkF m 1 #[.val (.ref a)] [(.ref a)]))
  obtain ⟨T1, X1, e1, st1⟩ := getF X0 hx hZ hown (host := "") (Or.inl (hw _ (List.mem_of_getElem? (i := 27) rfl))) Via.refl e0 g1_F (g := (mkF m 1 #[.val (.ref a)] [(.ref a)])) rfl rfl (hb hby own_d8_1)
  refine hG _ _ st1 ?_
  show G (T1.setTop (mkF m 4 #[.val (.ref a)] [x]))
  exact own_retA hR hret rfl g0_hx X1 hx (hb hby own_d8_4) (by decide) (by decide) (by rw [e1]; exact ⟨rfl, N0, rfl⟩)
set_option maxRecDepth 65536 in
set_option maxHeartbeats 40000000 in
theorem own_get_key (l : Launch) (Z : State) (a0 : Array Value) (hw : ∀ d ∈ tables_1, d.before a0 Z = true) (a : Addr) (x : Value) (h0 : Heap) (O0 : own_Old Z h0) (g0_hx : x.isRef = true) (g1_F : Fld Z h0 a "com/example/helmstead/helmstead/StoreRequest" "key" "Ljava/lang/String;" x) :
    own_Con l Z (⟨"com/example/helmstead/helmstead/StoreRequest", "key", "()Ljava/lang/String;"⟩ : MethodName) prog_29_method_31_code 1 (some (.object "java/lang/String")) [] ({ frames := 0, cells := 0, slots := 0, locals := 0 } : Room) #[(.ref a)] h0 (fun rv rh rL => rv = some x ∧ own_Fr Z rL ∧ h0 = rh) := by
  refine own_intro (plainFor_of_name (by first | (simp [plainName, overriddenIn]; done) | decide +kernel)) ?_
  intro p e s m below meth c s₁ G hx hby hml hown hnm hret hZ X0 e0 hG hR
  have N0 := Fr.nil Z.heap.size
  refine own_entry (Ls := #[.val (.ref a)]) (by first | (simp [entryFrame, mkF, argsToLocals, Value.category]; done) | rfl) ?_
  show G (s₁.setTop (mkF m 0 #[.val (.ref a)] []))
  refine hG _ _ (fun t k => XS.aloadN X0.here hx rfl (hb hby own_d9_0) rfl rfl k) ?_
  show G (s₁.setTop (mkF m 1 #[.val (.ref a)] [(.ref a)]))
  obtain ⟨T1, X1, e1, st1⟩ := getF X0 hx hZ hown (host := "") (Or.inl (hw _ (List.mem_of_getElem? (i := 29) rfl))) Via.refl e0 g1_F (g := (mkF m 1 #[.val (.ref a)] [(.ref a)])) rfl rfl (hb hby own_d9_1)
  refine hG _ _ st1 ?_
  show G (T1.setTop (mkF m 4 #[.val (.ref a)] [x]))
  exact own_retA hR hret rfl g0_hx X1 hx (hb hby own_d9_4) (by decide) (by decide) (by rw [e1]; exact ⟨rfl, N0, rfl⟩)
set_option maxRecDepth 65536 in
set_option maxHeartbeats 40000000 in
theorem own_get_value (l : Launch) (Z : State) (a0 : Array Value) (hw : ∀ d ∈ tables_1, d.before a0 Z = true) (a : Addr) (x : Value) (h0 : Heap) (O0 : own_Old Z h0) (g0_hx : x.isRef = true) (g1_F : Fld Z h0 a "com/example/helmstead/helmstead/StoreRequest" "value" "Ljava/lang/String;" x) :
    own_Con l Z (⟨"com/example/helmstead/helmstead/StoreRequest", "value", "()Ljava/lang/String;"⟩ : MethodName) prog_29_method_32_code 1 (some (.object "java/lang/String")) [] ({ frames := 0, cells := 0, slots := 0, locals := 0 } : Room) #[(.ref a)] h0 (fun rv rh rL => rv = some x ∧ own_Fr Z rL ∧ h0 = rh) := by
  refine own_intro (plainFor_of_name (by first | (simp [plainName, overriddenIn]; done) | decide +kernel)) ?_
  intro p e s m below meth c s₁ G hx hby hml hown hnm hret hZ X0 e0 hG hR
  have N0 := Fr.nil Z.heap.size
  refine own_entry (Ls := #[.val (.ref a)]) (by first | (simp [entryFrame, mkF, argsToLocals, Value.category]; done) | rfl) ?_
  show G (s₁.setTop (mkF m 0 #[.val (.ref a)] []))
  refine hG _ _ (fun t k => XS.aloadN X0.here hx rfl (hb hby own_d10_0) rfl rfl k) ?_
  show G (s₁.setTop (mkF m 1 #[.val (.ref a)] [(.ref a)]))
  obtain ⟨T1, X1, e1, st1⟩ := getF X0 hx hZ hown (host := "") (Or.inl (hw _ (List.mem_of_getElem? (i := 31) rfl))) Via.refl e0 g1_F (g := (mkF m 1 #[.val (.ref a)] [(.ref a)])) rfl rfl (hb hby own_d10_1)
  refine hG _ _ st1 ?_
  show G (T1.setTop (mkF m 4 #[.val (.ref a)] [x]))
  exact own_retA hR hret rfl g0_hx X1 hx (hb hby own_d10_4) (by decide) (by decide) (by rw [e1]; exact ⟨rfl, N0, rfl⟩)
theorem own_pd19 : parseMethodDescriptor "()Ljava/util/List;" = some ⟨[], some (.object "java/util/List")⟩ := by decide +kernel
set_option maxRecDepth 65536 in
set_option maxHeartbeats 40000000 in
theorem own_get_parts (l : Launch) (Z : State) (a0 : Array Value) (hw : ∀ d ∈ tables_1, d.before a0 Z = true) (a : Addr) (x : Value) (h0 : Heap) (O0 : own_Old Z h0) (g0_hx : x.isRef = true) (g1_F : Fld Z h0 a "com/example/helmstead/helmstead/StoreRequest" "parts" "Ljava/util/List;" x) :
    own_Con l Z (⟨"com/example/helmstead/helmstead/StoreRequest", "parts", "()Ljava/util/List;"⟩ : MethodName) prog_29_method_33_code 1 (some (.object "java/util/List")) [] ({ frames := 0, cells := 0, slots := 0, locals := 0 } : Room) #[(.ref a)] h0 (fun rv rh rL => rv = some x ∧ own_Fr Z rL ∧ h0 = rh) := by
  refine own_intro (plainFor_of_name (by first | (simp [plainName, overriddenIn]; done) | decide +kernel)) ?_
  intro p e s m below meth c s₁ G hx hby hml hown hnm hret hZ X0 e0 hG hR
  have N0 := Fr.nil Z.heap.size
  refine own_entry (Ls := #[.val (.ref a)]) (by first | (simp [entryFrame, mkF, argsToLocals, Value.category]; done) | rfl) ?_
  show G (s₁.setTop (mkF m 0 #[.val (.ref a)] []))
  refine hG _ _ (fun t k => XS.aloadN X0.here hx rfl (hb hby own_d11_0) rfl rfl k) ?_
  show G (s₁.setTop (mkF m 1 #[.val (.ref a)] [(.ref a)]))
  obtain ⟨T1, X1, e1, st1⟩ := getF X0 hx hZ hown (host := "") (Or.inl (hw _ (List.mem_of_getElem? (i := 33) rfl))) Via.refl e0 g1_F (g := (mkF m 1 #[.val (.ref a)] [(.ref a)])) rfl rfl (hb hby own_d11_1)
  refine hG _ _ st1 ?_
  show G (T1.setTop (mkF m 4 #[.val (.ref a)] [x]))
  exact own_retA hR hret rfl g0_hx X1 hx (hb hby own_d11_4) (by decide) (by decide) (by rw [e1]; exact ⟨rfl, N0, rfl⟩)
theorem own_pd20 : parseMethodDescriptor "(Ljava/lang/String;J)Lcom/example/helmstead/helmstead/StoreRequest;" = some ⟨[(.object "java/lang/String"), .long], some (.object "com/example/helmstead/helmstead/StoreRequest")⟩ := by decide +kernel
set_option maxRecDepth 65536 in
set_option maxHeartbeats 40000000 in
theorem own_acq (l : Launch) (Z : State) (a0 : Array Value) (hw : ∀ d ∈ tables_1, d.before a0 Z = true) (idv : Value) (ls : Int64) (w1 : Addr) (h0 : Heap) (O0 : own_Old Z h0) (g0_hi : idv.isRef = true) (g1_S : Sta Z Z.heap "com/example/helmstead/helmstead/StoreRequest$Kind" "ACQUIRE" "Lcom/example/helmstead/helmstead/StoreRequest$Kind;" (.ref w1)) :
    own_Con l Z (⟨"com/example/helmstead/helmstead/StoreRequest", "acquire", "(Ljava/lang/String;J)Lcom/example/helmstead/helmstead/StoreRequest;"⟩ : MethodName) prog_29_method_2_code 3 (some (.object "com/example/helmstead/helmstead/StoreRequest")) [] ({ frames := 3, cells := 1, slots := 7, locals := 45 } : Room) #[idv, (.long ls)] h0 (fun rv rh rL => ∃ (t : Addr), rv = some (.ref t) ∧ own_Fr Z rL ∧ Keep h0 rh [] ∧ h0.size ≤ t ∧ (Exa Z rh t "com/example/helmstead/helmstead/StoreRequest") ∧ (Fld Z rh t "com/example/helmstead/helmstead/StoreRequest" "kind" "Lcom/example/helmstead/helmstead/StoreRequest$Kind;" (.ref w1)) ∧ (Fld Z rh t "com/example/helmstead/helmstead/StoreRequest" "id" "Ljava/lang/String;" idv) ∧ (Fld Z rh t "com/example/helmstead/helmstead/StoreRequest" "leaseMs" "J" (.long ls)) ∧ (Fld Z rh t "com/example/helmstead/helmstead/StoreRequest" "table" "Ljava/lang/String;" .null) ∧ (Fld Z rh t "com/example/helmstead/helmstead/StoreRequest" "key" "Ljava/lang/String;" .null) ∧ (Fld Z rh t "com/example/helmstead/helmstead/StoreRequest" "value" "Ljava/lang/String;" .null) ∧ (Fld Z rh t "com/example/helmstead/helmstead/StoreRequest" "parts" "Ljava/util/List;" .null)) := by
  refine own_intro (plainFor_of_name (by first | (simp [plainName, overriddenIn]; done) | decide +kernel)) ?_
  intro p e s m below meth c s₁ G hx hby hml hown hnm hret hZ X0 e0 hG hR
  have N0 := Fr.nil Z.heap.size
  refine own_entry (Ls := #[.val idv, .val (.long ls), .second]) (by rcases ref_cases g0_hi with rfl | ⟨_, rfl⟩ <;> first | (simp [entryFrame, mkF, argsToLocals, Value.category]; done) | rfl) ?_
  show G (s₁.setTop (mkF m 0 #[.val idv, .val (.long ls), .second] []))
  obtain ⟨T1, h1, X1, e1, E1, A1, D1, -, st1⟩ := newO X0 hx hZ hown (hw _ (List.mem_of_getElem? (i := 5) rfl)) (hw _ (List.mem_of_getElem? (i := 6) rfl)) (hw _ (List.mem_of_getElem? (i := 3) rfl)) e0 (g := (mkF m 0 #[.val idv, .val (.long ls), .second] [])) rfl (hb hby own_d1_0) (by decide) (by decide)
  obtain ⟨b1, z1⟩ : ∃ z, z = h0.size := ⟨_, rfl⟩
  rw [← z1] at A1 D1 st1
  refine hG _ _ st1 ?_
  have K1 : Keep h0 h1 [] := (Keep.refl h0 []).ext E1
  have O1 : own_Old Z h1 := O0.ext E1
  show G (T1.setTop (mkF m 3 #[.val idv, .val (.long ls), .second] [(.ref b1)]))
  refine hG _ _ (fun t k => XS.dup X1.here hx rfl (hb hby own_d1_3) rfl rfl k) ?_
  show G (T1.setTop (mkF m 4 #[.val idv, .val (.long ls), .second] [(.ref b1), (.ref b1)]))
  obtain ⟨T2, X2, e2, st2⟩ := getS2 X1 hx hZ hown (host := "") (Or.inl (hw _ (List.mem_of_getElem? (i := 7) rfl))) Via.refl e1 (own_sta g1_S O1) (g := (mkF m 4 #[.val idv, .val (.long ls), .second] [(.ref b1), (.ref b1)])) rfl (hb hby own_d1_4)
  refine hG _ _ st2 ?_
  show G (T2.setTop (mkF m 7 #[.val idv, .val (.long ls), .second] [(.ref w1), (.ref b1), (.ref b1)]))
  refine hG _ _ (fun t k => XS.aloadN X2.here hx rfl (hb hby own_d1_7) rfl g0_hi k) ?_
  show G (T2.setTop (mkF m 8 #[.val idv, .val (.long ls), .second] [idv, (.ref w1), (.ref b1), (.ref b1)]))
  refine hG _ _ (fun t k => XS.lloadN X2.here hx rfl (hb hby own_d1_8) rfl k) ?_
  show G (T2.setTop (mkF m 9 #[.val idv, .val (.long ls), .second] [(.long ls), idv, (.ref w1), (.ref b1), (.ref b1)]))
  refine hG _ _ (fun t k => XS.aconstNull X2.here hx rfl (hb hby own_d1_9) k) ?_
  show G (T2.setTop (mkF m 10 #[.val idv, .val (.long ls), .second] [.null, (.long ls), idv, (.ref w1), (.ref b1), (.ref b1)]))
  refine hG _ _ (fun t k => XS.aconstNull X2.here hx rfl (hb hby own_d1_10) k) ?_
  show G (T2.setTop (mkF m 11 #[.val idv, .val (.long ls), .second] [.null, .null, (.long ls), idv, (.ref w1), (.ref b1), (.ref b1)]))
  refine hG _ _ (fun t k => XS.aconstNull X2.here hx rfl (hb hby own_d1_11) k) ?_
  show G (T2.setTop (mkF m 12 #[.val idv, .val (.long ls), .second] [.null, .null, .null, (.long ls), idv, (.ref w1), (.ref b1), (.ref b1)]))
  refine hG _ _ (fun t k => XS.aconstNull X2.here hx rfl (hb hby own_d1_12) k) ?_
  show G (T2.setTop (mkF m 13 #[.val idv, .val (.long ls), .second] [.null, .null, .null, .null, (.long ls), idv, (.ref w1), (.ref b1), (.ref b1)]))
  refine own_callI X2 hx hZ hG hown rfl (hw _ (List.mem_of_getElem? (i := 10) rfl)) (hw _ (List.mem_of_getElem? (i := 11) rfl)) (hw _ (List.mem_of_getElem? (i := 3) rfl)) (hw _ (List.mem_of_getElem? (i := 12) rfl)) (by decide) 1 (own_finit l Z a0 hw b1 (.ref w1) idv ls .null .null .null .null .null .null (.long (0 : Int64)) .null .null .null .null h1 O1 rfl g0_hi rfl rfl rfl rfl A1 (own_ge O0 (Nat.le_of_eq z1.symm)) (D1 (Or.inr (hw _ (List.mem_of_getElem? (i := 22) rfl))) (ty := (.object "com/example/helmstead/helmstead/StoreRequest$Kind")) (by decide)) (D1 (Or.inr (hw _ (List.mem_of_getElem? (i := 24) rfl))) (ty := (.object "java/lang/String")) (by decide)) (D1 (Or.inr (hw _ (List.mem_of_getElem? (i := 26) rfl))) (ty := .long) (by decide)) (D1 (Or.inr (hw _ (List.mem_of_getElem? (i := 28) rfl))) (ty := (.object "java/lang/String")) (by decide)) (D1 (Or.inr (hw _ (List.mem_of_getElem? (i := 30) rfl))) (ty := (.object "java/lang/String")) (by decide)) (D1 (Or.inr (hw _ (List.mem_of_getElem? (i := 32) rfl))) (ty := (.object "java/lang/String")) (by decide)) (D1 (Or.inr (hw _ (List.mem_of_getElem? (i := 34) rfl))) (ty := (.object "java/util/List")) (by decide))) (by decide) (by decide) e2 (by rw [hml]; rfl) (lenOf own_pd15 rfl) (argsL := [(.ref w1), idv, (.long ls), .null, .null, .null, .null]) (rest := [(.ref b1)]) rfl rfl (Nat.le_of_eq rfl) (hb hby own_d1_13) (by decide) (by decide) ?_
  intro T3 h3 v3 L3 X3 e3 q3
  obtain ⟨rfl, M3, J3, r3_0, r3_1, r3_2, r3_3, r3_4, r3_5, r3_6, r3_7⟩ := q3
  have N3 := Fr.app N0 M3
  have K3 : Keep h0 h3 [] := K1.trans J3 (allS (Or.inr (Nat.le_trans (Keep.refl h0 []).1 (Nat.le_of_eq z1.symm))) all0)
  have O3 : own_Old Z h3 := O1.keep J3 (allS (own_ge O0 (Nat.le_of_eq z1.symm)) all0)
  show G (T3.setTop (mkF m 16 #[.val idv, .val (.long ls), .second] [(.ref b1)]))
  exact own_retA hR hret rfl rfl X3 hx (hb hby own_d1_16) (by decide) (by decide) (by rw [e3]; exact ⟨b1, rfl, N3, K3, (Nat.le_trans (Keep.refl h0 []).1 (Nat.le_of_eq z1.symm)), r3_0, r3_1, r3_2, r3_3, r3_4, r3_5, r3_6, r3_7⟩)
theorem own_pd21 : parseMethodDescriptor "(IIIJ)Z" = some ⟨[.int, .int, .int, .long], some .boolean⟩ := by decide +kernel
set_option maxRecDepth 65536 in
set_option maxHeartbeats 40000000 in
theorem own_law (l : Launch) (Z : State) (a0 : Array Value) (hw : ∀ d ∈ tables_1, d.before a0 Z = true) (ws : List Jvm.Cond) (hEL : EW Z a0 consts_1) (i0 : Int32) (i1 : Int32) (i2 : Int32) (i3 : Int64) (cpt : Int32) (w1 : Addr) (h0 : Heap) (O0 : own_Old Z h0) (g0_S : Sta Z Z.heap "java/lang/String" "COMPACT_STRINGS" "Z" (.int cpt)) (g1_hcpt : ¬ (cpt = (0 : Int32))) (g2_S : Sta Z Z.heap "java/lang/StringUTF16" "$assertionsDisabled" "Z" (.int (1 : Int32))) (g3_S : Sta Z Z.heap "java/lang/StringUTF16" "HI_BYTE_SHIFT" "I" (.int (0 : Int32))) (g4_S : Sta Z Z.heap "java/lang/StringUTF16" "LO_BYTE_SHIFT" "I" (.int (8 : Int32))) (g5_S : Sta Z Z.heap "com/example/helmstead/helmstead/StoreRequest$Kind" "ACQUIRE" "Lcom/example/helmstead/helmstead/StoreRequest$Kind;" (.ref w1)) :
    own_ConW l Z consts_1 x code maxLocals ret ws room_1 #[(.int i0), (.int i1), (.int i2), (.long i3)] h0 (fun rv rh rL => rv = some (.int (1 : Int32)) ∧ own_Fr Z rL ∧ Keep h0 rh []) := by
  refine own_introW hEL (plainFor_of_name (by first | (simp [plainName, overriddenIn]; done) | decide +kernel)) ?_
  intro p e s m below meth c s₁ G hx hby hml hown hnm hret hZ X0 e0 H0 SI0 hG hR
  have N0 := Fr.nil Z.heap.size
  refine own_entry (Ls := #[.val (.int i0), .val (.int i1), .val (.int i2), .val (.long i3), .second, .unset, .unset, .unset, .unset, .unset, .unset, .unset]) (by first | (simp [entryFrame, mkF, argsToLocals, Value.category, maxLocals]; done) | rfl) ?_
  show G (s₁.setTop (mkF m 0 #[.val (.int i0), .val (.int i1), .val (.int i2), .val (.long i3), .second, .unset, .unset, .unset, .unset, .unset, .unset, .unset] []))
  refine hG _ _ (fun t k => XS.iloadN X0.here hx rfl (hb hby at_0) rfl k) ?_
  show G (s₁.setTop (mkF m 1 #[.val (.int i0), .val (.int i1), .val (.int i2), .val (.long i3), .second, .unset, .unset, .unset, .unset, .unset, .unset, .unset] [(.int i1)]))
  refine hG _ _ (X0.ldcInt hx hown (mvT hZ (hw _ (List.mem_of_getElem? (i := 0) rfl))) (g := (mkF m 1 #[.val (.int i0), .val (.int i1), .val (.int i2), .val (.long i3), .second, .unset, .unset, .unset, .unset, .unset, .unset, .unset] [(.int i1)])) rfl (hb hby at_1)) ?_
  show G (s₁.setTop (mkF m 3 #[.val (.int i0), .val (.int i1), .val (.int i2), .val (.long i3), .second, .unset, .unset, .unset, .unset, .unset, .unset, .unset] [(.int (65535 : Int32)), (.int i1)]))
  refine hG _ _ (fun t k => XS.iand X0.here hx rfl (hb hby at_3) rfl k) ?_
  show G (s₁.setTop (mkF m 4 #[.val (.int i0), .val (.int i1), .val (.int i2), .val (.long i3), .second, .unset, .unset, .unset, .unset, .unset, .unset, .unset] [(.int (i1 &&& (65535 : Int32)))]))
  refine hG _ _ (fun t k => XS.i2c X0.here hx rfl (hb hby at_4) rfl k) ?_
  show G (s₁.setTop (mkF m 5 #[.val (.int i0), .val (.int i1), .val (.int i2), .val (.long i3), .second, .unset, .unset, .unset, .unset, .unset, .unset, .unset] [(.int ((i1 &&& (65535 : Int32)).toUInt32.toUInt16.toUInt32.toInt32))]))
  generalize hn_c1 : ((i1 &&& (65535 : Int32)).toUInt32.toUInt16.toUInt32.toInt32) = c1
  have hr_c1 := own_i2c16 hn_c1
  refine hG _ _ (fun t k => XS.istore X0.here hx rfl (hb hby at_5) rfl (l' := #[.val (.int i0), .val (.int i1), .val (.int i2), .val (.long i3), .second, .val (.int c1), .unset, .unset, .unset, .unset, .unset, .unset]) rfl k) ?_
  show G (s₁.setTop (mkF m 7 #[.val (.int i0), .val (.int i1), .val (.int i2), .val (.long i3), .second, .val (.int c1), .unset, .unset, .unset, .unset, .unset, .unset] []))
  refine hG _ _ (fun t k => XS.iloadN X0.here hx rfl (hb hby at_7) rfl k) ?_
  show G (s₁.setTop (mkF m 8 #[.val (.int i0), .val (.int i1), .val (.int i2), .val (.long i3), .second, .val (.int c1), .unset, .unset, .unset, .unset, .unset, .unset] [(.int i2)]))
  refine hG _ _ (X0.ldcInt hx hown (mvT hZ (hw _ (List.mem_of_getElem? (i := 0) rfl))) (g := (mkF m 8 #[.val (.int i0), .val (.int i1), .val (.int i2), .val (.long i3), .second, .val (.int c1), .unset, .unset, .unset, .unset, .unset, .unset] [(.int i2)])) rfl (hb hby at_8)) ?_
  show G (s₁.setTop (mkF m 10 #[.val (.int i0), .val (.int i1), .val (.int i2), .val (.long i3), .second, .val (.int c1), .unset, .unset, .unset, .unset, .unset, .unset] [(.int (65535 : Int32)), (.int i2)]))
  refine hG _ _ (fun t k => XS.iand X0.here hx rfl (hb hby at_10) rfl k) ?_
  show G (s₁.setTop (mkF m 11 #[.val (.int i0), .val (.int i1), .val (.int i2), .val (.long i3), .second, .val (.int c1), .unset, .unset, .unset, .unset, .unset, .unset] [(.int (i2 &&& (65535 : Int32)))]))
  refine hG _ _ (fun t k => XS.i2c X0.here hx rfl (hb hby at_11) rfl k) ?_
  show G (s₁.setTop (mkF m 12 #[.val (.int i0), .val (.int i1), .val (.int i2), .val (.long i3), .second, .val (.int c1), .unset, .unset, .unset, .unset, .unset, .unset] [(.int ((i2 &&& (65535 : Int32)).toUInt32.toUInt16.toUInt32.toInt32))]))
  generalize hn_c2 : ((i2 &&& (65535 : Int32)).toUInt32.toUInt16.toUInt32.toInt32) = c2
  have hr_c2 := own_i2c16 hn_c2
  refine hG _ _ (fun t k => XS.istore X0.here hx rfl (hb hby at_12) rfl (l' := #[.val (.int i0), .val (.int i1), .val (.int i2), .val (.long i3), .second, .val (.int c1), .val (.int c2), .unset, .unset, .unset, .unset, .unset]) rfl k) ?_
  show G (s₁.setTop (mkF m 14 #[.val (.int i0), .val (.int i1), .val (.int i2), .val (.long i3), .second, .val (.int c1), .val (.int c2), .unset, .unset, .unset, .unset, .unset] []))
  refine hG _ _ (fun t k => XS.iloadN X0.here hx rfl (hb hby at_14) rfl k) ?_
  show G (s₁.setTop (mkF m 15 #[.val (.int i0), .val (.int i1), .val (.int i2), .val (.long i3), .second, .val (.int c1), .val (.int c2), .unset, .unset, .unset, .unset, .unset] [(.int i0)]))
  refine hG _ _ (fun t k => XS.iconst X0.here hx rfl (hb hby at_15) k) ?_
  show G (s₁.setTop (mkF m 16 #[.val (.int i0), .val (.int i1), .val (.int i2), .val (.long i3), .second, .val (.int c1), .val (.int c2), .unset, .unset, .unset, .unset, .unset] [(.int (3 : Int32)), (.int i0)]))
  refine hG _ _ (fun t k => XS.iand X0.here hx rfl (hb hby at_16) rfl k) ?_
  show G (s₁.setTop (mkF m 17 #[.val (.int i0), .val (.int i1), .val (.int i2), .val (.long i3), .second, .val (.int c1), .val (.int c2), .unset, .unset, .unset, .unset, .unset] [(.int (i0 &&& (3 : Int32)))]))
  refine hG _ _ (fun t k => XS.istore X0.here hx rfl (hb hby at_17) rfl (l' := #[.val (.int i0), .val (.int i1), .val (.int i2), .val (.long i3), .second, .val (.int c1), .val (.int c2), .val (.int (i0 &&& (3 : Int32))), .unset, .unset, .unset, .unset]) rfl k) ?_
  show G (s₁.setTop (mkF m 19 #[.val (.int i0), .val (.int i1), .val (.int i2), .val (.long i3), .second, .val (.int c1), .val (.int c2), .val (.int (i0 &&& (3 : Int32))), .unset, .unset, .unset, .unset] []))
  refine hG _ _ (fun t k => XS.iload X0.here hx rfl (hb hby at_19) rfl k) ?_
  show G (s₁.setTop (mkF m 21 #[.val (.int i0), .val (.int i1), .val (.int i2), .val (.long i3), .second, .val (.int c1), .val (.int c2), .val (.int (i0 &&& (3 : Int32))), .unset, .unset, .unset, .unset] [(.int (i0 &&& (3 : Int32)))]))
  by_cases hc21_3 : (i0 &&& (3 : Int32)) = (0 : Int32)
  · skip
    refine hG _ _ (fun t k => XS.ifNo X0.here hx rfl (hb hby at_21) rfl ((if0 _ _).trans (teq hc21_3).2) k) ?_
    show G (s₁.setTop (mkF m 24 #[.val (.int i0), .val (.int i1), .val (.int i2), .val (.long i3), .second, .val (.int c1), .val (.int c2), .val (.int (i0 &&& (3 : Int32))), .unset, .unset, .unset, .unset] []))
    refine hG _ _ (fun t k => XS.aconstNull X0.here hx rfl (hb hby at_24) k) ?_
    show G (s₁.setTop (mkF m 25 #[.val (.int i0), .val (.int i1), .val (.int i2), .val (.long i3), .second, .val (.int c1), .val (.int c2), .val (.int (i0 &&& (3 : Int32))), .unset, .unset, .unset, .unset] [.null]))
    refine hG _ _ (fun t k => XS.astore X0.here hx rfl (hb hby at_25) rfl rfl (l' := #[.val (.int i0), .val (.int i1), .val (.int i2), .val (.long i3), .second, .val (.int c1), .val (.int c2), .val (.int (i0 &&& (3 : Int32))), .val .null, .unset, .unset, .unset]) rfl k) ?_
    show G (s₁.setTop (mkF m 27 #[.val (.int i0), .val (.int i1), .val (.int i2), .val (.long i3), .second, .val (.int c1), .val (.int c2), .val (.int (i0 &&& (3 : Int32))), .val .null, .unset, .unset, .unset] []))
    refine hG _ _ (fun t k => XS.goto X0.here hx rfl (pc0 := 27) (pc' := 89) rfl (hb hby at_27) (by decide) (by decide) k) ?_
    show G (s₁.setTop (mkF m 89 #[.val (.int i0), .val (.int i1), .val (.int i2), .val (.long i3), .second, .val (.int c1), .val (.int c2), .val (.int (i0 &&& (3 : Int32))), .val .null, .unset, .unset, .unset] []))
    refine hG _ _ (fun t k => XS.aload X0.here hx rfl (hb hby at_89) rfl rfl k) ?_
    show G (s₁.setTop (mkF m 91 #[.val (.int i0), .val (.int i1), .val (.int i2), .val (.long i3), .second, .val (.int c1), .val (.int c2), .val (.int (i0 &&& (3 : Int32))), .val .null, .unset, .unset, .unset] [.null]))
    refine hG _ _ (fun t k => XS.lloadN X0.here hx rfl (hb hby at_91) rfl k) ?_
    show G (s₁.setTop (mkF m 92 #[.val (.int i0), .val (.int i1), .val (.int i2), .val (.long i3), .second, .val (.int c1), .val (.int c2), .val (.int (i0 &&& (3 : Int32))), .val .null, .unset, .unset, .unset] [(.long i3), .null]))
    refine own_callS X0 hx hZ hG hown (hw _ (List.mem_of_getElem? (i := 1) rfl)) (hw _ (List.mem_of_getElem? (i := 2) rfl)) (hw _ (List.mem_of_getElem? (i := 3) rfl)) (hw _ (List.mem_of_getElem? (i := 4) rfl)) (by decide) 0 (own_acq l Z a0 hw .null i3 w1 h0 O0 rfl g5_S) (by decide) (by decide) e0 (by rw [hml]; rfl) (lenOf own_pd20 rfl) (argsL := [.null, (.long i3)]) (rest := []) rfl rfl (Nat.le_of_eq rfl) (hb hby at_92) (by decide) (by decide) ?_
    intro T4 h4 v4 L4 X4 e4 q4
    obtain ⟨t_4, rfl, M4, J4, y4_0, r4_0, r4_1, r4_2, r4_3, r4_4, r4_5, r4_6, r4_7⟩ := q4
    have N4 := Fr.app N0 M4
    have R4 := (CHr.keep J4 all0 H0)
    have C4 := (CHr.refl H0).trans R4
    have K4 : Keep h0 h4 [] := (Keep.refl h0 []).trans J4 all0
    have O4 : own_Old Z h4 := O0.keep J4 all0
    show G (T4.setTop (mkF m 95 #[.val (.int i0), .val (.int i1), .val (.int i2), .val (.long i3), .second, .val (.int c1), .val (.int c2), .val (.int (i0 &&& (3 : Int32))), .val .null, .unset, .unset, .unset] [(.ref t_4)]))
    refine hG _ _ (fun t k => XS.astore X4.here hx rfl (hb hby at_95) rfl rfl (l' := #[.val (.int i0), .val (.int i1), .val (.int i2), .val (.long i3), .second, .val (.int c1), .val (.int c2), .val (.int (i0 &&& (3 : Int32))), .val .null, .val (.ref t_4), .unset, .unset]) rfl k) ?_
    show G (T4.setTop (mkF m 97 #[.val (.int i0), .val (.int i1), .val (.int i2), .val (.long i3), .second, .val (.int c1), .val (.int c2), .val (.int (i0 &&& (3 : Int32))), .val .null, .val (.ref t_4), .unset, .unset] []))
    refine hG _ _ (fun t k => XS.aload X4.here hx rfl (hb hby at_97) rfl rfl k) ?_
    show G (T4.setTop (mkF m 99 #[.val (.int i0), .val (.int i1), .val (.int i2), .val (.long i3), .second, .val (.int c1), .val (.int c2), .val (.int (i0 &&& (3 : Int32))), .val .null, .val (.ref t_4), .unset, .unset] [(.ref t_4)]))
    refine own_callV (C := "com/example/helmstead/helmstead/StoreRequest") X4 hx hZ hG hown (hw _ (List.mem_of_getElem? (i := 35) rfl)) (hw _ (List.mem_of_getElem? (i := 36) rfl)) (hw _ (List.mem_of_getElem? (i := 38) rfl)) (hw _ (List.mem_of_getElem? (i := 37) rfl)) (hw _ (List.mem_of_getElem? (i := 3) rfl)) (hw _ (List.mem_of_getElem? (i := 39) rfl)) (by decide) 0 (own_get_id l Z a0 hw t_4 .null h4 O4 rfl r4_2) (by decide) (by decide) e4 r4_0 (by rw [hml]; rfl) (lenOf own_pd17 rfl) (argsL := []) (rest := []) rfl rfl (Nat.le_of_eq rfl) (hb hby at_99) (by decide) (by decide) ?_
    intro T5 h5 v5 L5 X5 e5 q5
    obtain ⟨rfl, M5, rfl⟩ := q5
    have N5 := Fr.app N4 M5
    show G (T5.setTop (mkF m 102 #[.val (.int i0), .val (.int i1), .val (.int i2), .val (.long i3), .second, .val (.int c1), .val (.int c2), .val (.int (i0 &&& (3 : Int32))), .val .null, .val (.ref t_4), .unset, .unset] [.null]))
    refine hG _ _ (fun t k => XS.astore X5.here hx rfl (hb hby at_102) rfl rfl (l' := #[.val (.int i0), .val (.int i1), .val (.int i2), .val (.long i3), .second, .val (.int c1), .val (.int c2), .val (.int (i0 &&& (3 : Int32))), .val .null, .val (.ref t_4), .val .null, .unset]) rfl k) ?_
    show G (T5.setTop (mkF m 104 #[.val (.int i0), .val (.int i1), .val (.int i2), .val (.long i3), .second, .val (.int c1), .val (.int c2), .val (.int (i0 &&& (3 : Int32))), .val .null, .val (.ref t_4), .val .null, .unset] []))
    refine hG _ _ (fun t k => XS.aload X5.here hx rfl (hb hby at_104) rfl rfl k) ?_
    show G (T5.setTop (mkF m 106 #[.val (.int i0), .val (.int i1), .val (.int i2), .val (.long i3), .second, .val (.int c1), .val (.int c2), .val (.int (i0 &&& (3 : Int32))), .val .null, .val (.ref t_4), .val .null, .unset] [.null]))
    refine hG _ _ (fun t k => XS.ifnonnullNo X5.here hx rfl (hb hby at_106) rfl k) ?_
    show G (T5.setTop (mkF m 109 #[.val (.int i0), .val (.int i1), .val (.int i2), .val (.long i3), .second, .val (.int c1), .val (.int c2), .val (.int (i0 &&& (3 : Int32))), .val .null, .val (.ref t_4), .val .null, .unset] []))
    refine hG _ _ (fun t k => XS.aload X5.here hx rfl (hb hby at_109) rfl rfl k) ?_
    show G (T5.setTop (mkF m 111 #[.val (.int i0), .val (.int i1), .val (.int i2), .val (.long i3), .second, .val (.int c1), .val (.int c2), .val (.int (i0 &&& (3 : Int32))), .val .null, .val (.ref t_4), .val .null, .unset] [.null]))
    refine hG _ _ (fun t k => XS.ifnonnullNo X5.here hx rfl (hb hby at_111) rfl k) ?_
    show G (T5.setTop (mkF m 114 #[.val (.int i0), .val (.int i1), .val (.int i2), .val (.long i3), .second, .val (.int c1), .val (.int c2), .val (.int (i0 &&& (3 : Int32))), .val .null, .val (.ref t_4), .val .null, .unset] []))
    refine hG _ _ (fun t k => XS.iconst X5.here hx rfl (hb hby at_114) k) ?_
    show G (T5.setTop (mkF m 115 #[.val (.int i0), .val (.int i1), .val (.int i2), .val (.long i3), .second, .val (.int c1), .val (.int c2), .val (.int (i0 &&& (3 : Int32))), .val .null, .val (.ref t_4), .val .null, .unset] [(.int (1 : Int32))]))
    refine hG _ _ (fun t k => XS.goto X5.here hx rfl (pc0 := 115) (pc' := 142) rfl (hb hby at_115) (by decide) (by decide) k) ?_
    show G (T5.setTop (mkF m 142 #[.val (.int i0), .val (.int i1), .val (.int i2), .val (.long i3), .second, .val (.int c1), .val (.int c2), .val (.int (i0 &&& (3 : Int32))), .val .null, .val (.ref t_4), .val .null, .unset] [(.int (1 : Int32))]))
    refine hG _ _ (fun t k => XS.istore X5.here hx rfl (hb hby at_142) rfl (l' := #[.val (.int i0), .val (.int i1), .val (.int i2), .val (.long i3), .second, .val (.int c1), .val (.int c2), .val (.int (i0 &&& (3 : Int32))), .val .null, .val (.ref t_4), .val .null, .val (.int (1 : Int32))]) rfl k) ?_
    show G (T5.setTop (mkF m 144 #[.val (.int i0), .val (.int i1), .val (.int i2), .val (.long i3), .second, .val (.int c1), .val (.int c2), .val (.int (i0 &&& (3 : Int32))), .val .null, .val (.ref t_4), .val .null, .val (.int (1 : Int32))] []))
    refine hG _ _ (fun t k => XS.aload X5.here hx rfl (hb hby at_144) rfl rfl k) ?_
    show G (T5.setTop (mkF m 146 #[.val (.int i0), .val (.int i1), .val (.int i2), .val (.long i3), .second, .val (.int c1), .val (.int c2), .val (.int (i0 &&& (3 : Int32))), .val .null, .val (.ref t_4), .val .null, .val (.int (1 : Int32))] [(.ref t_4)]))
    refine own_callV (C := "com/example/helmstead/helmstead/StoreRequest") X5 hx hZ hG hown (hw _ (List.mem_of_getElem? (i := 40) rfl)) (hw _ (List.mem_of_getElem? (i := 41) rfl)) (hw _ (List.mem_of_getElem? (i := 43) rfl)) (hw _ (List.mem_of_getElem? (i := 42) rfl)) (hw _ (List.mem_of_getElem? (i := 3) rfl)) (hw _ (List.mem_of_getElem? (i := 44) rfl)) (by decide) 0 (own_get_kind l Z a0 hw t_4 (.ref w1) h4 O4 rfl r4_1) (by decide) (by decide) e5 r4_0 (by rw [hml]; rfl) (lenOf own_pd16 rfl) (argsL := []) (rest := []) rfl rfl (Nat.le_of_eq rfl) (hb hby at_146) (by decide) (by decide) ?_
    intro T6 h6 v6 L6 X6 e6 q6
    obtain ⟨rfl, M6, rfl⟩ := q6
    have N6 := Fr.app N5 M6
    show G (T6.setTop (mkF m 149 #[.val (.int i0), .val (.int i1), .val (.int i2), .val (.long i3), .second, .val (.int c1), .val (.int c2), .val (.int (i0 &&& (3 : Int32))), .val .null, .val (.ref t_4), .val .null, .val (.int (1 : Int32))] [(.ref w1)]))
    obtain ⟨T7, X7, e7, st7⟩ := getS2 X6 hx hZ hown (host := "") (Or.inl (hw _ (List.mem_of_getElem? (i := 45) rfl))) Via.refl e6 (own_sta g5_S O4) (g := (mkF m 149 #[.val (.int i0), .val (.int i1), .val (.int i2), .val (.long i3), .second, .val (.int c1), .val (.int c2), .val (.int (i0 &&& (3 : Int32))), .val .null, .val (.ref t_4), .val .null, .val (.int (1 : Int32))] [(.ref w1)])) rfl (hb hby at_149)
    refine hG _ _ st7 ?_
    show G (T7.setTop (mkF m 152 #[.val (.int i0), .val (.int i1), .val (.int i2), .val (.long i3), .second, .val (.int c1), .val (.int c2), .val (.int (i0 &&& (3 : Int32))), .val .null, .val (.ref t_4), .val .null, .val (.int (1 : Int32))] [(.ref w1), (.ref w1)]))
    refine hG _ _ (fun t k => Jvm.RoadKit.acmp (g := (mkF m 152 #[.val (.int i0), .val (.int i1), .val (.int i2), .val (.long i3), .second, .val (.int c1), .val (.int c2), .val (.int (i0 &&& (3 : Int32))), .val .null, .val (.ref t_4), .val .null, .val (.int (1 : Int32))] [(.ref w1), (.ref w1)])) X7 hx rfl rfl rfl (pc0 := 152) (pc' := 155) (same := true) rfl (hb hby at_152) rfl (decide_eq_true rfl) (by decide) (by decide) k) ?_
    show G (T7.setTop (mkF m 155 #[.val (.int i0), .val (.int i1), .val (.int i2), .val (.long i3), .second, .val (.int c1), .val (.int c2), .val (.int (i0 &&& (3 : Int32))), .val .null, .val (.ref t_4), .val .null, .val (.int (1 : Int32))] []))
    refine hG _ _ (fun t k => XS.iload X7.here hx rfl (hb hby at_155) rfl k) ?_
    show G (T7.setTop (mkF m 157 #[.val (.int i0), .val (.int i1), .val (.int i2), .val (.long i3), .second, .val (.int c1), .val (.int c2), .val (.int (i0 &&& (3 : Int32))), .val .null, .val (.ref t_4), .val .null, .val (.int (1 : Int32))] [(.int (1 : Int32))]))
    refine hG _ _ (fun t k => XS.ifNo X7.here hx rfl (hb hby at_157) rfl ((if0 _ _).trans (feq (by decide)).1) k) ?_
    show G (T7.setTop (mkF m 160 #[.val (.int i0), .val (.int i1), .val (.int i2), .val (.long i3), .second, .val (.int c1), .val (.int c2), .val (.int (i0 &&& (3 : Int32))), .val .null, .val (.ref t_4), .val .null, .val (.int (1 : Int32))] []))
    refine hG _ _ (fun t k => XS.aload X7.here hx rfl (hb hby at_160) rfl rfl k) ?_
    show G (T7.setTop (mkF m 162 #[.val (.int i0), .val (.int i1), .val (.int i2), .val (.long i3), .second, .val (.int c1), .val (.int c2), .val (.int (i0 &&& (3 : Int32))), .val .null, .val (.ref t_4), .val .null, .val (.int (1 : Int32))] [(.ref t_4)]))
    refine own_callV (C := "com/example/helmstead/helmstead/StoreRequest") X7 hx hZ hG hown (hw _ (List.mem_of_getElem? (i := 46) rfl)) (hw _ (List.mem_of_getElem? (i := 47) rfl)) (hw _ (List.mem_of_getElem? (i := 49) rfl)) (hw _ (List.mem_of_getElem? (i := 48) rfl)) (hw _ (List.mem_of_getElem? (i := 3) rfl)) (hw _ (List.mem_of_getElem? (i := 50) rfl)) (by decide) 0 (own_get_leaseMs l Z a0 hw t_4 i3 h4 O4 r4_3) (by decide) (by decide) e7 r4_0 (by rw [hml]; rfl) (lenOf own_pd18 rfl) (argsL := []) (rest := []) rfl rfl (Nat.le_of_eq rfl) (hb hby at_162) (by decide) (by decide) ?_
    intro T8 h8 v8 L8 X8 e8 q8
    obtain ⟨rfl, M8, rfl⟩ := q8
    have N8 := Fr.app N6 M8
    show G (T8.setTop (mkF m 165 #[.val (.int i0), .val (.int i1), .val (.int i2), .val (.long i3), .second, .val (.int c1), .val (.int c2), .val (.int (i0 &&& (3 : Int32))), .val .null, .val (.ref t_4), .val .null, .val (.int (1 : Int32))] [(.long i3)]))
    refine hG _ _ (fun t k => XS.lloadN X8.here hx rfl (hb hby at_165) rfl k) ?_
    show G (T8.setTop (mkF m 166 #[.val (.int i0), .val (.int i1), .val (.int i2), .val (.long i3), .second, .val (.int c1), .val (.int c2), .val (.int (i0 &&& (3 : Int32))), .val .null, .val (.ref t_4), .val .null, .val (.int (1 : Int32))] [(.long i3), (.long i3)]))
    refine hG _ _ (fun t k => XS.lcmp X8.here hx rfl (hb hby at_166) rfl k) ?_
    show G (T8.setTop (mkF m 167 #[.val (.int i0), .val (.int i1), .val (.int i2), .val (.long i3), .second, .val (.int c1), .val (.int c2), .val (.int (i0 &&& (3 : Int32))), .val .null, .val (.ref t_4), .val .null, .val (.int (1 : Int32))] [(.int (lcmpW i3 i3))]))
    refine hG _ _ (fun t k => XS.ifNo X8.here hx rfl (hb hby at_167) rfl ((if0 _ _).trans (teq ((lw_eq _ _).mpr rfl)).2) k) ?_
    show G (T8.setTop (mkF m 170 #[.val (.int i0), .val (.int i1), .val (.int i2), .val (.long i3), .second, .val (.int c1), .val (.int c2), .val (.int (i0 &&& (3 : Int32))), .val .null, .val (.ref t_4), .val .null, .val (.int (1 : Int32))] []))
    refine hG _ _ (fun t k => XS.aload X8.here hx rfl (hb hby at_170) rfl rfl k) ?_
    show G (T8.setTop (mkF m 172 #[.val (.int i0), .val (.int i1), .val (.int i2), .val (.long i3), .second, .val (.int c1), .val (.int c2), .val (.int (i0 &&& (3 : Int32))), .val .null, .val (.ref t_4), .val .null, .val (.int (1 : Int32))] [(.ref t_4)]))
    refine own_callV (C := "com/example/helmstead/helmstead/StoreRequest") X8 hx hZ hG hown (hw _ (List.mem_of_getElem? (i := 51) rfl)) (hw _ (List.mem_of_getElem? (i := 52) rfl)) (hw _ (List.mem_of_getElem? (i := 54) rfl)) (hw _ (List.mem_of_getElem? (i := 53) rfl)) (hw _ (List.mem_of_getElem? (i := 3) rfl)) (hw _ (List.mem_of_getElem? (i := 55) rfl)) (by decide) 0 (own_get_table l Z a0 hw t_4 .null h4 O4 rfl r4_4) (by decide) (by decide) e8 r4_0 (by rw [hml]; rfl) (lenOf own_pd17 rfl) (argsL := []) (rest := []) rfl rfl (Nat.le_of_eq rfl) (hb hby at_172) (by decide) (by decide) ?_
    intro T9 h9 v9 L9 X9 e9 q9
    obtain ⟨rfl, M9, rfl⟩ := q9
    have N9 := Fr.app N8 M9
    show G (T9.setTop (mkF m 175 #[.val (.int i0), .val (.int i1), .val (.int i2), .val (.long i3), .second, .val (.int c1), .val (.int c2), .val (.int (i0 &&& (3 : Int32))), .val .null, .val (.ref t_4), .val .null, .val (.int (1 : Int32))] [.null]))
    refine hG _ _ (fun t k => XS.ifnonnullNo X9.here hx rfl (hb hby at_175) rfl k) ?_
    show G (T9.setTop (mkF m 178 #[.val (.int i0), .val (.int i1), .val (.int i2), .val (.long i3), .second, .val (.int c1), .val (.int c2), .val (.int (i0 &&& (3 : Int32))), .val .null, .val (.ref t_4), .val .null, .val (.int (1 : Int32))] []))
    refine hG _ _ (fun t k => XS.aload X9.here hx rfl (hb hby at_178) rfl rfl k) ?_
    show G (T9.setTop (mkF m 180 #[.val (.int i0), .val (.int i1), .val (.int i2), .val (.long i3), .second, .val (.int c1), .val (.int c2), .val (.int (i0 &&& (3 : Int32))), .val .null, .val (.ref t_4), .val .null, .val (.int (1 : Int32))] [(.ref t_4)]))
    refine own_callV (C := "com/example/helmstead/helmstead/StoreRequest") X9 hx hZ hG hown (hw _ (List.mem_of_getElem? (i := 56) rfl)) (hw _ (List.mem_of_getElem? (i := 57) rfl)) (hw _ (List.mem_of_getElem? (i := 59) rfl)) (hw _ (List.mem_of_getElem? (i := 58) rfl)) (hw _ (List.mem_of_getElem? (i := 3) rfl)) (hw _ (List.mem_of_getElem? (i := 60) rfl)) (by decide) 0 (own_get_key l Z a0 hw t_4 .null h4 O4 rfl r4_5) (by decide) (by decide) e9 r4_0 (by rw [hml]; rfl) (lenOf own_pd17 rfl) (argsL := []) (rest := []) rfl rfl (Nat.le_of_eq rfl) (hb hby at_180) (by decide) (by decide) ?_
    intro T10 h10 v10 L10 X10 e10 q10
    obtain ⟨rfl, M10, rfl⟩ := q10
    have N10 := Fr.app N9 M10
    show G (T10.setTop (mkF m 183 #[.val (.int i0), .val (.int i1), .val (.int i2), .val (.long i3), .second, .val (.int c1), .val (.int c2), .val (.int (i0 &&& (3 : Int32))), .val .null, .val (.ref t_4), .val .null, .val (.int (1 : Int32))] [.null]))
    refine hG _ _ (fun t k => XS.ifnonnullNo X10.here hx rfl (hb hby at_183) rfl k) ?_
    show G (T10.setTop (mkF m 186 #[.val (.int i0), .val (.int i1), .val (.int i2), .val (.long i3), .second, .val (.int c1), .val (.int c2), .val (.int (i0 &&& (3 : Int32))), .val .null, .val (.ref t_4), .val .null, .val (.int (1 : Int32))] []))
    refine hG _ _ (fun t k => XS.aload X10.here hx rfl (hb hby at_186) rfl rfl k) ?_
    show G (T10.setTop (mkF m 188 #[.val (.int i0), .val (.int i1), .val (.int i2), .val (.long i3), .second, .val (.int c1), .val (.int c2), .val (.int (i0 &&& (3 : Int32))), .val .null, .val (.ref t_4), .val .null, .val (.int (1 : Int32))] [(.ref t_4)]))
    refine own_callV (C := "com/example/helmstead/helmstead/StoreRequest") X10 hx hZ hG hown (hw _ (List.mem_of_getElem? (i := 61) rfl)) (hw _ (List.mem_of_getElem? (i := 62) rfl)) (hw _ (List.mem_of_getElem? (i := 64) rfl)) (hw _ (List.mem_of_getElem? (i := 63) rfl)) (hw _ (List.mem_of_getElem? (i := 3) rfl)) (hw _ (List.mem_of_getElem? (i := 65) rfl)) (by decide) 0 (own_get_value l Z a0 hw t_4 .null h4 O4 rfl r4_6) (by decide) (by decide) e10 r4_0 (by rw [hml]; rfl) (lenOf own_pd17 rfl) (argsL := []) (rest := []) rfl rfl (Nat.le_of_eq rfl) (hb hby at_188) (by decide) (by decide) ?_
    intro T11 h11 v11 L11 X11 e11 q11
    obtain ⟨rfl, M11, rfl⟩ := q11
    have N11 := Fr.app N10 M11
    show G (T11.setTop (mkF m 191 #[.val (.int i0), .val (.int i1), .val (.int i2), .val (.long i3), .second, .val (.int c1), .val (.int c2), .val (.int (i0 &&& (3 : Int32))), .val .null, .val (.ref t_4), .val .null, .val (.int (1 : Int32))] [.null]))
    refine hG _ _ (fun t k => XS.ifnonnullNo X11.here hx rfl (hb hby at_191) rfl k) ?_
    show G (T11.setTop (mkF m 194 #[.val (.int i0), .val (.int i1), .val (.int i2), .val (.long i3), .second, .val (.int c1), .val (.int c2), .val (.int (i0 &&& (3 : Int32))), .val .null, .val (.ref t_4), .val .null, .val (.int (1 : Int32))] []))
    refine hG _ _ (fun t k => XS.aload X11.here hx rfl (hb hby at_194) rfl rfl k) ?_
    show G (T11.setTop (mkF m 196 #[.val (.int i0), .val (.int i1), .val (.int i2), .val (.long i3), .second, .val (.int c1), .val (.int c2), .val (.int (i0 &&& (3 : Int32))), .val .null, .val (.ref t_4), .val .null, .val (.int (1 : Int32))] [(.ref t_4)]))
    refine own_callV (C := "com/example/helmstead/helmstead/StoreRequest") X11 hx hZ hG hown (hw _ (List.mem_of_getElem? (i := 66) rfl)) (hw _ (List.mem_of_getElem? (i := 67) rfl)) (hw _ (List.mem_of_getElem? (i := 69) rfl)) (hw _ (List.mem_of_getElem? (i := 68) rfl)) (hw _ (List.mem_of_getElem? (i := 3) rfl)) (hw _ (List.mem_of_getElem? (i := 70) rfl)) (by decide) 0 (own_get_parts l Z a0 hw t_4 .null h4 O4 rfl r4_7) (by decide) (by decide) e11 r4_0 (by rw [hml]; rfl) (lenOf own_pd19 rfl) (argsL := []) (rest := []) rfl rfl (Nat.le_of_eq rfl) (hb hby at_196) (by decide) (by decide) ?_
    intro T12 h12 v12 L12 X12 e12 q12
    obtain ⟨rfl, M12, rfl⟩ := q12
    have N12 := Fr.app N11 M12
    show G (T12.setTop (mkF m 199 #[.val (.int i0), .val (.int i1), .val (.int i2), .val (.long i3), .second, .val (.int c1), .val (.int c2), .val (.int (i0 &&& (3 : Int32))), .val .null, .val (.ref t_4), .val .null, .val (.int (1 : Int32))] [.null]))
    refine hG _ _ (fun t k => XS.ifnonnullNo X12.here hx rfl (hb hby at_199) rfl k) ?_
    show G (T12.setTop (mkF m 202 #[.val (.int i0), .val (.int i1), .val (.int i2), .val (.long i3), .second, .val (.int c1), .val (.int c2), .val (.int (i0 &&& (3 : Int32))), .val .null, .val (.ref t_4), .val .null, .val (.int (1 : Int32))] []))
    refine hG _ _ (fun t k => XS.iconst X12.here hx rfl (hb hby at_202) k) ?_
    show G (T12.setTop (mkF m 203 #[.val (.int i0), .val (.int i1), .val (.int i2), .val (.long i3), .second, .val (.int c1), .val (.int c2), .val (.int (i0 &&& (3 : Int32))), .val .null, .val (.ref t_4), .val .null, .val (.int (1 : Int32))] [(.int (1 : Int32))]))
    refine hG _ _ (fun t k => XS.goto X12.here hx rfl (pc0 := 203) (pc' := 207) rfl (hb hby at_203) (by decide) (by decide) k) ?_
    show G (T12.setTop (mkF m 207 #[.val (.int i0), .val (.int i1), .val (.int i2), .val (.long i3), .second, .val (.int c1), .val (.int c2), .val (.int (i0 &&& (3 : Int32))), .val .null, .val (.ref t_4), .val .null, .val (.int (1 : Int32))] [(.int (1 : Int32))]))
    exact own_retNW hR hret (by simp) X12 hx (hb hby at_207) e12 SI0 (Nat.le_trans (Nat.le_refl _) R4.2.1) hZ C4 (by decide) (by decide) ⟨rfl, N12, K4⟩
  · skip
    refine hG _ _ (fun t k => XS.ifYes X0.here hx rfl (pc0 := 21) (pc' := 30) rfl (hb hby at_21) rfl ((if0 _ _).trans (feq hc21_3).2) (by decide) (by decide) k) ?_
    show G (s₁.setTop (mkF m 30 #[.val (.int i0), .val (.int i1), .val (.int i2), .val (.long i3), .second, .val (.int c1), .val (.int c2), .val (.int (i0 &&& (3 : Int32))), .unset, .unset, .unset, .unset] []))
    refine hG _ _ (fun t k => XS.iload X0.here hx rfl (hb hby at_30) rfl k) ?_
    show G (s₁.setTop (mkF m 32 #[.val (.int i0), .val (.int i1), .val (.int i2), .val (.long i3), .second, .val (.int c1), .val (.int c2), .val (.int (i0 &&& (3 : Int32))), .unset, .unset, .unset, .unset] [(.int (i0 &&& (3 : Int32)))]))
    refine hG _ _ (fun t k => XS.iconst X0.here hx rfl (hb hby at_32) k) ?_
    show G (s₁.setTop (mkF m 33 #[.val (.int i0), .val (.int i1), .val (.int i2), .val (.long i3), .second, .val (.int c1), .val (.int c2), .val (.int (i0 &&& (3 : Int32))), .unset, .unset, .unset, .unset] [(.int (1 : Int32)), (.int (i0 &&& (3 : Int32)))]))
    by_cases hc33_13 : (i0 &&& (3 : Int32)) = (1 : Int32)
    · skip
      refine hG _ _ (fun t k => XS.icmpNo X0.here hx rfl (hb hby at_33) rfl (teq hc33_13).2 k) ?_
      show G (s₁.setTop (mkF m 36 #[.val (.int i0), .val (.int i1), .val (.int i2), .val (.long i3), .second, .val (.int c1), .val (.int c2), .val (.int (i0 &&& (3 : Int32))), .unset, .unset, .unset, .unset] []))
      obtain ⟨T14, h14, X14, e14, E14, A14, D14, -, st14⟩ := newO X0 hx hZ hown (hw _ (List.mem_of_getElem? (i := 100) rfl)) (hw _ (List.mem_of_getElem? (i := 81) rfl)) (hw _ (List.mem_of_getElem? (i := 73) rfl)) e0 (g := (mkF m 36 #[.val (.int i0), .val (.int i1), .val (.int i2), .val (.long i3), .second, .val (.int c1), .val (.int c2), .val (.int (i0 &&& (3 : Int32))), .unset, .unset, .unset, .unset] [])) rfl (hb hby at_36) (by decide) (by decide)
      obtain ⟨b14, z14⟩ : ∃ z, z = h0.size := ⟨_, rfl⟩
      rw [← z14] at A14 D14 st14
      refine hG _ _ st14 ?_
      have R14 := (CHr.ext E14 H0)
      have C14 := (CHr.refl H0).trans R14
      have K14 : Keep h0 h14 [] := (Keep.refl h0 []).ext E14
      have O14 : own_Old Z h14 := O0.ext E14
      show G (T14.setTop (mkF m 39 #[.val (.int i0), .val (.int i1), .val (.int i2), .val (.long i3), .second, .val (.int c1), .val (.int c2), .val (.int (i0 &&& (3 : Int32))), .unset, .unset, .unset, .unset] [(.ref b14)]))
      refine hG _ _ (fun t k => XS.dup X14.here hx rfl (hb hby at_39) rfl rfl k) ?_
      show G (T14.setTop (mkF m 40 #[.val (.int i0), .val (.int i1), .val (.int i2), .val (.long i3), .second, .val (.int c1), .val (.int c2), .val (.int (i0 &&& (3 : Int32))), .unset, .unset, .unset, .unset] [(.ref b14), (.ref b14)]))
      refine hG _ _ (fun t k => XS.iconst X14.here hx rfl (hb hby at_40) k) ?_
      show G (T14.setTop (mkF m 41 #[.val (.int i0), .val (.int i1), .val (.int i2), .val (.long i3), .second, .val (.int c1), .val (.int c2), .val (.int (i0 &&& (3 : Int32))), .unset, .unset, .unset, .unset] [(.int (0 : Int32)), (.ref b14), (.ref b14)]))
      obtain ⟨T15, h15, k15, X15, e15, E15, A15, st15⟩ := newP X14 hx hZ (hw _ (List.mem_of_getElem? (i := 101) rfl)) e14 (g := (mkF m 41 #[.val (.int i0), .val (.int i1), .val (.int i2), .val (.long i3), .second, .val (.int c1), .val (.int c2), .val (.int (i0 &&& (3 : Int32))), .unset, .unset, .unset, .unset] [(.int (0 : Int32)), (.ref b14), (.ref b14)])) rfl (hb hby at_41) rfl (by decide) (cap := 0) (by decide) (by decide) (by decide) (by decide)
      obtain ⟨b15, z15⟩ : ∃ z, z = h14.size := ⟨_, rfl⟩
      rw [← z15] at A15 st15
      refine hG _ _ st15 ?_
      have R15 := (CHr.ext E15 R14.1)
      have C15 := C14.trans R15
      have K15 : Keep h0 h15 [] := K14.ext E15
      have O15 : own_Old Z h15 := O14.ext E15
      have V15 : Arv Z h15 b15 k15 .char (0 : Int32) [] (.int (0 : Int32)) := (Arv.new A15 (by decide)).pad (pad_rep [] (.int (0 : Int32)) 0)
      show G (T15.setTop (mkF m 43 #[.val (.int i0), .val (.int i1), .val (.int i2), .val (.long i3), .second, .val (.int c1), .val (.int c2), .val (.int (i0 &&& (3 : Int32))), .unset, .unset, .unset, .unset] [(.ref b15), (.ref b14), (.ref b14)]))
      have f17 := (A14.ext E15)
      have f18 := ((D14 (Or.inr (hw _ (List.mem_of_getElem? (i := 94) rfl))) (ty := .byte) (by decide)).ext E15)
      have f19 := ((D14 (Or.inr (hw _ (List.mem_of_getElem? (i := 92) rfl))) (ty := (.array .byte)) (by decide)).ext E15)
      refine own_callIW X15 hx hZ hG hown rfl (hw _ (List.mem_of_getElem? (i := 102) rfl)) (hw _ (List.mem_of_getElem? (i := 103) rfl)) (hw _ (List.mem_of_getElem? (i := 73) rfl)) (hw _ (List.mem_of_getElem? (i := 104) rfl)) (by decide) 1 (own_str1E l Z a0 hw hEL b14 b15 (.int (0 : Int32)) k15 h15 O15 f17 f18 f19 (own_ge O0 (Nat.le_of_eq z14.symm)) V15) (by decide) (by decide) e15 SI0 (Nat.le_trans (Nat.le_trans (Nat.le_refl _) R14.2.1) R15.2.1) hEL R15.1 (by rw [hml]; rfl) (lenOf own_pd9 rfl) (argsL := [(.ref b15)]) (rest := [(.ref b14)]) rfl rfl (Nat.le_of_eq rfl) (hb hby at_43) (by decide) (by decide) ?_
      intro T16 h16 v16 L16 X16 e16 SI16 hZ16 hown16 Y16 q16
      obtain ⟨t_16, kt_16, rfl, M16, J16, r16_0, r16_1, r16_2, r16_3⟩ := q16
      have N16 := Fr.app N0 M16
      have R16 := Y16
      have C16 := C15.trans R16
      have K16 : Keep h0 h16 [] := K15.trans J16 (allS (Or.inr (Nat.le_trans (Keep.refl h0 []).1 (Nat.le_of_eq z14.symm))) all0)
      have O16 : own_Old Z h16 := O15.keep J16 (allS (own_ge O0 (Nat.le_of_eq z14.symm)) all0)
      show G (T16.setTop (mkF m 46 #[.val (.int i0), .val (.int i1), .val (.int i2), .val (.long i3), .second, .val (.int c1), .val (.int c2), .val (.int (i0 &&& (3 : Int32))), .unset, .unset, .unset, .unset] [(.ref b14)]))
      refine hG _ _ (fun t k => XS.astore X16.here hx rfl (hb hby at_46) rfl rfl (l' := #[.val (.int i0), .val (.int i1), .val (.int i2), .val (.long i3), .second, .val (.int c1), .val (.int c2), .val (.int (i0 &&& (3 : Int32))), .val (.ref b14), .unset, .unset, .unset]) rfl k) ?_
      show G (T16.setTop (mkF m 48 #[.val (.int i0), .val (.int i1), .val (.int i2), .val (.long i3), .second, .val (.int c1), .val (.int c2), .val (.int (i0 &&& (3 : Int32))), .val (.ref b14), .unset, .unset, .unset] []))
      refine hG _ _ (fun t k => XS.goto X16.here hx rfl (pc0 := 48) (pc' := 89) rfl (hb hby at_48) (by decide) (by decide) k) ?_
      show G (T16.setTop (mkF m 89 #[.val (.int i0), .val (.int i1), .val (.int i2), .val (.long i3), .second, .val (.int c1), .val (.int c2), .val (.int (i0 &&& (3 : Int32))), .val (.ref b14), .unset, .unset, .unset] []))
      refine hG _ _ (fun t k => XS.aload X16.here hx rfl (hb hby at_89) rfl rfl k) ?_
      show G (T16.setTop (mkF m 91 #[.val (.int i0), .val (.int i1), .val (.int i2), .val (.long i3), .second, .val (.int c1), .val (.int c2), .val (.int (i0 &&& (3 : Int32))), .val (.ref b14), .unset, .unset, .unset] [(.ref b14)]))
      refine hG _ _ (fun t k => XS.lloadN X16.here hx rfl (hb hby at_91) rfl k) ?_
      show G (T16.setTop (mkF m 92 #[.val (.int i0), .val (.int i1), .val (.int i2), .val (.long i3), .second, .val (.int c1), .val (.int c2), .val (.int (i0 &&& (3 : Int32))), .val (.ref b14), .unset, .unset, .unset] [(.long i3), (.ref b14)]))
      refine own_callS X16 hx hZ16 hG hown16 (hw _ (List.mem_of_getElem? (i := 1) rfl)) (hw _ (List.mem_of_getElem? (i := 2) rfl)) (hw _ (List.mem_of_getElem? (i := 3) rfl)) (hw _ (List.mem_of_getElem? (i := 4) rfl)) (by decide) 0 (own_acq l Z a0 hw (.ref b14) i3 w1 h16 O16 rfl g5_S) (by decide) (by decide) e16 (by rw [hml]; rfl) (lenOf own_pd20 rfl) (argsL := [(.ref b14), (.long i3)]) (rest := []) rfl rfl (Nat.le_of_eq rfl) (hb hby at_92) (by decide) (by decide) ?_
      intro T20 h20 v20 L20 X20 e20 q20
      obtain ⟨t_20, rfl, M20, J20, y20_0, r20_0, r20_1, r20_2, r20_3, r20_4, r20_5, r20_6, r20_7⟩ := q20
      have N20 := Fr.app N16 M20
      have R20 := (CHr.keep J20 all0 R16.1)
      have C20 := C16.trans R20
      have K20 : Keep h0 h20 [] := K16.trans J20 all0
      have O20 : own_Old Z h20 := O16.keep J20 all0
      show G (T20.setTop (mkF m 95 #[.val (.int i0), .val (.int i1), .val (.int i2), .val (.long i3), .second, .val (.int c1), .val (.int c2), .val (.int (i0 &&& (3 : Int32))), .val (.ref b14), .unset, .unset, .unset] [(.ref t_20)]))
      refine hG _ _ (fun t k => XS.astore X20.here hx rfl (hb hby at_95) rfl rfl (l' := #[.val (.int i0), .val (.int i1), .val (.int i2), .val (.long i3), .second, .val (.int c1), .val (.int c2), .val (.int (i0 &&& (3 : Int32))), .val (.ref b14), .val (.ref t_20), .unset, .unset]) rfl k) ?_
      show G (T20.setTop (mkF m 97 #[.val (.int i0), .val (.int i1), .val (.int i2), .val (.long i3), .second, .val (.int c1), .val (.int c2), .val (.int (i0 &&& (3 : Int32))), .val (.ref b14), .val (.ref t_20), .unset, .unset] []))
      refine hG _ _ (fun t k => XS.aload X20.here hx rfl (hb hby at_97) rfl rfl k) ?_
      show G (T20.setTop (mkF m 99 #[.val (.int i0), .val (.int i1), .val (.int i2), .val (.long i3), .second, .val (.int c1), .val (.int c2), .val (.int (i0 &&& (3 : Int32))), .val (.ref b14), .val (.ref t_20), .unset, .unset] [(.ref t_20)]))
      refine own_callV (C := "com/example/helmstead/helmstead/StoreRequest") X20 hx hZ16 hG hown16 (hw _ (List.mem_of_getElem? (i := 35) rfl)) (hw _ (List.mem_of_getElem? (i := 36) rfl)) (hw _ (List.mem_of_getElem? (i := 38) rfl)) (hw _ (List.mem_of_getElem? (i := 37) rfl)) (hw _ (List.mem_of_getElem? (i := 3) rfl)) (hw _ (List.mem_of_getElem? (i := 39) rfl)) (by decide) 0 (own_get_id l Z a0 hw t_20 (.ref b14) h20 O20 rfl r20_2) (by decide) (by decide) e20 r20_0 (by rw [hml]; rfl) (lenOf own_pd17 rfl) (argsL := []) (rest := []) rfl rfl (Nat.le_of_eq rfl) (hb hby at_99) (by decide) (by decide) ?_
      intro T21 h21 v21 L21 X21 e21 q21
      obtain ⟨rfl, M21, rfl⟩ := q21
      have N21 := Fr.app N20 M21
      show G (T21.setTop (mkF m 102 #[.val (.int i0), .val (.int i1), .val (.int i2), .val (.long i3), .second, .val (.int c1), .val (.int c2), .val (.int (i0 &&& (3 : Int32))), .val (.ref b14), .val (.ref t_20), .unset, .unset] [(.ref b14)]))
      refine hG _ _ (fun t k => XS.astore X21.here hx rfl (hb hby at_102) rfl rfl (l' := #[.val (.int i0), .val (.int i1), .val (.int i2), .val (.long i3), .second, .val (.int c1), .val (.int c2), .val (.int (i0 &&& (3 : Int32))), .val (.ref b14), .val (.ref t_20), .val (.ref b14), .unset]) rfl k) ?_
      show G (T21.setTop (mkF m 104 #[.val (.int i0), .val (.int i1), .val (.int i2), .val (.long i3), .second, .val (.int c1), .val (.int c2), .val (.int (i0 &&& (3 : Int32))), .val (.ref b14), .val (.ref t_20), .val (.ref b14), .unset] []))
      refine hG _ _ (fun t k => XS.aload X21.here hx rfl (hb hby at_104) rfl rfl k) ?_
      show G (T21.setTop (mkF m 106 #[.val (.int i0), .val (.int i1), .val (.int i2), .val (.long i3), .second, .val (.int c1), .val (.int c2), .val (.int (i0 &&& (3 : Int32))), .val (.ref b14), .val (.ref t_20), .val (.ref b14), .unset] [(.ref b14)]))
      refine hG _ _ (fun t k => XS.ifnonnullYes X21.here hx rfl (pc0 := 106) (pc' := 122) rfl (hb hby at_106) rfl (by decide) (by decide) k) ?_
      show G (T21.setTop (mkF m 122 #[.val (.int i0), .val (.int i1), .val (.int i2), .val (.long i3), .second, .val (.int c1), .val (.int c2), .val (.int (i0 &&& (3 : Int32))), .val (.ref b14), .val (.ref t_20), .val (.ref b14), .unset] []))
      refine hG _ _ (fun t k => XS.aload X21.here hx rfl (hb hby at_122) rfl rfl k) ?_
      show G (T21.setTop (mkF m 124 #[.val (.int i0), .val (.int i1), .val (.int i2), .val (.long i3), .second, .val (.int c1), .val (.int c2), .val (.int (i0 &&& (3 : Int32))), .val (.ref b14), .val (.ref t_20), .val (.ref b14), .unset] [(.ref b14)]))
      refine hG _ _ (fun t k => XS.ifnullNo X21.here hx rfl (hb hby at_124) rfl k) ?_
      show G (T21.setTop (mkF m 127 #[.val (.int i0), .val (.int i1), .val (.int i2), .val (.long i3), .second, .val (.int c1), .val (.int c2), .val (.int (i0 &&& (3 : Int32))), .val (.ref b14), .val (.ref t_20), .val (.ref b14), .unset] []))
      refine hG _ _ (fun t k => XS.aload X21.here hx rfl (hb hby at_127) rfl rfl k) ?_
      show G (T21.setTop (mkF m 129 #[.val (.int i0), .val (.int i1), .val (.int i2), .val (.long i3), .second, .val (.int c1), .val (.int c2), .val (.int (i0 &&& (3 : Int32))), .val (.ref b14), .val (.ref t_20), .val (.ref b14), .unset] [(.ref b14)]))
      refine hG _ _ (fun t k => XS.aload X21.here hx rfl (hb hby at_129) rfl rfl k) ?_
      show G (T21.setTop (mkF m 131 #[.val (.int i0), .val (.int i1), .val (.int i2), .val (.long i3), .second, .val (.int c1), .val (.int c2), .val (.int (i0 &&& (3 : Int32))), .val (.ref b14), .val (.ref t_20), .val (.ref b14), .unset] [(.ref b14), (.ref b14)]))
      have f23 := (r16_0.keep J20)
      refine own_callV (C := "java/lang/String") X21 hx hZ16 hG hown16 (hw _ (List.mem_of_getElem? (i := 95) rfl)) (hw _ (List.mem_of_getElem? (i := 96) rfl)) (hw _ (List.mem_of_getElem? (i := 98) rfl)) (hw _ (List.mem_of_getElem? (i := 97) rfl)) (hw _ (List.mem_of_getElem? (i := 73) rfl)) (hw _ (List.mem_of_getElem? (i := 99) rfl)) (by decide) 0 (own_eqs l Z a0 hw b14 h20 O20) (by decide) (by decide) e21 f23 (by rw [hml]; rfl) (lenOf own_pd14 rfl) (argsL := [(.ref b14)]) (rest := []) rfl rfl (Nat.le_of_eq rfl) (hb hby at_131) (by decide) (by decide) ?_
      intro T22 h22 v22 L22 X22 e22 q22
      obtain ⟨rfl, M22, rfl⟩ := q22
      have N22 := Fr.app N21 M22
      show G (T22.setTop (mkF m 134 #[.val (.int i0), .val (.int i1), .val (.int i2), .val (.long i3), .second, .val (.int c1), .val (.int c2), .val (.int (i0 &&& (3 : Int32))), .val (.ref b14), .val (.ref t_20), .val (.ref b14), .unset] [(.int (1 : Int32))]))
      refine hG _ _ (fun t k => XS.ifNo X22.here hx rfl (hb hby at_134) rfl ((if0 _ _).trans (feq (by decide)).1) k) ?_
      show G (T22.setTop (mkF m 137 #[.val (.int i0), .val (.int i1), .val (.int i2), .val (.long i3), .second, .val (.int c1), .val (.int c2), .val (.int (i0 &&& (3 : Int32))), .val (.ref b14), .val (.ref t_20), .val (.ref b14), .unset] []))
      refine hG _ _ (fun t k => XS.iconst X22.here hx rfl (hb hby at_137) k) ?_
      show G (T22.setTop (mkF m 138 #[.val (.int i0), .val (.int i1), .val (.int i2), .val (.long i3), .second, .val (.int c1), .val (.int c2), .val (.int (i0 &&& (3 : Int32))), .val (.ref b14), .val (.ref t_20), .val (.ref b14), .unset] [(.int (1 : Int32))]))
      refine hG _ _ (fun t k => XS.goto X22.here hx rfl (pc0 := 138) (pc' := 142) rfl (hb hby at_138) (by decide) (by decide) k) ?_
      show G (T22.setTop (mkF m 142 #[.val (.int i0), .val (.int i1), .val (.int i2), .val (.long i3), .second, .val (.int c1), .val (.int c2), .val (.int (i0 &&& (3 : Int32))), .val (.ref b14), .val (.ref t_20), .val (.ref b14), .unset] [(.int (1 : Int32))]))
      refine hG _ _ (fun t k => XS.istore X22.here hx rfl (hb hby at_142) rfl (l' := #[.val (.int i0), .val (.int i1), .val (.int i2), .val (.long i3), .second, .val (.int c1), .val (.int c2), .val (.int (i0 &&& (3 : Int32))), .val (.ref b14), .val (.ref t_20), .val (.ref b14), .val (.int (1 : Int32))]) rfl k) ?_
      show G (T22.setTop (mkF m 144 #[.val (.int i0), .val (.int i1), .val (.int i2), .val (.long i3), .second, .val (.int c1), .val (.int c2), .val (.int (i0 &&& (3 : Int32))), .val (.ref b14), .val (.ref t_20), .val (.ref b14), .val (.int (1 : Int32))] []))
      refine hG _ _ (fun t k => XS.aload X22.here hx rfl (hb hby at_144) rfl rfl k) ?_
      show G (T22.setTop (mkF m 146 #[.val (.int i0), .val (.int i1), .val (.int i2), .val (.long i3), .second, .val (.int c1), .val (.int c2), .val (.int (i0 &&& (3 : Int32))), .val (.ref b14), .val (.ref t_20), .val (.ref b14), .val (.int (1 : Int32))] [(.ref t_20)]))
      refine own_callV (C := "com/example/helmstead/helmstead/StoreRequest") X22 hx hZ16 hG hown16 (hw _ (List.mem_of_getElem? (i := 40) rfl)) (hw _ (List.mem_of_getElem? (i := 41) rfl)) (hw _ (List.mem_of_getElem? (i := 43) rfl)) (hw _ (List.mem_of_getElem? (i := 42) rfl)) (hw _ (List.mem_of_getElem? (i := 3) rfl)) (hw _ (List.mem_of_getElem? (i := 44) rfl)) (by decide) 0 (own_get_kind l Z a0 hw t_20 (.ref w1) h20 O20 rfl r20_1) (by decide) (by decide) e22 r20_0 (by rw [hml]; rfl) (lenOf own_pd16 rfl) (argsL := []) (rest := []) rfl rfl (Nat.le_of_eq rfl) (hb hby at_146) (by decide) (by decide) ?_
      intro T24 h24 v24 L24 X24 e24 q24
      obtain ⟨rfl, M24, rfl⟩ := q24
      have N24 := Fr.app N22 M24
      show G (T24.setTop (mkF m 149 #[.val (.int i0), .val (.int i1), .val (.int i2), .val (.long i3), .second, .val (.int c1), .val (.int c2), .val (.int (i0 &&& (3 : Int32))), .val (.ref b14), .val (.ref t_20), .val (.ref b14), .val (.int (1 : Int32))] [(.ref w1)]))
      obtain ⟨T25, X25, e25, st25⟩ := getS2 X24 hx hZ16 hown16 (host := "") (Or.inl (hw _ (List.mem_of_getElem? (i := 45) rfl))) Via.refl e24 (own_sta g5_S O20) (g := (mkF m 149 #[.val (.int i0), .val (.int i1), .val (.int i2), .val (.long i3), .second, .val (.int c1), .val (.int c2), .val (.int (i0 &&& (3 : Int32))), .val (.ref b14), .val (.ref t_20), .val (.ref b14), .val (.int (1 : Int32))] [(.ref w1)])) rfl (hb hby at_149)
      refine hG _ _ st25 ?_
      show G (T25.setTop (mkF m 152 #[.val (.int i0), .val (.int i1), .val (.int i2), .val (.long i3), .second, .val (.int c1), .val (.int c2), .val (.int (i0 &&& (3 : Int32))), .val (.ref b14), .val (.ref t_20), .val (.ref b14), .val (.int (1 : Int32))] [(.ref w1), (.ref w1)]))
      refine hG _ _ (fun t k => Jvm.RoadKit.acmp (g := (mkF m 152 #[.val (.int i0), .val (.int i1), .val (.int i2), .val (.long i3), .second, .val (.int c1), .val (.int c2), .val (.int (i0 &&& (3 : Int32))), .val (.ref b14), .val (.ref t_20), .val (.ref b14), .val (.int (1 : Int32))] [(.ref w1), (.ref w1)])) X25 hx rfl rfl rfl (pc0 := 152) (pc' := 155) (same := true) rfl (hb hby at_152) rfl (decide_eq_true rfl) (by decide) (by decide) k) ?_
      show G (T25.setTop (mkF m 155 #[.val (.int i0), .val (.int i1), .val (.int i2), .val (.long i3), .second, .val (.int c1), .val (.int c2), .val (.int (i0 &&& (3 : Int32))), .val (.ref b14), .val (.ref t_20), .val (.ref b14), .val (.int (1 : Int32))] []))
      refine hG _ _ (fun t k => XS.iload X25.here hx rfl (hb hby at_155) rfl k) ?_
      show G (T25.setTop (mkF m 157 #[.val (.int i0), .val (.int i1), .val (.int i2), .val (.long i3), .second, .val (.int c1), .val (.int c2), .val (.int (i0 &&& (3 : Int32))), .val (.ref b14), .val (.ref t_20), .val (.ref b14), .val (.int (1 : Int32))] [(.int (1 : Int32))]))
      refine hG _ _ (fun t k => XS.ifNo X25.here hx rfl (hb hby at_157) rfl ((if0 _ _).trans (feq (by decide)).1) k) ?_
      show G (T25.setTop (mkF m 160 #[.val (.int i0), .val (.int i1), .val (.int i2), .val (.long i3), .second, .val (.int c1), .val (.int c2), .val (.int (i0 &&& (3 : Int32))), .val (.ref b14), .val (.ref t_20), .val (.ref b14), .val (.int (1 : Int32))] []))
      refine hG _ _ (fun t k => XS.aload X25.here hx rfl (hb hby at_160) rfl rfl k) ?_
      show G (T25.setTop (mkF m 162 #[.val (.int i0), .val (.int i1), .val (.int i2), .val (.long i3), .second, .val (.int c1), .val (.int c2), .val (.int (i0 &&& (3 : Int32))), .val (.ref b14), .val (.ref t_20), .val (.ref b14), .val (.int (1 : Int32))] [(.ref t_20)]))
      refine own_callV (C := "com/example/helmstead/helmstead/StoreRequest") X25 hx hZ16 hG hown16 (hw _ (List.mem_of_getElem? (i := 46) rfl)) (hw _ (List.mem_of_getElem? (i := 47) rfl)) (hw _ (List.mem_of_getElem? (i := 49) rfl)) (hw _ (List.mem_of_getElem? (i := 48) rfl)) (hw _ (List.mem_of_getElem? (i := 3) rfl)) (hw _ (List.mem_of_getElem? (i := 50) rfl)) (by decide) 0 (own_get_leaseMs l Z a0 hw t_20 i3 h20 O20 r20_3) (by decide) (by decide) e25 r20_0 (by rw [hml]; rfl) (lenOf own_pd18 rfl) (argsL := []) (rest := []) rfl rfl (Nat.le_of_eq rfl) (hb hby at_162) (by decide) (by decide) ?_
      intro T26 h26 v26 L26 X26 e26 q26
      obtain ⟨rfl, M26, rfl⟩ := q26
      have N26 := Fr.app N24 M26
      show G (T26.setTop (mkF m 165 #[.val (.int i0), .val (.int i1), .val (.int i2), .val (.long i3), .second, .val (.int c1), .val (.int c2), .val (.int (i0 &&& (3 : Int32))), .val (.ref b14), .val (.ref t_20), .val (.ref b14), .val (.int (1 : Int32))] [(.long i3)]))
      refine hG _ _ (fun t k => XS.lloadN X26.here hx rfl (hb hby at_165) rfl k) ?_
      show G (T26.setTop (mkF m 166 #[.val (.int i0), .val (.int i1), .val (.int i2), .val (.long i3), .second, .val (.int c1), .val (.int c2), .val (.int (i0 &&& (3 : Int32))), .val (.ref b14), .val (.ref t_20), .val (.ref b14), .val (.int (1 : Int32))] [(.long i3), (.long i3)]))
      refine hG _ _ (fun t k => XS.lcmp X26.here hx rfl (hb hby at_166) rfl k) ?_
      show G (T26.setTop (mkF m 167 #[.val (.int i0), .val (.int i1), .val (.int i2), .val (.long i3), .second, .val (.int c1), .val (.int c2), .val (.int (i0 &&& (3 : Int32))), .val (.ref b14), .val (.ref t_20), .val (.ref b14), .val (.int (1 : Int32))] [(.int (lcmpW i3 i3))]))
      refine hG _ _ (fun t k => XS.ifNo X26.here hx rfl (hb hby at_167) rfl ((if0 _ _).trans (teq ((lw_eq _ _).mpr rfl)).2) k) ?_
      show G (T26.setTop (mkF m 170 #[.val (.int i0), .val (.int i1), .val (.int i2), .val (.long i3), .second, .val (.int c1), .val (.int c2), .val (.int (i0 &&& (3 : Int32))), .val (.ref b14), .val (.ref t_20), .val (.ref b14), .val (.int (1 : Int32))] []))
      refine hG _ _ (fun t k => XS.aload X26.here hx rfl (hb hby at_170) rfl rfl k) ?_
      show G (T26.setTop (mkF m 172 #[.val (.int i0), .val (.int i1), .val (.int i2), .val (.long i3), .second, .val (.int c1), .val (.int c2), .val (.int (i0 &&& (3 : Int32))), .val (.ref b14), .val (.ref t_20), .val (.ref b14), .val (.int (1 : Int32))] [(.ref t_20)]))
      refine own_callV (C := "com/example/helmstead/helmstead/StoreRequest") X26 hx hZ16 hG hown16 (hw _ (List.mem_of_getElem? (i := 51) rfl)) (hw _ (List.mem_of_getElem? (i := 52) rfl)) (hw _ (List.mem_of_getElem? (i := 54) rfl)) (hw _ (List.mem_of_getElem? (i := 53) rfl)) (hw _ (List.mem_of_getElem? (i := 3) rfl)) (hw _ (List.mem_of_getElem? (i := 55) rfl)) (by decide) 0 (own_get_table l Z a0 hw t_20 .null h20 O20 rfl r20_4) (by decide) (by decide) e26 r20_0 (by rw [hml]; rfl) (lenOf own_pd17 rfl) (argsL := []) (rest := []) rfl rfl (Nat.le_of_eq rfl) (hb hby at_172) (by decide) (by decide) ?_
      intro T27 h27 v27 L27 X27 e27 q27
      obtain ⟨rfl, M27, rfl⟩ := q27
      have N27 := Fr.app N26 M27
      show G (T27.setTop (mkF m 175 #[.val (.int i0), .val (.int i1), .val (.int i2), .val (.long i3), .second, .val (.int c1), .val (.int c2), .val (.int (i0 &&& (3 : Int32))), .val (.ref b14), .val (.ref t_20), .val (.ref b14), .val (.int (1 : Int32))] [.null]))
      refine hG _ _ (fun t k => XS.ifnonnullNo X27.here hx rfl (hb hby at_175) rfl k) ?_
      show G (T27.setTop (mkF m 178 #[.val (.int i0), .val (.int i1), .val (.int i2), .val (.long i3), .second, .val (.int c1), .val (.int c2), .val (.int (i0 &&& (3 : Int32))), .val (.ref b14), .val (.ref t_20), .val (.ref b14), .val (.int (1 : Int32))] []))
      refine hG _ _ (fun t k => XS.aload X27.here hx rfl (hb hby at_178) rfl rfl k) ?_
      show G (T27.setTop (mkF m 180 #[.val (.int i0), .val (.int i1), .val (.int i2), .val (.long i3), .second, .val (.int c1), .val (.int c2), .val (.int (i0 &&& (3 : Int32))), .val (.ref b14), .val (.ref t_20), .val (.ref b14), .val (.int (1 : Int32))] [(.ref t_20)]))
      refine own_callV (C := "com/example/helmstead/helmstead/StoreRequest") X27 hx hZ16 hG hown16 (hw _ (List.mem_of_getElem? (i := 56) rfl)) (hw _ (List.mem_of_getElem? (i := 57) rfl)) (hw _ (List.mem_of_getElem? (i := 59) rfl)) (hw _ (List.mem_of_getElem? (i := 58) rfl)) (hw _ (List.mem_of_getElem? (i := 3) rfl)) (hw _ (List.mem_of_getElem? (i := 60) rfl)) (by decide) 0 (own_get_key l Z a0 hw t_20 .null h20 O20 rfl r20_5) (by decide) (by decide) e27 r20_0 (by rw [hml]; rfl) (lenOf own_pd17 rfl) (argsL := []) (rest := []) rfl rfl (Nat.le_of_eq rfl) (hb hby at_180) (by decide) (by decide) ?_
      intro T28 h28 v28 L28 X28 e28 q28
      obtain ⟨rfl, M28, rfl⟩ := q28
      have N28 := Fr.app N27 M28
      show G (T28.setTop (mkF m 183 #[.val (.int i0), .val (.int i1), .val (.int i2), .val (.long i3), .second, .val (.int c1), .val (.int c2), .val (.int (i0 &&& (3 : Int32))), .val (.ref b14), .val (.ref t_20), .val (.ref b14), .val (.int (1 : Int32))] [.null]))
      refine hG _ _ (fun t k => XS.ifnonnullNo X28.here hx rfl (hb hby at_183) rfl k) ?_
      show G (T28.setTop (mkF m 186 #[.val (.int i0), .val (.int i1), .val (.int i2), .val (.long i3), .second, .val (.int c1), .val (.int c2), .val (.int (i0 &&& (3 : Int32))), .val (.ref b14), .val (.ref t_20), .val (.ref b14), .val (.int (1 : Int32))] []))
      refine hG _ _ (fun t k => XS.aload X28.here hx rfl (hb hby at_186) rfl rfl k) ?_
      show G (T28.setTop (mkF m 188 #[.val (.int i0), .val (.int i1), .val (.int i2), .val (.long i3), .second, .val (.int c1), .val (.int c2), .val (.int (i0 &&& (3 : Int32))), .val (.ref b14), .val (.ref t_20), .val (.ref b14), .val (.int (1 : Int32))] [(.ref t_20)]))
      refine own_callV (C := "com/example/helmstead/helmstead/StoreRequest") X28 hx hZ16 hG hown16 (hw _ (List.mem_of_getElem? (i := 61) rfl)) (hw _ (List.mem_of_getElem? (i := 62) rfl)) (hw _ (List.mem_of_getElem? (i := 64) rfl)) (hw _ (List.mem_of_getElem? (i := 63) rfl)) (hw _ (List.mem_of_getElem? (i := 3) rfl)) (hw _ (List.mem_of_getElem? (i := 65) rfl)) (by decide) 0 (own_get_value l Z a0 hw t_20 .null h20 O20 rfl r20_6) (by decide) (by decide) e28 r20_0 (by rw [hml]; rfl) (lenOf own_pd17 rfl) (argsL := []) (rest := []) rfl rfl (Nat.le_of_eq rfl) (hb hby at_188) (by decide) (by decide) ?_
      intro T29 h29 v29 L29 X29 e29 q29
      obtain ⟨rfl, M29, rfl⟩ := q29
      have N29 := Fr.app N28 M29
      show G (T29.setTop (mkF m 191 #[.val (.int i0), .val (.int i1), .val (.int i2), .val (.long i3), .second, .val (.int c1), .val (.int c2), .val (.int (i0 &&& (3 : Int32))), .val (.ref b14), .val (.ref t_20), .val (.ref b14), .val (.int (1 : Int32))] [.null]))
      refine hG _ _ (fun t k => XS.ifnonnullNo X29.here hx rfl (hb hby at_191) rfl k) ?_
      show G (T29.setTop (mkF m 194 #[.val (.int i0), .val (.int i1), .val (.int i2), .val (.long i3), .second, .val (.int c1), .val (.int c2), .val (.int (i0 &&& (3 : Int32))), .val (.ref b14), .val (.ref t_20), .val (.ref b14), .val (.int (1 : Int32))] []))
      refine hG _ _ (fun t k => XS.aload X29.here hx rfl (hb hby at_194) rfl rfl k) ?_
      show G (T29.setTop (mkF m 196 #[.val (.int i0), .val (.int i1), .val (.int i2), .val (.long i3), .second, .val (.int c1), .val (.int c2), .val (.int (i0 &&& (3 : Int32))), .val (.ref b14), .val (.ref t_20), .val (.ref b14), .val (.int (1 : Int32))] [(.ref t_20)]))
      refine own_callV (C := "com/example/helmstead/helmstead/StoreRequest") X29 hx hZ16 hG hown16 (hw _ (List.mem_of_getElem? (i := 66) rfl)) (hw _ (List.mem_of_getElem? (i := 67) rfl)) (hw _ (List.mem_of_getElem? (i := 69) rfl)) (hw _ (List.mem_of_getElem? (i := 68) rfl)) (hw _ (List.mem_of_getElem? (i := 3) rfl)) (hw _ (List.mem_of_getElem? (i := 70) rfl)) (by decide) 0 (own_get_parts l Z a0 hw t_20 .null h20 O20 rfl r20_7) (by decide) (by decide) e29 r20_0 (by rw [hml]; rfl) (lenOf own_pd19 rfl) (argsL := []) (rest := []) rfl rfl (Nat.le_of_eq rfl) (hb hby at_196) (by decide) (by decide) ?_
      intro T30 h30 v30 L30 X30 e30 q30
      obtain ⟨rfl, M30, rfl⟩ := q30
      have N30 := Fr.app N29 M30
      show G (T30.setTop (mkF m 199 #[.val (.int i0), .val (.int i1), .val (.int i2), .val (.long i3), .second, .val (.int c1), .val (.int c2), .val (.int (i0 &&& (3 : Int32))), .val (.ref b14), .val (.ref t_20), .val (.ref b14), .val (.int (1 : Int32))] [.null]))
      refine hG _ _ (fun t k => XS.ifnonnullNo X30.here hx rfl (hb hby at_199) rfl k) ?_
      show G (T30.setTop (mkF m 202 #[.val (.int i0), .val (.int i1), .val (.int i2), .val (.long i3), .second, .val (.int c1), .val (.int c2), .val (.int (i0 &&& (3 : Int32))), .val (.ref b14), .val (.ref t_20), .val (.ref b14), .val (.int (1 : Int32))] []))
      refine hG _ _ (fun t k => XS.iconst X30.here hx rfl (hb hby at_202) k) ?_
      show G (T30.setTop (mkF m 203 #[.val (.int i0), .val (.int i1), .val (.int i2), .val (.long i3), .second, .val (.int c1), .val (.int c2), .val (.int (i0 &&& (3 : Int32))), .val (.ref b14), .val (.ref t_20), .val (.ref b14), .val (.int (1 : Int32))] [(.int (1 : Int32))]))
      refine hG _ _ (fun t k => XS.goto X30.here hx rfl (pc0 := 203) (pc' := 207) rfl (hb hby at_203) (by decide) (by decide) k) ?_
      show G (T30.setTop (mkF m 207 #[.val (.int i0), .val (.int i1), .val (.int i2), .val (.long i3), .second, .val (.int c1), .val (.int c2), .val (.int (i0 &&& (3 : Int32))), .val (.ref b14), .val (.ref t_20), .val (.ref b14), .val (.int (1 : Int32))] [(.int (1 : Int32))]))
      exact own_retNW hR hret (by simp) X30 hx (hb hby at_207) e30 SI16 (Nat.le_trans (Nat.le_refl _) R20.2.1) hZ16 C20 (by decide) (by decide) ⟨rfl, N30, K20⟩
    · skip
      refine hG _ _ (fun t k => XS.icmpYes X0.here hx rfl (pc0 := 33) (pc' := 51) rfl (hb hby at_33) rfl (feq hc33_13).2 (by decide) (by decide) k) ?_
      show G (s₁.setTop (mkF m 51 #[.val (.int i0), .val (.int i1), .val (.int i2), .val (.long i3), .second, .val (.int c1), .val (.int c2), .val (.int (i0 &&& (3 : Int32))), .unset, .unset, .unset, .unset] []))
      refine hG _ _ (fun t k => XS.iload X0.here hx rfl (hb hby at_51) rfl k) ?_
      show G (s₁.setTop (mkF m 53 #[.val (.int i0), .val (.int i1), .val (.int i2), .val (.long i3), .second, .val (.int c1), .val (.int c2), .val (.int (i0 &&& (3 : Int32))), .unset, .unset, .unset, .unset] [(.int (i0 &&& (3 : Int32)))]))
      refine hG _ _ (fun t k => XS.iconst X0.here hx rfl (hb hby at_53) k) ?_
      show G (s₁.setTop (mkF m 54 #[.val (.int i0), .val (.int i1), .val (.int i2), .val (.long i3), .second, .val (.int c1), .val (.int c2), .val (.int (i0 &&& (3 : Int32))), .unset, .unset, .unset, .unset] [(.int (2 : Int32)), (.int (i0 &&& (3 : Int32)))]))
      by_cases hc54_31 : (i0 &&& (3 : Int32)) = (2 : Int32)
      · skip
        refine hG _ _ (fun t k => XS.icmpNo X0.here hx rfl (hb hby at_54) rfl (teq hc54_31).2 k) ?_
        show G (s₁.setTop (mkF m 57 #[.val (.int i0), .val (.int i1), .val (.int i2), .val (.long i3), .second, .val (.int c1), .val (.int c2), .val (.int (i0 &&& (3 : Int32))), .unset, .unset, .unset, .unset] []))
        refine hG _ _ (fun t k => XS.iload X0.here hx rfl (hb hby at_57) rfl k) ?_
        show G (s₁.setTop (mkF m 59 #[.val (.int i0), .val (.int i1), .val (.int i2), .val (.long i3), .second, .val (.int c1), .val (.int c2), .val (.int (i0 &&& (3 : Int32))), .unset, .unset, .unset, .unset] [(.int c1)]))
        refine own_callS X0 hx hZ hG hown (hw _ (List.mem_of_getElem? (i := 71) rfl)) (hw _ (List.mem_of_getElem? (i := 72) rfl)) (hw _ (List.mem_of_getElem? (i := 73) rfl)) (hw _ (List.mem_of_getElem? (i := 74) rfl)) (by decide) 0 (own_val l Z a0 hw c1 cpt h0 O0 g0_S g1_hcpt g2_S g3_S g4_S) (by decide) (by decide) e0 (by rw [hml]; rfl) (lenOf own_pd13 rfl) (argsL := [(.int c1)]) (rest := []) rfl rfl (Nat.le_of_eq rfl) (hb hby at_59) (by decide) (by decide) ?_
        intro T32 h32 v32 L32 X32 e32 q32
        obtain ⟨t_32, b_32, kb_32, cd_32, nb_32, vs_32, rfl, M32, J32, y32_0, y32_1, r32_0, r32_1, r32_2, r32_3, r32_4⟩ := q32
        have N32 := Fr.app N0 M32
        have R32 := (CHr.keep J32 all0 H0)
        have C32 := (CHr.refl H0).trans R32
        have K32 : Keep h0 h32 [] := (Keep.refl h0 []).trans J32 all0
        have O32 : own_Old Z h32 := O0.keep J32 all0
        show G (T32.setTop (mkF m 62 #[.val (.int i0), .val (.int i1), .val (.int i2), .val (.long i3), .second, .val (.int c1), .val (.int c2), .val (.int (i0 &&& (3 : Int32))), .unset, .unset, .unset, .unset] [(.ref t_32)]))
        refine hG _ _ (fun t k => XS.astore X32.here hx rfl (hb hby at_62) rfl rfl (l' := #[.val (.int i0), .val (.int i1), .val (.int i2), .val (.long i3), .second, .val (.int c1), .val (.int c2), .val (.int (i0 &&& (3 : Int32))), .val (.ref t_32), .unset, .unset, .unset]) rfl k) ?_
        show G (T32.setTop (mkF m 64 #[.val (.int i0), .val (.int i1), .val (.int i2), .val (.long i3), .second, .val (.int c1), .val (.int c2), .val (.int (i0 &&& (3 : Int32))), .val (.ref t_32), .unset, .unset, .unset] []))
        refine hG _ _ (fun t k => XS.goto X32.here hx rfl (pc0 := 64) (pc' := 89) rfl (hb hby at_64) (by decide) (by decide) k) ?_
        show G (T32.setTop (mkF m 89 #[.val (.int i0), .val (.int i1), .val (.int i2), .val (.long i3), .second, .val (.int c1), .val (.int c2), .val (.int (i0 &&& (3 : Int32))), .val (.ref t_32), .unset, .unset, .unset] []))
        refine hG _ _ (fun t k => XS.aload X32.here hx rfl (hb hby at_89) rfl rfl k) ?_
        show G (T32.setTop (mkF m 91 #[.val (.int i0), .val (.int i1), .val (.int i2), .val (.long i3), .second, .val (.int c1), .val (.int c2), .val (.int (i0 &&& (3 : Int32))), .val (.ref t_32), .unset, .unset, .unset] [(.ref t_32)]))
        refine hG _ _ (fun t k => XS.lloadN X32.here hx rfl (hb hby at_91) rfl k) ?_
        show G (T32.setTop (mkF m 92 #[.val (.int i0), .val (.int i1), .val (.int i2), .val (.long i3), .second, .val (.int c1), .val (.int c2), .val (.int (i0 &&& (3 : Int32))), .val (.ref t_32), .unset, .unset, .unset] [(.long i3), (.ref t_32)]))
        refine own_callS X32 hx hZ hG hown (hw _ (List.mem_of_getElem? (i := 1) rfl)) (hw _ (List.mem_of_getElem? (i := 2) rfl)) (hw _ (List.mem_of_getElem? (i := 3) rfl)) (hw _ (List.mem_of_getElem? (i := 4) rfl)) (by decide) 0 (own_acq l Z a0 hw (.ref t_32) i3 w1 h32 O32 rfl g5_S) (by decide) (by decide) e32 (by rw [hml]; rfl) (lenOf own_pd20 rfl) (argsL := [(.ref t_32), (.long i3)]) (rest := []) rfl rfl (Nat.le_of_eq rfl) (hb hby at_92) (by decide) (by decide) ?_
        intro T33 h33 v33 L33 X33 e33 q33
        obtain ⟨t_33, rfl, M33, J33, y33_0, r33_0, r33_1, r33_2, r33_3, r33_4, r33_5, r33_6, r33_7⟩ := q33
        have N33 := Fr.app N32 M33
        have R33 := (CHr.keep J33 all0 R32.1)
        have C33 := C32.trans R33
        have K33 : Keep h0 h33 [] := K32.trans J33 all0
        have O33 : own_Old Z h33 := O32.keep J33 all0
        show G (T33.setTop (mkF m 95 #[.val (.int i0), .val (.int i1), .val (.int i2), .val (.long i3), .second, .val (.int c1), .val (.int c2), .val (.int (i0 &&& (3 : Int32))), .val (.ref t_32), .unset, .unset, .unset] [(.ref t_33)]))
        refine hG _ _ (fun t k => XS.astore X33.here hx rfl (hb hby at_95) rfl rfl (l' := #[.val (.int i0), .val (.int i1), .val (.int i2), .val (.long i3), .second, .val (.int c1), .val (.int c2), .val (.int (i0 &&& (3 : Int32))), .val (.ref t_32), .val (.ref t_33), .unset, .unset]) rfl k) ?_
        show G (T33.setTop (mkF m 97 #[.val (.int i0), .val (.int i1), .val (.int i2), .val (.long i3), .second, .val (.int c1), .val (.int c2), .val (.int (i0 &&& (3 : Int32))), .val (.ref t_32), .val (.ref t_33), .unset, .unset] []))
        refine hG _ _ (fun t k => XS.aload X33.here hx rfl (hb hby at_97) rfl rfl k) ?_
        show G (T33.setTop (mkF m 99 #[.val (.int i0), .val (.int i1), .val (.int i2), .val (.long i3), .second, .val (.int c1), .val (.int c2), .val (.int (i0 &&& (3 : Int32))), .val (.ref t_32), .val (.ref t_33), .unset, .unset] [(.ref t_33)]))
        refine own_callV (C := "com/example/helmstead/helmstead/StoreRequest") X33 hx hZ hG hown (hw _ (List.mem_of_getElem? (i := 35) rfl)) (hw _ (List.mem_of_getElem? (i := 36) rfl)) (hw _ (List.mem_of_getElem? (i := 38) rfl)) (hw _ (List.mem_of_getElem? (i := 37) rfl)) (hw _ (List.mem_of_getElem? (i := 3) rfl)) (hw _ (List.mem_of_getElem? (i := 39) rfl)) (by decide) 0 (own_get_id l Z a0 hw t_33 (.ref t_32) h33 O33 rfl r33_2) (by decide) (by decide) e33 r33_0 (by rw [hml]; rfl) (lenOf own_pd17 rfl) (argsL := []) (rest := []) rfl rfl (Nat.le_of_eq rfl) (hb hby at_99) (by decide) (by decide) ?_
        intro T34 h34 v34 L34 X34 e34 q34
        obtain ⟨rfl, M34, rfl⟩ := q34
        have N34 := Fr.app N33 M34
        show G (T34.setTop (mkF m 102 #[.val (.int i0), .val (.int i1), .val (.int i2), .val (.long i3), .second, .val (.int c1), .val (.int c2), .val (.int (i0 &&& (3 : Int32))), .val (.ref t_32), .val (.ref t_33), .unset, .unset] [(.ref t_32)]))
        refine hG _ _ (fun t k => XS.astore X34.here hx rfl (hb hby at_102) rfl rfl (l' := #[.val (.int i0), .val (.int i1), .val (.int i2), .val (.long i3), .second, .val (.int c1), .val (.int c2), .val (.int (i0 &&& (3 : Int32))), .val (.ref t_32), .val (.ref t_33), .val (.ref t_32), .unset]) rfl k) ?_
        show G (T34.setTop (mkF m 104 #[.val (.int i0), .val (.int i1), .val (.int i2), .val (.long i3), .second, .val (.int c1), .val (.int c2), .val (.int (i0 &&& (3 : Int32))), .val (.ref t_32), .val (.ref t_33), .val (.ref t_32), .unset] []))
        refine hG _ _ (fun t k => XS.aload X34.here hx rfl (hb hby at_104) rfl rfl k) ?_
        show G (T34.setTop (mkF m 106 #[.val (.int i0), .val (.int i1), .val (.int i2), .val (.long i3), .second, .val (.int c1), .val (.int c2), .val (.int (i0 &&& (3 : Int32))), .val (.ref t_32), .val (.ref t_33), .val (.ref t_32), .unset] [(.ref t_32)]))
        refine hG _ _ (fun t k => XS.ifnonnullYes X34.here hx rfl (pc0 := 106) (pc' := 122) rfl (hb hby at_106) rfl (by decide) (by decide) k) ?_
        show G (T34.setTop (mkF m 122 #[.val (.int i0), .val (.int i1), .val (.int i2), .val (.long i3), .second, .val (.int c1), .val (.int c2), .val (.int (i0 &&& (3 : Int32))), .val (.ref t_32), .val (.ref t_33), .val (.ref t_32), .unset] []))
        refine hG _ _ (fun t k => XS.aload X34.here hx rfl (hb hby at_122) rfl rfl k) ?_
        show G (T34.setTop (mkF m 124 #[.val (.int i0), .val (.int i1), .val (.int i2), .val (.long i3), .second, .val (.int c1), .val (.int c2), .val (.int (i0 &&& (3 : Int32))), .val (.ref t_32), .val (.ref t_33), .val (.ref t_32), .unset] [(.ref t_32)]))
        refine hG _ _ (fun t k => XS.ifnullNo X34.here hx rfl (hb hby at_124) rfl k) ?_
        show G (T34.setTop (mkF m 127 #[.val (.int i0), .val (.int i1), .val (.int i2), .val (.long i3), .second, .val (.int c1), .val (.int c2), .val (.int (i0 &&& (3 : Int32))), .val (.ref t_32), .val (.ref t_33), .val (.ref t_32), .unset] []))
        refine hG _ _ (fun t k => XS.aload X34.here hx rfl (hb hby at_127) rfl rfl k) ?_
        show G (T34.setTop (mkF m 129 #[.val (.int i0), .val (.int i1), .val (.int i2), .val (.long i3), .second, .val (.int c1), .val (.int c2), .val (.int (i0 &&& (3 : Int32))), .val (.ref t_32), .val (.ref t_33), .val (.ref t_32), .unset] [(.ref t_32)]))
        refine hG _ _ (fun t k => XS.aload X34.here hx rfl (hb hby at_129) rfl rfl k) ?_
        show G (T34.setTop (mkF m 131 #[.val (.int i0), .val (.int i1), .val (.int i2), .val (.long i3), .second, .val (.int c1), .val (.int c2), .val (.int (i0 &&& (3 : Int32))), .val (.ref t_32), .val (.ref t_33), .val (.ref t_32), .unset] [(.ref t_32), (.ref t_32)]))
        have f36 := (r32_0.keep J33)
        refine own_callV (C := "java/lang/String") X34 hx hZ hG hown (hw _ (List.mem_of_getElem? (i := 95) rfl)) (hw _ (List.mem_of_getElem? (i := 96) rfl)) (hw _ (List.mem_of_getElem? (i := 98) rfl)) (hw _ (List.mem_of_getElem? (i := 97) rfl)) (hw _ (List.mem_of_getElem? (i := 73) rfl)) (hw _ (List.mem_of_getElem? (i := 99) rfl)) (by decide) 0 (own_eqs l Z a0 hw t_32 h33 O33) (by decide) (by decide) e34 f36 (by rw [hml]; rfl) (lenOf own_pd14 rfl) (argsL := [(.ref t_32)]) (rest := []) rfl rfl (Nat.le_of_eq rfl) (hb hby at_131) (by decide) (by decide) ?_
        intro T35 h35 v35 L35 X35 e35 q35
        obtain ⟨rfl, M35, rfl⟩ := q35
        have N35 := Fr.app N34 M35
        show G (T35.setTop (mkF m 134 #[.val (.int i0), .val (.int i1), .val (.int i2), .val (.long i3), .second, .val (.int c1), .val (.int c2), .val (.int (i0 &&& (3 : Int32))), .val (.ref t_32), .val (.ref t_33), .val (.ref t_32), .unset] [(.int (1 : Int32))]))
        refine hG _ _ (fun t k => XS.ifNo X35.here hx rfl (hb hby at_134) rfl ((if0 _ _).trans (feq (by decide)).1) k) ?_
        show G (T35.setTop (mkF m 137 #[.val (.int i0), .val (.int i1), .val (.int i2), .val (.long i3), .second, .val (.int c1), .val (.int c2), .val (.int (i0 &&& (3 : Int32))), .val (.ref t_32), .val (.ref t_33), .val (.ref t_32), .unset] []))
        refine hG _ _ (fun t k => XS.iconst X35.here hx rfl (hb hby at_137) k) ?_
        show G (T35.setTop (mkF m 138 #[.val (.int i0), .val (.int i1), .val (.int i2), .val (.long i3), .second, .val (.int c1), .val (.int c2), .val (.int (i0 &&& (3 : Int32))), .val (.ref t_32), .val (.ref t_33), .val (.ref t_32), .unset] [(.int (1 : Int32))]))
        refine hG _ _ (fun t k => XS.goto X35.here hx rfl (pc0 := 138) (pc' := 142) rfl (hb hby at_138) (by decide) (by decide) k) ?_
        show G (T35.setTop (mkF m 142 #[.val (.int i0), .val (.int i1), .val (.int i2), .val (.long i3), .second, .val (.int c1), .val (.int c2), .val (.int (i0 &&& (3 : Int32))), .val (.ref t_32), .val (.ref t_33), .val (.ref t_32), .unset] [(.int (1 : Int32))]))
        refine hG _ _ (fun t k => XS.istore X35.here hx rfl (hb hby at_142) rfl (l' := #[.val (.int i0), .val (.int i1), .val (.int i2), .val (.long i3), .second, .val (.int c1), .val (.int c2), .val (.int (i0 &&& (3 : Int32))), .val (.ref t_32), .val (.ref t_33), .val (.ref t_32), .val (.int (1 : Int32))]) rfl k) ?_
        show G (T35.setTop (mkF m 144 #[.val (.int i0), .val (.int i1), .val (.int i2), .val (.long i3), .second, .val (.int c1), .val (.int c2), .val (.int (i0 &&& (3 : Int32))), .val (.ref t_32), .val (.ref t_33), .val (.ref t_32), .val (.int (1 : Int32))] []))
        refine hG _ _ (fun t k => XS.aload X35.here hx rfl (hb hby at_144) rfl rfl k) ?_
        show G (T35.setTop (mkF m 146 #[.val (.int i0), .val (.int i1), .val (.int i2), .val (.long i3), .second, .val (.int c1), .val (.int c2), .val (.int (i0 &&& (3 : Int32))), .val (.ref t_32), .val (.ref t_33), .val (.ref t_32), .val (.int (1 : Int32))] [(.ref t_33)]))
        refine own_callV (C := "com/example/helmstead/helmstead/StoreRequest") X35 hx hZ hG hown (hw _ (List.mem_of_getElem? (i := 40) rfl)) (hw _ (List.mem_of_getElem? (i := 41) rfl)) (hw _ (List.mem_of_getElem? (i := 43) rfl)) (hw _ (List.mem_of_getElem? (i := 42) rfl)) (hw _ (List.mem_of_getElem? (i := 3) rfl)) (hw _ (List.mem_of_getElem? (i := 44) rfl)) (by decide) 0 (own_get_kind l Z a0 hw t_33 (.ref w1) h33 O33 rfl r33_1) (by decide) (by decide) e35 r33_0 (by rw [hml]; rfl) (lenOf own_pd16 rfl) (argsL := []) (rest := []) rfl rfl (Nat.le_of_eq rfl) (hb hby at_146) (by decide) (by decide) ?_
        intro T37 h37 v37 L37 X37 e37 q37
        obtain ⟨rfl, M37, rfl⟩ := q37
        have N37 := Fr.app N35 M37
        show G (T37.setTop (mkF m 149 #[.val (.int i0), .val (.int i1), .val (.int i2), .val (.long i3), .second, .val (.int c1), .val (.int c2), .val (.int (i0 &&& (3 : Int32))), .val (.ref t_32), .val (.ref t_33), .val (.ref t_32), .val (.int (1 : Int32))] [(.ref w1)]))
        obtain ⟨T38, X38, e38, st38⟩ := getS2 X37 hx hZ hown (host := "") (Or.inl (hw _ (List.mem_of_getElem? (i := 45) rfl))) Via.refl e37 (own_sta g5_S O33) (g := (mkF m 149 #[.val (.int i0), .val (.int i1), .val (.int i2), .val (.long i3), .second, .val (.int c1), .val (.int c2), .val (.int (i0 &&& (3 : Int32))), .val (.ref t_32), .val (.ref t_33), .val (.ref t_32), .val (.int (1 : Int32))] [(.ref w1)])) rfl (hb hby at_149)
        refine hG _ _ st38 ?_
        show G (T38.setTop (mkF m 152 #[.val (.int i0), .val (.int i1), .val (.int i2), .val (.long i3), .second, .val (.int c1), .val (.int c2), .val (.int (i0 &&& (3 : Int32))), .val (.ref t_32), .val (.ref t_33), .val (.ref t_32), .val (.int (1 : Int32))] [(.ref w1), (.ref w1)]))
        refine hG _ _ (fun t k => Jvm.RoadKit.acmp (g := (mkF m 152 #[.val (.int i0), .val (.int i1), .val (.int i2), .val (.long i3), .second, .val (.int c1), .val (.int c2), .val (.int (i0 &&& (3 : Int32))), .val (.ref t_32), .val (.ref t_33), .val (.ref t_32), .val (.int (1 : Int32))] [(.ref w1), (.ref w1)])) X38 hx rfl rfl rfl (pc0 := 152) (pc' := 155) (same := true) rfl (hb hby at_152) rfl (decide_eq_true rfl) (by decide) (by decide) k) ?_
        show G (T38.setTop (mkF m 155 #[.val (.int i0), .val (.int i1), .val (.int i2), .val (.long i3), .second, .val (.int c1), .val (.int c2), .val (.int (i0 &&& (3 : Int32))), .val (.ref t_32), .val (.ref t_33), .val (.ref t_32), .val (.int (1 : Int32))] []))
        refine hG _ _ (fun t k => XS.iload X38.here hx rfl (hb hby at_155) rfl k) ?_
        show G (T38.setTop (mkF m 157 #[.val (.int i0), .val (.int i1), .val (.int i2), .val (.long i3), .second, .val (.int c1), .val (.int c2), .val (.int (i0 &&& (3 : Int32))), .val (.ref t_32), .val (.ref t_33), .val (.ref t_32), .val (.int (1 : Int32))] [(.int (1 : Int32))]))
        refine hG _ _ (fun t k => XS.ifNo X38.here hx rfl (hb hby at_157) rfl ((if0 _ _).trans (feq (by decide)).1) k) ?_
        show G (T38.setTop (mkF m 160 #[.val (.int i0), .val (.int i1), .val (.int i2), .val (.long i3), .second, .val (.int c1), .val (.int c2), .val (.int (i0 &&& (3 : Int32))), .val (.ref t_32), .val (.ref t_33), .val (.ref t_32), .val (.int (1 : Int32))] []))
        refine hG _ _ (fun t k => XS.aload X38.here hx rfl (hb hby at_160) rfl rfl k) ?_
        show G (T38.setTop (mkF m 162 #[.val (.int i0), .val (.int i1), .val (.int i2), .val (.long i3), .second, .val (.int c1), .val (.int c2), .val (.int (i0 &&& (3 : Int32))), .val (.ref t_32), .val (.ref t_33), .val (.ref t_32), .val (.int (1 : Int32))] [(.ref t_33)]))
        refine own_callV (C := "com/example/helmstead/helmstead/StoreRequest") X38 hx hZ hG hown (hw _ (List.mem_of_getElem? (i := 46) rfl)) (hw _ (List.mem_of_getElem? (i := 47) rfl)) (hw _ (List.mem_of_getElem? (i := 49) rfl)) (hw _ (List.mem_of_getElem? (i := 48) rfl)) (hw _ (List.mem_of_getElem? (i := 3) rfl)) (hw _ (List.mem_of_getElem? (i := 50) rfl)) (by decide) 0 (own_get_leaseMs l Z a0 hw t_33 i3 h33 O33 r33_3) (by decide) (by decide) e38 r33_0 (by rw [hml]; rfl) (lenOf own_pd18 rfl) (argsL := []) (rest := []) rfl rfl (Nat.le_of_eq rfl) (hb hby at_162) (by decide) (by decide) ?_
        intro T39 h39 v39 L39 X39 e39 q39
        obtain ⟨rfl, M39, rfl⟩ := q39
        have N39 := Fr.app N37 M39
        show G (T39.setTop (mkF m 165 #[.val (.int i0), .val (.int i1), .val (.int i2), .val (.long i3), .second, .val (.int c1), .val (.int c2), .val (.int (i0 &&& (3 : Int32))), .val (.ref t_32), .val (.ref t_33), .val (.ref t_32), .val (.int (1 : Int32))] [(.long i3)]))
        refine hG _ _ (fun t k => XS.lloadN X39.here hx rfl (hb hby at_165) rfl k) ?_
        show G (T39.setTop (mkF m 166 #[.val (.int i0), .val (.int i1), .val (.int i2), .val (.long i3), .second, .val (.int c1), .val (.int c2), .val (.int (i0 &&& (3 : Int32))), .val (.ref t_32), .val (.ref t_33), .val (.ref t_32), .val (.int (1 : Int32))] [(.long i3), (.long i3)]))
        refine hG _ _ (fun t k => XS.lcmp X39.here hx rfl (hb hby at_166) rfl k) ?_
        show G (T39.setTop (mkF m 167 #[.val (.int i0), .val (.int i1), .val (.int i2), .val (.long i3), .second, .val (.int c1), .val (.int c2), .val (.int (i0 &&& (3 : Int32))), .val (.ref t_32), .val (.ref t_33), .val (.ref t_32), .val (.int (1 : Int32))] [(.int (lcmpW i3 i3))]))
        refine hG _ _ (fun t k => XS.ifNo X39.here hx rfl (hb hby at_167) rfl ((if0 _ _).trans (teq ((lw_eq _ _).mpr rfl)).2) k) ?_
        show G (T39.setTop (mkF m 170 #[.val (.int i0), .val (.int i1), .val (.int i2), .val (.long i3), .second, .val (.int c1), .val (.int c2), .val (.int (i0 &&& (3 : Int32))), .val (.ref t_32), .val (.ref t_33), .val (.ref t_32), .val (.int (1 : Int32))] []))
        refine hG _ _ (fun t k => XS.aload X39.here hx rfl (hb hby at_170) rfl rfl k) ?_
        show G (T39.setTop (mkF m 172 #[.val (.int i0), .val (.int i1), .val (.int i2), .val (.long i3), .second, .val (.int c1), .val (.int c2), .val (.int (i0 &&& (3 : Int32))), .val (.ref t_32), .val (.ref t_33), .val (.ref t_32), .val (.int (1 : Int32))] [(.ref t_33)]))
        refine own_callV (C := "com/example/helmstead/helmstead/StoreRequest") X39 hx hZ hG hown (hw _ (List.mem_of_getElem? (i := 51) rfl)) (hw _ (List.mem_of_getElem? (i := 52) rfl)) (hw _ (List.mem_of_getElem? (i := 54) rfl)) (hw _ (List.mem_of_getElem? (i := 53) rfl)) (hw _ (List.mem_of_getElem? (i := 3) rfl)) (hw _ (List.mem_of_getElem? (i := 55) rfl)) (by decide) 0 (own_get_table l Z a0 hw t_33 .null h33 O33 rfl r33_4) (by decide) (by decide) e39 r33_0 (by rw [hml]; rfl) (lenOf own_pd17 rfl) (argsL := []) (rest := []) rfl rfl (Nat.le_of_eq rfl) (hb hby at_172) (by decide) (by decide) ?_
        intro T40 h40 v40 L40 X40 e40 q40
        obtain ⟨rfl, M40, rfl⟩ := q40
        have N40 := Fr.app N39 M40
        show G (T40.setTop (mkF m 175 #[.val (.int i0), .val (.int i1), .val (.int i2), .val (.long i3), .second, .val (.int c1), .val (.int c2), .val (.int (i0 &&& (3 : Int32))), .val (.ref t_32), .val (.ref t_33), .val (.ref t_32), .val (.int (1 : Int32))] [.null]))
        refine hG _ _ (fun t k => XS.ifnonnullNo X40.here hx rfl (hb hby at_175) rfl k) ?_
        show G (T40.setTop (mkF m 178 #[.val (.int i0), .val (.int i1), .val (.int i2), .val (.long i3), .second, .val (.int c1), .val (.int c2), .val (.int (i0 &&& (3 : Int32))), .val (.ref t_32), .val (.ref t_33), .val (.ref t_32), .val (.int (1 : Int32))] []))
        refine hG _ _ (fun t k => XS.aload X40.here hx rfl (hb hby at_178) rfl rfl k) ?_
        show G (T40.setTop (mkF m 180 #[.val (.int i0), .val (.int i1), .val (.int i2), .val (.long i3), .second, .val (.int c1), .val (.int c2), .val (.int (i0 &&& (3 : Int32))), .val (.ref t_32), .val (.ref t_33), .val (.ref t_32), .val (.int (1 : Int32))] [(.ref t_33)]))
        refine own_callV (C := "com/example/helmstead/helmstead/StoreRequest") X40 hx hZ hG hown (hw _ (List.mem_of_getElem? (i := 56) rfl)) (hw _ (List.mem_of_getElem? (i := 57) rfl)) (hw _ (List.mem_of_getElem? (i := 59) rfl)) (hw _ (List.mem_of_getElem? (i := 58) rfl)) (hw _ (List.mem_of_getElem? (i := 3) rfl)) (hw _ (List.mem_of_getElem? (i := 60) rfl)) (by decide) 0 (own_get_key l Z a0 hw t_33 .null h33 O33 rfl r33_5) (by decide) (by decide) e40 r33_0 (by rw [hml]; rfl) (lenOf own_pd17 rfl) (argsL := []) (rest := []) rfl rfl (Nat.le_of_eq rfl) (hb hby at_180) (by decide) (by decide) ?_
        intro T41 h41 v41 L41 X41 e41 q41
        obtain ⟨rfl, M41, rfl⟩ := q41
        have N41 := Fr.app N40 M41
        show G (T41.setTop (mkF m 183 #[.val (.int i0), .val (.int i1), .val (.int i2), .val (.long i3), .second, .val (.int c1), .val (.int c2), .val (.int (i0 &&& (3 : Int32))), .val (.ref t_32), .val (.ref t_33), .val (.ref t_32), .val (.int (1 : Int32))] [.null]))
        refine hG _ _ (fun t k => XS.ifnonnullNo X41.here hx rfl (hb hby at_183) rfl k) ?_
        show G (T41.setTop (mkF m 186 #[.val (.int i0), .val (.int i1), .val (.int i2), .val (.long i3), .second, .val (.int c1), .val (.int c2), .val (.int (i0 &&& (3 : Int32))), .val (.ref t_32), .val (.ref t_33), .val (.ref t_32), .val (.int (1 : Int32))] []))
        refine hG _ _ (fun t k => XS.aload X41.here hx rfl (hb hby at_186) rfl rfl k) ?_
        show G (T41.setTop (mkF m 188 #[.val (.int i0), .val (.int i1), .val (.int i2), .val (.long i3), .second, .val (.int c1), .val (.int c2), .val (.int (i0 &&& (3 : Int32))), .val (.ref t_32), .val (.ref t_33), .val (.ref t_32), .val (.int (1 : Int32))] [(.ref t_33)]))
        refine own_callV (C := "com/example/helmstead/helmstead/StoreRequest") X41 hx hZ hG hown (hw _ (List.mem_of_getElem? (i := 61) rfl)) (hw _ (List.mem_of_getElem? (i := 62) rfl)) (hw _ (List.mem_of_getElem? (i := 64) rfl)) (hw _ (List.mem_of_getElem? (i := 63) rfl)) (hw _ (List.mem_of_getElem? (i := 3) rfl)) (hw _ (List.mem_of_getElem? (i := 65) rfl)) (by decide) 0 (own_get_value l Z a0 hw t_33 .null h33 O33 rfl r33_6) (by decide) (by decide) e41 r33_0 (by rw [hml]; rfl) (lenOf own_pd17 rfl) (argsL := []) (rest := []) rfl rfl (Nat.le_of_eq rfl) (hb hby at_188) (by decide) (by decide) ?_
        intro T42 h42 v42 L42 X42 e42 q42
        obtain ⟨rfl, M42, rfl⟩ := q42
        have N42 := Fr.app N41 M42
        show G (T42.setTop (mkF m 191 #[.val (.int i0), .val (.int i1), .val (.int i2), .val (.long i3), .second, .val (.int c1), .val (.int c2), .val (.int (i0 &&& (3 : Int32))), .val (.ref t_32), .val (.ref t_33), .val (.ref t_32), .val (.int (1 : Int32))] [.null]))
        refine hG _ _ (fun t k => XS.ifnonnullNo X42.here hx rfl (hb hby at_191) rfl k) ?_
        show G (T42.setTop (mkF m 194 #[.val (.int i0), .val (.int i1), .val (.int i2), .val (.long i3), .second, .val (.int c1), .val (.int c2), .val (.int (i0 &&& (3 : Int32))), .val (.ref t_32), .val (.ref t_33), .val (.ref t_32), .val (.int (1 : Int32))] []))
        refine hG _ _ (fun t k => XS.aload X42.here hx rfl (hb hby at_194) rfl rfl k) ?_
        show G (T42.setTop (mkF m 196 #[.val (.int i0), .val (.int i1), .val (.int i2), .val (.long i3), .second, .val (.int c1), .val (.int c2), .val (.int (i0 &&& (3 : Int32))), .val (.ref t_32), .val (.ref t_33), .val (.ref t_32), .val (.int (1 : Int32))] [(.ref t_33)]))
        refine own_callV (C := "com/example/helmstead/helmstead/StoreRequest") X42 hx hZ hG hown (hw _ (List.mem_of_getElem? (i := 66) rfl)) (hw _ (List.mem_of_getElem? (i := 67) rfl)) (hw _ (List.mem_of_getElem? (i := 69) rfl)) (hw _ (List.mem_of_getElem? (i := 68) rfl)) (hw _ (List.mem_of_getElem? (i := 3) rfl)) (hw _ (List.mem_of_getElem? (i := 70) rfl)) (by decide) 0 (own_get_parts l Z a0 hw t_33 .null h33 O33 rfl r33_7) (by decide) (by decide) e42 r33_0 (by rw [hml]; rfl) (lenOf own_pd19 rfl) (argsL := []) (rest := []) rfl rfl (Nat.le_of_eq rfl) (hb hby at_196) (by decide) (by decide) ?_
        intro T43 h43 v43 L43 X43 e43 q43
        obtain ⟨rfl, M43, rfl⟩ := q43
        have N43 := Fr.app N42 M43
        show G (T43.setTop (mkF m 199 #[.val (.int i0), .val (.int i1), .val (.int i2), .val (.long i3), .second, .val (.int c1), .val (.int c2), .val (.int (i0 &&& (3 : Int32))), .val (.ref t_32), .val (.ref t_33), .val (.ref t_32), .val (.int (1 : Int32))] [.null]))
        refine hG _ _ (fun t k => XS.ifnonnullNo X43.here hx rfl (hb hby at_199) rfl k) ?_
        show G (T43.setTop (mkF m 202 #[.val (.int i0), .val (.int i1), .val (.int i2), .val (.long i3), .second, .val (.int c1), .val (.int c2), .val (.int (i0 &&& (3 : Int32))), .val (.ref t_32), .val (.ref t_33), .val (.ref t_32), .val (.int (1 : Int32))] []))
        refine hG _ _ (fun t k => XS.iconst X43.here hx rfl (hb hby at_202) k) ?_
        show G (T43.setTop (mkF m 203 #[.val (.int i0), .val (.int i1), .val (.int i2), .val (.long i3), .second, .val (.int c1), .val (.int c2), .val (.int (i0 &&& (3 : Int32))), .val (.ref t_32), .val (.ref t_33), .val (.ref t_32), .val (.int (1 : Int32))] [(.int (1 : Int32))]))
        refine hG _ _ (fun t k => XS.goto X43.here hx rfl (pc0 := 203) (pc' := 207) rfl (hb hby at_203) (by decide) (by decide) k) ?_
        show G (T43.setTop (mkF m 207 #[.val (.int i0), .val (.int i1), .val (.int i2), .val (.long i3), .second, .val (.int c1), .val (.int c2), .val (.int (i0 &&& (3 : Int32))), .val (.ref t_32), .val (.ref t_33), .val (.ref t_32), .val (.int (1 : Int32))] [(.int (1 : Int32))]))
        exact own_retNW hR hret (by simp) X43 hx (hb hby at_207) e43 SI0 (Nat.le_trans (Nat.le_trans (Nat.le_refl _) R32.2.1) R33.2.1) hZ C33 (by decide) (by decide) ⟨rfl, N43, K33⟩
      · skip
        refine hG _ _ (fun t k => XS.icmpYes X0.here hx rfl (pc0 := 54) (pc' := 67) rfl (hb hby at_54) rfl (feq hc54_31).2 (by decide) (by decide) k) ?_
        show G (s₁.setTop (mkF m 67 #[.val (.int i0), .val (.int i1), .val (.int i2), .val (.long i3), .second, .val (.int c1), .val (.int c2), .val (.int (i0 &&& (3 : Int32))), .unset, .unset, .unset, .unset] []))
        obtain ⟨T44, h44, X44, e44, E44, A44, D44, -, st44⟩ := newO X0 hx hZ hown (hw _ (List.mem_of_getElem? (i := 100) rfl)) (hw _ (List.mem_of_getElem? (i := 81) rfl)) (hw _ (List.mem_of_getElem? (i := 73) rfl)) e0 (g := (mkF m 67 #[.val (.int i0), .val (.int i1), .val (.int i2), .val (.long i3), .second, .val (.int c1), .val (.int c2), .val (.int (i0 &&& (3 : Int32))), .unset, .unset, .unset, .unset] [])) rfl (hb hby at_67) (by decide) (by decide)
        obtain ⟨b44, z44⟩ : ∃ z, z = h0.size := ⟨_, rfl⟩
        rw [← z44] at A44 D44 st44
        refine hG _ _ st44 ?_
        have R44 := (CHr.ext E44 H0)
        have C44 := (CHr.refl H0).trans R44
        have K44 : Keep h0 h44 [] := (Keep.refl h0 []).ext E44
        have O44 : own_Old Z h44 := O0.ext E44
        show G (T44.setTop (mkF m 70 #[.val (.int i0), .val (.int i1), .val (.int i2), .val (.long i3), .second, .val (.int c1), .val (.int c2), .val (.int (i0 &&& (3 : Int32))), .unset, .unset, .unset, .unset] [(.ref b44)]))
        refine hG _ _ (fun t k => XS.dup X44.here hx rfl (hb hby at_70) rfl rfl k) ?_
        show G (T44.setTop (mkF m 71 #[.val (.int i0), .val (.int i1), .val (.int i2), .val (.long i3), .second, .val (.int c1), .val (.int c2), .val (.int (i0 &&& (3 : Int32))), .unset, .unset, .unset, .unset] [(.ref b44), (.ref b44)]))
        refine hG _ _ (fun t k => XS.iconst X44.here hx rfl (hb hby at_71) k) ?_
        show G (T44.setTop (mkF m 72 #[.val (.int i0), .val (.int i1), .val (.int i2), .val (.long i3), .second, .val (.int c1), .val (.int c2), .val (.int (i0 &&& (3 : Int32))), .unset, .unset, .unset, .unset] [(.int (2 : Int32)), (.ref b44), (.ref b44)]))
        obtain ⟨T45, h45, k45, X45, e45, E45, A45, st45⟩ := newP X44 hx hZ (hw _ (List.mem_of_getElem? (i := 101) rfl)) e44 (g := (mkF m 72 #[.val (.int i0), .val (.int i1), .val (.int i2), .val (.long i3), .second, .val (.int c1), .val (.int c2), .val (.int (i0 &&& (3 : Int32))), .unset, .unset, .unset, .unset] [(.int (2 : Int32)), (.ref b44), (.ref b44)])) rfl (hb hby at_72) rfl (by decide) (cap := 2) (by decide) (by decide) (by decide) (by decide)
        obtain ⟨b45, z45⟩ : ∃ z, z = h44.size := ⟨_, rfl⟩
        rw [← z45] at A45 st45
        refine hG _ _ st45 ?_
        have R45 := (CHr.ext E45 R44.1)
        have C45 := C44.trans R45
        have K45 : Keep h0 h45 [] := K44.ext E45
        have O45 : own_Old Z h45 := O44.ext E45
        have V45 : Arv Z h45 b45 k45 .char (2 : Int32) [(.int (0 : Int32)), (.int (0 : Int32))] (.int (0 : Int32)) := (Arv.new A45 (by decide)).pad (pad_rep [] (.int (0 : Int32)) 2)
        show G (T45.setTop (mkF m 74 #[.val (.int i0), .val (.int i1), .val (.int i2), .val (.long i3), .second, .val (.int c1), .val (.int c2), .val (.int (i0 &&& (3 : Int32))), .unset, .unset, .unset, .unset] [(.ref b45), (.ref b44), (.ref b44)]))
        refine hG _ _ (fun t k => XS.dup X45.here hx rfl (hb hby at_74) rfl rfl k) ?_
        show G (T45.setTop (mkF m 75 #[.val (.int i0), .val (.int i1), .val (.int i2), .val (.long i3), .second, .val (.int c1), .val (.int c2), .val (.int (i0 &&& (3 : Int32))), .unset, .unset, .unset, .unset] [(.ref b45), (.ref b45), (.ref b44), (.ref b44)]))
        refine hG _ _ (fun t k => XS.iconst X45.here hx rfl (hb hby at_75) k) ?_
        show G (T45.setTop (mkF m 76 #[.val (.int i0), .val (.int i1), .val (.int i2), .val (.long i3), .second, .val (.int c1), .val (.int c2), .val (.int (i0 &&& (3 : Int32))), .unset, .unset, .unset, .unset] [(.int (0 : Int32)), (.ref b45), (.ref b45), (.ref b44), (.ref b44)]))
        refine hG _ _ (fun t k => XS.iload X45.here hx rfl (hb hby at_76) rfl k) ?_
        show G (T45.setTop (mkF m 78 #[.val (.int i0), .val (.int i1), .val (.int i2), .val (.long i3), .second, .val (.int c1), .val (.int c2), .val (.int (i0 &&& (3 : Int32))), .unset, .unset, .unset, .unset] [(.int c1), (.int (0 : Int32)), (.ref b45), (.ref b45), (.ref b44), (.ref b44)]))
        obtain ⟨c46, Ar46, q46, S46, M46, H46, G46⟩ := id V45
        obtain ⟨T46, h46, X46, e46, W46, st46⟩ := stC X45 hx hZ e45 Ar46 (j := (0 : Int32)) (inb_of S46 ⟨by decide, by decide⟩) (g := (mkF m 78 #[.val (.int i0), .val (.int i1), .val (.int i2), .val (.long i3), .second, .val (.int c1), .val (.int c2), .val (.int (i0 &&& (3 : Int32))), .unset, .unset, .unset, .unset] [(.int c1), (.int (0 : Int32)), (.ref b45), (.ref b45), (.ref b44), (.ref b44)])) rfl rfl (hb hby at_78)
        refine hG _ _ st46 ?_
        have sf47 : Safe Z consts_1 _ h45 b45 := (own_safeArv hZ.alike V45 (by decide))
        have R46 := (CHr.wr W46 sf47 R45.1)
        have C46 := C45.trans R46
        have K46 : Keep h0 h46 [] := K45.wr W46 (Or.inr (Nat.le_trans K44.1 (Nat.le_of_eq z45.symm)))
        have O46 : own_Old Z h46 := O45.wr W46 (own_ge O44 (Nat.le_of_eq z45.symm))
        have V46 : Arv Z h46 b45 k45 .char (2 : Int32) [(.int (nar .char c1)), (.int (0 : Int32))] (.int (0 : Int32)) := Arv.set Ar46 q46 S46 M46 H46 G46 (fits_nar_char _) W46 0 rfl (Nat.le_of_ble_eq_true rfl)
        have N46 := Fr.snoc X46 N0 (own_ge O44 (Nat.le_of_eq z45.symm))
        show G (T46.setTop (mkF m 79 #[.val (.int i0), .val (.int i1), .val (.int i2), .val (.long i3), .second, .val (.int c1), .val (.int c2), .val (.int (i0 &&& (3 : Int32))), .unset, .unset, .unset, .unset] [(.ref b45), (.ref b44), (.ref b44)]))
        refine hG _ _ (fun t k => XS.dup X46.here hx rfl (hb hby at_79) rfl rfl k) ?_
        show G (T46.setTop (mkF m 80 #[.val (.int i0), .val (.int i1), .val (.int i2), .val (.long i3), .second, .val (.int c1), .val (.int c2), .val (.int (i0 &&& (3 : Int32))), .unset, .unset, .unset, .unset] [(.ref b45), (.ref b45), (.ref b44), (.ref b44)]))
        refine hG _ _ (fun t k => XS.iconst X46.here hx rfl (hb hby at_80) k) ?_
        show G (T46.setTop (mkF m 81 #[.val (.int i0), .val (.int i1), .val (.int i2), .val (.long i3), .second, .val (.int c1), .val (.int c2), .val (.int (i0 &&& (3 : Int32))), .unset, .unset, .unset, .unset] [(.int (1 : Int32)), (.ref b45), (.ref b45), (.ref b44), (.ref b44)]))
        refine hG _ _ (fun t k => XS.iload X46.here hx rfl (hb hby at_81) rfl k) ?_
        show G (T46.setTop (mkF m 83 #[.val (.int i0), .val (.int i1), .val (.int i2), .val (.long i3), .second, .val (.int c1), .val (.int c2), .val (.int (i0 &&& (3 : Int32))), .unset, .unset, .unset, .unset] [(.int c2), (.int (1 : Int32)), (.ref b45), (.ref b45), (.ref b44), (.ref b44)]))
        obtain ⟨c48, Ar48, q48, S48, M48, H48, G48⟩ := id V46
        obtain ⟨T48, h48, X48, e48, W48, st48⟩ := stC X46 hx hZ e46 Ar48 (j := (1 : Int32)) (inb_of S48 ⟨by decide, by decide⟩) (g := (mkF m 83 #[.val (.int i0), .val (.int i1), .val (.int i2), .val (.long i3), .second, .val (.int c1), .val (.int c2), .val (.int (i0 &&& (3 : Int32))), .unset, .unset, .unset, .unset] [(.int c2), (.int (1 : Int32)), (.ref b45), (.ref b45), (.ref b44), (.ref b44)])) rfl rfl (hb hby at_83)
        refine hG _ _ st48 ?_
        have sf49 := (R46.safe V45.lt sf47)
        have R48 := (CHr.wr W48 sf49 R46.1)
        have C48 := C46.trans R48
        have K48 : Keep h0 h48 [] := K46.wr W48 (Or.inr (Nat.le_trans K44.1 (Nat.le_of_eq z45.symm)))
        have O48 : own_Old Z h48 := O46.wr W48 (own_ge O44 (Nat.le_of_eq z45.symm))
        have V48 : Arv Z h48 b45 k45 .char (2 : Int32) [(.int (nar .char c1)), (.int (nar .char c2))] (.int (0 : Int32)) := Arv.set Ar48 q48 S48 M48 H48 G48 (fits_nar_char _) W48 1 rfl (Nat.le_of_ble_eq_true rfl)
        have N48 := Fr.snoc X48 N46 (own_ge O44 (Nat.le_of_eq z45.symm))
        show G (T48.setTop (mkF m 84 #[.val (.int i0), .val (.int i1), .val (.int i2), .val (.long i3), .second, .val (.int c1), .val (.int c2), .val (.int (i0 &&& (3 : Int32))), .unset, .unset, .unset, .unset] [(.ref b45), (.ref b44), (.ref b44)]))
        have f51 := (((A44.ext E45).wr W46).wr W48)
        have f52 := ((((D44 (Or.inr (hw _ (List.mem_of_getElem? (i := 94) rfl))) (ty := .byte) (by decide)).ext E45).other W46 (Or.inl (own_ne A44.lt (Nat.le_of_eq z45.symm)))).other W48 (Or.inl (own_ne A44.lt (Nat.le_of_eq z45.symm))))
        have f53 := ((((D44 (Or.inr (hw _ (List.mem_of_getElem? (i := 92) rfl))) (ty := (.array .byte)) (by decide)).ext E45).other W46 (Or.inl (own_ne A44.lt (Nat.le_of_eq z45.symm)))).other W48 (Or.inl (own_ne A44.lt (Nat.le_of_eq z45.symm))))
        refine own_callI X48 hx hZ hG hown rfl (hw _ (List.mem_of_getElem? (i := 102) rfl)) (hw _ (List.mem_of_getElem? (i := 103) rfl)) (hw _ (List.mem_of_getElem? (i := 73) rfl)) (hw _ (List.mem_of_getElem? (i := 104) rfl)) (by decide) 1 (own_gstr1 l Z a0 hw b44 b45 k45 [(nar .char c1), (nar .char c2)] cpt (.int (0 : Int32)) .null h48 O48 f51 f52 f53 (own_ge O0 (Nat.le_of_eq z44.symm)) V48 (Nat.le_of_ble_eq_true rfl) (Nat.le_of_ble_eq_true rfl) (own_allc (own_nar16 hr_c1) (own_allc (own_nar16 hr_c2) own_alln)) g0_S g1_hcpt g2_S g3_S g4_S) (by decide) (by decide) e48 (by rw [hml]; rfl) (lenOf own_pd9 rfl) (argsL := [(.ref b45)]) (rest := [(.ref b44)]) rfl rfl (Nat.le_of_eq rfl) (hb hby at_84) (by decide) (by decide) ?_
        intro T50 h50 v50 L50 X50 e50 q50
        obtain ⟨t_50, kt_50, cd_50, nb_50, vs_50, rfl, M50, J50, y50_0, r50_0, r50_1, r50_2, r50_3, r50_4⟩ := q50
        have N50 := Fr.app N48 M50
        have sf54 : Safe Z consts_1 _ h48 b44 := (own_safeStr hZ.alike f51 f53)
        have R50 := (CHr.keep J50 (allS sf54 all0) R48.1)
        have C50 := C48.trans R50
        have K50 : Keep h0 h50 [] := K48.trans J50 (allS (Or.inr (Nat.le_trans (Keep.refl h0 []).1 (Nat.le_of_eq z44.symm))) all0)
        have O50 : own_Old Z h50 := O48.keep J50 (allS (own_ge O0 (Nat.le_of_eq z44.symm)) all0)
        show G (T50.setTop (mkF m 87 #[.val (.int i0), .val (.int i1), .val (.int i2), .val (.long i3), .second, .val (.int c1), .val (.int c2), .val (.int (i0 &&& (3 : Int32))), .unset, .unset, .unset, .unset] [(.ref b44)]))
        refine hG _ _ (fun t k => XS.astore X50.here hx rfl (hb hby at_87) rfl rfl (l' := #[.val (.int i0), .val (.int i1), .val (.int i2), .val (.long i3), .second, .val (.int c1), .val (.int c2), .val (.int (i0 &&& (3 : Int32))), .val (.ref b44), .unset, .unset, .unset]) rfl k) ?_
        show G (T50.setTop (mkF m 89 #[.val (.int i0), .val (.int i1), .val (.int i2), .val (.long i3), .second, .val (.int c1), .val (.int c2), .val (.int (i0 &&& (3 : Int32))), .val (.ref b44), .unset, .unset, .unset] []))
        refine hG _ _ (fun t k => XS.aload X50.here hx rfl (hb hby at_89) rfl rfl k) ?_
        show G (T50.setTop (mkF m 91 #[.val (.int i0), .val (.int i1), .val (.int i2), .val (.long i3), .second, .val (.int c1), .val (.int c2), .val (.int (i0 &&& (3 : Int32))), .val (.ref b44), .unset, .unset, .unset] [(.ref b44)]))
        refine hG _ _ (fun t k => XS.lloadN X50.here hx rfl (hb hby at_91) rfl k) ?_
        show G (T50.setTop (mkF m 92 #[.val (.int i0), .val (.int i1), .val (.int i2), .val (.long i3), .second, .val (.int c1), .val (.int c2), .val (.int (i0 &&& (3 : Int32))), .val (.ref b44), .unset, .unset, .unset] [(.long i3), (.ref b44)]))
        refine own_callS X50 hx hZ hG hown (hw _ (List.mem_of_getElem? (i := 1) rfl)) (hw _ (List.mem_of_getElem? (i := 2) rfl)) (hw _ (List.mem_of_getElem? (i := 3) rfl)) (hw _ (List.mem_of_getElem? (i := 4) rfl)) (by decide) 0 (own_acq l Z a0 hw (.ref b44) i3 w1 h50 O50 rfl g5_S) (by decide) (by decide) e50 (by rw [hml]; rfl) (lenOf own_pd20 rfl) (argsL := [(.ref b44), (.long i3)]) (rest := []) rfl rfl (Nat.le_of_eq rfl) (hb hby at_92) (by decide) (by decide) ?_
        intro T55 h55 v55 L55 X55 e55 q55
        obtain ⟨t_55, rfl, M55, J55, y55_0, r55_0, r55_1, r55_2, r55_3, r55_4, r55_5, r55_6, r55_7⟩ := q55
        have N55 := Fr.app N50 M55
        have R55 := (CHr.keep J55 all0 R50.1)
        have C55 := C50.trans R55
        have K55 : Keep h0 h55 [] := K50.trans J55 all0
        have O55 : own_Old Z h55 := O50.keep J55 all0
        show G (T55.setTop (mkF m 95 #[.val (.int i0), .val (.int i1), .val (.int i2), .val (.long i3), .second, .val (.int c1), .val (.int c2), .val (.int (i0 &&& (3 : Int32))), .val (.ref b44), .unset, .unset, .unset] [(.ref t_55)]))
        refine hG _ _ (fun t k => XS.astore X55.here hx rfl (hb hby at_95) rfl rfl (l' := #[.val (.int i0), .val (.int i1), .val (.int i2), .val (.long i3), .second, .val (.int c1), .val (.int c2), .val (.int (i0 &&& (3 : Int32))), .val (.ref b44), .val (.ref t_55), .unset, .unset]) rfl k) ?_
        show G (T55.setTop (mkF m 97 #[.val (.int i0), .val (.int i1), .val (.int i2), .val (.long i3), .second, .val (.int c1), .val (.int c2), .val (.int (i0 &&& (3 : Int32))), .val (.ref b44), .val (.ref t_55), .unset, .unset] []))
        refine hG _ _ (fun t k => XS.aload X55.here hx rfl (hb hby at_97) rfl rfl k) ?_
        show G (T55.setTop (mkF m 99 #[.val (.int i0), .val (.int i1), .val (.int i2), .val (.long i3), .second, .val (.int c1), .val (.int c2), .val (.int (i0 &&& (3 : Int32))), .val (.ref b44), .val (.ref t_55), .unset, .unset] [(.ref t_55)]))
        refine own_callV (C := "com/example/helmstead/helmstead/StoreRequest") X55 hx hZ hG hown (hw _ (List.mem_of_getElem? (i := 35) rfl)) (hw _ (List.mem_of_getElem? (i := 36) rfl)) (hw _ (List.mem_of_getElem? (i := 38) rfl)) (hw _ (List.mem_of_getElem? (i := 37) rfl)) (hw _ (List.mem_of_getElem? (i := 3) rfl)) (hw _ (List.mem_of_getElem? (i := 39) rfl)) (by decide) 0 (own_get_id l Z a0 hw t_55 (.ref b44) h55 O55 rfl r55_2) (by decide) (by decide) e55 r55_0 (by rw [hml]; rfl) (lenOf own_pd17 rfl) (argsL := []) (rest := []) rfl rfl (Nat.le_of_eq rfl) (hb hby at_99) (by decide) (by decide) ?_
        intro T56 h56 v56 L56 X56 e56 q56
        obtain ⟨rfl, M56, rfl⟩ := q56
        have N56 := Fr.app N55 M56
        show G (T56.setTop (mkF m 102 #[.val (.int i0), .val (.int i1), .val (.int i2), .val (.long i3), .second, .val (.int c1), .val (.int c2), .val (.int (i0 &&& (3 : Int32))), .val (.ref b44), .val (.ref t_55), .unset, .unset] [(.ref b44)]))
        refine hG _ _ (fun t k => XS.astore X56.here hx rfl (hb hby at_102) rfl rfl (l' := #[.val (.int i0), .val (.int i1), .val (.int i2), .val (.long i3), .second, .val (.int c1), .val (.int c2), .val (.int (i0 &&& (3 : Int32))), .val (.ref b44), .val (.ref t_55), .val (.ref b44), .unset]) rfl k) ?_
        show G (T56.setTop (mkF m 104 #[.val (.int i0), .val (.int i1), .val (.int i2), .val (.long i3), .second, .val (.int c1), .val (.int c2), .val (.int (i0 &&& (3 : Int32))), .val (.ref b44), .val (.ref t_55), .val (.ref b44), .unset] []))
        refine hG _ _ (fun t k => XS.aload X56.here hx rfl (hb hby at_104) rfl rfl k) ?_
        show G (T56.setTop (mkF m 106 #[.val (.int i0), .val (.int i1), .val (.int i2), .val (.long i3), .second, .val (.int c1), .val (.int c2), .val (.int (i0 &&& (3 : Int32))), .val (.ref b44), .val (.ref t_55), .val (.ref b44), .unset] [(.ref b44)]))
        refine hG _ _ (fun t k => XS.ifnonnullYes X56.here hx rfl (pc0 := 106) (pc' := 122) rfl (hb hby at_106) rfl (by decide) (by decide) k) ?_
        show G (T56.setTop (mkF m 122 #[.val (.int i0), .val (.int i1), .val (.int i2), .val (.long i3), .second, .val (.int c1), .val (.int c2), .val (.int (i0 &&& (3 : Int32))), .val (.ref b44), .val (.ref t_55), .val (.ref b44), .unset] []))
        refine hG _ _ (fun t k => XS.aload X56.here hx rfl (hb hby at_122) rfl rfl k) ?_
        show G (T56.setTop (mkF m 124 #[.val (.int i0), .val (.int i1), .val (.int i2), .val (.long i3), .second, .val (.int c1), .val (.int c2), .val (.int (i0 &&& (3 : Int32))), .val (.ref b44), .val (.ref t_55), .val (.ref b44), .unset] [(.ref b44)]))
        refine hG _ _ (fun t k => XS.ifnullNo X56.here hx rfl (hb hby at_124) rfl k) ?_
        show G (T56.setTop (mkF m 127 #[.val (.int i0), .val (.int i1), .val (.int i2), .val (.long i3), .second, .val (.int c1), .val (.int c2), .val (.int (i0 &&& (3 : Int32))), .val (.ref b44), .val (.ref t_55), .val (.ref b44), .unset] []))
        refine hG _ _ (fun t k => XS.aload X56.here hx rfl (hb hby at_127) rfl rfl k) ?_
        show G (T56.setTop (mkF m 129 #[.val (.int i0), .val (.int i1), .val (.int i2), .val (.long i3), .second, .val (.int c1), .val (.int c2), .val (.int (i0 &&& (3 : Int32))), .val (.ref b44), .val (.ref t_55), .val (.ref b44), .unset] [(.ref b44)]))
        refine hG _ _ (fun t k => XS.aload X56.here hx rfl (hb hby at_129) rfl rfl k) ?_
        show G (T56.setTop (mkF m 131 #[.val (.int i0), .val (.int i1), .val (.int i2), .val (.long i3), .second, .val (.int c1), .val (.int c2), .val (.int (i0 &&& (3 : Int32))), .val (.ref b44), .val (.ref t_55), .val (.ref b44), .unset] [(.ref b44), (.ref b44)]))
        have f58 := (r50_0.keep J55)
        refine own_callV (C := "java/lang/String") X56 hx hZ hG hown (hw _ (List.mem_of_getElem? (i := 95) rfl)) (hw _ (List.mem_of_getElem? (i := 96) rfl)) (hw _ (List.mem_of_getElem? (i := 98) rfl)) (hw _ (List.mem_of_getElem? (i := 97) rfl)) (hw _ (List.mem_of_getElem? (i := 73) rfl)) (hw _ (List.mem_of_getElem? (i := 99) rfl)) (by decide) 0 (own_eqs l Z a0 hw b44 h55 O55) (by decide) (by decide) e56 f58 (by rw [hml]; rfl) (lenOf own_pd14 rfl) (argsL := [(.ref b44)]) (rest := []) rfl rfl (Nat.le_of_eq rfl) (hb hby at_131) (by decide) (by decide) ?_
        intro T57 h57 v57 L57 X57 e57 q57
        obtain ⟨rfl, M57, rfl⟩ := q57
        have N57 := Fr.app N56 M57
        show G (T57.setTop (mkF m 134 #[.val (.int i0), .val (.int i1), .val (.int i2), .val (.long i3), .second, .val (.int c1), .val (.int c2), .val (.int (i0 &&& (3 : Int32))), .val (.ref b44), .val (.ref t_55), .val (.ref b44), .unset] [(.int (1 : Int32))]))
        refine hG _ _ (fun t k => XS.ifNo X57.here hx rfl (hb hby at_134) rfl ((if0 _ _).trans (feq (by decide)).1) k) ?_
        show G (T57.setTop (mkF m 137 #[.val (.int i0), .val (.int i1), .val (.int i2), .val (.long i3), .second, .val (.int c1), .val (.int c2), .val (.int (i0 &&& (3 : Int32))), .val (.ref b44), .val (.ref t_55), .val (.ref b44), .unset] []))
        refine hG _ _ (fun t k => XS.iconst X57.here hx rfl (hb hby at_137) k) ?_
        show G (T57.setTop (mkF m 138 #[.val (.int i0), .val (.int i1), .val (.int i2), .val (.long i3), .second, .val (.int c1), .val (.int c2), .val (.int (i0 &&& (3 : Int32))), .val (.ref b44), .val (.ref t_55), .val (.ref b44), .unset] [(.int (1 : Int32))]))
        refine hG _ _ (fun t k => XS.goto X57.here hx rfl (pc0 := 138) (pc' := 142) rfl (hb hby at_138) (by decide) (by decide) k) ?_
        show G (T57.setTop (mkF m 142 #[.val (.int i0), .val (.int i1), .val (.int i2), .val (.long i3), .second, .val (.int c1), .val (.int c2), .val (.int (i0 &&& (3 : Int32))), .val (.ref b44), .val (.ref t_55), .val (.ref b44), .unset] [(.int (1 : Int32))]))
        refine hG _ _ (fun t k => XS.istore X57.here hx rfl (hb hby at_142) rfl (l' := #[.val (.int i0), .val (.int i1), .val (.int i2), .val (.long i3), .second, .val (.int c1), .val (.int c2), .val (.int (i0 &&& (3 : Int32))), .val (.ref b44), .val (.ref t_55), .val (.ref b44), .val (.int (1 : Int32))]) rfl k) ?_
        show G (T57.setTop (mkF m 144 #[.val (.int i0), .val (.int i1), .val (.int i2), .val (.long i3), .second, .val (.int c1), .val (.int c2), .val (.int (i0 &&& (3 : Int32))), .val (.ref b44), .val (.ref t_55), .val (.ref b44), .val (.int (1 : Int32))] []))
        refine hG _ _ (fun t k => XS.aload X57.here hx rfl (hb hby at_144) rfl rfl k) ?_
        show G (T57.setTop (mkF m 146 #[.val (.int i0), .val (.int i1), .val (.int i2), .val (.long i3), .second, .val (.int c1), .val (.int c2), .val (.int (i0 &&& (3 : Int32))), .val (.ref b44), .val (.ref t_55), .val (.ref b44), .val (.int (1 : Int32))] [(.ref t_55)]))
        refine own_callV (C := "com/example/helmstead/helmstead/StoreRequest") X57 hx hZ hG hown (hw _ (List.mem_of_getElem? (i := 40) rfl)) (hw _ (List.mem_of_getElem? (i := 41) rfl)) (hw _ (List.mem_of_getElem? (i := 43) rfl)) (hw _ (List.mem_of_getElem? (i := 42) rfl)) (hw _ (List.mem_of_getElem? (i := 3) rfl)) (hw _ (List.mem_of_getElem? (i := 44) rfl)) (by decide) 0 (own_get_kind l Z a0 hw t_55 (.ref w1) h55 O55 rfl r55_1) (by decide) (by decide) e57 r55_0 (by rw [hml]; rfl) (lenOf own_pd16 rfl) (argsL := []) (rest := []) rfl rfl (Nat.le_of_eq rfl) (hb hby at_146) (by decide) (by decide) ?_
        intro T59 h59 v59 L59 X59 e59 q59
        obtain ⟨rfl, M59, rfl⟩ := q59
        have N59 := Fr.app N57 M59
        show G (T59.setTop (mkF m 149 #[.val (.int i0), .val (.int i1), .val (.int i2), .val (.long i3), .second, .val (.int c1), .val (.int c2), .val (.int (i0 &&& (3 : Int32))), .val (.ref b44), .val (.ref t_55), .val (.ref b44), .val (.int (1 : Int32))] [(.ref w1)]))
        obtain ⟨T60, X60, e60, st60⟩ := getS2 X59 hx hZ hown (host := "") (Or.inl (hw _ (List.mem_of_getElem? (i := 45) rfl))) Via.refl e59 (own_sta g5_S O55) (g := (mkF m 149 #[.val (.int i0), .val (.int i1), .val (.int i2), .val (.long i3), .second, .val (.int c1), .val (.int c2), .val (.int (i0 &&& (3 : Int32))), .val (.ref b44), .val (.ref t_55), .val (.ref b44), .val (.int (1 : Int32))] [(.ref w1)])) rfl (hb hby at_149)
        refine hG _ _ st60 ?_
        show G (T60.setTop (mkF m 152 #[.val (.int i0), .val (.int i1), .val (.int i2), .val (.long i3), .second, .val (.int c1), .val (.int c2), .val (.int (i0 &&& (3 : Int32))), .val (.ref b44), .val (.ref t_55), .val (.ref b44), .val (.int (1 : Int32))] [(.ref w1), (.ref w1)]))
        refine hG _ _ (fun t k => Jvm.RoadKit.acmp (g := (mkF m 152 #[.val (.int i0), .val (.int i1), .val (.int i2), .val (.long i3), .second, .val (.int c1), .val (.int c2), .val (.int (i0 &&& (3 : Int32))), .val (.ref b44), .val (.ref t_55), .val (.ref b44), .val (.int (1 : Int32))] [(.ref w1), (.ref w1)])) X60 hx rfl rfl rfl (pc0 := 152) (pc' := 155) (same := true) rfl (hb hby at_152) rfl (decide_eq_true rfl) (by decide) (by decide) k) ?_
        show G (T60.setTop (mkF m 155 #[.val (.int i0), .val (.int i1), .val (.int i2), .val (.long i3), .second, .val (.int c1), .val (.int c2), .val (.int (i0 &&& (3 : Int32))), .val (.ref b44), .val (.ref t_55), .val (.ref b44), .val (.int (1 : Int32))] []))
        refine hG _ _ (fun t k => XS.iload X60.here hx rfl (hb hby at_155) rfl k) ?_
        show G (T60.setTop (mkF m 157 #[.val (.int i0), .val (.int i1), .val (.int i2), .val (.long i3), .second, .val (.int c1), .val (.int c2), .val (.int (i0 &&& (3 : Int32))), .val (.ref b44), .val (.ref t_55), .val (.ref b44), .val (.int (1 : Int32))] [(.int (1 : Int32))]))
        refine hG _ _ (fun t k => XS.ifNo X60.here hx rfl (hb hby at_157) rfl ((if0 _ _).trans (feq (by decide)).1) k) ?_
        show G (T60.setTop (mkF m 160 #[.val (.int i0), .val (.int i1), .val (.int i2), .val (.long i3), .second, .val (.int c1), .val (.int c2), .val (.int (i0 &&& (3 : Int32))), .val (.ref b44), .val (.ref t_55), .val (.ref b44), .val (.int (1 : Int32))] []))
        refine hG _ _ (fun t k => XS.aload X60.here hx rfl (hb hby at_160) rfl rfl k) ?_
        show G (T60.setTop (mkF m 162 #[.val (.int i0), .val (.int i1), .val (.int i2), .val (.long i3), .second, .val (.int c1), .val (.int c2), .val (.int (i0 &&& (3 : Int32))), .val (.ref b44), .val (.ref t_55), .val (.ref b44), .val (.int (1 : Int32))] [(.ref t_55)]))
        refine own_callV (C := "com/example/helmstead/helmstead/StoreRequest") X60 hx hZ hG hown (hw _ (List.mem_of_getElem? (i := 46) rfl)) (hw _ (List.mem_of_getElem? (i := 47) rfl)) (hw _ (List.mem_of_getElem? (i := 49) rfl)) (hw _ (List.mem_of_getElem? (i := 48) rfl)) (hw _ (List.mem_of_getElem? (i := 3) rfl)) (hw _ (List.mem_of_getElem? (i := 50) rfl)) (by decide) 0 (own_get_leaseMs l Z a0 hw t_55 i3 h55 O55 r55_3) (by decide) (by decide) e60 r55_0 (by rw [hml]; rfl) (lenOf own_pd18 rfl) (argsL := []) (rest := []) rfl rfl (Nat.le_of_eq rfl) (hb hby at_162) (by decide) (by decide) ?_
        intro T61 h61 v61 L61 X61 e61 q61
        obtain ⟨rfl, M61, rfl⟩ := q61
        have N61 := Fr.app N59 M61
        show G (T61.setTop (mkF m 165 #[.val (.int i0), .val (.int i1), .val (.int i2), .val (.long i3), .second, .val (.int c1), .val (.int c2), .val (.int (i0 &&& (3 : Int32))), .val (.ref b44), .val (.ref t_55), .val (.ref b44), .val (.int (1 : Int32))] [(.long i3)]))
        refine hG _ _ (fun t k => XS.lloadN X61.here hx rfl (hb hby at_165) rfl k) ?_
        show G (T61.setTop (mkF m 166 #[.val (.int i0), .val (.int i1), .val (.int i2), .val (.long i3), .second, .val (.int c1), .val (.int c2), .val (.int (i0 &&& (3 : Int32))), .val (.ref b44), .val (.ref t_55), .val (.ref b44), .val (.int (1 : Int32))] [(.long i3), (.long i3)]))
        refine hG _ _ (fun t k => XS.lcmp X61.here hx rfl (hb hby at_166) rfl k) ?_
        show G (T61.setTop (mkF m 167 #[.val (.int i0), .val (.int i1), .val (.int i2), .val (.long i3), .second, .val (.int c1), .val (.int c2), .val (.int (i0 &&& (3 : Int32))), .val (.ref b44), .val (.ref t_55), .val (.ref b44), .val (.int (1 : Int32))] [(.int (lcmpW i3 i3))]))
        refine hG _ _ (fun t k => XS.ifNo X61.here hx rfl (hb hby at_167) rfl ((if0 _ _).trans (teq ((lw_eq _ _).mpr rfl)).2) k) ?_
        show G (T61.setTop (mkF m 170 #[.val (.int i0), .val (.int i1), .val (.int i2), .val (.long i3), .second, .val (.int c1), .val (.int c2), .val (.int (i0 &&& (3 : Int32))), .val (.ref b44), .val (.ref t_55), .val (.ref b44), .val (.int (1 : Int32))] []))
        refine hG _ _ (fun t k => XS.aload X61.here hx rfl (hb hby at_170) rfl rfl k) ?_
        show G (T61.setTop (mkF m 172 #[.val (.int i0), .val (.int i1), .val (.int i2), .val (.long i3), .second, .val (.int c1), .val (.int c2), .val (.int (i0 &&& (3 : Int32))), .val (.ref b44), .val (.ref t_55), .val (.ref b44), .val (.int (1 : Int32))] [(.ref t_55)]))
        refine own_callV (C := "com/example/helmstead/helmstead/StoreRequest") X61 hx hZ hG hown (hw _ (List.mem_of_getElem? (i := 51) rfl)) (hw _ (List.mem_of_getElem? (i := 52) rfl)) (hw _ (List.mem_of_getElem? (i := 54) rfl)) (hw _ (List.mem_of_getElem? (i := 53) rfl)) (hw _ (List.mem_of_getElem? (i := 3) rfl)) (hw _ (List.mem_of_getElem? (i := 55) rfl)) (by decide) 0 (own_get_table l Z a0 hw t_55 .null h55 O55 rfl r55_4) (by decide) (by decide) e61 r55_0 (by rw [hml]; rfl) (lenOf own_pd17 rfl) (argsL := []) (rest := []) rfl rfl (Nat.le_of_eq rfl) (hb hby at_172) (by decide) (by decide) ?_
        intro T62 h62 v62 L62 X62 e62 q62
        obtain ⟨rfl, M62, rfl⟩ := q62
        have N62 := Fr.app N61 M62
        show G (T62.setTop (mkF m 175 #[.val (.int i0), .val (.int i1), .val (.int i2), .val (.long i3), .second, .val (.int c1), .val (.int c2), .val (.int (i0 &&& (3 : Int32))), .val (.ref b44), .val (.ref t_55), .val (.ref b44), .val (.int (1 : Int32))] [.null]))
        refine hG _ _ (fun t k => XS.ifnonnullNo X62.here hx rfl (hb hby at_175) rfl k) ?_
        show G (T62.setTop (mkF m 178 #[.val (.int i0), .val (.int i1), .val (.int i2), .val (.long i3), .second, .val (.int c1), .val (.int c2), .val (.int (i0 &&& (3 : Int32))), .val (.ref b44), .val (.ref t_55), .val (.ref b44), .val (.int (1 : Int32))] []))
        refine hG _ _ (fun t k => XS.aload X62.here hx rfl (hb hby at_178) rfl rfl k) ?_
        show G (T62.setTop (mkF m 180 #[.val (.int i0), .val (.int i1), .val (.int i2), .val (.long i3), .second, .val (.int c1), .val (.int c2), .val (.int (i0 &&& (3 : Int32))), .val (.ref b44), .val (.ref t_55), .val (.ref b44), .val (.int (1 : Int32))] [(.ref t_55)]))
        refine own_callV (C := "com/example/helmstead/helmstead/StoreRequest") X62 hx hZ hG hown (hw _ (List.mem_of_getElem? (i := 56) rfl)) (hw _ (List.mem_of_getElem? (i := 57) rfl)) (hw _ (List.mem_of_getElem? (i := 59) rfl)) (hw _ (List.mem_of_getElem? (i := 58) rfl)) (hw _ (List.mem_of_getElem? (i := 3) rfl)) (hw _ (List.mem_of_getElem? (i := 60) rfl)) (by decide) 0 (own_get_key l Z a0 hw t_55 .null h55 O55 rfl r55_5) (by decide) (by decide) e62 r55_0 (by rw [hml]; rfl) (lenOf own_pd17 rfl) (argsL := []) (rest := []) rfl rfl (Nat.le_of_eq rfl) (hb hby at_180) (by decide) (by decide) ?_
        intro T63 h63 v63 L63 X63 e63 q63
        obtain ⟨rfl, M63, rfl⟩ := q63
        have N63 := Fr.app N62 M63
        show G (T63.setTop (mkF m 183 #[.val (.int i0), .val (.int i1), .val (.int i2), .val (.long i3), .second, .val (.int c1), .val (.int c2), .val (.int (i0 &&& (3 : Int32))), .val (.ref b44), .val (.ref t_55), .val (.ref b44), .val (.int (1 : Int32))] [.null]))
        refine hG _ _ (fun t k => XS.ifnonnullNo X63.here hx rfl (hb hby at_183) rfl k) ?_
        show G (T63.setTop (mkF m 186 #[.val (.int i0), .val (.int i1), .val (.int i2), .val (.long i3), .second, .val (.int c1), .val (.int c2), .val (.int (i0 &&& (3 : Int32))), .val (.ref b44), .val (.ref t_55), .val (.ref b44), .val (.int (1 : Int32))] []))
        refine hG _ _ (fun t k => XS.aload X63.here hx rfl (hb hby at_186) rfl rfl k) ?_
        show G (T63.setTop (mkF m 188 #[.val (.int i0), .val (.int i1), .val (.int i2), .val (.long i3), .second, .val (.int c1), .val (.int c2), .val (.int (i0 &&& (3 : Int32))), .val (.ref b44), .val (.ref t_55), .val (.ref b44), .val (.int (1 : Int32))] [(.ref t_55)]))
        refine own_callV (C := "com/example/helmstead/helmstead/StoreRequest") X63 hx hZ hG hown (hw _ (List.mem_of_getElem? (i := 61) rfl)) (hw _ (List.mem_of_getElem? (i := 62) rfl)) (hw _ (List.mem_of_getElem? (i := 64) rfl)) (hw _ (List.mem_of_getElem? (i := 63) rfl)) (hw _ (List.mem_of_getElem? (i := 3) rfl)) (hw _ (List.mem_of_getElem? (i := 65) rfl)) (by decide) 0 (own_get_value l Z a0 hw t_55 .null h55 O55 rfl r55_6) (by decide) (by decide) e63 r55_0 (by rw [hml]; rfl) (lenOf own_pd17 rfl) (argsL := []) (rest := []) rfl rfl (Nat.le_of_eq rfl) (hb hby at_188) (by decide) (by decide) ?_
        intro T64 h64 v64 L64 X64 e64 q64
        obtain ⟨rfl, M64, rfl⟩ := q64
        have N64 := Fr.app N63 M64
        show G (T64.setTop (mkF m 191 #[.val (.int i0), .val (.int i1), .val (.int i2), .val (.long i3), .second, .val (.int c1), .val (.int c2), .val (.int (i0 &&& (3 : Int32))), .val (.ref b44), .val (.ref t_55), .val (.ref b44), .val (.int (1 : Int32))] [.null]))
        refine hG _ _ (fun t k => XS.ifnonnullNo X64.here hx rfl (hb hby at_191) rfl k) ?_
        show G (T64.setTop (mkF m 194 #[.val (.int i0), .val (.int i1), .val (.int i2), .val (.long i3), .second, .val (.int c1), .val (.int c2), .val (.int (i0 &&& (3 : Int32))), .val (.ref b44), .val (.ref t_55), .val (.ref b44), .val (.int (1 : Int32))] []))
        refine hG _ _ (fun t k => XS.aload X64.here hx rfl (hb hby at_194) rfl rfl k) ?_
        show G (T64.setTop (mkF m 196 #[.val (.int i0), .val (.int i1), .val (.int i2), .val (.long i3), .second, .val (.int c1), .val (.int c2), .val (.int (i0 &&& (3 : Int32))), .val (.ref b44), .val (.ref t_55), .val (.ref b44), .val (.int (1 : Int32))] [(.ref t_55)]))
        refine own_callV (C := "com/example/helmstead/helmstead/StoreRequest") X64 hx hZ hG hown (hw _ (List.mem_of_getElem? (i := 66) rfl)) (hw _ (List.mem_of_getElem? (i := 67) rfl)) (hw _ (List.mem_of_getElem? (i := 69) rfl)) (hw _ (List.mem_of_getElem? (i := 68) rfl)) (hw _ (List.mem_of_getElem? (i := 3) rfl)) (hw _ (List.mem_of_getElem? (i := 70) rfl)) (by decide) 0 (own_get_parts l Z a0 hw t_55 .null h55 O55 rfl r55_7) (by decide) (by decide) e64 r55_0 (by rw [hml]; rfl) (lenOf own_pd19 rfl) (argsL := []) (rest := []) rfl rfl (Nat.le_of_eq rfl) (hb hby at_196) (by decide) (by decide) ?_
        intro T65 h65 v65 L65 X65 e65 q65
        obtain ⟨rfl, M65, rfl⟩ := q65
        have N65 := Fr.app N64 M65
        show G (T65.setTop (mkF m 199 #[.val (.int i0), .val (.int i1), .val (.int i2), .val (.long i3), .second, .val (.int c1), .val (.int c2), .val (.int (i0 &&& (3 : Int32))), .val (.ref b44), .val (.ref t_55), .val (.ref b44), .val (.int (1 : Int32))] [.null]))
        refine hG _ _ (fun t k => XS.ifnonnullNo X65.here hx rfl (hb hby at_199) rfl k) ?_
        show G (T65.setTop (mkF m 202 #[.val (.int i0), .val (.int i1), .val (.int i2), .val (.long i3), .second, .val (.int c1), .val (.int c2), .val (.int (i0 &&& (3 : Int32))), .val (.ref b44), .val (.ref t_55), .val (.ref b44), .val (.int (1 : Int32))] []))
        refine hG _ _ (fun t k => XS.iconst X65.here hx rfl (hb hby at_202) k) ?_
        show G (T65.setTop (mkF m 203 #[.val (.int i0), .val (.int i1), .val (.int i2), .val (.long i3), .second, .val (.int c1), .val (.int c2), .val (.int (i0 &&& (3 : Int32))), .val (.ref b44), .val (.ref t_55), .val (.ref b44), .val (.int (1 : Int32))] [(.int (1 : Int32))]))
        refine hG _ _ (fun t k => XS.goto X65.here hx rfl (pc0 := 203) (pc' := 207) rfl (hb hby at_203) (by decide) (by decide) k) ?_
        show G (T65.setTop (mkF m 207 #[.val (.int i0), .val (.int i1), .val (.int i2), .val (.long i3), .second, .val (.int c1), .val (.int c2), .val (.int (i0 &&& (3 : Int32))), .val (.ref b44), .val (.ref t_55), .val (.ref b44), .val (.int (1 : Int32))] [(.int (1 : Int32))]))
        exact own_retNW hR hret (by simp) X65 hx (hb hby at_207) e65 SI0 (Nat.le_trans (Nat.le_trans (Nat.le_trans (Nat.le_trans (Nat.le_trans (Nat.le_trans (Nat.le_refl _) R44.2.1) R45.2.1) R46.2.1) R48.2.1) R50.2.1) R55.2.1) hZ C55 (by decide) (by decide) ⟨rfl, N65, K55⟩
set_option maxRecDepth 65536 in
set_option maxHeartbeats 40000000 in
theorem own_comes {Post : Tables → Env → Array Value → State → Outcome → State → Prop} (hpost : ∀ tb e args s v u, (limb_1_1.after args s (.returned v) u = true ∧ limb_1_2.after args s (.returned v) u = true ∧ True) → ReturnedEndW s (.returned v) u (Jvm.fieldLocs frame_1_writes args s ++ Jvm.arrayLocs frame_1_arrays args s ++ Jvm.staticLocs frame_1_statics s) 24 1152 → Post tb e args s (.returned v) u) :
    ArmFor flags0 classFile x code maxLocals ret World_1 tables_1 room_1 Calls_1 rest_1 Pre_1 Post := by
  intro l hfl _ _ p e ha hc hk s m args below hf hA hF happ hP
  obtain ⟨hcalls, hrest, hpre⟩ := hP
  obtain ⟨-, -, -, hnamed, -, -, -, hat⟩ := (Spec.applies_iff hf).mp happ
  obtain ⟨hg, hn⟩ := and_e (Cond.before_iff.mp (show (Jvm.Cond.and given_1 narrow_1).before args s = true from hpre))
  obtain ⟨hcnt, hg⟩ := and_e hg
  obtain ⟨g0, hg⟩ := and_e hg
  obtain ⟨g1, hg⟩ := and_e hg
  obtain ⟨g2, hg⟩ := and_e hg
  have g3 := hg
  obtain ⟨w0, w1, w2, w3, rfl⟩ : ∃ w0 w1 w2 w3 : Value, args = #[w0, w1, w2, w3] := by
    have hs : args.size = 4 := by simpa [Cond.value, given_1] using hcnt
    obtain ⟨L⟩ := args
    match L, hs with
    | [w0, w1, w2, w3], _ => exact ⟨w0, w1, w2, w3, rfl⟩
  have hw := fun d (hd : d ∈ tables_1) => atoms_spec (ws := Jvm.Cond.code x code maxLocals ret :: tables_1) hat d (List.mem_cons_of_mem _ hd)
  have hfit : Fit s := fun {y c} hc i hi => by
    obtain ⟨ha, rfl⟩ := Array.getElem?_eq_some_iff.mp hc
    have q := List.all_eq_true.mp ((Array.all_eq_true_iff_forall_mem.mp hF) _ (Array.getElem_mem ha)) i (List.mem_range.mpr hi)
    simpa [Array.getElem?_eq_getElem hi] using q
  obtain ⟨hsets, hown0⟩ := atoms_of _ (rest_1_c_eq ▸ (show rest_1_c.before _ s = true from hrest))
  have hr0 := Cond.before_iff.mp hown0
  obtain ⟨i0, ei0⟩ := is_v g0
  obtain rfl : w0 = (.int i0) := Option.some.inj ei0
  obtain ⟨i1, ei1⟩ := is_v g1
  obtain rfl : w1 = (.int i1) := Option.some.inj ei1
  obtain ⟨i2, ei2⟩ := is_v g2
  obtain rfl : w2 = (.int i2) := Option.some.inj ei2
  obtain ⟨i3, ei3⟩ := isL_v g3
  obtain rfl : w3 = (.long i3) := Option.some.inj ei3
  obtain ⟨cpt, ecpt⟩ := is_v (Cond.before_iff.mp (hsets _ (List.mem_of_getElem? (i := 1) rfl)))
  have S_cpt : Sta s s.heap "java/lang/String" "COMPACT_STRINGS" "Z" (.int cpt) := Sta.start ecpt (Or.inl (hsets _ (List.mem_of_getElem? (i := 0) rfl)))
  have h_cpt : ¬ (cpt = (0 : Int32)) := gotF (Cond.eq_ints ecpt (Term.int_eval (0))) (not_v (Cond.before_iff.mp (hsets _ (List.mem_of_getElem? (i := 2) rfl))))
  have S_ad : Sta s s.heap "java/lang/StringUTF16" "$assertionsDisabled" "Z" (.int (1 : Int32)) := Sta.start (Cond.eq_int (hsets _ (List.mem_of_getElem? (i := 12) rfl)) rfl) (Or.inl (hsets _ (List.mem_of_getElem? (i := 11) rfl)))
  have S_hs : Sta s s.heap "java/lang/StringUTF16" "HI_BYTE_SHIFT" "I" (.int (0 : Int32)) := Sta.start (Cond.eq_int (hsets _ (List.mem_of_getElem? (i := 15) rfl)) rfl) (Or.inl (hsets _ (List.mem_of_getElem? (i := 14) rfl)))
  have S_ls : Sta s s.heap "java/lang/StringUTF16" "LO_BYTE_SHIFT" "I" (.int (8 : Int32)) := Sta.start (Cond.eq_int (hsets _ (List.mem_of_getElem? (i := 18) rfl)) rfl) (Or.inl (hsets _ (List.mem_of_getElem? (i := 17) rfl)))
  obtain ⟨w1', ew1⟩ := exa_v hn
  have S1 : Sta s s.heap "com/example/helmstead/helmstead/StoreRequest$Kind" "ACQUIRE" "Lcom/example/helmstead/helmstead/StoreRequest$Kind;" (.ref w1') := Sta.start ew1 (Or.inr ⟨(hw _ (List.mem_of_getElem? (i := 8) rfl)), (hw _ (List.mem_of_getElem? (i := 9) rfl))⟩)
  have hEL : EW s _ consts_1 := (EW.cons (hw _ (List.mem_of_getElem? (i := 137) rfl)) (by decide) EW.nil)
  have H0 : CHv s consts_1 s.vm s.heap := CHv.start hEL (show ∀ p ∈ consts_1, Jvm.Lit.constHeld s p.1 p.2 from hcalls.1) (hsets _ (List.mem_of_getElem? (i := 2) rfl)) (hw _ (List.mem_of_getElem? (i := 85) rfl)) (hw _ (List.mem_of_getElem? (i := 81) rfl))
  obtain ⟨n, o, h1, h2, h3, _, L, rfl, ⟨rfl, N, K⟩, hC, hq⟩ := own_law l s _ hw tables_1 hEL i0 i1 i2 i3 cpt w1' s.heap (Old.start s) S_cpt h_cpt S_ad S_hs S_ls S1 p e ha hc hk s m _ below hf ((Spec.applies_iff_loose hf).mp happ).1 ⟨rfl, State.Warmed39.refl s, rfl, H0⟩ trivial
  refine ⟨n, _, h1, h2, h3, hpost _ _ _ _ _ _ ⟨Cond.after_iff.mpr rfl, Cond.after_iff.mpr (eq_i res_at (Term.int_eval (1)) rfl), trivial⟩ ⟨hq.1, hq.2.1, hq.2.2.1, (hq.2.2.2.sift fun y hy => Or.inr (N y hy)).mono (by decide) (by decide)⟩⟩
theorem main_1_1 : Claimed_1_1 := own_comes fun _ _ _ _ _ _ h hF => ⟨h.1, hF⟩
theorem main_1_2 : Claimed_1_2 := own_comes fun _ _ _ _ _ _ h hF => ⟨h.2.1, hF⟩
end Jvm.Pilot.@@N@@
namespace Jvm.Pilot.@@N@@
open Jvm Jvm.ClassFile Sem Op Lib Jvm.Free Jvm.Stand Jvm.Pilot.@@N@@.Jvm.D
/-! MADE BY PROGRAM (witnessworld.py) out of the Statement's table words and the real class files: 23 classes; the members and pool entries that the words name. The judged class is class 1, her method 1. -/
namespace start1
open Jvm.ClassFile
def u (s : String) : CpInfo := .utf8 (stringToUtf16 s)
/-- a pool by its gaps: so many unusable entries, then the entry; so many at the end -/
def gap : Nat → List CpInfo → List CpInfo
  | 0, r => r
  | n + 1, r => .unusable :: gap n r
def poolList (es : List (Nat × CpInfo)) (last : Nat) : List CpInfo := es.foldr (fun e r => gap e.1 (e.2 :: r)) (gap last [])
def pool (es : List (Nat × CpInfo)) (last : Nat) : Array CpInfo := ⟨poolList es last⟩
def fileOf (pool : Array CpInfo) (this : Nat) (attrs : Array Attribute := #[]) (ms : Array MethodInfo := #[]) (fl : Nat := 33) (sup : Nat := 0) (ifs : Array Nat := #[]) (fds : Array FieldInfo := #[]) : ClassFile where
  minorVersion := 0
  majorVersion := 65
  constantPool := pool
  accessFlags := fl
  thisClass := this
  superClass := sup
  interfaces := ifs
  fields := fds
  methods := ms
  attributes := attrs
def plain (name : String) (sup : Option ClassId) : Class where
  name := name
  kind := .ordinary
  loader := none
  accessFlags := 33
  super := sup
  interfaces := #[]
  cf := none
  fields := #[]
  methods := #[]
  instanceTypes := #[]
  staticTypes := #[]
  resolved := #[]
  callSites := []
  init := .initialized
  statics := none
  mirror := none

def pool0 : Array CpInfo := pool [(5, u "<init>"), (0, u "()V"), (1, .class_ 10), (1, u "java/lang/Object")] 113

def k0c0 : Code := { maxStack := 0, maxLocals := 1, code := object_method_1_code, exceptionTable := #[], attributes := #[] }
def k0m0 : Method := { name := "<init>", desc := "()V", sig := { parameters := [], returnType := none }, accessFlags := 1, code := some k0c0 }
/-- java/lang/Object -/
def k0 : Class := { plain "java/lang/Object" none with
  accessFlags := 33
  interfaces := #[]
  cf := some (fileOf pool0 8 #[] #[{ accessFlags := 1, nameIndex := 5, descriptorIndex := 6, attributes := #[] }] 33 0 #[] #[])
  fields := #[]
  methods := #[k0m0]
  instanceTypes := #[]
  staticTypes := #[]
  resolved := Array.replicate 124 none
  statics := none }

def pool1 : Array CpInfo := pool [(2, .class_ 4), (1, u "java/lang/Object"), (0, u "<init>"), (0, u "()V"), (0, .integer 65535), (0, .class_ 9), (0, u "java/lang/String"), (0, .methodref 8 11), (0, .nameAndType 5 12), (0, u "([C)V"), (0, .methodref 8 14), (0, .nameAndType 15 16), (0, u "valueOf"), (0, u "(C)Ljava/lang/String;"), (0, .methodref 18 19), (0, .class_ 20), (0, .nameAndType 21 22), (0, u "com/example/helmstead/helmstead/StoreRequest"), (0, u "acquire"), (0, u "(Ljava/lang/String;J)Lcom/example/helmstead/helmstead/StoreRequest;"), (0, .methodref 18 24), (0, .nameAndType 25 26), (0, u "id"), (0, u "()Ljava/lang/String;"), (0, .methodref 8 28), (0, .nameAndType 29 30), (0, u "equals"), (0, u "(Ljava/lang/Object;)Z"), (0, .methodref 18 32), (0, .nameAndType 33 34), (0, u "kind"), (0, u "()Lcom/example/helmstead/helmstead/StoreRequest$Kind;"), (0, .fieldref 36 37), (0, .class_ 38), (0, .nameAndType 39 40), (0, u "com/example/helmstead/helmstead/StoreRequest$Kind"), (0, u "ACQUIRE"), (0, u "Lcom/example/helmstead/helmstead/StoreRequest$Kind;"), (0, .methodref 18 42), (0, .nameAndType 43 44), (0, u "leaseMs"), (0, u "()J"), (0, .methodref 18 46), (0, .nameAndType 47 26), (0, u "table"), (0, .methodref 18 49), (0, .nameAndType 50 26), (0, u "key"), (0, .methodref 18 52), (0, .nameAndType 53 26), (0, u "value"), (0, .methodref 18 55), (0, .nameAndType 56 57), (0, u "parts"), (0, u "()Ljava/util/List;"), (0, .class_ 59), (0, u "com/example/helmstead/helmstead/StoreRequestAcquirePinLaw"), (2, u "law"), (0, u "(IIIJ)Z")] 5

def k1m0 : Method := { name := "<init>", desc := "()V", sig := { parameters := [], returnType := none }, accessFlags := 1, code := none }
def k1c1 : Code := { maxStack := 6, maxLocals := 12, code := code, exceptionTable := #[], attributes := #[] }
def k1m1 : Method := { name := "law", desc := "(IIIJ)Z", sig := { parameters := [.int, .int, .int, .long], returnType := some .boolean }, accessFlags := 9, code := some k1c1 }
/-- com/example/helmstead/helmstead/StoreRequestAcquirePinLaw -/
def k1 : Class := { plain "com/example/helmstead/helmstead/StoreRequestAcquirePinLaw" (some 0) with
  accessFlags := 49
  interfaces := #[]
  cf := some (fileOf pool1 58 #[] #[{ accessFlags := 1, nameIndex := 5, descriptorIndex := 6, attributes := #[] }, { accessFlags := 9, nameIndex := 62, descriptorIndex := 63, attributes := #[] }] 49 2 #[] #[])
  fields := #[]
  methods := #[k1m0, k1m1]
  instanceTypes := #[]
  staticTypes := #[]
  resolved := Array.replicate 69 none
  statics := none }

def pool2 : Array CpInfo := pool [(1, .methodref 2 3), (0, .class_ 4), (0, .nameAndType 5 6), (0, u "java/lang/Object"), (0, u "<init>"), (0, u "()V"), (0, .class_ 8), (0, u "java/lang/Record")] 13

def k2c0 : Code := { maxStack := 1, maxLocals := 1, code := jdk_30_method_1_code, exceptionTable := #[], attributes := #[] }
def k2m0 : Method := { name := "<init>", desc := "()V", sig := { parameters := [], returnType := none }, accessFlags := 4, code := some k2c0 }
/-- java/lang/Record -/
def k2 : Class := { plain "java/lang/Record" (some 0) with
  accessFlags := 1057
  interfaces := #[]
  cf := some (fileOf pool2 7 #[] #[{ accessFlags := 4, nameIndex := 5, descriptorIndex := 6, attributes := #[] }] 1057 2 #[] #[])
  fields := #[]
  methods := #[k2m0]
  instanceTypes := #[]
  staticTypes := #[]
  resolved := Array.replicate 22 none
  statics := none }

def pool3 : Array CpInfo := pool [(3, .methodref 4 5), (0, .class_ 6), (0, .nameAndType 7 8), (0, u "java/lang/Record"), (0, u "<init>"), (0, u "()V"), (0, .fieldref 10 11), (0, .class_ 12), (0, .nameAndType 13 14), (0, u "com/example/helmstead/helmstead/StoreRequest"), (0, u "kind"), (0, u "Lcom/example/helmstead/helmstead/StoreRequest$Kind;"), (0, .fieldref 10 16), (0, .nameAndType 17 18), (0, u "id"), (0, u "Ljava/lang/String;"), (0, .fieldref 10 20), (0, .nameAndType 21 22), (0, u "leaseMs"), (0, u "J"), (0, .fieldref 10 24), (0, .nameAndType 25 18), (0, u "table"), (0, .fieldref 10 27), (0, .nameAndType 28 18), (0, u "key"), (0, .fieldref 10 30), (0, .nameAndType 31 18), (0, u "value"), (0, .fieldref 10 33), (0, .nameAndType 34 35), (0, u "parts"), (0, u "Ljava/util/List;"), (0, .fieldref 37 38), (0, .class_ 39), (0, .nameAndType 40 14), (0, u "com/example/helmstead/helmstead/StoreRequest$Kind"), (0, u "ACQUIRE"), (0, .methodref 10 42), (0, .nameAndType 7 43), (0, u "(Lcom/example/helmstead/helmstead/StoreRequest$Kind;Ljava/lang/String;JLjava/lang/String;Ljava/lang/String;Ljava/lang/String;Ljava/util/List;)V"), (57, u "()J"), (50, u "INFO"), (64, u "KINDS"), (13, u "()Ljava/lang/String;"), (5, u "acquire"), (0, u "(Ljava/lang/String;J)Lcom/example/helmstead/helmstead/StoreRequest;"), (2, u "STATUS"), (0, u "Lcom/example/helmstead/helmstead/StoreRequest;"), (63, u "MAX_LEASE_MS"), (1, u "MAX_KEY_BYTES"), (0, u "I"), (1, u "MAX_VALUE_BYTES"), (0, u "MAX_BATCH_REQUESTS"), (1, u "MAX_BATCH_BYTES"), (15, u "()Lcom/example/helmstead/helmstead/StoreRequest$Kind;"), (0, u "()Ljava/util/List;")] 69

def k3c0 : Code := { maxStack := 3, maxLocals := 9, code := prog_29_method_1_code, exceptionTable := #[], attributes := #[] }
def k3m0 : Method := { name := "<init>", desc := "(Lcom/example/helmstead/helmstead/StoreRequest$Kind;Ljava/lang/String;JLjava/lang/String;Ljava/lang/String;Ljava/lang/String;Ljava/util/List;)V", sig := { parameters := [(.object "com/example/helmstead/helmstead/StoreRequest$Kind"), (.object "java/lang/String"), .long, (.object "java/lang/String"), (.object "java/lang/String"), (.object "java/lang/String"), (.object "java/util/List")], returnType := none }, accessFlags := 0, code := some k3c0 }
def k3c1 : Code := { maxStack := 10, maxLocals := 3, code := prog_29_method_2_code, exceptionTable := #[], attributes := #[] }
def k3m1 : Method := { name := "acquire", desc := "(Ljava/lang/String;J)Lcom/example/helmstead/helmstead/StoreRequest;", sig := { parameters := [(.object "java/lang/String"), .long], returnType := some (.object "com/example/helmstead/helmstead/StoreRequest") }, accessFlags := 8, code := some k3c1 }
def k3c2 : Code := { maxStack := 1, maxLocals := 1, code := prog_29_method_27_code, exceptionTable := #[], attributes := #[] }
def k3m2 : Method := { name := "kind", desc := "()Lcom/example/helmstead/helmstead/StoreRequest$Kind;", sig := { parameters := [], returnType := some (.object "com/example/helmstead/helmstead/StoreRequest$Kind") }, accessFlags := 1, code := some k3c2 }
def k3c3 : Code := { maxStack := 1, maxLocals := 1, code := prog_29_method_28_code, exceptionTable := #[], attributes := #[] }
def k3m3 : Method := { name := "id", desc := "()Ljava/lang/String;", sig := { parameters := [], returnType := some (.object "java/lang/String") }, accessFlags := 1, code := some k3c3 }
def k3c4 : Code := { maxStack := 2, maxLocals := 1, code := prog_29_method_29_code, exceptionTable := #[], attributes := #[] }
def k3m4 : Method := { name := "leaseMs", desc := "()J", sig := { parameters := [], returnType := some .long }, accessFlags := 1, code := some k3c4 }
def k3c5 : Code := { maxStack := 1, maxLocals := 1, code := prog_29_method_30_code, exceptionTable := #[], attributes := #[] }
def k3m5 : Method := { name := "table", desc := "()Ljava/lang/String;", sig := { parameters := [], returnType := some (.object "java/lang/String") }, accessFlags := 1, code := some k3c5 }
def k3c6 : Code := { maxStack := 1, maxLocals := 1, code := prog_29_method_31_code, exceptionTable := #[], attributes := #[] }
def k3m6 : Method := { name := "key", desc := "()Ljava/lang/String;", sig := { parameters := [], returnType := some (.object "java/lang/String") }, accessFlags := 1, code := some k3c6 }
def k3c7 : Code := { maxStack := 1, maxLocals := 1, code := prog_29_method_32_code, exceptionTable := #[], attributes := #[] }
def k3m7 : Method := { name := "value", desc := "()Ljava/lang/String;", sig := { parameters := [], returnType := some (.object "java/lang/String") }, accessFlags := 1, code := some k3c7 }
def k3c8 : Code := { maxStack := 1, maxLocals := 1, code := prog_29_method_33_code, exceptionTable := #[], attributes := #[] }
def k3m8 : Method := { name := "parts", desc := "()Ljava/util/List;", sig := { parameters := [], returnType := some (.object "java/util/List") }, accessFlags := 1, code := some k3c8 }
/-- com/example/helmstead/helmstead/StoreRequest -/
def k3 : Class := { plain "com/example/helmstead/helmstead/StoreRequest" (some 2) with
  accessFlags := 48
  interfaces := #[]
  cf := some (fileOf pool3 10 #[.nestMembers #[37]] #[{ accessFlags := 0, nameIndex := 7, descriptorIndex := 43, attributes := #[] }, { accessFlags := 8, nameIndex := 237, descriptorIndex := 238, attributes := #[] }, { accessFlags := 1, nameIndex := 13, descriptorIndex := 330, attributes := #[] }, { accessFlags := 1, nameIndex := 17, descriptorIndex := 231, attributes := #[] }, { accessFlags := 1, nameIndex := 21, descriptorIndex := 101, attributes := #[] }, { accessFlags := 1, nameIndex := 25, descriptorIndex := 231, attributes := #[] }, { accessFlags := 1, nameIndex := 28, descriptorIndex := 231, attributes := #[] }, { accessFlags := 1, nameIndex := 31, descriptorIndex := 231, attributes := #[] }, { accessFlags := 1, nameIndex := 34, descriptorIndex := 331, attributes := #[] }] 48 4 #[] #[{ accessFlags := 18, nameIndex := 13, descriptorIndex := 14, attributes := #[] }, { accessFlags := 18, nameIndex := 17, descriptorIndex := 18, attributes := #[] }, { accessFlags := 18, nameIndex := 21, descriptorIndex := 22, attributes := #[] }, { accessFlags := 18, nameIndex := 25, descriptorIndex := 18, attributes := #[] }, { accessFlags := 18, nameIndex := 28, descriptorIndex := 18, attributes := #[] }, { accessFlags := 18, nameIndex := 31, descriptorIndex := 18, attributes := #[] }, { accessFlags := 18, nameIndex := 34, descriptorIndex := 35, attributes := #[] }, { accessFlags := 26, nameIndex := 217, descriptorIndex := 35, attributes := #[] }, { accessFlags := 24, nameIndex := 241, descriptorIndex := 242, attributes := #[] }, { accessFlags := 24, nameIndex := 152, descriptorIndex := 242, attributes := #[] }, { accessFlags := 24, nameIndex := 306, descriptorIndex := 22, attributes := #[] }, { accessFlags := 24, nameIndex := 308, descriptorIndex := 309, attributes := #[] }, { accessFlags := 24, nameIndex := 311, descriptorIndex := 309, attributes := #[] }, { accessFlags := 24, nameIndex := 312, descriptorIndex := 309, attributes := #[] }, { accessFlags := 24, nameIndex := 314, descriptorIndex := 309, attributes := #[] }])
  fields := #[{ name := "kind", type := (.object "com/example/helmstead/helmstead/StoreRequest$Kind"), accessFlags := 18, slot := 0, constantValue := 0 }, { name := "id", type := (.object "java/lang/String"), accessFlags := 18, slot := 1, constantValue := 0 }, { name := "leaseMs", type := .long, accessFlags := 18, slot := 2, constantValue := 0 }, { name := "table", type := (.object "java/lang/String"), accessFlags := 18, slot := 3, constantValue := 0 }, { name := "key", type := (.object "java/lang/String"), accessFlags := 18, slot := 4, constantValue := 0 }, { name := "value", type := (.object "java/lang/String"), accessFlags := 18, slot := 5, constantValue := 0 }, { name := "parts", type := (.object "java/util/List"), accessFlags := 18, slot := 6, constantValue := 0 }, { name := "KINDS", type := (.object "java/util/List"), accessFlags := 26, slot := 0, constantValue := 0 }, { name := "STATUS", type := (.object "com/example/helmstead/helmstead/StoreRequest"), accessFlags := 24, slot := 1, constantValue := 0 }, { name := "INFO", type := (.object "com/example/helmstead/helmstead/StoreRequest"), accessFlags := 24, slot := 2, constantValue := 0 }, { name := "MAX_LEASE_MS", type := .long, accessFlags := 24, slot := 3, constantValue := 0 }, { name := "MAX_KEY_BYTES", type := .int, accessFlags := 24, slot := 4, constantValue := 0 }, { name := "MAX_VALUE_BYTES", type := .int, accessFlags := 24, slot := 5, constantValue := 0 }, { name := "MAX_BATCH_REQUESTS", type := .int, accessFlags := 24, slot := 6, constantValue := 0 }, { name := "MAX_BATCH_BYTES", type := .int, accessFlags := 24, slot := 7, constantValue := 0 }]
  methods := #[k3m0, k3m1, k3m2, k3m3, k3m4, k3m5, k3m6, k3m7, k3m8]
  instanceTypes := #[(.object "com/example/helmstead/helmstead/StoreRequest$Kind"), (.object "java/lang/String"), .long, (.object "java/lang/String"), (.object "java/lang/String"), (.object "java/lang/String"), (.object "java/util/List")]
  staticTypes := #[(.object "java/util/List"), (.object "com/example/helmstead/helmstead/StoreRequest"), (.object "com/example/helmstead/helmstead/StoreRequest"), .long, .int, .int, .int, .int]
  resolved := Array.replicate 401 none
  statics := none }

def pool4 : Array CpInfo := pool [(1, .class_ 2), (0, u "java/lang/constant/Constable"), (0, .class_ 4), (0, u "java/lang/Object")] 6

/-- java/lang/constant/Constable -/
def k4 : Class := { plain "java/lang/constant/Constable" (some 0) with
  accessFlags := 1537
  interfaces := #[]
  cf := some (fileOf pool4 1 #[] #[] 1537 3 #[] #[])
  fields := #[]
  methods := #[]
  instanceTypes := #[]
  staticTypes := #[]
  resolved := Array.replicate 11 none
  statics := none }

def pool5 : Array CpInfo := pool [(1, .class_ 2), (0, u "java/lang/Comparable"), (0, .class_ 4), (0, u "java/lang/Object")] 7

/-- java/lang/Comparable -/
def k5 : Class := { plain "java/lang/Comparable" (some 0) with
  accessFlags := 1537
  interfaces := #[]
  cf := some (fileOf pool5 1 #[] #[] 1537 3 #[] #[])
  fields := #[]
  methods := #[]
  instanceTypes := #[]
  staticTypes := #[]
  resolved := Array.replicate 12 none
  statics := none }

def pool6 : Array CpInfo := pool [(1, .class_ 2), (0, u "java/io/Serializable"), (0, .class_ 4), (0, u "java/lang/Object")] 2

/-- java/io/Serializable -/
def k6 : Class := { plain "java/io/Serializable" (some 0) with
  accessFlags := 1537
  interfaces := #[]
  cf := some (fileOf pool6 1 #[] #[] 1537 3 #[] #[])
  fields := #[]
  methods := #[]
  instanceTypes := #[]
  staticTypes := #[]
  resolved := Array.replicate 7 none
  statics := none }

def pool7 : Array CpInfo := pool [(2, .class_ 4), (1, u "java/lang/Enum"), (0, u "name"), (0, u "Ljava/lang/String;"), (2, u "ordinal"), (0, u "I"), (1, .class_ 14), (1, u "java/lang/Object"), (4, u "hash"), (86, .class_ 108), (1, u "java/lang/Enum$EnumDesc"), (2, .class_ 112), (0, u "java/lang/constant/Constable"), (0, .class_ 114), (0, u "java/lang/Comparable"), (0, .class_ 116), (0, u "java/io/Serializable")] 87

/-- java/lang/Enum -/
def k7 : Class := { plain "java/lang/Enum" (some 0) with
  accessFlags := 1057
  interfaces := #[4, 5, 6]
  cf := some (fileOf pool7 2 #[.nestMembers #[106]] #[] 1057 12 #[111, 113, 115] #[{ accessFlags := 18, nameIndex := 5, descriptorIndex := 6, attributes := #[] }, { accessFlags := 18, nameIndex := 9, descriptorIndex := 10, attributes := #[] }, { accessFlags := 2, nameIndex := 19, descriptorIndex := 10, attributes := #[] }])
  fields := #[{ name := "name", type := (.object "java/lang/String"), accessFlags := 18, slot := 0, constantValue := 0 }, { name := "ordinal", type := .int, accessFlags := 18, slot := 1, constantValue := 0 }, { name := "hash", type := .int, accessFlags := 2, slot := 2, constantValue := 0 }]
  methods := #[]
  instanceTypes := #[(.object "java/lang/String"), .int, .int]
  staticTypes := #[]
  resolved := Array.replicate 204 none
  statics := none }

def pool8 : Array CpInfo := pool [(1, .class_ 2), (0, u "com/example/helmstead/helmstead/StoreRequest$Kind"), (2, u "ACQUIRE"), (0, u "Lcom/example/helmstead/helmstead/StoreRequest$Kind;"), (2, u "STATUS"), (2, u "INFO"), (2, u "PUT"), (2, u "GET"), (2, u "REMOVE"), (2, u "LIST"), (2, u "INCREMENT"), (2, u "BATCH"), (2, u "$VALUES"), (0, u "[Lcom/example/helmstead/helmstead/StoreRequest$Kind;"), (6, .class_ 43), (1, u "java/lang/Enum"), (32, .class_ 77), (0, u "com/example/helmstead/helmstead/StoreRequest")] 2

/-- com/example/helmstead/helmstead/StoreRequest$Kind -/
def k8 : Class := { plain "com/example/helmstead/helmstead/StoreRequest$Kind" (some 7) with
  accessFlags := 16432
  interfaces := #[]
  cf := some (fileOf pool8 1 #[.nestHost 76] #[] 16432 41 #[] #[{ accessFlags := 16409, nameIndex := 5, descriptorIndex := 6, attributes := #[] }, { accessFlags := 16409, nameIndex := 9, descriptorIndex := 6, attributes := #[] }, { accessFlags := 16409, nameIndex := 12, descriptorIndex := 6, attributes := #[] }, { accessFlags := 16409, nameIndex := 15, descriptorIndex := 6, attributes := #[] }, { accessFlags := 16409, nameIndex := 18, descriptorIndex := 6, attributes := #[] }, { accessFlags := 16409, nameIndex := 21, descriptorIndex := 6, attributes := #[] }, { accessFlags := 16409, nameIndex := 24, descriptorIndex := 6, attributes := #[] }, { accessFlags := 16409, nameIndex := 27, descriptorIndex := 6, attributes := #[] }, { accessFlags := 16409, nameIndex := 30, descriptorIndex := 6, attributes := #[] }, { accessFlags := 4122, nameIndex := 33, descriptorIndex := 34, attributes := #[] }])
  fields := #[{ name := "ACQUIRE", type := (.object "com/example/helmstead/helmstead/StoreRequest$Kind"), accessFlags := 16409, slot := 0, constantValue := 0 }, { name := "STATUS", type := (.object "com/example/helmstead/helmstead/StoreRequest$Kind"), accessFlags := 16409, slot := 1, constantValue := 0 }, { name := "INFO", type := (.object "com/example/helmstead/helmstead/StoreRequest$Kind"), accessFlags := 16409, slot := 2, constantValue := 0 }, { name := "PUT", type := (.object "com/example/helmstead/helmstead/StoreRequest$Kind"), accessFlags := 16409, slot := 3, constantValue := 0 }, { name := "GET", type := (.object "com/example/helmstead/helmstead/StoreRequest$Kind"), accessFlags := 16409, slot := 4, constantValue := 0 }, { name := "REMOVE", type := (.object "com/example/helmstead/helmstead/StoreRequest$Kind"), accessFlags := 16409, slot := 5, constantValue := 0 }, { name := "LIST", type := (.object "com/example/helmstead/helmstead/StoreRequest$Kind"), accessFlags := 16409, slot := 6, constantValue := 0 }, { name := "INCREMENT", type := (.object "com/example/helmstead/helmstead/StoreRequest$Kind"), accessFlags := 16409, slot := 7, constantValue := 0 }, { name := "BATCH", type := (.object "com/example/helmstead/helmstead/StoreRequest$Kind"), accessFlags := 16409, slot := 8, constantValue := 0 }, { name := "$VALUES", type := (.array (.object "com/example/helmstead/helmstead/StoreRequest$Kind")), accessFlags := 4122, slot := 9, constantValue := 0 }]
  methods := #[]
  instanceTypes := #[(.object "java/lang/String"), .int, .int]
  staticTypes := #[(.object "com/example/helmstead/helmstead/StoreRequest$Kind"), (.object "com/example/helmstead/helmstead/StoreRequest$Kind"), (.object "com/example/helmstead/helmstead/StoreRequest$Kind"), (.object "com/example/helmstead/helmstead/StoreRequest$Kind"), (.object "com/example/helmstead/helmstead/StoreRequest$Kind"), (.object "com/example/helmstead/helmstead/StoreRequest$Kind"), (.object "com/example/helmstead/helmstead/StoreRequest$Kind"), (.object "com/example/helmstead/helmstead/StoreRequest$Kind"), (.object "com/example/helmstead/helmstead/StoreRequest$Kind"), (.array (.object "com/example/helmstead/helmstead/StoreRequest$Kind"))]
  resolved := Array.replicate 80 none
  statics := some 0 }

def pool9 : Array CpInfo := pool [(2, .class_ 4), (1, u "java/lang/CharSequence"), (42, .class_ 48), (0, u "java/lang/CharSequence$1CodePointIterator"), (10, .class_ 60), (0, u "java/lang/CharSequence$1CharIterator"), (5, .class_ 67), (0, u "java/lang/Object")] 63

/-- java/lang/CharSequence -/
def k9 : Class := { plain "java/lang/CharSequence" (some 0) with
  accessFlags := 1537
  interfaces := #[]
  cf := some (fileOf pool9 2 #[.nestMembers #[47, 59]] #[] 1537 66 #[] #[])
  fields := #[]
  methods := #[]
  instanceTypes := #[]
  staticTypes := #[]
  resolved := Array.replicate 131 none
  statics := none }

def pool10 : Array CpInfo := pool [(1, .class_ 2), (0, u "java/lang/constant/ConstantDesc"), (0, .class_ 4), (0, u "java/lang/Object")] 32

/-- java/lang/constant/ConstantDesc -/
def k10 : Class := { plain "java/lang/constant/ConstantDesc" (some 0) with
  accessFlags := 1537
  interfaces := #[]
  cf := some (fileOf pool10 1 #[] #[] 1537 3 #[] #[])
  fields := #[]
  methods := #[]
  instanceTypes := #[]
  staticTypes := #[]
  resolved := Array.replicate 37 none
  statics := none }

def pool11 : Array CpInfo := pool [(1, .methodref 2 3), (0, .class_ 4), (0, .nameAndType 5 6), (0, u "java/lang/Object"), (0, u "<init>"), (0, u "()V"), (0, .string 8), (0, u ""), (0, .fieldref 10 11), (0, .class_ 12), (0, .nameAndType 13 14), (0, u "java/lang/String"), (0, u "value"), (0, u "[B"), (0, .fieldref 10 16), (0, .nameAndType 17 18), (0, u "coder"), (0, u "B"), (2, u "hash"), (0, u "I"), (2, u "hashIsZero"), (0, u "Z"), (0, .methodref 10 28), (0, .nameAndType 5 29), (0, u "([CIILjava/lang/Void;)V"), (8, .fieldref 10 39), (0, .nameAndType 40 26), (0, u "COMPACT_STRINGS"), (1, .class_ 44), (1, u "java/lang/StringUTF16"), (0, u "compress"), (1, .methodref 42 48), (0, .nameAndType 49 50), (0, u "coderFromArrayLen"), (0, u "([BI)B"), (2, u "toBytes"), (53, .class_ 109), (1, u "java/lang/StringLatin1"), (67, .methodref 42 178), (0, .nameAndType 45 179), (0, u "([CII)[B"), (29, .methodref 10 210), (0, .nameAndType 5 211), (0, u "([BB)V"), (157, u "(C)Z"), (173, u "equals"), (29, u "(Ljava/lang/Object;)Z"), (1, .class_ 576), (0, u "java/lang/CharSequence"), (22, u "CASE_INSENSITIVE_ORDER"), (0, u "Ljava/util/Comparator;"), (181, u "valueOf"), (0, u "(C)Ljava/lang/String;"), (226, u "([C)V"), (4, .methodref 107 1016), (0, .nameAndType 1017 369), (0, u "canEncode"), (0, .methodref 107 1019), (0, .nameAndType 53 1020), (0, u "(C)[B"), (0, .methodref 42 1019), (79, u "serialPersistentFields"), (0, u "[Ljava/io/ObjectStreamField;"), (0, .class_ 1104), (0, u "java/lang/String$CaseInsensitiveComparator"), (1, .class_ 1107), (0, u "java/io/Serializable"), (0, .class_ 1109), (0, u "java/lang/Comparable"), (0, .class_ 1111), (0, u "java/lang/constant/Constable"), (0, .class_ 1113), (0, u "java/lang/constant/ConstantDesc"), (2, u "serialVersionUID"), (0, u "J"), (3, u "REPL"), (0, u "C"), (2, u "LATIN1"), (1, u "UTF16")] 323

def k11m0 : Method := { name := "<init>", desc := "()V", sig := { parameters := [], returnType := none }, accessFlags := 1, code := none }
def k11c1 : Code := { maxStack := 5, maxLocals := 2, code := jdk_42_method_3_code, exceptionTable := #[], attributes := #[] }
def k11m1 : Method := { name := "<init>", desc := "([C)V", sig := { parameters := [(.array .char)], returnType := none }, accessFlags := 1, code := some k11c1 }
def k11c2 : Code := { maxStack := 2, maxLocals := 3, code := jdk_42_method_66_code, exceptionTable := #[], attributes := #[] }
def k11m2 : Method := { name := "equals", desc := "(Ljava/lang/Object;)Z", sig := { parameters := [(.object "java/lang/Object")], returnType := some .boolean }, accessFlags := 1, code := some k11c2 }
def k11c3 : Code := { maxStack := 4, maxLocals := 1, code := jdk_42_method_139_code, exceptionTable := #[], attributes := #[] }
def k11m3 : Method := { name := "valueOf", desc := "(C)Ljava/lang/String;", sig := { parameters := [.char], returnType := some (.object "java/lang/String") }, accessFlags := 9, code := some k11c3 }
def k11c4 : Code := { maxStack := 4, maxLocals := 6, code := jdk_42_method_149_code, exceptionTable := #[], attributes := #[] }
def k11m4 : Method := { name := "<init>", desc := "([CIILjava/lang/Void;)V", sig := { parameters := [(.array .char), .int, .int, (.object "java/lang/Void")], returnType := none }, accessFlags := 2, code := some k11c4 }
def k11c5 : Code := { maxStack := 2, maxLocals := 3, code := jdk_42_method_151_code, exceptionTable := #[], attributes := #[] }
def k11m5 : Method := { name := "<init>", desc := "([BB)V", sig := { parameters := [(.array .byte), .byte], returnType := none }, accessFlags := 0, code := some k11c5 }
/-- java/lang/String -/
def k11 : Class := { plain "java/lang/String" (some 0) with
  accessFlags := 49
  interfaces := #[6, 5, 9, 4, 10]
  cf := some (fileOf pool11 10 #[.nestMembers #[1103]] #[{ accessFlags := 1, nameIndex := 5, descriptorIndex := 6, attributes := #[] }, { accessFlags := 1, nameIndex := 5, descriptorIndex := 1010, attributes := #[] }, { accessFlags := 1, nameIndex := 543, descriptorIndex := 573, attributes := #[] }, { accessFlags := 9, nameIndex := 782, descriptorIndex := 783, attributes := #[] }, { accessFlags := 2, nameIndex := 5, descriptorIndex := 29, attributes := #[] }, { accessFlags := 0, nameIndex := 5, descriptorIndex := 211, attributes := #[] }] 49 2 #[1106, 1108, 575, 1110, 1112] #[{ accessFlags := 18, nameIndex := 13, descriptorIndex := 14, attributes := #[] }, { accessFlags := 18, nameIndex := 17, descriptorIndex := 18, attributes := #[] }, { accessFlags := 2, nameIndex := 21, descriptorIndex := 22, attributes := #[] }, { accessFlags := 2, nameIndex := 25, descriptorIndex := 26, attributes := #[] }, { accessFlags := 26, nameIndex := 1116, descriptorIndex := 1117, attributes := #[] }, { accessFlags := 24, nameIndex := 40, descriptorIndex := 26, attributes := #[] }, { accessFlags := 26, nameIndex := 1101, descriptorIndex := 1102, attributes := #[] }, { accessFlags := 26, nameIndex := 1121, descriptorIndex := 1122, attributes := #[] }, { accessFlags := 25, nameIndex := 599, descriptorIndex := 600, attributes := #[] }, { accessFlags := 24, nameIndex := 1125, descriptorIndex := 18, attributes := #[] }, { accessFlags := 24, nameIndex := 1127, descriptorIndex := 18, attributes := #[] }])
  fields := #[{ name := "value", type := (.array .byte), accessFlags := 18, slot := 0, constantValue := 0 }, { name := "coder", type := .byte, accessFlags := 18, slot := 1, constantValue := 0 }, { name := "hash", type := .int, accessFlags := 2, slot := 2, constantValue := 0 }, { name := "hashIsZero", type := .boolean, accessFlags := 2, slot := 3, constantValue := 0 }, { name := "serialVersionUID", type := .long, accessFlags := 26, slot := 0, constantValue := 0 }, { name := "COMPACT_STRINGS", type := .boolean, accessFlags := 24, slot := 1, constantValue := 0 }, { name := "serialPersistentFields", type := (.array (.object "java/io/ObjectStreamField")), accessFlags := 26, slot := 2, constantValue := 0 }, { name := "REPL", type := .char, accessFlags := 26, slot := 3, constantValue := 0 }, { name := "CASE_INSENSITIVE_ORDER", type := (.object "java/util/Comparator"), accessFlags := 25, slot := 4, constantValue := 0 }, { name := "LATIN1", type := .byte, accessFlags := 24, slot := 5, constantValue := 0 }, { name := "UTF16", type := .byte, accessFlags := 24, slot := 6, constantValue := 0 }]
  methods := #[k11m0, k11m1, k11m2, k11m3, k11m4, k11m5]
  instanceTypes := #[(.array .byte), .byte, .int, .boolean]
  staticTypes := #[.long, .boolean, (.array (.object "java/io/ObjectStreamField")), .char, (.object "java/util/Comparator"), .byte, .byte]
  resolved := Array.replicate 1451 none
  statics := some 1 }

def pool12 : Array CpInfo := pool [(4, .class_ 6), (1, u "java/lang/Object"), (0, u "<init>"), (0, u "()V"), (5, .class_ 16), (1, u "java/lang/StringLatin1"), (73, u "canEncode"), (14, u "(C)Z"), (15, u "$assertionsDisabled"), (0, u "Z"), (98, .class_ 223), (1, u "java/lang/StringLatin1$LinesSpliterator"), (156, u "toBytes"), (1, u "(C)[B"), (7, .class_ 391), (0, u "java/lang/StringLatin1$CharsSpliterator")] 3

def k12m0 : Method := { name := "<init>", desc := "()V", sig := { parameters := [], returnType := none }, accessFlags := 0, code := none }
def k12c1 : Code := { maxStack := 2, maxLocals := 1, code := jdk_43_method_3_code, exceptionTable := #[], attributes := #[] }
def k12m1 : Method := { name := "canEncode", desc := "(C)Z", sig := { parameters := [.char], returnType := some .boolean }, accessFlags := 9, code := some k12c1 }
def k12c2 : Code := { maxStack := 4, maxLocals := 1, code := jdk_43_method_46_code, exceptionTable := #[], attributes := #[] }
def k12m2 : Method := { name := "toBytes", desc := "(C)[B", sig := { parameters := [.char], returnType := some (.array .byte) }, accessFlags := 9, code := some k12c2 }
/-- java/lang/StringLatin1 -/
def k12 : Class := { plain "java/lang/StringLatin1" (some 0) with
  accessFlags := 48
  interfaces := #[]
  cf := some (fileOf pool12 14 #[.nestMembers #[390, 221]] #[{ accessFlags := 0, nameIndex := 7, descriptorIndex := 8, attributes := #[] }, { accessFlags := 9, nameIndex := 90, descriptorIndex := 105, attributes := #[] }, { accessFlags := 9, nameIndex := 380, descriptorIndex := 382, attributes := #[] }] 48 4 #[] #[{ accessFlags := 4120, nameIndex := 121, descriptorIndex := 122, attributes := #[] }])
  fields := #[{ name := "$assertionsDisabled", type := .boolean, accessFlags := 4120, slot := 0, constantValue := 0 }]
  methods := #[k12m0, k12m1, k12m2]
  instanceTypes := #[]
  staticTypes := #[.boolean]
  resolved := Array.replicate 395 none
  statics := none }

def pool13 : Array CpInfo := pool [(6, .class_ 8), (1, u "java/lang/Object"), (0, u "<init>"), (0, u "()V"), (0, .methodref 12 13), (0, .class_ 14), (0, .nameAndType 15 16), (0, u "java/lang/StringUTF16"), (0, u "newBytesLength"), (0, u "(I)I"), (3, .integer 1073741823), (23, .fieldref 12 45), (0, .nameAndType 46 47), (0, u "$assertionsDisabled"), (0, u "Z"), (11, .fieldref 12 60), (0, .nameAndType 61 62), (0, u "HI_BYTE_SHIFT"), (0, u "I"), (0, .fieldref 12 64), (0, .nameAndType 65 62), (0, u "LO_BYTE_SHIFT"), (5, .methodref 12 72), (0, .nameAndType 73 74), (0, u "getChar"), (0, u "([BI)C"), (32, .methodref 12 108), (0, .nameAndType 109 110), (0, u "newBytesFor"), (0, u "(I)[B"), (0, .methodref 12 112), (0, .nameAndType 113 114), (0, u "putChar"), (0, u "([BII)V"), (0, .methodref 12 116), (0, .nameAndType 117 118), (0, u "compress"), (0, u "([CI[BII)I"), (0, .methodref 12 120), (0, .nameAndType 121 122), (0, u "toBytes"), (0, u "([CII)[B"), (138, u "coderFromArrayLen"), (0, u "([BI)B"), (106, .class_ 371), (1, u "java/lang/StringUTF16$LinesSpliterator"), (58, u "MAX_LENGTH"), (44, u "(C)[B"), (151, .class_ 628), (0, u "java/lang/StringUTF16$CodePointsSpliterator"), (0, .class_ 630), (0, u "java/lang/StringUTF16$CharsSpliterator")] 4

def k13m0 : Method := { name := "<init>", desc := "()V", sig := { parameters := [], returnType := none }, accessFlags := 0, code := none }
def k13c1 : Code := { maxStack := 1, maxLocals := 1, code := jdk_52_method_2_code, exceptionTable := #[], attributes := #[] }
def k13m1 : Method := { name := "newBytesFor", desc := "(I)[B", sig := { parameters := [.int], returnType := some (.array .byte) }, accessFlags := 9, code := some k13c1 }
def k13c2 : Code := { maxStack := 4, maxLocals := 1, code := jdk_52_method_3_code, exceptionTable := #[], attributes := #[] }
def k13m2 : Method := { name := "newBytesLength", desc := "(I)I", sig := { parameters := [.int], returnType := some .int }, accessFlags := 9, code := some k13c2 }
def k13c3 : Code := { maxStack := 4, maxLocals := 3, code := jdk_52_method_4_code, exceptionTable := #[], attributes := #[] }
def k13m3 : Method := { name := "putChar", desc := "([BII)V", sig := { parameters := [(.array .byte), .int, .int], returnType := none }, accessFlags := 8, code := some k13c3 }
def k13c4 : Code := { maxStack := 3, maxLocals := 2, code := jdk_52_method_5_code, exceptionTable := #[], attributes := #[] }
def k13m4 : Method := { name := "getChar", desc := "([BI)C", sig := { parameters := [(.array .byte), .int], returnType := some .char }, accessFlags := 8, code := some k13c4 }
def k13c5 : Code := { maxStack := 4, maxLocals := 5, code := jdk_52_method_14_code, exceptionTable := #[], attributes := #[] }
def k13m5 : Method := { name := "toBytes", desc := "([CII)[B", sig := { parameters := [(.array .char), .int, .int], returnType := some (.array .byte) }, accessFlags := 9, code := some k13c5 }
def k13c6 : Code := { maxStack := 2, maxLocals := 2, code := jdk_52_method_15_code, exceptionTable := #[], attributes := #[] }
def k13m6 : Method := { name := "coderFromArrayLen", desc := "([BI)B", sig := { parameters := [(.array .byte), .int], returnType := some .byte }, accessFlags := 8, code := some k13c6 }
def k13c7 : Code := { maxStack := 5, maxLocals := 6, code := jdk_52_method_16_code, exceptionTable := #[], attributes := #[] }
def k13m7 : Method := { name := "compress", desc := "([CII)[B", sig := { parameters := [(.array .char), .int, .int], returnType := some (.array .byte) }, accessFlags := 9, code := some k13c7 }
def k13c8 : Code := { maxStack := 3, maxLocals := 7, code := jdk_52_method_21_code, exceptionTable := #[], attributes := #[] }
def k13m8 : Method := { name := "compress", desc := "([CI[BII)I", sig := { parameters := [(.array .char), .int, (.array .byte), .int, .int], returnType := some .int }, accessFlags := 9, code := some k13c8 }
def k13c9 : Code := { maxStack := 3, maxLocals := 2, code := jdk_52_method_24_code, exceptionTable := #[], attributes := #[] }
def k13m9 : Method := { name := "toBytes", desc := "(C)[B", sig := { parameters := [.char], returnType := some (.array .byte) }, accessFlags := 9, code := some k13c9 }
/-- java/lang/StringUTF16 -/
def k13 : Class := { plain "java/lang/StringUTF16" (some 0) with
  accessFlags := 48
  interfaces := #[]
  cf := some (fileOf pool13 12 #[.nestMembers #[627, 629, 369]] #[{ accessFlags := 0, nameIndex := 9, descriptorIndex := 10, attributes := #[] }, { accessFlags := 9, nameIndex := 109, descriptorIndex := 110, attributes := #[] }, { accessFlags := 9, nameIndex := 15, descriptorIndex := 16, attributes := #[] }, { accessFlags := 8, nameIndex := 113, descriptorIndex := 114, attributes := #[] }, { accessFlags := 8, nameIndex := 73, descriptorIndex := 74, attributes := #[] }, { accessFlags := 9, nameIndex := 121, descriptorIndex := 122, attributes := #[] }, { accessFlags := 8, nameIndex := 261, descriptorIndex := 262, attributes := #[] }, { accessFlags := 9, nameIndex := 117, descriptorIndex := 122, attributes := #[] }, { accessFlags := 9, nameIndex := 117, descriptorIndex := 118, attributes := #[] }, { accessFlags := 9, nameIndex := 121, descriptorIndex := 475, attributes := #[] }] 48 6 #[] #[{ accessFlags := 26, nameIndex := 61, descriptorIndex := 62, attributes := #[] }, { accessFlags := 26, nameIndex := 65, descriptorIndex := 62, attributes := #[] }, { accessFlags := 24, nameIndex := 430, descriptorIndex := 62, attributes := #[] }, { accessFlags := 4120, nameIndex := 46, descriptorIndex := 47, attributes := #[] }])
  fields := #[{ name := "HI_BYTE_SHIFT", type := .int, accessFlags := 26, slot := 0, constantValue := 0 }, { name := "LO_BYTE_SHIFT", type := .int, accessFlags := 26, slot := 1, constantValue := 0 }, { name := "MAX_LENGTH", type := .int, accessFlags := 24, slot := 2, constantValue := 0 }, { name := "$assertionsDisabled", type := .boolean, accessFlags := 4120, slot := 3, constantValue := 0 }]
  methods := #[k13m0, k13m1, k13m2, k13m3, k13m4, k13m5, k13m6, k13m7, k13m8, k13m9]
  instanceTypes := #[]
  staticTypes := #[.int, .int, .int, .boolean]
  resolved := Array.replicate 635 none
  statics := some 2 }

def pool14 : Array CpInfo := pool [(2, .class_ 4), (1, u "java/lang/Object"), (0, u "<init>"), (0, u "()V"), (17, .class_ 26), (1, u "jdk/internal/util/Preconditions"), (28, .class_ 56), (0, u "jdk/internal/util/Preconditions$4"), (57, .class_ 115), (0, u "jdk/internal/util/Preconditions$1"), (7, u "SIOOBE_FORMATTER"), (0, u "Ljava/util/function/BiFunction;"), (0, .class_ 126), (0, u "jdk/internal/util/Preconditions$2"), (3, u "AIOOBE_FORMATTER"), (0, .class_ 132), (0, u "jdk/internal/util/Preconditions$3"), (3, u "IOOBE_FORMATTER")] 57

def k14m0 : Method := { name := "<init>", desc := "()V", sig := { parameters := [], returnType := none }, accessFlags := 1, code := none }
/-- jdk/internal/util/Preconditions -/
def k14 : Class := { plain "jdk/internal/util/Preconditions" (some 0) with
  accessFlags := 33
  interfaces := #[]
  cf := some (fileOf pool14 24 #[.nestMembers #[55, 131, 125, 114]] #[{ accessFlags := 1, nameIndex := 5, descriptorIndex := 6, attributes := #[] }] 33 2 #[] #[{ accessFlags := 25, nameIndex := 123, descriptorIndex := 124, attributes := #[] }, { accessFlags := 25, nameIndex := 130, descriptorIndex := 124, attributes := #[] }, { accessFlags := 25, nameIndex := 136, descriptorIndex := 124, attributes := #[] }])
  fields := #[{ name := "SIOOBE_FORMATTER", type := (.object "java/util/function/BiFunction"), accessFlags := 25, slot := 0, constantValue := 0 }, { name := "AIOOBE_FORMATTER", type := (.object "java/util/function/BiFunction"), accessFlags := 25, slot := 1, constantValue := 0 }, { name := "IOOBE_FORMATTER", type := (.object "java/util/function/BiFunction"), accessFlags := 25, slot := 2, constantValue := 0 }]
  methods := #[k14m0]
  instanceTypes := #[]
  staticTypes := #[(.object "java/util/function/BiFunction"), (.object "java/util/function/BiFunction"), (.object "java/util/function/BiFunction")]
  resolved := Array.replicate 194 none
  statics := some 3 }

def pool15 : Array CpInfo := pool [(9, u "<init>"), (6, .class_ 18), (1, u "java/lang/Object"), (0, u "()V"), (1, .class_ 23), (1, u "jdk/internal/util/ArraysSupport"), (0, u "LOG2_ARRAY_LONG_INDEX_SCALE"), (0, u "I"), (2, u "U"), (0, u "Ljdk/internal/misc/Unsafe;"), (8, u "BIG_ENDIAN"), (0, u "Z"), (8, u "LOG2_BYTE_BIT_SIZE"), (4, u "LOG2_ARRAY_INT_INDEX_SCALE"), (54, u "JLA"), (0, u "Ljdk/internal/access/JavaLangAccess;"), (11, u "LOG2_ARRAY_BOOLEAN_INDEX_SCALE"), (9, u "LOG2_ARRAY_BYTE_INDEX_SCALE"), (5, u "LOG2_ARRAY_CHAR_INDEX_SCALE"), (5, u "LOG2_ARRAY_SHORT_INDEX_SCALE"), (18, u "LOG2_ARRAY_FLOAT_INDEX_SCALE"), (24, u "LOG2_ARRAY_DOUBLE_INDEX_SCALE"), (89, u "T_BOOLEAN"), (2, u "T_CHAR"), (1, u "T_FLOAT"), (1, u "T_DOUBLE"), (1, u "T_BYTE"), (1, u "T_SHORT"), (1, u "T_INT"), (1, u "T_LONG"), (1, u "SOFT_MAX_ARRAY_LENGTH")] 83

def k15m0 : Method := { name := "<init>", desc := "()V", sig := { parameters := [], returnType := none }, accessFlags := 2, code := none }
/-- jdk/internal/util/ArraysSupport -/
def k15 : Class := { plain "jdk/internal/util/ArraysSupport" (some 0) with
  accessFlags := 33
  interfaces := #[]
  cf := some (fileOf pool15 21 #[] #[{ accessFlags := 2, nameIndex := 9, descriptorIndex := 19, attributes := #[] }] 33 16 #[] #[{ accessFlags := 24, nameIndex := 28, descriptorIndex := 29, attributes := #[] }, { accessFlags := 26, nameIndex := 38, descriptorIndex := 39, attributes := #[] }, { accessFlags := 25, nameIndex := 121, descriptorIndex := 25, attributes := #[] }, { accessFlags := 25, nameIndex := 131, descriptorIndex := 25, attributes := #[] }, { accessFlags := 25, nameIndex := 137, descriptorIndex := 25, attributes := #[] }, { accessFlags := 25, nameIndex := 143, descriptorIndex := 25, attributes := #[] }, { accessFlags := 25, nameIndex := 53, descriptorIndex := 25, attributes := #[] }, { accessFlags := 25, nameIndex := 24, descriptorIndex := 25, attributes := #[] }, { accessFlags := 25, nameIndex := 162, descriptorIndex := 25, attributes := #[] }, { accessFlags := 25, nameIndex := 187, descriptorIndex := 25, attributes := #[] }, { accessFlags := 26, nameIndex := 48, descriptorIndex := 25, attributes := #[] }, { accessFlags := 25, nameIndex := 277, descriptorIndex := 25, attributes := #[] }, { accessFlags := 25, nameIndex := 280, descriptorIndex := 25, attributes := #[] }, { accessFlags := 25, nameIndex := 282, descriptorIndex := 25, attributes := #[] }, { accessFlags := 25, nameIndex := 284, descriptorIndex := 25, attributes := #[] }, { accessFlags := 25, nameIndex := 286, descriptorIndex := 25, attributes := #[] }, { accessFlags := 25, nameIndex := 288, descriptorIndex := 25, attributes := #[] }, { accessFlags := 25, nameIndex := 290, descriptorIndex := 25, attributes := #[] }, { accessFlags := 25, nameIndex := 292, descriptorIndex := 25, attributes := #[] }, { accessFlags := 26, nameIndex := 108, descriptorIndex := 109, attributes := #[] }, { accessFlags := 25, nameIndex := 294, descriptorIndex := 25, attributes := #[] }])
  fields := #[{ name := "U", type := (.object "jdk/internal/misc/Unsafe"), accessFlags := 24, slot := 0, constantValue := 0 }, { name := "BIG_ENDIAN", type := .boolean, accessFlags := 26, slot := 1, constantValue := 0 }, { name := "LOG2_ARRAY_BOOLEAN_INDEX_SCALE", type := .int, accessFlags := 25, slot := 2, constantValue := 0 }, { name := "LOG2_ARRAY_BYTE_INDEX_SCALE", type := .int, accessFlags := 25, slot := 3, constantValue := 0 }, { name := "LOG2_ARRAY_CHAR_INDEX_SCALE", type := .int, accessFlags := 25, slot := 4, constantValue := 0 }, { name := "LOG2_ARRAY_SHORT_INDEX_SCALE", type := .int, accessFlags := 25, slot := 5, constantValue := 0 }, { name := "LOG2_ARRAY_INT_INDEX_SCALE", type := .int, accessFlags := 25, slot := 6, constantValue := 0 }, { name := "LOG2_ARRAY_LONG_INDEX_SCALE", type := .int, accessFlags := 25, slot := 7, constantValue := 0 }, { name := "LOG2_ARRAY_FLOAT_INDEX_SCALE", type := .int, accessFlags := 25, slot := 8, constantValue := 0 }, { name := "LOG2_ARRAY_DOUBLE_INDEX_SCALE", type := .int, accessFlags := 25, slot := 9, constantValue := 0 }, { name := "LOG2_BYTE_BIT_SIZE", type := .int, accessFlags := 26, slot := 10, constantValue := 0 }, { name := "T_BOOLEAN", type := .int, accessFlags := 25, slot := 11, constantValue := 0 }, { name := "T_CHAR", type := .int, accessFlags := 25, slot := 12, constantValue := 0 }, { name := "T_FLOAT", type := .int, accessFlags := 25, slot := 13, constantValue := 0 }, { name := "T_DOUBLE", type := .int, accessFlags := 25, slot := 14, constantValue := 0 }, { name := "T_BYTE", type := .int, accessFlags := 25, slot := 15, constantValue := 0 }, { name := "T_SHORT", type := .int, accessFlags := 25, slot := 16, constantValue := 0 }, { name := "T_INT", type := .int, accessFlags := 25, slot := 17, constantValue := 0 }, { name := "T_LONG", type := .int, accessFlags := 25, slot := 18, constantValue := 0 }, { name := "JLA", type := (.object "jdk/internal/access/JavaLangAccess"), accessFlags := 26, slot := 19, constantValue := 0 }, { name := "SOFT_MAX_ARRAY_LENGTH", type := .int, accessFlags := 25, slot := 20, constantValue := 0 }]
  methods := #[k15m0]
  instanceTypes := #[]
  staticTypes := #[(.object "jdk/internal/misc/Unsafe"), .boolean, .int, .int, .int, .int, .int, .int, .int, .int, .int, .int, .int, .int, .int, .int, .int, .int, .int, (.object "jdk/internal/access/JavaLangAccess"), .int]
  resolved := Array.replicate 378 none
  statics := none }

def pool16 : Array CpInfo := pool [(1, u "java/lang/Cloneable"), (0, .class_ 1), (0, u "java/lang/Object"), (0, .class_ 3)] 3

/-- java/lang/Cloneable -/
def k16 : Class := { plain "java/lang/Cloneable" (some 0) with
  accessFlags := 1537
  interfaces := #[]
  cf := some (fileOf pool16 2 #[] #[] 1537 4 #[] #[])
  fields := #[]
  methods := #[]
  instanceTypes := #[]
  staticTypes := #[]
  resolved := Array.replicate 8 none
  statics := none }

/-- the primitive byte -/
def k17 : Class := { plain "byte" none with kind := .primitive 'B', accessFlags := 0x411 }
/-- [B -/
def k18 : Class := { plain "[B" (some 0) with kind := .array 17 .byte, interfaces := #[16, 6], accessFlags := 1041 }

/-- the primitive char -/
def k19 : Class := { plain "char" none with kind := .primitive 'C', accessFlags := 0x411 }
/-- [C -/
def k20 : Class := { plain "[C" (some 0) with kind := .array 19 .char, interfaces := #[16, 6], accessFlags := 1041 }

/-- the primitive int -/
def k21 : Class := { plain "int" none with kind := .primitive 'I', accessFlags := 0x411 }
/-- [I -/
def k22 : Class := { plain "[I" (some 0) with kind := .array 21 .int, interfaces := #[16, 6], accessFlags := 1041 }

def heap : Heap := #[{ cls := 8, slots := #[.ref 4, .null, .null, .null, .null, .null, .null, .null, .null, .null], vm := .statics 8 },
  { cls := 11, slots := #[.long 0, .int 1, .null, .int 0, .null, .int 0, .int 0], vm := .statics 11 },
  { cls := 13, slots := #[.int 0, .int 8, .int 0, .int 1], vm := .statics 13 },
  { cls := 14, slots := #[.null, .null, .null], vm := .statics 14 },
  { cls := 8, slots := #[.null, .int 0, .int 0], vm := .none }]
def classes : Array Class := #[k0, k1, k2, k3, k4, k5, k6, k7, k8, k9, k10, k11, k12, k13, k14, k15, k16, k17, k18, k19, k20, k21, k22]
def interned : List (Array UInt16 × Addr) := []
def slotsUsed : Nat := 27
def theMethod : MethodId := ⟨1, 1⟩
def args0 : Array Value := #[.int 5, .int 6, .int 7, .long 9]
def aboutOver (below : List Frame) : State where
  vm := { classes := classes, interned := interned.toArray }
  heap := heap
  slotsUsed := slotsUsed
  threads := #[{ frames := .invoking theMethod args0 :: below }]
def below0 : List Frame := [.native { method := ⟨0, 0⟩, args := #[] }]
def about1 : State := aboutOver below0
def p0 : Program := .bare "" "" ""
def e0 : Env := launch0.env 0 0 0
theorem w_frames : about1.frames = Frame.invoking theMethod args0 :: below0 := rfl
set_option maxRecDepth 65536 in
theorem w_args : argsFit about1.vm theMethod args0 = true := by decide +kernel
set_option maxRecDepth 65536 in
theorem w_heap : heapFits about1 = true := by decide +kernel
set_option maxRecDepth 65536 in
theorem w_runnable : about1.curStatus? = some .runnable := by decide +kernel
set_option maxRecDepth 65536 in
theorem w_alone : about1.alone = true := by decide +kernel
set_option maxRecDepth 65536 in
theorem w_named : about1.methodNamed? x = some theMethod := by decide +kernel
set_option maxRecDepth 65536 in
theorem w_hears : about1.hears theMethod below0 = true := by decide +kernel
set_option maxRecDepth 65536 in
theorem w_ripe : about1.ripe theMethod args0 below0 = true := by decide +kernel
theorem w_running : about1.status = .running := rfl
set_option maxRecDepth 65536 in
theorem w_room : about1.hasRoom e0.platform room_1 = true :=
  launch0.hasRoom_least _ room_1 (by decide +kernel) (by decide +kernel) (by decide +kernel) (by decide +kernel) (by decide +kernel) (by decide +kernel)
theorem allAtoms_all (ts : List Jvm.Cond) (a : Array Jvm.Value) (st : Jvm.State) : (allAtoms ts).before a st = ts.all (fun c => c.before a st) := by
  induction ts with
  | nil => rfl
  | cons c t ih =>
    show (Jvm.Cond.and c (allAtoms t)).before a st = _
    rw [Jvm.Cond.before_and, ih, List.all_cons]
def words1 : List Jvm.Cond := Jvm.Cond.code x code maxLocals ret :: tables_1
/-- a 'code' word, met by the world's own term for the bytes: nothing is compared byte by byte -/
theorem code_word {y : MethodName} {bytes : ByteArray} {mx : Nat} {rt : Option FieldType} {a : Array Value} {s : State} {m : MethodId} {meth : Method} {c : Code} (h1 : s.methodNamed? y = some m) (h2 : s.vm.method? m = some meth) (h3 : meth.code = some c) (h4 : c.code = bytes)
    (h5 : (c.maxLocals == mx && c.exceptionTable.isEmpty && decide (c.maxStack ≤ mostOperands) && decide (meth.sig.returnType = rt) && !meth.locks && decide (parseMethodDescriptor y.desc = some meth.sig)) = true) : (Jvm.Cond.code y bytes mx rt).before a s = true := by
  simp only [Bool.and_eq_true, beq_iff_eq, Bool.not_eq_true', decide_eq_true_eq] at h5
  obtain ⟨⟨⟨⟨⟨g1, g2⟩, g3⟩, g4⟩, g5⟩, g6⟩ := h5
  simp [Cond.before, Cond.holds, Cond.value, h1, h2, h3, h4, g1, g2, g3, g4, g5, g6]
def isCode : Jvm.Cond → Bool
  | .code _ _ _ _ => true
  | _ => false
theorem all_split {L : List Jvm.Cond} {P : Jvm.Cond → Bool} (h1 : L.all (fun c => isCode c || P c) = true) (h2 : ∀ c ∈ L.filter isCode, P c = true) : L.all P = true := by
  refine List.all_eq_true.mpr fun c hc => ?_
  have h := List.all_eq_true.mp h1 c hc
  rcases Bool.eq_false_or_eq_true (isCode c) with hi | hi
  · exact h2 c (List.mem_filter.mpr ⟨hc, hi⟩)
  · simpa [hi] using h
set_option maxRecDepth 65536 in
theorem w_c0 : (Jvm.Cond.code x code maxLocals ret).before args0 about1 = true := code_word (m := ⟨1, 1⟩) (meth := k1m1) (c := k1c1) (by decide +kernel) rfl rfl rfl (by decide +kernel)
set_option maxRecDepth 65536 in
theorem w_c1 : (Jvm.Cond.code ({ cls := "com/example/helmstead/helmstead/StoreRequest", name := "acquire", desc := "(Ljava/lang/String;J)Lcom/example/helmstead/helmstead/StoreRequest;" } : Jvm.MethodName) prog_29_method_2_code (3 : Nat) (Option.some (Jvm.ClassFile.FieldType.object "com/example/helmstead/helmstead/StoreRequest"))).before args0 about1 = true := code_word (m := ⟨3, 1⟩) (meth := k3m1) (c := k3c1) (by decide +kernel) rfl rfl rfl (by decide +kernel)
set_option maxRecDepth 65536 in
theorem w_c2 : (Jvm.Cond.code ({ cls := "com/example/helmstead/helmstead/StoreRequest", name := "<init>", desc := "(Lcom/example/helmstead/helmstead/StoreRequest$Kind;Ljava/lang/String;JLjava/lang/String;Ljava/lang/String;Ljava/lang/String;Ljava/util/List;)V" } : Jvm.MethodName) prog_29_method_1_code (9 : Nat) (Option.none : Option Jvm.ClassFile.FieldType)).before args0 about1 = true := code_word (m := ⟨3, 0⟩) (meth := k3m0) (c := k3c0) (by decide +kernel) rfl rfl rfl (by decide +kernel)
set_option maxRecDepth 65536 in
theorem w_c3 : (Jvm.Cond.code ({ cls := "java/lang/Record", name := "<init>", desc := "()V" } : Jvm.MethodName) jdk_30_method_1_code (1 : Nat) (Option.none : Option Jvm.ClassFile.FieldType)).before args0 about1 = true := code_word (m := ⟨2, 0⟩) (meth := k2m0) (c := k2c0) (by decide +kernel) rfl rfl rfl (by decide +kernel)
set_option maxRecDepth 65536 in
theorem w_c4 : (Jvm.Cond.code ({ cls := "java/lang/Object", name := "<init>", desc := "()V" } : Jvm.MethodName) object_method_1_code (1 : Nat) (Option.none : Option Jvm.ClassFile.FieldType)).before args0 about1 = true := code_word (m := ⟨0, 0⟩) (meth := k0m0) (c := k0c0) (by decide +kernel) rfl rfl rfl (by decide +kernel)
set_option maxRecDepth 65536 in
theorem w_c5 : (Jvm.Cond.code ({ cls := "com/example/helmstead/helmstead/StoreRequest", name := "id", desc := "()Ljava/lang/String;" } : Jvm.MethodName) prog_29_method_28_code (1 : Nat) (Option.some (Jvm.ClassFile.FieldType.object "java/lang/String"))).before args0 about1 = true := code_word (m := ⟨3, 3⟩) (meth := k3m3) (c := k3c3) (by decide +kernel) rfl rfl rfl (by decide +kernel)
set_option maxRecDepth 65536 in
theorem w_c6 : (Jvm.Cond.code ({ cls := "com/example/helmstead/helmstead/StoreRequest", name := "kind", desc := "()Lcom/example/helmstead/helmstead/StoreRequest$Kind;" } : Jvm.MethodName) prog_29_method_27_code (1 : Nat) (Option.some (Jvm.ClassFile.FieldType.object "com/example/helmstead/helmstead/StoreRequest$Kind"))).before args0 about1 = true := code_word (m := ⟨3, 2⟩) (meth := k3m2) (c := k3c2) (by decide +kernel) rfl rfl rfl (by decide +kernel)
set_option maxRecDepth 65536 in
theorem w_c7 : (Jvm.Cond.code ({ cls := "com/example/helmstead/helmstead/StoreRequest", name := "leaseMs", desc := "()J" } : Jvm.MethodName) prog_29_method_29_code (1 : Nat) (Option.some Jvm.ClassFile.FieldType.long)).before args0 about1 = true := code_word (m := ⟨3, 4⟩) (meth := k3m4) (c := k3c4) (by decide +kernel) rfl rfl rfl (by decide +kernel)
set_option maxRecDepth 65536 in
theorem w_c8 : (Jvm.Cond.code ({ cls := "com/example/helmstead/helmstead/StoreRequest", name := "table", desc := "()Ljava/lang/String;" } : Jvm.MethodName) prog_29_method_30_code (1 : Nat) (Option.some (Jvm.ClassFile.FieldType.object "java/lang/String"))).before args0 about1 = true := code_word (m := ⟨3, 5⟩) (meth := k3m5) (c := k3c5) (by decide +kernel) rfl rfl rfl (by decide +kernel)
set_option maxRecDepth 65536 in
theorem w_c9 : (Jvm.Cond.code ({ cls := "com/example/helmstead/helmstead/StoreRequest", name := "key", desc := "()Ljava/lang/String;" } : Jvm.MethodName) prog_29_method_31_code (1 : Nat) (Option.some (Jvm.ClassFile.FieldType.object "java/lang/String"))).before args0 about1 = true := code_word (m := ⟨3, 6⟩) (meth := k3m6) (c := k3c6) (by decide +kernel) rfl rfl rfl (by decide +kernel)
set_option maxRecDepth 65536 in
theorem w_c10 : (Jvm.Cond.code ({ cls := "com/example/helmstead/helmstead/StoreRequest", name := "value", desc := "()Ljava/lang/String;" } : Jvm.MethodName) prog_29_method_32_code (1 : Nat) (Option.some (Jvm.ClassFile.FieldType.object "java/lang/String"))).before args0 about1 = true := code_word (m := ⟨3, 7⟩) (meth := k3m7) (c := k3c7) (by decide +kernel) rfl rfl rfl (by decide +kernel)
set_option maxRecDepth 65536 in
theorem w_c11 : (Jvm.Cond.code ({ cls := "com/example/helmstead/helmstead/StoreRequest", name := "parts", desc := "()Ljava/util/List;" } : Jvm.MethodName) prog_29_method_33_code (1 : Nat) (Option.some (Jvm.ClassFile.FieldType.object "java/util/List"))).before args0 about1 = true := code_word (m := ⟨3, 8⟩) (meth := k3m8) (c := k3c8) (by decide +kernel) rfl rfl rfl (by decide +kernel)
set_option maxRecDepth 65536 in
theorem w_c12 : (Jvm.Cond.code ({ cls := "java/lang/String", name := "valueOf", desc := "(C)Ljava/lang/String;" } : Jvm.MethodName) jdk_42_method_139_code (1 : Nat) (Option.some (Jvm.ClassFile.FieldType.object "java/lang/String"))).before args0 about1 = true := code_word (m := ⟨11, 3⟩) (meth := k11m3) (c := k11c3) (by decide +kernel) rfl rfl rfl (by decide +kernel)
set_option maxRecDepth 65536 in
theorem w_c13 : (Jvm.Cond.code ({ cls := "java/lang/StringLatin1", name := "canEncode", desc := "(C)Z" } : Jvm.MethodName) jdk_43_method_3_code (1 : Nat) (Option.some Jvm.ClassFile.FieldType.boolean)).before args0 about1 = true := code_word (m := ⟨12, 1⟩) (meth := k12m1) (c := k12c1) (by decide +kernel) rfl rfl rfl (by decide +kernel)
set_option maxRecDepth 65536 in
theorem w_c14 : (Jvm.Cond.code ({ cls := "java/lang/StringLatin1", name := "toBytes", desc := "(C)[B" } : Jvm.MethodName) jdk_43_method_46_code (1 : Nat) (Option.some (Jvm.ClassFile.FieldType.array Jvm.ClassFile.FieldType.byte))).before args0 about1 = true := code_word (m := ⟨12, 2⟩) (meth := k12m2) (c := k12c2) (by decide +kernel) rfl rfl rfl (by decide +kernel)
set_option maxRecDepth 65536 in
theorem w_c15 : (Jvm.Cond.code ({ cls := "java/lang/String", name := "<init>", desc := "([BB)V" } : Jvm.MethodName) jdk_42_method_151_code (3 : Nat) (Option.none : Option Jvm.ClassFile.FieldType)).before args0 about1 = true := code_word (m := ⟨11, 5⟩) (meth := k11m5) (c := k11c5) (by decide +kernel) rfl rfl rfl (by decide +kernel)
set_option maxRecDepth 65536 in
theorem w_c16 : (Jvm.Cond.code ({ cls := "java/lang/String", name := "equals", desc := "(Ljava/lang/Object;)Z" } : Jvm.MethodName) jdk_42_method_66_code (3 : Nat) (Option.some Jvm.ClassFile.FieldType.boolean)).before args0 about1 = true := code_word (m := ⟨11, 2⟩) (meth := k11m2) (c := k11c2) (by decide +kernel) rfl rfl rfl (by decide +kernel)
set_option maxRecDepth 65536 in
theorem w_c17 : (Jvm.Cond.code ({ cls := "java/lang/String", name := "<init>", desc := "([C)V" } : Jvm.MethodName) jdk_42_method_3_code (2 : Nat) (Option.none : Option Jvm.ClassFile.FieldType)).before args0 about1 = true := code_word (m := ⟨11, 1⟩) (meth := k11m1) (c := k11c1) (by decide +kernel) rfl rfl rfl (by decide +kernel)
set_option maxRecDepth 65536 in
theorem w_c18 : (Jvm.Cond.code ({ cls := "java/lang/String", name := "<init>", desc := "([CIILjava/lang/Void;)V" } : Jvm.MethodName) jdk_42_method_149_code (6 : Nat) (Option.none : Option Jvm.ClassFile.FieldType)).before args0 about1 = true := code_word (m := ⟨11, 4⟩) (meth := k11m4) (c := k11c4) (by decide +kernel) rfl rfl rfl (by decide +kernel)
set_option maxRecDepth 65536 in
theorem w_c19 : (Jvm.Cond.code ({ cls := "java/lang/StringUTF16", name := "compress", desc := "([CII)[B" } : Jvm.MethodName) jdk_52_method_16_code (6 : Nat) (Option.some (Jvm.ClassFile.FieldType.array Jvm.ClassFile.FieldType.byte))).before args0 about1 = true := code_word (m := ⟨13, 7⟩) (meth := k13m7) (c := k13c7) (by decide +kernel) rfl rfl rfl (by decide +kernel)
set_option maxRecDepth 65536 in
theorem w_c20 : (Jvm.Cond.code ({ cls := "java/lang/StringUTF16", name := "compress", desc := "([CI[BII)I" } : Jvm.MethodName) jdk_52_method_21_code (7 : Nat) (Option.some Jvm.ClassFile.FieldType.int)).before args0 about1 = true := code_word (m := ⟨13, 8⟩) (meth := k13m8) (c := k13c8) (by decide +kernel) rfl rfl rfl (by decide +kernel)
set_option maxRecDepth 65536 in
theorem w_c21 : (Jvm.Cond.code ({ cls := "java/lang/StringUTF16", name := "toBytes", desc := "([CII)[B" } : Jvm.MethodName) jdk_52_method_14_code (5 : Nat) (Option.some (Jvm.ClassFile.FieldType.array Jvm.ClassFile.FieldType.byte))).before args0 about1 = true := code_word (m := ⟨13, 5⟩) (meth := k13m5) (c := k13c5) (by decide +kernel) rfl rfl rfl (by decide +kernel)
set_option maxRecDepth 65536 in
theorem w_c22 : (Jvm.Cond.code ({ cls := "java/lang/StringUTF16", name := "newBytesFor", desc := "(I)[B" } : Jvm.MethodName) jdk_52_method_2_code (1 : Nat) (Option.some (Jvm.ClassFile.FieldType.array Jvm.ClassFile.FieldType.byte))).before args0 about1 = true := code_word (m := ⟨13, 1⟩) (meth := k13m1) (c := k13c1) (by decide +kernel) rfl rfl rfl (by decide +kernel)
set_option maxRecDepth 65536 in
theorem w_c23 : (Jvm.Cond.code ({ cls := "java/lang/StringUTF16", name := "newBytesLength", desc := "(I)I" } : Jvm.MethodName) jdk_52_method_3_code (1 : Nat) (Option.some Jvm.ClassFile.FieldType.int)).before args0 about1 = true := code_word (m := ⟨13, 2⟩) (meth := k13m2) (c := k13c2) (by decide +kernel) rfl rfl rfl (by decide +kernel)
set_option maxRecDepth 65536 in
theorem w_c24 : (Jvm.Cond.code ({ cls := "java/lang/StringUTF16", name := "putChar", desc := "([BII)V" } : Jvm.MethodName) jdk_52_method_4_code (3 : Nat) (Option.none : Option Jvm.ClassFile.FieldType)).before args0 about1 = true := code_word (m := ⟨13, 3⟩) (meth := k13m3) (c := k13c3) (by decide +kernel) rfl rfl rfl (by decide +kernel)
set_option maxRecDepth 65536 in
theorem w_c25 : (Jvm.Cond.code ({ cls := "java/lang/StringUTF16", name := "getChar", desc := "([BI)C" } : Jvm.MethodName) jdk_52_method_5_code (2 : Nat) (Option.some Jvm.ClassFile.FieldType.char)).before args0 about1 = true := code_word (m := ⟨13, 4⟩) (meth := k13m4) (c := k13c4) (by decide +kernel) rfl rfl rfl (by decide +kernel)
set_option maxRecDepth 65536 in
theorem w_c26 : (Jvm.Cond.code ({ cls := "java/lang/StringUTF16", name := "coderFromArrayLen", desc := "([BI)B" } : Jvm.MethodName) jdk_52_method_15_code (2 : Nat) (Option.some Jvm.ClassFile.FieldType.byte)).before args0 about1 = true := code_word (m := ⟨13, 6⟩) (meth := k13m6) (c := k13c6) (by decide +kernel) rfl rfl rfl (by decide +kernel)
set_option maxRecDepth 65536 in
theorem w_c27 : (Jvm.Cond.code ({ cls := "java/lang/StringUTF16", name := "toBytes", desc := "(C)[B" } : Jvm.MethodName) jdk_52_method_24_code (2 : Nat) (Option.some (Jvm.ClassFile.FieldType.array Jvm.ClassFile.FieldType.byte))).before args0 about1 = true := code_word (m := ⟨13, 9⟩) (meth := k13m9) (c := k13c9) (by decide +kernel) rfl rfl rfl (by decide +kernel)
def codes1 : List Jvm.Cond := [Jvm.Cond.code x code maxLocals ret, Jvm.Cond.code ({ cls := "com/example/helmstead/helmstead/StoreRequest", name := "acquire", desc := "(Ljava/lang/String;J)Lcom/example/helmstead/helmstead/StoreRequest;" } : Jvm.MethodName) prog_29_method_2_code (3 : Nat) (Option.some (Jvm.ClassFile.FieldType.object "com/example/helmstead/helmstead/StoreRequest")), Jvm.Cond.code ({ cls := "com/example/helmstead/helmstead/StoreRequest", name := "<init>", desc := "(Lcom/example/helmstead/helmstead/StoreRequest$Kind;Ljava/lang/String;JLjava/lang/String;Ljava/lang/String;Ljava/lang/String;Ljava/util/List;)V" } : Jvm.MethodName) prog_29_method_1_code (9 : Nat) (Option.none : Option Jvm.ClassFile.FieldType), Jvm.Cond.code ({ cls := "java/lang/Record", name := "<init>", desc := "()V" } : Jvm.MethodName) jdk_30_method_1_code (1 : Nat) (Option.none : Option Jvm.ClassFile.FieldType), Jvm.Cond.code ({ cls := "java/lang/Object", name := "<init>", desc := "()V" } : Jvm.MethodName) object_method_1_code (1 : Nat) (Option.none : Option Jvm.ClassFile.FieldType), Jvm.Cond.code ({ cls := "com/example/helmstead/helmstead/StoreRequest", name := "id", desc := "()Ljava/lang/String;" } : Jvm.MethodName) prog_29_method_28_code (1 : Nat) (Option.some (Jvm.ClassFile.FieldType.object "java/lang/String")), Jvm.Cond.code ({ cls := "com/example/helmstead/helmstead/StoreRequest", name := "kind", desc := "()Lcom/example/helmstead/helmstead/StoreRequest$Kind;" } : Jvm.MethodName) prog_29_method_27_code (1 : Nat) (Option.some (Jvm.ClassFile.FieldType.object "com/example/helmstead/helmstead/StoreRequest$Kind")), Jvm.Cond.code ({ cls := "com/example/helmstead/helmstead/StoreRequest", name := "leaseMs", desc := "()J" } : Jvm.MethodName) prog_29_method_29_code (1 : Nat) (Option.some Jvm.ClassFile.FieldType.long), Jvm.Cond.code ({ cls := "com/example/helmstead/helmstead/StoreRequest", name := "table", desc := "()Ljava/lang/String;" } : Jvm.MethodName) prog_29_method_30_code (1 : Nat) (Option.some (Jvm.ClassFile.FieldType.object "java/lang/String")), Jvm.Cond.code ({ cls := "com/example/helmstead/helmstead/StoreRequest", name := "key", desc := "()Ljava/lang/String;" } : Jvm.MethodName) prog_29_method_31_code (1 : Nat) (Option.some (Jvm.ClassFile.FieldType.object "java/lang/String")), Jvm.Cond.code ({ cls := "com/example/helmstead/helmstead/StoreRequest", name := "value", desc := "()Ljava/lang/String;" } : Jvm.MethodName) prog_29_method_32_code (1 : Nat) (Option.some (Jvm.ClassFile.FieldType.object "java/lang/String")), Jvm.Cond.code ({ cls := "com/example/helmstead/helmstead/StoreRequest", name := "parts", desc := "()Ljava/util/List;" } : Jvm.MethodName) prog_29_method_33_code (1 : Nat) (Option.some (Jvm.ClassFile.FieldType.object "java/util/List")), Jvm.Cond.code ({ cls := "java/lang/String", name := "valueOf", desc := "(C)Ljava/lang/String;" } : Jvm.MethodName) jdk_42_method_139_code (1 : Nat) (Option.some (Jvm.ClassFile.FieldType.object "java/lang/String")), Jvm.Cond.code ({ cls := "java/lang/StringLatin1", name := "canEncode", desc := "(C)Z" } : Jvm.MethodName) jdk_43_method_3_code (1 : Nat) (Option.some Jvm.ClassFile.FieldType.boolean), Jvm.Cond.code ({ cls := "java/lang/StringLatin1", name := "toBytes", desc := "(C)[B" } : Jvm.MethodName) jdk_43_method_46_code (1 : Nat) (Option.some (Jvm.ClassFile.FieldType.array Jvm.ClassFile.FieldType.byte)), Jvm.Cond.code ({ cls := "java/lang/String", name := "<init>", desc := "([BB)V" } : Jvm.MethodName) jdk_42_method_151_code (3 : Nat) (Option.none : Option Jvm.ClassFile.FieldType), Jvm.Cond.code ({ cls := "java/lang/String", name := "equals", desc := "(Ljava/lang/Object;)Z" } : Jvm.MethodName) jdk_42_method_66_code (3 : Nat) (Option.some Jvm.ClassFile.FieldType.boolean), Jvm.Cond.code ({ cls := "java/lang/String", name := "<init>", desc := "([C)V" } : Jvm.MethodName) jdk_42_method_3_code (2 : Nat) (Option.none : Option Jvm.ClassFile.FieldType), Jvm.Cond.code ({ cls := "java/lang/String", name := "<init>", desc := "([CIILjava/lang/Void;)V" } : Jvm.MethodName) jdk_42_method_149_code (6 : Nat) (Option.none : Option Jvm.ClassFile.FieldType), Jvm.Cond.code ({ cls := "java/lang/StringUTF16", name := "compress", desc := "([CII)[B" } : Jvm.MethodName) jdk_52_method_16_code (6 : Nat) (Option.some (Jvm.ClassFile.FieldType.array Jvm.ClassFile.FieldType.byte)), Jvm.Cond.code ({ cls := "java/lang/StringUTF16", name := "compress", desc := "([CI[BII)I" } : Jvm.MethodName) jdk_52_method_21_code (7 : Nat) (Option.some Jvm.ClassFile.FieldType.int), Jvm.Cond.code ({ cls := "java/lang/StringUTF16", name := "toBytes", desc := "([CII)[B" } : Jvm.MethodName) jdk_52_method_14_code (5 : Nat) (Option.some (Jvm.ClassFile.FieldType.array Jvm.ClassFile.FieldType.byte)), Jvm.Cond.code ({ cls := "java/lang/StringUTF16", name := "newBytesFor", desc := "(I)[B" } : Jvm.MethodName) jdk_52_method_2_code (1 : Nat) (Option.some (Jvm.ClassFile.FieldType.array Jvm.ClassFile.FieldType.byte)), Jvm.Cond.code ({ cls := "java/lang/StringUTF16", name := "newBytesLength", desc := "(I)I" } : Jvm.MethodName) jdk_52_method_3_code (1 : Nat) (Option.some Jvm.ClassFile.FieldType.int), Jvm.Cond.code ({ cls := "java/lang/StringUTF16", name := "putChar", desc := "([BII)V" } : Jvm.MethodName) jdk_52_method_4_code (3 : Nat) (Option.none : Option Jvm.ClassFile.FieldType), Jvm.Cond.code ({ cls := "java/lang/StringUTF16", name := "getChar", desc := "([BI)C" } : Jvm.MethodName) jdk_52_method_5_code (2 : Nat) (Option.some Jvm.ClassFile.FieldType.char), Jvm.Cond.code ({ cls := "java/lang/StringUTF16", name := "coderFromArrayLen", desc := "([BI)B" } : Jvm.MethodName) jdk_52_method_15_code (2 : Nat) (Option.some Jvm.ClassFile.FieldType.byte), Jvm.Cond.code ({ cls := "java/lang/StringUTF16", name := "toBytes", desc := "(C)[B" } : Jvm.MethodName) jdk_52_method_24_code (2 : Nat) (Option.some (Jvm.ClassFile.FieldType.array Jvm.ClassFile.FieldType.byte))]
set_option maxRecDepth 65536 in
theorem codes_eq : words1.filter isCode = codes1 := rfl
theorem w_codes : ∀ c ∈ words1.filter isCode, c.before args0 about1 = true := by
  rw [codes_eq]
  intro c hc
  simp only [codes1, List.mem_cons, List.not_mem_nil, or_false] at hc
  rcases hc with rfl | rfl | rfl | rfl | rfl | rfl | rfl | rfl | rfl | rfl | rfl | rfl | rfl | rfl | rfl | rfl | rfl | rfl | rfl | rfl | rfl | rfl | rfl | rfl | rfl | rfl | rfl | rfl
  · exact w_c0
  · exact w_c1
  · exact w_c2
  · exact w_c3
  · exact w_c4
  · exact w_c5
  · exact w_c6
  · exact w_c7
  · exact w_c8
  · exact w_c9
  · exact w_c10
  · exact w_c11
  · exact w_c12
  · exact w_c13
  · exact w_c14
  · exact w_c15
  · exact w_c16
  · exact w_c17
  · exact w_c18
  · exact w_c19
  · exact w_c20
  · exact w_c21
  · exact w_c22
  · exact w_c23
  · exact w_c24
  · exact w_c25
  · exact w_c26
  · exact w_c27
set_option maxRecDepth 65536 in
theorem w_t1 : (words1.take 24).all (fun c => isCode c || c.before args0 about1) = true := by decide +kernel
set_option maxRecDepth 65536 in
theorem w_t2 : ((words1.drop 24).take 24).all (fun c => isCode c || c.before args0 about1) = true := by decide +kernel
set_option maxRecDepth 65536 in
theorem w_t3 : (((words1.drop 24).drop 24).take 24).all (fun c => isCode c || c.before args0 about1) = true := by decide +kernel
set_option maxRecDepth 65536 in
theorem w_t4 : ((((words1.drop 24).drop 24).drop 24).take 24).all (fun c => isCode c || c.before args0 about1) = true := by decide +kernel
set_option maxRecDepth 65536 in
theorem w_t5 : (((((words1.drop 24).drop 24).drop 24).drop 24).take 24).all (fun c => isCode c || c.before args0 about1) = true := by decide +kernel
set_option maxRecDepth 65536 in
theorem w_t6 : (((((words1.drop 24).drop 24).drop 24).drop 24).drop 24).all (fun c => isCode c || c.before args0 about1) = true := by decide +kernel
theorem w_tables : (allAtoms (Jvm.Cond.code x code maxLocals ret :: tables_1)).before args0 about1 = true := by
  rw [allAtoms_all]
  show words1.all (fun c => c.before args0 about1) = true
  refine all_split ?_ w_codes
  rw [← List.take_append_drop 24 words1, List.all_append, w_t1, ← List.take_append_drop 24 (words1.drop 24), List.all_append, w_t2, ← List.take_append_drop 24 ((words1.drop 24).drop 24), List.all_append, w_t3, ← List.take_append_drop 24 (((words1.drop 24).drop 24).drop 24), List.all_append, w_t4, ← List.take_append_drop 24 ((((words1.drop 24).drop 24).drop 24).drop 24), List.all_append, w_t5, w_t6]
  rfl
set_option maxRecDepth 65536 in
theorem w_rest : rest_1_c.before args0 about1 = true := by decide +kernel
set_option maxRecDepth 65536 in
theorem w_case : (Jvm.Cond.and given_1 narrow_1).before args0 about1 = true := by decide +kernel
set_option maxRecDepth 65536 in
theorem w_consts : constsHeld consts_1 about1 := Jvm.Lit.constsHeldB_iff.mp (by decide +kernel)
theorem w_applies : (headSpec (Jvm.Cond.code x code maxLocals ret :: tables_1) room_1).applies x e0.platform about1 = true :=
  (Spec.applies_iff w_frames).mpr ⟨w_running, w_runnable, w_alone, w_named, w_hears, w_ripe, w_room, w_tables⟩
theorem atStart : AtStart classFile x code maxLocals ret World_1 tables_1 room_1 Calls_1 rest_1 Pre_1 launch0 p0 e0 about1 theMethod args0 below0 :=
  ⟨lists_1, trivial, launch0.admits_env _ _ _, launch0.least_env, fairChoices_fair.cas, fairChoices_fair.clock, w_frames, w_args, w_heap, w_applies, ⟨w_consts, trivial⟩, w_rest, w_case⟩
end start1
theorem witness_1 : WitnessClaimed_1 := ⟨start1.p0, start1.e0, start1.about1, start1.theMethod, start1.args0, start1.below0, start1.atStart⟩
end Jvm.Pilot.@@N@@
