import JvmDerived
import JvmDerived.Pilot.@@N@@Statement
import JvmDerived.Pilot.@@N@@Code
set_option linter.unusedVariables false
set_option linter.unusedSimpArgs false
namespace Jvm.Pilot.@@N@@
open Jvm Jvm.ClassFile Sem Op Lib Jvm.Free Jvm.Stand Jvm.LawKit Jvm.RoadKit Bundle Jvm.Pilot.@@N@@.Jvm.D
section OwnKit
variable {p : Program} {l : Launch} {e : Env} {R : Room} {s : State} {m : MethodId} {args : Array Value} {below : List Frame} {meth : Method} {c : Code} {T : State} {locs : List Loc} {cells slots : Nat}
/-- the contract of a body at given arguments and a given heap -/
def own_Con (l : Launch) (Z : State) (y : MethodName) (bytes : ByteArray) (maxL : Nat) (ret : Option FieldType) (ws : List Jvm.Cond) (rm : Room) (as' : Array Value) (h0 : Heap) (Q : Option Value → Heap → List Loc → Prop) : Prop :=
  MetFree l y (head1 (Jvm.Cond.code y bytes maxL ret :: ws) rm) (fun a U => a = as' ∧ Z.Warmed39 U.vm ∧ U.heap = h0) (fun _ _ _ _ _ => True) (fun _ U o U' => ∃ v L, o = .returned v ∧ Q v U'.heap L ∧ FrameEnd U o U' L rm.cells rm.slots)
/-- G holds of a state where the walk is owed; it goes backwards over steps -/
def own_Bk (p : Program) (e : Env) (below : List Frame) (G : State → Prop) : Prop := ∀ S S', (∀ t, Steps p.tables e below S' t → Steps p.tables e below S t) → G S' → G S
/-- a walk may end where its body returns -/
def own_Rt (p : Program) (l : Launch) (e : Env) (rm : Room) (s : State) (m : MethodId) (as' : Array Value) (below : List Frame) (meth : Method) (c : Code) (ret : Option FieldType) (Q : Option Value → Heap → List Loc → Prop) (G : State → Prop) : Prop :=
  ∀ T locs cells slots v S, Stand p l e rm s m as' below meth c T locs cells slots → cells ≤ rm.cells → slots ≤ rm.slots → (ret = none → v = none) → Q v T.heap locs →
    (∀ fs, (∀ (f : JFrame) (acts : List Action), f.method = m → f.locked = none → f.entered = [] → (doReturn e (T.setTop f) acts v).1 = T.setFrames fs) → Steps p.tables e below S (T.setFrames fs)) → G S
theorem own_intro {Z : State} {y : MethodName} {bytes : ByteArray} {maxL : Nat} {ret : Option FieldType} {ws : List Jvm.Cond} {rm : Room} {as' : Array Value} {h0 : Heap} {Q : Option Value → Heap → List Loc → Prop} (hpn : plainFor y = true)
    (H : ∀ (p : Program) (e : Env) (s : State) (m : MethodId) (below : List Frame) (meth : Method) (c : Code) (s₁ : State) (G : State → Prop), p.tables.exec = Jvm.exec → c.code = bytes → c.maxLocals = maxL → s.vm.findClass y.cls = some m.cls → meth.name = y.name → meth.sig.returnType = ret → Z.Warmed39 s.vm →
      Stand p l e rm s m as' below meth c s₁ [] 0 0 → s₁.heap = h0 → own_Bk p e below G → own_Rt p l e rm s m as' below meth c ret Q G → G (s₁.setTop (entryFrame m as' maxL))) : own_Con l Z y bytes maxL ret ws rm as' h0 Q := by
  refine MetFree.of_bodySF hpn hisR ?_
  intro p e s m args below meth c s₁ Bd hml hP hK
  obtain ⟨rfl, hZ, hh⟩ := hP
  refine H p e s m below meth c s₁ (fun S => ∃ s₂ o, Steps p.tables e below S s₂ ∧ s₂.status = .running ∧ Ended s₂ below o ∧ ∃ v L, o = .returned v ∧ Q v s₂.heap L ∧ FrameEnd s o s₂ L rm.cells rm.slots) Bd.exec Bd.bytes hml (findClass_of_methodNamed Bd.named) (name_of_methodNamed Bd.named Bd.method).1 Bd.returns hZ (Stand.of_body Bd) (by rw [← hh, Bd.state]; rfl) ?_ ?_
  · rintro S S' st ⟨s₂, o, h1, h2⟩
    exact ⟨s₂, o, st _ h1, h2⟩
  · intro T locs cells slots v S X hc hs hv hQ hst
    obtain ⟨fs, hr, hrun, hended, hW, hsame⟩ := X.leave (v := v) (fun h => hv (Bd.returns ▸ h))
    exact ⟨_, _, hst fs hr, hrun, hended, v, locs, rfl, hQ, ⟨_, rfl⟩, hW, hsame.mono hc hs⟩
section Rets
variable {Q : Option Value → Heap → List Loc → Prop} {G : State → Prop} {ret : Option FieldType} {pc : Nat} {Ls : Array Slot} {rest : List Value}
theorem own_retV (hR : own_Rt p l e R s m args below meth c none Q G) (hret : meth.sig.returnType = none) (X : Stand p l e R s m args below meth c T locs cells slots) (hx : p.tables.exec = Jvm.exec) (hd : decode c.code pc = .ok (.return_, 1)) (hc : cells ≤ R.cells) (hs : slots ≤ R.slots) (hQ : Q none T.heap locs) : G (T.setTop (mkF m pc Ls [])) :=
  hR T locs cells slots none _ X hc hs (fun _ => rfl) hQ fun fs hr => X.returnOut hx hret hd hr
theorem own_retA {t : FieldType} {v : Value} (hR : own_Rt p l e R s m args below meth c (some t) Q G) (hret : meth.sig.returnType = some t) (ht : t.isReference = true) (hv : v.isRef = true) (X : Stand p l e R s m args below meth c T locs cells slots) (hx : p.tables.exec = Jvm.exec) (hd : decode c.code pc = .ok (.areturn, 1)) (hc : cells ≤ R.cells) (hs : slots ≤ R.slots) (hQ : Q (some v) T.heap locs) : G (T.setTop (mkF m pc Ls (v :: rest))) :=
  hR T locs cells slots (some v) _ X hc hs (fun h => nomatch h) hQ fun fs hr => retOut X hx hret (by cases t <;> simp_all [FieldType.isReference, narrow]) (Or.inr (Or.inr (Or.inr (Or.inr ⟨rfl, ht, hv⟩)))) hd hr
theorem own_retI {z : Int32} (hR : own_Rt p l e R s m args below meth c (some .int) Q G) (hret : meth.sig.returnType = some .int) (X : Stand p l e R s m args below meth c T locs cells slots) (hx : p.tables.exec = Jvm.exec) (hd : decode c.code pc = .ok (.ireturn, 1)) (hc : cells ≤ R.cells) (hs : slots ≤ R.slots) (hQ : Q (some (.int z)) T.heap locs) : G (T.setTop (mkF m pc Ls (.int z :: rest))) :=
  hR T locs cells slots (some (.int z)) _ X hc hs (fun h => nomatch h) hQ fun fs hr => retOut X hx hret rfl (Or.inl ⟨rfl, Or.inl rfl, z, rfl⟩) hd hr
theorem own_retL {z : Int64} (hR : own_Rt p l e R s m args below meth c (some .long) Q G) (hret : meth.sig.returnType = some .long) (X : Stand p l e R s m args below meth c T locs cells slots) (hx : p.tables.exec = Jvm.exec) (hd : decode c.code pc = .ok (.lreturn, 1)) (hc : cells ≤ R.cells) (hs : slots ≤ R.slots) (hQ : Q (some (.long z)) T.heap locs) : G (T.setTop (mkF m pc Ls (.long z :: rest))) :=
  hR T locs cells slots (some (.long z)) _ X hc hs (fun h => nomatch h) hQ fun fs hr => retOut X hx hret rfl (Or.inr (Or.inl ⟨rfl, rfl, z, rfl⟩)) hd hr
theorem own_retN {z : Int32} {t : FieldType} (hR : own_Rt p l e R s m args below meth c (some t) Q G) (hret : meth.sig.returnType = some t) (ht : t = .boolean ∨ t = .byte ∨ t = .char ∨ t = .short) (X : Stand p l e R s m args below meth c T locs cells slots) (hx : p.tables.exec = Jvm.exec) (hd : decode c.code pc = .ok (.ireturn, 1)) (hc : cells ≤ R.cells) (hs : slots ≤ R.slots) (hQ : Q (some (.int (nar t z))) T.heap locs) : G (T.setTop (mkF m pc Ls (.int z :: rest))) :=
  hR T locs cells slots (some (.int (nar t z))) _ X hc hs (fun h => nomatch h) hQ fun fs hr => retN X hx hret ht hd hr
end Rets
section Calls
variable {Z : State} {a0 : Array Value} {own : String} {index : Nat} {y z : MethodName} {bytes : ByteArray} {maxL : Nat} {ret : Option FieldType} {rm : Room} {as' : Array Value} {h : Heap} {Q : Option Value → Heap → List Loc → Prop} {G : State → Prop} {pc : Nat} {Ls : Array Slot} {stk argsL rest : List Value}
theorem own_callS (X : Stand p l e R s m args below meth c T locs cells slots) (hx : p.tables.exec = Jvm.exec) (hZ : Z.Warmed39 s.vm) (hG : own_Bk p e below G) (hown : s.vm.findClass own = some m.cls)
    (w1 : (Jvm.Cond.methodLink own index y).before a0 Z = true) (w2 : (Jvm.Cond.static y).before a0 Z = true) (w3 : (Jvm.Cond.initialized y.cls).before a0 Z = true) (w4 : (Jvm.Cond.code y bytes maxL ret).before a0 Z = true)
    (hy : y.cls ≠ "java/lang/invoke/MethodHandle" ∧ y.cls ≠ "java/lang/invoke/VarHandle") (W : Nat) (hM : own_Con l Z y bytes maxL ret [] rm as' h Q) (hf : rm.frames + 1 ≤ R.frames) (hlo : W + (maxL + 11) + rm.locals ≤ R.locals) (eT : T.heap = h)
    (hsize : Ls.size = c.maxLocals) (hlen : ∀ sig, parseMethodDescriptor y.desc = some sig → argsL.length = sig.parameters.length) (has : argsL.toArray = as') (hst : stk = argsL.reverse ++ rest) (hW : (rest.map fun v => v.category).sum ≤ W)
    (hd : decode c.code pc = .ok (.invokestatic index, 3)) (hc : cells + rm.cells ≤ R.cells) (hs : slots + rm.slots ≤ R.slots)
    (k : ∀ T' h' v L, Stand p l e R s m args below meth c T' (locs ++ L) (cells + rm.cells) (slots + rm.slots) → T'.heap = h' → Q v h' L → G (T'.setTop (mkF m (pc + 3) Ls (v.toList ++ rest)))) : G (T.setTop (mkF m pc Ls stk)) := by
  obtain ⟨v, _, ⟨T1, L1, k1, n1⟩, -, X1, ⟨L, hQ, rfl, rfl, rfl⟩, st⟩ := Jvm.LawKit.callS X hx (y := y) hown (mvT hZ w1) (mvT hZ w2) (mvT hZ w3) (mvT hZ w4) hy (backOf (W := W) hM hZ w4 w3 hf hlo) (g := mkF m pc Ls stk) rfl hsize (argsL := argsL) (rest := rest) hlen hst (by show 2 * 0 + _ ≤ _; rw [Nat.mul_zero, Nat.zero_add]; exact hW) hd (fun _ _ => ⟨has, eT, hc, hs⟩)
  exact hG _ _ st (k T1 _ v L X1 rfl hQ)
theorem own_callI (X : Stand p l e R s m args below meth c T locs cells slots) (hx : p.tables.exec = Jvm.exec) (hZ : Z.Warmed39 s.vm) (hG : own_Bk p e below G) (hown : s.vm.findClass own = some m.cls) (hy1 : y.name = "<init>")
    (w1 : (Jvm.Cond.methodLink own index y).before a0 Z = true) (w2 : (Jvm.Cond.instanceMethod y).before a0 Z = true) (w3 : (Jvm.Cond.initialized y.cls).before a0 Z = true) (w4 : (Jvm.Cond.code y bytes maxL none).before a0 Z = true)
    (hy : y.cls ≠ "java/lang/invoke/MethodHandle" ∧ y.cls ≠ "java/lang/invoke/VarHandle") (W : Nat) (hM : own_Con l Z y bytes maxL none [] rm as' h Q) (hf : rm.frames + 1 ≤ R.frames) (hlo : W + (maxL + 11) + rm.locals ≤ R.locals) (eT : T.heap = h)
    (hsize : Ls.size = c.maxLocals) (hlen : ∀ sig, parseMethodDescriptor y.desc = some sig → argsL.length = sig.parameters.length) {a : Addr} (has : (.ref a :: argsL).toArray = as') (hst : stk = argsL.reverse ++ .ref a :: rest) (hW : (rest.map fun v => v.category).sum ≤ W)
    (hd : decode c.code pc = .ok (.invokespecial index, 3)) (hc : cells + rm.cells ≤ R.cells) (hs : slots + rm.slots ≤ R.slots)
    (k : ∀ T' h' v L, Stand p l e R s m args below meth c T' (locs ++ L) (cells + rm.cells) (slots + rm.slots) → T'.heap = h' → Q v h' L → G (T'.setTop (mkF m (pc + 3) Ls (v.toList ++ rest)))) : G (T.setTop (mkF m pc Ls stk)) := by
  obtain ⟨v, _, ⟨T1, L1, k1, n1⟩, -, X1, ⟨L, hQ, rfl, rfl, rfl⟩, st⟩ := X.specialBack hx (y := y) hy1 hown (mvT hZ w1) (mvT hZ w2) (mvT hZ w4) hy (backOf (W := W) hM hZ w4 w3 hf hlo) (g := mkF m pc Ls stk) rfl hsize (Steps.refl _) (a := a) (argsL := argsL) (rest := rest) hlen hst (by show 2 * 0 + _ ≤ _; rw [Nat.mul_zero, Nat.zero_add]; exact hW) hd (fun _ _ => ⟨has, eT, hc, hs⟩)
  exact hG _ _ (fun t kk => st.trans kk) (k T1 _ v L X1 rfl hQ)
theorem own_callV {C : String} (X : Stand p l e R s m args below meth c T locs cells slots) (hx : p.tables.exec = Jvm.exec) (hZ : Z.Warmed39 s.vm) (hG : own_Bk p e below G) (hown : s.vm.findClass own = some m.cls)
    (w1 : (Jvm.Cond.methodLink own index y).before a0 Z = true) (w2 : (Jvm.Cond.declares y).before a0 Z = true) (w3 : (Jvm.Cond.selects C y y).before a0 Z = true) (w4 : (Jvm.Cond.instanceMethod y).before a0 Z = true) (w5 : (Jvm.Cond.initialized y.cls).before a0 Z = true) (w6 : (Jvm.Cond.code y bytes maxL ret).before a0 Z = true)
    (hy : y.cls ≠ "java/lang/invoke/MethodHandle" ∧ y.cls ≠ "java/lang/invoke/VarHandle") (W : Nat) (hM : own_Con l Z y bytes maxL ret [] rm as' h Q) (hf : rm.frames + 1 ≤ R.frames) (hlo : W + (maxL + 11) + rm.locals ≤ R.locals) (eT : T.heap = h) {b : Addr} (E : Exa Z h b C)
    (hsize : Ls.size = c.maxLocals) (hlen : ∀ sig, parseMethodDescriptor y.desc = some sig → argsL.length = sig.parameters.length) (has : (.ref b :: argsL).toArray = as') (hst : stk = argsL.reverse ++ .ref b :: rest) (hW : (rest.map fun v => v.category).sum ≤ W)
    (hd : decode c.code pc = .ok (.invokevirtual index, 3)) (hc : cells + rm.cells ≤ R.cells) (hs : slots + rm.slots ≤ R.slots)
    (k : ∀ T' h' v L, Stand p l e R s m args below meth c T' (locs ++ L) (cells + rm.cells) (slots + rm.slots) → T'.heap = h' → Q v h' L → G (T'.setTop (mkF m (pc + 3) Ls (v.toList ++ rest)))) : G (T.setTop (mkF m pc Ls stk)) := by
  obtain ⟨cq, kq, qa, qb, qc⟩ := isOf hZ eT E
  obtain ⟨v, _, ⟨T1, L1, k1, n1⟩, -, X1, ⟨L, hQ, rfl, rfl, rfl⟩, st⟩ := X.virtualBack hx (y := y) (z := y) hown (mvT hZ w1) (mvT hZ w2) (notFace_of_selects (args := #[]) (mvT hZ w3)) (mvT hZ w3) (mvT hZ w4) hy (backOf (W := W) hM hZ w6 w5 hf hlo) qa qc (g := mkF m pc Ls stk) rfl hsize (Steps.refl _) (argsL := argsL) (rest := rest) hlen hst (by show 2 * 0 + _ ≤ _; rw [Nat.mul_zero, Nat.zero_add]; exact hW) hd (fun _ _ => ⟨has, eT, hc, hs⟩)
  exact hG _ _ (fun t kk => st.trans kk) (k T1 _ v L X1 rfl hQ)
theorem own_callP (X : Stand p l e R s m args below meth c T locs cells slots) (hx : p.tables.exec = Jvm.exec) (hZ : Z.Warmed39 s.vm) (hG : own_Bk p e below G) (hown : s.vm.findClass own = some m.cls)
    (w1 : (Jvm.Cond.methodLink own index y).before a0 Z = true) (w2 : (Jvm.Cond.instanceMethod y).before a0 Z = true) (w3 : (Jvm.Cond.selects y.cls y y).before a0 Z = true) (wp : (Jvm.Cond.privateMethod y).before a0 Z = true) (w5 : (Jvm.Cond.initialized y.cls).before a0 Z = true) (w6 : (Jvm.Cond.code y bytes maxL ret).before a0 Z = true)
    (hy : y.cls ≠ "java/lang/invoke/MethodHandle" ∧ y.cls ≠ "java/lang/invoke/VarHandle") (W : Nat) (hM : own_Con l Z y bytes maxL ret [] rm as' h Q) (hf : rm.frames + 1 ≤ R.frames) (hlo : W + (maxL + 11) + rm.locals ≤ R.locals) (eT : T.heap = h) {b : Addr} {C : String} (E : Exa Z h b C)
    (hsize : Ls.size = c.maxLocals) (hlen : ∀ sig, parseMethodDescriptor y.desc = some sig → argsL.length = sig.parameters.length) (has : (.ref b :: argsL).toArray = as') (hst : stk = argsL.reverse ++ .ref b :: rest) (hW : (rest.map fun v => v.category).sum ≤ W)
    (hd : decode c.code pc = .ok (.invokevirtual index, 3)) (hc : cells + rm.cells ≤ R.cells) (hs : slots + rm.slots ≤ R.slots)
    (k : ∀ T' h' v L, Stand p l e R s m args below meth c T' (locs ++ L) (cells + rm.cells) (slots + rm.slots) → T'.heap = h' → Q v h' L → G (T'.setTop (mkF m (pc + 3) Ls (v.toList ++ rest)))) : G (T.setTop (mkF m pc Ls stk)) := by
  obtain ⟨cell, hc1, hc2⟩ := (Ins.self E).cell
  obtain ⟨v, _, ⟨T1, L1, k1, n1⟩, -, X1, ⟨L, hQ, rfl, rfl, rfl⟩, st⟩ := X.privateBack hx (y := y) hown (mvT hZ w1) (mvT hZ w2) (mvT hZ w3) (Cond.privateMethod_at (mvP hZ wp (args := #[]))) (mvT hZ w6) hy (backOf (W := W) hM hZ w6 w5 hf hlo) (g := mkF m pc Ls stk) rfl hsize (Steps.refl _) (a := b) (by rw [eT]; exact hc1) hc2 (argsL := argsL) (rest := rest) hlen hst (by show 2 * 0 + _ ≤ _; rw [Nat.mul_zero, Nat.zero_add]; exact hW) hd (fun _ _ => ⟨has, eT, hc, hs⟩)
  exact hG _ _ (fun t kk => st.trans kk) (k T1 _ v L X1 rfl hQ)
theorem own_callF {C : String} {count : Nat} (X : Stand p l e R s m args below meth c T locs cells slots) (hx : p.tables.exec = Jvm.exec) (hZ : Z.Warmed39 s.vm) (hG : own_Bk p e below G) (hown : s.vm.findClass own = some m.cls)
    (w1 : (Jvm.Cond.methodLink own index z).before a0 Z = true) (w2 : (Jvm.Cond.declares z).before a0 Z = true) (wf : ∀ s' : State, Z.Warmed39 s'.vm → (Jvm.Cond.interfaceMethod z.cls z.cls z.name z.desc).before args s' = true) (w3 : (Jvm.Cond.selects C z y).before a0 Z = true) (w4 : (Jvm.Cond.instanceMethod y).before a0 Z = true) (wp : (Jvm.Cond.publicMethod y).before a0 Z = true) (wu : (Jvm.Cond.unhidden C z.name z.desc).before a0 Z = true) (wc : (Jvm.Cond.castable C z.cls).before a0 Z = true) (w5 : (Jvm.Cond.initialized y.cls).before a0 Z = true) (w6 : (Jvm.Cond.code y bytes maxL ret).before a0 Z = true)
    (hy : z.cls ≠ "java/lang/invoke/MethodHandle" ∧ z.cls ≠ "java/lang/invoke/VarHandle") (W : Nat) (hM : own_Con l Z y bytes maxL ret [] rm as' h Q) (hf : rm.frames + 1 ≤ R.frames) (hlo : W + (maxL + 11) + rm.locals ≤ R.locals) (eT : T.heap = h) {b : Addr} (E : Exa Z h b C)
    (hsize : Ls.size = c.maxLocals) (hlen : ∀ sig, parseMethodDescriptor z.desc = some sig → argsL.length = sig.parameters.length) (has : (.ref b :: argsL).toArray = as') (hst : stk = argsL.reverse ++ .ref b :: rest) (hW : (rest.map fun v => v.category).sum ≤ W)
    (hd : decode c.code pc = .ok (.invokeinterface index count, 5)) (hc : cells + rm.cells ≤ R.cells) (hs : slots + rm.slots ≤ R.slots)
    (k : ∀ T' h' v L, Stand p l e R s m args below meth c T' (locs ++ L) (cells + rm.cells) (slots + rm.slots) → T'.heap = h' → Q v h' L → G (T'.setTop (mkF m (pc + 5) Ls (v.toList ++ rest)))) : G (T.setTop (mkF m pc Ls stk)) := by
  obtain ⟨cq, kq, qa, qb, qc⟩ := isOf hZ eT E
  obtain ⟨v, _, ⟨T1, L1, k1, n1⟩, -, X1, ⟨L, hQ, rfl, rfl, rfl⟩, st⟩ := X.interfaceBack hx (xi := z) (y := y) hown (mvT hZ w1) (mvT hZ w2) (wf s hZ) (mvT hZ w3) (mvT hZ w4) (mvT hZ wp) (mvT hZ wu) (mvT hZ wc) hy (backOf (W := W) hM hZ w6 w5 hf hlo) qa qb qc (g := mkF m pc Ls stk) rfl hsize (Steps.refl _) (argsL := argsL) (rest := rest) hlen hst (by show 2 * 0 + _ ≤ _; rw [Nat.mul_zero, Nat.zero_add]; exact hW) hd (fun _ _ => ⟨has, eT, hc, hs⟩)
  exact hG _ _ (fun t kk => st.trans kk) (k T1 _ v L X1 rfl hQ)
end Calls
theorem own_entry {G : State → Prop} {n : Nat} {Ls : Array Slot} (q : entryFrame m args n = mkF m 0 Ls []) (k : G (T.setTop (mkF m 0 Ls []))) : G (T.setTop (entryFrame m args n)) := q ▸ k
abbrev own_Old (Z : State) (h : Heap) : Prop := Old Z Z.heap.size h
abbrev own_Fr (Z : State) (L : List Loc) : Prop := Fr Z.heap.size L
theorem own_ge {Z : State} {h : Heap} (O : own_Old Z h) {b : Addr} (q : h.size ≤ b) : Z.heap.size ≤ b := Nat.le_trans O.2.1 q
theorem own_sta {Z : State} {h : Heap} {C n d : String} {v : Value} (S : Sta Z Z.heap C n d v) (O : own_Old Z h) : Sta Z h C n d v := S.ext O.2
theorem own_ne {h : Heap} {a b : Addr} (q : a < h.size) (r : h.size ≤ b) : a ≠ b := Nat.ne_of_lt (Nat.lt_of_lt_of_le q r)
end OwnKit
theorem own_toInt {i : Nat} (h : i < 2147483648) : (Int32.ofNat i).toInt = i := Int32.toInt_ofNat_of_lt (by omega)
theorem own_clamp {i : Nat} (h : i < 2147483648) : (Int32.ofNat i).toNatClampNeg = i := by
  show ((Int32.ofNat i).toInt).toNat = i
  rw [own_toInt h]; rfl
theorem own_inc (i : Nat) : Int32.ofNat i + 1 = Int32.ofNat (i + 1) := (Int32.ofNat_add i 1).symm
theorem own_nn {i : Nat} (h : i < 2147483648) : ¬ Int32.ofNat i < 0 := by
  rw [Int32.lt_iff_toInt_lt, own_toInt h]; simp
theorem own_lt {i n : Nat} (h : i < n) (hn : n < 2147483648) : Int32.ofNat i < Int32.ofNat n := by
  rw [Int32.lt_iff_toInt_lt, own_toInt (by omega), own_toInt hn]; omega
theorem own_nlt {i n : Nat} (h : n ≤ i) (hi : i < 2147483648) : ¬ Int32.ofNat i < Int32.ofNat n := by
  rw [Int32.lt_iff_toInt_lt, own_toInt hi, own_toInt (by omega)]; omega
theorem own_ofNat_inj {i n : Nat} (hi : i < 2147483648) (hn : n < 2147483648) (h : Int32.ofNat i = Int32.ofNat n) : i = n := by
  have := congrArg Int32.toInt h
  rw [own_toInt hi, own_toInt hn] at this; omega
theorem own_getD_set {α : Type} (vs : List α) (i j : Nat) (x d : α) (h : i < vs.length) : (vs.set i x).getD j d = if j = i then x else vs.getD j d := by
  simp only [List.getD_eq_getElem?_getD, List.getElem?_set]
  by_cases e : i = j
  · subst e; simp [h]
  · simp [e, Ne.symm e]
theorem own_getD_map {α β : Type} (f : α → β) (cs : List α) (j : Nat) (d : β) (e : α) (h : j < cs.length) : (cs.map f).getD j d = f (cs.getD j e) := by
  simp [List.getD_eq_getElem?_getD, List.getElem?_map, h]
theorem own_mapEq {α β : Type} (f : α → β) (cs : List α) (vs : List β) (d : β) (e : α) (hl : vs.length = cs.length) (h : ∀ j, j < cs.length → vs.getD j d = f (cs.getD j e)) : vs = cs.map f := by
  apply List.ext_getElem (by simpa using hl)
  intro j h1 h2
  have q := h j (by simpa using h2)
  have h3 : j < cs.length := by simpa using h2
  simp [List.getD_eq_getElem?_getD, h1, h3] at q
  simpa using q
theorem own_narR {t : FieldType} {v : Value} (ht : t.isReference = true) (hv : v.isRef = true) : narrow t v = v := by cases t <;> simp_all [FieldType.isReference, narrow]
theorem own_nb (x : Int32) : nar .byte x.toInt8.toInt32 = x.toInt8.toInt32 := by
  show x.toInt8.toInt32.toInt8.toInt32 = _
  rw [Int8.toInt8_toInt32]
theorem own_nc (x : Int32) : nar .char x.toUInt32.toUInt16.toUInt32.toInt32 = x.toUInt32.toUInt16.toUInt32.toInt32 := by
  simp only [nar, UInt32.toUInt32_toInt32, UInt16.toUInt16_toUInt32]
theorem own_getD_mem {α : Type} (cs : List α) (i : Nat) (d : α) (h : i < cs.length) : cs.getD i d ∈ cs := by
  rw [List.getD_eq_getElem?_getD, List.getElem?_eq_getElem h]; exact List.getElem_mem h
theorem own_alln {α : Type} {P : α → Prop} : ∀ c ∈ ([] : List α), P c := fun _ q => nomatch q
theorem own_allc {α : Type} {P : α → Prop} {x : α} {L : List α} (q : P x) (r : ∀ c ∈ L, P c) : ∀ c ∈ x :: L, P c := fun c z => (List.mem_cons.mp z).elim (fun u => u ▸ q) (r c)
theorem own_and255 (x : Int32) : 0 ≤ (x &&& 255).toInt ∧ (x &&& 255).toInt ≤ 255 := by
  rw [c_mask x 255 8 (by decide) (by decide)]
  have h1 := Int.emod_nonneg x.toInt (show ((2 ^ 8 : Nat) : Int) ≠ 0 by decide)
  have h2 := Int.emod_lt_of_pos x.toInt (show (0 : Int) < ((2 ^ 8 : Nat) : Int) by decide)
  omega
theorem own_mask8 {x c : Int32} (h : (x &&& 255).toUInt32.toUInt16.toUInt32.toInt32 = c) : 0 ≤ c.toInt ∧ c.toInt ≤ 255 := by
  rw [i2c_mask] at h; subst h; exact own_and255 x
theorem own_narC {c : Int32} (h : 0 ≤ c.toInt ∧ c.toInt ≤ 65535) : nar .char c = c := by
  apply Int32.toInt_inj.mp
  have q := c_i2c c
  show c.toUInt32.toUInt16.toUInt32.toInt32.toInt = c.toInt
  omega
theorem own_le255 {c : Int32} (h : 0 ≤ c.toInt ∧ c.toInt ≤ 255) : ¬ ((255 : Int32) < c) := by
  rw [Int32.lt_iff_toInt_lt]
  have : (255 : Int32).toInt = 255 := by decide
  omega
theorem own_nar8 {c : Int32} (h : 0 ≤ c.toInt ∧ c.toInt ≤ 255) : ¬ ((255 : Int32) < nar .char c) := by
  rw [own_narC ⟨h.1, by omega⟩]; exact own_le255 h
theorem own_setNext {vs : List Value} {cs : List Int32} {i : Nat} (f : Int32 → Value) (d x : Value) (hi : i < vs.length) (hx : x = f (cs.getD i 0)) (hv : ∀ j, j < i → vs.getD j d = f (cs.getD j 0)) : ∀ j, j < i + 1 → (vs.set i x).getD j d = f (cs.getD j 0) := by
  intro j hj
  rw [own_getD_set _ _ _ _ _ hi]
  by_cases e : j = i
  · subst e; rw [if_pos rfl]; exact hx
  · rw [if_neg e]; exact hv j (by omega)
theorem own_fitR {t : FieldType} {v : Value} (ht : t.isReference = true) (hv : v.isRef = true) : fits t v = true := by
  rcases ref_cases hv with rfl | ⟨a, rfl⟩ <;> cases t <;> simp_all [FieldType.isReference, fits]
section OwnKitW
variable {p : Program} {l : Launch} {e : Env} {R : Room} {s : State} {m : MethodId} {args : Array Value} {below : List Frame} {meth : Method} {c : Code} {T : State} {locs : List Loc} {cells slots : Nat} {EL : List (String × Nat)} {Z : State} {a0 : Array Value}
/-- the contract of a body that may load String constants -/
def own_ConW (l : Launch) (Z : State) (EL : List (String × Nat)) (y : MethodName) (bytes : ByteArray) (maxL : Nat) (ret : Option FieldType) (ws : List Jvm.Cond) (rm : Room) (as' : Array Value) (h0 : Heap) (Q : Option Value → Heap → List Loc → Prop) : Prop :=
  MetFree l y (head1 (Jvm.Cond.code y bytes maxL ret :: ws) rm) (fun a U => a = as' ∧ Z.Warmed39 U.vm ∧ U.heap = h0 ∧ CHv Z EL U.vm h0) (fun _ _ _ _ _ => True) (fun _ U o U' => ∃ v L, o = .returned v ∧ Q v U'.heap L ∧ CHr Z EL U.vm U.heap U'.vm U'.heap ∧ ReturnedEndW U o U' L rm.cells rm.slots)
def own_RtW (p : Program) (l : Launch) (e : Env) (Z : State) (EL : List (String × Nat)) (rm : Room) (s : State) (m : MethodId) (as' : Array Value) (below : List Frame) (meth : Method) (c : Code) (ret : Option FieldType) (h0 : Heap) (Q : Option Value → Heap → List Loc → Prop) (G : State → Prop) : Prop :=
  ∀ T locs cells slots v S vm0 k0, Stand p l e rm (s.setVm vm0) m as' below meth c T locs cells slots → s.Since vm0 k0 → k0 ≤ T.heap.size → Z.Warmed39 vm0 → CHr Z EL s.vm h0 vm0 T.heap → cells ≤ rm.cells → slots ≤ rm.slots → (ret = none → v = none) → Q v T.heap locs →
    (∀ fs, (∀ (f : JFrame) (acts : List Action), f.method = m → f.locked = none → f.entered = [] → (doReturn e (T.setTop f) acts v).1 = T.setFrames fs) → Steps p.tables e below S (T.setFrames fs)) → G S
theorem own_introW {y : MethodName} {bytes : ByteArray} {maxL : Nat} {ret : Option FieldType} {ws : List Jvm.Cond} {rm : Room} {as' : Array Value} {h0 : Heap} {Q : Option Value → Heap → List Loc → Prop} (hEL : EW Z a0 EL) (hpn : plainFor y = true)
    (H : ∀ (p : Program) (e : Env) (s : State) (m : MethodId) (below : List Frame) (meth : Method) (c : Code) (s₁ : State) (G : State → Prop), p.tables.exec = Jvm.exec → c.code = bytes → c.maxLocals = maxL → (s.setVm s.vm).vm.findClass y.cls = some m.cls → meth.name = y.name → meth.sig.returnType = ret → Z.Warmed39 (s.setVm s.vm).vm →
      Stand p l e rm (s.setVm s.vm) m as' below meth c s₁ [] 0 0 → s₁.heap = h0 → CHv Z EL s.vm h0 → s.Since s.vm h0.size → own_Bk p e below G → own_RtW p l e Z EL rm s m as' below meth c ret h0 Q G → G (s₁.setTop (entryFrame m as' maxL))) : own_ConW l Z EL y bytes maxL ret ws rm as' h0 Q := by
  refine MetFree.of_bodySF hpn hisR ?_
  intro p e s m args below meth c s₁ Bd hml hP hK
  obtain ⟨rfl, hZ, hh, hC⟩ := hP
  refine H p e s m below meth c s₁ (fun S => ∃ s₂ o, Steps p.tables e below S s₂ ∧ s₂.status = .running ∧ Ended s₂ below o ∧ ∃ v L, o = .returned v ∧ Q v s₂.heap L ∧ CHr Z EL s.vm s.heap s₂.vm s₂.heap ∧ ReturnedEndW s o s₂ L rm.cells rm.slots) Bd.exec Bd.bytes hml (findClass_of_methodNamed Bd.named) (name_of_methodNamed Bd.named Bd.method).1 Bd.returns hZ (Stand.of_body Bd) (by rw [← hh, Bd.state]; rfl) hC ((State.WarmedH.refl s).since _) ?_ ?_
  · rintro S S' st ⟨s₂, o, h1, h2⟩
    exact ⟨s₂, o, st _ h1, h2⟩
  · intro T locs cells slots v S vm0 k0 X hS hk hZ0 hC0 hc hs hv hQ hst
    obtain ⟨fs, hr, hrun, hended, hW, hsame⟩ := X.leave (v := v) (fun h => hv (Bd.returns ▸ h)) Bd.notSynchronized
    obtain ⟨q1, q2, q3⟩ := hS.ended (U := T.setFrames fs) hW hk hsame
    have hA : CHr Z EL vm0 T.heap T.vm T.heap := CHv.at X hZ0 hEL hC0.1
    refine ⟨_, _, hst fs hr, hrun, hended, v, locs, rfl, hQ, ?_, ⟨_, rfl⟩, q1, q2, q3.mono hc hs⟩
    rw [hh]
    exact hC0.trans hA
section Rets
variable {Q : Option Value → Heap → List Loc → Prop} {G : State → Prop} {pc : Nat} {Ls : Array Slot} {rest : List Value} {h0 h : Heap} {vm0 : Vm} {k0 : Nat}
theorem own_retVW (hR : own_RtW p l e Z EL R s m args below meth c none h0 Q G) (hret : meth.sig.returnType = none) (X : Stand p l e R (s.setVm vm0) m args below meth c T locs cells slots) (hx : p.tables.exec = Jvm.exec) (hd : decode c.code pc = .ok (.return_, 1)) (eT : T.heap = h) (hS : s.Since vm0 k0) (hk : k0 ≤ h.size) (hZ : Z.Warmed39 (s.setVm vm0).vm) (hC : CHr Z EL s.vm h0 vm0 h) (hc : cells ≤ R.cells) (hs : slots ≤ R.slots) (hQ : Q none h locs) : G (T.setTop (mkF m pc Ls [])) :=
  hR T locs cells slots none _ vm0 k0 X hS (by rw [eT]; exact hk) hZ (by rw [eT]; exact hC) hc hs (fun _ => rfl) (by rw [eT]; exact hQ) fun fs hr => X.returnOut hx hret hd hr
theorem own_retAW {t : FieldType} {v : Value} (hR : own_RtW p l e Z EL R s m args below meth c (some t) h0 Q G) (hret : meth.sig.returnType = some t) (ht : t.isReference = true) (hv : v.isRef = true) (X : Stand p l e R (s.setVm vm0) m args below meth c T locs cells slots) (hx : p.tables.exec = Jvm.exec) (hd : decode c.code pc = .ok (.areturn, 1)) (eT : T.heap = h) (hS : s.Since vm0 k0) (hk : k0 ≤ h.size) (hZ : Z.Warmed39 (s.setVm vm0).vm) (hC : CHr Z EL s.vm h0 vm0 h) (hc : cells ≤ R.cells) (hs : slots ≤ R.slots) (hQ : Q (some v) h locs) : G (T.setTop (mkF m pc Ls (v :: rest))) :=
  hR T locs cells slots (some v) _ vm0 k0 X hS (by rw [eT]; exact hk) hZ (by rw [eT]; exact hC) hc hs (fun h => nomatch h) (by rw [eT]; exact hQ) fun fs hr => retOut X hx hret (by cases t <;> simp_all [FieldType.isReference, narrow]) (Or.inr (Or.inr (Or.inr (Or.inr ⟨rfl, ht, hv⟩)))) hd hr
theorem own_retNW {z : Int32} {t : FieldType} (hR : own_RtW p l e Z EL R s m args below meth c (some t) h0 Q G) (hret : meth.sig.returnType = some t) (ht : t = .boolean ∨ t = .byte ∨ t = .char ∨ t = .short) (X : Stand p l e R (s.setVm vm0) m args below meth c T locs cells slots) (hx : p.tables.exec = Jvm.exec) (hd : decode c.code pc = .ok (.ireturn, 1)) (eT : T.heap = h) (hS : s.Since vm0 k0) (hk : k0 ≤ h.size) (hZ : Z.Warmed39 (s.setVm vm0).vm) (hC : CHr Z EL s.vm h0 vm0 h) (hc : cells ≤ R.cells) (hs : slots ≤ R.slots) (hQ : Q (some (.int (nar t z))) h locs) : G (T.setTop (mkF m pc Ls (.int z :: rest))) :=
  hR T locs cells slots (some (.int (nar t z))) _ vm0 k0 X hS (by rw [eT]; exact hk) hZ (by rw [eT]; exact hC) hc hs (fun h => nomatch h) (by rw [eT]; exact hQ) fun fs hr => retN X hx hret ht hd hr
end Rets
section Calls
variable {own : String} {index : Nat} {y : MethodName} {bytes : ByteArray} {maxL : Nat} {ret : Option FieldType} {rm : Room} {as' : Array Value} {h : Heap} {Q : Option Value → Heap → List Loc → Prop} {G : State → Prop} {pc : Nat} {Ls : Array Slot} {stk argsL rest : List Value} {vm0 : Vm} {k0 : Nat}
theorem own_callSW (X : Stand p l e R (s.setVm vm0) m args below meth c T locs cells slots) (hx : p.tables.exec = Jvm.exec) (hZ : Z.Warmed39 (s.setVm vm0).vm) (hG : own_Bk p e below G) (hown : (s.setVm vm0).vm.findClass own = some m.cls)
    (w1 : (Jvm.Cond.methodLink own index y).before a0 Z = true) (w2 : (Jvm.Cond.static y).before a0 Z = true) (w3 : (Jvm.Cond.initialized y.cls).before a0 Z = true) (w4 : (Jvm.Cond.code y bytes maxL ret).before a0 Z = true)
    (hy : y.cls ≠ "java/lang/invoke/MethodHandle" ∧ y.cls ≠ "java/lang/invoke/VarHandle") (W : Nat) (hM : own_ConW l Z EL y bytes maxL ret [] rm as' h Q) (hf : rm.frames + 1 ≤ R.frames) (hlo : W + (maxL + 11) + rm.locals ≤ R.locals) (eT : T.heap = h)
    (hS : s.Since vm0 k0) (hk : k0 ≤ h.size) (hEL : EW Z a0 EL) (H : CHv Z EL vm0 h)
    (hsize : Ls.size = c.maxLocals) (hlen : ∀ sig, parseMethodDescriptor y.desc = some sig → argsL.length = sig.parameters.length) (has : argsL.toArray = as') (hst : stk = argsL.reverse ++ rest) (hW : (rest.map fun v => v.category).sum ≤ W)
    (hd : decode c.code pc = .ok (.invokestatic index, 3)) (hc : cells + rm.cells ≤ R.cells) (hs : slots + rm.slots ≤ R.slots)
    (k : ∀ T' h' v L, Stand p l e R (s.setVm T'.vm) m args below meth c T' (locs ++ L) (cells + rm.cells) (slots + rm.slots) → T'.heap = h' → s.Since T'.vm h'.size → Z.Warmed39 (s.setVm T'.vm).vm → (s.setVm T'.vm).vm.findClass own = some m.cls → CHr Z EL vm0 h T'.vm h' → Q v h' L → G (T'.setTop (mkF m (pc + 3) Ls (v.toList ++ rest)))) : G (T.setTop (mkF m pc Ls stk)) := by
  obtain ⟨v, _, ⟨T1, L1, k1, n1⟩, -, X1, hS1, hg1, ⟨L, hQ, rfl, rfl, rfl, hC⟩, st⟩ := callSS X hx (y := y) hown (mvT hZ w1) (mvT hZ w2) (mvT hZ w3) (mvT hZ w4) hy (backOfSH (W := W) hM hZ w4 w3 hf hlo hEL H) (g := mkF m pc Ls stk) rfl hsize (argsL := argsL) (rest := rest) hlen hst (by show 2 * 0 + _ ≤ _; rw [Nat.mul_zero, Nat.zero_add]; exact hW) hd (fun _ _ => ⟨has, eT, hc, hs⟩)
  obtain ⟨X2, hS2, hZ2, hown2⟩ := rebS hS (by rw [eT]; exact hk) X1 hS1 hg1 hZ hown
  exact hG _ _ (fun t kk => st.trans kk) (k T1 _ v L X2 rfl hS2 hZ2 hown2 hC hQ)
theorem own_callIW (X : Stand p l e R (s.setVm vm0) m args below meth c T locs cells slots) (hx : p.tables.exec = Jvm.exec) (hZ : Z.Warmed39 (s.setVm vm0).vm) (hG : own_Bk p e below G) (hown : (s.setVm vm0).vm.findClass own = some m.cls) (hy1 : y.name = "<init>")
    (w1 : (Jvm.Cond.methodLink own index y).before a0 Z = true) (w2 : (Jvm.Cond.instanceMethod y).before a0 Z = true) (w3 : (Jvm.Cond.initialized y.cls).before a0 Z = true) (w4 : (Jvm.Cond.code y bytes maxL none).before a0 Z = true)
    (hy : y.cls ≠ "java/lang/invoke/MethodHandle" ∧ y.cls ≠ "java/lang/invoke/VarHandle") (W : Nat) (hM : own_ConW l Z EL y bytes maxL none [] rm as' h Q) (hf : rm.frames + 1 ≤ R.frames) (hlo : W + (maxL + 11) + rm.locals ≤ R.locals) (eT : T.heap = h)
    (hS : s.Since vm0 k0) (hk : k0 ≤ h.size) (hEL : EW Z a0 EL) (H : CHv Z EL vm0 h)
    (hsize : Ls.size = c.maxLocals) (hlen : ∀ sig, parseMethodDescriptor y.desc = some sig → argsL.length = sig.parameters.length) {a : Addr} (has : (.ref a :: argsL).toArray = as') (hst : stk = argsL.reverse ++ .ref a :: rest) (hW : (rest.map fun v => v.category).sum ≤ W)
    (hd : decode c.code pc = .ok (.invokespecial index, 3)) (hc : cells + rm.cells ≤ R.cells) (hs : slots + rm.slots ≤ R.slots)
    (k : ∀ T' h' v L, Stand p l e R (s.setVm T'.vm) m args below meth c T' (locs ++ L) (cells + rm.cells) (slots + rm.slots) → T'.heap = h' → s.Since T'.vm h'.size → Z.Warmed39 (s.setVm T'.vm).vm → (s.setVm T'.vm).vm.findClass own = some m.cls → CHr Z EL vm0 h T'.vm h' → Q v h' L → G (T'.setTop (mkF m (pc + 3) Ls (v.toList ++ rest)))) : G (T.setTop (mkF m pc Ls stk)) := by
  obtain ⟨v, _, ⟨T1, L1, k1, n1⟩, -, X1, hS1, hg1, ⟨L, hQ, rfl, rfl, rfl, hC⟩, st⟩ := X.specialBackS hx (y := y) hy1 hown (mvT hZ w1) (mvT hZ w2) (mvT hZ w4) hy (backOfSH (W := W) hM hZ w4 w3 hf hlo hEL H) (g := mkF m pc Ls stk) rfl hsize (Steps.refl _) (a := a) (argsL := argsL) (rest := rest) hlen hst (by show 2 * 0 + _ ≤ _; rw [Nat.mul_zero, Nat.zero_add]; exact hW) hd (fun _ _ => ⟨has, eT, hc, hs⟩)
  obtain ⟨X2, hS2, hZ2, hown2⟩ := rebS hS (by rw [eT]; exact hk) X1 hS1 hg1 hZ hown
  exact hG _ _ (fun t kk => st.trans kk) (k T1 _ v L X2 rfl hS2 hZ2 hown2 hC hQ)
theorem own_callVW {C : String} (X : Stand p l e R (s.setVm vm0) m args below meth c T locs cells slots) (hx : p.tables.exec = Jvm.exec) (hZ : Z.Warmed39 (s.setVm vm0).vm) (hG : own_Bk p e below G) (hown : (s.setVm vm0).vm.findClass own = some m.cls)
    (w1 : (Jvm.Cond.methodLink own index y).before a0 Z = true) (w2 : (Jvm.Cond.declares y).before a0 Z = true) (w3 : (Jvm.Cond.selects C y y).before a0 Z = true) (w4 : (Jvm.Cond.instanceMethod y).before a0 Z = true) (w5 : (Jvm.Cond.initialized y.cls).before a0 Z = true) (w6 : (Jvm.Cond.code y bytes maxL ret).before a0 Z = true)
    (hy : y.cls ≠ "java/lang/invoke/MethodHandle" ∧ y.cls ≠ "java/lang/invoke/VarHandle") (W : Nat) (hM : own_ConW l Z EL y bytes maxL ret [] rm as' h Q) (hf : rm.frames + 1 ≤ R.frames) (hlo : W + (maxL + 11) + rm.locals ≤ R.locals) (eT : T.heap = h)
    (hS : s.Since vm0 k0) (hk : k0 ≤ h.size) (hEL : EW Z a0 EL) (H : CHv Z EL vm0 h) {b : Addr} (E : Exa Z h b C)
    (hsize : Ls.size = c.maxLocals) (hlen : ∀ sig, parseMethodDescriptor y.desc = some sig → argsL.length = sig.parameters.length) (has : (.ref b :: argsL).toArray = as') (hst : stk = argsL.reverse ++ .ref b :: rest) (hW : (rest.map fun v => v.category).sum ≤ W)
    (hd : decode c.code pc = .ok (.invokevirtual index, 3)) (hc : cells + rm.cells ≤ R.cells) (hs : slots + rm.slots ≤ R.slots)
    (k : ∀ T' h' v L, Stand p l e R (s.setVm T'.vm) m args below meth c T' (locs ++ L) (cells + rm.cells) (slots + rm.slots) → T'.heap = h' → s.Since T'.vm h'.size → Z.Warmed39 (s.setVm T'.vm).vm → (s.setVm T'.vm).vm.findClass own = some m.cls → CHr Z EL vm0 h T'.vm h' → Q v h' L → G (T'.setTop (mkF m (pc + 3) Ls (v.toList ++ rest)))) : G (T.setTop (mkF m pc Ls stk)) := by
  obtain ⟨cq, kq, qa, qb, qc⟩ := isOf hZ eT E
  obtain ⟨v, _, ⟨T1, L1, k1, n1⟩, -, X1, hS1, hg1, ⟨L, hQ, rfl, rfl, rfl, hC⟩, st⟩ := X.virtualBackS hx (y := y) (z := y) hown (mvT hZ w1) (mvT hZ w2) (notFace_of_selects (args := #[]) (mvT hZ w3)) (mvT hZ w3) (mvT hZ w4) hy (backOfSH (W := W) hM hZ w6 w5 hf hlo hEL H) qa qc (g := mkF m pc Ls stk) rfl hsize (Steps.refl _) (argsL := argsL) (rest := rest) hlen hst (by show 2 * 0 + _ ≤ _; rw [Nat.mul_zero, Nat.zero_add]; exact hW) hd (fun _ _ => ⟨has, eT, hc, hs⟩)
  obtain ⟨X2, hS2, hZ2, hown2⟩ := rebS hS (by rw [eT]; exact hk) X1 hS1 hg1 hZ hown
  exact hG _ _ (fun t kk => st.trans kk) (k T1 _ v L X2 rfl hS2 hZ2 hown2 hC hQ)
end Calls
/-- a String whose value is still null is none that the JVM holds for a constant -/
theorem own_safeStr {vm : Vm} {h : Heap} {a : Addr} (hal : Z.vm.Alike vm) (E : Exa Z h a "java/lang/String") (F : Fld Z h a "java/lang/String" "value" "[B" .null) : Safe Z EL vm h a := fun B => by
  obtain ⟨p0, hp0, u, a', hb, q, hqa, S, hy⟩ := B
  obtain ⟨cS, ⟨⟨s1, s2, s3, ⟨cv, kv, iv, s4, s4'⟩, ⟨cc, kc, ic, s5, s5'⟩, s6, s7, s8, s9, s10, -⟩, hfS, hcS⟩, -, hB, -⟩ := S
  obtain ⟨kv', z4⟩ := ff_back (U := Wst Z vm h) hal s4
  rcases hy with rfl | rfl
  · have G : Fld Z h q.sa "java/lang/String" "value" "[B" (.ref q.sd) := ⟨q.sC, cv, kv', iv, q.fSV, s1, z4, s6, s2, s3, by rw [← hal.assignable]; exact s4', s8⟩
    exact Fld.ne F G (by simp) rfl
  · obtain ⟨cell, k, e1, e2, -⟩ := E
    have s10' : h[q.sd]? = some q.SA := s10
    cases s10'.symm.trans e1
    have hB' : vm.findClass "[B" = some q.SA.cls := hB
    have hBZ : Z.vm.findClass "[B" = some q.SA.cls := by rw [← hal.findClass]; exact hB'
    obtain ⟨k1, x1, x2⟩ := Vm.findClass_spec e2
    obtain ⟨k2, y1, y2⟩ := Vm.findClass_spec hBZ
    cases x1.symm.trans y1
    exact absurd (x2.symm.trans y2) (by decide)
theorem own_safeArv {vm : Vm} {h : Heap} {a : Addr} {k : ClassId} {ty : FieldType} {z : Int32} {vs : List Value} {d : Value} (hal : Z.vm.Alike vm) (A : Arv Z h a k ty z vs d) (ht : ty ≠ .byte) : Safe Z EL vm h a := by
  obtain ⟨cl, Ar, -⟩ := A
  exact Safe.arr hal Ar ht
end OwnKitW

theorem own_d1_0 : decode method_3_code 0 = .ok (.iload_n 0, 1) := by decide +kernel
theorem own_d1_1 : decode method_3_code 1 = .ok (.sipush 255, 3) := by decide +kernel
theorem own_d1_4 : decode method_3_code 4 = .ok (.iand, 1) := by decide +kernel
theorem own_d1_5 : decode method_3_code 5 = .ok (.i2c, 1) := by decide +kernel
theorem own_d1_6 : decode method_3_code 6 = .ok (.istore_n 2, 1) := by decide +kernel
theorem own_d1_7 : decode method_3_code 7 = .ok (.iload_n 0, 1) := by decide +kernel
theorem own_d1_8 : decode method_3_code 8 = .ok (.bipush 8, 2) := by decide +kernel
theorem own_d1_10 : decode method_3_code 10 = .ok (.iushr, 1) := by decide +kernel
theorem own_d1_11 : decode method_3_code 11 = .ok (.sipush 255, 3) := by decide +kernel
theorem own_d1_14 : decode method_3_code 14 = .ok (.iand, 1) := by decide +kernel
theorem own_d1_15 : decode method_3_code 15 = .ok (.i2c, 1) := by decide +kernel
theorem own_d1_16 : decode method_3_code 16 = .ok (.istore_n 3, 1) := by decide +kernel
theorem own_d1_17 : decode method_3_code 17 = .ok (.iload_n 1, 1) := by decide +kernel
theorem own_d1_18 : decode method_3_code 18 = .ok (.ifCond .ne 14, 3) := by decide +kernel
theorem own_d1_21 : decode method_3_code 21 = .ok (.new 8, 3) := by decide +kernel
theorem own_d1_24 : decode method_3_code 24 = .ok (.dup, 1) := by decide +kernel
theorem own_d1_25 : decode method_3_code 25 = .ok (.iconst 0, 1) := by decide +kernel
theorem own_d1_26 : decode method_3_code 26 = .ok (.newarray .char, 2) := by decide +kernel
theorem own_d1_28 : decode method_3_code 28 = .ok (.invokespecial 13, 3) := by decide +kernel
theorem own_d1_31 : decode method_3_code 31 = .ok (.areturn, 1) := by decide +kernel
theorem own_d1_32 : decode method_3_code 32 = .ok (.iload_n 1, 1) := by decide +kernel
theorem own_d1_33 : decode method_3_code 33 = .ok (.iconst 1, 1) := by decide +kernel
theorem own_d1_34 : decode method_3_code 34 = .ok (.if_icmp .ne 8, 3) := by decide +kernel
theorem own_d1_37 : decode method_3_code 37 = .ok (.iload_n 2, 1) := by decide +kernel
theorem own_d1_38 : decode method_3_code 38 = .ok (.invokestatic 16, 3) := by decide +kernel
theorem own_d1_41 : decode method_3_code 41 = .ok (.areturn, 1) := by decide +kernel
theorem own_d1_42 : decode method_3_code 42 = .ok (.new 8, 3) := by decide +kernel
theorem own_d1_45 : decode method_3_code 45 = .ok (.dup, 1) := by decide +kernel
theorem own_d1_46 : decode method_3_code 46 = .ok (.iconst 2, 1) := by decide +kernel
theorem own_d1_47 : decode method_3_code 47 = .ok (.newarray .char, 2) := by decide +kernel
theorem own_d1_49 : decode method_3_code 49 = .ok (.dup, 1) := by decide +kernel
theorem own_d1_50 : decode method_3_code 50 = .ok (.iconst 0, 1) := by decide +kernel
theorem own_d1_51 : decode method_3_code 51 = .ok (.iload_n 2, 1) := by decide +kernel
theorem own_d1_52 : decode method_3_code 52 = .ok (.castore, 1) := by decide +kernel
theorem own_d1_53 : decode method_3_code 53 = .ok (.dup, 1) := by decide +kernel
theorem own_d1_54 : decode method_3_code 54 = .ok (.iconst 1, 1) := by decide +kernel
theorem own_d1_55 : decode method_3_code 55 = .ok (.iload_n 3, 1) := by decide +kernel
theorem own_d1_56 : decode method_3_code 56 = .ok (.castore, 1) := by decide +kernel
theorem own_d1_57 : decode method_3_code 57 = .ok (.invokespecial 13, 3) := by decide +kernel
theorem own_d1_60 : decode method_3_code 60 = .ok (.areturn, 1) := by decide +kernel
theorem own_d2_0 : decode jdk_42_method_3_code 0 = .ok (.aload_n 0, 1) := by decide +kernel
theorem own_d2_1 : decode jdk_42_method_3_code 1 = .ok (.aload_n 1, 1) := by decide +kernel
theorem own_d2_2 : decode jdk_42_method_3_code 2 = .ok (.iconst 0, 1) := by decide +kernel
theorem own_d2_3 : decode jdk_42_method_3_code 3 = .ok (.aload_n 1, 1) := by decide +kernel
theorem own_d2_4 : decode jdk_42_method_3_code 4 = .ok (.arraylength, 1) := by decide +kernel
theorem own_d2_5 : decode jdk_42_method_3_code 5 = .ok (.aconst_null, 1) := by decide +kernel
theorem own_d2_6 : decode jdk_42_method_3_code 6 = .ok (.invokespecial 27, 3) := by decide +kernel
theorem own_d2_9 : decode jdk_42_method_3_code 9 = .ok (.return_, 1) := by decide +kernel
theorem own_d3_0 : decode jdk_42_method_149_code 0 = .ok (.aload_n 0, 1) := by decide +kernel
theorem own_d3_1 : decode jdk_42_method_149_code 1 = .ok (.invokespecial 1, 3) := by decide +kernel
theorem own_d3_4 : decode jdk_42_method_149_code 4 = .ok (.iload_n 3, 1) := by decide +kernel
theorem own_d3_5 : decode jdk_42_method_149_code 5 = .ok (.ifCond .ne 22, 3) := by decide +kernel
theorem own_d3_8 : decode jdk_42_method_149_code 8 = .ok (.aload_n 0, 1) := by decide +kernel
theorem own_d3_9 : decode jdk_42_method_149_code 9 = .ok (.ldc 7, 2) := by decide +kernel
theorem own_d3_11 : decode jdk_42_method_149_code 11 = .ok (.getfield 9, 3) := by decide +kernel
theorem own_d3_14 : decode jdk_42_method_149_code 14 = .ok (.putfield 9, 3) := by decide +kernel
theorem own_d3_17 : decode jdk_42_method_149_code 17 = .ok (.aload_n 0, 1) := by decide +kernel
theorem own_d3_18 : decode jdk_42_method_149_code 18 = .ok (.ldc 7, 2) := by decide +kernel
theorem own_d3_20 : decode jdk_42_method_149_code 20 = .ok (.getfield 15, 3) := by decide +kernel
theorem own_d3_23 : decode jdk_42_method_149_code 23 = .ok (.putfield 15, 3) := by decide +kernel
theorem own_d3_26 : decode jdk_42_method_149_code 26 = .ok (.return_, 1) := by decide +kernel
theorem own_d3_27 : decode jdk_42_method_149_code 27 = .ok (.getstatic 38, 3) := by decide +kernel
theorem own_d3_30 : decode jdk_42_method_149_code 30 = .ok (.ifCond .eq 28, 3) := by decide +kernel
theorem own_d3_33 : decode jdk_42_method_149_code 33 = .ok (.aload_n 1, 1) := by decide +kernel
theorem own_d3_34 : decode jdk_42_method_149_code 34 = .ok (.iload_n 2, 1) := by decide +kernel
theorem own_d3_35 : decode jdk_42_method_149_code 35 = .ok (.iload_n 3, 1) := by decide +kernel
theorem own_d3_36 : decode jdk_42_method_149_code 36 = .ok (.invokestatic 177, 3) := by decide +kernel
theorem own_d3_39 : decode jdk_42_method_149_code 39 = .ok (.astore 5, 2) := by decide +kernel
theorem own_d3_41 : decode jdk_42_method_149_code 41 = .ok (.aload_n 0, 1) := by decide +kernel
theorem own_d3_42 : decode jdk_42_method_149_code 42 = .ok (.aload 5, 2) := by decide +kernel
theorem own_d3_44 : decode jdk_42_method_149_code 44 = .ok (.iload_n 3, 1) := by decide +kernel
theorem own_d3_45 : decode jdk_42_method_149_code 45 = .ok (.invokestatic 47, 3) := by decide +kernel
theorem own_d3_48 : decode jdk_42_method_149_code 48 = .ok (.putfield 15, 3) := by decide +kernel
theorem own_d3_51 : decode jdk_42_method_149_code 51 = .ok (.aload_n 0, 1) := by decide +kernel
theorem own_d3_52 : decode jdk_42_method_149_code 52 = .ok (.aload 5, 2) := by decide +kernel
theorem own_d3_54 : decode jdk_42_method_149_code 54 = .ok (.putfield 9, 3) := by decide +kernel
theorem own_d3_57 : decode jdk_42_method_149_code 57 = .ok (.return_, 1) := by decide +kernel
theorem own_d5_0 : decode jdk_52_method_16_code 0 = .ok (.iload_n 2, 1) := by decide +kernel
theorem own_d5_1 : decode jdk_52_method_16_code 1 = .ok (.newarray .byte, 2) := by decide +kernel
theorem own_d5_3 : decode jdk_52_method_16_code 3 = .ok (.astore_n 3, 1) := by decide +kernel
theorem own_d5_4 : decode jdk_52_method_16_code 4 = .ok (.aload_n 0, 1) := by decide +kernel
theorem own_d5_5 : decode jdk_52_method_16_code 5 = .ok (.iload_n 1, 1) := by decide +kernel
theorem own_d5_6 : decode jdk_52_method_16_code 6 = .ok (.aload_n 3, 1) := by decide +kernel
theorem own_d5_7 : decode jdk_52_method_16_code 7 = .ok (.iconst 0, 1) := by decide +kernel
theorem own_d5_8 : decode jdk_52_method_16_code 8 = .ok (.iload_n 2, 1) := by decide +kernel
theorem own_d5_9 : decode jdk_52_method_16_code 9 = .ok (.invokestatic 115, 3) := by decide +kernel
theorem own_d5_12 : decode jdk_52_method_16_code 12 = .ok (.istore 4, 2) := by decide +kernel
theorem own_d5_14 : decode jdk_52_method_16_code 14 = .ok (.iload 4, 2) := by decide +kernel
theorem own_d5_16 : decode jdk_52_method_16_code 16 = .ok (.iload_n 2, 1) := by decide +kernel
theorem own_d5_17 : decode jdk_52_method_16_code 17 = .ok (.if_icmp .eq 40, 3) := by decide +kernel
theorem own_d5_57 : decode jdk_52_method_16_code 57 = .ok (.aload_n 3, 1) := by decide +kernel
theorem own_d5_58 : decode jdk_52_method_16_code 58 = .ok (.areturn, 1) := by decide +kernel
theorem own_d6_0 : decode jdk_52_method_21_code 0 = .ok (.iconst 0, 1) := by decide +kernel
theorem own_d6_1 : decode jdk_52_method_21_code 1 = .ok (.istore 5, 2) := by decide +kernel
theorem own_d6_3 : decode jdk_52_method_21_code 3 = .ok (.iload 5, 2) := by decide +kernel
theorem own_d6_5 : decode jdk_52_method_21_code 5 = .ok (.iload 4, 2) := by decide +kernel
theorem own_d6_7 : decode jdk_52_method_21_code 7 = .ok (.if_icmp .ge 37, 3) := by decide +kernel
theorem own_d6_10 : decode jdk_52_method_21_code 10 = .ok (.aload_n 0, 1) := by decide +kernel
theorem own_d6_11 : decode jdk_52_method_21_code 11 = .ok (.iload_n 1, 1) := by decide +kernel
theorem own_d6_12 : decode jdk_52_method_21_code 12 = .ok (.caload, 1) := by decide +kernel
theorem own_d6_13 : decode jdk_52_method_21_code 13 = .ok (.istore 6, 2) := by decide +kernel
theorem own_d6_15 : decode jdk_52_method_21_code 15 = .ok (.iload 6, 2) := by decide +kernel
theorem own_d6_17 : decode jdk_52_method_21_code 17 = .ok (.sipush 255, 3) := by decide +kernel
theorem own_d6_20 : decode jdk_52_method_21_code 20 = .ok (.if_icmp .le 6, 3) := by decide +kernel
theorem own_d6_26 : decode jdk_52_method_21_code 26 = .ok (.aload_n 2, 1) := by decide +kernel
theorem own_d6_27 : decode jdk_52_method_21_code 27 = .ok (.iload_n 3, 1) := by decide +kernel
theorem own_d6_28 : decode jdk_52_method_21_code 28 = .ok (.iload 6, 2) := by decide +kernel
theorem own_d6_30 : decode jdk_52_method_21_code 30 = .ok (.i2b, 1) := by decide +kernel
theorem own_d6_31 : decode jdk_52_method_21_code 31 = .ok (.bastore, 1) := by decide +kernel
theorem own_d6_32 : decode jdk_52_method_21_code 32 = .ok (.iinc 1 1, 3) := by decide +kernel
theorem own_d6_35 : decode jdk_52_method_21_code 35 = .ok (.iinc 3 1, 3) := by decide +kernel
theorem own_d6_38 : decode jdk_52_method_21_code 38 = .ok (.iinc 5 1, 3) := by decide +kernel
theorem own_d6_41 : decode jdk_52_method_21_code 41 = .ok (.goto (-38), 3) := by decide +kernel
theorem own_d6_44 : decode jdk_52_method_21_code 44 = .ok (.iload 4, 2) := by decide +kernel
theorem own_d6_46 : decode jdk_52_method_21_code 46 = .ok (.ireturn, 1) := by decide +kernel
theorem own_d7_0 : decode jdk_52_method_15_code 0 = .ok (.iload_n 1, 1) := by decide +kernel
theorem own_d7_1 : decode jdk_52_method_15_code 1 = .ok (.aload_n 0, 1) := by decide +kernel
theorem own_d7_2 : decode jdk_52_method_15_code 2 = .ok (.arraylength, 1) := by decide +kernel
theorem own_d7_3 : decode jdk_52_method_15_code 3 = .ok (.isub, 1) := by decide +kernel
theorem own_d7_4 : decode jdk_52_method_15_code 4 = .ok (.bipush 31, 2) := by decide +kernel
theorem own_d7_6 : decode jdk_52_method_15_code 6 = .ok (.iushr, 1) := by decide +kernel
theorem own_d7_7 : decode jdk_52_method_15_code 7 = .ok (.i2b, 1) := by decide +kernel
theorem own_d7_8 : decode jdk_52_method_15_code 8 = .ok (.ireturn, 1) := by decide +kernel
theorem own_d8_0 : decode prog_29_method_4_code 0 = .ok (.new 10, 3) := by decide +kernel
theorem own_d8_3 : decode prog_29_method_4_code 3 = .ok (.dup, 1) := by decide +kernel
theorem own_d8_4 : decode prog_29_method_4_code 4 = .ok (.getstatic 47, 3) := by decide +kernel
theorem own_d8_7 : decode prog_29_method_4_code 7 = .ok (.aconst_null, 1) := by decide +kernel
theorem own_d8_8 : decode prog_29_method_4_code 8 = .ok (.lconst 0, 1) := by decide +kernel
theorem own_d8_9 : decode prog_29_method_4_code 9 = .ok (.aload_n 0, 1) := by decide +kernel
theorem own_d8_10 : decode prog_29_method_4_code 10 = .ok (.aload_n 1, 1) := by decide +kernel
theorem own_d8_11 : decode prog_29_method_4_code 11 = .ok (.aconst_null, 1) := by decide +kernel
theorem own_d8_12 : decode prog_29_method_4_code 12 = .ok (.aconst_null, 1) := by decide +kernel
theorem own_d8_13 : decode prog_29_method_4_code 13 = .ok (.invokespecial 41, 3) := by decide +kernel
theorem own_d8_16 : decode prog_29_method_4_code 16 = .ok (.areturn, 1) := by decide +kernel
theorem own_d9_0 : decode prog_29_method_1_code 0 = .ok (.aload_n 0, 1) := by decide +kernel
theorem own_d9_1 : decode prog_29_method_1_code 1 = .ok (.invokespecial 3, 3) := by decide +kernel
theorem own_d9_4 : decode prog_29_method_1_code 4 = .ok (.aload_n 0, 1) := by decide +kernel
theorem own_d9_5 : decode prog_29_method_1_code 5 = .ok (.aload_n 1, 1) := by decide +kernel
theorem own_d9_6 : decode prog_29_method_1_code 6 = .ok (.putfield 9, 3) := by decide +kernel
theorem own_d9_9 : decode prog_29_method_1_code 9 = .ok (.aload_n 0, 1) := by decide +kernel
theorem own_d9_10 : decode prog_29_method_1_code 10 = .ok (.aload_n 2, 1) := by decide +kernel
theorem own_d9_11 : decode prog_29_method_1_code 11 = .ok (.putfield 15, 3) := by decide +kernel
theorem own_d9_14 : decode prog_29_method_1_code 14 = .ok (.aload_n 0, 1) := by decide +kernel
theorem own_d9_15 : decode prog_29_method_1_code 15 = .ok (.lload_n 3, 1) := by decide +kernel
theorem own_d9_16 : decode prog_29_method_1_code 16 = .ok (.putfield 19, 3) := by decide +kernel
theorem own_d9_19 : decode prog_29_method_1_code 19 = .ok (.aload_n 0, 1) := by decide +kernel
theorem own_d9_20 : decode prog_29_method_1_code 20 = .ok (.aload 5, 2) := by decide +kernel
theorem own_d9_22 : decode prog_29_method_1_code 22 = .ok (.putfield 23, 3) := by decide +kernel
theorem own_d9_25 : decode prog_29_method_1_code 25 = .ok (.aload_n 0, 1) := by decide +kernel
theorem own_d9_26 : decode prog_29_method_1_code 26 = .ok (.aload 6, 2) := by decide +kernel
theorem own_d9_28 : decode prog_29_method_1_code 28 = .ok (.putfield 26, 3) := by decide +kernel
theorem own_d9_31 : decode prog_29_method_1_code 31 = .ok (.aload_n 0, 1) := by decide +kernel
theorem own_d9_32 : decode prog_29_method_1_code 32 = .ok (.aload 7, 2) := by decide +kernel
theorem own_d9_34 : decode prog_29_method_1_code 34 = .ok (.putfield 29, 3) := by decide +kernel
theorem own_d9_37 : decode prog_29_method_1_code 37 = .ok (.aload_n 0, 1) := by decide +kernel
theorem own_d9_38 : decode prog_29_method_1_code 38 = .ok (.aload 8, 2) := by decide +kernel
theorem own_d9_40 : decode prog_29_method_1_code 40 = .ok (.putfield 32, 3) := by decide +kernel
theorem own_d9_43 : decode prog_29_method_1_code 43 = .ok (.return_, 1) := by decide +kernel
theorem own_d10_0 : decode jdk_30_method_1_code 0 = .ok (.aload_n 0, 1) := by decide +kernel
theorem own_d10_1 : decode jdk_30_method_1_code 1 = .ok (.invokespecial 1, 3) := by decide +kernel
theorem own_d10_4 : decode jdk_30_method_1_code 4 = .ok (.return_, 1) := by decide +kernel
theorem own_d11_0 : decode prog_29_method_27_code 0 = .ok (.aload_n 0, 1) := by decide +kernel
theorem own_d11_1 : decode prog_29_method_27_code 1 = .ok (.getfield 9, 3) := by decide +kernel
theorem own_d11_4 : decode prog_29_method_27_code 4 = .ok (.areturn, 1) := by decide +kernel
theorem own_d12_0 : decode prog_29_method_28_code 0 = .ok (.aload_n 0, 1) := by decide +kernel
theorem own_d12_1 : decode prog_29_method_28_code 1 = .ok (.getfield 15, 3) := by decide +kernel
theorem own_d12_4 : decode prog_29_method_28_code 4 = .ok (.areturn, 1) := by decide +kernel
theorem own_d13_0 : decode prog_29_method_29_code 0 = .ok (.aload_n 0, 1) := by decide +kernel
theorem own_d13_1 : decode prog_29_method_29_code 1 = .ok (.getfield 19, 3) := by decide +kernel
theorem own_d13_4 : decode prog_29_method_29_code 4 = .ok (.lreturn, 1) := by decide +kernel
theorem own_d14_0 : decode prog_29_method_30_code 0 = .ok (.aload_n 0, 1) := by decide +kernel
theorem own_d14_1 : decode prog_29_method_30_code 1 = .ok (.getfield 23, 3) := by decide +kernel
theorem own_d14_4 : decode prog_29_method_30_code 4 = .ok (.areturn, 1) := by decide +kernel
theorem own_d15_0 : decode method_2_code 0 = .ok (.aload_n 0, 1) := by decide +kernel
theorem own_d15_1 : decode method_2_code 1 = .ok (.ifnonnull 13, 3) := by decide +kernel
theorem own_d15_4 : decode method_2_code 4 = .ok (.aload_n 1, 1) := by decide +kernel
theorem own_d15_5 : decode method_2_code 5 = .ok (.ifnonnull 7, 3) := by decide +kernel
theorem own_d15_8 : decode method_2_code 8 = .ok (.iconst 1, 1) := by decide +kernel
theorem own_d15_9 : decode method_2_code 9 = .ok (.goto 4, 3) := by decide +kernel
theorem own_d15_13 : decode method_2_code 13 = .ok (.ireturn, 1) := by decide +kernel
theorem own_d15_14 : decode method_2_code 14 = .ok (.aload_n 0, 1) := by decide +kernel
theorem own_d15_15 : decode method_2_code 15 = .ok (.aload_n 1, 1) := by decide +kernel
theorem own_d15_16 : decode method_2_code 16 = .ok (.invokevirtual 7, 3) := by decide +kernel
theorem own_d15_19 : decode method_2_code 19 = .ok (.ireturn, 1) := by decide +kernel
theorem own_d16_0 : decode jdk_42_method_66_code 0 = .ok (.aload_n 0, 1) := by decide +kernel
theorem own_d16_1 : decode jdk_42_method_66_code 1 = .ok (.aload_n 1, 1) := by decide +kernel
theorem own_d16_2 : decode jdk_42_method_66_code 2 = .ok (.if_acmp .ne 5, 3) := by decide +kernel
theorem own_d16_5 : decode jdk_42_method_66_code 5 = .ok (.iconst 1, 1) := by decide +kernel
theorem own_d16_6 : decode jdk_42_method_66_code 6 = .ok (.ireturn, 1) := by decide +kernel
theorem own_d17_0 : decode prog_29_method_31_code 0 = .ok (.aload_n 0, 1) := by decide +kernel
theorem own_d17_1 : decode prog_29_method_31_code 1 = .ok (.getfield 26, 3) := by decide +kernel
theorem own_d17_4 : decode prog_29_method_31_code 4 = .ok (.areturn, 1) := by decide +kernel
theorem own_d18_0 : decode prog_29_method_32_code 0 = .ok (.aload_n 0, 1) := by decide +kernel
theorem own_d18_1 : decode prog_29_method_32_code 1 = .ok (.getfield 29, 3) := by decide +kernel
theorem own_d18_4 : decode prog_29_method_32_code 4 = .ok (.areturn, 1) := by decide +kernel
theorem own_d19_0 : decode prog_29_method_33_code 0 = .ok (.aload_n 0, 1) := by decide +kernel
theorem own_d19_1 : decode prog_29_method_33_code 1 = .ok (.getfield 32, 3) := by decide +kernel
theorem own_d19_4 : decode prog_29_method_33_code 4 = .ok (.areturn, 1) := by decide +kernel
theorem own_d20_0 : decode jdk_42_method_139_code 0 = .ok (.getstatic 38, 3) := by decide +kernel
theorem own_d20_3 : decode jdk_42_method_139_code 3 = .ok (.ifCond .eq 23, 3) := by decide +kernel
theorem own_d20_6 : decode jdk_42_method_139_code 6 = .ok (.iload_n 0, 1) := by decide +kernel
theorem own_d20_7 : decode jdk_42_method_139_code 7 = .ok (.invokestatic 1015, 3) := by decide +kernel
theorem own_d20_10 : decode jdk_42_method_139_code 10 = .ok (.ifCond .eq 16, 3) := by decide +kernel
theorem own_d20_13 : decode jdk_42_method_139_code 13 = .ok (.new 10, 3) := by decide +kernel
theorem own_d20_16 : decode jdk_42_method_139_code 16 = .ok (.dup, 1) := by decide +kernel
theorem own_d20_17 : decode jdk_42_method_139_code 17 = .ok (.iload_n 0, 1) := by decide +kernel
theorem own_d20_18 : decode jdk_42_method_139_code 18 = .ok (.invokestatic 1018, 3) := by decide +kernel
theorem own_d20_21 : decode jdk_42_method_139_code 21 = .ok (.iconst 0, 1) := by decide +kernel
theorem own_d20_22 : decode jdk_42_method_139_code 22 = .ok (.invokespecial 209, 3) := by decide +kernel
theorem own_d20_25 : decode jdk_42_method_139_code 25 = .ok (.areturn, 1) := by decide +kernel
theorem own_d21_0 : decode jdk_43_method_3_code 0 = .ok (.iload_n 0, 1) := by decide +kernel
theorem own_d21_1 : decode jdk_43_method_3_code 1 = .ok (.sipush 255, 3) := by decide +kernel
theorem own_d21_4 : decode jdk_43_method_3_code 4 = .ok (.if_icmp .gt 7, 3) := by decide +kernel
theorem own_d21_7 : decode jdk_43_method_3_code 7 = .ok (.iconst 1, 1) := by decide +kernel
theorem own_d21_8 : decode jdk_43_method_3_code 8 = .ok (.goto 4, 3) := by decide +kernel
theorem own_d21_12 : decode jdk_43_method_3_code 12 = .ok (.ireturn, 1) := by decide +kernel
theorem own_d22_0 : decode jdk_43_method_46_code 0 = .ok (.iconst 1, 1) := by decide +kernel
theorem own_d22_1 : decode jdk_43_method_46_code 1 = .ok (.newarray .byte, 2) := by decide +kernel
theorem own_d22_3 : decode jdk_43_method_46_code 3 = .ok (.dup, 1) := by decide +kernel
theorem own_d22_4 : decode jdk_43_method_46_code 4 = .ok (.iconst 0, 1) := by decide +kernel
theorem own_d22_5 : decode jdk_43_method_46_code 5 = .ok (.iload_n 0, 1) := by decide +kernel
theorem own_d22_6 : decode jdk_43_method_46_code 6 = .ok (.i2b, 1) := by decide +kernel
theorem own_d22_7 : decode jdk_43_method_46_code 7 = .ok (.bastore, 1) := by decide +kernel
theorem own_d22_8 : decode jdk_43_method_46_code 8 = .ok (.areturn, 1) := by decide +kernel
theorem own_d23_0 : decode jdk_42_method_151_code 0 = .ok (.aload_n 0, 1) := by decide +kernel
theorem own_d23_1 : decode jdk_42_method_151_code 1 = .ok (.invokespecial 1, 3) := by decide +kernel
theorem own_d23_4 : decode jdk_42_method_151_code 4 = .ok (.aload_n 0, 1) := by decide +kernel
theorem own_d23_5 : decode jdk_42_method_151_code 5 = .ok (.aload_n 1, 1) := by decide +kernel
theorem own_d23_6 : decode jdk_42_method_151_code 6 = .ok (.putfield 9, 3) := by decide +kernel
theorem own_d23_9 : decode jdk_42_method_151_code 9 = .ok (.aload_n 0, 1) := by decide +kernel
theorem own_d23_10 : decode jdk_42_method_151_code 10 = .ok (.iload_n 2, 1) := by decide +kernel
theorem own_d23_11 : decode jdk_42_method_151_code 11 = .ok (.putfield 15, 3) := by decide +kernel
theorem own_d23_14 : decode jdk_42_method_151_code 14 = .ok (.return_, 1) := by decide +kernel
theorem own_wS {Z : State} {a0 : Array Value} (hw : ∀ d ∈ tables_1, d.before a0 Z = true) : ∀ a ∈ Bundle.stringAtoms, a.before a0 Z = true := by
  intro a ha
  simp only [Bundle.stringAtoms, List.mem_cons, List.not_mem_nil, or_false] at ha
  rcases ha with rfl | rfl | rfl | rfl | rfl | rfl | rfl
  · exact (hw _ (List.mem_of_getElem? (i := 6) rfl))
  · exact (hw _ (List.mem_of_getElem? (i := 5) rfl))
  · exact (hw _ (List.mem_of_getElem? (i := 23) rfl))
  · exact (hw _ (List.mem_of_getElem? (i := 33) rfl))
  · exact (hw _ (List.mem_of_getElem? (i := 31) rfl))
  · exact (hw _ (List.mem_of_getElem? (i := 35) rfl))
  · exact (hw _ (List.mem_of_getElem? (i := 36) rfl))
theorem own_pd0 : parseMethodDescriptor "()V" = some ⟨[], none⟩ := by decide +kernel
set_option maxRecDepth 65536 in
set_option maxHeartbeats 40000000 in
theorem own_rec (l : Launch) (Z : State) (a0 : Array Value) (hw : ∀ d ∈ tables_1, d.before a0 Z = true) (a : Addr) (h0 : Heap) (O0 : own_Old Z h0) :
    own_Con l Z (⟨"java/lang/Record", "<init>", "()V"⟩ : MethodName) jdk_30_method_1_code 1 none [] ({ frames := 1, cells := 0, slots := 0, locals := 12 } : Room) #[(.ref a)] h0 (fun rv rh rL => rv = none ∧ own_Fr Z rL ∧ h0 = rh) := by
  refine own_intro (plainFor_of_name (by first | (simp [plainName, overriddenIn]; done) | decide +kernel)) ?_
  intro p e s m below meth c s₁ G hx hby hml hown hnm hret hZ X0 e0 hG hR
  have N0 := Fr.nil Z.heap.size
  refine own_entry (Ls := #[.val (.ref a)]) (by first | (simp [entryFrame, mkF, argsToLocals, Value.category]; done) | rfl) ?_
  show G (s₁.setTop (mkF m 0 #[.val (.ref a)] []))
  refine hG _ _ (fun t k => XS.aloadN X0.here hx rfl (hb hby own_d10_0) rfl rfl k) ?_
  show G (s₁.setTop (mkF m 1 #[.val (.ref a)] [(.ref a)]))
  obtain ⟨T1, X1, e1, st1⟩ := initO X0 hx hZ hown (hw _ (List.mem_of_getElem? (i := 54) rfl)) (hw _ (List.mem_of_getElem? (i := 16) rfl)) (hw _ (List.mem_of_getElem? (i := 17) rfl)) e0 (g := (mkF m 1 #[.val (.ref a)] [(.ref a)])) rfl (by rw [hml]; rfl) rfl (hb hby own_d10_1) (by decide) (W := 0) (by show 2 * 0 + _ ≤ _; exact Nat.le_of_eq rfl) (by decide)
  refine hG _ _ st1 ?_
  show G (T1.setTop (mkF m 4 #[.val (.ref a)] []))
  exact own_retV hR hret X1 hx (hb hby own_d10_4) (by decide) (by decide) (by rw [e1]; exact ⟨rfl, N0, rfl⟩)
theorem own_pd1 : parseMethodDescriptor "([CI[BII)I" = some ⟨[(.array .char), .int, (.array .byte), .int, .int], some .int⟩ := by decide +kernel
set_option maxRecDepth 65536 in
set_option maxHeartbeats 40000000 in
theorem own_cmp5 (l : Launch) (Z : State) (a0 : Array Value) (hw : ∀ d ∈ tables_1, d.before a0 Z = true) (a : Addr) (b : Addr) (ka : ClassId) (kb : ClassId) (cs : List Int32) (h0 : Heap) (O0 : own_Old Z h0) (g0_V : Arv Z h0 a ka .char (Int32.ofNat cs.length) (cs.map Value.int) (.int (0 : Int32))) (g1_V : Arv Z h0 b kb .byte (Int32.ofNat cs.length) [] (.int (0 : Int32))) (g2_G : Z.heap.size ≤ b) (g3_hne : a ≠ b) (g4_hlen : cs.length < 2147483648) (g5_hcs : ∀ c ∈ cs, ¬ ((255 : Int32) < c)) :
    own_Con l Z (⟨"java/lang/StringUTF16", "compress", "([CI[BII)I"⟩ : MethodName) jdk_52_method_21_code 7 (some .int) [] ({ frames := 0, cells := 0, slots := 0, locals := 0 } : Room) #[(.ref a), (.int (0 : Int32)), (.ref b), (.int (0 : Int32)), (.int (Int32.ofNat cs.length))] h0 (fun rv rh rL => rv = some (.int (Int32.ofNat cs.length)) ∧ own_Fr Z rL ∧ Keep h0 rh [b] ∧ (Arv Z rh b kb .byte (Int32.ofNat cs.length) (cs.map fun c => Value.int c.toInt8.toInt32) (.int (0 : Int32)))) := by
  refine own_intro (plainFor_of_name (by first | (simp [plainName, overriddenIn]; done) | decide +kernel)) ?_
  intro p e s m below meth c s₁ G hx hby hml hown hnm hret hZ X0 e0 hG hR
  have N0 := Fr.nil Z.heap.size
  refine own_entry (Ls := #[.val (.ref a), .val (.int (0 : Int32)), .val (.ref b), .val (.int (0 : Int32)), .val (.int (Int32.ofNat cs.length)), .unset, .unset]) (by first | (simp [entryFrame, mkF, argsToLocals, Value.category]; done) | rfl) ?_
  show G (s₁.setTop (mkF m 0 #[.val (.ref a), .val (.int (0 : Int32)), .val (.ref b), .val (.int (0 : Int32)), .val (.int (Int32.ofNat cs.length)), .unset, .unset] []))
  refine hG _ _ (fun t k => XS.iconst X0.here hx rfl (hb hby own_d6_0) k) ?_
  show G (s₁.setTop (mkF m 1 #[.val (.ref a), .val (.int (0 : Int32)), .val (.ref b), .val (.int (0 : Int32)), .val (.int (Int32.ofNat cs.length)), .unset, .unset] [(.int (0 : Int32))]))
  refine hG _ _ (fun t k => XS.istore X0.here hx rfl (hb hby own_d6_1) rfl (l' := #[.val (.ref a), .val (.int (0 : Int32)), .val (.ref b), .val (.int (0 : Int32)), .val (.int (Int32.ofNat cs.length)), .val (.int (0 : Int32)), .unset]) rfl k) ?_
  show G (s₁.setTop (mkF m 3 #[.val (.ref a), .val (.int (0 : Int32)), .val (.ref b), .val (.int (0 : Int32)), .val (.int (Int32.ofNat cs.length)), .val (.int (0 : Int32)), .unset] []))
  have loop : ∀ (r i : Nat) (T : State) (locs : List Loc) (hT : Heap) (vs : List Value) (ch : Slot), r + i = cs.length → Stand p l e ({ frames := 0, cells := 0, slots := 0, locals := 0 } : Room) s m #[(.ref a), (.int (0 : Int32)), (.ref b), (.int (0 : Int32)), (.int (Int32.ofNat cs.length))] below meth c T locs 0 0 → T.heap = hT → Keep h0 hT [b] → own_Old Z hT → own_Fr Z locs → Arv Z hT b kb .byte (Int32.ofNat cs.length) vs (.int (0 : Int32)) → vs.length = cs.length → (∀ j, j < i → vs.getD j (.int (0 : Int32)) = Value.int (cs.getD j 0).toInt8.toInt32) → One ch → G (T.setTop (mkF m 3 #[.val (.ref a), .val (.int (Int32.ofNat i)), .val (.ref b), .val (.int (Int32.ofNat i)), .val (.int (Int32.ofNat cs.length)), .val (.int (Int32.ofNat i)), ch] [])) := by
    intro r
    induction r with
    | zero =>
      intro i T locs hT vs ch hri X eT K O N V hl hv hch
      have hi : i = cs.length := by omega
      subst hi
      have hvs := own_mapEq (fun c : Int32 => Value.int c.toInt8.toInt32) cs vs (.int (0 : Int32)) 0 hl hv
      rw [hvs] at V
      refine hG _ _ (fun t k => XS.iload X.here hx rfl (hb hby own_d6_3) rfl k) ?_
      show G (T.setTop (mkF m 5 #[.val (.ref a), .val (.int (Int32.ofNat cs.length)), .val (.ref b), .val (.int (Int32.ofNat cs.length)), .val (.int (Int32.ofNat cs.length)), .val (.int (Int32.ofNat cs.length)), ch] [(.int (Int32.ofNat cs.length))]))
      refine hG _ _ (fun t k => XS.iload X.here hx rfl (hb hby own_d6_5) rfl k) ?_
      show G (T.setTop (mkF m 7 #[.val (.ref a), .val (.int (Int32.ofNat cs.length)), .val (.ref b), .val (.int (Int32.ofNat cs.length)), .val (.int (Int32.ofNat cs.length)), .val (.int (Int32.ofNat cs.length)), ch] [(.int (Int32.ofNat cs.length)), (.int (Int32.ofNat cs.length))]))
      refine hG _ _ (fun t k => XS.icmpYes X.here hx rfl (pc0 := 7) (pc' := 44) rfl (hb hby own_d6_7) rfl (flt (own_nlt (Nat.le_refl _) g4_hlen)).2.1 (by decide) (by decide) k) ?_
      show G (T.setTop (mkF m 44 #[.val (.ref a), .val (.int (Int32.ofNat cs.length)), .val (.ref b), .val (.int (Int32.ofNat cs.length)), .val (.int (Int32.ofNat cs.length)), .val (.int (Int32.ofNat cs.length)), ch] []))
      refine hG _ _ (fun t k => XS.iload X.here hx rfl (hb hby own_d6_44) rfl k) ?_
      show G (T.setTop (mkF m 46 #[.val (.ref a), .val (.int (Int32.ofNat cs.length)), .val (.ref b), .val (.int (Int32.ofNat cs.length)), .val (.int (Int32.ofNat cs.length)), .val (.int (Int32.ofNat cs.length)), ch] [(.int (Int32.ofNat cs.length))]))
      exact own_retI hR hret X hx (hb hby own_d6_46) (by decide) (by decide) (by rw [eT]; exact ⟨rfl, N, K, V⟩)
    | succ r ih =>
      intro i T locs hT vs ch hri X eT K O N V hl hv hch
      have hi : i < cs.length := by omega
      refine hG _ _ (fun t k => XS.iload X.here hx rfl (hb hby own_d6_3) rfl k) ?_
      show G (T.setTop (mkF m 5 #[.val (.ref a), .val (.int (Int32.ofNat i)), .val (.ref b), .val (.int (Int32.ofNat i)), .val (.int (Int32.ofNat cs.length)), .val (.int (Int32.ofNat i)), ch] [(.int (Int32.ofNat i))]))
      refine hG _ _ (fun t k => XS.iload X.here hx rfl (hb hby own_d6_5) rfl k) ?_
      show G (T.setTop (mkF m 7 #[.val (.ref a), .val (.int (Int32.ofNat i)), .val (.ref b), .val (.int (Int32.ofNat i)), .val (.int (Int32.ofNat cs.length)), .val (.int (Int32.ofNat i)), ch] [(.int (Int32.ofNat cs.length)), (.int (Int32.ofNat i))]))
      refine hG _ _ (fun t k => XS.icmpNo X.here hx rfl (hb hby own_d6_7) rfl (tlt (own_lt hi g4_hlen)).2.1 k) ?_
      show G (T.setTop (mkF m 10 #[.val (.ref a), .val (.int (Int32.ofNat i)), .val (.ref b), .val (.int (Int32.ofNat i)), .val (.int (Int32.ofNat cs.length)), .val (.int (Int32.ofNat i)), ch] []))
      refine hG _ _ (fun t k => XS.aloadN X.here hx rfl (hb hby own_d6_10) rfl rfl k) ?_
      show G (T.setTop (mkF m 11 #[.val (.ref a), .val (.int (Int32.ofNat i)), .val (.ref b), .val (.int (Int32.ofNat i)), .val (.int (Int32.ofNat cs.length)), .val (.int (Int32.ofNat i)), ch] [(.ref a)]))
      refine hG _ _ (fun t k => XS.iloadN X.here hx rfl (hb hby own_d6_11) rfl k) ?_
      show G (T.setTop (mkF m 12 #[.val (.ref a), .val (.int (Int32.ofNat i)), .val (.ref b), .val (.int (Int32.ofNat i)), .val (.int (Int32.ofNat cs.length)), .val (.int (Int32.ofNat i)), ch] [(.int (Int32.ofNat i)), (.ref a)]))
      obtain ⟨c1, Ar1, q1, S1, M1, H1, G1⟩ := id (g0_V.keep K (ninS g3_hne nin0))
      have hin1 : ¬ ((Int32.ofNat i) < 0 ∨ c1.slots.size ≤ (Int32.ofNat i).toNatClampNeg) := inb_of S1 ⟨own_nn (by omega), own_lt hi g4_hlen⟩
      refine hG _ _ (X.caload hx (j := (Int32.ofNat i)) (v := (.int (cs.getD i 0))) (by rw [eT]; exact Ar1.1) (State.isArrayOf_alike hZ.alike Ar1.2.1) Ar1.2.2 hin1 (Has.at H1 hin1 (by rw [own_clamp (by omega)]; exact own_getD_map Value.int cs i _ 0 hi)) (g := (mkF m 12 #[.val (.ref a), .val (.int (Int32.ofNat i)), .val (.ref b), .val (.int (Int32.ofNat i)), .val (.int (Int32.ofNat cs.length)), .val (.int (Int32.ofNat i)), ch] [(.int (Int32.ofNat i)), (.ref a)])) rfl rfl (hb hby own_d6_12)) ?_
      show G (T.setTop (mkF m 13 #[.val (.ref a), .val (.int (Int32.ofNat i)), .val (.ref b), .val (.int (Int32.ofNat i)), .val (.int (Int32.ofNat cs.length)), .val (.int (Int32.ofNat i)), ch] [(.int (cs.getD i 0))]))
      refine hG _ _ (fun t k => XS.istoreS X.here hx rfl (hb hby own_d6_13) rfl rfl hch k) ?_
      show G (T.setTop (mkF m 15 #[.val (.ref a), .val (.int (Int32.ofNat i)), .val (.ref b), .val (.int (Int32.ofNat i)), .val (.int (Int32.ofNat cs.length)), .val (.int (Int32.ofNat i)), .val (.int (cs.getD i 0))] []))
      refine hG _ _ (fun t k => XS.iload X.here hx rfl (hb hby own_d6_15) rfl k) ?_
      show G (T.setTop (mkF m 17 #[.val (.ref a), .val (.int (Int32.ofNat i)), .val (.ref b), .val (.int (Int32.ofNat i)), .val (.int (Int32.ofNat cs.length)), .val (.int (Int32.ofNat i)), .val (.int (cs.getD i 0))] [(.int (cs.getD i 0))]))
      refine hG _ _ (fun t k => XS.sipush X.here hx rfl (hb hby own_d6_17) k) ?_
      show G (T.setTop (mkF m 20 #[.val (.ref a), .val (.int (Int32.ofNat i)), .val (.ref b), .val (.int (Int32.ofNat i)), .val (.int (Int32.ofNat cs.length)), .val (.int (Int32.ofNat i)), .val (.int (cs.getD i 0))] [(.int (255 : Int32)), (.int (cs.getD i 0))]))
      refine hG _ _ (fun t k => XS.icmpYes X.here hx rfl (pc0 := 20) (pc' := 26) rfl (hb hby own_d6_20) rfl (flt (g5_hcs _ (own_getD_mem cs i 0 hi))).2.2.2 (by decide) (by decide) k) ?_
      show G (T.setTop (mkF m 26 #[.val (.ref a), .val (.int (Int32.ofNat i)), .val (.ref b), .val (.int (Int32.ofNat i)), .val (.int (Int32.ofNat cs.length)), .val (.int (Int32.ofNat i)), .val (.int (cs.getD i 0))] []))
      refine hG _ _ (fun t k => XS.aloadN X.here hx rfl (hb hby own_d6_26) rfl rfl k) ?_
      show G (T.setTop (mkF m 27 #[.val (.ref a), .val (.int (Int32.ofNat i)), .val (.ref b), .val (.int (Int32.ofNat i)), .val (.int (Int32.ofNat cs.length)), .val (.int (Int32.ofNat i)), .val (.int (cs.getD i 0))] [(.ref b)]))
      refine hG _ _ (fun t k => XS.iloadN X.here hx rfl (hb hby own_d6_27) rfl k) ?_
      show G (T.setTop (mkF m 28 #[.val (.ref a), .val (.int (Int32.ofNat i)), .val (.ref b), .val (.int (Int32.ofNat i)), .val (.int (Int32.ofNat cs.length)), .val (.int (Int32.ofNat i)), .val (.int (cs.getD i 0))] [(.int (Int32.ofNat i)), (.ref b)]))
      refine hG _ _ (fun t k => XS.iload X.here hx rfl (hb hby own_d6_28) rfl k) ?_
      show G (T.setTop (mkF m 30 #[.val (.ref a), .val (.int (Int32.ofNat i)), .val (.ref b), .val (.int (Int32.ofNat i)), .val (.int (Int32.ofNat cs.length)), .val (.int (Int32.ofNat i)), .val (.int (cs.getD i 0))] [(.int (cs.getD i 0)), (.int (Int32.ofNat i)), (.ref b)]))
      refine hG _ _ (fun t k => XS.i2b X.here hx rfl (hb hby own_d6_30) rfl k) ?_
      show G (T.setTop (mkF m 31 #[.val (.ref a), .val (.int (Int32.ofNat i)), .val (.ref b), .val (.int (Int32.ofNat i)), .val (.int (Int32.ofNat cs.length)), .val (.int (Int32.ofNat i)), .val (.int (cs.getD i 0))] [(.int ((cs.getD i 0).toInt8.toInt32)), (.int (Int32.ofNat i)), (.ref b)]))
      obtain ⟨c2, Ar2, q2, S2, M2, H2, G2⟩ := id V
      obtain ⟨T2, h2, X2, e2, W2, st2⟩ := stB X hx hZ eT Ar2 (j := (Int32.ofNat i)) (inb_of S2 ⟨own_nn (by omega), own_lt hi g4_hlen⟩) (g := (mkF m 31 #[.val (.ref a), .val (.int (Int32.ofNat i)), .val (.ref b), .val (.int (Int32.ofNat i)), .val (.int (Int32.ofNat cs.length)), .val (.int (Int32.ofNat i)), .val (.int (cs.getD i 0))] [(.int ((cs.getD i 0).toInt8.toInt32)), (.int (Int32.ofNat i)), (.ref b)])) rfl rfl (hb hby own_d6_31)
      refine hG _ _ st2 ?_
      have K2 : Keep h0 h2 [b] := K.wr W2 (Or.inl (List.mem_of_getElem? (i := 0) rfl))
      have O2 : own_Old Z h2 := O.wr W2 g2_G
      have V2 : Arv Z h2 b kb .byte (Int32.ofNat cs.length) (vs.set i (.int (nar .byte ((cs.getD i 0).toInt8.toInt32)))) (.int (0 : Int32)) := Arv.set Ar2 q2 S2 M2 H2 G2 (fits_nar_byte _) W2 i (own_clamp (by omega)) (by omega)
      have N2 := Fr.snoc X2 N g2_G
      show G (T2.setTop (mkF m 32 #[.val (.ref a), .val (.int (Int32.ofNat i)), .val (.ref b), .val (.int (Int32.ofNat i)), .val (.int (Int32.ofNat cs.length)), .val (.int (Int32.ofNat i)), .val (.int (cs.getD i 0))] []))
      refine hG _ _ (fun t k => XS.iinc X2.here hx rfl (hb hby own_d6_32) rfl (l' := #[.val (.ref a), .val (.int ((Int32.ofNat i) + (1 : Int32))), .val (.ref b), .val (.int (Int32.ofNat i)), .val (.int (Int32.ofNat cs.length)), .val (.int (Int32.ofNat i)), .val (.int (cs.getD i 0))]) rfl k) ?_
      show G (T2.setTop (mkF m 35 #[.val (.ref a), .val (.int ((Int32.ofNat i) + (1 : Int32))), .val (.ref b), .val (.int (Int32.ofNat i)), .val (.int (Int32.ofNat cs.length)), .val (.int (Int32.ofNat i)), .val (.int (cs.getD i 0))] []))
      refine hG _ _ (fun t k => XS.iinc X2.here hx rfl (hb hby own_d6_35) rfl (l' := #[.val (.ref a), .val (.int ((Int32.ofNat i) + (1 : Int32))), .val (.ref b), .val (.int ((Int32.ofNat i) + (1 : Int32))), .val (.int (Int32.ofNat cs.length)), .val (.int (Int32.ofNat i)), .val (.int (cs.getD i 0))]) rfl k) ?_
      show G (T2.setTop (mkF m 38 #[.val (.ref a), .val (.int ((Int32.ofNat i) + (1 : Int32))), .val (.ref b), .val (.int ((Int32.ofNat i) + (1 : Int32))), .val (.int (Int32.ofNat cs.length)), .val (.int (Int32.ofNat i)), .val (.int (cs.getD i 0))] []))
      refine hG _ _ (fun t k => XS.iinc X2.here hx rfl (hb hby own_d6_38) rfl (l' := #[.val (.ref a), .val (.int ((Int32.ofNat i) + (1 : Int32))), .val (.ref b), .val (.int ((Int32.ofNat i) + (1 : Int32))), .val (.int (Int32.ofNat cs.length)), .val (.int ((Int32.ofNat i) + (1 : Int32))), .val (.int (cs.getD i 0))]) rfl k) ?_
      show G (T2.setTop (mkF m 41 #[.val (.ref a), .val (.int ((Int32.ofNat i) + (1 : Int32))), .val (.ref b), .val (.int ((Int32.ofNat i) + (1 : Int32))), .val (.int (Int32.ofNat cs.length)), .val (.int ((Int32.ofNat i) + (1 : Int32))), .val (.int (cs.getD i 0))] []))
      refine hG _ _ (fun t k => XS.goto X2.here hx rfl (pc0 := 41) (pc' := 3) rfl (hb hby own_d6_41) (by decide) (by decide) k) ?_
      show G (T2.setTop (mkF m 3 #[.val (.ref a), .val (.int ((Int32.ofNat i) + (1 : Int32))), .val (.ref b), .val (.int ((Int32.ofNat i) + (1 : Int32))), .val (.int (Int32.ofNat cs.length)), .val (.int ((Int32.ofNat i) + (1 : Int32))), .val (.int (cs.getD i 0))] []))
      rw [own_inc i]
      exact ih (i + 1) _ _ _ _ _ (by omega) X2 e2 K2 O2 N2 V2 (by rw [List.length_set]; exact hl) (own_setNext (fun c => Value.int c.toInt8.toInt32) _ _ (by omega) (by rw [own_nb]) hv) (One.val rfl)
  exact loop cs.length 0 _ _ _ _ _ rfl X0 e0 (Keep.refl h0 [b]) O0 N0 (g1_V.pad (pad_rep [] (.int (0 : Int32)) cs.length)) (by simp) (fun j hj => absurd hj (Nat.not_lt_zero j)) One.u
theorem own_pd2 : parseMethodDescriptor "([CII)[B" = some ⟨[(.array .char), .int, .int], some (.array .byte)⟩ := by decide +kernel
set_option maxRecDepth 65536 in
set_option maxHeartbeats 40000000 in
theorem own_cmp3 (l : Launch) (Z : State) (a0 : Array Value) (hw : ∀ d ∈ tables_1, d.before a0 Z = true) (a : Addr) (ka : ClassId) (cs : List Int32) (h0 : Heap) (O0 : own_Old Z h0) (g0_V : Arv Z h0 a ka .char (Int32.ofNat cs.length) (cs.map Value.int) (.int (0 : Int32))) (g1_hcap : cs.length ≤ 2) (g2_hcs : ∀ c ∈ cs, ¬ ((255 : Int32) < c)) :
    own_Con l Z (⟨"java/lang/StringUTF16", "compress", "([CII)[B"⟩ : MethodName) jdk_52_method_16_code 6 (some (.array .byte)) [] ({ frames := 1, cells := 1, slots := 2, locals := 18 } : Room) #[(.ref a), (.int (0 : Int32)), (.int (Int32.ofNat cs.length))] h0 (fun rv rh rL => ∃ (t : Addr) (kt : ClassId), rv = some (.ref t) ∧ own_Fr Z rL ∧ Keep h0 rh [] ∧ h0.size ≤ t ∧ (Arv Z rh t kt .byte (Int32.ofNat cs.length) (cs.map fun c => Value.int c.toInt8.toInt32) (.int (0 : Int32)))) := by
  refine own_intro (plainFor_of_name (by first | (simp [plainName, overriddenIn]; done) | decide +kernel)) ?_
  intro p e s m below meth c s₁ G hx hby hml hown hnm hret hZ X0 e0 hG hR
  have N0 := Fr.nil Z.heap.size
  refine own_entry (Ls := #[.val (.ref a), .val (.int (0 : Int32)), .val (.int (Int32.ofNat cs.length)), .unset, .unset, .unset]) (by first | (simp [entryFrame, mkF, argsToLocals, Value.category]; done) | rfl) ?_
  show G (s₁.setTop (mkF m 0 #[.val (.ref a), .val (.int (0 : Int32)), .val (.int (Int32.ofNat cs.length)), .unset, .unset, .unset] []))
  refine hG _ _ (fun t k => XS.iloadN X0.here hx rfl (hb hby own_d5_0) rfl k) ?_
  show G (s₁.setTop (mkF m 1 #[.val (.ref a), .val (.int (0 : Int32)), .val (.int (Int32.ofNat cs.length)), .unset, .unset, .unset] [(.int (Int32.ofNat cs.length))]))
  obtain ⟨T1, h1, k1, X1, e1, E1, A1, st1⟩ := newP X0 hx hZ (hw _ (List.mem_of_getElem? (i := 23) rfl)) e0 (g := (mkF m 1 #[.val (.ref a), .val (.int (0 : Int32)), .val (.int (Int32.ofNat cs.length)), .unset, .unset, .unset] [(.int (Int32.ofNat cs.length))])) rfl (hb hby own_d5_1) rfl (own_nn (by omega)) (cap := 2) (by rw [own_clamp (by omega)]; exact g1_hcap) (by decide) (by decide) (by decide)
  obtain ⟨b1, z1⟩ : ∃ z, z = h0.size := ⟨_, rfl⟩
  rw [← z1] at A1 st1
  refine hG _ _ st1 ?_
  have K1 : Keep h0 h1 [] := (Keep.refl h0 []).ext E1
  have O1 : own_Old Z h1 := O0.ext E1
  have V1 : Arv Z h1 b1 k1 .byte (Int32.ofNat cs.length) [] (.int (0 : Int32)) := Arv.new A1 (own_nn (by omega))
  show G (T1.setTop (mkF m 3 #[.val (.ref a), .val (.int (0 : Int32)), .val (.int (Int32.ofNat cs.length)), .unset, .unset, .unset] [(.ref b1)]))
  refine hG _ _ (fun t k => XS.astoreN X1.here hx rfl (hb hby own_d5_3) rfl rfl (l' := #[.val (.ref a), .val (.int (0 : Int32)), .val (.int (Int32.ofNat cs.length)), .val (.ref b1), .unset, .unset]) rfl k) ?_
  show G (T1.setTop (mkF m 4 #[.val (.ref a), .val (.int (0 : Int32)), .val (.int (Int32.ofNat cs.length)), .val (.ref b1), .unset, .unset] []))
  refine hG _ _ (fun t k => XS.aloadN X1.here hx rfl (hb hby own_d5_4) rfl rfl k) ?_
  show G (T1.setTop (mkF m 5 #[.val (.ref a), .val (.int (0 : Int32)), .val (.int (Int32.ofNat cs.length)), .val (.ref b1), .unset, .unset] [(.ref a)]))
  refine hG _ _ (fun t k => XS.iloadN X1.here hx rfl (hb hby own_d5_5) rfl k) ?_
  show G (T1.setTop (mkF m 6 #[.val (.ref a), .val (.int (0 : Int32)), .val (.int (Int32.ofNat cs.length)), .val (.ref b1), .unset, .unset] [(.int (0 : Int32)), (.ref a)]))
  refine hG _ _ (fun t k => XS.aloadN X1.here hx rfl (hb hby own_d5_6) rfl rfl k) ?_
  show G (T1.setTop (mkF m 7 #[.val (.ref a), .val (.int (0 : Int32)), .val (.int (Int32.ofNat cs.length)), .val (.ref b1), .unset, .unset] [(.ref b1), (.int (0 : Int32)), (.ref a)]))
  refine hG _ _ (fun t k => XS.iconst X1.here hx rfl (hb hby own_d5_7) k) ?_
  show G (T1.setTop (mkF m 8 #[.val (.ref a), .val (.int (0 : Int32)), .val (.int (Int32.ofNat cs.length)), .val (.ref b1), .unset, .unset] [(.int (0 : Int32)), (.ref b1), (.int (0 : Int32)), (.ref a)]))
  refine hG _ _ (fun t k => XS.iloadN X1.here hx rfl (hb hby own_d5_8) rfl k) ?_
  show G (T1.setTop (mkF m 9 #[.val (.ref a), .val (.int (0 : Int32)), .val (.int (Int32.ofNat cs.length)), .val (.ref b1), .unset, .unset] [(.int (Int32.ofNat cs.length)), (.int (0 : Int32)), (.ref b1), (.int (0 : Int32)), (.ref a)]))
  have f3 := (g0_V.ext E1)
  refine own_callS X1 hx hZ hG hown (hw _ (List.mem_of_getElem? (i := 24) rfl)) (hw _ (List.mem_of_getElem? (i := 25) rfl)) (hw _ (List.mem_of_getElem? (i := 21) rfl)) (hw _ (List.mem_of_getElem? (i := 26) rfl)) (by decide) 0 (own_cmp5 l Z a0 hw a b1 ka k1 cs h1 O1 f3 V1 (own_ge O0 (Nat.le_of_eq z1.symm)) (own_ne g0_V.lt (Nat.le_of_eq z1.symm)) (by omega) g2_hcs) (by decide) (by decide) e1 (by rw [hml]; rfl) (lenOf own_pd1 rfl) (argsL := [(.ref a), (.int (0 : Int32)), (.ref b1), (.int (0 : Int32)), (.int (Int32.ofNat cs.length))]) (rest := []) rfl rfl (Nat.le_of_eq rfl) (hb hby own_d5_9) (by decide) (by decide) ?_
  intro T2 h2 v2 L2 X2 e2 q2
  obtain ⟨rfl, M2, J2, r2_0⟩ := q2
  have N2 := Fr.app N0 M2
  have K2 : Keep h0 h2 [] := K1.trans J2 (allS (Or.inr (Nat.le_trans (Keep.refl h0 []).1 (Nat.le_of_eq z1.symm))) all0)
  have O2 : own_Old Z h2 := O1.keep J2 (allS (own_ge O0 (Nat.le_of_eq z1.symm)) all0)
  show G (T2.setTop (mkF m 12 #[.val (.ref a), .val (.int (0 : Int32)), .val (.int (Int32.ofNat cs.length)), .val (.ref b1), .unset, .unset] [(.int (Int32.ofNat cs.length))]))
  refine hG _ _ (fun t k => XS.istore X2.here hx rfl (hb hby own_d5_12) rfl (l' := #[.val (.ref a), .val (.int (0 : Int32)), .val (.int (Int32.ofNat cs.length)), .val (.ref b1), .val (.int (Int32.ofNat cs.length)), .unset]) rfl k) ?_
  show G (T2.setTop (mkF m 14 #[.val (.ref a), .val (.int (0 : Int32)), .val (.int (Int32.ofNat cs.length)), .val (.ref b1), .val (.int (Int32.ofNat cs.length)), .unset] []))
  refine hG _ _ (fun t k => XS.iload X2.here hx rfl (hb hby own_d5_14) rfl k) ?_
  show G (T2.setTop (mkF m 16 #[.val (.ref a), .val (.int (0 : Int32)), .val (.int (Int32.ofNat cs.length)), .val (.ref b1), .val (.int (Int32.ofNat cs.length)), .unset] [(.int (Int32.ofNat cs.length))]))
  refine hG _ _ (fun t k => XS.iloadN X2.here hx rfl (hb hby own_d5_16) rfl k) ?_
  show G (T2.setTop (mkF m 17 #[.val (.ref a), .val (.int (0 : Int32)), .val (.int (Int32.ofNat cs.length)), .val (.ref b1), .val (.int (Int32.ofNat cs.length)), .unset] [(.int (Int32.ofNat cs.length)), (.int (Int32.ofNat cs.length))]))
  refine hG _ _ (fun t k => XS.icmpYes X2.here hx rfl (pc0 := 17) (pc' := 57) rfl (hb hby own_d5_17) rfl (teq (rfl : (Int32.ofNat cs.length) = (Int32.ofNat cs.length))).1 (by decide) (by decide) k) ?_
  show G (T2.setTop (mkF m 57 #[.val (.ref a), .val (.int (0 : Int32)), .val (.int (Int32.ofNat cs.length)), .val (.ref b1), .val (.int (Int32.ofNat cs.length)), .unset] []))
  refine hG _ _ (fun t k => XS.aloadN X2.here hx rfl (hb hby own_d5_57) rfl rfl k) ?_
  show G (T2.setTop (mkF m 58 #[.val (.ref a), .val (.int (0 : Int32)), .val (.int (Int32.ofNat cs.length)), .val (.ref b1), .val (.int (Int32.ofNat cs.length)), .unset] [(.ref b1)]))
  exact own_retA hR hret rfl rfl X2 hx (hb hby own_d5_58) (by decide) (by decide) (by rw [e2]; exact ⟨b1, k1, rfl, N2, K2, (Nat.le_trans (Keep.refl h0 []).1 (Nat.le_of_eq z1.symm)), r2_0⟩)
theorem own_pd3 : parseMethodDescriptor "([BI)B" = some ⟨[(.array .byte), .int], some .byte⟩ := by decide +kernel
set_option maxRecDepth 65536 in
set_option maxHeartbeats 40000000 in
theorem own_coder (l : Launch) (Z : State) (a0 : Array Value) (hw : ∀ d ∈ tables_1, d.before a0 Z = true) (t : Addr) (n : Int32) (kt : ClassId) (n2 : Int32) (vs : List Value) (r : Int32) (h0 : Heap) (O0 : own_Old Z h0) (g0_V : Arv Z h0 t kt .byte n2 vs (.int (0 : Int32))) (g1_hr : nar .byte ((((n - n2).toUInt32 >>> ((31 : Int32) &&& 31).toUInt32).toInt32).toInt8.toInt32) = r) :
    own_Con l Z (⟨"java/lang/StringUTF16", "coderFromArrayLen", "([BI)B"⟩ : MethodName) jdk_52_method_15_code 2 (some .byte) [] ({ frames := 0, cells := 0, slots := 0, locals := 0 } : Room) #[(.ref t), (.int n)] h0 (fun rv rh rL => rv = some (.int r) ∧ own_Fr Z rL ∧ h0 = rh) := by
  refine own_intro (plainFor_of_name (by first | (simp [plainName, overriddenIn]; done) | decide +kernel)) ?_
  intro p e s m below meth c s₁ G hx hby hml hown hnm hret hZ X0 e0 hG hR
  have N0 := Fr.nil Z.heap.size
  refine own_entry (Ls := #[.val (.ref t), .val (.int n)]) (by first | (simp [entryFrame, mkF, argsToLocals, Value.category]; done) | rfl) ?_
  show G (s₁.setTop (mkF m 0 #[.val (.ref t), .val (.int n)] []))
  refine hG _ _ (fun t k => XS.iloadN X0.here hx rfl (hb hby own_d7_0) rfl k) ?_
  show G (s₁.setTop (mkF m 1 #[.val (.ref t), .val (.int n)] [(.int n)]))
  refine hG _ _ (fun t k => XS.aloadN X0.here hx rfl (hb hby own_d7_1) rfl rfl k) ?_
  show G (s₁.setTop (mkF m 2 #[.val (.ref t), .val (.int n)] [(.ref t), (.int n)]))
  obtain ⟨c1, Ar1, -, S1, M1, -, -⟩ := id g0_V
  refine hG _ _ (X0.arraylength hx (by rw [e0]; exact Ar1.1) (State.isArrayOf_alike hZ.alike Ar1.2.1) (g := (mkF m 2 #[.val (.ref t), .val (.int n)] [(.ref t), (.int n)])) rfl rfl (hb hby own_d7_2)) ?_
  rw [len_of S1 M1]
  show G (s₁.setTop (mkF m 3 #[.val (.ref t), .val (.int n)] [(.int n2), (.int n)]))
  refine hG _ _ (fun t k => XS.isub X0.here hx rfl (hb hby own_d7_3) rfl k) ?_
  show G (s₁.setTop (mkF m 4 #[.val (.ref t), .val (.int n)] [(.int (n - n2))]))
  refine hG _ _ (fun t k => XS.bipush X0.here hx rfl (hb hby own_d7_4) k) ?_
  show G (s₁.setTop (mkF m 6 #[.val (.ref t), .val (.int n)] [(.int (31 : Int32)), (.int (n - n2))]))
  refine hG _ _ (fun t k => XS.iushr X0.here hx rfl (hb hby own_d7_6) rfl k) ?_
  show G (s₁.setTop (mkF m 7 #[.val (.ref t), .val (.int n)] [(.int (((n - n2).toUInt32 >>> ((31 : Int32) &&& 31).toUInt32).toInt32))]))
  refine hG _ _ (fun t k => XS.i2b X0.here hx rfl (hb hby own_d7_7) rfl k) ?_
  show G (s₁.setTop (mkF m 8 #[.val (.ref t), .val (.int n)] [(.int ((((n - n2).toUInt32 >>> ((31 : Int32) &&& 31).toUInt32).toInt32).toInt8.toInt32))]))
  exact own_retN hR hret (by simp) X0 hx (hb hby own_d7_8) (by decide) (by decide) (by rw [e0]; exact ⟨(by rw [g1_hr]), N0, rfl⟩)
theorem own_pd4 : parseMethodDescriptor "([CIILjava/lang/Void;)V" = some ⟨[(.array .char), .int, .int, (.object "java/lang/Void")], none⟩ := by decide +kernel
set_option maxRecDepth 65536 in
set_option maxHeartbeats 40000000 in
theorem own_str4 (l : Launch) (Z : State) (a0 : Array Value) (hw : ∀ d ∈ tables_1, d.before a0 Z = true) (a : Addr) (u : Addr) (ku : ClassId) (cs : List Int32) (cpt : Int32) (v0 : Value) (v1 : Value) (h0 : Heap) (O0 : own_Old Z h0) (g0_E : Exa Z h0 a "java/lang/String") (g1_F : Fld Z h0 a "java/lang/String" "coder" "B" v0) (g2_F : Fld Z h0 a "java/lang/String" "value" "[B" v1) (g3_G : Z.heap.size ≤ a) (g4_V : Arv Z h0 u ku .char (Int32.ofNat cs.length) (cs.map Value.int) (.int (0 : Int32))) (g5_hpos : 0 < cs.length) (g6_hcap : cs.length ≤ 2) (g7_hcs : ∀ c ∈ cs, ¬ ((255 : Int32) < c)) (g8_S : Sta Z Z.heap "java/lang/String" "COMPACT_STRINGS" "Z" (.int cpt)) (g9_hcpt : ¬ (cpt = (0 : Int32))) :
    own_Con l Z (⟨"java/lang/String", "<init>", "([CIILjava/lang/Void;)V"⟩ : MethodName) jdk_42_method_149_code 6 none [] ({ frames := 2, cells := 1, slots := 2, locals := 35 } : Room) #[(.ref a), (.ref u), (.int (0 : Int32)), (.int (Int32.ofNat cs.length)), .null] h0 (fun rv rh rL => ∃ (t : Addr) (kt : ClassId), rv = none ∧ own_Fr Z rL ∧ Keep h0 rh [a] ∧ h0.size ≤ t ∧ (Exa Z rh a "java/lang/String") ∧ (Fld Z rh a "java/lang/String" "coder" "B" (.int (0 : Int32))) ∧ (Fld Z rh a "java/lang/String" "value" "[B" (.ref t)) ∧ (Arv Z rh t kt .byte (Int32.ofNat cs.length) (cs.map fun c => Value.int c.toInt8.toInt32) (.int (0 : Int32)))) := by
  refine own_intro (plainFor_of_name (by first | (simp [plainName, overriddenIn]; done) | decide +kernel)) ?_
  intro p e s m below meth c s₁ G hx hby hml hown hnm hret hZ X0 e0 hG hR
  have N0 := Fr.nil Z.heap.size
  refine own_entry (Ls := #[.val (.ref a), .val (.ref u), .val (.int (0 : Int32)), .val (.int (Int32.ofNat cs.length)), .val .null, .unset]) (by first | (simp [entryFrame, mkF, argsToLocals, Value.category]; done) | rfl) ?_
  show G (s₁.setTop (mkF m 0 #[.val (.ref a), .val (.ref u), .val (.int (0 : Int32)), .val (.int (Int32.ofNat cs.length)), .val .null, .unset] []))
  refine hG _ _ (fun t k => XS.aloadN X0.here hx rfl (hb hby own_d3_0) rfl rfl k) ?_
  show G (s₁.setTop (mkF m 1 #[.val (.ref a), .val (.ref u), .val (.int (0 : Int32)), .val (.int (Int32.ofNat cs.length)), .val .null, .unset] [(.ref a)]))
  obtain ⟨T1, X1, e1, st1⟩ := initO X0 hx hZ hown (hw _ (List.mem_of_getElem? (i := 15) rfl)) (hw _ (List.mem_of_getElem? (i := 16) rfl)) (hw _ (List.mem_of_getElem? (i := 17) rfl)) e0 (g := (mkF m 1 #[.val (.ref a), .val (.ref u), .val (.int (0 : Int32)), .val (.int (Int32.ofNat cs.length)), .val .null, .unset] [(.ref a)])) rfl (by rw [hml]; rfl) rfl (hb hby own_d3_1) (by decide) (W := 0) (by show 2 * 0 + _ ≤ _; exact Nat.le_of_eq rfl) (by decide)
  refine hG _ _ st1 ?_
  show G (T1.setTop (mkF m 4 #[.val (.ref a), .val (.ref u), .val (.int (0 : Int32)), .val (.int (Int32.ofNat cs.length)), .val .null, .unset] []))
  refine hG _ _ (fun t k => XS.iloadN X1.here hx rfl (hb hby own_d3_4) rfl k) ?_
  show G (T1.setTop (mkF m 5 #[.val (.ref a), .val (.ref u), .val (.int (0 : Int32)), .val (.int (Int32.ofNat cs.length)), .val .null, .unset] [(.int (Int32.ofNat cs.length))]))
  refine hG _ _ (fun t k => XS.ifYes X1.here hx rfl (pc0 := 5) (pc' := 27) rfl (hb hby own_d3_5) rfl ((if0 _ _).trans (feq (fun q => Nat.ne_of_gt g5_hpos (own_ofNat_inj (by omega) (by decide) q))).2) (by decide) (by decide) k) ?_
  show G (T1.setTop (mkF m 27 #[.val (.ref a), .val (.ref u), .val (.int (0 : Int32)), .val (.int (Int32.ofNat cs.length)), .val .null, .unset] []))
  obtain ⟨T2, X2, e2, st2⟩ := getS2 X1 hx hZ hown (host := "") (Or.inl (hw _ (List.mem_of_getElem? (i := 18) rfl))) Via.refl e1 (own_sta g8_S O0) (g := (mkF m 27 #[.val (.ref a), .val (.ref u), .val (.int (0 : Int32)), .val (.int (Int32.ofNat cs.length)), .val .null, .unset] [])) rfl (hb hby own_d3_27)
  refine hG _ _ st2 ?_
  show G (T2.setTop (mkF m 30 #[.val (.ref a), .val (.ref u), .val (.int (0 : Int32)), .val (.int (Int32.ofNat cs.length)), .val .null, .unset] [(.int cpt)]))
  refine hG _ _ (fun t k => XS.ifNo X2.here hx rfl (hb hby own_d3_30) rfl ((if0 _ _).trans (feq g9_hcpt).1) k) ?_
  show G (T2.setTop (mkF m 33 #[.val (.ref a), .val (.ref u), .val (.int (0 : Int32)), .val (.int (Int32.ofNat cs.length)), .val .null, .unset] []))
  refine hG _ _ (fun t k => XS.aloadN X2.here hx rfl (hb hby own_d3_33) rfl rfl k) ?_
  show G (T2.setTop (mkF m 34 #[.val (.ref a), .val (.ref u), .val (.int (0 : Int32)), .val (.int (Int32.ofNat cs.length)), .val .null, .unset] [(.ref u)]))
  refine hG _ _ (fun t k => XS.iloadN X2.here hx rfl (hb hby own_d3_34) rfl k) ?_
  show G (T2.setTop (mkF m 35 #[.val (.ref a), .val (.ref u), .val (.int (0 : Int32)), .val (.int (Int32.ofNat cs.length)), .val .null, .unset] [(.int (0 : Int32)), (.ref u)]))
  refine hG _ _ (fun t k => XS.iloadN X2.here hx rfl (hb hby own_d3_35) rfl k) ?_
  show G (T2.setTop (mkF m 36 #[.val (.ref a), .val (.ref u), .val (.int (0 : Int32)), .val (.int (Int32.ofNat cs.length)), .val .null, .unset] [(.int (Int32.ofNat cs.length)), (.int (0 : Int32)), (.ref u)]))
  refine own_callS X2 hx hZ hG hown (hw _ (List.mem_of_getElem? (i := 19) rfl)) (hw _ (List.mem_of_getElem? (i := 20) rfl)) (hw _ (List.mem_of_getElem? (i := 21) rfl)) (hw _ (List.mem_of_getElem? (i := 22) rfl)) (by decide) 0 (own_cmp3 l Z a0 hw u ku cs h0 O0 g4_V g6_hcap g7_hcs) (by decide) (by decide) e2 (by rw [hml]; rfl) (lenOf own_pd2 rfl) (argsL := [(.ref u), (.int (0 : Int32)), (.int (Int32.ofNat cs.length))]) (rest := []) rfl rfl (Nat.le_of_eq rfl) (hb hby own_d3_36) (by decide) (by decide) ?_
  intro T3 h3 v3 L3 X3 e3 q3
  obtain ⟨t_3, kt_3, rfl, M3, J3, y3_0, r3_0⟩ := q3
  have N3 := Fr.app N0 M3
  have K3 : Keep h0 h3 [a] := (Keep.refl h0 [a]).trans J3 all0
  have O3 : own_Old Z h3 := O0.keep J3 all0
  show G (T3.setTop (mkF m 39 #[.val (.ref a), .val (.ref u), .val (.int (0 : Int32)), .val (.int (Int32.ofNat cs.length)), .val .null, .unset] [(.ref t_3)]))
  refine hG _ _ (fun t k => XS.astore X3.here hx rfl (hb hby own_d3_39) rfl rfl (l' := #[.val (.ref a), .val (.ref u), .val (.int (0 : Int32)), .val (.int (Int32.ofNat cs.length)), .val .null, .val (.ref t_3)]) rfl k) ?_
  show G (T3.setTop (mkF m 41 #[.val (.ref a), .val (.ref u), .val (.int (0 : Int32)), .val (.int (Int32.ofNat cs.length)), .val .null, .val (.ref t_3)] []))
  refine hG _ _ (fun t k => XS.aloadN X3.here hx rfl (hb hby own_d3_41) rfl rfl k) ?_
  show G (T3.setTop (mkF m 42 #[.val (.ref a), .val (.ref u), .val (.int (0 : Int32)), .val (.int (Int32.ofNat cs.length)), .val .null, .val (.ref t_3)] [(.ref a)]))
  refine hG _ _ (fun t k => XS.aload X3.here hx rfl (hb hby own_d3_42) rfl rfl k) ?_
  show G (T3.setTop (mkF m 44 #[.val (.ref a), .val (.ref u), .val (.int (0 : Int32)), .val (.int (Int32.ofNat cs.length)), .val .null, .val (.ref t_3)] [(.ref t_3), (.ref a)]))
  refine hG _ _ (fun t k => XS.iloadN X3.here hx rfl (hb hby own_d3_44) rfl k) ?_
  show G (T3.setTop (mkF m 45 #[.val (.ref a), .val (.ref u), .val (.int (0 : Int32)), .val (.int (Int32.ofNat cs.length)), .val .null, .val (.ref t_3)] [(.int (Int32.ofNat cs.length)), (.ref t_3), (.ref a)]))
  refine own_callS X3 hx hZ hG hown (hw _ (List.mem_of_getElem? (i := 27) rfl)) (hw _ (List.mem_of_getElem? (i := 28) rfl)) (hw _ (List.mem_of_getElem? (i := 21) rfl)) (hw _ (List.mem_of_getElem? (i := 29) rfl)) (by decide) 1 (own_coder l Z a0 hw t_3 (Int32.ofNat cs.length) kt_3 (Int32.ofNat cs.length) (cs.map fun c => Value.int c.toInt8.toInt32) (0 : Int32) h3 O3 r3_0 (by rw [Int32.sub_self]; rfl)) (by decide) (by decide) e3 (by rw [hml]; rfl) (lenOf own_pd3 rfl) (argsL := [(.ref t_3), (.int (Int32.ofNat cs.length))]) (rest := [(.ref a)]) rfl rfl (Nat.le_of_eq rfl) (hb hby own_d3_45) (by decide) (by decide) ?_
  intro T4 h4 v4 L4 X4 e4 q4
  obtain ⟨rfl, M4, rfl⟩ := q4
  have N4 := Fr.app N3 M4
  show G (T4.setTop (mkF m 48 #[.val (.ref a), .val (.ref u), .val (.int (0 : Int32)), .val (.int (Int32.ofNat cs.length)), .val .null, .val (.ref t_3)] [(.int (0 : Int32)), (.ref a)]))
  have f6 := (g1_F.keep J3 nin0)
  have f7 := (g0_E.keep J3)
  obtain ⟨T5, h5, X5, e5, W5, st5⟩ := putFN X4 hx hZ hown (hw _ (List.mem_of_getElem? (i := 30) rfl)) Via.refl e4 f6 f7 (Or.inr ⟨(hw _ (List.mem_of_getElem? (i := 31) rfl)), rfl, hnm⟩) (hw _ (List.mem_of_getElem? (i := 5) rfl)) (ty := .byte) (v' := (.int (0 : Int32))) (by decide) rfl rfl (g := (mkF m 48 #[.val (.ref a), .val (.ref u), .val (.int (0 : Int32)), .val (.int (Int32.ofNat cs.length)), .val .null, .val (.ref t_3)] [(.int (0 : Int32)), (.ref a)])) rfl rfl (hb hby own_d3_48)
  refine hG _ _ st5 ?_
  have K5 : Keep h0 h5 [a] := K3.wr W5 (Or.inl (List.mem_of_getElem? (i := 0) rfl))
  have O5 : own_Old Z h5 := O3.wr W5 g3_G
  have N5 := Fr.snoc X5 N4 g3_G
  show G (T5.setTop (mkF m 51 #[.val (.ref a), .val (.ref u), .val (.int (0 : Int32)), .val (.int (Int32.ofNat cs.length)), .val .null, .val (.ref t_3)] []))
  refine hG _ _ (fun t k => XS.aloadN X5.here hx rfl (hb hby own_d3_51) rfl rfl k) ?_
  show G (T5.setTop (mkF m 52 #[.val (.ref a), .val (.ref u), .val (.int (0 : Int32)), .val (.int (Int32.ofNat cs.length)), .val .null, .val (.ref t_3)] [(.ref a)]))
  refine hG _ _ (fun t k => XS.aload X5.here hx rfl (hb hby own_d3_52) rfl rfl k) ?_
  show G (T5.setTop (mkF m 54 #[.val (.ref a), .val (.ref u), .val (.int (0 : Int32)), .val (.int (Int32.ofNat cs.length)), .val .null, .val (.ref t_3)] [(.ref t_3), (.ref a)]))
  have f9 := ((g2_F.keep J3 nin0).other W5 (Or.inr (slot_ne (Or.inr (hw _ (List.mem_of_getElem? (i := 33) rfl))) (Or.inr (hw _ (List.mem_of_getElem? (i := 31) rfl))) (by decide) (t := (.array .byte)) (t' := .byte) (by decide) (by decide))))
  have f10 := (f7.wr W5)
  obtain ⟨T8, h8, X8, e8, W8, st8⟩ := putF X5 hx hZ hown (host := "") (Or.inl (hw _ (List.mem_of_getElem? (i := 32) rfl))) Via.refl e5 f9 f10 (Or.inr ⟨(hw _ (List.mem_of_getElem? (i := 33) rfl)), rfl, hnm⟩) (hw _ (List.mem_of_getElem? (i := 5) rfl)) (ty := (.array .byte)) (by decide) rfl rfl (g := (mkF m 54 #[.val (.ref a), .val (.ref u), .val (.int (0 : Int32)), .val (.int (Int32.ofNat cs.length)), .val .null, .val (.ref t_3)] [(.ref t_3), (.ref a)])) rfl rfl (hb hby own_d3_54)
  refine hG _ _ st8 ?_
  have K8 : Keep h0 h8 [a] := K5.wr W8 (Or.inl (List.mem_of_getElem? (i := 0) rfl))
  have O8 : own_Old Z h8 := O5.wr W8 g3_G
  have N8 := Fr.snoc X8 N5 g3_G
  show G (T8.setTop (mkF m 57 #[.val (.ref a), .val (.ref u), .val (.int (0 : Int32)), .val (.int (Int32.ofNat cs.length)), .val .null, .val (.ref t_3)] []))
  have f11 := (f10.wr W8)
  have f12 := ((f6.same W5).other W8 (Or.inr (slot_ne (Or.inr (hw _ (List.mem_of_getElem? (i := 31) rfl))) (Or.inr (hw _ (List.mem_of_getElem? (i := 33) rfl))) (by decide) (t := .byte) (t' := (.array .byte)) (by decide) (by decide))))
  have f13 := ((r3_0.other W5 (Ne.symm (own_ne g0_E.lt y3_0))).other W8 (Ne.symm (own_ne g0_E.lt y3_0)))
  exact own_retV hR hret X8 hx (hb hby own_d3_57) (by decide) (by decide) (by rw [e8]; exact ⟨t_3, kt_3, rfl, N8, K8, (Nat.le_trans (Keep.refl h0 [a]).1 y3_0), f11, f12, (f9.same W8), f13⟩)
theorem own_pd5 : parseMethodDescriptor "([C)V" = some ⟨[(.array .char)], none⟩ := by decide +kernel
set_option maxRecDepth 65536 in
set_option maxHeartbeats 40000000 in
theorem own_str1 (l : Launch) (Z : State) (a0 : Array Value) (hw : ∀ d ∈ tables_1, d.before a0 Z = true) (a : Addr) (u : Addr) (ku : ClassId) (cs : List Int32) (cpt : Int32) (v0 : Value) (v1 : Value) (h0 : Heap) (O0 : own_Old Z h0) (g0_E : Exa Z h0 a "java/lang/String") (g1_F : Fld Z h0 a "java/lang/String" "coder" "B" v0) (g2_F : Fld Z h0 a "java/lang/String" "value" "[B" v1) (g3_G : Z.heap.size ≤ a) (g4_V : Arv Z h0 u ku .char (Int32.ofNat cs.length) (cs.map Value.int) (.int (0 : Int32))) (g5_hpos : 0 < cs.length) (g6_hcap : cs.length ≤ 2) (g7_hcs : ∀ c ∈ cs, ¬ ((255 : Int32) < c)) (g8_S : Sta Z Z.heap "java/lang/String" "COMPACT_STRINGS" "Z" (.int cpt)) (g9_hcpt : ¬ (cpt = (0 : Int32))) :
    own_Con l Z (⟨"java/lang/String", "<init>", "([C)V"⟩ : MethodName) jdk_42_method_3_code 2 none [] ({ frames := 3, cells := 1, slots := 2, locals := 52 } : Room) #[(.ref a), (.ref u)] h0 (fun rv rh rL => ∃ (t : Addr) (kt : ClassId), rv = none ∧ own_Fr Z rL ∧ Keep h0 rh [a] ∧ h0.size ≤ t ∧ (Exa Z rh a "java/lang/String") ∧ (Fld Z rh a "java/lang/String" "coder" "B" (.int (0 : Int32))) ∧ (Fld Z rh a "java/lang/String" "value" "[B" (.ref t)) ∧ (Arv Z rh t kt .byte (Int32.ofNat cs.length) (cs.map fun c => Value.int c.toInt8.toInt32) (.int (0 : Int32)))) := by
  refine own_intro (plainFor_of_name (by first | (simp [plainName, overriddenIn]; done) | decide +kernel)) ?_
  intro p e s m below meth c s₁ G hx hby hml hown hnm hret hZ X0 e0 hG hR
  have N0 := Fr.nil Z.heap.size
  refine own_entry (Ls := #[.val (.ref a), .val (.ref u)]) (by first | (simp [entryFrame, mkF, argsToLocals, Value.category]; done) | rfl) ?_
  show G (s₁.setTop (mkF m 0 #[.val (.ref a), .val (.ref u)] []))
  refine hG _ _ (fun t k => XS.aloadN X0.here hx rfl (hb hby own_d2_0) rfl rfl k) ?_
  show G (s₁.setTop (mkF m 1 #[.val (.ref a), .val (.ref u)] [(.ref a)]))
  refine hG _ _ (fun t k => XS.aloadN X0.here hx rfl (hb hby own_d2_1) rfl rfl k) ?_
  show G (s₁.setTop (mkF m 2 #[.val (.ref a), .val (.ref u)] [(.ref u), (.ref a)]))
  refine hG _ _ (fun t k => XS.iconst X0.here hx rfl (hb hby own_d2_2) k) ?_
  show G (s₁.setTop (mkF m 3 #[.val (.ref a), .val (.ref u)] [(.int (0 : Int32)), (.ref u), (.ref a)]))
  refine hG _ _ (fun t k => XS.aloadN X0.here hx rfl (hb hby own_d2_3) rfl rfl k) ?_
  show G (s₁.setTop (mkF m 4 #[.val (.ref a), .val (.ref u)] [(.ref u), (.int (0 : Int32)), (.ref u), (.ref a)]))
  obtain ⟨c1, Ar1, -, S1, M1, -, -⟩ := id g4_V
  refine hG _ _ (X0.arraylength hx (by rw [e0]; exact Ar1.1) (State.isArrayOf_alike hZ.alike Ar1.2.1) (g := (mkF m 4 #[.val (.ref a), .val (.ref u)] [(.ref u), (.int (0 : Int32)), (.ref u), (.ref a)])) rfl rfl (hb hby own_d2_4)) ?_
  rw [len_of S1 M1]
  show G (s₁.setTop (mkF m 5 #[.val (.ref a), .val (.ref u)] [(.int (Int32.ofNat cs.length)), (.int (0 : Int32)), (.ref u), (.ref a)]))
  refine hG _ _ (fun t k => XS.aconstNull X0.here hx rfl (hb hby own_d2_5) k) ?_
  show G (s₁.setTop (mkF m 6 #[.val (.ref a), .val (.ref u)] [.null, (.int (Int32.ofNat cs.length)), (.int (0 : Int32)), (.ref u), (.ref a)]))
  refine own_callI X0 hx hZ hG hown rfl (hw _ (List.mem_of_getElem? (i := 11) rfl)) (hw _ (List.mem_of_getElem? (i := 12) rfl)) (hw _ (List.mem_of_getElem? (i := 6) rfl)) (hw _ (List.mem_of_getElem? (i := 14) rfl)) (by decide) 0 (own_str4 l Z a0 hw a u ku cs cpt v0 v1 h0 O0 g0_E g1_F g2_F g3_G g4_V g5_hpos g6_hcap g7_hcs g8_S g9_hcpt) (by decide) (by decide) e0 (by rw [hml]; rfl) (lenOf own_pd4 rfl) (argsL := [(.ref u), (.int (0 : Int32)), (.int (Int32.ofNat cs.length)), .null]) (rest := []) rfl rfl (Nat.le_of_eq rfl) (hb hby own_d2_6) (by decide) (by decide) ?_
  intro T2 h2 v2 L2 X2 e2 q2
  obtain ⟨t_2, kt_2, rfl, M2, J2, y2_0, r2_0, r2_1, r2_2, r2_3⟩ := q2
  have N2 := Fr.app N0 M2
  have K2 : Keep h0 h2 [a] := (Keep.refl h0 [a]).trans J2 (allS (Or.inl (List.mem_of_getElem? (i := 0) rfl)) all0)
  have O2 : own_Old Z h2 := O0.keep J2 (allS g3_G all0)
  show G (T2.setTop (mkF m 9 #[.val (.ref a), .val (.ref u)] []))
  exact own_retV hR hret X2 hx (hb hby own_d2_9) (by decide) (by decide) (by rw [e2]; exact ⟨t_2, kt_2, rfl, N2, K2, (Nat.le_trans (Keep.refl h0 [a]).1 y2_0), r2_0, r2_1, r2_2, r2_3⟩)
set_option maxRecDepth 65536 in
set_option maxHeartbeats 40000000 in
theorem own_str4E (l : Launch) (Z : State) (a0 : Array Value) (hw : ∀ d ∈ tables_1, d.before a0 Z = true) (hEL : EW Z a0 consts_1) (a : Addr) (u : Addr) (v0 : Value) (h0 : Heap) (O0 : own_Old Z h0) (g0_E : Exa Z h0 a "java/lang/String") (g1_F : Fld Z h0 a "java/lang/String" "coder" "B" v0) (g2_F : Fld Z h0 a "java/lang/String" "value" "[B" .null) (g3_G : Z.heap.size ≤ a) :
    own_ConW l Z consts_1 (⟨"java/lang/String", "<init>", "([CIILjava/lang/Void;)V"⟩ : MethodName) jdk_42_method_149_code 6 none [] ({ frames := 1, cells := 4, slots := 8, locals := 12 } : Room) #[(.ref a), (.ref u), (.int (0 : Int32)), (.int (0 : Int32)), .null] h0 (fun rv rh rL => ∃ (t : Addr) (kt : ClassId), rv = none ∧ own_Fr Z rL ∧ Keep h0 rh [a] ∧ (Exa Z rh a "java/lang/String") ∧ (Fld Z rh a "java/lang/String" "coder" "B" (.int (0 : Int32))) ∧ (Fld Z rh a "java/lang/String" "value" "[B" (.ref t)) ∧ (Arv Z rh t kt .byte (0 : Int32) [] (.int (0 : Int32)))) := by
  refine own_introW hEL (plainFor_of_name (by first | (simp [plainName, overriddenIn]; done) | decide +kernel)) ?_
  intro p e s m below meth c s₁ G hx hby hml hown hnm hret hZ X0 e0 H0 SI0 hG hR
  have N0 := Fr.nil Z.heap.size
  refine own_entry (Ls := #[.val (.ref a), .val (.ref u), .val (.int (0 : Int32)), .val (.int (0 : Int32)), .val .null, .unset]) (by first | (simp [entryFrame, mkF, argsToLocals, Value.category]; done) | rfl) ?_
  show G (s₁.setTop (mkF m 0 #[.val (.ref a), .val (.ref u), .val (.int (0 : Int32)), .val (.int (0 : Int32)), .val .null, .unset] []))
  refine hG _ _ (fun t k => XS.aloadN X0.here hx rfl (hb hby own_d3_0) rfl rfl k) ?_
  show G (s₁.setTop (mkF m 1 #[.val (.ref a), .val (.ref u), .val (.int (0 : Int32)), .val (.int (0 : Int32)), .val .null, .unset] [(.ref a)]))
  obtain ⟨T1, X1, e1, st1⟩ := initO X0 hx hZ hown (hw _ (List.mem_of_getElem? (i := 15) rfl)) (hw _ (List.mem_of_getElem? (i := 16) rfl)) (hw _ (List.mem_of_getElem? (i := 17) rfl)) e0 (g := (mkF m 1 #[.val (.ref a), .val (.ref u), .val (.int (0 : Int32)), .val (.int (0 : Int32)), .val .null, .unset] [(.ref a)])) rfl (by rw [hml]; rfl) rfl (hb hby own_d3_1) (by decide) (W := 0) (by show 2 * 0 + _ ≤ _; exact Nat.le_of_eq rfl) (by decide)
  refine hG _ _ st1 ?_
  show G (T1.setTop (mkF m 4 #[.val (.ref a), .val (.ref u), .val (.int (0 : Int32)), .val (.int (0 : Int32)), .val .null, .unset] []))
  refine hG _ _ (fun t k => XS.iloadN X1.here hx rfl (hb hby own_d3_4) rfl k) ?_
  show G (T1.setTop (mkF m 5 #[.val (.ref a), .val (.ref u), .val (.int (0 : Int32)), .val (.int (0 : Int32)), .val .null, .unset] [(.int (0 : Int32))]))
  refine hG _ _ (fun t k => XS.ifNo X1.here hx rfl (hb hby own_d3_5) rfl ((if0 _ _).trans (teq (rfl : (0 : Int32) = (0 : Int32))).2) k) ?_
  show G (T1.setTop (mkF m 8 #[.val (.ref a), .val (.ref u), .val (.int (0 : Int32)), .val (.int (0 : Int32)), .val .null, .unset] []))
  refine hG _ _ (fun t k => XS.aloadN X1.here hx rfl (hb hby own_d3_8) rfl rfl k) ?_
  show G (T1.setTop (mkF m 9 #[.val (.ref a), .val (.ref u), .val (.int (0 : Int32)), .val (.int (0 : Int32)), .val .null, .unset] [(.ref a)]))
  obtain ⟨a2, T2, h2, k2, b2, kc2, X2, e2, E2, SI2, hk2, hZ2, hown2, Ea2, Fc2, Fv2, V2, la2, lb2, Y2, Li2, Nq2, st2⟩ := ldcCH X1 hx hZ hown (hw _ (List.mem_of_getElem? (i := 34) rfl)) (own_wS hw) e1 SI0 (Nat.le_refl _) hEL (List.mem_of_getElem? (i := 0) rfl) H0 (vs := []) (z := (0 : Int32)) ⟨by decide, by decide⟩ (by decide) rfl (g := (mkF m 9 #[.val (.ref a), .val (.ref u), .val (.int (0 : Int32)), .val (.int (0 : Int32)), .val .null, .unset] [(.ref a)])) rfl (hb hby own_d3_9) (n := 0) (by decide) (by decide) (by decide) (by decide)
  refine hG _ _ st2 ?_
  have R2 := Y2
  have C2 := (CHr.refl H0).trans R2
  have K2 : Keep h0 h2 [a] := (Keep.refl h0 [a]).ext E2
  have O2 : own_Old Z h2 := O0.ext E2
  show G (T2.setTop (mkF m 11 #[.val (.ref a), .val (.ref u), .val (.int (0 : Int32)), .val (.int (0 : Int32)), .val .null, .unset] [(.ref a2), (.ref a)]))
  obtain ⟨T3, X3, e3, st3⟩ := getF X2 hx hZ2 hown2 (host := "") (Or.inl (hw _ (List.mem_of_getElem? (i := 32) rfl))) Via.refl e2 Fv2 (g := (mkF m 11 #[.val (.ref a), .val (.ref u), .val (.int (0 : Int32)), .val (.int (0 : Int32)), .val .null, .unset] [(.ref a2), (.ref a)])) rfl rfl (hb hby own_d3_11)
  refine hG _ _ st3 ?_
  show G (T3.setTop (mkF m 14 #[.val (.ref a), .val (.ref u), .val (.int (0 : Int32)), .val (.int (0 : Int32)), .val .null, .unset] [(.ref b2), (.ref a)]))
  have f5 := (g2_F.ext E2)
  have f6 := (g0_E.ext E2)
  obtain ⟨T4, h4, X4, e4, W4, st4⟩ := putF X3 hx hZ2 hown2 (host := "") (Or.inl (hw _ (List.mem_of_getElem? (i := 32) rfl))) Via.refl e3 f5 f6 (Or.inr ⟨(hw _ (List.mem_of_getElem? (i := 33) rfl)), rfl, hnm⟩) (hw _ (List.mem_of_getElem? (i := 5) rfl)) (ty := (.array .byte)) (by decide) rfl rfl (g := (mkF m 14 #[.val (.ref a), .val (.ref u), .val (.int (0 : Int32)), .val (.int (0 : Int32)), .val .null, .unset] [(.ref b2), (.ref a)])) rfl rfl (hb hby own_d3_14)
  refine hG _ _ st4 ?_
  have sf7 : Safe Z consts_1 _ h2 a := (own_safeStr hZ2.alike f6 f5)
  have R4 := (CHr.wr W4 sf7 R2.1)
  have C4 := C2.trans R4
  have K4 : Keep h0 h4 [a] := K2.wr W4 (Or.inl (List.mem_of_getElem? (i := 0) rfl))
  have O4 : own_Old Z h4 := O2.wr W4 g3_G
  have N4 := Fr.snoc X4 N0 g3_G
  show G (T4.setTop (mkF m 17 #[.val (.ref a), .val (.ref u), .val (.int (0 : Int32)), .val (.int (0 : Int32)), .val .null, .unset] []))
  refine hG _ _ (fun t k => XS.aloadN X4.here hx rfl (hb hby own_d3_17) rfl rfl k) ?_
  show G (T4.setTop (mkF m 18 #[.val (.ref a), .val (.ref u), .val (.int (0 : Int32)), .val (.int (0 : Int32)), .val .null, .unset] [(.ref a)]))
  obtain ⟨a8, T8, h8, k8, b8, kc8, X8, e8, E8, SI8, hk8, hZ8, hown8, Ea8, Fc8, Fv8, V8, la8, lb8, Y8, Li8, Nq8, st8⟩ := ldcCH X4 hx hZ2 hown2 (hw _ (List.mem_of_getElem? (i := 34) rfl)) (own_wS hw) e4 SI2 (Nat.le_trans hk2 R4.2.1) hEL (List.mem_of_getElem? (i := 0) rfl) R4.1 (vs := []) (z := (0 : Int32)) ⟨by decide, by decide⟩ (by decide) rfl (g := (mkF m 18 #[.val (.ref a), .val (.ref u), .val (.int (0 : Int32)), .val (.int (0 : Int32)), .val .null, .unset] [(.ref a)])) rfl (hb hby own_d3_18) (n := 0) (by decide) (by decide) (by decide) (by decide)
  refine hG _ _ st8 ?_
  have R8 := Y8
  have C8 := C4.trans R8
  have K8 : Keep h0 h8 [a] := K4.ext E8
  have O8 : own_Old Z h8 := O4.ext E8
  show G (T8.setTop (mkF m 20 #[.val (.ref a), .val (.ref u), .val (.int (0 : Int32)), .val (.int (0 : Int32)), .val .null, .unset] [(.ref a8), (.ref a)]))
  obtain ⟨T9, X9, e9, st9⟩ := getF X8 hx hZ8 hown8 (host := "") (Or.inl (hw _ (List.mem_of_getElem? (i := 30) rfl))) Via.refl e8 Fc8 (g := (mkF m 20 #[.val (.ref a), .val (.ref u), .val (.int (0 : Int32)), .val (.int (0 : Int32)), .val .null, .unset] [(.ref a8), (.ref a)])) rfl rfl (hb hby own_d3_20)
  refine hG _ _ st9 ?_
  show G (T9.setTop (mkF m 23 #[.val (.ref a), .val (.ref u), .val (.int (0 : Int32)), .val (.int (0 : Int32)), .val .null, .unset] [(.int (0 : Int32)), (.ref a)]))
  have f11 := (((g1_F.ext E2).other W4 (Or.inr (slot_ne (Or.inr (hw _ (List.mem_of_getElem? (i := 31) rfl))) (Or.inr (hw _ (List.mem_of_getElem? (i := 33) rfl))) (by decide) (t := .byte) (t' := (.array .byte)) (by decide) (by decide)))).ext E8)
  have f12 := ((f6.wr W4).ext E8)
  obtain ⟨T10, h10, X10, e10, W10, st10⟩ := putFN X9 hx hZ8 hown8 (hw _ (List.mem_of_getElem? (i := 30) rfl)) Via.refl e9 f11 f12 (Or.inr ⟨(hw _ (List.mem_of_getElem? (i := 31) rfl)), rfl, hnm⟩) (hw _ (List.mem_of_getElem? (i := 5) rfl)) (ty := .byte) (v' := (.int (0 : Int32))) (by decide) rfl rfl (g := (mkF m 23 #[.val (.ref a), .val (.ref u), .val (.int (0 : Int32)), .val (.int (0 : Int32)), .val .null, .unset] [(.int (0 : Int32)), (.ref a)])) rfl rfl (hb hby own_d3_23)
  refine hG _ _ st10 ?_
  have sf13 := (R8.safe (f5.same W4).lt (R4.safe f5.lt sf7))
  have R10 := (CHr.wr W10 sf13 R8.1)
  have C10 := C8.trans R10
  have K10 : Keep h0 h10 [a] := K8.wr W10 (Or.inl (List.mem_of_getElem? (i := 0) rfl))
  have O10 : own_Old Z h10 := O8.wr W10 g3_G
  have N10 := Fr.snoc X10 N4 g3_G
  show G (T10.setTop (mkF m 26 #[.val (.ref a), .val (.ref u), .val (.int (0 : Int32)), .val (.int (0 : Int32)), .val .null, .unset] []))
  have f14 := (f12.wr W10)
  have f15 := (((f5.same W4).ext E8).other W10 (Or.inr (slot_ne (Or.inr (hw _ (List.mem_of_getElem? (i := 33) rfl))) (Or.inr (hw _ (List.mem_of_getElem? (i := 31) rfl))) (by decide) (t := (.array .byte)) (t' := .byte) (by decide) (by decide))))
  have f16 := (((V2.other W4 (Ne.symm (Nq2 a sf7).2)).ext E8).other W10 (Ne.symm (Nq2 a sf7).2))
  exact own_retVW hR hret X10 hx (hb hby own_d3_26) e10 SI8 (Nat.le_trans hk8 R10.2.1) hZ8 C10 (by decide) (by decide) ⟨b2, kc2, rfl, N10, K10, f14, (f11.same W10), f15, f16⟩
set_option maxRecDepth 65536 in
set_option maxHeartbeats 40000000 in
theorem own_str1E (l : Launch) (Z : State) (a0 : Array Value) (hw : ∀ d ∈ tables_1, d.before a0 Z = true) (hEL : EW Z a0 consts_1) (a : Addr) (u : Addr) (v0 : Value) (ku : ClassId) (h0 : Heap) (O0 : own_Old Z h0) (g0_E : Exa Z h0 a "java/lang/String") (g1_F : Fld Z h0 a "java/lang/String" "coder" "B" v0) (g2_F : Fld Z h0 a "java/lang/String" "value" "[B" .null) (g3_G : Z.heap.size ≤ a) (g4_V : Arv Z h0 u ku .char (0 : Int32) [] (.int (0 : Int32))) :
    own_ConW l Z consts_1 (⟨"java/lang/String", "<init>", "([C)V"⟩ : MethodName) jdk_42_method_3_code 2 none [] ({ frames := 2, cells := 4, slots := 8, locals := 29 } : Room) #[(.ref a), (.ref u)] h0 (fun rv rh rL => ∃ (t : Addr) (kt : ClassId), rv = none ∧ own_Fr Z rL ∧ Keep h0 rh [a] ∧ (Exa Z rh a "java/lang/String") ∧ (Fld Z rh a "java/lang/String" "coder" "B" (.int (0 : Int32))) ∧ (Fld Z rh a "java/lang/String" "value" "[B" (.ref t)) ∧ (Arv Z rh t kt .byte (0 : Int32) [] (.int (0 : Int32)))) := by
  refine own_introW hEL (plainFor_of_name (by first | (simp [plainName, overriddenIn]; done) | decide +kernel)) ?_
  intro p e s m below meth c s₁ G hx hby hml hown hnm hret hZ X0 e0 H0 SI0 hG hR
  have N0 := Fr.nil Z.heap.size
  refine own_entry (Ls := #[.val (.ref a), .val (.ref u)]) (by first | (simp [entryFrame, mkF, argsToLocals, Value.category]; done) | rfl) ?_
  show G (s₁.setTop (mkF m 0 #[.val (.ref a), .val (.ref u)] []))
  refine hG _ _ (fun t k => XS.aloadN X0.here hx rfl (hb hby own_d2_0) rfl rfl k) ?_
  show G (s₁.setTop (mkF m 1 #[.val (.ref a), .val (.ref u)] [(.ref a)]))
  refine hG _ _ (fun t k => XS.aloadN X0.here hx rfl (hb hby own_d2_1) rfl rfl k) ?_
  show G (s₁.setTop (mkF m 2 #[.val (.ref a), .val (.ref u)] [(.ref u), (.ref a)]))
  refine hG _ _ (fun t k => XS.iconst X0.here hx rfl (hb hby own_d2_2) k) ?_
  show G (s₁.setTop (mkF m 3 #[.val (.ref a), .val (.ref u)] [(.int (0 : Int32)), (.ref u), (.ref a)]))
  refine hG _ _ (fun t k => XS.aloadN X0.here hx rfl (hb hby own_d2_3) rfl rfl k) ?_
  show G (s₁.setTop (mkF m 4 #[.val (.ref a), .val (.ref u)] [(.ref u), (.int (0 : Int32)), (.ref u), (.ref a)]))
  obtain ⟨c1, Ar1, -, S1, M1, -, -⟩ := id g4_V
  refine hG _ _ (X0.arraylength hx (by rw [e0]; exact Ar1.1) (State.isArrayOf_alike hZ.alike Ar1.2.1) (g := (mkF m 4 #[.val (.ref a), .val (.ref u)] [(.ref u), (.int (0 : Int32)), (.ref u), (.ref a)])) rfl rfl (hb hby own_d2_4)) ?_
  rw [len_of S1 M1]
  show G (s₁.setTop (mkF m 5 #[.val (.ref a), .val (.ref u)] [(.int (0 : Int32)), (.int (0 : Int32)), (.ref u), (.ref a)]))
  refine hG _ _ (fun t k => XS.aconstNull X0.here hx rfl (hb hby own_d2_5) k) ?_
  show G (s₁.setTop (mkF m 6 #[.val (.ref a), .val (.ref u)] [.null, (.int (0 : Int32)), (.int (0 : Int32)), (.ref u), (.ref a)]))
  refine own_callIW X0 hx hZ hG hown rfl (hw _ (List.mem_of_getElem? (i := 11) rfl)) (hw _ (List.mem_of_getElem? (i := 12) rfl)) (hw _ (List.mem_of_getElem? (i := 6) rfl)) (hw _ (List.mem_of_getElem? (i := 14) rfl)) (by decide) 0 (own_str4E l Z a0 hw hEL a u v0 h0 O0 g0_E g1_F g2_F g3_G) (by decide) (by decide) e0 SI0 (Nat.le_refl _) hEL H0 (by rw [hml]; rfl) (lenOf own_pd4 rfl) (argsL := [(.ref u), (.int (0 : Int32)), (.int (0 : Int32)), .null]) (rest := []) rfl rfl (Nat.le_of_eq rfl) (hb hby own_d2_6) (by decide) (by decide) ?_
  intro T2 h2 v2 L2 X2 e2 SI2 hZ2 hown2 Y2 q2
  obtain ⟨t_2, kt_2, rfl, M2, J2, r2_0, r2_1, r2_2, r2_3⟩ := q2
  have N2 := Fr.app N0 M2
  have R2 := Y2
  have C2 := (CHr.refl H0).trans R2
  have K2 : Keep h0 h2 [a] := (Keep.refl h0 [a]).trans J2 (allS (Or.inl (List.mem_of_getElem? (i := 0) rfl)) all0)
  have O2 : own_Old Z h2 := O0.keep J2 (allS g3_G all0)
  show G (T2.setTop (mkF m 9 #[.val (.ref a), .val (.ref u)] []))
  exact own_retVW hR hret X2 hx (hb hby own_d2_9) e2 SI2 (Nat.le_refl _) hZ2 C2 (by decide) (by decide) ⟨t_2, kt_2, rfl, N2, K2, r2_0, r2_1, r2_2, r2_3⟩
theorem own_pd6 : parseMethodDescriptor "([BB)V" = some ⟨[(.array .byte), .byte], none⟩ := by decide +kernel
set_option maxRecDepth 65536 in
set_option maxHeartbeats 40000000 in
theorem own_strb0 (l : Launch) (Z : State) (a0 : Array Value) (hw : ∀ d ∈ tables_1, d.before a0 Z = true) (a : Addr) (b : Addr) (v0 : Value) (v1 : Value) (h0 : Heap) (O0 : own_Old Z h0) (g0_E : Exa Z h0 a "java/lang/String") (g1_F : Fld Z h0 a "java/lang/String" "coder" "B" v0) (g2_F : Fld Z h0 a "java/lang/String" "value" "[B" v1) (g3_G : Z.heap.size ≤ a) :
    own_Con l Z (⟨"java/lang/String", "<init>", "([BB)V"⟩ : MethodName) jdk_42_method_151_code 3 none [] ({ frames := 1, cells := 0, slots := 0, locals := 12 } : Room) #[(.ref a), (.ref b), (.int (0 : Int32))] h0 (fun rv rh rL => rv = none ∧ own_Fr Z rL ∧ Keep h0 rh [a] ∧ (Exa Z rh a "java/lang/String") ∧ (Fld Z rh a "java/lang/String" "coder" "B" (.int (0 : Int32))) ∧ (Fld Z rh a "java/lang/String" "value" "[B" (.ref b))) := by
  refine own_intro (plainFor_of_name (by first | (simp [plainName, overriddenIn]; done) | decide +kernel)) ?_
  intro p e s m below meth c s₁ G hx hby hml hown hnm hret hZ X0 e0 hG hR
  have N0 := Fr.nil Z.heap.size
  refine own_entry (Ls := #[.val (.ref a), .val (.ref b), .val (.int (0 : Int32))]) (by first | (simp [entryFrame, mkF, argsToLocals, Value.category]; done) | rfl) ?_
  show G (s₁.setTop (mkF m 0 #[.val (.ref a), .val (.ref b), .val (.int (0 : Int32))] []))
  refine hG _ _ (fun t k => XS.aloadN X0.here hx rfl (hb hby own_d23_0) rfl rfl k) ?_
  show G (s₁.setTop (mkF m 1 #[.val (.ref a), .val (.ref b), .val (.int (0 : Int32))] [(.ref a)]))
  obtain ⟨T1, X1, e1, st1⟩ := initO X0 hx hZ hown (hw _ (List.mem_of_getElem? (i := 15) rfl)) (hw _ (List.mem_of_getElem? (i := 16) rfl)) (hw _ (List.mem_of_getElem? (i := 17) rfl)) e0 (g := (mkF m 1 #[.val (.ref a), .val (.ref b), .val (.int (0 : Int32))] [(.ref a)])) rfl (by rw [hml]; rfl) rfl (hb hby own_d23_1) (by decide) (W := 0) (by show 2 * 0 + _ ≤ _; exact Nat.le_of_eq rfl) (by decide)
  refine hG _ _ st1 ?_
  show G (T1.setTop (mkF m 4 #[.val (.ref a), .val (.ref b), .val (.int (0 : Int32))] []))
  refine hG _ _ (fun t k => XS.aloadN X1.here hx rfl (hb hby own_d23_4) rfl rfl k) ?_
  show G (T1.setTop (mkF m 5 #[.val (.ref a), .val (.ref b), .val (.int (0 : Int32))] [(.ref a)]))
  refine hG _ _ (fun t k => XS.aloadN X1.here hx rfl (hb hby own_d23_5) rfl rfl k) ?_
  show G (T1.setTop (mkF m 6 #[.val (.ref a), .val (.ref b), .val (.int (0 : Int32))] [(.ref b), (.ref a)]))
  obtain ⟨T2, h2, X2, e2, W2, st2⟩ := putF X1 hx hZ hown (host := "") (Or.inl (hw _ (List.mem_of_getElem? (i := 32) rfl))) Via.refl e1 g2_F g0_E (Or.inr ⟨(hw _ (List.mem_of_getElem? (i := 33) rfl)), rfl, hnm⟩) (hw _ (List.mem_of_getElem? (i := 5) rfl)) (ty := (.array .byte)) (by decide) rfl rfl (g := (mkF m 6 #[.val (.ref a), .val (.ref b), .val (.int (0 : Int32))] [(.ref b), (.ref a)])) rfl rfl (hb hby own_d23_6)
  refine hG _ _ st2 ?_
  have K2 : Keep h0 h2 [a] := (Keep.refl h0 [a]).wr W2 (Or.inl (List.mem_of_getElem? (i := 0) rfl))
  have O2 : own_Old Z h2 := O0.wr W2 g3_G
  have N2 := Fr.snoc X2 N0 g3_G
  show G (T2.setTop (mkF m 9 #[.val (.ref a), .val (.ref b), .val (.int (0 : Int32))] []))
  refine hG _ _ (fun t k => XS.aloadN X2.here hx rfl (hb hby own_d23_9) rfl rfl k) ?_
  show G (T2.setTop (mkF m 10 #[.val (.ref a), .val (.ref b), .val (.int (0 : Int32))] [(.ref a)]))
  refine hG _ _ (fun t k => XS.iloadN X2.here hx rfl (hb hby own_d23_10) rfl k) ?_
  show G (T2.setTop (mkF m 11 #[.val (.ref a), .val (.ref b), .val (.int (0 : Int32))] [(.int (0 : Int32)), (.ref a)]))
  have f4 := (g1_F.other W2 (Or.inr (slot_ne (Or.inr (hw _ (List.mem_of_getElem? (i := 31) rfl))) (Or.inr (hw _ (List.mem_of_getElem? (i := 33) rfl))) (by decide) (t := .byte) (t' := (.array .byte)) (by decide) (by decide))))
  have f5 := (g0_E.wr W2)
  obtain ⟨T3, h3, X3, e3, W3, st3⟩ := putFN X2 hx hZ hown (hw _ (List.mem_of_getElem? (i := 30) rfl)) Via.refl e2 f4 f5 (Or.inr ⟨(hw _ (List.mem_of_getElem? (i := 31) rfl)), rfl, hnm⟩) (hw _ (List.mem_of_getElem? (i := 5) rfl)) (ty := .byte) (v' := (.int (0 : Int32))) (by decide) rfl rfl (g := (mkF m 11 #[.val (.ref a), .val (.ref b), .val (.int (0 : Int32))] [(.int (0 : Int32)), (.ref a)])) rfl rfl (hb hby own_d23_11)
  refine hG _ _ st3 ?_
  have K3 : Keep h0 h3 [a] := K2.wr W3 (Or.inl (List.mem_of_getElem? (i := 0) rfl))
  have O3 : own_Old Z h3 := O2.wr W3 g3_G
  have N3 := Fr.snoc X3 N2 g3_G
  show G (T3.setTop (mkF m 14 #[.val (.ref a), .val (.ref b), .val (.int (0 : Int32))] []))
  have f6 := (f5.wr W3)
  have f7 := ((g2_F.same W2).other W3 (Or.inr (slot_ne (Or.inr (hw _ (List.mem_of_getElem? (i := 33) rfl))) (Or.inr (hw _ (List.mem_of_getElem? (i := 31) rfl))) (by decide) (t := (.array .byte)) (t' := .byte) (by decide) (by decide))))
  exact own_retV hR hret X3 hx (hb hby own_d23_14) (by decide) (by decide) (by rw [e3]; exact ⟨rfl, N3, K3, f6, (f4.same W3), f7⟩)
theorem own_pd7 : parseMethodDescriptor "(C)Z" = some ⟨[.char], some .boolean⟩ := by decide +kernel
set_option maxRecDepth 65536 in
set_option maxHeartbeats 40000000 in
theorem own_can1 (l : Launch) (Z : State) (a0 : Array Value) (hw : ∀ d ∈ tables_1, d.before a0 Z = true) (ch : Int32) (h0 : Heap) (O0 : own_Old Z h0) (g0_hch : ¬ ((255 : Int32) < ch)) :
    own_Con l Z (⟨"java/lang/StringLatin1", "canEncode", "(C)Z"⟩ : MethodName) jdk_43_method_3_code 1 (some .boolean) [] ({ frames := 0, cells := 0, slots := 0, locals := 0 } : Room) #[(.int ch)] h0 (fun rv rh rL => rv = some (.int (1 : Int32)) ∧ own_Fr Z rL ∧ h0 = rh) := by
  refine own_intro (plainFor_of_name (by first | (simp [plainName, overriddenIn]; done) | decide +kernel)) ?_
  intro p e s m below meth c s₁ G hx hby hml hown hnm hret hZ X0 e0 hG hR
  have N0 := Fr.nil Z.heap.size
  refine own_entry (Ls := #[.val (.int ch)]) (by first | (simp [entryFrame, mkF, argsToLocals, Value.category]; done) | rfl) ?_
  show G (s₁.setTop (mkF m 0 #[.val (.int ch)] []))
  refine hG _ _ (fun t k => XS.iloadN X0.here hx rfl (hb hby own_d21_0) rfl k) ?_
  show G (s₁.setTop (mkF m 1 #[.val (.int ch)] [(.int ch)]))
  refine hG _ _ (fun t k => XS.sipush X0.here hx rfl (hb hby own_d21_1) k) ?_
  show G (s₁.setTop (mkF m 4 #[.val (.int ch)] [(.int (255 : Int32)), (.int ch)]))
  refine hG _ _ (fun t k => XS.icmpNo X0.here hx rfl (hb hby own_d21_4) rfl (flt g0_hch).2.2.1 k) ?_
  show G (s₁.setTop (mkF m 7 #[.val (.int ch)] []))
  refine hG _ _ (fun t k => XS.iconst X0.here hx rfl (hb hby own_d21_7) k) ?_
  show G (s₁.setTop (mkF m 8 #[.val (.int ch)] [(.int (1 : Int32))]))
  refine hG _ _ (fun t k => XS.goto X0.here hx rfl (pc0 := 8) (pc' := 12) rfl (hb hby own_d21_8) (by decide) (by decide) k) ?_
  show G (s₁.setTop (mkF m 12 #[.val (.int ch)] [(.int (1 : Int32))]))
  exact own_retN hR hret (by simp) X0 hx (hb hby own_d21_12) (by decide) (by decide) (by rw [e0]; exact ⟨rfl, N0, rfl⟩)
theorem own_pd8 : parseMethodDescriptor "(C)[B" = some ⟨[.char], some (.array .byte)⟩ := by decide +kernel
set_option maxRecDepth 65536 in
set_option maxHeartbeats 40000000 in
theorem own_tob1 (l : Launch) (Z : State) (a0 : Array Value) (hw : ∀ d ∈ tables_1, d.before a0 Z = true) (ch : Int32) (h0 : Heap) (O0 : own_Old Z h0) :
    own_Con l Z (⟨"java/lang/StringLatin1", "toBytes", "(C)[B"⟩ : MethodName) jdk_43_method_46_code 1 (some (.array .byte)) [] ({ frames := 0, cells := 1, slots := 1, locals := 0 } : Room) #[(.int ch)] h0 (fun rv rh rL => ∃ (t : Addr) (kt : ClassId), rv = some (.ref t) ∧ own_Fr Z rL ∧ Keep h0 rh [] ∧ h0.size ≤ t ∧ (Arv Z rh t kt .byte (1 : Int32) [(.int (nar .byte (ch.toInt8.toInt32)))] (.int (0 : Int32)))) := by
  refine own_intro (plainFor_of_name (by first | (simp [plainName, overriddenIn]; done) | decide +kernel)) ?_
  intro p e s m below meth c s₁ G hx hby hml hown hnm hret hZ X0 e0 hG hR
  have N0 := Fr.nil Z.heap.size
  refine own_entry (Ls := #[.val (.int ch)]) (by first | (simp [entryFrame, mkF, argsToLocals, Value.category]; done) | rfl) ?_
  show G (s₁.setTop (mkF m 0 #[.val (.int ch)] []))
  refine hG _ _ (fun t k => XS.iconst X0.here hx rfl (hb hby own_d22_0) k) ?_
  show G (s₁.setTop (mkF m 1 #[.val (.int ch)] [(.int (1 : Int32))]))
  obtain ⟨T1, h1, k1, X1, e1, E1, A1, st1⟩ := newP X0 hx hZ (hw _ (List.mem_of_getElem? (i := 23) rfl)) e0 (g := (mkF m 1 #[.val (.int ch)] [(.int (1 : Int32))])) rfl (hb hby own_d22_1) rfl (by decide) (cap := 1) (by decide) (by decide) (by decide) (by decide)
  obtain ⟨b1, z1⟩ : ∃ z, z = h0.size := ⟨_, rfl⟩
  rw [← z1] at A1 st1
  refine hG _ _ st1 ?_
  have K1 : Keep h0 h1 [] := (Keep.refl h0 []).ext E1
  have O1 : own_Old Z h1 := O0.ext E1
  have V1 : Arv Z h1 b1 k1 .byte (1 : Int32) [(.int (0 : Int32))] (.int (0 : Int32)) := (Arv.new A1 (by decide)).pad (pad_rep [] (.int (0 : Int32)) 1)
  show G (T1.setTop (mkF m 3 #[.val (.int ch)] [(.ref b1)]))
  refine hG _ _ (fun t k => XS.dup X1.here hx rfl (hb hby own_d22_3) rfl rfl k) ?_
  show G (T1.setTop (mkF m 4 #[.val (.int ch)] [(.ref b1), (.ref b1)]))
  refine hG _ _ (fun t k => XS.iconst X1.here hx rfl (hb hby own_d22_4) k) ?_
  show G (T1.setTop (mkF m 5 #[.val (.int ch)] [(.int (0 : Int32)), (.ref b1), (.ref b1)]))
  refine hG _ _ (fun t k => XS.iloadN X1.here hx rfl (hb hby own_d22_5) rfl k) ?_
  show G (T1.setTop (mkF m 6 #[.val (.int ch)] [(.int ch), (.int (0 : Int32)), (.ref b1), (.ref b1)]))
  refine hG _ _ (fun t k => XS.i2b X1.here hx rfl (hb hby own_d22_6) rfl k) ?_
  show G (T1.setTop (mkF m 7 #[.val (.int ch)] [(.int (ch.toInt8.toInt32)), (.int (0 : Int32)), (.ref b1), (.ref b1)]))
  obtain ⟨c2, Ar2, q2, S2, M2, H2, G2⟩ := id V1
  obtain ⟨T2, h2, X2, e2, W2, st2⟩ := stB X1 hx hZ e1 Ar2 (j := (0 : Int32)) (inb_of S2 ⟨by decide, by decide⟩) (g := (mkF m 7 #[.val (.int ch)] [(.int (ch.toInt8.toInt32)), (.int (0 : Int32)), (.ref b1), (.ref b1)])) rfl rfl (hb hby own_d22_7)
  refine hG _ _ st2 ?_
  have K2 : Keep h0 h2 [] := K1.wr W2 (Or.inr (Nat.le_trans (Keep.refl h0 []).1 (Nat.le_of_eq z1.symm)))
  have O2 : own_Old Z h2 := O1.wr W2 (own_ge O0 (Nat.le_of_eq z1.symm))
  have V2 : Arv Z h2 b1 k1 .byte (1 : Int32) [(.int (nar .byte (ch.toInt8.toInt32)))] (.int (0 : Int32)) := Arv.set Ar2 q2 S2 M2 H2 G2 (fits_nar_byte _) W2 0 rfl (Nat.le_of_ble_eq_true rfl)
  have N2 := Fr.snoc X2 N0 (own_ge O0 (Nat.le_of_eq z1.symm))
  show G (T2.setTop (mkF m 8 #[.val (.int ch)] [(.ref b1)]))
  exact own_retA hR hret rfl rfl X2 hx (hb hby own_d22_8) (by decide) (by decide) (by rw [e2]; exact ⟨b1, k1, rfl, N2, K2, (Nat.le_trans (Keep.refl h0 []).1 (Nat.le_of_eq z1.symm)), V2⟩)
theorem own_pd9 : parseMethodDescriptor "(C)Ljava/lang/String;" = some ⟨[.char], some (.object "java/lang/String")⟩ := by decide +kernel
set_option maxRecDepth 65536 in
set_option maxHeartbeats 40000000 in
theorem own_val1 (l : Launch) (Z : State) (a0 : Array Value) (hw : ∀ d ∈ tables_1, d.before a0 Z = true) (ch : Int32) (cpt : Int32) (h0 : Heap) (O0 : own_Old Z h0) (g0_hch : ¬ ((255 : Int32) < ch)) (g1_S : Sta Z Z.heap "java/lang/String" "COMPACT_STRINGS" "Z" (.int cpt)) (g2_hcpt : ¬ (cpt = (0 : Int32))) :
    own_Con l Z (⟨"java/lang/String", "valueOf", "(C)Ljava/lang/String;"⟩ : MethodName) jdk_42_method_139_code 1 (some (.object "java/lang/String")) [] ({ frames := 2, cells := 2, slots := 5, locals := 27 } : Room) #[(.int ch)] h0 (fun rv rh rL => ∃ (t : Addr) (b : Addr) (kb : ClassId), rv = some (.ref t) ∧ own_Fr Z rL ∧ Keep h0 rh [] ∧ h0.size ≤ t ∧ h0.size ≤ b ∧ (Exa Z rh t "java/lang/String") ∧ (Fld Z rh t "java/lang/String" "coder" "B" (.int (0 : Int32))) ∧ (Fld Z rh t "java/lang/String" "value" "[B" (.ref b)) ∧ (Arv Z rh b kb .byte (1 : Int32) [(.int (nar .byte (ch.toInt8.toInt32)))] (.int (0 : Int32)))) := by
  refine own_intro (plainFor_of_name (by first | (simp [plainName, overriddenIn]; done) | decide +kernel)) ?_
  intro p e s m below meth c s₁ G hx hby hml hown hnm hret hZ X0 e0 hG hR
  have N0 := Fr.nil Z.heap.size
  refine own_entry (Ls := #[.val (.int ch)]) (by first | (simp [entryFrame, mkF, argsToLocals, Value.category]; done) | rfl) ?_
  show G (s₁.setTop (mkF m 0 #[.val (.int ch)] []))
  obtain ⟨T1, X1, e1, st1⟩ := getS2 X0 hx hZ hown (host := "") (Or.inl (hw _ (List.mem_of_getElem? (i := 18) rfl))) Via.refl e0 (own_sta g1_S O0) (g := (mkF m 0 #[.val (.int ch)] [])) rfl (hb hby own_d20_0)
  refine hG _ _ st1 ?_
  show G (T1.setTop (mkF m 3 #[.val (.int ch)] [(.int cpt)]))
  refine hG _ _ (fun t k => XS.ifNo X1.here hx rfl (hb hby own_d20_3) rfl ((if0 _ _).trans (feq g2_hcpt).1) k) ?_
  show G (T1.setTop (mkF m 6 #[.val (.int ch)] []))
  refine hG _ _ (fun t k => XS.iloadN X1.here hx rfl (hb hby own_d20_6) rfl k) ?_
  show G (T1.setTop (mkF m 7 #[.val (.int ch)] [(.int ch)]))
  refine own_callS X1 hx hZ hG hown (hw _ (List.mem_of_getElem? (i := 116) rfl)) (hw _ (List.mem_of_getElem? (i := 117) rfl)) (hw _ (List.mem_of_getElem? (i := 118) rfl)) (hw _ (List.mem_of_getElem? (i := 119) rfl)) (by decide) 0 (own_can1 l Z a0 hw ch h0 O0 g0_hch) (by decide) (by decide) e1 (by rw [hml]; rfl) (lenOf own_pd7 rfl) (argsL := [(.int ch)]) (rest := []) rfl rfl (Nat.le_of_eq rfl) (hb hby own_d20_7) (by decide) (by decide) ?_
  intro T2 h2 v2 L2 X2 e2 q2
  obtain ⟨rfl, M2, rfl⟩ := q2
  have N2 := Fr.app N0 M2
  show G (T2.setTop (mkF m 10 #[.val (.int ch)] [(.int (1 : Int32))]))
  refine hG _ _ (fun t k => XS.ifNo X2.here hx rfl (hb hby own_d20_10) rfl ((if0 _ _).trans (feq (by decide)).1) k) ?_
  show G (T2.setTop (mkF m 13 #[.val (.int ch)] []))
  obtain ⟨T3, h3, X3, e3, E3, A3, D3, -, st3⟩ := newO X2 hx hZ hown (hw _ (List.mem_of_getElem? (i := 120) rfl)) (hw _ (List.mem_of_getElem? (i := 5) rfl)) (hw _ (List.mem_of_getElem? (i := 6) rfl)) e2 (g := (mkF m 13 #[.val (.int ch)] [])) rfl (hb hby own_d20_13) (by decide) (by decide)
  obtain ⟨b3, z3⟩ : ∃ z, z = h0.size := ⟨_, rfl⟩
  rw [← z3] at A3 D3 st3
  refine hG _ _ st3 ?_
  have K3 : Keep h0 h3 [] := (Keep.refl h0 []).ext E3
  have O3 : own_Old Z h3 := O0.ext E3
  show G (T3.setTop (mkF m 16 #[.val (.int ch)] [(.ref b3)]))
  refine hG _ _ (fun t k => XS.dup X3.here hx rfl (hb hby own_d20_16) rfl rfl k) ?_
  show G (T3.setTop (mkF m 17 #[.val (.int ch)] [(.ref b3), (.ref b3)]))
  refine hG _ _ (fun t k => XS.iloadN X3.here hx rfl (hb hby own_d20_17) rfl k) ?_
  show G (T3.setTop (mkF m 18 #[.val (.int ch)] [(.int ch), (.ref b3), (.ref b3)]))
  refine own_callS X3 hx hZ hG hown (hw _ (List.mem_of_getElem? (i := 121) rfl)) (hw _ (List.mem_of_getElem? (i := 122) rfl)) (hw _ (List.mem_of_getElem? (i := 118) rfl)) (hw _ (List.mem_of_getElem? (i := 123) rfl)) (by decide) 2 (own_tob1 l Z a0 hw ch h3 O3) (by decide) (by decide) e3 (by rw [hml]; rfl) (lenOf own_pd8 rfl) (argsL := [(.int ch)]) (rest := [(.ref b3), (.ref b3)]) rfl rfl (Nat.le_of_eq rfl) (hb hby own_d20_18) (by decide) (by decide) ?_
  intro T4 h4 v4 L4 X4 e4 q4
  obtain ⟨t_4, kt_4, rfl, M4, J4, y4_0, r4_0⟩ := q4
  have N4 := Fr.app N2 M4
  have K4 : Keep h0 h4 [] := K3.trans J4 all0
  have O4 : own_Old Z h4 := O3.keep J4 all0
  show G (T4.setTop (mkF m 21 #[.val (.int ch)] [(.ref t_4), (.ref b3), (.ref b3)]))
  refine hG _ _ (fun t k => XS.iconst X4.here hx rfl (hb hby own_d20_21) k) ?_
  show G (T4.setTop (mkF m 22 #[.val (.int ch)] [(.int (0 : Int32)), (.ref t_4), (.ref b3), (.ref b3)]))
  have f6 := (A3.keep J4)
  have f7 := ((D3 (Or.inr (hw _ (List.mem_of_getElem? (i := 31) rfl))) (ty := .byte) (by decide)).keep J4 nin0)
  have f8 := ((D3 (Or.inr (hw _ (List.mem_of_getElem? (i := 33) rfl))) (ty := (.array .byte)) (by decide)).keep J4 nin0)
  refine own_callI X4 hx hZ hG hown rfl (hw _ (List.mem_of_getElem? (i := 124) rfl)) (hw _ (List.mem_of_getElem? (i := 125) rfl)) (hw _ (List.mem_of_getElem? (i := 6) rfl)) (hw _ (List.mem_of_getElem? (i := 126) rfl)) (by decide) 1 (own_strb0 l Z a0 hw b3 t_4 (.int (0 : Int32)) .null h4 O4 f6 f7 f8 (own_ge O0 (Nat.le_of_eq z3.symm))) (by decide) (by decide) e4 (by rw [hml]; rfl) (lenOf own_pd6 rfl) (argsL := [(.ref t_4), (.int (0 : Int32))]) (rest := [(.ref b3)]) rfl rfl (Nat.le_of_eq rfl) (hb hby own_d20_22) (by decide) (by decide) ?_
  intro T5 h5 v5 L5 X5 e5 q5
  obtain ⟨rfl, M5, J5, r5_0, r5_1, r5_2⟩ := q5
  have N5 := Fr.app N4 M5
  have K5 : Keep h0 h5 [] := K4.trans J5 (allS (Or.inr (Nat.le_trans (Keep.refl h0 []).1 (Nat.le_of_eq z3.symm))) all0)
  have O5 : own_Old Z h5 := O4.keep J5 (allS (own_ge O0 (Nat.le_of_eq z3.symm)) all0)
  show G (T5.setTop (mkF m 25 #[.val (.int ch)] [(.ref b3)]))
  have f9 := (r4_0.keep J5 (ninS (Ne.symm (own_ne A3.lt y4_0)) nin0))
  exact own_retA hR hret rfl rfl X5 hx (hb hby own_d20_25) (by decide) (by decide) (by rw [e5]; exact ⟨b3, t_4, kt_4, rfl, N5, K5, (Nat.le_trans (Keep.refl h0 []).1 (Nat.le_of_eq z3.symm)), (Nat.le_trans K3.1 y4_0), r5_0, r5_1, r5_2, f9⟩)
theorem own_pd10 : parseMethodDescriptor "(Ljava/lang/Object;)Z" = some ⟨[(.object "java/lang/Object")], some .boolean⟩ := by decide +kernel
set_option maxRecDepth 65536 in
set_option maxHeartbeats 40000000 in
theorem own_eqs (l : Launch) (Z : State) (a0 : Array Value) (hw : ∀ d ∈ tables_1, d.before a0 Z = true) (a : Addr) (h0 : Heap) (O0 : own_Old Z h0) :
    own_Con l Z (⟨"java/lang/String", "equals", "(Ljava/lang/Object;)Z"⟩ : MethodName) jdk_42_method_66_code 3 (some .boolean) [] ({ frames := 0, cells := 0, slots := 0, locals := 0 } : Room) #[(.ref a), (.ref a)] h0 (fun rv rh rL => rv = some (.int (1 : Int32)) ∧ own_Fr Z rL ∧ h0 = rh) := by
  refine own_intro (plainFor_of_name (by first | (simp [plainName, overriddenIn]; done) | decide +kernel)) ?_
  intro p e s m below meth c s₁ G hx hby hml hown hnm hret hZ X0 e0 hG hR
  have N0 := Fr.nil Z.heap.size
  refine own_entry (Ls := #[.val (.ref a), .val (.ref a), .unset]) (by first | (simp [entryFrame, mkF, argsToLocals, Value.category]; done) | rfl) ?_
  show G (s₁.setTop (mkF m 0 #[.val (.ref a), .val (.ref a), .unset] []))
  refine hG _ _ (fun t k => XS.aloadN X0.here hx rfl (hb hby own_d16_0) rfl rfl k) ?_
  show G (s₁.setTop (mkF m 1 #[.val (.ref a), .val (.ref a), .unset] [(.ref a)]))
  refine hG _ _ (fun t k => XS.aloadN X0.here hx rfl (hb hby own_d16_1) rfl rfl k) ?_
  show G (s₁.setTop (mkF m 2 #[.val (.ref a), .val (.ref a), .unset] [(.ref a), (.ref a)]))
  refine hG _ _ (fun t k => Jvm.RoadKit.acmp (g := (mkF m 2 #[.val (.ref a), .val (.ref a), .unset] [(.ref a), (.ref a)])) X0 hx rfl rfl rfl (pc0 := 2) (pc' := 5) (same := true) rfl (hb hby own_d16_2) rfl (decide_eq_true rfl) (by decide) (by decide) k) ?_
  show G (s₁.setTop (mkF m 5 #[.val (.ref a), .val (.ref a), .unset] []))
  refine hG _ _ (fun t k => XS.iconst X0.here hx rfl (hb hby own_d16_5) k) ?_
  show G (s₁.setTop (mkF m 6 #[.val (.ref a), .val (.ref a), .unset] [(.int (1 : Int32))]))
  exact own_retN hR hret (by simp) X0 hx (hb hby own_d16_6) (by decide) (by decide) (by rw [e0]; exact ⟨rfl, N0, rfl⟩)
theorem own_pd11 : parseMethodDescriptor "(Lcom/example/helmstead/helmstead/StoreRequest$Kind;Ljava/lang/String;JLjava/lang/String;Ljava/lang/String;Ljava/lang/String;Ljava/util/List;)V" = some ⟨[(.object "com/example/helmstead/helmstead/StoreRequest$Kind"), (.object "java/lang/String"), .long, (.object "java/lang/String"), (.object "java/lang/String"), (.object "java/lang/String"), (.object "java/util/List")], none⟩ := by decide +kernel
set_option maxRecDepth 65536 in
set_option maxHeartbeats 40000000 in
theorem own_finit (l : Launch) (Z : State) (a0 : Array Value) (hw : ∀ d ∈ tables_1, d.before a0 Z = true) (a : Addr) (x0 : Value) (x1 : Value) (x2 : Int64) (x3 : Value) (x4 : Value) (x5 : Value) (x6 : Value) (u0 : Value) (u1 : Value) (u2 : Value) (u3 : Value) (u4 : Value) (u5 : Value) (u6 : Value) (h0 : Heap) (O0 : own_Old Z h0) (g0_hx0 : x0.isRef = true) (g1_hx1 : x1.isRef = true) (g2_hx3 : x3.isRef = true) (g3_hx4 : x4.isRef = true) (g4_hx5 : x5.isRef = true) (g5_hx6 : x6.isRef = true) (g6_E : Exa Z h0 a "com/example/helmstead/helmstead/StoreRequest") (g7_G : Z.heap.size ≤ a) (g8_F : Fld Z h0 a "com/example/helmstead/helmstead/StoreRequest" "kind" "Lcom/example/helmstead/helmstead/StoreRequest$Kind;" u0) (g9_F : Fld Z h0 a "com/example/helmstead/helmstead/StoreRequest" "id" "Ljava/lang/String;" u1) (g10_F : Fld Z h0 a "com/example/helmstead/helmstead/StoreRequest" "leaseMs" "J" u2) (g11_F : Fld Z h0 a "com/example/helmstead/helmstead/StoreRequest" "table" "Ljava/lang/String;" u3) (g12_F : Fld Z h0 a "com/example/helmstead/helmstead/StoreRequest" "key" "Ljava/lang/String;" u4) (g13_F : Fld Z h0 a "com/example/helmstead/helmstead/StoreRequest" "value" "Ljava/lang/String;" u5) (g14_F : Fld Z h0 a "com/example/helmstead/helmstead/StoreRequest" "parts" "Ljava/util/List;" u6) :
    own_Con l Z (⟨"com/example/helmstead/helmstead/StoreRequest", "<init>", "(Lcom/example/helmstead/helmstead/StoreRequest$Kind;Ljava/lang/String;JLjava/lang/String;Ljava/lang/String;Ljava/lang/String;Ljava/util/List;)V"⟩ : MethodName) prog_29_method_1_code 9 none [] ({ frames := 2, cells := 0, slots := 0, locals := 24 } : Room) #[(.ref a), x0, x1, (.long x2), x3, x4, x5, x6] h0 (fun rv rh rL => rv = none ∧ own_Fr Z rL ∧ Keep h0 rh [a] ∧ (Exa Z rh a "com/example/helmstead/helmstead/StoreRequest") ∧ (Fld Z rh a "com/example/helmstead/helmstead/StoreRequest" "kind" "Lcom/example/helmstead/helmstead/StoreRequest$Kind;" x0) ∧ (Fld Z rh a "com/example/helmstead/helmstead/StoreRequest" "id" "Ljava/lang/String;" x1) ∧ (Fld Z rh a "com/example/helmstead/helmstead/StoreRequest" "leaseMs" "J" (.long x2)) ∧ (Fld Z rh a "com/example/helmstead/helmstead/StoreRequest" "table" "Ljava/lang/String;" x3) ∧ (Fld Z rh a "com/example/helmstead/helmstead/StoreRequest" "key" "Ljava/lang/String;" x4) ∧ (Fld Z rh a "com/example/helmstead/helmstead/StoreRequest" "value" "Ljava/lang/String;" x5) ∧ (Fld Z rh a "com/example/helmstead/helmstead/StoreRequest" "parts" "Ljava/util/List;" x6)) := by
  refine own_intro (plainFor_of_name (by first | (simp [plainName, overriddenIn]; done) | decide +kernel)) ?_
  intro p e s m below meth c s₁ G hx hby hml hown hnm hret hZ X0 e0 hG hR
  have N0 := Fr.nil Z.heap.size
  refine own_entry (Ls := #[.val (.ref a), .val x0, .val x1, .val (.long x2), .second, .val x3, .val x4, .val x5, .val x6]) (by rcases ref_cases g0_hx0 with rfl | ⟨_, rfl⟩ <;> rcases ref_cases g1_hx1 with rfl | ⟨_, rfl⟩ <;> rcases ref_cases g2_hx3 with rfl | ⟨_, rfl⟩ <;> rcases ref_cases g3_hx4 with rfl | ⟨_, rfl⟩ <;> rcases ref_cases g4_hx5 with rfl | ⟨_, rfl⟩ <;> rcases ref_cases g5_hx6 with rfl | ⟨_, rfl⟩ <;> first | (simp [entryFrame, mkF, argsToLocals, Value.category]; done) | rfl) ?_
  show G (s₁.setTop (mkF m 0 #[.val (.ref a), .val x0, .val x1, .val (.long x2), .second, .val x3, .val x4, .val x5, .val x6] []))
  refine hG _ _ (fun t k => XS.aloadN X0.here hx rfl (hb hby own_d9_0) rfl rfl k) ?_
  show G (s₁.setTop (mkF m 1 #[.val (.ref a), .val x0, .val x1, .val (.long x2), .second, .val x3, .val x4, .val x5, .val x6] [(.ref a)]))
  refine own_callI X0 hx hZ hG hown rfl (hw _ (List.mem_of_getElem? (i := 49) rfl)) (hw _ (List.mem_of_getElem? (i := 50) rfl)) (hw _ (List.mem_of_getElem? (i := 52) rfl)) (hw _ (List.mem_of_getElem? (i := 53) rfl)) (by decide) 0 (own_rec l Z a0 hw a h0 O0) (by decide) (by decide) e0 (by rw [hml]; rfl) (lenOf own_pd0 rfl) (argsL := []) (rest := []) rfl rfl (Nat.le_of_eq rfl) (hb hby own_d9_1) (by decide) (by decide) ?_
  intro T1 h1 v1 L1 X1 e1 q1
  obtain ⟨rfl, M1, rfl⟩ := q1
  have N1 := Fr.app N0 M1
  show G (T1.setTop (mkF m 4 #[.val (.ref a), .val x0, .val x1, .val (.long x2), .second, .val x3, .val x4, .val x5, .val x6] []))
  refine hG _ _ (fun t k => XS.aloadN X1.here hx rfl (hb hby own_d9_4) rfl rfl k) ?_
  show G (T1.setTop (mkF m 5 #[.val (.ref a), .val x0, .val x1, .val (.long x2), .second, .val x3, .val x4, .val x5, .val x6] [(.ref a)]))
  refine hG _ _ (fun t k => XS.aloadN X1.here hx rfl (hb hby own_d9_5) rfl g0_hx0 k) ?_
  show G (T1.setTop (mkF m 6 #[.val (.ref a), .val x0, .val x1, .val (.long x2), .second, .val x3, .val x4, .val x5, .val x6] [x0, (.ref a)]))
  obtain ⟨T2, h2, X2, e2, W2, st2⟩ := putF X1 hx hZ hown (host := "") (Or.inl (hw _ (List.mem_of_getElem? (i := 55) rfl))) Via.refl e1 g8_F g6_E (Or.inr ⟨(hw _ (List.mem_of_getElem? (i := 56) rfl)), rfl, hnm⟩) (hw _ (List.mem_of_getElem? (i := 42) rfl)) (ty := (.object "com/example/helmstead/helmstead/StoreRequest$Kind")) (by decide) (own_narR rfl g0_hx0) (own_fitR rfl g0_hx0) (g := (mkF m 6 #[.val (.ref a), .val x0, .val x1, .val (.long x2), .second, .val x3, .val x4, .val x5, .val x6] [x0, (.ref a)])) rfl rfl (hb hby own_d9_6)
  refine hG _ _ st2 ?_
  have K2 : Keep h0 h2 [a] := (Keep.refl h0 [a]).wr W2 (Or.inl (List.mem_of_getElem? (i := 0) rfl))
  have O2 : own_Old Z h2 := O0.wr W2 g7_G
  have N2 := Fr.snoc X2 N1 g7_G
  show G (T2.setTop (mkF m 9 #[.val (.ref a), .val x0, .val x1, .val (.long x2), .second, .val x3, .val x4, .val x5, .val x6] []))
  refine hG _ _ (fun t k => XS.aloadN X2.here hx rfl (hb hby own_d9_9) rfl rfl k) ?_
  show G (T2.setTop (mkF m 10 #[.val (.ref a), .val x0, .val x1, .val (.long x2), .second, .val x3, .val x4, .val x5, .val x6] [(.ref a)]))
  refine hG _ _ (fun t k => XS.aloadN X2.here hx rfl (hb hby own_d9_10) rfl g1_hx1 k) ?_
  show G (T2.setTop (mkF m 11 #[.val (.ref a), .val x0, .val x1, .val (.long x2), .second, .val x3, .val x4, .val x5, .val x6] [x1, (.ref a)]))
  have f4 := (g9_F.other W2 (Or.inr (slot_ne (Or.inr (hw _ (List.mem_of_getElem? (i := 58) rfl))) (Or.inr (hw _ (List.mem_of_getElem? (i := 56) rfl))) (by decide) (t := (.object "java/lang/String")) (t' := (.object "com/example/helmstead/helmstead/StoreRequest$Kind")) (by decide) (by decide))))
  have f5 := (g6_E.wr W2)
  obtain ⟨T3, h3, X3, e3, W3, st3⟩ := putF X2 hx hZ hown (host := "") (Or.inl (hw _ (List.mem_of_getElem? (i := 57) rfl))) Via.refl e2 f4 f5 (Or.inr ⟨(hw _ (List.mem_of_getElem? (i := 58) rfl)), rfl, hnm⟩) (hw _ (List.mem_of_getElem? (i := 42) rfl)) (ty := (.object "java/lang/String")) (by decide) (own_narR rfl g1_hx1) (own_fitR rfl g1_hx1) (g := (mkF m 11 #[.val (.ref a), .val x0, .val x1, .val (.long x2), .second, .val x3, .val x4, .val x5, .val x6] [x1, (.ref a)])) rfl rfl (hb hby own_d9_11)
  refine hG _ _ st3 ?_
  have K3 : Keep h0 h3 [a] := K2.wr W3 (Or.inl (List.mem_of_getElem? (i := 0) rfl))
  have O3 : own_Old Z h3 := O2.wr W3 g7_G
  have N3 := Fr.snoc X3 N2 g7_G
  show G (T3.setTop (mkF m 14 #[.val (.ref a), .val x0, .val x1, .val (.long x2), .second, .val x3, .val x4, .val x5, .val x6] []))
  refine hG _ _ (fun t k => XS.aloadN X3.here hx rfl (hb hby own_d9_14) rfl rfl k) ?_
  show G (T3.setTop (mkF m 15 #[.val (.ref a), .val x0, .val x1, .val (.long x2), .second, .val x3, .val x4, .val x5, .val x6] [(.ref a)]))
  refine hG _ _ (fun t k => XS.lloadN X3.here hx rfl (hb hby own_d9_15) rfl k) ?_
  show G (T3.setTop (mkF m 16 #[.val (.ref a), .val x0, .val x1, .val (.long x2), .second, .val x3, .val x4, .val x5, .val x6] [(.long x2), (.ref a)]))
  have f7 := ((g10_F.other W2 (Or.inr (slot_ne (Or.inr (hw _ (List.mem_of_getElem? (i := 60) rfl))) (Or.inr (hw _ (List.mem_of_getElem? (i := 56) rfl))) (by decide) (t := .long) (t' := (.object "com/example/helmstead/helmstead/StoreRequest$Kind")) (by decide) (by decide)))).other W3 (Or.inr (slot_ne (Or.inr (hw _ (List.mem_of_getElem? (i := 60) rfl))) (Or.inr (hw _ (List.mem_of_getElem? (i := 58) rfl))) (by decide) (t := .long) (t' := (.object "java/lang/String")) (by decide) (by decide))))
  have f8 := (f5.wr W3)
  obtain ⟨T6, h6, X6, e6, W6, st6⟩ := putF X3 hx hZ hown (host := "") (Or.inl (hw _ (List.mem_of_getElem? (i := 59) rfl))) Via.refl e3 f7 f8 (Or.inr ⟨(hw _ (List.mem_of_getElem? (i := 60) rfl)), rfl, hnm⟩) (hw _ (List.mem_of_getElem? (i := 42) rfl)) (ty := .long) (by decide) rfl rfl (g := (mkF m 16 #[.val (.ref a), .val x0, .val x1, .val (.long x2), .second, .val x3, .val x4, .val x5, .val x6] [(.long x2), (.ref a)])) rfl rfl (hb hby own_d9_16)
  refine hG _ _ st6 ?_
  have K6 : Keep h0 h6 [a] := K3.wr W6 (Or.inl (List.mem_of_getElem? (i := 0) rfl))
  have O6 : own_Old Z h6 := O3.wr W6 g7_G
  have N6 := Fr.snoc X6 N3 g7_G
  show G (T6.setTop (mkF m 19 #[.val (.ref a), .val x0, .val x1, .val (.long x2), .second, .val x3, .val x4, .val x5, .val x6] []))
  refine hG _ _ (fun t k => XS.aloadN X6.here hx rfl (hb hby own_d9_19) rfl rfl k) ?_
  show G (T6.setTop (mkF m 20 #[.val (.ref a), .val x0, .val x1, .val (.long x2), .second, .val x3, .val x4, .val x5, .val x6] [(.ref a)]))
  refine hG _ _ (fun t k => XS.aload X6.here hx rfl (hb hby own_d9_20) rfl g2_hx3 k) ?_
  show G (T6.setTop (mkF m 22 #[.val (.ref a), .val x0, .val x1, .val (.long x2), .second, .val x3, .val x4, .val x5, .val x6] [x3, (.ref a)]))
  have f10 := (((g11_F.other W2 (Or.inr (slot_ne (Or.inr (hw _ (List.mem_of_getElem? (i := 62) rfl))) (Or.inr (hw _ (List.mem_of_getElem? (i := 56) rfl))) (by decide) (t := (.object "java/lang/String")) (t' := (.object "com/example/helmstead/helmstead/StoreRequest$Kind")) (by decide) (by decide)))).other W3 (Or.inr (slot_ne (Or.inr (hw _ (List.mem_of_getElem? (i := 62) rfl))) (Or.inr (hw _ (List.mem_of_getElem? (i := 58) rfl))) (by decide) (t := (.object "java/lang/String")) (t' := (.object "java/lang/String")) (by decide) (by decide)))).other W6 (Or.inr (slot_ne (Or.inr (hw _ (List.mem_of_getElem? (i := 62) rfl))) (Or.inr (hw _ (List.mem_of_getElem? (i := 60) rfl))) (by decide) (t := (.object "java/lang/String")) (t' := .long) (by decide) (by decide))))
  have f11 := (f8.wr W6)
  obtain ⟨T9, h9, X9, e9, W9, st9⟩ := putF X6 hx hZ hown (host := "") (Or.inl (hw _ (List.mem_of_getElem? (i := 61) rfl))) Via.refl e6 f10 f11 (Or.inr ⟨(hw _ (List.mem_of_getElem? (i := 62) rfl)), rfl, hnm⟩) (hw _ (List.mem_of_getElem? (i := 42) rfl)) (ty := (.object "java/lang/String")) (by decide) (own_narR rfl g2_hx3) (own_fitR rfl g2_hx3) (g := (mkF m 22 #[.val (.ref a), .val x0, .val x1, .val (.long x2), .second, .val x3, .val x4, .val x5, .val x6] [x3, (.ref a)])) rfl rfl (hb hby own_d9_22)
  refine hG _ _ st9 ?_
  have K9 : Keep h0 h9 [a] := K6.wr W9 (Or.inl (List.mem_of_getElem? (i := 0) rfl))
  have O9 : own_Old Z h9 := O6.wr W9 g7_G
  have N9 := Fr.snoc X9 N6 g7_G
  show G (T9.setTop (mkF m 25 #[.val (.ref a), .val x0, .val x1, .val (.long x2), .second, .val x3, .val x4, .val x5, .val x6] []))
  refine hG _ _ (fun t k => XS.aloadN X9.here hx rfl (hb hby own_d9_25) rfl rfl k) ?_
  show G (T9.setTop (mkF m 26 #[.val (.ref a), .val x0, .val x1, .val (.long x2), .second, .val x3, .val x4, .val x5, .val x6] [(.ref a)]))
  refine hG _ _ (fun t k => XS.aload X9.here hx rfl (hb hby own_d9_26) rfl g3_hx4 k) ?_
  show G (T9.setTop (mkF m 28 #[.val (.ref a), .val x0, .val x1, .val (.long x2), .second, .val x3, .val x4, .val x5, .val x6] [x4, (.ref a)]))
  have f13 := ((((g12_F.other W2 (Or.inr (slot_ne (Or.inr (hw _ (List.mem_of_getElem? (i := 64) rfl))) (Or.inr (hw _ (List.mem_of_getElem? (i := 56) rfl))) (by decide) (t := (.object "java/lang/String")) (t' := (.object "com/example/helmstead/helmstead/StoreRequest$Kind")) (by decide) (by decide)))).other W3 (Or.inr (slot_ne (Or.inr (hw _ (List.mem_of_getElem? (i := 64) rfl))) (Or.inr (hw _ (List.mem_of_getElem? (i := 58) rfl))) (by decide) (t := (.object "java/lang/String")) (t' := (.object "java/lang/String")) (by decide) (by decide)))).other W6 (Or.inr (slot_ne (Or.inr (hw _ (List.mem_of_getElem? (i := 64) rfl))) (Or.inr (hw _ (List.mem_of_getElem? (i := 60) rfl))) (by decide) (t := (.object "java/lang/String")) (t' := .long) (by decide) (by decide)))).other W9 (Or.inr (slot_ne (Or.inr (hw _ (List.mem_of_getElem? (i := 64) rfl))) (Or.inr (hw _ (List.mem_of_getElem? (i := 62) rfl))) (by decide) (t := (.object "java/lang/String")) (t' := (.object "java/lang/String")) (by decide) (by decide))))
  have f14 := (f11.wr W9)
  obtain ⟨T12, h12, X12, e12, W12, st12⟩ := putF X9 hx hZ hown (host := "") (Or.inl (hw _ (List.mem_of_getElem? (i := 63) rfl))) Via.refl e9 f13 f14 (Or.inr ⟨(hw _ (List.mem_of_getElem? (i := 64) rfl)), rfl, hnm⟩) (hw _ (List.mem_of_getElem? (i := 42) rfl)) (ty := (.object "java/lang/String")) (by decide) (own_narR rfl g3_hx4) (own_fitR rfl g3_hx4) (g := (mkF m 28 #[.val (.ref a), .val x0, .val x1, .val (.long x2), .second, .val x3, .val x4, .val x5, .val x6] [x4, (.ref a)])) rfl rfl (hb hby own_d9_28)
  refine hG _ _ st12 ?_
  have K12 : Keep h0 h12 [a] := K9.wr W12 (Or.inl (List.mem_of_getElem? (i := 0) rfl))
  have O12 : own_Old Z h12 := O9.wr W12 g7_G
  have N12 := Fr.snoc X12 N9 g7_G
  show G (T12.setTop (mkF m 31 #[.val (.ref a), .val x0, .val x1, .val (.long x2), .second, .val x3, .val x4, .val x5, .val x6] []))
  refine hG _ _ (fun t k => XS.aloadN X12.here hx rfl (hb hby own_d9_31) rfl rfl k) ?_
  show G (T12.setTop (mkF m 32 #[.val (.ref a), .val x0, .val x1, .val (.long x2), .second, .val x3, .val x4, .val x5, .val x6] [(.ref a)]))
  refine hG _ _ (fun t k => XS.aload X12.here hx rfl (hb hby own_d9_32) rfl g4_hx5 k) ?_
  show G (T12.setTop (mkF m 34 #[.val (.ref a), .val x0, .val x1, .val (.long x2), .second, .val x3, .val x4, .val x5, .val x6] [x5, (.ref a)]))
  have f16 := (((((g13_F.other W2 (Or.inr (slot_ne (Or.inr (hw _ (List.mem_of_getElem? (i := 66) rfl))) (Or.inr (hw _ (List.mem_of_getElem? (i := 56) rfl))) (by decide) (t := (.object "java/lang/String")) (t' := (.object "com/example/helmstead/helmstead/StoreRequest$Kind")) (by decide) (by decide)))).other W3 (Or.inr (slot_ne (Or.inr (hw _ (List.mem_of_getElem? (i := 66) rfl))) (Or.inr (hw _ (List.mem_of_getElem? (i := 58) rfl))) (by decide) (t := (.object "java/lang/String")) (t' := (.object "java/lang/String")) (by decide) (by decide)))).other W6 (Or.inr (slot_ne (Or.inr (hw _ (List.mem_of_getElem? (i := 66) rfl))) (Or.inr (hw _ (List.mem_of_getElem? (i := 60) rfl))) (by decide) (t := (.object "java/lang/String")) (t' := .long) (by decide) (by decide)))).other W9 (Or.inr (slot_ne (Or.inr (hw _ (List.mem_of_getElem? (i := 66) rfl))) (Or.inr (hw _ (List.mem_of_getElem? (i := 62) rfl))) (by decide) (t := (.object "java/lang/String")) (t' := (.object "java/lang/String")) (by decide) (by decide)))).other W12 (Or.inr (slot_ne (Or.inr (hw _ (List.mem_of_getElem? (i := 66) rfl))) (Or.inr (hw _ (List.mem_of_getElem? (i := 64) rfl))) (by decide) (t := (.object "java/lang/String")) (t' := (.object "java/lang/String")) (by decide) (by decide))))
  have f17 := (f14.wr W12)
  obtain ⟨T15, h15, X15, e15, W15, st15⟩ := putF X12 hx hZ hown (host := "") (Or.inl (hw _ (List.mem_of_getElem? (i := 65) rfl))) Via.refl e12 f16 f17 (Or.inr ⟨(hw _ (List.mem_of_getElem? (i := 66) rfl)), rfl, hnm⟩) (hw _ (List.mem_of_getElem? (i := 42) rfl)) (ty := (.object "java/lang/String")) (by decide) (own_narR rfl g4_hx5) (own_fitR rfl g4_hx5) (g := (mkF m 34 #[.val (.ref a), .val x0, .val x1, .val (.long x2), .second, .val x3, .val x4, .val x5, .val x6] [x5, (.ref a)])) rfl rfl (hb hby own_d9_34)
  refine hG _ _ st15 ?_
  have K15 : Keep h0 h15 [a] := K12.wr W15 (Or.inl (List.mem_of_getElem? (i := 0) rfl))
  have O15 : own_Old Z h15 := O12.wr W15 g7_G
  have N15 := Fr.snoc X15 N12 g7_G
  show G (T15.setTop (mkF m 37 #[.val (.ref a), .val x0, .val x1, .val (.long x2), .second, .val x3, .val x4, .val x5, .val x6] []))
  refine hG _ _ (fun t k => XS.aloadN X15.here hx rfl (hb hby own_d9_37) rfl rfl k) ?_
  show G (T15.setTop (mkF m 38 #[.val (.ref a), .val x0, .val x1, .val (.long x2), .second, .val x3, .val x4, .val x5, .val x6] [(.ref a)]))
  refine hG _ _ (fun t k => XS.aload X15.here hx rfl (hb hby own_d9_38) rfl g5_hx6 k) ?_
  show G (T15.setTop (mkF m 40 #[.val (.ref a), .val x0, .val x1, .val (.long x2), .second, .val x3, .val x4, .val x5, .val x6] [x6, (.ref a)]))
  have f19 := ((((((g14_F.other W2 (Or.inr (slot_ne (Or.inr (hw _ (List.mem_of_getElem? (i := 68) rfl))) (Or.inr (hw _ (List.mem_of_getElem? (i := 56) rfl))) (by decide) (t := (.object "java/util/List")) (t' := (.object "com/example/helmstead/helmstead/StoreRequest$Kind")) (by decide) (by decide)))).other W3 (Or.inr (slot_ne (Or.inr (hw _ (List.mem_of_getElem? (i := 68) rfl))) (Or.inr (hw _ (List.mem_of_getElem? (i := 58) rfl))) (by decide) (t := (.object "java/util/List")) (t' := (.object "java/lang/String")) (by decide) (by decide)))).other W6 (Or.inr (slot_ne (Or.inr (hw _ (List.mem_of_getElem? (i := 68) rfl))) (Or.inr (hw _ (List.mem_of_getElem? (i := 60) rfl))) (by decide) (t := (.object "java/util/List")) (t' := .long) (by decide) (by decide)))).other W9 (Or.inr (slot_ne (Or.inr (hw _ (List.mem_of_getElem? (i := 68) rfl))) (Or.inr (hw _ (List.mem_of_getElem? (i := 62) rfl))) (by decide) (t := (.object "java/util/List")) (t' := (.object "java/lang/String")) (by decide) (by decide)))).other W12 (Or.inr (slot_ne (Or.inr (hw _ (List.mem_of_getElem? (i := 68) rfl))) (Or.inr (hw _ (List.mem_of_getElem? (i := 64) rfl))) (by decide) (t := (.object "java/util/List")) (t' := (.object "java/lang/String")) (by decide) (by decide)))).other W15 (Or.inr (slot_ne (Or.inr (hw _ (List.mem_of_getElem? (i := 68) rfl))) (Or.inr (hw _ (List.mem_of_getElem? (i := 66) rfl))) (by decide) (t := (.object "java/util/List")) (t' := (.object "java/lang/String")) (by decide) (by decide))))
  have f20 := (f17.wr W15)
  obtain ⟨T18, h18, X18, e18, W18, st18⟩ := putF X15 hx hZ hown (host := "") (Or.inl (hw _ (List.mem_of_getElem? (i := 67) rfl))) Via.refl e15 f19 f20 (Or.inr ⟨(hw _ (List.mem_of_getElem? (i := 68) rfl)), rfl, hnm⟩) (hw _ (List.mem_of_getElem? (i := 42) rfl)) (ty := (.object "java/util/List")) (by decide) (own_narR rfl g5_hx6) (own_fitR rfl g5_hx6) (g := (mkF m 40 #[.val (.ref a), .val x0, .val x1, .val (.long x2), .second, .val x3, .val x4, .val x5, .val x6] [x6, (.ref a)])) rfl rfl (hb hby own_d9_40)
  refine hG _ _ st18 ?_
  have K18 : Keep h0 h18 [a] := K15.wr W18 (Or.inl (List.mem_of_getElem? (i := 0) rfl))
  have O18 : own_Old Z h18 := O15.wr W18 g7_G
  have N18 := Fr.snoc X18 N15 g7_G
  show G (T18.setTop (mkF m 43 #[.val (.ref a), .val x0, .val x1, .val (.long x2), .second, .val x3, .val x4, .val x5, .val x6] []))
  have f21 := (f20.wr W18)
  have f22 := (((((((g8_F.same W2).other W3 (Or.inr (slot_ne (Or.inr (hw _ (List.mem_of_getElem? (i := 56) rfl))) (Or.inr (hw _ (List.mem_of_getElem? (i := 58) rfl))) (by decide) (t := (.object "com/example/helmstead/helmstead/StoreRequest$Kind")) (t' := (.object "java/lang/String")) (by decide) (by decide)))).other W6 (Or.inr (slot_ne (Or.inr (hw _ (List.mem_of_getElem? (i := 56) rfl))) (Or.inr (hw _ (List.mem_of_getElem? (i := 60) rfl))) (by decide) (t := (.object "com/example/helmstead/helmstead/StoreRequest$Kind")) (t' := .long) (by decide) (by decide)))).other W9 (Or.inr (slot_ne (Or.inr (hw _ (List.mem_of_getElem? (i := 56) rfl))) (Or.inr (hw _ (List.mem_of_getElem? (i := 62) rfl))) (by decide) (t := (.object "com/example/helmstead/helmstead/StoreRequest$Kind")) (t' := (.object "java/lang/String")) (by decide) (by decide)))).other W12 (Or.inr (slot_ne (Or.inr (hw _ (List.mem_of_getElem? (i := 56) rfl))) (Or.inr (hw _ (List.mem_of_getElem? (i := 64) rfl))) (by decide) (t := (.object "com/example/helmstead/helmstead/StoreRequest$Kind")) (t' := (.object "java/lang/String")) (by decide) (by decide)))).other W15 (Or.inr (slot_ne (Or.inr (hw _ (List.mem_of_getElem? (i := 56) rfl))) (Or.inr (hw _ (List.mem_of_getElem? (i := 66) rfl))) (by decide) (t := (.object "com/example/helmstead/helmstead/StoreRequest$Kind")) (t' := (.object "java/lang/String")) (by decide) (by decide)))).other W18 (Or.inr (slot_ne (Or.inr (hw _ (List.mem_of_getElem? (i := 56) rfl))) (Or.inr (hw _ (List.mem_of_getElem? (i := 68) rfl))) (by decide) (t := (.object "com/example/helmstead/helmstead/StoreRequest$Kind")) (t' := (.object "java/util/List")) (by decide) (by decide))))
  have f23 := ((((((f4.same W3).other W6 (Or.inr (slot_ne (Or.inr (hw _ (List.mem_of_getElem? (i := 58) rfl))) (Or.inr (hw _ (List.mem_of_getElem? (i := 60) rfl))) (by decide) (t := (.object "java/lang/String")) (t' := .long) (by decide) (by decide)))).other W9 (Or.inr (slot_ne (Or.inr (hw _ (List.mem_of_getElem? (i := 58) rfl))) (Or.inr (hw _ (List.mem_of_getElem? (i := 62) rfl))) (by decide) (t := (.object "java/lang/String")) (t' := (.object "java/lang/String")) (by decide) (by decide)))).other W12 (Or.inr (slot_ne (Or.inr (hw _ (List.mem_of_getElem? (i := 58) rfl))) (Or.inr (hw _ (List.mem_of_getElem? (i := 64) rfl))) (by decide) (t := (.object "java/lang/String")) (t' := (.object "java/lang/String")) (by decide) (by decide)))).other W15 (Or.inr (slot_ne (Or.inr (hw _ (List.mem_of_getElem? (i := 58) rfl))) (Or.inr (hw _ (List.mem_of_getElem? (i := 66) rfl))) (by decide) (t := (.object "java/lang/String")) (t' := (.object "java/lang/String")) (by decide) (by decide)))).other W18 (Or.inr (slot_ne (Or.inr (hw _ (List.mem_of_getElem? (i := 58) rfl))) (Or.inr (hw _ (List.mem_of_getElem? (i := 68) rfl))) (by decide) (t := (.object "java/lang/String")) (t' := (.object "java/util/List")) (by decide) (by decide))))
  have f24 := (((((f7.same W6).other W9 (Or.inr (slot_ne (Or.inr (hw _ (List.mem_of_getElem? (i := 60) rfl))) (Or.inr (hw _ (List.mem_of_getElem? (i := 62) rfl))) (by decide) (t := .long) (t' := (.object "java/lang/String")) (by decide) (by decide)))).other W12 (Or.inr (slot_ne (Or.inr (hw _ (List.mem_of_getElem? (i := 60) rfl))) (Or.inr (hw _ (List.mem_of_getElem? (i := 64) rfl))) (by decide) (t := .long) (t' := (.object "java/lang/String")) (by decide) (by decide)))).other W15 (Or.inr (slot_ne (Or.inr (hw _ (List.mem_of_getElem? (i := 60) rfl))) (Or.inr (hw _ (List.mem_of_getElem? (i := 66) rfl))) (by decide) (t := .long) (t' := (.object "java/lang/String")) (by decide) (by decide)))).other W18 (Or.inr (slot_ne (Or.inr (hw _ (List.mem_of_getElem? (i := 60) rfl))) (Or.inr (hw _ (List.mem_of_getElem? (i := 68) rfl))) (by decide) (t := .long) (t' := (.object "java/util/List")) (by decide) (by decide))))
  have f25 := ((((f10.same W9).other W12 (Or.inr (slot_ne (Or.inr (hw _ (List.mem_of_getElem? (i := 62) rfl))) (Or.inr (hw _ (List.mem_of_getElem? (i := 64) rfl))) (by decide) (t := (.object "java/lang/String")) (t' := (.object "java/lang/String")) (by decide) (by decide)))).other W15 (Or.inr (slot_ne (Or.inr (hw _ (List.mem_of_getElem? (i := 62) rfl))) (Or.inr (hw _ (List.mem_of_getElem? (i := 66) rfl))) (by decide) (t := (.object "java/lang/String")) (t' := (.object "java/lang/String")) (by decide) (by decide)))).other W18 (Or.inr (slot_ne (Or.inr (hw _ (List.mem_of_getElem? (i := 62) rfl))) (Or.inr (hw _ (List.mem_of_getElem? (i := 68) rfl))) (by decide) (t := (.object "java/lang/String")) (t' := (.object "java/util/List")) (by decide) (by decide))))
  have f26 := (((f13.same W12).other W15 (Or.inr (slot_ne (Or.inr (hw _ (List.mem_of_getElem? (i := 64) rfl))) (Or.inr (hw _ (List.mem_of_getElem? (i := 66) rfl))) (by decide) (t := (.object "java/lang/String")) (t' := (.object "java/lang/String")) (by decide) (by decide)))).other W18 (Or.inr (slot_ne (Or.inr (hw _ (List.mem_of_getElem? (i := 64) rfl))) (Or.inr (hw _ (List.mem_of_getElem? (i := 68) rfl))) (by decide) (t := (.object "java/lang/String")) (t' := (.object "java/util/List")) (by decide) (by decide))))
  have f27 := ((f16.same W15).other W18 (Or.inr (slot_ne (Or.inr (hw _ (List.mem_of_getElem? (i := 66) rfl))) (Or.inr (hw _ (List.mem_of_getElem? (i := 68) rfl))) (by decide) (t := (.object "java/lang/String")) (t' := (.object "java/util/List")) (by decide) (by decide))))
  exact own_retV hR hret X18 hx (hb hby own_d9_43) (by decide) (by decide) (by rw [e18]; exact ⟨rfl, N18, K18, f21, f22, f23, f24, f25, f26, f27, (f19.same W18)⟩)
theorem own_pd12 : parseMethodDescriptor "()Lcom/example/helmstead/helmstead/StoreRequest$Kind;" = some ⟨[], some (.object "com/example/helmstead/helmstead/StoreRequest$Kind")⟩ := by decide +kernel
set_option maxRecDepth 65536 in
set_option maxHeartbeats 40000000 in
theorem own_get_kind (l : Launch) (Z : State) (a0 : Array Value) (hw : ∀ d ∈ tables_1, d.before a0 Z = true) (a : Addr) (x : Value) (h0 : Heap) (O0 : own_Old Z h0) (g0_hx : x.isRef = true) (g1_F : Fld Z h0 a "com/example/helmstead/helmstead/StoreRequest" "kind" "Lcom/example/helmstead/helmstead/StoreRequest$Kind;" x) :
    own_Con l Z (⟨"com/example/helmstead/helmstead/StoreRequest", "kind", "()Lcom/example/helmstead/helmstead/StoreRequest$Kind;"⟩ : MethodName) prog_29_method_27_code 1 (some (.object "com/example/helmstead/helmstead/StoreRequest$Kind")) [] ({ frames := 0, cells := 0, slots := 0, locals := 0 } : Room) #[(.ref a)] h0 (fun rv rh rL => rv = some x ∧ own_Fr Z rL ∧ h0 = rh) := by
  refine own_intro (plainFor_of_name (by first | (simp [plainName, overriddenIn]; done) | decide +kernel)) ?_
  intro p e s m below meth c s₁ G hx hby hml hown hnm hret hZ X0 e0 hG hR
  have N0 := Fr.nil Z.heap.size
  refine own_entry (Ls := #[.val (.ref a)]) (by first | (simp [entryFrame, mkF, argsToLocals, Value.category]; done) | rfl) ?_
  show G (s₁.setTop (mkF m 0 #[.val (.ref a)] []))
  refine hG _ _ (fun t k => XS.aloadN X0.here hx rfl (hb hby own_d11_0) rfl rfl k) ?_
  show G (s₁.setTop (mkF m 1 #[.val (.ref a)] [(.ref a)]))
  obtain ⟨T1, X1, e1, st1⟩ := getF X0 hx hZ hown (host := "") (Or.inl (hw _ (List.mem_of_getElem? (i := 55) rfl))) Via.refl e0 g1_F (g := (mkF m 1 #[.val (.ref a)] [(.ref a)])) rfl rfl (hb hby own_d11_1)
  refine hG _ _ st1 ?_
  show G (T1.setTop (mkF m 4 #[.val (.ref a)] [x]))
  exact own_retA hR hret rfl g0_hx X1 hx (hb hby own_d11_4) (by decide) (by decide) (by rw [e1]; exact ⟨rfl, N0, rfl⟩)
theorem own_pd13 : parseMethodDescriptor "()Ljava/lang/String;" = some ⟨[], some (.object "java/lang/String")⟩ := by decide +kernel
set_option maxRecDepth 65536 in
set_option maxHeartbeats 40000000 in
theorem own_get_id (l : Launch) (Z : State) (a0 : Array Value) (hw : ∀ d ∈ tables_1, d.before a0 Z = true) (a : Addr) (x : Value) (h0 : Heap) (O0 : own_Old Z h0) (g0_hx : x.isRef = true) (g1_F : Fld Z h0 a "com/example/helmstead/helmstead/StoreRequest" "id" "Ljava/lang/String;" x) :
    own_Con l Z (⟨"com/example/helmstead/helmstead/StoreRequest", "id", "()Ljava/lang/String;"⟩ : MethodName) prog_29_method_28_code 1 (some (.object "java/lang/String")) [] ({ frames := 0, cells := 0, slots := 0, locals := 0 } : Room) #[(.ref a)] h0 (fun rv rh rL => rv = some x ∧ own_Fr Z rL ∧ h0 = rh) := by
  refine own_intro (plainFor_of_name (by first | (simp [plainName, overriddenIn]; done) | decide +kernel)) ?_
  intro p e s m below meth c s₁ G hx hby hml hown hnm hret hZ X0 e0 hG hR
  have N0 := Fr.nil Z.heap.size
  refine own_entry (Ls := #[.val (.ref a)]) (by first | (simp [entryFrame, mkF, argsToLocals, Value.category]; done) | rfl) ?_
  show G (s₁.setTop (mkF m 0 #[.val (.ref a)] []))
  refine hG _ _ (fun t k => XS.aloadN X0.here hx rfl (hb hby own_d12_0) rfl rfl k) ?_
  show G (s₁.setTop (mkF m 1 #[.val (.ref a)] [(.ref a)]))
  obtain ⟨T1, X1, e1, st1⟩ := getF X0 hx hZ hown (host := "") (Or.inl (hw _ (List.mem_of_getElem? (i := 57) rfl))) Via.refl e0 g1_F (g := (mkF m 1 #[.val (.ref a)] [(.ref a)])) rfl rfl (hb hby own_d12_1)
  refine hG _ _ st1 ?_
  show G (T1.setTop (mkF m 4 #[.val (.ref a)] [x]))
  exact own_retA hR hret rfl g0_hx X1 hx (hb hby own_d12_4) (by decide) (by decide) (by rw [e1]; exact ⟨rfl, N0, rfl⟩)
theorem own_pd14 : parseMethodDescriptor "()J" = some ⟨[], some .long⟩ := by decide +kernel
set_option maxRecDepth 65536 in
set_option maxHeartbeats 40000000 in
theorem own_get_leaseMs (l : Launch) (Z : State) (a0 : Array Value) (hw : ∀ d ∈ tables_1, d.before a0 Z = true) (a : Addr) (x : Int64) (h0 : Heap) (O0 : own_Old Z h0) (g0_F : Fld Z h0 a "com/example/helmstead/helmstead/StoreRequest" "leaseMs" "J" (.long x)) :
    own_Con l Z (⟨"com/example/helmstead/helmstead/StoreRequest", "leaseMs", "()J"⟩ : MethodName) prog_29_method_29_code 1 (some .long) [] ({ frames := 0, cells := 0, slots := 0, locals := 0 } : Room) #[(.ref a)] h0 (fun rv rh rL => rv = some (.long x) ∧ own_Fr Z rL ∧ h0 = rh) := by
  refine own_intro (plainFor_of_name (by first | (simp [plainName, overriddenIn]; done) | decide +kernel)) ?_
  intro p e s m below meth c s₁ G hx hby hml hown hnm hret hZ X0 e0 hG hR
  have N0 := Fr.nil Z.heap.size
  refine own_entry (Ls := #[.val (.ref a)]) (by first | (simp [entryFrame, mkF, argsToLocals, Value.category]; done) | rfl) ?_
  show G (s₁.setTop (mkF m 0 #[.val (.ref a)] []))
  refine hG _ _ (fun t k => XS.aloadN X0.here hx rfl (hb hby own_d13_0) rfl rfl k) ?_
  show G (s₁.setTop (mkF m 1 #[.val (.ref a)] [(.ref a)]))
  obtain ⟨T1, X1, e1, st1⟩ := getF X0 hx hZ hown (host := "") (Or.inl (hw _ (List.mem_of_getElem? (i := 59) rfl))) Via.refl e0 g0_F (g := (mkF m 1 #[.val (.ref a)] [(.ref a)])) rfl rfl (hb hby own_d13_1)
  refine hG _ _ st1 ?_
  show G (T1.setTop (mkF m 4 #[.val (.ref a)] [(.long x)]))
  exact own_retL hR hret X1 hx (hb hby own_d13_4) (by decide) (by decide) (by rw [e1]; exact ⟨rfl, N0, rfl⟩)
set_option maxRecDepth 65536 in
set_option maxHeartbeats 40000000 in
theorem own_get_table (l : Launch) (Z : State) (a0 : Array Value) (hw : ∀ d ∈ tables_1, d.before a0 Z = true) (a : Addr) (x : Value) (h0 : Heap) (O0 : own_Old Z h0) (g0_hx : x.isRef = true) (g1_F : Fld Z h0 a "com/example/helmstead/helmstead/StoreRequest" "table" "Ljava/lang/String;" x) :
    own_Con l Z (⟨"com/example/helmstead/helmstead/StoreRequest", "table", "()Ljava/lang/String;"⟩ : MethodName) prog_29_method_30_code 1 (some (.object "java/lang/String")) [] ({ frames := 0, cells := 0, slots := 0, locals := 0 } : Room) #[(.ref a)] h0 (fun rv rh rL => rv = some x ∧ own_Fr Z rL ∧ h0 = rh) := by
  refine own_intro (plainFor_of_name (by first | (simp [plainName, overriddenIn]; done) | decide +kernel)) ?_
  intro p e s m below meth c s₁ G hx hby hml hown hnm hret hZ X0 e0 hG hR
  have N0 := Fr.nil Z.heap.size
  refine own_entry (Ls := #[.val (.ref a)]) (by first | (simp [entryFrame, mkF, argsToLocals, Value.category]; done) | rfl) ?_
  show G (s₁.setTop (mkF m 0 #[.val (.ref a)] []))
  refine hG _ _ (fun t k => XS.aloadN X0.here hx rfl (hb hby own_d14_0) rfl rfl k) ?_
  show G (s₁.setTop (mkF m 1 #[.val (.ref a)] [(.ref a)]))
  obtain ⟨T1, X1, e1, st1⟩ := getF X0 hx hZ hown (host := "") (Or.inl (hw _ (List.mem_of_getElem? (i := 61) rfl))) Via.refl e0 g1_F (g := (mkF m 1 #[.val (.ref a)] [(.ref a)])) rfl rfl (hb hby own_d14_1)
  refine hG _ _ st1 ?_
  show G (T1.setTop (mkF m 4 #[.val (.ref a)] [x]))
  exact own_retA hR hret rfl g0_hx X1 hx (hb hby own_d14_4) (by decide) (by decide) (by rw [e1]; exact ⟨rfl, N0, rfl⟩)
set_option maxRecDepth 65536 in
set_option maxHeartbeats 40000000 in
theorem own_get_key (l : Launch) (Z : State) (a0 : Array Value) (hw : ∀ d ∈ tables_1, d.before a0 Z = true) (a : Addr) (x : Value) (h0 : Heap) (O0 : own_Old Z h0) (g0_hx : x.isRef = true) (g1_F : Fld Z h0 a "com/example/helmstead/helmstead/StoreRequest" "key" "Ljava/lang/String;" x) :
    own_Con l Z (⟨"com/example/helmstead/helmstead/StoreRequest", "key", "()Ljava/lang/String;"⟩ : MethodName) prog_29_method_31_code 1 (some (.object "java/lang/String")) [] ({ frames := 0, cells := 0, slots := 0, locals := 0 } : Room) #[(.ref a)] h0 (fun rv rh rL => rv = some x ∧ own_Fr Z rL ∧ h0 = rh) := by
  refine own_intro (plainFor_of_name (by first | (simp [plainName, overriddenIn]; done) | decide +kernel)) ?_
  intro p e s m below meth c s₁ G hx hby hml hown hnm hret hZ X0 e0 hG hR
  have N0 := Fr.nil Z.heap.size
  refine own_entry (Ls := #[.val (.ref a)]) (by first | (simp [entryFrame, mkF, argsToLocals, Value.category]; done) | rfl) ?_
  show G (s₁.setTop (mkF m 0 #[.val (.ref a)] []))
  refine hG _ _ (fun t k => XS.aloadN X0.here hx rfl (hb hby own_d17_0) rfl rfl k) ?_
  show G (s₁.setTop (mkF m 1 #[.val (.ref a)] [(.ref a)]))
  obtain ⟨T1, X1, e1, st1⟩ := getF X0 hx hZ hown (host := "") (Or.inl (hw _ (List.mem_of_getElem? (i := 63) rfl))) Via.refl e0 g1_F (g := (mkF m 1 #[.val (.ref a)] [(.ref a)])) rfl rfl (hb hby own_d17_1)
  refine hG _ _ st1 ?_
  show G (T1.setTop (mkF m 4 #[.val (.ref a)] [x]))
  exact own_retA hR hret rfl g0_hx X1 hx (hb hby own_d17_4) (by decide) (by decide) (by rw [e1]; exact ⟨rfl, N0, rfl⟩)
set_option maxRecDepth 65536 in
set_option maxHeartbeats 40000000 in
theorem own_get_value (l : Launch) (Z : State) (a0 : Array Value) (hw : ∀ d ∈ tables_1, d.before a0 Z = true) (a : Addr) (x : Value) (h0 : Heap) (O0 : own_Old Z h0) (g0_hx : x.isRef = true) (g1_F : Fld Z h0 a "com/example/helmstead/helmstead/StoreRequest" "value" "Ljava/lang/String;" x) :
    own_Con l Z (⟨"com/example/helmstead/helmstead/StoreRequest", "value", "()Ljava/lang/String;"⟩ : MethodName) prog_29_method_32_code 1 (some (.object "java/lang/String")) [] ({ frames := 0, cells := 0, slots := 0, locals := 0 } : Room) #[(.ref a)] h0 (fun rv rh rL => rv = some x ∧ own_Fr Z rL ∧ h0 = rh) := by
  refine own_intro (plainFor_of_name (by first | (simp [plainName, overriddenIn]; done) | decide +kernel)) ?_
  intro p e s m below meth c s₁ G hx hby hml hown hnm hret hZ X0 e0 hG hR
  have N0 := Fr.nil Z.heap.size
  refine own_entry (Ls := #[.val (.ref a)]) (by first | (simp [entryFrame, mkF, argsToLocals, Value.category]; done) | rfl) ?_
  show G (s₁.setTop (mkF m 0 #[.val (.ref a)] []))
  refine hG _ _ (fun t k => XS.aloadN X0.here hx rfl (hb hby own_d18_0) rfl rfl k) ?_
  show G (s₁.setTop (mkF m 1 #[.val (.ref a)] [(.ref a)]))
  obtain ⟨T1, X1, e1, st1⟩ := getF X0 hx hZ hown (host := "") (Or.inl (hw _ (List.mem_of_getElem? (i := 65) rfl))) Via.refl e0 g1_F (g := (mkF m 1 #[.val (.ref a)] [(.ref a)])) rfl rfl (hb hby own_d18_1)
  refine hG _ _ st1 ?_
  show G (T1.setTop (mkF m 4 #[.val (.ref a)] [x]))
  exact own_retA hR hret rfl g0_hx X1 hx (hb hby own_d18_4) (by decide) (by decide) (by rw [e1]; exact ⟨rfl, N0, rfl⟩)
theorem own_pd15 : parseMethodDescriptor "()Ljava/util/List;" = some ⟨[], some (.object "java/util/List")⟩ := by decide +kernel
set_option maxRecDepth 65536 in
set_option maxHeartbeats 40000000 in
theorem own_get_parts (l : Launch) (Z : State) (a0 : Array Value) (hw : ∀ d ∈ tables_1, d.before a0 Z = true) (a : Addr) (x : Value) (h0 : Heap) (O0 : own_Old Z h0) (g0_hx : x.isRef = true) (g1_F : Fld Z h0 a "com/example/helmstead/helmstead/StoreRequest" "parts" "Ljava/util/List;" x) :
    own_Con l Z (⟨"com/example/helmstead/helmstead/StoreRequest", "parts", "()Ljava/util/List;"⟩ : MethodName) prog_29_method_33_code 1 (some (.object "java/util/List")) [] ({ frames := 0, cells := 0, slots := 0, locals := 0 } : Room) #[(.ref a)] h0 (fun rv rh rL => rv = some x ∧ own_Fr Z rL ∧ h0 = rh) := by
  refine own_intro (plainFor_of_name (by first | (simp [plainName, overriddenIn]; done) | decide +kernel)) ?_
  intro p e s m below meth c s₁ G hx hby hml hown hnm hret hZ X0 e0 hG hR
  have N0 := Fr.nil Z.heap.size
  refine own_entry (Ls := #[.val (.ref a)]) (by first | (simp [entryFrame, mkF, argsToLocals, Value.category]; done) | rfl) ?_
  show G (s₁.setTop (mkF m 0 #[.val (.ref a)] []))
  refine hG _ _ (fun t k => XS.aloadN X0.here hx rfl (hb hby own_d19_0) rfl rfl k) ?_
  show G (s₁.setTop (mkF m 1 #[.val (.ref a)] [(.ref a)]))
  obtain ⟨T1, X1, e1, st1⟩ := getF X0 hx hZ hown (host := "") (Or.inl (hw _ (List.mem_of_getElem? (i := 67) rfl))) Via.refl e0 g1_F (g := (mkF m 1 #[.val (.ref a)] [(.ref a)])) rfl rfl (hb hby own_d19_1)
  refine hG _ _ st1 ?_
  show G (T1.setTop (mkF m 4 #[.val (.ref a)] [x]))
  exact own_retA hR hret rfl g0_hx X1 hx (hb hby own_d19_4) (by decide) (by decide) (by rw [e1]; exact ⟨rfl, N0, rfl⟩)
theorem own_pd16 : parseMethodDescriptor "(Ljava/lang/String;Ljava/lang/String;)Lcom/example/helmstead/helmstead/StoreRequest;" = some ⟨[(.object "java/lang/String"), (.object "java/lang/String")], some (.object "com/example/helmstead/helmstead/StoreRequest")⟩ := by decide +kernel
set_option maxRecDepth 65536 in
set_option maxHeartbeats 40000000 in
theorem own_get (l : Launch) (Z : State) (a0 : Array Value) (hw : ∀ d ∈ tables_1, d.before a0 Z = true) (tb : Value) (ky : Value) (w1 : Addr) (h0 : Heap) (O0 : own_Old Z h0) (g0_ht : tb.isRef = true) (g1_hk : ky.isRef = true) (g2_S : Sta Z Z.heap "com/example/helmstead/helmstead/StoreRequest$Kind" "GET" "Lcom/example/helmstead/helmstead/StoreRequest$Kind;" (.ref w1)) :
    own_Con l Z (⟨"com/example/helmstead/helmstead/StoreRequest", "get", "(Ljava/lang/String;Ljava/lang/String;)Lcom/example/helmstead/helmstead/StoreRequest;"⟩ : MethodName) prog_29_method_4_code 2 (some (.object "com/example/helmstead/helmstead/StoreRequest")) [] ({ frames := 3, cells := 1, slots := 7, locals := 45 } : Room) #[tb, ky] h0 (fun rv rh rL => ∃ (t : Addr), rv = some (.ref t) ∧ own_Fr Z rL ∧ Keep h0 rh [] ∧ h0.size ≤ t ∧ (Exa Z rh t "com/example/helmstead/helmstead/StoreRequest") ∧ (Fld Z rh t "com/example/helmstead/helmstead/StoreRequest" "kind" "Lcom/example/helmstead/helmstead/StoreRequest$Kind;" (.ref w1)) ∧ (Fld Z rh t "com/example/helmstead/helmstead/StoreRequest" "id" "Ljava/lang/String;" .null) ∧ (Fld Z rh t "com/example/helmstead/helmstead/StoreRequest" "leaseMs" "J" (.long (0 : Int64))) ∧ (Fld Z rh t "com/example/helmstead/helmstead/StoreRequest" "table" "Ljava/lang/String;" tb) ∧ (Fld Z rh t "com/example/helmstead/helmstead/StoreRequest" "key" "Ljava/lang/String;" ky) ∧ (Fld Z rh t "com/example/helmstead/helmstead/StoreRequest" "value" "Ljava/lang/String;" .null) ∧ (Fld Z rh t "com/example/helmstead/helmstead/StoreRequest" "parts" "Ljava/util/List;" .null)) := by
  refine own_intro (plainFor_of_name (by first | (simp [plainName, overriddenIn]; done) | decide +kernel)) ?_
  intro p e s m below meth c s₁ G hx hby hml hown hnm hret hZ X0 e0 hG hR
  have N0 := Fr.nil Z.heap.size
  refine own_entry (Ls := #[.val tb, .val ky]) (by rcases ref_cases g0_ht with rfl | ⟨_, rfl⟩ <;> rcases ref_cases g1_hk with rfl | ⟨_, rfl⟩ <;> first | (simp [entryFrame, mkF, argsToLocals, Value.category]; done) | rfl) ?_
  show G (s₁.setTop (mkF m 0 #[.val tb, .val ky] []))
  obtain ⟨T1, h1, X1, e1, E1, A1, D1, -, st1⟩ := newO X0 hx hZ hown (hw _ (List.mem_of_getElem? (i := 41) rfl)) (hw _ (List.mem_of_getElem? (i := 42) rfl)) (hw _ (List.mem_of_getElem? (i := 39) rfl)) e0 (g := (mkF m 0 #[.val tb, .val ky] [])) rfl (hb hby own_d8_0) (by decide) (by decide)
  obtain ⟨b1, z1⟩ : ∃ z, z = h0.size := ⟨_, rfl⟩
  rw [← z1] at A1 D1 st1
  refine hG _ _ st1 ?_
  have K1 : Keep h0 h1 [] := (Keep.refl h0 []).ext E1
  have O1 : own_Old Z h1 := O0.ext E1
  show G (T1.setTop (mkF m 3 #[.val tb, .val ky] [(.ref b1)]))
  refine hG _ _ (fun t k => XS.dup X1.here hx rfl (hb hby own_d8_3) rfl rfl k) ?_
  show G (T1.setTop (mkF m 4 #[.val tb, .val ky] [(.ref b1), (.ref b1)]))
  obtain ⟨T2, X2, e2, st2⟩ := getS2 X1 hx hZ hown (host := "") (Or.inl (hw _ (List.mem_of_getElem? (i := 43) rfl))) Via.refl e1 (own_sta g2_S O1) (g := (mkF m 4 #[.val tb, .val ky] [(.ref b1), (.ref b1)])) rfl (hb hby own_d8_4)
  refine hG _ _ st2 ?_
  show G (T2.setTop (mkF m 7 #[.val tb, .val ky] [(.ref w1), (.ref b1), (.ref b1)]))
  refine hG _ _ (fun t k => XS.aconstNull X2.here hx rfl (hb hby own_d8_7) k) ?_
  show G (T2.setTop (mkF m 8 #[.val tb, .val ky] [.null, (.ref w1), (.ref b1), (.ref b1)]))
  refine hG _ _ (fun t k => XS.lconst X2.here hx rfl (hb hby own_d8_8) k) ?_
  show G (T2.setTop (mkF m 9 #[.val tb, .val ky] [(.long (0 : Int64)), .null, (.ref w1), (.ref b1), (.ref b1)]))
  refine hG _ _ (fun t k => XS.aloadN X2.here hx rfl (hb hby own_d8_9) rfl g0_ht k) ?_
  show G (T2.setTop (mkF m 10 #[.val tb, .val ky] [tb, (.long (0 : Int64)), .null, (.ref w1), (.ref b1), (.ref b1)]))
  refine hG _ _ (fun t k => XS.aloadN X2.here hx rfl (hb hby own_d8_10) rfl g1_hk k) ?_
  show G (T2.setTop (mkF m 11 #[.val tb, .val ky] [ky, tb, (.long (0 : Int64)), .null, (.ref w1), (.ref b1), (.ref b1)]))
  refine hG _ _ (fun t k => XS.aconstNull X2.here hx rfl (hb hby own_d8_11) k) ?_
  show G (T2.setTop (mkF m 12 #[.val tb, .val ky] [.null, ky, tb, (.long (0 : Int64)), .null, (.ref w1), (.ref b1), (.ref b1)]))
  refine hG _ _ (fun t k => XS.aconstNull X2.here hx rfl (hb hby own_d8_12) k) ?_
  show G (T2.setTop (mkF m 13 #[.val tb, .val ky] [.null, .null, ky, tb, (.long (0 : Int64)), .null, (.ref w1), (.ref b1), (.ref b1)]))
  refine own_callI X2 hx hZ hG hown rfl (hw _ (List.mem_of_getElem? (i := 46) rfl)) (hw _ (List.mem_of_getElem? (i := 47) rfl)) (hw _ (List.mem_of_getElem? (i := 39) rfl)) (hw _ (List.mem_of_getElem? (i := 48) rfl)) (by decide) 1 (own_finit l Z a0 hw b1 (.ref w1) .null (0 : Int64) tb ky .null .null .null .null (.long (0 : Int64)) .null .null .null .null h1 O1 rfl rfl g0_ht g1_hk rfl rfl A1 (own_ge O0 (Nat.le_of_eq z1.symm)) (D1 (Or.inr (hw _ (List.mem_of_getElem? (i := 56) rfl))) (ty := (.object "com/example/helmstead/helmstead/StoreRequest$Kind")) (by decide)) (D1 (Or.inr (hw _ (List.mem_of_getElem? (i := 58) rfl))) (ty := (.object "java/lang/String")) (by decide)) (D1 (Or.inr (hw _ (List.mem_of_getElem? (i := 60) rfl))) (ty := .long) (by decide)) (D1 (Or.inr (hw _ (List.mem_of_getElem? (i := 62) rfl))) (ty := (.object "java/lang/String")) (by decide)) (D1 (Or.inr (hw _ (List.mem_of_getElem? (i := 64) rfl))) (ty := (.object "java/lang/String")) (by decide)) (D1 (Or.inr (hw _ (List.mem_of_getElem? (i := 66) rfl))) (ty := (.object "java/lang/String")) (by decide)) (D1 (Or.inr (hw _ (List.mem_of_getElem? (i := 68) rfl))) (ty := (.object "java/util/List")) (by decide))) (by decide) (by decide) e2 (by rw [hml]; rfl) (lenOf own_pd11 rfl) (argsL := [(.ref w1), .null, (.long (0 : Int64)), tb, ky, .null, .null]) (rest := [(.ref b1)]) rfl rfl (Nat.le_of_eq rfl) (hb hby own_d8_13) (by decide) (by decide) ?_
  intro T3 h3 v3 L3 X3 e3 q3
  obtain ⟨rfl, M3, J3, r3_0, r3_1, r3_2, r3_3, r3_4, r3_5, r3_6, r3_7⟩ := q3
  have N3 := Fr.app N0 M3
  have K3 : Keep h0 h3 [] := K1.trans J3 (allS (Or.inr (Nat.le_trans (Keep.refl h0 []).1 (Nat.le_of_eq z1.symm))) all0)
  have O3 : own_Old Z h3 := O1.keep J3 (allS (own_ge O0 (Nat.le_of_eq z1.symm)) all0)
  show G (T3.setTop (mkF m 16 #[.val tb, .val ky] [(.ref b1)]))
  exact own_retA hR hret rfl rfl X3 hx (hb hby own_d8_16) (by decide) (by decide) (by rw [e3]; exact ⟨b1, rfl, N3, K3, (Nat.le_trans (Keep.refl h0 []).1 (Nat.le_of_eq z1.symm)), r3_0, r3_1, r3_2, r3_3, r3_4, r3_5, r3_6, r3_7⟩)
theorem own_pd17 : parseMethodDescriptor "(Ljava/lang/String;Ljava/lang/String;)Z" = some ⟨[(.object "java/lang/String"), (.object "java/lang/String")], some .boolean⟩ := by decide +kernel
set_option maxRecDepth 65536 in
set_option maxHeartbeats 40000000 in
theorem own_sameR (l : Launch) (Z : State) (a0 : Array Value) (hw : ∀ d ∈ tables_1, d.before a0 Z = true) (a : Addr) (h0 : Heap) (O0 : own_Old Z h0) (g0_E : Exa Z h0 a "java/lang/String") :
    own_Con l Z (⟨"com/example/helmstead/helmstead/StoreRequestGetPinLaw", "same", "(Ljava/lang/String;Ljava/lang/String;)Z"⟩ : MethodName) method_2_code 2 (some .boolean) [] ({ frames := 1, cells := 0, slots := 0, locals := 14 } : Room) #[(.ref a), (.ref a)] h0 (fun rv rh rL => rv = some (.int (1 : Int32)) ∧ own_Fr Z rL ∧ h0 = rh) := by
  refine own_intro (plainFor_of_name (by first | (simp [plainName, overriddenIn]; done) | decide +kernel)) ?_
  intro p e s m below meth c s₁ G hx hby hml hown hnm hret hZ X0 e0 hG hR
  have N0 := Fr.nil Z.heap.size
  refine own_entry (Ls := #[.val (.ref a), .val (.ref a)]) (by first | (simp [entryFrame, mkF, argsToLocals, Value.category]; done) | rfl) ?_
  show G (s₁.setTop (mkF m 0 #[.val (.ref a), .val (.ref a)] []))
  refine hG _ _ (fun t k => XS.aloadN X0.here hx rfl (hb hby own_d15_0) rfl rfl k) ?_
  show G (s₁.setTop (mkF m 1 #[.val (.ref a), .val (.ref a)] [(.ref a)]))
  refine hG _ _ (fun t k => XS.ifnonnullYes X0.here hx rfl (pc0 := 1) (pc' := 14) rfl (hb hby own_d15_1) rfl (by decide) (by decide) k) ?_
  show G (s₁.setTop (mkF m 14 #[.val (.ref a), .val (.ref a)] []))
  refine hG _ _ (fun t k => XS.aloadN X0.here hx rfl (hb hby own_d15_14) rfl rfl k) ?_
  show G (s₁.setTop (mkF m 15 #[.val (.ref a), .val (.ref a)] [(.ref a)]))
  refine hG _ _ (fun t k => XS.aloadN X0.here hx rfl (hb hby own_d15_15) rfl rfl k) ?_
  show G (s₁.setTop (mkF m 16 #[.val (.ref a), .val (.ref a)] [(.ref a), (.ref a)]))
  refine own_callV (C := "java/lang/String") X0 hx hZ hG hown (hw _ (List.mem_of_getElem? (i := 93) rfl)) (hw _ (List.mem_of_getElem? (i := 94) rfl)) (hw _ (List.mem_of_getElem? (i := 96) rfl)) (hw _ (List.mem_of_getElem? (i := 95) rfl)) (hw _ (List.mem_of_getElem? (i := 6) rfl)) (hw _ (List.mem_of_getElem? (i := 97) rfl)) (by decide) 0 (own_eqs l Z a0 hw a h0 O0) (by decide) (by decide) e0 g0_E (by rw [hml]; rfl) (lenOf own_pd10 rfl) (argsL := [(.ref a)]) (rest := []) rfl rfl (Nat.le_of_eq rfl) (hb hby own_d15_16) (by decide) (by decide) ?_
  intro T1 h1 v1 L1 X1 e1 q1
  obtain ⟨rfl, M1, rfl⟩ := q1
  have N1 := Fr.app N0 M1
  show G (T1.setTop (mkF m 19 #[.val (.ref a), .val (.ref a)] [(.int (1 : Int32))]))
  exact own_retN hR hret (by simp) X1 hx (hb hby own_d15_19) (by decide) (by decide) (by rw [e1]; exact ⟨rfl, N1, rfl⟩)
set_option maxRecDepth 65536 in
set_option maxHeartbeats 40000000 in
theorem own_sameN (l : Launch) (Z : State) (a0 : Array Value) (hw : ∀ d ∈ tables_1, d.before a0 Z = true) (h0 : Heap) (O0 : own_Old Z h0) :
    own_Con l Z (⟨"com/example/helmstead/helmstead/StoreRequestGetPinLaw", "same", "(Ljava/lang/String;Ljava/lang/String;)Z"⟩ : MethodName) method_2_code 2 (some .boolean) [] ({ frames := 0, cells := 0, slots := 0, locals := 0 } : Room) #[.null, .null] h0 (fun rv rh rL => rv = some (.int (1 : Int32)) ∧ own_Fr Z rL ∧ h0 = rh) := by
  refine own_intro (plainFor_of_name (by first | (simp [plainName, overriddenIn]; done) | decide +kernel)) ?_
  intro p e s m below meth c s₁ G hx hby hml hown hnm hret hZ X0 e0 hG hR
  have N0 := Fr.nil Z.heap.size
  refine own_entry (Ls := #[.val .null, .val .null]) (by first | (simp [entryFrame, mkF, argsToLocals, Value.category]; done) | rfl) ?_
  show G (s₁.setTop (mkF m 0 #[.val .null, .val .null] []))
  refine hG _ _ (fun t k => XS.aloadN X0.here hx rfl (hb hby own_d15_0) rfl rfl k) ?_
  show G (s₁.setTop (mkF m 1 #[.val .null, .val .null] [.null]))
  refine hG _ _ (fun t k => XS.ifnonnullNo X0.here hx rfl (hb hby own_d15_1) rfl k) ?_
  show G (s₁.setTop (mkF m 4 #[.val .null, .val .null] []))
  refine hG _ _ (fun t k => XS.aloadN X0.here hx rfl (hb hby own_d15_4) rfl rfl k) ?_
  show G (s₁.setTop (mkF m 5 #[.val .null, .val .null] [.null]))
  refine hG _ _ (fun t k => XS.ifnonnullNo X0.here hx rfl (hb hby own_d15_5) rfl k) ?_
  show G (s₁.setTop (mkF m 8 #[.val .null, .val .null] []))
  refine hG _ _ (fun t k => XS.iconst X0.here hx rfl (hb hby own_d15_8) k) ?_
  show G (s₁.setTop (mkF m 9 #[.val .null, .val .null] [(.int (1 : Int32))]))
  refine hG _ _ (fun t k => XS.goto X0.here hx rfl (pc0 := 9) (pc' := 13) rfl (hb hby own_d15_9) (by decide) (by decide) k) ?_
  show G (s₁.setTop (mkF m 13 #[.val .null, .val .null] [(.int (1 : Int32))]))
  exact own_retN hR hret (by simp) X0 hx (hb hby own_d15_13) (by decide) (by decide) (by rw [e0]; exact ⟨rfl, N0, rfl⟩)
theorem own_pd18 : parseMethodDescriptor "(II)Ljava/lang/String;" = some ⟨[.int, .int], some (.object "java/lang/String")⟩ := by decide +kernel
set_option maxRecDepth 65536 in
set_option maxHeartbeats 40000000 in
theorem own_text (l : Launch) (Z : State) (a0 : Array Value) (hw : ∀ d ∈ tables_1, d.before a0 Z = true) (hEL : EW Z a0 consts_1) (x : Int32) (n : Int32) (cpt : Int32) (h0 : Heap) (O0 : own_Old Z h0) (g0_S : Sta Z Z.heap "java/lang/String" "COMPACT_STRINGS" "Z" (.int cpt)) (g1_hcpt : ¬ (cpt = (0 : Int32))) :
    own_ConW l Z consts_1 (⟨"com/example/helmstead/helmstead/StoreRequestGetPinLaw", "text", "(II)Ljava/lang/String;"⟩ : MethodName) method_3_code 4 (some (.object "java/lang/String")) [] ({ frames := 4, cells := 6, slots := 12, locals := 66 } : Room) #[(.int x), (.int n)] h0 (fun rv rh rL => ∃ (t : Addr), rv = some (.ref t) ∧ own_Fr Z rL ∧ Keep h0 rh [] ∧ h0.size ≤ t ∧ (Exa Z rh t "java/lang/String")) := by
  refine own_introW hEL (plainFor_of_name (by first | (simp [plainName, overriddenIn]; done) | decide +kernel)) ?_
  intro p e s m below meth c s₁ G hx hby hml hown hnm hret hZ X0 e0 H0 SI0 hG hR
  have N0 := Fr.nil Z.heap.size
  refine own_entry (Ls := #[.val (.int x), .val (.int n), .unset, .unset]) (by first | (simp [entryFrame, mkF, argsToLocals, Value.category]; done) | rfl) ?_
  show G (s₁.setTop (mkF m 0 #[.val (.int x), .val (.int n), .unset, .unset] []))
  refine hG _ _ (fun t k => XS.iloadN X0.here hx rfl (hb hby own_d1_0) rfl k) ?_
  show G (s₁.setTop (mkF m 1 #[.val (.int x), .val (.int n), .unset, .unset] [(.int x)]))
  refine hG _ _ (fun t k => XS.sipush X0.here hx rfl (hb hby own_d1_1) k) ?_
  show G (s₁.setTop (mkF m 4 #[.val (.int x), .val (.int n), .unset, .unset] [(.int (255 : Int32)), (.int x)]))
  refine hG _ _ (fun t k => XS.iand X0.here hx rfl (hb hby own_d1_4) rfl k) ?_
  show G (s₁.setTop (mkF m 5 #[.val (.int x), .val (.int n), .unset, .unset] [(.int (x &&& (255 : Int32)))]))
  refine hG _ _ (fun t k => XS.i2c X0.here hx rfl (hb hby own_d1_5) rfl k) ?_
  show G (s₁.setTop (mkF m 6 #[.val (.int x), .val (.int n), .unset, .unset] [(.int ((x &&& (255 : Int32)).toUInt32.toUInt16.toUInt32.toInt32))]))
  generalize hn_c1 : ((x &&& (255 : Int32)).toUInt32.toUInt16.toUInt32.toInt32) = c1
  have hr_c1 := own_mask8 hn_c1
  refine hG _ _ (fun t k => XS.istoreN X0.here hx rfl (hb hby own_d1_6) rfl (l' := #[.val (.int x), .val (.int n), .val (.int c1), .unset]) rfl k) ?_
  show G (s₁.setTop (mkF m 7 #[.val (.int x), .val (.int n), .val (.int c1), .unset] []))
  refine hG _ _ (fun t k => XS.iloadN X0.here hx rfl (hb hby own_d1_7) rfl k) ?_
  show G (s₁.setTop (mkF m 8 #[.val (.int x), .val (.int n), .val (.int c1), .unset] [(.int x)]))
  refine hG _ _ (fun t k => XS.bipush X0.here hx rfl (hb hby own_d1_8) k) ?_
  show G (s₁.setTop (mkF m 10 #[.val (.int x), .val (.int n), .val (.int c1), .unset] [(.int (8 : Int32)), (.int x)]))
  refine hG _ _ (fun t k => XS.iushr X0.here hx rfl (hb hby own_d1_10) rfl k) ?_
  show G (s₁.setTop (mkF m 11 #[.val (.int x), .val (.int n), .val (.int c1), .unset] [(.int ((x.toUInt32 >>> ((8 : Int32) &&& 31).toUInt32).toInt32))]))
  refine hG _ _ (fun t k => XS.sipush X0.here hx rfl (hb hby own_d1_11) k) ?_
  show G (s₁.setTop (mkF m 14 #[.val (.int x), .val (.int n), .val (.int c1), .unset] [(.int (255 : Int32)), (.int ((x.toUInt32 >>> ((8 : Int32) &&& 31).toUInt32).toInt32))]))
  refine hG _ _ (fun t k => XS.iand X0.here hx rfl (hb hby own_d1_14) rfl k) ?_
  show G (s₁.setTop (mkF m 15 #[.val (.int x), .val (.int n), .val (.int c1), .unset] [(.int (((x.toUInt32 >>> ((8 : Int32) &&& 31).toUInt32).toInt32) &&& (255 : Int32)))]))
  refine hG _ _ (fun t k => XS.i2c X0.here hx rfl (hb hby own_d1_15) rfl k) ?_
  show G (s₁.setTop (mkF m 16 #[.val (.int x), .val (.int n), .val (.int c1), .unset] [(.int ((((x.toUInt32 >>> ((8 : Int32) &&& 31).toUInt32).toInt32) &&& (255 : Int32)).toUInt32.toUInt16.toUInt32.toInt32))]))
  generalize hn_c2 : ((((x.toUInt32 >>> ((8 : Int32) &&& 31).toUInt32).toInt32) &&& (255 : Int32)).toUInt32.toUInt16.toUInt32.toInt32) = c2
  have hr_c2 := own_mask8 hn_c2
  refine hG _ _ (fun t k => XS.istoreN X0.here hx rfl (hb hby own_d1_16) rfl (l' := #[.val (.int x), .val (.int n), .val (.int c1), .val (.int c2)]) rfl k) ?_
  show G (s₁.setTop (mkF m 17 #[.val (.int x), .val (.int n), .val (.int c1), .val (.int c2)] []))
  refine hG _ _ (fun t k => XS.iloadN X0.here hx rfl (hb hby own_d1_17) rfl k) ?_
  show G (s₁.setTop (mkF m 18 #[.val (.int x), .val (.int n), .val (.int c1), .val (.int c2)] [(.int n)]))
  by_cases hc18_3 : n = (0 : Int32)
  · skip
    refine hG _ _ (fun t k => XS.ifNo X0.here hx rfl (hb hby own_d1_18) rfl ((if0 _ _).trans (teq hc18_3).2) k) ?_
    show G (s₁.setTop (mkF m 21 #[.val (.int x), .val (.int n), .val (.int c1), .val (.int c2)] []))
    obtain ⟨T4, h4, X4, e4, E4, A4, D4, -, st4⟩ := newO X0 hx hZ hown (hw _ (List.mem_of_getElem? (i := 4) rfl)) (hw _ (List.mem_of_getElem? (i := 5) rfl)) (hw _ (List.mem_of_getElem? (i := 6) rfl)) e0 (g := (mkF m 21 #[.val (.int x), .val (.int n), .val (.int c1), .val (.int c2)] [])) rfl (hb hby own_d1_21) (by decide) (by decide)
    obtain ⟨b4, z4⟩ : ∃ z, z = h0.size := ⟨_, rfl⟩
    rw [← z4] at A4 D4 st4
    refine hG _ _ st4 ?_
    have R4 := (CHr.ext E4 H0)
    have C4 := (CHr.refl H0).trans R4
    have K4 : Keep h0 h4 [] := (Keep.refl h0 []).ext E4
    have O4 : own_Old Z h4 := O0.ext E4
    show G (T4.setTop (mkF m 24 #[.val (.int x), .val (.int n), .val (.int c1), .val (.int c2)] [(.ref b4)]))
    refine hG _ _ (fun t k => XS.dup X4.here hx rfl (hb hby own_d1_24) rfl rfl k) ?_
    show G (T4.setTop (mkF m 25 #[.val (.int x), .val (.int n), .val (.int c1), .val (.int c2)] [(.ref b4), (.ref b4)]))
    refine hG _ _ (fun t k => XS.iconst X4.here hx rfl (hb hby own_d1_25) k) ?_
    show G (T4.setTop (mkF m 26 #[.val (.int x), .val (.int n), .val (.int c1), .val (.int c2)] [(.int (0 : Int32)), (.ref b4), (.ref b4)]))
    obtain ⟨T5, h5, k5, X5, e5, E5, A5, st5⟩ := newP X4 hx hZ (hw _ (List.mem_of_getElem? (i := 7) rfl)) e4 (g := (mkF m 26 #[.val (.int x), .val (.int n), .val (.int c1), .val (.int c2)] [(.int (0 : Int32)), (.ref b4), (.ref b4)])) rfl (hb hby own_d1_26) rfl (by decide) (cap := 0) (by decide) (by decide) (by decide) (by decide)
    obtain ⟨b5, z5⟩ : ∃ z, z = h4.size := ⟨_, rfl⟩
    rw [← z5] at A5 st5
    refine hG _ _ st5 ?_
    have R5 := (CHr.ext E5 R4.1)
    have C5 := C4.trans R5
    have K5 : Keep h0 h5 [] := K4.ext E5
    have O5 : own_Old Z h5 := O4.ext E5
    have V5 : Arv Z h5 b5 k5 .char (0 : Int32) [] (.int (0 : Int32)) := (Arv.new A5 (by decide)).pad (pad_rep [] (.int (0 : Int32)) 0)
    show G (T5.setTop (mkF m 28 #[.val (.int x), .val (.int n), .val (.int c1), .val (.int c2)] [(.ref b5), (.ref b4), (.ref b4)]))
    have f7 := (A4.ext E5)
    have f8 := ((D4 (Or.inr (hw _ (List.mem_of_getElem? (i := 31) rfl))) (ty := .byte) (by decide)).ext E5)
    have f9 := ((D4 (Or.inr (hw _ (List.mem_of_getElem? (i := 33) rfl))) (ty := (.array .byte)) (by decide)).ext E5)
    refine own_callIW X5 hx hZ hG hown rfl (hw _ (List.mem_of_getElem? (i := 8) rfl)) (hw _ (List.mem_of_getElem? (i := 9) rfl)) (hw _ (List.mem_of_getElem? (i := 6) rfl)) (hw _ (List.mem_of_getElem? (i := 10) rfl)) (by decide) 1 (own_str1E l Z a0 hw hEL b4 b5 (.int (0 : Int32)) k5 h5 O5 f7 f8 f9 (own_ge O0 (Nat.le_of_eq z4.symm)) V5) (by decide) (by decide) e5 SI0 (Nat.le_trans (Nat.le_trans (Nat.le_refl _) R4.2.1) R5.2.1) hEL R5.1 (by rw [hml]; rfl) (lenOf own_pd5 rfl) (argsL := [(.ref b5)]) (rest := [(.ref b4)]) rfl rfl (Nat.le_of_eq rfl) (hb hby own_d1_28) (by decide) (by decide) ?_
    intro T6 h6 v6 L6 X6 e6 SI6 hZ6 hown6 Y6 q6
    obtain ⟨t_6, kt_6, rfl, M6, J6, r6_0, r6_1, r6_2, r6_3⟩ := q6
    have N6 := Fr.app N0 M6
    have R6 := Y6
    have C6 := C5.trans R6
    have K6 : Keep h0 h6 [] := K5.trans J6 (allS (Or.inr (Nat.le_trans (Keep.refl h0 []).1 (Nat.le_of_eq z4.symm))) all0)
    have O6 : own_Old Z h6 := O5.keep J6 (allS (own_ge O0 (Nat.le_of_eq z4.symm)) all0)
    show G (T6.setTop (mkF m 31 #[.val (.int x), .val (.int n), .val (.int c1), .val (.int c2)] [(.ref b4)]))
    exact own_retAW hR hret rfl rfl X6 hx (hb hby own_d1_31) e6 SI6 (Nat.le_refl _) hZ6 C6 (by decide) (by decide) ⟨b4, rfl, N6, K6, (Nat.le_trans (Keep.refl h0 []).1 (Nat.le_of_eq z4.symm)), r6_0⟩
  · skip
    refine hG _ _ (fun t k => XS.ifYes X0.here hx rfl (pc0 := 18) (pc' := 32) rfl (hb hby own_d1_18) rfl ((if0 _ _).trans (feq hc18_3).2) (by decide) (by decide) k) ?_
    show G (s₁.setTop (mkF m 32 #[.val (.int x), .val (.int n), .val (.int c1), .val (.int c2)] []))
    refine hG _ _ (fun t k => XS.iloadN X0.here hx rfl (hb hby own_d1_32) rfl k) ?_
    show G (s₁.setTop (mkF m 33 #[.val (.int x), .val (.int n), .val (.int c1), .val (.int c2)] [(.int n)]))
    refine hG _ _ (fun t k => XS.iconst X0.here hx rfl (hb hby own_d1_33) k) ?_
    show G (s₁.setTop (mkF m 34 #[.val (.int x), .val (.int n), .val (.int c1), .val (.int c2)] [(.int (1 : Int32)), (.int n)]))
    by_cases hc34_10 : n = (1 : Int32)
    · skip
      refine hG _ _ (fun t k => XS.icmpNo X0.here hx rfl (hb hby own_d1_34) rfl (teq hc34_10).2 k) ?_
      show G (s₁.setTop (mkF m 37 #[.val (.int x), .val (.int n), .val (.int c1), .val (.int c2)] []))
      refine hG _ _ (fun t k => XS.iloadN X0.here hx rfl (hb hby own_d1_37) rfl k) ?_
      show G (s₁.setTop (mkF m 38 #[.val (.int x), .val (.int n), .val (.int c1), .val (.int c2)] [(.int c1)]))
      refine own_callS X0 hx hZ hG hown (hw _ (List.mem_of_getElem? (i := 113) rfl)) (hw _ (List.mem_of_getElem? (i := 114) rfl)) (hw _ (List.mem_of_getElem? (i := 6) rfl)) (hw _ (List.mem_of_getElem? (i := 115) rfl)) (by decide) 0 (own_val1 l Z a0 hw c1 cpt h0 O0 (own_le255 hr_c1) g0_S g1_hcpt) (by decide) (by decide) e0 (by rw [hml]; rfl) (lenOf own_pd9 rfl) (argsL := [(.int c1)]) (rest := []) rfl rfl (Nat.le_of_eq rfl) (hb hby own_d1_38) (by decide) (by decide) ?_
      intro T11 h11 v11 L11 X11 e11 q11
      obtain ⟨t_11, b_11, kb_11, rfl, M11, J11, y11_0, y11_1, r11_0, r11_1, r11_2, r11_3⟩ := q11
      have N11 := Fr.app N0 M11
      have R11 := (CHr.keep J11 all0 H0)
      have C11 := (CHr.refl H0).trans R11
      have K11 : Keep h0 h11 [] := (Keep.refl h0 []).trans J11 all0
      have O11 : own_Old Z h11 := O0.keep J11 all0
      show G (T11.setTop (mkF m 41 #[.val (.int x), .val (.int n), .val (.int c1), .val (.int c2)] [(.ref t_11)]))
      exact own_retAW hR hret rfl rfl X11 hx (hb hby own_d1_41) e11 SI0 (Nat.le_trans (Nat.le_refl _) R11.2.1) hZ C11 (by decide) (by decide) ⟨t_11, rfl, N11, K11, (Nat.le_trans (Keep.refl h0 []).1 y11_0), r11_0⟩
    · skip
      refine hG _ _ (fun t k => XS.icmpYes X0.here hx rfl (pc0 := 34) (pc' := 42) rfl (hb hby own_d1_34) rfl (feq hc34_10).2 (by decide) (by decide) k) ?_
      show G (s₁.setTop (mkF m 42 #[.val (.int x), .val (.int n), .val (.int c1), .val (.int c2)] []))
      obtain ⟨T12, h12, X12, e12, E12, A12, D12, -, st12⟩ := newO X0 hx hZ hown (hw _ (List.mem_of_getElem? (i := 4) rfl)) (hw _ (List.mem_of_getElem? (i := 5) rfl)) (hw _ (List.mem_of_getElem? (i := 6) rfl)) e0 (g := (mkF m 42 #[.val (.int x), .val (.int n), .val (.int c1), .val (.int c2)] [])) rfl (hb hby own_d1_42) (by decide) (by decide)
      obtain ⟨b12, z12⟩ : ∃ z, z = h0.size := ⟨_, rfl⟩
      rw [← z12] at A12 D12 st12
      refine hG _ _ st12 ?_
      have R12 := (CHr.ext E12 H0)
      have C12 := (CHr.refl H0).trans R12
      have K12 : Keep h0 h12 [] := (Keep.refl h0 []).ext E12
      have O12 : own_Old Z h12 := O0.ext E12
      show G (T12.setTop (mkF m 45 #[.val (.int x), .val (.int n), .val (.int c1), .val (.int c2)] [(.ref b12)]))
      refine hG _ _ (fun t k => XS.dup X12.here hx rfl (hb hby own_d1_45) rfl rfl k) ?_
      show G (T12.setTop (mkF m 46 #[.val (.int x), .val (.int n), .val (.int c1), .val (.int c2)] [(.ref b12), (.ref b12)]))
      refine hG _ _ (fun t k => XS.iconst X12.here hx rfl (hb hby own_d1_46) k) ?_
      show G (T12.setTop (mkF m 47 #[.val (.int x), .val (.int n), .val (.int c1), .val (.int c2)] [(.int (2 : Int32)), (.ref b12), (.ref b12)]))
      obtain ⟨T13, h13, k13, X13, e13, E13, A13, st13⟩ := newP X12 hx hZ (hw _ (List.mem_of_getElem? (i := 7) rfl)) e12 (g := (mkF m 47 #[.val (.int x), .val (.int n), .val (.int c1), .val (.int c2)] [(.int (2 : Int32)), (.ref b12), (.ref b12)])) rfl (hb hby own_d1_47) rfl (by decide) (cap := 2) (by decide) (by decide) (by decide) (by decide)
      obtain ⟨b13, z13⟩ : ∃ z, z = h12.size := ⟨_, rfl⟩
      rw [← z13] at A13 st13
      refine hG _ _ st13 ?_
      have R13 := (CHr.ext E13 R12.1)
      have C13 := C12.trans R13
      have K13 : Keep h0 h13 [] := K12.ext E13
      have O13 : own_Old Z h13 := O12.ext E13
      have V13 : Arv Z h13 b13 k13 .char (2 : Int32) [(.int (0 : Int32)), (.int (0 : Int32))] (.int (0 : Int32)) := (Arv.new A13 (by decide)).pad (pad_rep [] (.int (0 : Int32)) 2)
      show G (T13.setTop (mkF m 49 #[.val (.int x), .val (.int n), .val (.int c1), .val (.int c2)] [(.ref b13), (.ref b12), (.ref b12)]))
      refine hG _ _ (fun t k => XS.dup X13.here hx rfl (hb hby own_d1_49) rfl rfl k) ?_
      show G (T13.setTop (mkF m 50 #[.val (.int x), .val (.int n), .val (.int c1), .val (.int c2)] [(.ref b13), (.ref b13), (.ref b12), (.ref b12)]))
      refine hG _ _ (fun t k => XS.iconst X13.here hx rfl (hb hby own_d1_50) k) ?_
      show G (T13.setTop (mkF m 51 #[.val (.int x), .val (.int n), .val (.int c1), .val (.int c2)] [(.int (0 : Int32)), (.ref b13), (.ref b13), (.ref b12), (.ref b12)]))
      refine hG _ _ (fun t k => XS.iloadN X13.here hx rfl (hb hby own_d1_51) rfl k) ?_
      show G (T13.setTop (mkF m 52 #[.val (.int x), .val (.int n), .val (.int c1), .val (.int c2)] [(.int c1), (.int (0 : Int32)), (.ref b13), (.ref b13), (.ref b12), (.ref b12)]))
      obtain ⟨c14, Ar14, q14, S14, M14, H14, G14⟩ := id V13
      obtain ⟨T14, h14, X14, e14, W14, st14⟩ := stC X13 hx hZ e13 Ar14 (j := (0 : Int32)) (inb_of S14 ⟨by decide, by decide⟩) (g := (mkF m 52 #[.val (.int x), .val (.int n), .val (.int c1), .val (.int c2)] [(.int c1), (.int (0 : Int32)), (.ref b13), (.ref b13), (.ref b12), (.ref b12)])) rfl rfl (hb hby own_d1_52)
      refine hG _ _ st14 ?_
      have sf15 : Safe Z consts_1 _ h13 b13 := (own_safeArv hZ.alike V13 (by decide))
      have R14 := (CHr.wr W14 sf15 R13.1)
      have C14 := C13.trans R14
      have K14 : Keep h0 h14 [] := K13.wr W14 (Or.inr (Nat.le_trans K12.1 (Nat.le_of_eq z13.symm)))
      have O14 : own_Old Z h14 := O13.wr W14 (own_ge O12 (Nat.le_of_eq z13.symm))
      have V14 : Arv Z h14 b13 k13 .char (2 : Int32) [(.int (nar .char c1)), (.int (0 : Int32))] (.int (0 : Int32)) := Arv.set Ar14 q14 S14 M14 H14 G14 (fits_nar_char _) W14 0 rfl (Nat.le_of_ble_eq_true rfl)
      have N14 := Fr.snoc X14 N0 (own_ge O12 (Nat.le_of_eq z13.symm))
      show G (T14.setTop (mkF m 53 #[.val (.int x), .val (.int n), .val (.int c1), .val (.int c2)] [(.ref b13), (.ref b12), (.ref b12)]))
      refine hG _ _ (fun t k => XS.dup X14.here hx rfl (hb hby own_d1_53) rfl rfl k) ?_
      show G (T14.setTop (mkF m 54 #[.val (.int x), .val (.int n), .val (.int c1), .val (.int c2)] [(.ref b13), (.ref b13), (.ref b12), (.ref b12)]))
      refine hG _ _ (fun t k => XS.iconst X14.here hx rfl (hb hby own_d1_54) k) ?_
      show G (T14.setTop (mkF m 55 #[.val (.int x), .val (.int n), .val (.int c1), .val (.int c2)] [(.int (1 : Int32)), (.ref b13), (.ref b13), (.ref b12), (.ref b12)]))
      refine hG _ _ (fun t k => XS.iloadN X14.here hx rfl (hb hby own_d1_55) rfl k) ?_
      show G (T14.setTop (mkF m 56 #[.val (.int x), .val (.int n), .val (.int c1), .val (.int c2)] [(.int c2), (.int (1 : Int32)), (.ref b13), (.ref b13), (.ref b12), (.ref b12)]))
      obtain ⟨c16, Ar16, q16, S16, M16, H16, G16⟩ := id V14
      obtain ⟨T16, h16, X16, e16, W16, st16⟩ := stC X14 hx hZ e14 Ar16 (j := (1 : Int32)) (inb_of S16 ⟨by decide, by decide⟩) (g := (mkF m 56 #[.val (.int x), .val (.int n), .val (.int c1), .val (.int c2)] [(.int c2), (.int (1 : Int32)), (.ref b13), (.ref b13), (.ref b12), (.ref b12)])) rfl rfl (hb hby own_d1_56)
      refine hG _ _ st16 ?_
      have sf17 := (R14.safe V13.lt sf15)
      have R16 := (CHr.wr W16 sf17 R14.1)
      have C16 := C14.trans R16
      have K16 : Keep h0 h16 [] := K14.wr W16 (Or.inr (Nat.le_trans K12.1 (Nat.le_of_eq z13.symm)))
      have O16 : own_Old Z h16 := O14.wr W16 (own_ge O12 (Nat.le_of_eq z13.symm))
      have V16 : Arv Z h16 b13 k13 .char (2 : Int32) [(.int (nar .char c1)), (.int (nar .char c2))] (.int (0 : Int32)) := Arv.set Ar16 q16 S16 M16 H16 G16 (fits_nar_char _) W16 1 rfl (Nat.le_of_ble_eq_true rfl)
      have N16 := Fr.snoc X16 N14 (own_ge O12 (Nat.le_of_eq z13.symm))
      show G (T16.setTop (mkF m 57 #[.val (.int x), .val (.int n), .val (.int c1), .val (.int c2)] [(.ref b13), (.ref b12), (.ref b12)]))
      have f19 := (((A12.ext E13).wr W14).wr W16)
      have f20 := ((((D12 (Or.inr (hw _ (List.mem_of_getElem? (i := 31) rfl))) (ty := .byte) (by decide)).ext E13).other W14 (Or.inl (own_ne A12.lt (Nat.le_of_eq z13.symm)))).other W16 (Or.inl (own_ne A12.lt (Nat.le_of_eq z13.symm))))
      have f21 := ((((D12 (Or.inr (hw _ (List.mem_of_getElem? (i := 33) rfl))) (ty := (.array .byte)) (by decide)).ext E13).other W14 (Or.inl (own_ne A12.lt (Nat.le_of_eq z13.symm)))).other W16 (Or.inl (own_ne A12.lt (Nat.le_of_eq z13.symm))))
      refine own_callI X16 hx hZ hG hown rfl (hw _ (List.mem_of_getElem? (i := 8) rfl)) (hw _ (List.mem_of_getElem? (i := 9) rfl)) (hw _ (List.mem_of_getElem? (i := 6) rfl)) (hw _ (List.mem_of_getElem? (i := 10) rfl)) (by decide) 1 (own_str1 l Z a0 hw b12 b13 k13 [(nar .char c1), (nar .char c2)] cpt (.int (0 : Int32)) .null h16 O16 f19 f20 f21 (own_ge O0 (Nat.le_of_eq z12.symm)) V16 (Nat.le_of_ble_eq_true rfl) (Nat.le_of_ble_eq_true rfl) (own_allc (own_nar8 hr_c1) (own_allc (own_nar8 hr_c2) own_alln)) g0_S g1_hcpt) (by decide) (by decide) e16 (by rw [hml]; rfl) (lenOf own_pd5 rfl) (argsL := [(.ref b13)]) (rest := [(.ref b12)]) rfl rfl (Nat.le_of_eq rfl) (hb hby own_d1_57) (by decide) (by decide) ?_
      intro T18 h18 v18 L18 X18 e18 q18
      obtain ⟨t_18, kt_18, rfl, M18, J18, y18_0, r18_0, r18_1, r18_2, r18_3⟩ := q18
      have N18 := Fr.app N16 M18
      have sf22 : Safe Z consts_1 _ h16 b12 := (own_safeStr hZ.alike f19 f21)
      have R18 := (CHr.keep J18 (allS sf22 all0) R16.1)
      have C18 := C16.trans R18
      have K18 : Keep h0 h18 [] := K16.trans J18 (allS (Or.inr (Nat.le_trans (Keep.refl h0 []).1 (Nat.le_of_eq z12.symm))) all0)
      have O18 : own_Old Z h18 := O16.keep J18 (allS (own_ge O0 (Nat.le_of_eq z12.symm)) all0)
      show G (T18.setTop (mkF m 60 #[.val (.int x), .val (.int n), .val (.int c1), .val (.int c2)] [(.ref b12)]))
      exact own_retAW hR hret rfl rfl X18 hx (hb hby own_d1_60) e18 SI0 (Nat.le_trans (Nat.le_trans (Nat.le_trans (Nat.le_trans (Nat.le_trans (Nat.le_refl _) R12.2.1) R13.2.1) R14.2.1) R16.2.1) R18.2.1) hZ C18 (by decide) (by decide) ⟨b12, rfl, N18, K18, (Nat.le_trans (Keep.refl h0 []).1 (Nat.le_of_eq z12.symm)), r18_0⟩
theorem own_pd19 : parseMethodDescriptor "(III)Z" = some ⟨[.int, .int, .int], some .boolean⟩ := by decide +kernel
set_option maxRecDepth 65536 in
set_option maxHeartbeats 40000000 in
theorem own_law (l : Launch) (Z : State) (a0 : Array Value) (hw : ∀ d ∈ tables_1, d.before a0 Z = true) (ws : List Jvm.Cond) (hEL : EW Z a0 consts_1) (i0 : Int32) (i1 : Int32) (i2 : Int32) (cpt : Int32) (w1 : Addr) (h0 : Heap) (O0 : own_Old Z h0) (g0_S : Sta Z Z.heap "java/lang/String" "COMPACT_STRINGS" "Z" (.int cpt)) (g1_hcpt : ¬ (cpt = (0 : Int32))) (g2_S : Sta Z Z.heap "com/example/helmstead/helmstead/StoreRequest$Kind" "GET" "Lcom/example/helmstead/helmstead/StoreRequest$Kind;" (.ref w1)) :
    own_ConW l Z consts_1 x code maxLocals ret ws room_1 #[(.int i0), (.int i1), (.int i2)] h0 (fun rv rh rL => rv = some (.int (1 : Int32)) ∧ own_Fr Z rL ∧ Keep h0 rh []) := by
  refine own_introW hEL (plainFor_of_name (by first | (simp [plainName, overriddenIn]; done) | decide +kernel)) ?_
  intro p e s m below meth c s₁ G hx hby hml hown hnm hret hZ X0 e0 H0 SI0 hG hR
  have N0 := Fr.nil Z.heap.size
  refine own_entry (Ls := #[.val (.int i0), .val (.int i1), .val (.int i2), .unset, .unset, .unset, .unset, .unset, .unset]) (by first | (simp [entryFrame, mkF, argsToLocals, Value.category, maxLocals]; done) | rfl) ?_
  show G (s₁.setTop (mkF m 0 #[.val (.int i0), .val (.int i1), .val (.int i2), .unset, .unset, .unset, .unset, .unset, .unset] []))
  refine hG _ _ (fun t k => XS.iloadN X0.here hx rfl (hb hby at_0) rfl k) ?_
  show G (s₁.setTop (mkF m 1 #[.val (.int i0), .val (.int i1), .val (.int i2), .unset, .unset, .unset, .unset, .unset, .unset] [(.int i2)]))
  refine hG _ _ (fun t k => XS.iconst X0.here hx rfl (hb hby at_1) k) ?_
  show G (s₁.setTop (mkF m 2 #[.val (.int i0), .val (.int i1), .val (.int i2), .unset, .unset, .unset, .unset, .unset, .unset] [(.int (3 : Int32)), (.int i2)]))
  refine hG _ _ (fun t k => XS.iand X0.here hx rfl (hb hby at_2) rfl k) ?_
  show G (s₁.setTop (mkF m 3 #[.val (.int i0), .val (.int i1), .val (.int i2), .unset, .unset, .unset, .unset, .unset, .unset] [(.int (i2 &&& (3 : Int32)))]))
  refine hG _ _ (fun t k => XS.iconst X0.here hx rfl (hb hby at_3) k) ?_
  show G (s₁.setTop (mkF m 4 #[.val (.int i0), .val (.int i1), .val (.int i2), .unset, .unset, .unset, .unset, .unset, .unset] [(.int (3 : Int32)), (.int (i2 &&& (3 : Int32)))]))
  refine hG _ _ (fun t k => iremM X0 hx rfl (hb hby at_4) rfl (by decide) k) ?_
  show G (s₁.setTop (mkF m 5 #[.val (.int i0), .val (.int i1), .val (.int i2), .unset, .unset, .unset, .unset, .unset, .unset] [(.int ((i2 &&& (3 : Int32)) % (3 : Int32)))]))
  refine hG _ _ (fun t k => XS.istoreN X0.here hx rfl (hb hby at_5) rfl (l' := #[.val (.int i0), .val (.int i1), .val (.int i2), .val (.int ((i2 &&& (3 : Int32)) % (3 : Int32))), .unset, .unset, .unset, .unset, .unset]) rfl k) ?_
  show G (s₁.setTop (mkF m 6 #[.val (.int i0), .val (.int i1), .val (.int i2), .val (.int ((i2 &&& (3 : Int32)) % (3 : Int32))), .unset, .unset, .unset, .unset, .unset] []))
  refine hG _ _ (fun t k => XS.iloadN X0.here hx rfl (hb hby at_6) rfl k) ?_
  show G (s₁.setTop (mkF m 7 #[.val (.int i0), .val (.int i1), .val (.int i2), .val (.int ((i2 &&& (3 : Int32)) % (3 : Int32))), .unset, .unset, .unset, .unset, .unset] [(.int i2)]))
  refine hG _ _ (fun t k => XS.iconst X0.here hx rfl (hb hby at_7) k) ?_
  show G (s₁.setTop (mkF m 8 #[.val (.int i0), .val (.int i1), .val (.int i2), .val (.int ((i2 &&& (3 : Int32)) % (3 : Int32))), .unset, .unset, .unset, .unset, .unset] [(.int (2 : Int32)), (.int i2)]))
  refine hG _ _ (fun t k => XS.iushr X0.here hx rfl (hb hby at_8) rfl k) ?_
  show G (s₁.setTop (mkF m 9 #[.val (.int i0), .val (.int i1), .val (.int i2), .val (.int ((i2 &&& (3 : Int32)) % (3 : Int32))), .unset, .unset, .unset, .unset, .unset] [(.int ((i2.toUInt32 >>> ((2 : Int32) &&& 31).toUInt32).toInt32))]))
  refine hG _ _ (fun t k => XS.iconst X0.here hx rfl (hb hby at_9) k) ?_
  show G (s₁.setTop (mkF m 10 #[.val (.int i0), .val (.int i1), .val (.int i2), .val (.int ((i2 &&& (3 : Int32)) % (3 : Int32))), .unset, .unset, .unset, .unset, .unset] [(.int (3 : Int32)), (.int ((i2.toUInt32 >>> ((2 : Int32) &&& 31).toUInt32).toInt32))]))
  refine hG _ _ (fun t k => XS.iand X0.here hx rfl (hb hby at_10) rfl k) ?_
  show G (s₁.setTop (mkF m 11 #[.val (.int i0), .val (.int i1), .val (.int i2), .val (.int ((i2 &&& (3 : Int32)) % (3 : Int32))), .unset, .unset, .unset, .unset, .unset] [(.int (((i2.toUInt32 >>> ((2 : Int32) &&& 31).toUInt32).toInt32) &&& (3 : Int32)))]))
  refine hG _ _ (fun t k => XS.iconst X0.here hx rfl (hb hby at_11) k) ?_
  show G (s₁.setTop (mkF m 12 #[.val (.int i0), .val (.int i1), .val (.int i2), .val (.int ((i2 &&& (3 : Int32)) % (3 : Int32))), .unset, .unset, .unset, .unset, .unset] [(.int (3 : Int32)), (.int (((i2.toUInt32 >>> ((2 : Int32) &&& 31).toUInt32).toInt32) &&& (3 : Int32)))]))
  refine hG _ _ (fun t k => iremM X0 hx rfl (hb hby at_12) rfl (by decide) k) ?_
  show G (s₁.setTop (mkF m 13 #[.val (.int i0), .val (.int i1), .val (.int i2), .val (.int ((i2 &&& (3 : Int32)) % (3 : Int32))), .unset, .unset, .unset, .unset, .unset] [(.int ((((i2.toUInt32 >>> ((2 : Int32) &&& 31).toUInt32).toInt32) &&& (3 : Int32)) % (3 : Int32)))]))
  refine hG _ _ (fun t k => XS.istore X0.here hx rfl (hb hby at_13) rfl (l' := #[.val (.int i0), .val (.int i1), .val (.int i2), .val (.int ((i2 &&& (3 : Int32)) % (3 : Int32))), .val (.int ((((i2.toUInt32 >>> ((2 : Int32) &&& 31).toUInt32).toInt32) &&& (3 : Int32)) % (3 : Int32))), .unset, .unset, .unset, .unset]) rfl k) ?_
  show G (s₁.setTop (mkF m 15 #[.val (.int i0), .val (.int i1), .val (.int i2), .val (.int ((i2 &&& (3 : Int32)) % (3 : Int32))), .val (.int ((((i2.toUInt32 >>> ((2 : Int32) &&& 31).toUInt32).toInt32) &&& (3 : Int32)) % (3 : Int32))), .unset, .unset, .unset, .unset] []))
  refine hG _ _ (fun t k => XS.iloadN X0.here hx rfl (hb hby at_15) rfl k) ?_
  show G (s₁.setTop (mkF m 16 #[.val (.int i0), .val (.int i1), .val (.int i2), .val (.int ((i2 &&& (3 : Int32)) % (3 : Int32))), .val (.int ((((i2.toUInt32 >>> ((2 : Int32) &&& 31).toUInt32).toInt32) &&& (3 : Int32)) % (3 : Int32))), .unset, .unset, .unset, .unset] [(.int i2)]))
  refine hG _ _ (fun t k => XS.bipush X0.here hx rfl (hb hby at_16) k) ?_
  show G (s₁.setTop (mkF m 18 #[.val (.int i0), .val (.int i1), .val (.int i2), .val (.int ((i2 &&& (3 : Int32)) % (3 : Int32))), .val (.int ((((i2.toUInt32 >>> ((2 : Int32) &&& 31).toUInt32).toInt32) &&& (3 : Int32)) % (3 : Int32))), .unset, .unset, .unset, .unset] [(.int (16 : Int32)), (.int i2)]))
  refine hG _ _ (fun t k => XS.iand X0.here hx rfl (hb hby at_18) rfl k) ?_
  show G (s₁.setTop (mkF m 19 #[.val (.int i0), .val (.int i1), .val (.int i2), .val (.int ((i2 &&& (3 : Int32)) % (3 : Int32))), .val (.int ((((i2.toUInt32 >>> ((2 : Int32) &&& 31).toUInt32).toInt32) &&& (3 : Int32)) % (3 : Int32))), .unset, .unset, .unset, .unset] [(.int (i2 &&& (16 : Int32)))]))
  by_cases hc19_1 : (i2 &&& (16 : Int32)) = (0 : Int32)
  · skip
    refine hG _ _ (fun t k => XS.ifYes X0.here hx rfl (pc0 := 19) (pc' := 26) rfl (hb hby at_19) rfl ((if0 _ _).trans (teq hc19_1).1) (by decide) (by decide) k) ?_
    show G (s₁.setTop (mkF m 26 #[.val (.int i0), .val (.int i1), .val (.int i2), .val (.int ((i2 &&& (3 : Int32)) % (3 : Int32))), .val (.int ((((i2.toUInt32 >>> ((2 : Int32) &&& 31).toUInt32).toInt32) &&& (3 : Int32)) % (3 : Int32))), .unset, .unset, .unset, .unset] []))
    refine hG _ _ (fun t k => XS.iconst X0.here hx rfl (hb hby at_26) k) ?_
    show G (s₁.setTop (mkF m 27 #[.val (.int i0), .val (.int i1), .val (.int i2), .val (.int ((i2 &&& (3 : Int32)) % (3 : Int32))), .val (.int ((((i2.toUInt32 >>> ((2 : Int32) &&& 31).toUInt32).toInt32) &&& (3 : Int32)) % (3 : Int32))), .unset, .unset, .unset, .unset] [(.int (0 : Int32))]))
    refine hG _ _ (fun t k => XS.istore X0.here hx rfl (hb hby at_27) rfl (l' := #[.val (.int i0), .val (.int i1), .val (.int i2), .val (.int ((i2 &&& (3 : Int32)) % (3 : Int32))), .val (.int ((((i2.toUInt32 >>> ((2 : Int32) &&& 31).toUInt32).toInt32) &&& (3 : Int32)) % (3 : Int32))), .val (.int (0 : Int32)), .unset, .unset, .unset]) rfl k) ?_
    show G (s₁.setTop (mkF m 29 #[.val (.int i0), .val (.int i1), .val (.int i2), .val (.int ((i2 &&& (3 : Int32)) % (3 : Int32))), .val (.int ((((i2.toUInt32 >>> ((2 : Int32) &&& 31).toUInt32).toInt32) &&& (3 : Int32)) % (3 : Int32))), .val (.int (0 : Int32)), .unset, .unset, .unset] []))
    refine hG _ _ (fun t k => XS.iloadN X0.here hx rfl (hb hby at_29) rfl k) ?_
    show G (s₁.setTop (mkF m 30 #[.val (.int i0), .val (.int i1), .val (.int i2), .val (.int ((i2 &&& (3 : Int32)) % (3 : Int32))), .val (.int ((((i2.toUInt32 >>> ((2 : Int32) &&& 31).toUInt32).toInt32) &&& (3 : Int32)) % (3 : Int32))), .val (.int (0 : Int32)), .unset, .unset, .unset] [(.int i0)]))
    refine hG _ _ (fun t k => XS.iloadN X0.here hx rfl (hb hby at_30) rfl k) ?_
    show G (s₁.setTop (mkF m 31 #[.val (.int i0), .val (.int i1), .val (.int i2), .val (.int ((i2 &&& (3 : Int32)) % (3 : Int32))), .val (.int ((((i2.toUInt32 >>> ((2 : Int32) &&& 31).toUInt32).toInt32) &&& (3 : Int32)) % (3 : Int32))), .val (.int (0 : Int32)), .unset, .unset, .unset] [(.int ((i2 &&& (3 : Int32)) % (3 : Int32))), (.int i0)]))
    refine own_callSW X0 hx hZ hG hown (hw _ (List.mem_of_getElem? (i := 0) rfl)) (hw _ (List.mem_of_getElem? (i := 1) rfl)) (hw _ (List.mem_of_getElem? (i := 2) rfl)) (hw _ (List.mem_of_getElem? (i := 3) rfl)) (by decide) 0 (own_text l Z a0 hw hEL i0 ((i2 &&& (3 : Int32)) % (3 : Int32)) cpt h0 O0 g0_S g1_hcpt) (by decide) (by decide) e0 SI0 (Nat.le_refl _) hEL H0 (by rw [hml]; rfl) (lenOf own_pd18 rfl) (argsL := [(.int i0), (.int ((i2 &&& (3 : Int32)) % (3 : Int32)))]) (rest := []) rfl rfl (Nat.le_of_eq rfl) (hb hby at_31) (by decide) (by decide) ?_
    intro T2 h2 v2 L2 X2 e2 SI2 hZ2 hown2 Y2 q2
    obtain ⟨t_2, rfl, M2, J2, y2_0, r2_0⟩ := q2
    have N2 := Fr.app N0 M2
    have R2 := Y2
    have C2 := (CHr.refl H0).trans R2
    have K2 : Keep h0 h2 [] := (Keep.refl h0 []).trans J2 all0
    have O2 : own_Old Z h2 := O0.keep J2 all0
    show G (T2.setTop (mkF m 34 #[.val (.int i0), .val (.int i1), .val (.int i2), .val (.int ((i2 &&& (3 : Int32)) % (3 : Int32))), .val (.int ((((i2.toUInt32 >>> ((2 : Int32) &&& 31).toUInt32).toInt32) &&& (3 : Int32)) % (3 : Int32))), .val (.int (0 : Int32)), .unset, .unset, .unset] [(.ref t_2)]))
    refine hG _ _ (fun t k => XS.astore X2.here hx rfl (hb hby at_34) rfl rfl (l' := #[.val (.int i0), .val (.int i1), .val (.int i2), .val (.int ((i2 &&& (3 : Int32)) % (3 : Int32))), .val (.int ((((i2.toUInt32 >>> ((2 : Int32) &&& 31).toUInt32).toInt32) &&& (3 : Int32)) % (3 : Int32))), .val (.int (0 : Int32)), .val (.ref t_2), .unset, .unset]) rfl k) ?_
    show G (T2.setTop (mkF m 36 #[.val (.int i0), .val (.int i1), .val (.int i2), .val (.int ((i2 &&& (3 : Int32)) % (3 : Int32))), .val (.int ((((i2.toUInt32 >>> ((2 : Int32) &&& 31).toUInt32).toInt32) &&& (3 : Int32)) % (3 : Int32))), .val (.int (0 : Int32)), .val (.ref t_2), .unset, .unset] []))
    refine hG _ _ (fun t k => XS.iload X2.here hx rfl (hb hby at_36) rfl k) ?_
    show G (T2.setTop (mkF m 38 #[.val (.int i0), .val (.int i1), .val (.int i2), .val (.int ((i2 &&& (3 : Int32)) % (3 : Int32))), .val (.int ((((i2.toUInt32 >>> ((2 : Int32) &&& 31).toUInt32).toInt32) &&& (3 : Int32)) % (3 : Int32))), .val (.int (0 : Int32)), .val (.ref t_2), .unset, .unset] [(.int (0 : Int32))]))
    refine hG _ _ (fun t k => XS.ifYes X2.here hx rfl (pc0 := 38) (pc' := 45) rfl (hb hby at_38) rfl ((if0 _ _).trans (teq (by decide)).1) (by decide) (by decide) k) ?_
    show G (T2.setTop (mkF m 45 #[.val (.int i0), .val (.int i1), .val (.int i2), .val (.int ((i2 &&& (3 : Int32)) % (3 : Int32))), .val (.int ((((i2.toUInt32 >>> ((2 : Int32) &&& 31).toUInt32).toInt32) &&& (3 : Int32)) % (3 : Int32))), .val (.int (0 : Int32)), .val (.ref t_2), .unset, .unset] []))
    refine hG _ _ (fun t k => XS.iloadN X2.here hx rfl (hb hby at_45) rfl k) ?_
    show G (T2.setTop (mkF m 46 #[.val (.int i0), .val (.int i1), .val (.int i2), .val (.int ((i2 &&& (3 : Int32)) % (3 : Int32))), .val (.int ((((i2.toUInt32 >>> ((2 : Int32) &&& 31).toUInt32).toInt32) &&& (3 : Int32)) % (3 : Int32))), .val (.int (0 : Int32)), .val (.ref t_2), .unset, .unset] [(.int i1)]))
    refine hG _ _ (fun t k => XS.iload X2.here hx rfl (hb hby at_46) rfl k) ?_
    show G (T2.setTop (mkF m 48 #[.val (.int i0), .val (.int i1), .val (.int i2), .val (.int ((i2 &&& (3 : Int32)) % (3 : Int32))), .val (.int ((((i2.toUInt32 >>> ((2 : Int32) &&& 31).toUInt32).toInt32) &&& (3 : Int32)) % (3 : Int32))), .val (.int (0 : Int32)), .val (.ref t_2), .unset, .unset] [(.int ((((i2.toUInt32 >>> ((2 : Int32) &&& 31).toUInt32).toInt32) &&& (3 : Int32)) % (3 : Int32))), (.int i1)]))
    refine own_callSW X2 hx hZ2 hG hown2 (hw _ (List.mem_of_getElem? (i := 0) rfl)) (hw _ (List.mem_of_getElem? (i := 1) rfl)) (hw _ (List.mem_of_getElem? (i := 2) rfl)) (hw _ (List.mem_of_getElem? (i := 3) rfl)) (by decide) 0 (own_text l Z a0 hw hEL i1 ((((i2.toUInt32 >>> ((2 : Int32) &&& 31).toUInt32).toInt32) &&& (3 : Int32)) % (3 : Int32)) cpt h2 O2 g0_S g1_hcpt) (by decide) (by decide) e2 SI2 (Nat.le_refl _) hEL R2.1 (by rw [hml]; rfl) (lenOf own_pd18 rfl) (argsL := [(.int i1), (.int ((((i2.toUInt32 >>> ((2 : Int32) &&& 31).toUInt32).toInt32) &&& (3 : Int32)) % (3 : Int32)))]) (rest := []) rfl rfl (Nat.le_of_eq rfl) (hb hby at_48) (by decide) (by decide) ?_
    intro T3 h3 v3 L3 X3 e3 SI3 hZ3 hown3 Y3 q3
    obtain ⟨t_3, rfl, M3, J3, y3_0, r3_0⟩ := q3
    have N3 := Fr.app N2 M3
    have R3 := Y3
    have C3 := C2.trans R3
    have K3 : Keep h0 h3 [] := K2.trans J3 all0
    have O3 : own_Old Z h3 := O2.keep J3 all0
    show G (T3.setTop (mkF m 51 #[.val (.int i0), .val (.int i1), .val (.int i2), .val (.int ((i2 &&& (3 : Int32)) % (3 : Int32))), .val (.int ((((i2.toUInt32 >>> ((2 : Int32) &&& 31).toUInt32).toInt32) &&& (3 : Int32)) % (3 : Int32))), .val (.int (0 : Int32)), .val (.ref t_2), .unset, .unset] [(.ref t_3)]))
    refine hG _ _ (fun t k => XS.astore X3.here hx rfl (hb hby at_51) rfl rfl (l' := #[.val (.int i0), .val (.int i1), .val (.int i2), .val (.int ((i2 &&& (3 : Int32)) % (3 : Int32))), .val (.int ((((i2.toUInt32 >>> ((2 : Int32) &&& 31).toUInt32).toInt32) &&& (3 : Int32)) % (3 : Int32))), .val (.int (0 : Int32)), .val (.ref t_2), .val (.ref t_3), .unset]) rfl k) ?_
    show G (T3.setTop (mkF m 53 #[.val (.int i0), .val (.int i1), .val (.int i2), .val (.int ((i2 &&& (3 : Int32)) % (3 : Int32))), .val (.int ((((i2.toUInt32 >>> ((2 : Int32) &&& 31).toUInt32).toInt32) &&& (3 : Int32)) % (3 : Int32))), .val (.int (0 : Int32)), .val (.ref t_2), .val (.ref t_3), .unset] []))
    refine hG _ _ (fun t k => XS.aload X3.here hx rfl (hb hby at_53) rfl rfl k) ?_
    show G (T3.setTop (mkF m 55 #[.val (.int i0), .val (.int i1), .val (.int i2), .val (.int ((i2 &&& (3 : Int32)) % (3 : Int32))), .val (.int ((((i2.toUInt32 >>> ((2 : Int32) &&& 31).toUInt32).toInt32) &&& (3 : Int32)) % (3 : Int32))), .val (.int (0 : Int32)), .val (.ref t_2), .val (.ref t_3), .unset] [(.ref t_2)]))
    refine hG _ _ (fun t k => XS.aload X3.here hx rfl (hb hby at_55) rfl rfl k) ?_
    show G (T3.setTop (mkF m 57 #[.val (.int i0), .val (.int i1), .val (.int i2), .val (.int ((i2 &&& (3 : Int32)) % (3 : Int32))), .val (.int ((((i2.toUInt32 >>> ((2 : Int32) &&& 31).toUInt32).toInt32) &&& (3 : Int32)) % (3 : Int32))), .val (.int (0 : Int32)), .val (.ref t_2), .val (.ref t_3), .unset] [(.ref t_3), (.ref t_2)]))
    refine own_callS X3 hx hZ3 hG hown3 (hw _ (List.mem_of_getElem? (i := 37) rfl)) (hw _ (List.mem_of_getElem? (i := 38) rfl)) (hw _ (List.mem_of_getElem? (i := 39) rfl)) (hw _ (List.mem_of_getElem? (i := 40) rfl)) (by decide) 0 (own_get l Z a0 hw (.ref t_2) (.ref t_3) w1 h3 O3 rfl rfl g2_S) (by decide) (by decide) e3 (by rw [hml]; rfl) (lenOf own_pd16 rfl) (argsL := [(.ref t_2), (.ref t_3)]) (rest := []) rfl rfl (Nat.le_of_eq rfl) (hb hby at_57) (by decide) (by decide) ?_
    intro T4 h4 v4 L4 X4 e4 q4
    obtain ⟨t_4, rfl, M4, J4, y4_0, r4_0, r4_1, r4_2, r4_3, r4_4, r4_5, r4_6, r4_7⟩ := q4
    have N4 := Fr.app N3 M4
    have R4 := (CHr.keep J4 all0 R3.1)
    have C4 := C3.trans R4
    have K4 : Keep h0 h4 [] := K3.trans J4 all0
    have O4 : own_Old Z h4 := O3.keep J4 all0
    show G (T4.setTop (mkF m 60 #[.val (.int i0), .val (.int i1), .val (.int i2), .val (.int ((i2 &&& (3 : Int32)) % (3 : Int32))), .val (.int ((((i2.toUInt32 >>> ((2 : Int32) &&& 31).toUInt32).toInt32) &&& (3 : Int32)) % (3 : Int32))), .val (.int (0 : Int32)), .val (.ref t_2), .val (.ref t_3), .unset] [(.ref t_4)]))
    refine hG _ _ (fun t k => XS.astore X4.here hx rfl (hb hby at_60) rfl rfl (l' := #[.val (.int i0), .val (.int i1), .val (.int i2), .val (.int ((i2 &&& (3 : Int32)) % (3 : Int32))), .val (.int ((((i2.toUInt32 >>> ((2 : Int32) &&& 31).toUInt32).toInt32) &&& (3 : Int32)) % (3 : Int32))), .val (.int (0 : Int32)), .val (.ref t_2), .val (.ref t_3), .val (.ref t_4)]) rfl k) ?_
    show G (T4.setTop (mkF m 62 #[.val (.int i0), .val (.int i1), .val (.int i2), .val (.int ((i2 &&& (3 : Int32)) % (3 : Int32))), .val (.int ((((i2.toUInt32 >>> ((2 : Int32) &&& 31).toUInt32).toInt32) &&& (3 : Int32)) % (3 : Int32))), .val (.int (0 : Int32)), .val (.ref t_2), .val (.ref t_3), .val (.ref t_4)] []))
    refine hG _ _ (fun t k => XS.aload X4.here hx rfl (hb hby at_62) rfl rfl k) ?_
    show G (T4.setTop (mkF m 64 #[.val (.int i0), .val (.int i1), .val (.int i2), .val (.int ((i2 &&& (3 : Int32)) % (3 : Int32))), .val (.int ((((i2.toUInt32 >>> ((2 : Int32) &&& 31).toUInt32).toInt32) &&& (3 : Int32)) % (3 : Int32))), .val (.int (0 : Int32)), .val (.ref t_2), .val (.ref t_3), .val (.ref t_4)] [(.ref t_4)]))
    refine hG _ _ (fun t k => XS.ifnonnullYes X4.here hx rfl (pc0 := 64) (pc' := 69) rfl (hb hby at_64) rfl (by decide) (by decide) k) ?_
    show G (T4.setTop (mkF m 69 #[.val (.int i0), .val (.int i1), .val (.int i2), .val (.int ((i2 &&& (3 : Int32)) % (3 : Int32))), .val (.int ((((i2.toUInt32 >>> ((2 : Int32) &&& 31).toUInt32).toInt32) &&& (3 : Int32)) % (3 : Int32))), .val (.int (0 : Int32)), .val (.ref t_2), .val (.ref t_3), .val (.ref t_4)] []))
    refine hG _ _ (fun t k => XS.aload X4.here hx rfl (hb hby at_69) rfl rfl k) ?_
    show G (T4.setTop (mkF m 71 #[.val (.int i0), .val (.int i1), .val (.int i2), .val (.int ((i2 &&& (3 : Int32)) % (3 : Int32))), .val (.int ((((i2.toUInt32 >>> ((2 : Int32) &&& 31).toUInt32).toInt32) &&& (3 : Int32)) % (3 : Int32))), .val (.int (0 : Int32)), .val (.ref t_2), .val (.ref t_3), .val (.ref t_4)] [(.ref t_4)]))
    refine own_callV (C := "com/example/helmstead/helmstead/StoreRequest") X4 hx hZ3 hG hown3 (hw _ (List.mem_of_getElem? (i := 69) rfl)) (hw _ (List.mem_of_getElem? (i := 70) rfl)) (hw _ (List.mem_of_getElem? (i := 72) rfl)) (hw _ (List.mem_of_getElem? (i := 71) rfl)) (hw _ (List.mem_of_getElem? (i := 39) rfl)) (hw _ (List.mem_of_getElem? (i := 73) rfl)) (by decide) 0 (own_get_kind l Z a0 hw t_4 (.ref w1) h4 O4 rfl r4_1) (by decide) (by decide) e4 r4_0 (by rw [hml]; rfl) (lenOf own_pd12 rfl) (argsL := []) (rest := []) rfl rfl (Nat.le_of_eq rfl) (hb hby at_71) (by decide) (by decide) ?_
    intro T5 h5 v5 L5 X5 e5 q5
    obtain ⟨rfl, M5, rfl⟩ := q5
    have N5 := Fr.app N4 M5
    show G (T5.setTop (mkF m 74 #[.val (.int i0), .val (.int i1), .val (.int i2), .val (.int ((i2 &&& (3 : Int32)) % (3 : Int32))), .val (.int ((((i2.toUInt32 >>> ((2 : Int32) &&& 31).toUInt32).toInt32) &&& (3 : Int32)) % (3 : Int32))), .val (.int (0 : Int32)), .val (.ref t_2), .val (.ref t_3), .val (.ref t_4)] [(.ref w1)]))
    obtain ⟨T6, X6, e6, st6⟩ := getS2 X5 hx hZ3 hown3 (host := "") (Or.inl (hw _ (List.mem_of_getElem? (i := 74) rfl))) Via.refl e5 (own_sta g2_S O4) (g := (mkF m 74 #[.val (.int i0), .val (.int i1), .val (.int i2), .val (.int ((i2 &&& (3 : Int32)) % (3 : Int32))), .val (.int ((((i2.toUInt32 >>> ((2 : Int32) &&& 31).toUInt32).toInt32) &&& (3 : Int32)) % (3 : Int32))), .val (.int (0 : Int32)), .val (.ref t_2), .val (.ref t_3), .val (.ref t_4)] [(.ref w1)])) rfl (hb hby at_74)
    refine hG _ _ st6 ?_
    show G (T6.setTop (mkF m 77 #[.val (.int i0), .val (.int i1), .val (.int i2), .val (.int ((i2 &&& (3 : Int32)) % (3 : Int32))), .val (.int ((((i2.toUInt32 >>> ((2 : Int32) &&& 31).toUInt32).toInt32) &&& (3 : Int32)) % (3 : Int32))), .val (.int (0 : Int32)), .val (.ref t_2), .val (.ref t_3), .val (.ref t_4)] [(.ref w1), (.ref w1)]))
    refine hG _ _ (fun t k => Jvm.RoadKit.acmp (g := (mkF m 77 #[.val (.int i0), .val (.int i1), .val (.int i2), .val (.int ((i2 &&& (3 : Int32)) % (3 : Int32))), .val (.int ((((i2.toUInt32 >>> ((2 : Int32) &&& 31).toUInt32).toInt32) &&& (3 : Int32)) % (3 : Int32))), .val (.int (0 : Int32)), .val (.ref t_2), .val (.ref t_3), .val (.ref t_4)] [(.ref w1), (.ref w1)])) X6 hx rfl rfl rfl (pc0 := 77) (pc' := 80) (same := true) rfl (hb hby at_77) rfl (decide_eq_true rfl) (by decide) (by decide) k) ?_
    show G (T6.setTop (mkF m 80 #[.val (.int i0), .val (.int i1), .val (.int i2), .val (.int ((i2 &&& (3 : Int32)) % (3 : Int32))), .val (.int ((((i2.toUInt32 >>> ((2 : Int32) &&& 31).toUInt32).toInt32) &&& (3 : Int32)) % (3 : Int32))), .val (.int (0 : Int32)), .val (.ref t_2), .val (.ref t_3), .val (.ref t_4)] []))
    refine hG _ _ (fun t k => XS.aload X6.here hx rfl (hb hby at_80) rfl rfl k) ?_
    show G (T6.setTop (mkF m 82 #[.val (.int i0), .val (.int i1), .val (.int i2), .val (.int ((i2 &&& (3 : Int32)) % (3 : Int32))), .val (.int ((((i2.toUInt32 >>> ((2 : Int32) &&& 31).toUInt32).toInt32) &&& (3 : Int32)) % (3 : Int32))), .val (.int (0 : Int32)), .val (.ref t_2), .val (.ref t_3), .val (.ref t_4)] [(.ref t_4)]))
    refine own_callV (C := "com/example/helmstead/helmstead/StoreRequest") X6 hx hZ3 hG hown3 (hw _ (List.mem_of_getElem? (i := 75) rfl)) (hw _ (List.mem_of_getElem? (i := 76) rfl)) (hw _ (List.mem_of_getElem? (i := 78) rfl)) (hw _ (List.mem_of_getElem? (i := 77) rfl)) (hw _ (List.mem_of_getElem? (i := 39) rfl)) (hw _ (List.mem_of_getElem? (i := 79) rfl)) (by decide) 0 (own_get_id l Z a0 hw t_4 .null h4 O4 rfl r4_2) (by decide) (by decide) e6 r4_0 (by rw [hml]; rfl) (lenOf own_pd13 rfl) (argsL := []) (rest := []) rfl rfl (Nat.le_of_eq rfl) (hb hby at_82) (by decide) (by decide) ?_
    intro T7 h7 v7 L7 X7 e7 q7
    obtain ⟨rfl, M7, rfl⟩ := q7
    have N7 := Fr.app N5 M7
    show G (T7.setTop (mkF m 85 #[.val (.int i0), .val (.int i1), .val (.int i2), .val (.int ((i2 &&& (3 : Int32)) % (3 : Int32))), .val (.int ((((i2.toUInt32 >>> ((2 : Int32) &&& 31).toUInt32).toInt32) &&& (3 : Int32)) % (3 : Int32))), .val (.int (0 : Int32)), .val (.ref t_2), .val (.ref t_3), .val (.ref t_4)] [.null]))
    refine hG _ _ (fun t k => XS.ifnonnullNo X7.here hx rfl (hb hby at_85) rfl k) ?_
    show G (T7.setTop (mkF m 88 #[.val (.int i0), .val (.int i1), .val (.int i2), .val (.int ((i2 &&& (3 : Int32)) % (3 : Int32))), .val (.int ((((i2.toUInt32 >>> ((2 : Int32) &&& 31).toUInt32).toInt32) &&& (3 : Int32)) % (3 : Int32))), .val (.int (0 : Int32)), .val (.ref t_2), .val (.ref t_3), .val (.ref t_4)] []))
    refine hG _ _ (fun t k => XS.aload X7.here hx rfl (hb hby at_88) rfl rfl k) ?_
    show G (T7.setTop (mkF m 90 #[.val (.int i0), .val (.int i1), .val (.int i2), .val (.int ((i2 &&& (3 : Int32)) % (3 : Int32))), .val (.int ((((i2.toUInt32 >>> ((2 : Int32) &&& 31).toUInt32).toInt32) &&& (3 : Int32)) % (3 : Int32))), .val (.int (0 : Int32)), .val (.ref t_2), .val (.ref t_3), .val (.ref t_4)] [(.ref t_4)]))
    refine own_callV (C := "com/example/helmstead/helmstead/StoreRequest") X7 hx hZ3 hG hown3 (hw _ (List.mem_of_getElem? (i := 80) rfl)) (hw _ (List.mem_of_getElem? (i := 81) rfl)) (hw _ (List.mem_of_getElem? (i := 83) rfl)) (hw _ (List.mem_of_getElem? (i := 82) rfl)) (hw _ (List.mem_of_getElem? (i := 39) rfl)) (hw _ (List.mem_of_getElem? (i := 84) rfl)) (by decide) 0 (own_get_leaseMs l Z a0 hw t_4 (0 : Int64) h4 O4 r4_3) (by decide) (by decide) e7 r4_0 (by rw [hml]; rfl) (lenOf own_pd14 rfl) (argsL := []) (rest := []) rfl rfl (Nat.le_of_eq rfl) (hb hby at_90) (by decide) (by decide) ?_
    intro T8 h8 v8 L8 X8 e8 q8
    obtain ⟨rfl, M8, rfl⟩ := q8
    have N8 := Fr.app N7 M8
    show G (T8.setTop (mkF m 93 #[.val (.int i0), .val (.int i1), .val (.int i2), .val (.int ((i2 &&& (3 : Int32)) % (3 : Int32))), .val (.int ((((i2.toUInt32 >>> ((2 : Int32) &&& 31).toUInt32).toInt32) &&& (3 : Int32)) % (3 : Int32))), .val (.int (0 : Int32)), .val (.ref t_2), .val (.ref t_3), .val (.ref t_4)] [(.long (0 : Int64))]))
    refine hG _ _ (fun t k => XS.lconst X8.here hx rfl (hb hby at_93) k) ?_
    show G (T8.setTop (mkF m 94 #[.val (.int i0), .val (.int i1), .val (.int i2), .val (.int ((i2 &&& (3 : Int32)) % (3 : Int32))), .val (.int ((((i2.toUInt32 >>> ((2 : Int32) &&& 31).toUInt32).toInt32) &&& (3 : Int32)) % (3 : Int32))), .val (.int (0 : Int32)), .val (.ref t_2), .val (.ref t_3), .val (.ref t_4)] [(.long (0 : Int64)), (.long (0 : Int64))]))
    refine hG _ _ (fun t k => XS.lcmp X8.here hx rfl (hb hby at_94) rfl k) ?_
    show G (T8.setTop (mkF m 95 #[.val (.int i0), .val (.int i1), .val (.int i2), .val (.int ((i2 &&& (3 : Int32)) % (3 : Int32))), .val (.int ((((i2.toUInt32 >>> ((2 : Int32) &&& 31).toUInt32).toInt32) &&& (3 : Int32)) % (3 : Int32))), .val (.int (0 : Int32)), .val (.ref t_2), .val (.ref t_3), .val (.ref t_4)] [(.int (lcmpW (0 : Int64) (0 : Int64)))]))
    refine hG _ _ (fun t k => XS.ifNo X8.here hx rfl (hb hby at_95) rfl ((if0 _ _).trans (teq ((lw_eq _ _).mpr rfl)).2) k) ?_
    show G (T8.setTop (mkF m 98 #[.val (.int i0), .val (.int i1), .val (.int i2), .val (.int ((i2 &&& (3 : Int32)) % (3 : Int32))), .val (.int ((((i2.toUInt32 >>> ((2 : Int32) &&& 31).toUInt32).toInt32) &&& (3 : Int32)) % (3 : Int32))), .val (.int (0 : Int32)), .val (.ref t_2), .val (.ref t_3), .val (.ref t_4)] []))
    refine hG _ _ (fun t k => XS.aload X8.here hx rfl (hb hby at_98) rfl rfl k) ?_
    show G (T8.setTop (mkF m 100 #[.val (.int i0), .val (.int i1), .val (.int i2), .val (.int ((i2 &&& (3 : Int32)) % (3 : Int32))), .val (.int ((((i2.toUInt32 >>> ((2 : Int32) &&& 31).toUInt32).toInt32) &&& (3 : Int32)) % (3 : Int32))), .val (.int (0 : Int32)), .val (.ref t_2), .val (.ref t_3), .val (.ref t_4)] [(.ref t_4)]))
    refine own_callV (C := "com/example/helmstead/helmstead/StoreRequest") X8 hx hZ3 hG hown3 (hw _ (List.mem_of_getElem? (i := 85) rfl)) (hw _ (List.mem_of_getElem? (i := 86) rfl)) (hw _ (List.mem_of_getElem? (i := 88) rfl)) (hw _ (List.mem_of_getElem? (i := 87) rfl)) (hw _ (List.mem_of_getElem? (i := 39) rfl)) (hw _ (List.mem_of_getElem? (i := 89) rfl)) (by decide) 0 (own_get_table l Z a0 hw t_4 (.ref t_2) h4 O4 rfl r4_4) (by decide) (by decide) e8 r4_0 (by rw [hml]; rfl) (lenOf own_pd13 rfl) (argsL := []) (rest := []) rfl rfl (Nat.le_of_eq rfl) (hb hby at_100) (by decide) (by decide) ?_
    intro T9 h9 v9 L9 X9 e9 q9
    obtain ⟨rfl, M9, rfl⟩ := q9
    have N9 := Fr.app N8 M9
    show G (T9.setTop (mkF m 103 #[.val (.int i0), .val (.int i1), .val (.int i2), .val (.int ((i2 &&& (3 : Int32)) % (3 : Int32))), .val (.int ((((i2.toUInt32 >>> ((2 : Int32) &&& 31).toUInt32).toInt32) &&& (3 : Int32)) % (3 : Int32))), .val (.int (0 : Int32)), .val (.ref t_2), .val (.ref t_3), .val (.ref t_4)] [(.ref t_2)]))
    refine hG _ _ (fun t k => XS.aload X9.here hx rfl (hb hby at_103) rfl rfl k) ?_
    show G (T9.setTop (mkF m 105 #[.val (.int i0), .val (.int i1), .val (.int i2), .val (.int ((i2 &&& (3 : Int32)) % (3 : Int32))), .val (.int ((((i2.toUInt32 >>> ((2 : Int32) &&& 31).toUInt32).toInt32) &&& (3 : Int32)) % (3 : Int32))), .val (.int (0 : Int32)), .val (.ref t_2), .val (.ref t_3), .val (.ref t_4)] [(.ref t_2), (.ref t_2)]))
    have f11 := ((r2_0.keep J3).keep J4)
    refine own_callS X9 hx hZ3 hG hown3 (hw _ (List.mem_of_getElem? (i := 90) rfl)) (hw _ (List.mem_of_getElem? (i := 91) rfl)) (hw _ (List.mem_of_getElem? (i := 2) rfl)) (hw _ (List.mem_of_getElem? (i := 92) rfl)) (by decide) 0 (own_sameR l Z a0 hw t_2 h4 O4 f11) (by decide) (by decide) e9 (by rw [hml]; rfl) (lenOf own_pd17 rfl) (argsL := [(.ref t_2), (.ref t_2)]) (rest := []) rfl rfl (Nat.le_of_eq rfl) (hb hby at_105) (by decide) (by decide) ?_
    intro T10 h10 v10 L10 X10 e10 q10
    obtain ⟨rfl, M10, rfl⟩ := q10
    have N10 := Fr.app N9 M10
    show G (T10.setTop (mkF m 108 #[.val (.int i0), .val (.int i1), .val (.int i2), .val (.int ((i2 &&& (3 : Int32)) % (3 : Int32))), .val (.int ((((i2.toUInt32 >>> ((2 : Int32) &&& 31).toUInt32).toInt32) &&& (3 : Int32)) % (3 : Int32))), .val (.int (0 : Int32)), .val (.ref t_2), .val (.ref t_3), .val (.ref t_4)] [(.int (1 : Int32))]))
    refine hG _ _ (fun t k => XS.ifNo X10.here hx rfl (hb hby at_108) rfl ((if0 _ _).trans (feq (by decide)).1) k) ?_
    show G (T10.setTop (mkF m 111 #[.val (.int i0), .val (.int i1), .val (.int i2), .val (.int ((i2 &&& (3 : Int32)) % (3 : Int32))), .val (.int ((((i2.toUInt32 >>> ((2 : Int32) &&& 31).toUInt32).toInt32) &&& (3 : Int32)) % (3 : Int32))), .val (.int (0 : Int32)), .val (.ref t_2), .val (.ref t_3), .val (.ref t_4)] []))
    refine hG _ _ (fun t k => XS.aload X10.here hx rfl (hb hby at_111) rfl rfl k) ?_
    show G (T10.setTop (mkF m 113 #[.val (.int i0), .val (.int i1), .val (.int i2), .val (.int ((i2 &&& (3 : Int32)) % (3 : Int32))), .val (.int ((((i2.toUInt32 >>> ((2 : Int32) &&& 31).toUInt32).toInt32) &&& (3 : Int32)) % (3 : Int32))), .val (.int (0 : Int32)), .val (.ref t_2), .val (.ref t_3), .val (.ref t_4)] [(.ref t_4)]))
    refine own_callV (C := "com/example/helmstead/helmstead/StoreRequest") X10 hx hZ3 hG hown3 (hw _ (List.mem_of_getElem? (i := 98) rfl)) (hw _ (List.mem_of_getElem? (i := 99) rfl)) (hw _ (List.mem_of_getElem? (i := 101) rfl)) (hw _ (List.mem_of_getElem? (i := 100) rfl)) (hw _ (List.mem_of_getElem? (i := 39) rfl)) (hw _ (List.mem_of_getElem? (i := 102) rfl)) (by decide) 0 (own_get_key l Z a0 hw t_4 (.ref t_3) h4 O4 rfl r4_5) (by decide) (by decide) e10 r4_0 (by rw [hml]; rfl) (lenOf own_pd13 rfl) (argsL := []) (rest := []) rfl rfl (Nat.le_of_eq rfl) (hb hby at_113) (by decide) (by decide) ?_
    intro T12 h12 v12 L12 X12 e12 q12
    obtain ⟨rfl, M12, rfl⟩ := q12
    have N12 := Fr.app N10 M12
    show G (T12.setTop (mkF m 116 #[.val (.int i0), .val (.int i1), .val (.int i2), .val (.int ((i2 &&& (3 : Int32)) % (3 : Int32))), .val (.int ((((i2.toUInt32 >>> ((2 : Int32) &&& 31).toUInt32).toInt32) &&& (3 : Int32)) % (3 : Int32))), .val (.int (0 : Int32)), .val (.ref t_2), .val (.ref t_3), .val (.ref t_4)] [(.ref t_3)]))
    refine hG _ _ (fun t k => XS.aload X12.here hx rfl (hb hby at_116) rfl rfl k) ?_
    show G (T12.setTop (mkF m 118 #[.val (.int i0), .val (.int i1), .val (.int i2), .val (.int ((i2 &&& (3 : Int32)) % (3 : Int32))), .val (.int ((((i2.toUInt32 >>> ((2 : Int32) &&& 31).toUInt32).toInt32) &&& (3 : Int32)) % (3 : Int32))), .val (.int (0 : Int32)), .val (.ref t_2), .val (.ref t_3), .val (.ref t_4)] [(.ref t_3), (.ref t_3)]))
    have f14 := (r3_0.keep J4)
    refine own_callS X12 hx hZ3 hG hown3 (hw _ (List.mem_of_getElem? (i := 90) rfl)) (hw _ (List.mem_of_getElem? (i := 91) rfl)) (hw _ (List.mem_of_getElem? (i := 2) rfl)) (hw _ (List.mem_of_getElem? (i := 92) rfl)) (by decide) 0 (own_sameR l Z a0 hw t_3 h4 O4 f14) (by decide) (by decide) e12 (by rw [hml]; rfl) (lenOf own_pd17 rfl) (argsL := [(.ref t_3), (.ref t_3)]) (rest := []) rfl rfl (Nat.le_of_eq rfl) (hb hby at_118) (by decide) (by decide) ?_
    intro T13 h13 v13 L13 X13 e13 q13
    obtain ⟨rfl, M13, rfl⟩ := q13
    have N13 := Fr.app N12 M13
    show G (T13.setTop (mkF m 121 #[.val (.int i0), .val (.int i1), .val (.int i2), .val (.int ((i2 &&& (3 : Int32)) % (3 : Int32))), .val (.int ((((i2.toUInt32 >>> ((2 : Int32) &&& 31).toUInt32).toInt32) &&& (3 : Int32)) % (3 : Int32))), .val (.int (0 : Int32)), .val (.ref t_2), .val (.ref t_3), .val (.ref t_4)] [(.int (1 : Int32))]))
    refine hG _ _ (fun t k => XS.ifNo X13.here hx rfl (hb hby at_121) rfl ((if0 _ _).trans (feq (by decide)).1) k) ?_
    show G (T13.setTop (mkF m 124 #[.val (.int i0), .val (.int i1), .val (.int i2), .val (.int ((i2 &&& (3 : Int32)) % (3 : Int32))), .val (.int ((((i2.toUInt32 >>> ((2 : Int32) &&& 31).toUInt32).toInt32) &&& (3 : Int32)) % (3 : Int32))), .val (.int (0 : Int32)), .val (.ref t_2), .val (.ref t_3), .val (.ref t_4)] []))
    refine hG _ _ (fun t k => XS.aload X13.here hx rfl (hb hby at_124) rfl rfl k) ?_
    show G (T13.setTop (mkF m 126 #[.val (.int i0), .val (.int i1), .val (.int i2), .val (.int ((i2 &&& (3 : Int32)) % (3 : Int32))), .val (.int ((((i2.toUInt32 >>> ((2 : Int32) &&& 31).toUInt32).toInt32) &&& (3 : Int32)) % (3 : Int32))), .val (.int (0 : Int32)), .val (.ref t_2), .val (.ref t_3), .val (.ref t_4)] [(.ref t_4)]))
    refine own_callV (C := "com/example/helmstead/helmstead/StoreRequest") X13 hx hZ3 hG hown3 (hw _ (List.mem_of_getElem? (i := 103) rfl)) (hw _ (List.mem_of_getElem? (i := 104) rfl)) (hw _ (List.mem_of_getElem? (i := 106) rfl)) (hw _ (List.mem_of_getElem? (i := 105) rfl)) (hw _ (List.mem_of_getElem? (i := 39) rfl)) (hw _ (List.mem_of_getElem? (i := 107) rfl)) (by decide) 0 (own_get_value l Z a0 hw t_4 .null h4 O4 rfl r4_6) (by decide) (by decide) e13 r4_0 (by rw [hml]; rfl) (lenOf own_pd13 rfl) (argsL := []) (rest := []) rfl rfl (Nat.le_of_eq rfl) (hb hby at_126) (by decide) (by decide) ?_
    intro T15 h15 v15 L15 X15 e15 q15
    obtain ⟨rfl, M15, rfl⟩ := q15
    have N15 := Fr.app N13 M15
    show G (T15.setTop (mkF m 129 #[.val (.int i0), .val (.int i1), .val (.int i2), .val (.int ((i2 &&& (3 : Int32)) % (3 : Int32))), .val (.int ((((i2.toUInt32 >>> ((2 : Int32) &&& 31).toUInt32).toInt32) &&& (3 : Int32)) % (3 : Int32))), .val (.int (0 : Int32)), .val (.ref t_2), .val (.ref t_3), .val (.ref t_4)] [.null]))
    refine hG _ _ (fun t k => XS.ifnonnullNo X15.here hx rfl (hb hby at_129) rfl k) ?_
    show G (T15.setTop (mkF m 132 #[.val (.int i0), .val (.int i1), .val (.int i2), .val (.int ((i2 &&& (3 : Int32)) % (3 : Int32))), .val (.int ((((i2.toUInt32 >>> ((2 : Int32) &&& 31).toUInt32).toInt32) &&& (3 : Int32)) % (3 : Int32))), .val (.int (0 : Int32)), .val (.ref t_2), .val (.ref t_3), .val (.ref t_4)] []))
    refine hG _ _ (fun t k => XS.aload X15.here hx rfl (hb hby at_132) rfl rfl k) ?_
    show G (T15.setTop (mkF m 134 #[.val (.int i0), .val (.int i1), .val (.int i2), .val (.int ((i2 &&& (3 : Int32)) % (3 : Int32))), .val (.int ((((i2.toUInt32 >>> ((2 : Int32) &&& 31).toUInt32).toInt32) &&& (3 : Int32)) % (3 : Int32))), .val (.int (0 : Int32)), .val (.ref t_2), .val (.ref t_3), .val (.ref t_4)] [(.ref t_4)]))
    refine own_callV (C := "com/example/helmstead/helmstead/StoreRequest") X15 hx hZ3 hG hown3 (hw _ (List.mem_of_getElem? (i := 108) rfl)) (hw _ (List.mem_of_getElem? (i := 109) rfl)) (hw _ (List.mem_of_getElem? (i := 111) rfl)) (hw _ (List.mem_of_getElem? (i := 110) rfl)) (hw _ (List.mem_of_getElem? (i := 39) rfl)) (hw _ (List.mem_of_getElem? (i := 112) rfl)) (by decide) 0 (own_get_parts l Z a0 hw t_4 .null h4 O4 rfl r4_7) (by decide) (by decide) e15 r4_0 (by rw [hml]; rfl) (lenOf own_pd15 rfl) (argsL := []) (rest := []) rfl rfl (Nat.le_of_eq rfl) (hb hby at_134) (by decide) (by decide) ?_
    intro T16 h16 v16 L16 X16 e16 q16
    obtain ⟨rfl, M16, rfl⟩ := q16
    have N16 := Fr.app N15 M16
    show G (T16.setTop (mkF m 137 #[.val (.int i0), .val (.int i1), .val (.int i2), .val (.int ((i2 &&& (3 : Int32)) % (3 : Int32))), .val (.int ((((i2.toUInt32 >>> ((2 : Int32) &&& 31).toUInt32).toInt32) &&& (3 : Int32)) % (3 : Int32))), .val (.int (0 : Int32)), .val (.ref t_2), .val (.ref t_3), .val (.ref t_4)] [.null]))
    refine hG _ _ (fun t k => XS.ifnonnullNo X16.here hx rfl (hb hby at_137) rfl k) ?_
    show G (T16.setTop (mkF m 140 #[.val (.int i0), .val (.int i1), .val (.int i2), .val (.int ((i2 &&& (3 : Int32)) % (3 : Int32))), .val (.int ((((i2.toUInt32 >>> ((2 : Int32) &&& 31).toUInt32).toInt32) &&& (3 : Int32)) % (3 : Int32))), .val (.int (0 : Int32)), .val (.ref t_2), .val (.ref t_3), .val (.ref t_4)] []))
    refine hG _ _ (fun t k => XS.iconst X16.here hx rfl (hb hby at_140) k) ?_
    show G (T16.setTop (mkF m 141 #[.val (.int i0), .val (.int i1), .val (.int i2), .val (.int ((i2 &&& (3 : Int32)) % (3 : Int32))), .val (.int ((((i2.toUInt32 >>> ((2 : Int32) &&& 31).toUInt32).toInt32) &&& (3 : Int32)) % (3 : Int32))), .val (.int (0 : Int32)), .val (.ref t_2), .val (.ref t_3), .val (.ref t_4)] [(.int (1 : Int32))]))
    refine hG _ _ (fun t k => XS.goto X16.here hx rfl (pc0 := 141) (pc' := 145) rfl (hb hby at_141) (by decide) (by decide) k) ?_
    show G (T16.setTop (mkF m 145 #[.val (.int i0), .val (.int i1), .val (.int i2), .val (.int ((i2 &&& (3 : Int32)) % (3 : Int32))), .val (.int ((((i2.toUInt32 >>> ((2 : Int32) &&& 31).toUInt32).toInt32) &&& (3 : Int32)) % (3 : Int32))), .val (.int (0 : Int32)), .val (.ref t_2), .val (.ref t_3), .val (.ref t_4)] [(.int (1 : Int32))]))
    exact own_retNW hR hret (by simp) X16 hx (hb hby at_145) e16 SI3 (Nat.le_trans (Nat.le_refl _) R4.2.1) hZ3 C4 (by decide) (by decide) ⟨rfl, N16, K4⟩
  · skip
    refine hG _ _ (fun t k => XS.ifNo X0.here hx rfl (hb hby at_19) rfl ((if0 _ _).trans (feq hc19_1).1) k) ?_
    show G (s₁.setTop (mkF m 22 #[.val (.int i0), .val (.int i1), .val (.int i2), .val (.int ((i2 &&& (3 : Int32)) % (3 : Int32))), .val (.int ((((i2.toUInt32 >>> ((2 : Int32) &&& 31).toUInt32).toInt32) &&& (3 : Int32)) % (3 : Int32))), .unset, .unset, .unset, .unset] []))
    refine hG _ _ (fun t k => XS.iconst X0.here hx rfl (hb hby at_22) k) ?_
    show G (s₁.setTop (mkF m 23 #[.val (.int i0), .val (.int i1), .val (.int i2), .val (.int ((i2 &&& (3 : Int32)) % (3 : Int32))), .val (.int ((((i2.toUInt32 >>> ((2 : Int32) &&& 31).toUInt32).toInt32) &&& (3 : Int32)) % (3 : Int32))), .unset, .unset, .unset, .unset] [(.int (1 : Int32))]))
    refine hG _ _ (fun t k => XS.goto X0.here hx rfl (pc0 := 23) (pc' := 27) rfl (hb hby at_23) (by decide) (by decide) k) ?_
    show G (s₁.setTop (mkF m 27 #[.val (.int i0), .val (.int i1), .val (.int i2), .val (.int ((i2 &&& (3 : Int32)) % (3 : Int32))), .val (.int ((((i2.toUInt32 >>> ((2 : Int32) &&& 31).toUInt32).toInt32) &&& (3 : Int32)) % (3 : Int32))), .unset, .unset, .unset, .unset] [(.int (1 : Int32))]))
    refine hG _ _ (fun t k => XS.istore X0.here hx rfl (hb hby at_27) rfl (l' := #[.val (.int i0), .val (.int i1), .val (.int i2), .val (.int ((i2 &&& (3 : Int32)) % (3 : Int32))), .val (.int ((((i2.toUInt32 >>> ((2 : Int32) &&& 31).toUInt32).toInt32) &&& (3 : Int32)) % (3 : Int32))), .val (.int (1 : Int32)), .unset, .unset, .unset]) rfl k) ?_
    show G (s₁.setTop (mkF m 29 #[.val (.int i0), .val (.int i1), .val (.int i2), .val (.int ((i2 &&& (3 : Int32)) % (3 : Int32))), .val (.int ((((i2.toUInt32 >>> ((2 : Int32) &&& 31).toUInt32).toInt32) &&& (3 : Int32)) % (3 : Int32))), .val (.int (1 : Int32)), .unset, .unset, .unset] []))
    refine hG _ _ (fun t k => XS.iloadN X0.here hx rfl (hb hby at_29) rfl k) ?_
    show G (s₁.setTop (mkF m 30 #[.val (.int i0), .val (.int i1), .val (.int i2), .val (.int ((i2 &&& (3 : Int32)) % (3 : Int32))), .val (.int ((((i2.toUInt32 >>> ((2 : Int32) &&& 31).toUInt32).toInt32) &&& (3 : Int32)) % (3 : Int32))), .val (.int (1 : Int32)), .unset, .unset, .unset] [(.int i0)]))
    refine hG _ _ (fun t k => XS.iloadN X0.here hx rfl (hb hby at_30) rfl k) ?_
    show G (s₁.setTop (mkF m 31 #[.val (.int i0), .val (.int i1), .val (.int i2), .val (.int ((i2 &&& (3 : Int32)) % (3 : Int32))), .val (.int ((((i2.toUInt32 >>> ((2 : Int32) &&& 31).toUInt32).toInt32) &&& (3 : Int32)) % (3 : Int32))), .val (.int (1 : Int32)), .unset, .unset, .unset] [(.int ((i2 &&& (3 : Int32)) % (3 : Int32))), (.int i0)]))
    refine own_callSW X0 hx hZ hG hown (hw _ (List.mem_of_getElem? (i := 0) rfl)) (hw _ (List.mem_of_getElem? (i := 1) rfl)) (hw _ (List.mem_of_getElem? (i := 2) rfl)) (hw _ (List.mem_of_getElem? (i := 3) rfl)) (by decide) 0 (own_text l Z a0 hw hEL i0 ((i2 &&& (3 : Int32)) % (3 : Int32)) cpt h0 O0 g0_S g1_hcpt) (by decide) (by decide) e0 SI0 (Nat.le_refl _) hEL H0 (by rw [hml]; rfl) (lenOf own_pd18 rfl) (argsL := [(.int i0), (.int ((i2 &&& (3 : Int32)) % (3 : Int32)))]) (rest := []) rfl rfl (Nat.le_of_eq rfl) (hb hby at_31) (by decide) (by decide) ?_
    intro T17 h17 v17 L17 X17 e17 SI17 hZ17 hown17 Y17 q17
    obtain ⟨t_17, rfl, M17, J17, y17_0, r17_0⟩ := q17
    have N17 := Fr.app N0 M17
    have R17 := Y17
    have C17 := (CHr.refl H0).trans R17
    have K17 : Keep h0 h17 [] := (Keep.refl h0 []).trans J17 all0
    have O17 : own_Old Z h17 := O0.keep J17 all0
    show G (T17.setTop (mkF m 34 #[.val (.int i0), .val (.int i1), .val (.int i2), .val (.int ((i2 &&& (3 : Int32)) % (3 : Int32))), .val (.int ((((i2.toUInt32 >>> ((2 : Int32) &&& 31).toUInt32).toInt32) &&& (3 : Int32)) % (3 : Int32))), .val (.int (1 : Int32)), .unset, .unset, .unset] [(.ref t_17)]))
    refine hG _ _ (fun t k => XS.astore X17.here hx rfl (hb hby at_34) rfl rfl (l' := #[.val (.int i0), .val (.int i1), .val (.int i2), .val (.int ((i2 &&& (3 : Int32)) % (3 : Int32))), .val (.int ((((i2.toUInt32 >>> ((2 : Int32) &&& 31).toUInt32).toInt32) &&& (3 : Int32)) % (3 : Int32))), .val (.int (1 : Int32)), .val (.ref t_17), .unset, .unset]) rfl k) ?_
    show G (T17.setTop (mkF m 36 #[.val (.int i0), .val (.int i1), .val (.int i2), .val (.int ((i2 &&& (3 : Int32)) % (3 : Int32))), .val (.int ((((i2.toUInt32 >>> ((2 : Int32) &&& 31).toUInt32).toInt32) &&& (3 : Int32)) % (3 : Int32))), .val (.int (1 : Int32)), .val (.ref t_17), .unset, .unset] []))
    refine hG _ _ (fun t k => XS.iload X17.here hx rfl (hb hby at_36) rfl k) ?_
    show G (T17.setTop (mkF m 38 #[.val (.int i0), .val (.int i1), .val (.int i2), .val (.int ((i2 &&& (3 : Int32)) % (3 : Int32))), .val (.int ((((i2.toUInt32 >>> ((2 : Int32) &&& 31).toUInt32).toInt32) &&& (3 : Int32)) % (3 : Int32))), .val (.int (1 : Int32)), .val (.ref t_17), .unset, .unset] [(.int (1 : Int32))]))
    refine hG _ _ (fun t k => XS.ifNo X17.here hx rfl (hb hby at_38) rfl ((if0 _ _).trans (feq (by decide)).1) k) ?_
    show G (T17.setTop (mkF m 41 #[.val (.int i0), .val (.int i1), .val (.int i2), .val (.int ((i2 &&& (3 : Int32)) % (3 : Int32))), .val (.int ((((i2.toUInt32 >>> ((2 : Int32) &&& 31).toUInt32).toInt32) &&& (3 : Int32)) % (3 : Int32))), .val (.int (1 : Int32)), .val (.ref t_17), .unset, .unset] []))
    refine hG _ _ (fun t k => XS.aconstNull X17.here hx rfl (hb hby at_41) k) ?_
    show G (T17.setTop (mkF m 42 #[.val (.int i0), .val (.int i1), .val (.int i2), .val (.int ((i2 &&& (3 : Int32)) % (3 : Int32))), .val (.int ((((i2.toUInt32 >>> ((2 : Int32) &&& 31).toUInt32).toInt32) &&& (3 : Int32)) % (3 : Int32))), .val (.int (1 : Int32)), .val (.ref t_17), .unset, .unset] [.null]))
    refine hG _ _ (fun t k => XS.goto X17.here hx rfl (pc0 := 42) (pc' := 51) rfl (hb hby at_42) (by decide) (by decide) k) ?_
    show G (T17.setTop (mkF m 51 #[.val (.int i0), .val (.int i1), .val (.int i2), .val (.int ((i2 &&& (3 : Int32)) % (3 : Int32))), .val (.int ((((i2.toUInt32 >>> ((2 : Int32) &&& 31).toUInt32).toInt32) &&& (3 : Int32)) % (3 : Int32))), .val (.int (1 : Int32)), .val (.ref t_17), .unset, .unset] [.null]))
    refine hG _ _ (fun t k => XS.astore X17.here hx rfl (hb hby at_51) rfl rfl (l' := #[.val (.int i0), .val (.int i1), .val (.int i2), .val (.int ((i2 &&& (3 : Int32)) % (3 : Int32))), .val (.int ((((i2.toUInt32 >>> ((2 : Int32) &&& 31).toUInt32).toInt32) &&& (3 : Int32)) % (3 : Int32))), .val (.int (1 : Int32)), .val (.ref t_17), .val .null, .unset]) rfl k) ?_
    show G (T17.setTop (mkF m 53 #[.val (.int i0), .val (.int i1), .val (.int i2), .val (.int ((i2 &&& (3 : Int32)) % (3 : Int32))), .val (.int ((((i2.toUInt32 >>> ((2 : Int32) &&& 31).toUInt32).toInt32) &&& (3 : Int32)) % (3 : Int32))), .val (.int (1 : Int32)), .val (.ref t_17), .val .null, .unset] []))
    refine hG _ _ (fun t k => XS.aload X17.here hx rfl (hb hby at_53) rfl rfl k) ?_
    show G (T17.setTop (mkF m 55 #[.val (.int i0), .val (.int i1), .val (.int i2), .val (.int ((i2 &&& (3 : Int32)) % (3 : Int32))), .val (.int ((((i2.toUInt32 >>> ((2 : Int32) &&& 31).toUInt32).toInt32) &&& (3 : Int32)) % (3 : Int32))), .val (.int (1 : Int32)), .val (.ref t_17), .val .null, .unset] [(.ref t_17)]))
    refine hG _ _ (fun t k => XS.aload X17.here hx rfl (hb hby at_55) rfl rfl k) ?_
    show G (T17.setTop (mkF m 57 #[.val (.int i0), .val (.int i1), .val (.int i2), .val (.int ((i2 &&& (3 : Int32)) % (3 : Int32))), .val (.int ((((i2.toUInt32 >>> ((2 : Int32) &&& 31).toUInt32).toInt32) &&& (3 : Int32)) % (3 : Int32))), .val (.int (1 : Int32)), .val (.ref t_17), .val .null, .unset] [.null, (.ref t_17)]))
    refine own_callS X17 hx hZ17 hG hown17 (hw _ (List.mem_of_getElem? (i := 37) rfl)) (hw _ (List.mem_of_getElem? (i := 38) rfl)) (hw _ (List.mem_of_getElem? (i := 39) rfl)) (hw _ (List.mem_of_getElem? (i := 40) rfl)) (by decide) 0 (own_get l Z a0 hw (.ref t_17) .null w1 h17 O17 rfl rfl g2_S) (by decide) (by decide) e17 (by rw [hml]; rfl) (lenOf own_pd16 rfl) (argsL := [(.ref t_17), .null]) (rest := []) rfl rfl (Nat.le_of_eq rfl) (hb hby at_57) (by decide) (by decide) ?_
    intro T18 h18 v18 L18 X18 e18 q18
    obtain ⟨t_18, rfl, M18, J18, y18_0, r18_0, r18_1, r18_2, r18_3, r18_4, r18_5, r18_6, r18_7⟩ := q18
    have N18 := Fr.app N17 M18
    have R18 := (CHr.keep J18 all0 R17.1)
    have C18 := C17.trans R18
    have K18 : Keep h0 h18 [] := K17.trans J18 all0
    have O18 : own_Old Z h18 := O17.keep J18 all0
    show G (T18.setTop (mkF m 60 #[.val (.int i0), .val (.int i1), .val (.int i2), .val (.int ((i2 &&& (3 : Int32)) % (3 : Int32))), .val (.int ((((i2.toUInt32 >>> ((2 : Int32) &&& 31).toUInt32).toInt32) &&& (3 : Int32)) % (3 : Int32))), .val (.int (1 : Int32)), .val (.ref t_17), .val .null, .unset] [(.ref t_18)]))
    refine hG _ _ (fun t k => XS.astore X18.here hx rfl (hb hby at_60) rfl rfl (l' := #[.val (.int i0), .val (.int i1), .val (.int i2), .val (.int ((i2 &&& (3 : Int32)) % (3 : Int32))), .val (.int ((((i2.toUInt32 >>> ((2 : Int32) &&& 31).toUInt32).toInt32) &&& (3 : Int32)) % (3 : Int32))), .val (.int (1 : Int32)), .val (.ref t_17), .val .null, .val (.ref t_18)]) rfl k) ?_
    show G (T18.setTop (mkF m 62 #[.val (.int i0), .val (.int i1), .val (.int i2), .val (.int ((i2 &&& (3 : Int32)) % (3 : Int32))), .val (.int ((((i2.toUInt32 >>> ((2 : Int32) &&& 31).toUInt32).toInt32) &&& (3 : Int32)) % (3 : Int32))), .val (.int (1 : Int32)), .val (.ref t_17), .val .null, .val (.ref t_18)] []))
    refine hG _ _ (fun t k => XS.aload X18.here hx rfl (hb hby at_62) rfl rfl k) ?_
    show G (T18.setTop (mkF m 64 #[.val (.int i0), .val (.int i1), .val (.int i2), .val (.int ((i2 &&& (3 : Int32)) % (3 : Int32))), .val (.int ((((i2.toUInt32 >>> ((2 : Int32) &&& 31).toUInt32).toInt32) &&& (3 : Int32)) % (3 : Int32))), .val (.int (1 : Int32)), .val (.ref t_17), .val .null, .val (.ref t_18)] [(.ref t_18)]))
    refine hG _ _ (fun t k => XS.ifnonnullYes X18.here hx rfl (pc0 := 64) (pc' := 69) rfl (hb hby at_64) rfl (by decide) (by decide) k) ?_
    show G (T18.setTop (mkF m 69 #[.val (.int i0), .val (.int i1), .val (.int i2), .val (.int ((i2 &&& (3 : Int32)) % (3 : Int32))), .val (.int ((((i2.toUInt32 >>> ((2 : Int32) &&& 31).toUInt32).toInt32) &&& (3 : Int32)) % (3 : Int32))), .val (.int (1 : Int32)), .val (.ref t_17), .val .null, .val (.ref t_18)] []))
    refine hG _ _ (fun t k => XS.aload X18.here hx rfl (hb hby at_69) rfl rfl k) ?_
    show G (T18.setTop (mkF m 71 #[.val (.int i0), .val (.int i1), .val (.int i2), .val (.int ((i2 &&& (3 : Int32)) % (3 : Int32))), .val (.int ((((i2.toUInt32 >>> ((2 : Int32) &&& 31).toUInt32).toInt32) &&& (3 : Int32)) % (3 : Int32))), .val (.int (1 : Int32)), .val (.ref t_17), .val .null, .val (.ref t_18)] [(.ref t_18)]))
    refine own_callV (C := "com/example/helmstead/helmstead/StoreRequest") X18 hx hZ17 hG hown17 (hw _ (List.mem_of_getElem? (i := 69) rfl)) (hw _ (List.mem_of_getElem? (i := 70) rfl)) (hw _ (List.mem_of_getElem? (i := 72) rfl)) (hw _ (List.mem_of_getElem? (i := 71) rfl)) (hw _ (List.mem_of_getElem? (i := 39) rfl)) (hw _ (List.mem_of_getElem? (i := 73) rfl)) (by decide) 0 (own_get_kind l Z a0 hw t_18 (.ref w1) h18 O18 rfl r18_1) (by decide) (by decide) e18 r18_0 (by rw [hml]; rfl) (lenOf own_pd12 rfl) (argsL := []) (rest := []) rfl rfl (Nat.le_of_eq rfl) (hb hby at_71) (by decide) (by decide) ?_
    intro T19 h19 v19 L19 X19 e19 q19
    obtain ⟨rfl, M19, rfl⟩ := q19
    have N19 := Fr.app N18 M19
    show G (T19.setTop (mkF m 74 #[.val (.int i0), .val (.int i1), .val (.int i2), .val (.int ((i2 &&& (3 : Int32)) % (3 : Int32))), .val (.int ((((i2.toUInt32 >>> ((2 : Int32) &&& 31).toUInt32).toInt32) &&& (3 : Int32)) % (3 : Int32))), .val (.int (1 : Int32)), .val (.ref t_17), .val .null, .val (.ref t_18)] [(.ref w1)]))
    obtain ⟨T20, X20, e20, st20⟩ := getS2 X19 hx hZ17 hown17 (host := "") (Or.inl (hw _ (List.mem_of_getElem? (i := 74) rfl))) Via.refl e19 (own_sta g2_S O18) (g := (mkF m 74 #[.val (.int i0), .val (.int i1), .val (.int i2), .val (.int ((i2 &&& (3 : Int32)) % (3 : Int32))), .val (.int ((((i2.toUInt32 >>> ((2 : Int32) &&& 31).toUInt32).toInt32) &&& (3 : Int32)) % (3 : Int32))), .val (.int (1 : Int32)), .val (.ref t_17), .val .null, .val (.ref t_18)] [(.ref w1)])) rfl (hb hby at_74)
    refine hG _ _ st20 ?_
    show G (T20.setTop (mkF m 77 #[.val (.int i0), .val (.int i1), .val (.int i2), .val (.int ((i2 &&& (3 : Int32)) % (3 : Int32))), .val (.int ((((i2.toUInt32 >>> ((2 : Int32) &&& 31).toUInt32).toInt32) &&& (3 : Int32)) % (3 : Int32))), .val (.int (1 : Int32)), .val (.ref t_17), .val .null, .val (.ref t_18)] [(.ref w1), (.ref w1)]))
    refine hG _ _ (fun t k => Jvm.RoadKit.acmp (g := (mkF m 77 #[.val (.int i0), .val (.int i1), .val (.int i2), .val (.int ((i2 &&& (3 : Int32)) % (3 : Int32))), .val (.int ((((i2.toUInt32 >>> ((2 : Int32) &&& 31).toUInt32).toInt32) &&& (3 : Int32)) % (3 : Int32))), .val (.int (1 : Int32)), .val (.ref t_17), .val .null, .val (.ref t_18)] [(.ref w1), (.ref w1)])) X20 hx rfl rfl rfl (pc0 := 77) (pc' := 80) (same := true) rfl (hb hby at_77) rfl (decide_eq_true rfl) (by decide) (by decide) k) ?_
    show G (T20.setTop (mkF m 80 #[.val (.int i0), .val (.int i1), .val (.int i2), .val (.int ((i2 &&& (3 : Int32)) % (3 : Int32))), .val (.int ((((i2.toUInt32 >>> ((2 : Int32) &&& 31).toUInt32).toInt32) &&& (3 : Int32)) % (3 : Int32))), .val (.int (1 : Int32)), .val (.ref t_17), .val .null, .val (.ref t_18)] []))
    refine hG _ _ (fun t k => XS.aload X20.here hx rfl (hb hby at_80) rfl rfl k) ?_
    show G (T20.setTop (mkF m 82 #[.val (.int i0), .val (.int i1), .val (.int i2), .val (.int ((i2 &&& (3 : Int32)) % (3 : Int32))), .val (.int ((((i2.toUInt32 >>> ((2 : Int32) &&& 31).toUInt32).toInt32) &&& (3 : Int32)) % (3 : Int32))), .val (.int (1 : Int32)), .val (.ref t_17), .val .null, .val (.ref t_18)] [(.ref t_18)]))
    refine own_callV (C := "com/example/helmstead/helmstead/StoreRequest") X20 hx hZ17 hG hown17 (hw _ (List.mem_of_getElem? (i := 75) rfl)) (hw _ (List.mem_of_getElem? (i := 76) rfl)) (hw _ (List.mem_of_getElem? (i := 78) rfl)) (hw _ (List.mem_of_getElem? (i := 77) rfl)) (hw _ (List.mem_of_getElem? (i := 39) rfl)) (hw _ (List.mem_of_getElem? (i := 79) rfl)) (by decide) 0 (own_get_id l Z a0 hw t_18 .null h18 O18 rfl r18_2) (by decide) (by decide) e20 r18_0 (by rw [hml]; rfl) (lenOf own_pd13 rfl) (argsL := []) (rest := []) rfl rfl (Nat.le_of_eq rfl) (hb hby at_82) (by decide) (by decide) ?_
    intro T21 h21 v21 L21 X21 e21 q21
    obtain ⟨rfl, M21, rfl⟩ := q21
    have N21 := Fr.app N19 M21
    show G (T21.setTop (mkF m 85 #[.val (.int i0), .val (.int i1), .val (.int i2), .val (.int ((i2 &&& (3 : Int32)) % (3 : Int32))), .val (.int ((((i2.toUInt32 >>> ((2 : Int32) &&& 31).toUInt32).toInt32) &&& (3 : Int32)) % (3 : Int32))), .val (.int (1 : Int32)), .val (.ref t_17), .val .null, .val (.ref t_18)] [.null]))
    refine hG _ _ (fun t k => XS.ifnonnullNo X21.here hx rfl (hb hby at_85) rfl k) ?_
    show G (T21.setTop (mkF m 88 #[.val (.int i0), .val (.int i1), .val (.int i2), .val (.int ((i2 &&& (3 : Int32)) % (3 : Int32))), .val (.int ((((i2.toUInt32 >>> ((2 : Int32) &&& 31).toUInt32).toInt32) &&& (3 : Int32)) % (3 : Int32))), .val (.int (1 : Int32)), .val (.ref t_17), .val .null, .val (.ref t_18)] []))
    refine hG _ _ (fun t k => XS.aload X21.here hx rfl (hb hby at_88) rfl rfl k) ?_
    show G (T21.setTop (mkF m 90 #[.val (.int i0), .val (.int i1), .val (.int i2), .val (.int ((i2 &&& (3 : Int32)) % (3 : Int32))), .val (.int ((((i2.toUInt32 >>> ((2 : Int32) &&& 31).toUInt32).toInt32) &&& (3 : Int32)) % (3 : Int32))), .val (.int (1 : Int32)), .val (.ref t_17), .val .null, .val (.ref t_18)] [(.ref t_18)]))
    refine own_callV (C := "com/example/helmstead/helmstead/StoreRequest") X21 hx hZ17 hG hown17 (hw _ (List.mem_of_getElem? (i := 80) rfl)) (hw _ (List.mem_of_getElem? (i := 81) rfl)) (hw _ (List.mem_of_getElem? (i := 83) rfl)) (hw _ (List.mem_of_getElem? (i := 82) rfl)) (hw _ (List.mem_of_getElem? (i := 39) rfl)) (hw _ (List.mem_of_getElem? (i := 84) rfl)) (by decide) 0 (own_get_leaseMs l Z a0 hw t_18 (0 : Int64) h18 O18 r18_3) (by decide) (by decide) e21 r18_0 (by rw [hml]; rfl) (lenOf own_pd14 rfl) (argsL := []) (rest := []) rfl rfl (Nat.le_of_eq rfl) (hb hby at_90) (by decide) (by decide) ?_
    intro T22 h22 v22 L22 X22 e22 q22
    obtain ⟨rfl, M22, rfl⟩ := q22
    have N22 := Fr.app N21 M22
    show G (T22.setTop (mkF m 93 #[.val (.int i0), .val (.int i1), .val (.int i2), .val (.int ((i2 &&& (3 : Int32)) % (3 : Int32))), .val (.int ((((i2.toUInt32 >>> ((2 : Int32) &&& 31).toUInt32).toInt32) &&& (3 : Int32)) % (3 : Int32))), .val (.int (1 : Int32)), .val (.ref t_17), .val .null, .val (.ref t_18)] [(.long (0 : Int64))]))
    refine hG _ _ (fun t k => XS.lconst X22.here hx rfl (hb hby at_93) k) ?_
    show G (T22.setTop (mkF m 94 #[.val (.int i0), .val (.int i1), .val (.int i2), .val (.int ((i2 &&& (3 : Int32)) % (3 : Int32))), .val (.int ((((i2.toUInt32 >>> ((2 : Int32) &&& 31).toUInt32).toInt32) &&& (3 : Int32)) % (3 : Int32))), .val (.int (1 : Int32)), .val (.ref t_17), .val .null, .val (.ref t_18)] [(.long (0 : Int64)), (.long (0 : Int64))]))
    refine hG _ _ (fun t k => XS.lcmp X22.here hx rfl (hb hby at_94) rfl k) ?_
    show G (T22.setTop (mkF m 95 #[.val (.int i0), .val (.int i1), .val (.int i2), .val (.int ((i2 &&& (3 : Int32)) % (3 : Int32))), .val (.int ((((i2.toUInt32 >>> ((2 : Int32) &&& 31).toUInt32).toInt32) &&& (3 : Int32)) % (3 : Int32))), .val (.int (1 : Int32)), .val (.ref t_17), .val .null, .val (.ref t_18)] [(.int (lcmpW (0 : Int64) (0 : Int64)))]))
    refine hG _ _ (fun t k => XS.ifNo X22.here hx rfl (hb hby at_95) rfl ((if0 _ _).trans (teq ((lw_eq _ _).mpr rfl)).2) k) ?_
    show G (T22.setTop (mkF m 98 #[.val (.int i0), .val (.int i1), .val (.int i2), .val (.int ((i2 &&& (3 : Int32)) % (3 : Int32))), .val (.int ((((i2.toUInt32 >>> ((2 : Int32) &&& 31).toUInt32).toInt32) &&& (3 : Int32)) % (3 : Int32))), .val (.int (1 : Int32)), .val (.ref t_17), .val .null, .val (.ref t_18)] []))
    refine hG _ _ (fun t k => XS.aload X22.here hx rfl (hb hby at_98) rfl rfl k) ?_
    show G (T22.setTop (mkF m 100 #[.val (.int i0), .val (.int i1), .val (.int i2), .val (.int ((i2 &&& (3 : Int32)) % (3 : Int32))), .val (.int ((((i2.toUInt32 >>> ((2 : Int32) &&& 31).toUInt32).toInt32) &&& (3 : Int32)) % (3 : Int32))), .val (.int (1 : Int32)), .val (.ref t_17), .val .null, .val (.ref t_18)] [(.ref t_18)]))
    refine own_callV (C := "com/example/helmstead/helmstead/StoreRequest") X22 hx hZ17 hG hown17 (hw _ (List.mem_of_getElem? (i := 85) rfl)) (hw _ (List.mem_of_getElem? (i := 86) rfl)) (hw _ (List.mem_of_getElem? (i := 88) rfl)) (hw _ (List.mem_of_getElem? (i := 87) rfl)) (hw _ (List.mem_of_getElem? (i := 39) rfl)) (hw _ (List.mem_of_getElem? (i := 89) rfl)) (by decide) 0 (own_get_table l Z a0 hw t_18 (.ref t_17) h18 O18 rfl r18_4) (by decide) (by decide) e22 r18_0 (by rw [hml]; rfl) (lenOf own_pd13 rfl) (argsL := []) (rest := []) rfl rfl (Nat.le_of_eq rfl) (hb hby at_100) (by decide) (by decide) ?_
    intro T23 h23 v23 L23 X23 e23 q23
    obtain ⟨rfl, M23, rfl⟩ := q23
    have N23 := Fr.app N22 M23
    show G (T23.setTop (mkF m 103 #[.val (.int i0), .val (.int i1), .val (.int i2), .val (.int ((i2 &&& (3 : Int32)) % (3 : Int32))), .val (.int ((((i2.toUInt32 >>> ((2 : Int32) &&& 31).toUInt32).toInt32) &&& (3 : Int32)) % (3 : Int32))), .val (.int (1 : Int32)), .val (.ref t_17), .val .null, .val (.ref t_18)] [(.ref t_17)]))
    refine hG _ _ (fun t k => XS.aload X23.here hx rfl (hb hby at_103) rfl rfl k) ?_
    show G (T23.setTop (mkF m 105 #[.val (.int i0), .val (.int i1), .val (.int i2), .val (.int ((i2 &&& (3 : Int32)) % (3 : Int32))), .val (.int ((((i2.toUInt32 >>> ((2 : Int32) &&& 31).toUInt32).toInt32) &&& (3 : Int32)) % (3 : Int32))), .val (.int (1 : Int32)), .val (.ref t_17), .val .null, .val (.ref t_18)] [(.ref t_17), (.ref t_17)]))
    have f25 := (r17_0.keep J18)
    refine own_callS X23 hx hZ17 hG hown17 (hw _ (List.mem_of_getElem? (i := 90) rfl)) (hw _ (List.mem_of_getElem? (i := 91) rfl)) (hw _ (List.mem_of_getElem? (i := 2) rfl)) (hw _ (List.mem_of_getElem? (i := 92) rfl)) (by decide) 0 (own_sameR l Z a0 hw t_17 h18 O18 f25) (by decide) (by decide) e23 (by rw [hml]; rfl) (lenOf own_pd17 rfl) (argsL := [(.ref t_17), (.ref t_17)]) (rest := []) rfl rfl (Nat.le_of_eq rfl) (hb hby at_105) (by decide) (by decide) ?_
    intro T24 h24 v24 L24 X24 e24 q24
    obtain ⟨rfl, M24, rfl⟩ := q24
    have N24 := Fr.app N23 M24
    show G (T24.setTop (mkF m 108 #[.val (.int i0), .val (.int i1), .val (.int i2), .val (.int ((i2 &&& (3 : Int32)) % (3 : Int32))), .val (.int ((((i2.toUInt32 >>> ((2 : Int32) &&& 31).toUInt32).toInt32) &&& (3 : Int32)) % (3 : Int32))), .val (.int (1 : Int32)), .val (.ref t_17), .val .null, .val (.ref t_18)] [(.int (1 : Int32))]))
    refine hG _ _ (fun t k => XS.ifNo X24.here hx rfl (hb hby at_108) rfl ((if0 _ _).trans (feq (by decide)).1) k) ?_
    show G (T24.setTop (mkF m 111 #[.val (.int i0), .val (.int i1), .val (.int i2), .val (.int ((i2 &&& (3 : Int32)) % (3 : Int32))), .val (.int ((((i2.toUInt32 >>> ((2 : Int32) &&& 31).toUInt32).toInt32) &&& (3 : Int32)) % (3 : Int32))), .val (.int (1 : Int32)), .val (.ref t_17), .val .null, .val (.ref t_18)] []))
    refine hG _ _ (fun t k => XS.aload X24.here hx rfl (hb hby at_111) rfl rfl k) ?_
    show G (T24.setTop (mkF m 113 #[.val (.int i0), .val (.int i1), .val (.int i2), .val (.int ((i2 &&& (3 : Int32)) % (3 : Int32))), .val (.int ((((i2.toUInt32 >>> ((2 : Int32) &&& 31).toUInt32).toInt32) &&& (3 : Int32)) % (3 : Int32))), .val (.int (1 : Int32)), .val (.ref t_17), .val .null, .val (.ref t_18)] [(.ref t_18)]))
    refine own_callV (C := "com/example/helmstead/helmstead/StoreRequest") X24 hx hZ17 hG hown17 (hw _ (List.mem_of_getElem? (i := 98) rfl)) (hw _ (List.mem_of_getElem? (i := 99) rfl)) (hw _ (List.mem_of_getElem? (i := 101) rfl)) (hw _ (List.mem_of_getElem? (i := 100) rfl)) (hw _ (List.mem_of_getElem? (i := 39) rfl)) (hw _ (List.mem_of_getElem? (i := 102) rfl)) (by decide) 0 (own_get_key l Z a0 hw t_18 .null h18 O18 rfl r18_5) (by decide) (by decide) e24 r18_0 (by rw [hml]; rfl) (lenOf own_pd13 rfl) (argsL := []) (rest := []) rfl rfl (Nat.le_of_eq rfl) (hb hby at_113) (by decide) (by decide) ?_
    intro T26 h26 v26 L26 X26 e26 q26
    obtain ⟨rfl, M26, rfl⟩ := q26
    have N26 := Fr.app N24 M26
    show G (T26.setTop (mkF m 116 #[.val (.int i0), .val (.int i1), .val (.int i2), .val (.int ((i2 &&& (3 : Int32)) % (3 : Int32))), .val (.int ((((i2.toUInt32 >>> ((2 : Int32) &&& 31).toUInt32).toInt32) &&& (3 : Int32)) % (3 : Int32))), .val (.int (1 : Int32)), .val (.ref t_17), .val .null, .val (.ref t_18)] [.null]))
    refine hG _ _ (fun t k => XS.aload X26.here hx rfl (hb hby at_116) rfl rfl k) ?_
    show G (T26.setTop (mkF m 118 #[.val (.int i0), .val (.int i1), .val (.int i2), .val (.int ((i2 &&& (3 : Int32)) % (3 : Int32))), .val (.int ((((i2.toUInt32 >>> ((2 : Int32) &&& 31).toUInt32).toInt32) &&& (3 : Int32)) % (3 : Int32))), .val (.int (1 : Int32)), .val (.ref t_17), .val .null, .val (.ref t_18)] [.null, .null]))
    refine own_callS X26 hx hZ17 hG hown17 (hw _ (List.mem_of_getElem? (i := 90) rfl)) (hw _ (List.mem_of_getElem? (i := 91) rfl)) (hw _ (List.mem_of_getElem? (i := 2) rfl)) (hw _ (List.mem_of_getElem? (i := 92) rfl)) (by decide) 0 (own_sameN l Z a0 hw h18 O18) (by decide) (by decide) e26 (by rw [hml]; rfl) (lenOf own_pd17 rfl) (argsL := [.null, .null]) (rest := []) rfl rfl (Nat.le_of_eq rfl) (hb hby at_118) (by decide) (by decide) ?_
    intro T27 h27 v27 L27 X27 e27 q27
    obtain ⟨rfl, M27, rfl⟩ := q27
    have N27 := Fr.app N26 M27
    show G (T27.setTop (mkF m 121 #[.val (.int i0), .val (.int i1), .val (.int i2), .val (.int ((i2 &&& (3 : Int32)) % (3 : Int32))), .val (.int ((((i2.toUInt32 >>> ((2 : Int32) &&& 31).toUInt32).toInt32) &&& (3 : Int32)) % (3 : Int32))), .val (.int (1 : Int32)), .val (.ref t_17), .val .null, .val (.ref t_18)] [(.int (1 : Int32))]))
    refine hG _ _ (fun t k => XS.ifNo X27.here hx rfl (hb hby at_121) rfl ((if0 _ _).trans (feq (by decide)).1) k) ?_
    show G (T27.setTop (mkF m 124 #[.val (.int i0), .val (.int i1), .val (.int i2), .val (.int ((i2 &&& (3 : Int32)) % (3 : Int32))), .val (.int ((((i2.toUInt32 >>> ((2 : Int32) &&& 31).toUInt32).toInt32) &&& (3 : Int32)) % (3 : Int32))), .val (.int (1 : Int32)), .val (.ref t_17), .val .null, .val (.ref t_18)] []))
    refine hG _ _ (fun t k => XS.aload X27.here hx rfl (hb hby at_124) rfl rfl k) ?_
    show G (T27.setTop (mkF m 126 #[.val (.int i0), .val (.int i1), .val (.int i2), .val (.int ((i2 &&& (3 : Int32)) % (3 : Int32))), .val (.int ((((i2.toUInt32 >>> ((2 : Int32) &&& 31).toUInt32).toInt32) &&& (3 : Int32)) % (3 : Int32))), .val (.int (1 : Int32)), .val (.ref t_17), .val .null, .val (.ref t_18)] [(.ref t_18)]))
    refine own_callV (C := "com/example/helmstead/helmstead/StoreRequest") X27 hx hZ17 hG hown17 (hw _ (List.mem_of_getElem? (i := 103) rfl)) (hw _ (List.mem_of_getElem? (i := 104) rfl)) (hw _ (List.mem_of_getElem? (i := 106) rfl)) (hw _ (List.mem_of_getElem? (i := 105) rfl)) (hw _ (List.mem_of_getElem? (i := 39) rfl)) (hw _ (List.mem_of_getElem? (i := 107) rfl)) (by decide) 0 (own_get_value l Z a0 hw t_18 .null h18 O18 rfl r18_6) (by decide) (by decide) e27 r18_0 (by rw [hml]; rfl) (lenOf own_pd13 rfl) (argsL := []) (rest := []) rfl rfl (Nat.le_of_eq rfl) (hb hby at_126) (by decide) (by decide) ?_
    intro T28 h28 v28 L28 X28 e28 q28
    obtain ⟨rfl, M28, rfl⟩ := q28
    have N28 := Fr.app N27 M28
    show G (T28.setTop (mkF m 129 #[.val (.int i0), .val (.int i1), .val (.int i2), .val (.int ((i2 &&& (3 : Int32)) % (3 : Int32))), .val (.int ((((i2.toUInt32 >>> ((2 : Int32) &&& 31).toUInt32).toInt32) &&& (3 : Int32)) % (3 : Int32))), .val (.int (1 : Int32)), .val (.ref t_17), .val .null, .val (.ref t_18)] [.null]))
    refine hG _ _ (fun t k => XS.ifnonnullNo X28.here hx rfl (hb hby at_129) rfl k) ?_
    show G (T28.setTop (mkF m 132 #[.val (.int i0), .val (.int i1), .val (.int i2), .val (.int ((i2 &&& (3 : Int32)) % (3 : Int32))), .val (.int ((((i2.toUInt32 >>> ((2 : Int32) &&& 31).toUInt32).toInt32) &&& (3 : Int32)) % (3 : Int32))), .val (.int (1 : Int32)), .val (.ref t_17), .val .null, .val (.ref t_18)] []))
    refine hG _ _ (fun t k => XS.aload X28.here hx rfl (hb hby at_132) rfl rfl k) ?_
    show G (T28.setTop (mkF m 134 #[.val (.int i0), .val (.int i1), .val (.int i2), .val (.int ((i2 &&& (3 : Int32)) % (3 : Int32))), .val (.int ((((i2.toUInt32 >>> ((2 : Int32) &&& 31).toUInt32).toInt32) &&& (3 : Int32)) % (3 : Int32))), .val (.int (1 : Int32)), .val (.ref t_17), .val .null, .val (.ref t_18)] [(.ref t_18)]))
    refine own_callV (C := "com/example/helmstead/helmstead/StoreRequest") X28 hx hZ17 hG hown17 (hw _ (List.mem_of_getElem? (i := 108) rfl)) (hw _ (List.mem_of_getElem? (i := 109) rfl)) (hw _ (List.mem_of_getElem? (i := 111) rfl)) (hw _ (List.mem_of_getElem? (i := 110) rfl)) (hw _ (List.mem_of_getElem? (i := 39) rfl)) (hw _ (List.mem_of_getElem? (i := 112) rfl)) (by decide) 0 (own_get_parts l Z a0 hw t_18 .null h18 O18 rfl r18_7) (by decide) (by decide) e28 r18_0 (by rw [hml]; rfl) (lenOf own_pd15 rfl) (argsL := []) (rest := []) rfl rfl (Nat.le_of_eq rfl) (hb hby at_134) (by decide) (by decide) ?_
    intro T29 h29 v29 L29 X29 e29 q29
    obtain ⟨rfl, M29, rfl⟩ := q29
    have N29 := Fr.app N28 M29
    show G (T29.setTop (mkF m 137 #[.val (.int i0), .val (.int i1), .val (.int i2), .val (.int ((i2 &&& (3 : Int32)) % (3 : Int32))), .val (.int ((((i2.toUInt32 >>> ((2 : Int32) &&& 31).toUInt32).toInt32) &&& (3 : Int32)) % (3 : Int32))), .val (.int (1 : Int32)), .val (.ref t_17), .val .null, .val (.ref t_18)] [.null]))
    refine hG _ _ (fun t k => XS.ifnonnullNo X29.here hx rfl (hb hby at_137) rfl k) ?_
    show G (T29.setTop (mkF m 140 #[.val (.int i0), .val (.int i1), .val (.int i2), .val (.int ((i2 &&& (3 : Int32)) % (3 : Int32))), .val (.int ((((i2.toUInt32 >>> ((2 : Int32) &&& 31).toUInt32).toInt32) &&& (3 : Int32)) % (3 : Int32))), .val (.int (1 : Int32)), .val (.ref t_17), .val .null, .val (.ref t_18)] []))
    refine hG _ _ (fun t k => XS.iconst X29.here hx rfl (hb hby at_140) k) ?_
    show G (T29.setTop (mkF m 141 #[.val (.int i0), .val (.int i1), .val (.int i2), .val (.int ((i2 &&& (3 : Int32)) % (3 : Int32))), .val (.int ((((i2.toUInt32 >>> ((2 : Int32) &&& 31).toUInt32).toInt32) &&& (3 : Int32)) % (3 : Int32))), .val (.int (1 : Int32)), .val (.ref t_17), .val .null, .val (.ref t_18)] [(.int (1 : Int32))]))
    refine hG _ _ (fun t k => XS.goto X29.here hx rfl (pc0 := 141) (pc' := 145) rfl (hb hby at_141) (by decide) (by decide) k) ?_
    show G (T29.setTop (mkF m 145 #[.val (.int i0), .val (.int i1), .val (.int i2), .val (.int ((i2 &&& (3 : Int32)) % (3 : Int32))), .val (.int ((((i2.toUInt32 >>> ((2 : Int32) &&& 31).toUInt32).toInt32) &&& (3 : Int32)) % (3 : Int32))), .val (.int (1 : Int32)), .val (.ref t_17), .val .null, .val (.ref t_18)] [(.int (1 : Int32))]))
    exact own_retNW hR hret (by simp) X29 hx (hb hby at_145) e29 SI17 (Nat.le_trans (Nat.le_refl _) R18.2.1) hZ17 C18 (by decide) (by decide) ⟨rfl, N29, K18⟩
set_option maxRecDepth 65536 in
set_option maxHeartbeats 40000000 in
theorem own_comes {Post : Tables → Env → Array Value → State → Outcome → State → Prop} (hpost : ∀ tb e args s v u, (limb_1_1.after args s (.returned v) u = true ∧ limb_1_2.after args s (.returned v) u = true ∧ True) → ReturnedEndW s (.returned v) u (Jvm.fieldLocs frame_1_writes args s ++ Jvm.arrayLocs frame_1_arrays args s ++ Jvm.staticLocs frame_1_statics s) 24 1152 → Post tb e args s (.returned v) u) :
    ArmFor flags0 classFile x code maxLocals ret World_1 tables_1 room_1 Calls_1 rest_1 Pre_1 Post := by
  intro l hfl _ _ p e ha hc hk s m args below hf hA hF happ hP
  obtain ⟨hcalls, hrest, hpre⟩ := hP
  obtain ⟨-, -, -, hnamed, -, -, -, hat⟩ := (Spec.applies_iff hf).mp happ
  obtain ⟨hg, hn⟩ := and_e (Cond.before_iff.mp (show (Jvm.Cond.and given_1 narrow_1).before args s = true from hpre))
  obtain ⟨hcnt, hg⟩ := and_e hg
  obtain ⟨g0, hg⟩ := and_e hg
  obtain ⟨g1, hg⟩ := and_e hg
  have g2 := hg
  obtain ⟨w0, w1, w2, rfl⟩ : ∃ w0 w1 w2 : Value, args = #[w0, w1, w2] := by
    have hs : args.size = 3 := by simpa [Cond.value, given_1] using hcnt
    obtain ⟨L⟩ := args
    match L, hs with
    | [w0, w1, w2], _ => exact ⟨w0, w1, w2, rfl⟩
  have hw := fun d (hd : d ∈ tables_1) => atoms_spec (ws := Jvm.Cond.code x code maxLocals ret :: tables_1) hat d (List.mem_cons_of_mem _ hd)
  have hfit : Fit s := fun {y c} hc i hi => by
    obtain ⟨ha, rfl⟩ := Array.getElem?_eq_some_iff.mp hc
    have q := List.all_eq_true.mp ((Array.all_eq_true_iff_forall_mem.mp hF) _ (Array.getElem_mem ha)) i (List.mem_range.mpr hi)
    simpa [Array.getElem?_eq_getElem hi] using q
  obtain ⟨hsets, hown0⟩ := atoms_of _ (rest_1_c_eq ▸ (show rest_1_c.before _ s = true from hrest))
  have hr0 := Cond.before_iff.mp hown0
  obtain ⟨i0, ei0⟩ := is_v g0
  obtain rfl : w0 = (.int i0) := Option.some.inj ei0
  obtain ⟨i1, ei1⟩ := is_v g1
  obtain rfl : w1 = (.int i1) := Option.some.inj ei1
  obtain ⟨i2, ei2⟩ := is_v g2
  obtain rfl : w2 = (.int i2) := Option.some.inj ei2
  obtain ⟨cpt, ecpt⟩ := is_v (Cond.before_iff.mp (hsets _ (List.mem_of_getElem? (i := 1) rfl)))
  have S_cpt : Sta s s.heap "java/lang/String" "COMPACT_STRINGS" "Z" (.int cpt) := Sta.start ecpt (Or.inl (hsets _ (List.mem_of_getElem? (i := 0) rfl)))
  have h_cpt : ¬ (cpt = (0 : Int32)) := gotF (Cond.eq_ints ecpt (Term.int_eval (0))) (not_v (Cond.before_iff.mp (hsets _ (List.mem_of_getElem? (i := 2) rfl))))
  obtain ⟨w1', ew1⟩ := exa_v hn
  have S1 : Sta s s.heap "com/example/helmstead/helmstead/StoreRequest$Kind" "GET" "Lcom/example/helmstead/helmstead/StoreRequest$Kind;" (.ref w1') := Sta.start ew1 (Or.inr ⟨(hw _ (List.mem_of_getElem? (i := 44) rfl)), (hw _ (List.mem_of_getElem? (i := 45) rfl))⟩)
  have hEL : EW s _ consts_1 := (EW.cons (hw _ (List.mem_of_getElem? (i := 34) rfl)) (by decide) EW.nil)
  have H0 : CHv s consts_1 s.vm s.heap := CHv.start hEL (show ∀ p ∈ consts_1, Jvm.Lit.constHeld s p.1 p.2 from hcalls.1) (hsets _ (List.mem_of_getElem? (i := 2) rfl)) (hw _ (List.mem_of_getElem? (i := 23) rfl)) (hw _ (List.mem_of_getElem? (i := 5) rfl))
  obtain ⟨n, o, h1, h2, h3, _, L, rfl, ⟨rfl, N, K⟩, hC, hq⟩ := own_law l s _ hw tables_1 hEL i0 i1 i2 cpt w1' s.heap (Old.start s) S_cpt h_cpt S1 p e ha hc hk s m _ below hf ((Spec.applies_iff_loose hf).mp happ).1 ⟨rfl, State.Warmed39.refl s, rfl, H0⟩ trivial
  refine ⟨n, _, h1, h2, h3, hpost _ _ _ _ _ _ ⟨Cond.after_iff.mpr rfl, Cond.after_iff.mpr (eq_i res_at (Term.int_eval (1)) rfl), trivial⟩ ⟨hq.1, hq.2.1, hq.2.2.1, (hq.2.2.2.sift fun y hy => Or.inr (N y hy)).mono (by decide) (by decide)⟩⟩
theorem main_1_1 : Claimed_1_1 := own_comes fun _ _ _ _ _ _ h hF => ⟨h.1, hF⟩
theorem main_1_2 : Claimed_1_2 := own_comes fun _ _ _ _ _ _ h hF => ⟨h.2.1, hF⟩
end Jvm.Pilot.@@N@@
namespace Jvm.Pilot.@@N@@
open Jvm Jvm.ClassFile Sem Op Lib Jvm.Free Jvm.Stand Jvm.Pilot.@@N@@.Jvm.D
/-! MADE BY PROGRAM (witnessworld.py) out of the Statement's table words and the real class files: 23 classes; the members and pool entries that the words name. The judged class is class 1, her method 3. -/
namespace start1
open Jvm.ClassFile
def u (s : String) : CpInfo := .utf8 (stringToUtf16 s)
/-- a pool by its gaps: so many unusable entries, then the entry; so many at the end -/
def gap : Nat → List CpInfo → List CpInfo
  | 0, r => r
  | n + 1, r => .unusable :: gap n r
def poolList (es : List (Nat × CpInfo)) (last : Nat) : List CpInfo := es.foldr (fun e r => gap e.1 (e.2 :: r)) (gap last [])
def pool (es : List (Nat × CpInfo)) (last : Nat) : Array CpInfo := ⟨poolList es last⟩
def fileOf (pool : Array CpInfo) (this : Nat) (attrs : Array Attribute := #[]) (ms : Array MethodInfo := #[]) (fl : Nat := 33) (sup : Nat := 0) (ifs : Array Nat := #[]) (fds : Array FieldInfo := #[]) : ClassFile where
  minorVersion := 0
  majorVersion := 65
  constantPool := pool
  accessFlags := fl
  thisClass := this
  superClass := sup
  interfaces := ifs
  fields := fds
  methods := ms
  attributes := attrs
def plain (name : String) (sup : Option ClassId) : Class where
  name := name
  kind := .ordinary
  loader := none
  accessFlags := 33
  super := sup
  interfaces := #[]
  cf := none
  fields := #[]
  methods := #[]
  instanceTypes := #[]
  staticTypes := #[]
  resolved := #[]
  callSites := []
  init := .initialized
  statics := none
  mirror := none

def pool0 : Array CpInfo := pool [(5, u "<init>"), (0, u "()V"), (1, .class_ 10), (1, u "java/lang/Object")] 113

def k0c0 : Code := { maxStack := 0, maxLocals := 1, code := object_method_1_code, exceptionTable := #[], attributes := #[] }
def k0m0 : Method := { name := "<init>", desc := "()V", sig := { parameters := [], returnType := none }, accessFlags := 1, code := some k0c0 }
/-- java/lang/Object -/
def k0 : Class := { plain "java/lang/Object" none with
  accessFlags := 33
  interfaces := #[]
  cf := some (fileOf pool0 8 #[] #[{ accessFlags := 1, nameIndex := 5, descriptorIndex := 6, attributes := #[] }] 33 0 #[] #[])
  fields := #[]
  methods := #[k0m0]
  instanceTypes := #[]
  staticTypes := #[]
  resolved := Array.replicate 124 none
  statics := none }

def pool1 : Array CpInfo := pool [(2, .class_ 4), (1, u "java/lang/Object"), (0, u "<init>"), (0, u "()V"), (0, .methodref 8 9), (0, .class_ 10), (0, .nameAndType 11 12), (0, u "java/lang/String"), (0, u "equals"), (0, u "(Ljava/lang/Object;)Z"), (0, .methodref 8 14), (0, .nameAndType 5 15), (0, u "([C)V"), (0, .methodref 8 17), (0, .nameAndType 18 19), (0, u "valueOf"), (0, u "(C)Ljava/lang/String;"), (0, .methodref 21 22), (0, .class_ 23), (0, .nameAndType 24 25), (0, u "com/example/helmstead/helmstead/StoreRequestGetPinLaw"), (0, u "text"), (0, u "(II)Ljava/lang/String;"), (0, .methodref 27 28), (0, .class_ 29), (0, .nameAndType 30 31), (0, u "com/example/helmstead/helmstead/StoreRequest"), (0, u "get"), (0, u "(Ljava/lang/String;Ljava/lang/String;)Lcom/example/helmstead/helmstead/StoreRequest;"), (0, .methodref 27 33), (0, .nameAndType 34 35), (0, u "kind"), (0, u "()Lcom/example/helmstead/helmstead/StoreRequest$Kind;"), (0, .fieldref 37 38), (0, .class_ 39), (0, .nameAndType 40 41), (0, u "com/example/helmstead/helmstead/StoreRequest$Kind"), (0, u "GET"), (0, u "Lcom/example/helmstead/helmstead/StoreRequest$Kind;"), (0, .methodref 27 43), (0, .nameAndType 44 45), (0, u "id"), (0, u "()Ljava/lang/String;"), (0, .methodref 27 47), (0, .nameAndType 48 49), (0, u "leaseMs"), (0, u "()J"), (0, .methodref 27 51), (0, .nameAndType 52 45), (0, u "table"), (0, .methodref 21 54), (0, .nameAndType 55 56), (0, u "same"), (0, u "(Ljava/lang/String;Ljava/lang/String;)Z"), (0, .methodref 27 58), (0, .nameAndType 59 45), (0, u "key"), (0, .methodref 27 61), (0, .nameAndType 62 45), (0, u "value"), (0, .methodref 27 64), (0, .nameAndType 65 66), (0, u "parts"), (0, u "()Ljava/util/List;"), (3, u "law"), (0, u "(III)Z")] 4

def k1m0 : Method := { name := "<init>", desc := "()V", sig := { parameters := [], returnType := none }, accessFlags := 2, code := none }
def k1c1 : Code := { maxStack := 2, maxLocals := 2, code := method_2_code, exceptionTable := #[], attributes := #[] }
def k1m1 : Method := { name := "same", desc := "(Ljava/lang/String;Ljava/lang/String;)Z", sig := { parameters := [(.object "java/lang/String"), (.object "java/lang/String")], returnType := some .boolean }, accessFlags := 10, code := some k1c1 }
def k1c2 : Code := { maxStack := 6, maxLocals := 4, code := method_3_code, exceptionTable := #[], attributes := #[] }
def k1m2 : Method := { name := "text", desc := "(II)Ljava/lang/String;", sig := { parameters := [.int, .int], returnType := some (.object "java/lang/String") }, accessFlags := 10, code := some k1c2 }
def k1c3 : Code := { maxStack := 4, maxLocals := 9, code := code, exceptionTable := #[], attributes := #[] }
def k1m3 : Method := { name := "law", desc := "(III)Z", sig := { parameters := [.int, .int, .int], returnType := some .boolean }, accessFlags := 9, code := some k1c3 }
/-- com/example/helmstead/helmstead/StoreRequestGetPinLaw -/
def k1 : Class := { plain "com/example/helmstead/helmstead/StoreRequestGetPinLaw" (some 0) with
  accessFlags := 49
  interfaces := #[]
  cf := some (fileOf pool1 21 #[] #[{ accessFlags := 2, nameIndex := 5, descriptorIndex := 6, attributes := #[] }, { accessFlags := 10, nameIndex := 55, descriptorIndex := 56, attributes := #[] }, { accessFlags := 10, nameIndex := 24, descriptorIndex := 25, attributes := #[] }, { accessFlags := 9, nameIndex := 70, descriptorIndex := 71, attributes := #[] }] 49 2 #[] #[])
  fields := #[]
  methods := #[k1m0, k1m1, k1m2, k1m3]
  instanceTypes := #[]
  staticTypes := #[]
  resolved := Array.replicate 76 none
  statics := none }

def pool2 : Array CpInfo := pool [(1, .class_ 2), (0, u "java/io/Serializable"), (0, .class_ 4), (0, u "java/lang/Object")] 2

/-- java/io/Serializable -/
def k2 : Class := { plain "java/io/Serializable" (some 0) with
  accessFlags := 1537
  interfaces := #[]
  cf := some (fileOf pool2 1 #[] #[] 1537 3 #[] #[])
  fields := #[]
  methods := #[]
  instanceTypes := #[]
  staticTypes := #[]
  resolved := Array.replicate 7 none
  statics := none }

def pool3 : Array CpInfo := pool [(1, .class_ 2), (0, u "java/lang/Comparable"), (0, .class_ 4), (0, u "java/lang/Object")] 7

/-- java/lang/Comparable -/
def k3 : Class := { plain "java/lang/Comparable" (some 0) with
  accessFlags := 1537
  interfaces := #[]
  cf := some (fileOf pool3 1 #[] #[] 1537 3 #[] #[])
  fields := #[]
  methods := #[]
  instanceTypes := #[]
  staticTypes := #[]
  resolved := Array.replicate 12 none
  statics := none }

def pool4 : Array CpInfo := pool [(2, .class_ 4), (1, u "java/lang/CharSequence"), (42, .class_ 48), (0, u "java/lang/CharSequence$1CodePointIterator"), (10, .class_ 60), (0, u "java/lang/CharSequence$1CharIterator"), (5, .class_ 67), (0, u "java/lang/Object")] 63

/-- java/lang/CharSequence -/
def k4 : Class := { plain "java/lang/CharSequence" (some 0) with
  accessFlags := 1537
  interfaces := #[]
  cf := some (fileOf pool4 2 #[.nestMembers #[47, 59]] #[] 1537 66 #[] #[])
  fields := #[]
  methods := #[]
  instanceTypes := #[]
  staticTypes := #[]
  resolved := Array.replicate 131 none
  statics := none }

def pool5 : Array CpInfo := pool [(1, .class_ 2), (0, u "java/lang/constant/Constable"), (0, .class_ 4), (0, u "java/lang/Object")] 6

/-- java/lang/constant/Constable -/
def k5 : Class := { plain "java/lang/constant/Constable" (some 0) with
  accessFlags := 1537
  interfaces := #[]
  cf := some (fileOf pool5 1 #[] #[] 1537 3 #[] #[])
  fields := #[]
  methods := #[]
  instanceTypes := #[]
  staticTypes := #[]
  resolved := Array.replicate 11 none
  statics := none }

def pool6 : Array CpInfo := pool [(1, .class_ 2), (0, u "java/lang/constant/ConstantDesc"), (0, .class_ 4), (0, u "java/lang/Object")] 32

/-- java/lang/constant/ConstantDesc -/
def k6 : Class := { plain "java/lang/constant/ConstantDesc" (some 0) with
  accessFlags := 1537
  interfaces := #[]
  cf := some (fileOf pool6 1 #[] #[] 1537 3 #[] #[])
  fields := #[]
  methods := #[]
  instanceTypes := #[]
  staticTypes := #[]
  resolved := Array.replicate 37 none
  statics := none }

def pool7 : Array CpInfo := pool [(1, .methodref 2 3), (0, .class_ 4), (0, .nameAndType 5 6), (0, u "java/lang/Object"), (0, u "<init>"), (0, u "()V"), (0, .string 8), (0, u ""), (0, .fieldref 10 11), (0, .class_ 12), (0, .nameAndType 13 14), (0, u "java/lang/String"), (0, u "value"), (0, u "[B"), (0, .fieldref 10 16), (0, .nameAndType 17 18), (0, u "coder"), (0, u "B"), (2, u "hash"), (0, u "I"), (2, u "hashIsZero"), (0, u "Z"), (0, .methodref 10 28), (0, .nameAndType 5 29), (0, u "([CIILjava/lang/Void;)V"), (8, .fieldref 10 39), (0, .nameAndType 40 26), (0, u "COMPACT_STRINGS"), (1, .class_ 44), (1, u "java/lang/StringUTF16"), (0, u "compress"), (1, .methodref 42 48), (0, .nameAndType 49 50), (0, u "coderFromArrayLen"), (0, u "([BI)B"), (2, u "toBytes"), (53, .class_ 109), (1, u "java/lang/StringLatin1"), (67, .methodref 42 178), (0, .nameAndType 45 179), (0, u "([CII)[B"), (29, .methodref 10 210), (0, .nameAndType 5 211), (0, u "([BB)V"), (157, u "(C)Z"), (173, u "equals"), (29, u "(Ljava/lang/Object;)Z"), (1, .class_ 576), (0, u "java/lang/CharSequence"), (22, u "CASE_INSENSITIVE_ORDER"), (0, u "Ljava/util/Comparator;"), (181, u "valueOf"), (0, u "(C)Ljava/lang/String;"), (226, u "([C)V"), (4, .methodref 107 1016), (0, .nameAndType 1017 369), (0, u "canEncode"), (0, .methodref 107 1019), (0, .nameAndType 53 1020), (0, u "(C)[B"), (80, u "serialPersistentFields"), (0, u "[Ljava/io/ObjectStreamField;"), (0, .class_ 1104), (0, u "java/lang/String$CaseInsensitiveComparator"), (1, .class_ 1107), (0, u "java/io/Serializable"), (0, .class_ 1109), (0, u "java/lang/Comparable"), (0, .class_ 1111), (0, u "java/lang/constant/Constable"), (0, .class_ 1113), (0, u "java/lang/constant/ConstantDesc"), (2, u "serialVersionUID"), (0, u "J"), (3, u "REPL"), (0, u "C"), (2, u "LATIN1"), (1, u "UTF16")] 323

def k7m0 : Method := { name := "<init>", desc := "()V", sig := { parameters := [], returnType := none }, accessFlags := 1, code := none }
def k7c1 : Code := { maxStack := 5, maxLocals := 2, code := jdk_42_method_3_code, exceptionTable := #[], attributes := #[] }
def k7m1 : Method := { name := "<init>", desc := "([C)V", sig := { parameters := [(.array .char)], returnType := none }, accessFlags := 1, code := some k7c1 }
def k7c2 : Code := { maxStack := 2, maxLocals := 3, code := jdk_42_method_66_code, exceptionTable := #[], attributes := #[] }
def k7m2 : Method := { name := "equals", desc := "(Ljava/lang/Object;)Z", sig := { parameters := [(.object "java/lang/Object")], returnType := some .boolean }, accessFlags := 1, code := some k7c2 }
def k7c3 : Code := { maxStack := 4, maxLocals := 1, code := jdk_42_method_139_code, exceptionTable := #[], attributes := #[] }
def k7m3 : Method := { name := "valueOf", desc := "(C)Ljava/lang/String;", sig := { parameters := [.char], returnType := some (.object "java/lang/String") }, accessFlags := 9, code := some k7c3 }
def k7c4 : Code := { maxStack := 4, maxLocals := 6, code := jdk_42_method_149_code, exceptionTable := #[], attributes := #[] }
def k7m4 : Method := { name := "<init>", desc := "([CIILjava/lang/Void;)V", sig := { parameters := [(.array .char), .int, .int, (.object "java/lang/Void")], returnType := none }, accessFlags := 2, code := some k7c4 }
def k7c5 : Code := { maxStack := 2, maxLocals := 3, code := jdk_42_method_151_code, exceptionTable := #[], attributes := #[] }
def k7m5 : Method := { name := "<init>", desc := "([BB)V", sig := { parameters := [(.array .byte), .byte], returnType := none }, accessFlags := 0, code := some k7c5 }
/-- java/lang/String -/
def k7 : Class := { plain "java/lang/String" (some 0) with
  accessFlags := 49
  interfaces := #[2, 3, 4, 5, 6]
  cf := some (fileOf pool7 10 #[.nestMembers #[1103]] #[{ accessFlags := 1, nameIndex := 5, descriptorIndex := 6, attributes := #[] }, { accessFlags := 1, nameIndex := 5, descriptorIndex := 1010, attributes := #[] }, { accessFlags := 1, nameIndex := 543, descriptorIndex := 573, attributes := #[] }, { accessFlags := 9, nameIndex := 782, descriptorIndex := 783, attributes := #[] }, { accessFlags := 2, nameIndex := 5, descriptorIndex := 29, attributes := #[] }, { accessFlags := 0, nameIndex := 5, descriptorIndex := 211, attributes := #[] }] 49 2 #[1106, 1108, 575, 1110, 1112] #[{ accessFlags := 18, nameIndex := 13, descriptorIndex := 14, attributes := #[] }, { accessFlags := 18, nameIndex := 17, descriptorIndex := 18, attributes := #[] }, { accessFlags := 2, nameIndex := 21, descriptorIndex := 22, attributes := #[] }, { accessFlags := 2, nameIndex := 25, descriptorIndex := 26, attributes := #[] }, { accessFlags := 26, nameIndex := 1116, descriptorIndex := 1117, attributes := #[] }, { accessFlags := 24, nameIndex := 40, descriptorIndex := 26, attributes := #[] }, { accessFlags := 26, nameIndex := 1101, descriptorIndex := 1102, attributes := #[] }, { accessFlags := 26, nameIndex := 1121, descriptorIndex := 1122, attributes := #[] }, { accessFlags := 25, nameIndex := 599, descriptorIndex := 600, attributes := #[] }, { accessFlags := 24, nameIndex := 1125, descriptorIndex := 18, attributes := #[] }, { accessFlags := 24, nameIndex := 1127, descriptorIndex := 18, attributes := #[] }])
  fields := #[{ name := "value", type := (.array .byte), accessFlags := 18, slot := 0, constantValue := 0 }, { name := "coder", type := .byte, accessFlags := 18, slot := 1, constantValue := 0 }, { name := "hash", type := .int, accessFlags := 2, slot := 2, constantValue := 0 }, { name := "hashIsZero", type := .boolean, accessFlags := 2, slot := 3, constantValue := 0 }, { name := "serialVersionUID", type := .long, accessFlags := 26, slot := 0, constantValue := 0 }, { name := "COMPACT_STRINGS", type := .boolean, accessFlags := 24, slot := 1, constantValue := 0 }, { name := "serialPersistentFields", type := (.array (.object "java/io/ObjectStreamField")), accessFlags := 26, slot := 2, constantValue := 0 }, { name := "REPL", type := .char, accessFlags := 26, slot := 3, constantValue := 0 }, { name := "CASE_INSENSITIVE_ORDER", type := (.object "java/util/Comparator"), accessFlags := 25, slot := 4, constantValue := 0 }, { name := "LATIN1", type := .byte, accessFlags := 24, slot := 5, constantValue := 0 }, { name := "UTF16", type := .byte, accessFlags := 24, slot := 6, constantValue := 0 }]
  methods := #[k7m0, k7m1, k7m2, k7m3, k7m4, k7m5]
  instanceTypes := #[(.array .byte), .byte, .int, .boolean]
  staticTypes := #[.long, .boolean, (.array (.object "java/io/ObjectStreamField")), .char, (.object "java/util/Comparator"), .byte, .byte]
  resolved := Array.replicate 1451 none
  statics := some 0 }

def pool8 : Array CpInfo := pool [(6, .class_ 8), (1, u "java/lang/Object"), (0, u "<init>"), (0, u "()V"), (1, .class_ 14), (1, u "java/lang/StringUTF16"), (31, u "$assertionsDisabled"), (0, u "Z"), (13, u "HI_BYTE_SHIFT"), (0, u "I"), (2, u "LO_BYTE_SHIFT"), (49, .methodref 12 116), (0, .nameAndType 117 118), (0, u "compress"), (0, u "([CI[BII)I"), (3, u "([CII)[B"), (138, u "coderFromArrayLen"), (0, u "([BI)B"), (106, .class_ 371), (1, u "java/lang/StringUTF16$LinesSpliterator"), (58, u "MAX_LENGTH"), (196, .class_ 628), (0, u "java/lang/StringUTF16$CodePointsSpliterator"), (0, .class_ 630), (0, u "java/lang/StringUTF16$CharsSpliterator")] 4

def k8m0 : Method := { name := "<init>", desc := "()V", sig := { parameters := [], returnType := none }, accessFlags := 0, code := none }
def k8c1 : Code := { maxStack := 2, maxLocals := 2, code := jdk_52_method_15_code, exceptionTable := #[], attributes := #[] }
def k8m1 : Method := { name := "coderFromArrayLen", desc := "([BI)B", sig := { parameters := [(.array .byte), .int], returnType := some .byte }, accessFlags := 8, code := some k8c1 }
def k8c2 : Code := { maxStack := 5, maxLocals := 6, code := jdk_52_method_16_code, exceptionTable := #[], attributes := #[] }
def k8m2 : Method := { name := "compress", desc := "([CII)[B", sig := { parameters := [(.array .char), .int, .int], returnType := some (.array .byte) }, accessFlags := 9, code := some k8c2 }
def k8c3 : Code := { maxStack := 3, maxLocals := 7, code := jdk_52_method_21_code, exceptionTable := #[], attributes := #[] }
def k8m3 : Method := { name := "compress", desc := "([CI[BII)I", sig := { parameters := [(.array .char), .int, (.array .byte), .int, .int], returnType := some .int }, accessFlags := 9, code := some k8c3 }
/-- java/lang/StringUTF16 -/
def k8 : Class := { plain "java/lang/StringUTF16" (some 0) with
  accessFlags := 48
  interfaces := #[]
  cf := some (fileOf pool8 12 #[.nestMembers #[627, 629, 369]] #[{ accessFlags := 0, nameIndex := 9, descriptorIndex := 10, attributes := #[] }, { accessFlags := 8, nameIndex := 261, descriptorIndex := 262, attributes := #[] }, { accessFlags := 9, nameIndex := 117, descriptorIndex := 122, attributes := #[] }, { accessFlags := 9, nameIndex := 117, descriptorIndex := 118, attributes := #[] }] 48 6 #[] #[{ accessFlags := 26, nameIndex := 61, descriptorIndex := 62, attributes := #[] }, { accessFlags := 26, nameIndex := 65, descriptorIndex := 62, attributes := #[] }, { accessFlags := 24, nameIndex := 430, descriptorIndex := 62, attributes := #[] }, { accessFlags := 4120, nameIndex := 46, descriptorIndex := 47, attributes := #[] }])
  fields := #[{ name := "HI_BYTE_SHIFT", type := .int, accessFlags := 26, slot := 0, constantValue := 0 }, { name := "LO_BYTE_SHIFT", type := .int, accessFlags := 26, slot := 1, constantValue := 0 }, { name := "MAX_LENGTH", type := .int, accessFlags := 24, slot := 2, constantValue := 0 }, { name := "$assertionsDisabled", type := .boolean, accessFlags := 4120, slot := 3, constantValue := 0 }]
  methods := #[k8m0, k8m1, k8m2, k8m3]
  instanceTypes := #[]
  staticTypes := #[.int, .int, .int, .boolean]
  resolved := Array.replicate 635 none
  statics := none }

def pool9 : Array CpInfo := pool [(1, .methodref 2 3), (0, .class_ 4), (0, .nameAndType 5 6), (0, u "java/lang/Object"), (0, u "<init>"), (0, u "()V"), (0, .class_ 8), (0, u "java/lang/Record")] 13

def k9c0 : Code := { maxStack := 1, maxLocals := 1, code := jdk_30_method_1_code, exceptionTable := #[], attributes := #[] }
def k9m0 : Method := { name := "<init>", desc := "()V", sig := { parameters := [], returnType := none }, accessFlags := 4, code := some k9c0 }
/-- java/lang/Record -/
def k9 : Class := { plain "java/lang/Record" (some 0) with
  accessFlags := 1057
  interfaces := #[]
  cf := some (fileOf pool9 7 #[] #[{ accessFlags := 4, nameIndex := 5, descriptorIndex := 6, attributes := #[] }] 1057 2 #[] #[])
  fields := #[]
  methods := #[k9m0]
  instanceTypes := #[]
  staticTypes := #[]
  resolved := Array.replicate 22 none
  statics := none }

def pool10 : Array CpInfo := pool [(3, .methodref 4 5), (0, .class_ 6), (0, .nameAndType 7 8), (0, u "java/lang/Record"), (0, u "<init>"), (0, u "()V"), (0, .fieldref 10 11), (0, .class_ 12), (0, .nameAndType 13 14), (0, u "com/example/helmstead/helmstead/StoreRequest"), (0, u "kind"), (0, u "Lcom/example/helmstead/helmstead/StoreRequest$Kind;"), (0, .fieldref 10 16), (0, .nameAndType 17 18), (0, u "id"), (0, u "Ljava/lang/String;"), (0, .fieldref 10 20), (0, .nameAndType 21 22), (0, u "leaseMs"), (0, u "J"), (0, .fieldref 10 24), (0, .nameAndType 25 18), (0, u "table"), (0, .fieldref 10 27), (0, .nameAndType 28 18), (0, u "key"), (0, .fieldref 10 30), (0, .nameAndType 31 18), (0, u "value"), (0, .fieldref 10 33), (0, .nameAndType 34 35), (0, u "parts"), (0, u "Ljava/util/List;"), (1, .class_ 39), (1, u "com/example/helmstead/helmstead/StoreRequest$Kind"), (1, .methodref 10 42), (0, .nameAndType 7 43), (0, u "(Lcom/example/helmstead/helmstead/StoreRequest$Kind;Ljava/lang/String;JLjava/lang/String;Ljava/lang/String;Ljava/lang/String;Ljava/util/List;)V"), (3, .fieldref 37 48), (0, .nameAndType 49 14), (0, u "GET"), (51, u "()J"), (50, u "INFO"), (64, u "KINDS"), (3, u "get"), (9, u "()Ljava/lang/String;"), (9, u "STATUS"), (0, u "Lcom/example/helmstead/helmstead/StoreRequest;"), (63, u "MAX_LEASE_MS"), (1, u "MAX_KEY_BYTES"), (0, u "I"), (1, u "MAX_VALUE_BYTES"), (0, u "MAX_BATCH_REQUESTS"), (1, u "MAX_BATCH_BYTES"), (6, u "(Ljava/lang/String;Ljava/lang/String;)Lcom/example/helmstead/helmstead/StoreRequest;"), (8, u "()Lcom/example/helmstead/helmstead/StoreRequest$Kind;"), (0, u "()Ljava/util/List;")] 69

def k10c0 : Code := { maxStack := 3, maxLocals := 9, code := prog_29_method_1_code, exceptionTable := #[], attributes := #[] }
def k10m0 : Method := { name := "<init>", desc := "(Lcom/example/helmstead/helmstead/StoreRequest$Kind;Ljava/lang/String;JLjava/lang/String;Ljava/lang/String;Ljava/lang/String;Ljava/util/List;)V", sig := { parameters := [(.object "com/example/helmstead/helmstead/StoreRequest$Kind"), (.object "java/lang/String"), .long, (.object "java/lang/String"), (.object "java/lang/String"), (.object "java/lang/String"), (.object "java/util/List")], returnType := none }, accessFlags := 0, code := some k10c0 }
def k10c1 : Code := { maxStack := 10, maxLocals := 2, code := prog_29_method_4_code, exceptionTable := #[], attributes := #[] }
def k10m1 : Method := { name := "get", desc := "(Ljava/lang/String;Ljava/lang/String;)Lcom/example/helmstead/helmstead/StoreRequest;", sig := { parameters := [(.object "java/lang/String"), (.object "java/lang/String")], returnType := some (.object "com/example/helmstead/helmstead/StoreRequest") }, accessFlags := 8, code := some k10c1 }
def k10c2 : Code := { maxStack := 1, maxLocals := 1, code := prog_29_method_27_code, exceptionTable := #[], attributes := #[] }
def k10m2 : Method := { name := "kind", desc := "()Lcom/example/helmstead/helmstead/StoreRequest$Kind;", sig := { parameters := [], returnType := some (.object "com/example/helmstead/helmstead/StoreRequest$Kind") }, accessFlags := 1, code := some k10c2 }
def k10c3 : Code := { maxStack := 1, maxLocals := 1, code := prog_29_method_28_code, exceptionTable := #[], attributes := #[] }
def k10m3 : Method := { name := "id", desc := "()Ljava/lang/String;", sig := { parameters := [], returnType := some (.object "java/lang/String") }, accessFlags := 1, code := some k10c3 }
def k10c4 : Code := { maxStack := 2, maxLocals := 1, code := prog_29_method_29_code, exceptionTable := #[], attributes := #[] }
def k10m4 : Method := { name := "leaseMs", desc := "()J", sig := { parameters := [], returnType := some .long }, accessFlags := 1, code := some k10c4 }
def k10c5 : Code := { maxStack := 1, maxLocals := 1, code := prog_29_method_30_code, exceptionTable := #[], attributes := #[] }
def k10m5 : Method := { name := "table", desc := "()Ljava/lang/String;", sig := { parameters := [], returnType := some (.object "java/lang/String") }, accessFlags := 1, code := some k10c5 }
def k10c6 : Code := { maxStack := 1, maxLocals := 1, code := prog_29_method_31_code, exceptionTable := #[], attributes := #[] }
def k10m6 : Method := { name := "key", desc := "()Ljava/lang/String;", sig := { parameters := [], returnType := some (.object "java/lang/String") }, accessFlags := 1, code := some k10c6 }
def k10c7 : Code := { maxStack := 1, maxLocals := 1, code := prog_29_method_32_code, exceptionTable := #[], attributes := #[] }
def k10m7 : Method := { name := "value", desc := "()Ljava/lang/String;", sig := { parameters := [], returnType := some (.object "java/lang/String") }, accessFlags := 1, code := some k10c7 }
def k10c8 : Code := { maxStack := 1, maxLocals := 1, code := prog_29_method_33_code, exceptionTable := #[], attributes := #[] }
def k10m8 : Method := { name := "parts", desc := "()Ljava/util/List;", sig := { parameters := [], returnType := some (.object "java/util/List") }, accessFlags := 1, code := some k10c8 }
/-- com/example/helmstead/helmstead/StoreRequest -/
def k10 : Class := { plain "com/example/helmstead/helmstead/StoreRequest" (some 9) with
  accessFlags := 48
  interfaces := #[]
  cf := some (fileOf pool10 10 #[.nestMembers #[37]] #[{ accessFlags := 0, nameIndex := 7, descriptorIndex := 43, attributes := #[] }, { accessFlags := 8, nameIndex := 221, descriptorIndex := 321, attributes := #[] }, { accessFlags := 1, nameIndex := 13, descriptorIndex := 330, attributes := #[] }, { accessFlags := 1, nameIndex := 17, descriptorIndex := 231, attributes := #[] }, { accessFlags := 1, nameIndex := 21, descriptorIndex := 101, attributes := #[] }, { accessFlags := 1, nameIndex := 25, descriptorIndex := 231, attributes := #[] }, { accessFlags := 1, nameIndex := 28, descriptorIndex := 231, attributes := #[] }, { accessFlags := 1, nameIndex := 31, descriptorIndex := 231, attributes := #[] }, { accessFlags := 1, nameIndex := 34, descriptorIndex := 331, attributes := #[] }] 48 4 #[] #[{ accessFlags := 18, nameIndex := 13, descriptorIndex := 14, attributes := #[] }, { accessFlags := 18, nameIndex := 17, descriptorIndex := 18, attributes := #[] }, { accessFlags := 18, nameIndex := 21, descriptorIndex := 22, attributes := #[] }, { accessFlags := 18, nameIndex := 25, descriptorIndex := 18, attributes := #[] }, { accessFlags := 18, nameIndex := 28, descriptorIndex := 18, attributes := #[] }, { accessFlags := 18, nameIndex := 31, descriptorIndex := 18, attributes := #[] }, { accessFlags := 18, nameIndex := 34, descriptorIndex := 35, attributes := #[] }, { accessFlags := 26, nameIndex := 217, descriptorIndex := 35, attributes := #[] }, { accessFlags := 24, nameIndex := 241, descriptorIndex := 242, attributes := #[] }, { accessFlags := 24, nameIndex := 152, descriptorIndex := 242, attributes := #[] }, { accessFlags := 24, nameIndex := 306, descriptorIndex := 22, attributes := #[] }, { accessFlags := 24, nameIndex := 308, descriptorIndex := 309, attributes := #[] }, { accessFlags := 24, nameIndex := 311, descriptorIndex := 309, attributes := #[] }, { accessFlags := 24, nameIndex := 312, descriptorIndex := 309, attributes := #[] }, { accessFlags := 24, nameIndex := 314, descriptorIndex := 309, attributes := #[] }])
  fields := #[{ name := "kind", type := (.object "com/example/helmstead/helmstead/StoreRequest$Kind"), accessFlags := 18, slot := 0, constantValue := 0 }, { name := "id", type := (.object "java/lang/String"), accessFlags := 18, slot := 1, constantValue := 0 }, { name := "leaseMs", type := .long, accessFlags := 18, slot := 2, constantValue := 0 }, { name := "table", type := (.object "java/lang/String"), accessFlags := 18, slot := 3, constantValue := 0 }, { name := "key", type := (.object "java/lang/String"), accessFlags := 18, slot := 4, constantValue := 0 }, { name := "value", type := (.object "java/lang/String"), accessFlags := 18, slot := 5, constantValue := 0 }, { name := "parts", type := (.object "java/util/List"), accessFlags := 18, slot := 6, constantValue := 0 }, { name := "KINDS", type := (.object "java/util/List"), accessFlags := 26, slot := 0, constantValue := 0 }, { name := "STATUS", type := (.object "com/example/helmstead/helmstead/StoreRequest"), accessFlags := 24, slot := 1, constantValue := 0 }, { name := "INFO", type := (.object "com/example/helmstead/helmstead/StoreRequest"), accessFlags := 24, slot := 2, constantValue := 0 }, { name := "MAX_LEASE_MS", type := .long, accessFlags := 24, slot := 3, constantValue := 0 }, { name := "MAX_KEY_BYTES", type := .int, accessFlags := 24, slot := 4, constantValue := 0 }, { name := "MAX_VALUE_BYTES", type := .int, accessFlags := 24, slot := 5, constantValue := 0 }, { name := "MAX_BATCH_REQUESTS", type := .int, accessFlags := 24, slot := 6, constantValue := 0 }, { name := "MAX_BATCH_BYTES", type := .int, accessFlags := 24, slot := 7, constantValue := 0 }]
  methods := #[k10m0, k10m1, k10m2, k10m3, k10m4, k10m5, k10m6, k10m7, k10m8]
  instanceTypes := #[(.object "com/example/helmstead/helmstead/StoreRequest$Kind"), (.object "java/lang/String"), .long, (.object "java/lang/String"), (.object "java/lang/String"), (.object "java/lang/String"), (.object "java/util/List")]
  staticTypes := #[(.object "java/util/List"), (.object "com/example/helmstead/helmstead/StoreRequest"), (.object "com/example/helmstead/helmstead/StoreRequest"), .long, .int, .int, .int, .int]
  resolved := Array.replicate 401 none
  statics := none }

def pool11 : Array CpInfo := pool [(2, .class_ 4), (1, u "java/lang/Enum"), (0, u "name"), (0, u "Ljava/lang/String;"), (2, u "ordinal"), (0, u "I"), (1, .class_ 14), (1, u "java/lang/Object"), (4, u "hash"), (86, .class_ 108), (1, u "java/lang/Enum$EnumDesc"), (2, .class_ 112), (0, u "java/lang/constant/Constable"), (0, .class_ 114), (0, u "java/lang/Comparable"), (0, .class_ 116), (0, u "java/io/Serializable")] 87

/-- java/lang/Enum -/
def k11 : Class := { plain "java/lang/Enum" (some 0) with
  accessFlags := 1057
  interfaces := #[5, 3, 2]
  cf := some (fileOf pool11 2 #[.nestMembers #[106]] #[] 1057 12 #[111, 113, 115] #[{ accessFlags := 18, nameIndex := 5, descriptorIndex := 6, attributes := #[] }, { accessFlags := 18, nameIndex := 9, descriptorIndex := 10, attributes := #[] }, { accessFlags := 2, nameIndex := 19, descriptorIndex := 10, attributes := #[] }])
  fields := #[{ name := "name", type := (.object "java/lang/String"), accessFlags := 18, slot := 0, constantValue := 0 }, { name := "ordinal", type := .int, accessFlags := 18, slot := 1, constantValue := 0 }, { name := "hash", type := .int, accessFlags := 2, slot := 2, constantValue := 0 }]
  methods := #[]
  instanceTypes := #[(.object "java/lang/String"), .int, .int]
  staticTypes := #[]
  resolved := Array.replicate 204 none
  statics := none }

def pool12 : Array CpInfo := pool [(1, .class_ 2), (0, u "com/example/helmstead/helmstead/StoreRequest$Kind"), (2, u "ACQUIRE"), (0, u "Lcom/example/helmstead/helmstead/StoreRequest$Kind;"), (2, u "STATUS"), (2, u "INFO"), (2, u "PUT"), (2, u "GET"), (2, u "REMOVE"), (2, u "LIST"), (2, u "INCREMENT"), (2, u "BATCH"), (2, u "$VALUES"), (0, u "[Lcom/example/helmstead/helmstead/StoreRequest$Kind;"), (6, .class_ 43), (1, u "java/lang/Enum"), (32, .class_ 77), (0, u "com/example/helmstead/helmstead/StoreRequest")] 2

/-- com/example/helmstead/helmstead/StoreRequest$Kind -/
def k12 : Class := { plain "com/example/helmstead/helmstead/StoreRequest$Kind" (some 11) with
  accessFlags := 16432
  interfaces := #[]
  cf := some (fileOf pool12 1 #[.nestHost 76] #[] 16432 41 #[] #[{ accessFlags := 16409, nameIndex := 5, descriptorIndex := 6, attributes := #[] }, { accessFlags := 16409, nameIndex := 9, descriptorIndex := 6, attributes := #[] }, { accessFlags := 16409, nameIndex := 12, descriptorIndex := 6, attributes := #[] }, { accessFlags := 16409, nameIndex := 15, descriptorIndex := 6, attributes := #[] }, { accessFlags := 16409, nameIndex := 18, descriptorIndex := 6, attributes := #[] }, { accessFlags := 16409, nameIndex := 21, descriptorIndex := 6, attributes := #[] }, { accessFlags := 16409, nameIndex := 24, descriptorIndex := 6, attributes := #[] }, { accessFlags := 16409, nameIndex := 27, descriptorIndex := 6, attributes := #[] }, { accessFlags := 16409, nameIndex := 30, descriptorIndex := 6, attributes := #[] }, { accessFlags := 4122, nameIndex := 33, descriptorIndex := 34, attributes := #[] }])
  fields := #[{ name := "ACQUIRE", type := (.object "com/example/helmstead/helmstead/StoreRequest$Kind"), accessFlags := 16409, slot := 0, constantValue := 0 }, { name := "STATUS", type := (.object "com/example/helmstead/helmstead/StoreRequest$Kind"), accessFlags := 16409, slot := 1, constantValue := 0 }, { name := "INFO", type := (.object "com/example/helmstead/helmstead/StoreRequest$Kind"), accessFlags := 16409, slot := 2, constantValue := 0 }, { name := "PUT", type := (.object "com/example/helmstead/helmstead/StoreRequest$Kind"), accessFlags := 16409, slot := 3, constantValue := 0 }, { name := "GET", type := (.object "com/example/helmstead/helmstead/StoreRequest$Kind"), accessFlags := 16409, slot := 4, constantValue := 0 }, { name := "REMOVE", type := (.object "com/example/helmstead/helmstead/StoreRequest$Kind"), accessFlags := 16409, slot := 5, constantValue := 0 }, { name := "LIST", type := (.object "com/example/helmstead/helmstead/StoreRequest$Kind"), accessFlags := 16409, slot := 6, constantValue := 0 }, { name := "INCREMENT", type := (.object "com/example/helmstead/helmstead/StoreRequest$Kind"), accessFlags := 16409, slot := 7, constantValue := 0 }, { name := "BATCH", type := (.object "com/example/helmstead/helmstead/StoreRequest$Kind"), accessFlags := 16409, slot := 8, constantValue := 0 }, { name := "$VALUES", type := (.array (.object "com/example/helmstead/helmstead/StoreRequest$Kind")), accessFlags := 4122, slot := 9, constantValue := 0 }]
  methods := #[]
  instanceTypes := #[(.object "java/lang/String"), .int, .int]
  staticTypes := #[(.object "com/example/helmstead/helmstead/StoreRequest$Kind"), (.object "com/example/helmstead/helmstead/StoreRequest$Kind"), (.object "com/example/helmstead/helmstead/StoreRequest$Kind"), (.object "com/example/helmstead/helmstead/StoreRequest$Kind"), (.object "com/example/helmstead/helmstead/StoreRequest$Kind"), (.object "com/example/helmstead/helmstead/StoreRequest$Kind"), (.object "com/example/helmstead/helmstead/StoreRequest$Kind"), (.object "com/example/helmstead/helmstead/StoreRequest$Kind"), (.object "com/example/helmstead/helmstead/StoreRequest$Kind"), (.array (.object "com/example/helmstead/helmstead/StoreRequest$Kind"))]
  resolved := Array.replicate 80 none
  statics := some 1 }

def pool13 : Array CpInfo := pool [(4, .class_ 6), (1, u "java/lang/Object"), (0, u "<init>"), (0, u "()V"), (5, .class_ 16), (1, u "java/lang/StringLatin1"), (73, u "canEncode"), (14, u "(C)Z"), (15, u "$assertionsDisabled"), (0, u "Z"), (98, .class_ 223), (1, u "java/lang/StringLatin1$LinesSpliterator"), (156, u "toBytes"), (1, u "(C)[B"), (7, .class_ 391), (0, u "java/lang/StringLatin1$CharsSpliterator")] 3

def k13m0 : Method := { name := "<init>", desc := "()V", sig := { parameters := [], returnType := none }, accessFlags := 0, code := none }
def k13c1 : Code := { maxStack := 2, maxLocals := 1, code := jdk_43_method_3_code, exceptionTable := #[], attributes := #[] }
def k13m1 : Method := { name := "canEncode", desc := "(C)Z", sig := { parameters := [.char], returnType := some .boolean }, accessFlags := 9, code := some k13c1 }
def k13c2 : Code := { maxStack := 4, maxLocals := 1, code := jdk_43_method_46_code, exceptionTable := #[], attributes := #[] }
def k13m2 : Method := { name := "toBytes", desc := "(C)[B", sig := { parameters := [.char], returnType := some (.array .byte) }, accessFlags := 9, code := some k13c2 }
/-- java/lang/StringLatin1 -/
def k13 : Class := { plain "java/lang/StringLatin1" (some 0) with
  accessFlags := 48
  interfaces := #[]
  cf := some (fileOf pool13 14 #[.nestMembers #[390, 221]] #[{ accessFlags := 0, nameIndex := 7, descriptorIndex := 8, attributes := #[] }, { accessFlags := 9, nameIndex := 90, descriptorIndex := 105, attributes := #[] }, { accessFlags := 9, nameIndex := 380, descriptorIndex := 382, attributes := #[] }] 48 4 #[] #[{ accessFlags := 4120, nameIndex := 121, descriptorIndex := 122, attributes := #[] }])
  fields := #[{ name := "$assertionsDisabled", type := .boolean, accessFlags := 4120, slot := 0, constantValue := 0 }]
  methods := #[k13m0, k13m1, k13m2]
  instanceTypes := #[]
  staticTypes := #[.boolean]
  resolved := Array.replicate 395 none
  statics := none }

def pool14 : Array CpInfo := pool [(2, .class_ 4), (1, u "java/lang/Object"), (0, u "<init>"), (0, u "()V"), (17, .class_ 26), (1, u "jdk/internal/util/Preconditions"), (28, .class_ 56), (0, u "jdk/internal/util/Preconditions$4"), (57, .class_ 115), (0, u "jdk/internal/util/Preconditions$1"), (7, u "SIOOBE_FORMATTER"), (0, u "Ljava/util/function/BiFunction;"), (0, .class_ 126), (0, u "jdk/internal/util/Preconditions$2"), (3, u "AIOOBE_FORMATTER"), (0, .class_ 132), (0, u "jdk/internal/util/Preconditions$3"), (3, u "IOOBE_FORMATTER")] 57

def k14m0 : Method := { name := "<init>", desc := "()V", sig := { parameters := [], returnType := none }, accessFlags := 1, code := none }
/-- jdk/internal/util/Preconditions -/
def k14 : Class := { plain "jdk/internal/util/Preconditions" (some 0) with
  accessFlags := 33
  interfaces := #[]
  cf := some (fileOf pool14 24 #[.nestMembers #[55, 131, 125, 114]] #[{ accessFlags := 1, nameIndex := 5, descriptorIndex := 6, attributes := #[] }] 33 2 #[] #[{ accessFlags := 25, nameIndex := 123, descriptorIndex := 124, attributes := #[] }, { accessFlags := 25, nameIndex := 130, descriptorIndex := 124, attributes := #[] }, { accessFlags := 25, nameIndex := 136, descriptorIndex := 124, attributes := #[] }])
  fields := #[{ name := "SIOOBE_FORMATTER", type := (.object "java/util/function/BiFunction"), accessFlags := 25, slot := 0, constantValue := 0 }, { name := "AIOOBE_FORMATTER", type := (.object "java/util/function/BiFunction"), accessFlags := 25, slot := 1, constantValue := 0 }, { name := "IOOBE_FORMATTER", type := (.object "java/util/function/BiFunction"), accessFlags := 25, slot := 2, constantValue := 0 }]
  methods := #[k14m0]
  instanceTypes := #[]
  staticTypes := #[(.object "java/util/function/BiFunction"), (.object "java/util/function/BiFunction"), (.object "java/util/function/BiFunction")]
  resolved := Array.replicate 194 none
  statics := some 2 }

def pool15 : Array CpInfo := pool [(9, u "<init>"), (6, .class_ 18), (1, u "java/lang/Object"), (0, u "()V"), (1, .class_ 23), (1, u "jdk/internal/util/ArraysSupport"), (0, u "LOG2_ARRAY_LONG_INDEX_SCALE"), (0, u "I"), (2, u "U"), (0, u "Ljdk/internal/misc/Unsafe;"), (8, u "BIG_ENDIAN"), (0, u "Z"), (8, u "LOG2_BYTE_BIT_SIZE"), (4, u "LOG2_ARRAY_INT_INDEX_SCALE"), (54, u "JLA"), (0, u "Ljdk/internal/access/JavaLangAccess;"), (11, u "LOG2_ARRAY_BOOLEAN_INDEX_SCALE"), (9, u "LOG2_ARRAY_BYTE_INDEX_SCALE"), (5, u "LOG2_ARRAY_CHAR_INDEX_SCALE"), (5, u "LOG2_ARRAY_SHORT_INDEX_SCALE"), (18, u "LOG2_ARRAY_FLOAT_INDEX_SCALE"), (24, u "LOG2_ARRAY_DOUBLE_INDEX_SCALE"), (89, u "T_BOOLEAN"), (2, u "T_CHAR"), (1, u "T_FLOAT"), (1, u "T_DOUBLE"), (1, u "T_BYTE"), (1, u "T_SHORT"), (1, u "T_INT"), (1, u "T_LONG"), (1, u "SOFT_MAX_ARRAY_LENGTH")] 83

def k15m0 : Method := { name := "<init>", desc := "()V", sig := { parameters := [], returnType := none }, accessFlags := 2, code := none }
/-- jdk/internal/util/ArraysSupport -/
def k15 : Class := { plain "jdk/internal/util/ArraysSupport" (some 0) with
  accessFlags := 33
  interfaces := #[]
  cf := some (fileOf pool15 21 #[] #[{ accessFlags := 2, nameIndex := 9, descriptorIndex := 19, attributes := #[] }] 33 16 #[] #[{ accessFlags := 24, nameIndex := 28, descriptorIndex := 29, attributes := #[] }, { accessFlags := 26, nameIndex := 38, descriptorIndex := 39, attributes := #[] }, { accessFlags := 25, nameIndex := 121, descriptorIndex := 25, attributes := #[] }, { accessFlags := 25, nameIndex := 131, descriptorIndex := 25, attributes := #[] }, { accessFlags := 25, nameIndex := 137, descriptorIndex := 25, attributes := #[] }, { accessFlags := 25, nameIndex := 143, descriptorIndex := 25, attributes := #[] }, { accessFlags := 25, nameIndex := 53, descriptorIndex := 25, attributes := #[] }, { accessFlags := 25, nameIndex := 24, descriptorIndex := 25, attributes := #[] }, { accessFlags := 25, nameIndex := 162, descriptorIndex := 25, attributes := #[] }, { accessFlags := 25, nameIndex := 187, descriptorIndex := 25, attributes := #[] }, { accessFlags := 26, nameIndex := 48, descriptorIndex := 25, attributes := #[] }, { accessFlags := 25, nameIndex := 277, descriptorIndex := 25, attributes := #[] }, { accessFlags := 25, nameIndex := 280, descriptorIndex := 25, attributes := #[] }, { accessFlags := 25, nameIndex := 282, descriptorIndex := 25, attributes := #[] }, { accessFlags := 25, nameIndex := 284, descriptorIndex := 25, attributes := #[] }, { accessFlags := 25, nameIndex := 286, descriptorIndex := 25, attributes := #[] }, { accessFlags := 25, nameIndex := 288, descriptorIndex := 25, attributes := #[] }, { accessFlags := 25, nameIndex := 290, descriptorIndex := 25, attributes := #[] }, { accessFlags := 25, nameIndex := 292, descriptorIndex := 25, attributes := #[] }, { accessFlags := 26, nameIndex := 108, descriptorIndex := 109, attributes := #[] }, { accessFlags := 25, nameIndex := 294, descriptorIndex := 25, attributes := #[] }])
  fields := #[{ name := "U", type := (.object "jdk/internal/misc/Unsafe"), accessFlags := 24, slot := 0, constantValue := 0 }, { name := "BIG_ENDIAN", type := .boolean, accessFlags := 26, slot := 1, constantValue := 0 }, { name := "LOG2_ARRAY_BOOLEAN_INDEX_SCALE", type := .int, accessFlags := 25, slot := 2, constantValue := 0 }, { name := "LOG2_ARRAY_BYTE_INDEX_SCALE", type := .int, accessFlags := 25, slot := 3, constantValue := 0 }, { name := "LOG2_ARRAY_CHAR_INDEX_SCALE", type := .int, accessFlags := 25, slot := 4, constantValue := 0 }, { name := "LOG2_ARRAY_SHORT_INDEX_SCALE", type := .int, accessFlags := 25, slot := 5, constantValue := 0 }, { name := "LOG2_ARRAY_INT_INDEX_SCALE", type := .int, accessFlags := 25, slot := 6, constantValue := 0 }, { name := "LOG2_ARRAY_LONG_INDEX_SCALE", type := .int, accessFlags := 25, slot := 7, constantValue := 0 }, { name := "LOG2_ARRAY_FLOAT_INDEX_SCALE", type := .int, accessFlags := 25, slot := 8, constantValue := 0 }, { name := "LOG2_ARRAY_DOUBLE_INDEX_SCALE", type := .int, accessFlags := 25, slot := 9, constantValue := 0 }, { name := "LOG2_BYTE_BIT_SIZE", type := .int, accessFlags := 26, slot := 10, constantValue := 0 }, { name := "T_BOOLEAN", type := .int, accessFlags := 25, slot := 11, constantValue := 0 }, { name := "T_CHAR", type := .int, accessFlags := 25, slot := 12, constantValue := 0 }, { name := "T_FLOAT", type := .int, accessFlags := 25, slot := 13, constantValue := 0 }, { name := "T_DOUBLE", type := .int, accessFlags := 25, slot := 14, constantValue := 0 }, { name := "T_BYTE", type := .int, accessFlags := 25, slot := 15, constantValue := 0 }, { name := "T_SHORT", type := .int, accessFlags := 25, slot := 16, constantValue := 0 }, { name := "T_INT", type := .int, accessFlags := 25, slot := 17, constantValue := 0 }, { name := "T_LONG", type := .int, accessFlags := 25, slot := 18, constantValue := 0 }, { name := "JLA", type := (.object "jdk/internal/access/JavaLangAccess"), accessFlags := 26, slot := 19, constantValue := 0 }, { name := "SOFT_MAX_ARRAY_LENGTH", type := .int, accessFlags := 25, slot := 20, constantValue := 0 }]
  methods := #[k15m0]
  instanceTypes := #[]
  staticTypes := #[(.object "jdk/internal/misc/Unsafe"), .boolean, .int, .int, .int, .int, .int, .int, .int, .int, .int, .int, .int, .int, .int, .int, .int, .int, .int, (.object "jdk/internal/access/JavaLangAccess"), .int]
  resolved := Array.replicate 378 none
  statics := none }

def pool16 : Array CpInfo := pool [(1, u "java/lang/Cloneable"), (0, .class_ 1), (0, u "java/lang/Object"), (0, .class_ 3)] 3

/-- java/lang/Cloneable -/
def k16 : Class := { plain "java/lang/Cloneable" (some 0) with
  accessFlags := 1537
  interfaces := #[]
  cf := some (fileOf pool16 2 #[] #[] 1537 4 #[] #[])
  fields := #[]
  methods := #[]
  instanceTypes := #[]
  staticTypes := #[]
  resolved := Array.replicate 8 none
  statics := none }

/-- the primitive byte -/
def k17 : Class := { plain "byte" none with kind := .primitive 'B', accessFlags := 0x411 }
/-- [B -/
def k18 : Class := { plain "[B" (some 0) with kind := .array 17 .byte, interfaces := #[16, 2], accessFlags := 1041 }

/-- the primitive char -/
def k19 : Class := { plain "char" none with kind := .primitive 'C', accessFlags := 0x411 }
/-- [C -/
def k20 : Class := { plain "[C" (some 0) with kind := .array 19 .char, interfaces := #[16, 2], accessFlags := 1041 }

/-- the primitive int -/
def k21 : Class := { plain "int" none with kind := .primitive 'I', accessFlags := 0x411 }
/-- [I -/
def k22 : Class := { plain "[I" (some 0) with kind := .array 21 .int, interfaces := #[16, 2], accessFlags := 1041 }

def heap : Heap := #[{ cls := 7, slots := #[.long 0, .int 1, .null, .int 0, .null, .int 0, .int 0], vm := .statics 7 },
  { cls := 12, slots := #[.null, .null, .null, .null, .ref 3, .null, .null, .null, .null, .null], vm := .statics 12 },
  { cls := 14, slots := #[.null, .null, .null], vm := .statics 14 },
  { cls := 12, slots := #[.null, .int 0, .int 0], vm := .none }]
def classes : Array Class := #[k0, k1, k2, k3, k4, k5, k6, k7, k8, k9, k10, k11, k12, k13, k14, k15, k16, k17, k18, k19, k20, k21, k22]
def interned : List (Array UInt16 × Addr) := []
def slotsUsed : Nat := 23
def theMethod : MethodId := ⟨1, 3⟩
def args0 : Array Value := #[.int 5, .int 6, .int 7]
def aboutOver (below : List Frame) : State where
  vm := { classes := classes, interned := interned.toArray }
  heap := heap
  slotsUsed := slotsUsed
  threads := #[{ frames := .invoking theMethod args0 :: below }]
def below0 : List Frame := [.native { method := ⟨0, 0⟩, args := #[] }]
def about1 : State := aboutOver below0
def p0 : Program := .bare "" "" ""
def e0 : Env := launch0.env 0 0 0
theorem w_frames : about1.frames = Frame.invoking theMethod args0 :: below0 := rfl
set_option maxRecDepth 65536 in
theorem w_args : argsFit about1.vm theMethod args0 = true := by decide +kernel
set_option maxRecDepth 65536 in
theorem w_heap : heapFits about1 = true := by decide +kernel
set_option maxRecDepth 65536 in
theorem w_runnable : about1.curStatus? = some .runnable := by decide +kernel
set_option maxRecDepth 65536 in
theorem w_alone : about1.alone = true := by decide +kernel
set_option maxRecDepth 65536 in
theorem w_named : about1.methodNamed? x = some theMethod := by decide +kernel
set_option maxRecDepth 65536 in
theorem w_hears : about1.hears theMethod below0 = true := by decide +kernel
set_option maxRecDepth 65536 in
theorem w_ripe : about1.ripe theMethod args0 below0 = true := by decide +kernel
theorem w_running : about1.status = .running := rfl
set_option maxRecDepth 65536 in
theorem w_room : about1.hasRoom e0.platform room_1 = true :=
  launch0.hasRoom_least _ room_1 (by decide +kernel) (by decide +kernel) (by decide +kernel) (by decide +kernel) (by decide +kernel) (by decide +kernel)
theorem allAtoms_all (ts : List Jvm.Cond) (a : Array Jvm.Value) (st : Jvm.State) : (allAtoms ts).before a st = ts.all (fun c => c.before a st) := by
  induction ts with
  | nil => rfl
  | cons c t ih =>
    show (Jvm.Cond.and c (allAtoms t)).before a st = _
    rw [Jvm.Cond.before_and, ih, List.all_cons]
def words1 : List Jvm.Cond := Jvm.Cond.code x code maxLocals ret :: tables_1
/-- a 'code' word, met by the world's own term for the bytes: nothing is compared byte by byte -/
theorem code_word {y : MethodName} {bytes : ByteArray} {mx : Nat} {rt : Option FieldType} {a : Array Value} {s : State} {m : MethodId} {meth : Method} {c : Code} (h1 : s.methodNamed? y = some m) (h2 : s.vm.method? m = some meth) (h3 : meth.code = some c) (h4 : c.code = bytes)
    (h5 : (c.maxLocals == mx && c.exceptionTable.isEmpty && decide (c.maxStack ≤ mostOperands) && decide (meth.sig.returnType = rt) && !meth.locks && decide (parseMethodDescriptor y.desc = some meth.sig)) = true) : (Jvm.Cond.code y bytes mx rt).before a s = true := by
  simp only [Bool.and_eq_true, beq_iff_eq, Bool.not_eq_true', decide_eq_true_eq] at h5
  obtain ⟨⟨⟨⟨⟨g1, g2⟩, g3⟩, g4⟩, g5⟩, g6⟩ := h5
  simp [Cond.before, Cond.holds, Cond.value, h1, h2, h3, h4, g1, g2, g3, g4, g5, g6]
def isCode : Jvm.Cond → Bool
  | .code _ _ _ _ => true
  | _ => false
theorem all_split {L : List Jvm.Cond} {P : Jvm.Cond → Bool} (h1 : L.all (fun c => isCode c || P c) = true) (h2 : ∀ c ∈ L.filter isCode, P c = true) : L.all P = true := by
  refine List.all_eq_true.mpr fun c hc => ?_
  have h := List.all_eq_true.mp h1 c hc
  rcases Bool.eq_false_or_eq_true (isCode c) with hi | hi
  · exact h2 c (List.mem_filter.mpr ⟨hc, hi⟩)
  · simpa [hi] using h
set_option maxRecDepth 65536 in
theorem w_c0 : (Jvm.Cond.code x code maxLocals ret).before args0 about1 = true := code_word (m := ⟨1, 3⟩) (meth := k1m3) (c := k1c3) (by decide +kernel) rfl rfl rfl (by decide +kernel)
set_option maxRecDepth 65536 in
theorem w_c1 : (Jvm.Cond.code ({ cls := "com/example/helmstead/helmstead/StoreRequestGetPinLaw", name := "text", desc := "(II)Ljava/lang/String;" } : Jvm.MethodName) method_3_code (4 : Nat) (Option.some (Jvm.ClassFile.FieldType.object "java/lang/String"))).before args0 about1 = true := code_word (m := ⟨1, 2⟩) (meth := k1m2) (c := k1c2) (by decide +kernel) rfl rfl rfl (by decide +kernel)
set_option maxRecDepth 65536 in
theorem w_c2 : (Jvm.Cond.code ({ cls := "java/lang/String", name := "<init>", desc := "([C)V" } : Jvm.MethodName) jdk_42_method_3_code (2 : Nat) (Option.none : Option Jvm.ClassFile.FieldType)).before args0 about1 = true := code_word (m := ⟨7, 1⟩) (meth := k7m1) (c := k7c1) (by decide +kernel) rfl rfl rfl (by decide +kernel)
set_option maxRecDepth 65536 in
theorem w_c3 : (Jvm.Cond.code ({ cls := "java/lang/String", name := "<init>", desc := "([CIILjava/lang/Void;)V" } : Jvm.MethodName) jdk_42_method_149_code (6 : Nat) (Option.none : Option Jvm.ClassFile.FieldType)).before args0 about1 = true := code_word (m := ⟨7, 4⟩) (meth := k7m4) (c := k7c4) (by decide +kernel) rfl rfl rfl (by decide +kernel)
set_option maxRecDepth 65536 in
theorem w_c4 : (Jvm.Cond.code ({ cls := "java/lang/Object", name := "<init>", desc := "()V" } : Jvm.MethodName) object_method_1_code (1 : Nat) (Option.none : Option Jvm.ClassFile.FieldType)).before args0 about1 = true := code_word (m := ⟨0, 0⟩) (meth := k0m0) (c := k0c0) (by decide +kernel) rfl rfl rfl (by decide +kernel)
set_option maxRecDepth 65536 in
theorem w_c5 : (Jvm.Cond.code ({ cls := "java/lang/StringUTF16", name := "compress", desc := "([CII)[B" } : Jvm.MethodName) jdk_52_method_16_code (6 : Nat) (Option.some (Jvm.ClassFile.FieldType.array Jvm.ClassFile.FieldType.byte))).before args0 about1 = true := code_word (m := ⟨8, 2⟩) (meth := k8m2) (c := k8c2) (by decide +kernel) rfl rfl rfl (by decide +kernel)
set_option maxRecDepth 65536 in
theorem w_c6 : (Jvm.Cond.code ({ cls := "java/lang/StringUTF16", name := "compress", desc := "([CI[BII)I" } : Jvm.MethodName) jdk_52_method_21_code (7 : Nat) (Option.some Jvm.ClassFile.FieldType.int)).before args0 about1 = true := code_word (m := ⟨8, 3⟩) (meth := k8m3) (c := k8c3) (by decide +kernel) rfl rfl rfl (by decide +kernel)
set_option maxRecDepth 65536 in
theorem w_c7 : (Jvm.Cond.code ({ cls := "java/lang/StringUTF16", name := "coderFromArrayLen", desc := "([BI)B" } : Jvm.MethodName) jdk_52_method_15_code (2 : Nat) (Option.some Jvm.ClassFile.FieldType.byte)).before args0 about1 = true := code_word (m := ⟨8, 1⟩) (meth := k8m1) (c := k8c1) (by decide +kernel) rfl rfl rfl (by decide +kernel)
set_option maxRecDepth 65536 in
theorem w_c8 : (Jvm.Cond.code ({ cls := "com/example/helmstead/helmstead/StoreRequest", name := "get", desc := "(Ljava/lang/String;Ljava/lang/String;)Lcom/example/helmstead/helmstead/StoreRequest;" } : Jvm.MethodName) prog_29_method_4_code (2 : Nat) (Option.some (Jvm.ClassFile.FieldType.object "com/example/helmstead/helmstead/StoreRequest"))).before args0 about1 = true := code_word (m := ⟨10, 1⟩) (meth := k10m1) (c := k10c1) (by decide +kernel) rfl rfl rfl (by decide +kernel)
set_option maxRecDepth 65536 in
theorem w_c9 : (Jvm.Cond.code ({ cls := "com/example/helmstead/helmstead/StoreRequest", name := "<init>", desc := "(Lcom/example/helmstead/helmstead/StoreRequest$Kind;Ljava/lang/String;JLjava/lang/String;Ljava/lang/String;Ljava/lang/String;Ljava/util/List;)V" } : Jvm.MethodName) prog_29_method_1_code (9 : Nat) (Option.none : Option Jvm.ClassFile.FieldType)).before args0 about1 = true := code_word (m := ⟨10, 0⟩) (meth := k10m0) (c := k10c0) (by decide +kernel) rfl rfl rfl (by decide +kernel)
set_option maxRecDepth 65536 in
theorem w_c10 : (Jvm.Cond.code ({ cls := "java/lang/Record", name := "<init>", desc := "()V" } : Jvm.MethodName) jdk_30_method_1_code (1 : Nat) (Option.none : Option Jvm.ClassFile.FieldType)).before args0 about1 = true := code_word (m := ⟨9, 0⟩) (meth := k9m0) (c := k9c0) (by decide +kernel) rfl rfl rfl (by decide +kernel)
set_option maxRecDepth 65536 in
theorem w_c11 : (Jvm.Cond.code ({ cls := "com/example/helmstead/helmstead/StoreRequest", name := "kind", desc := "()Lcom/example/helmstead/helmstead/StoreRequest$Kind;" } : Jvm.MethodName) prog_29_method_27_code (1 : Nat) (Option.some (Jvm.ClassFile.FieldType.object "com/example/helmstead/helmstead/StoreRequest$Kind"))).before args0 about1 = true := code_word (m := ⟨10, 2⟩) (meth := k10m2) (c := k10c2) (by decide +kernel) rfl rfl rfl (by decide +kernel)
set_option maxRecDepth 65536 in
theorem w_c12 : (Jvm.Cond.code ({ cls := "com/example/helmstead/helmstead/StoreRequest", name := "id", desc := "()Ljava/lang/String;" } : Jvm.MethodName) prog_29_method_28_code (1 : Nat) (Option.some (Jvm.ClassFile.FieldType.object "java/lang/String"))).before args0 about1 = true := code_word (m := ⟨10, 3⟩) (meth := k10m3) (c := k10c3) (by decide +kernel) rfl rfl rfl (by decide +kernel)
set_option maxRecDepth 65536 in
theorem w_c13 : (Jvm.Cond.code ({ cls := "com/example/helmstead/helmstead/StoreRequest", name := "leaseMs", desc := "()J" } : Jvm.MethodName) prog_29_method_29_code (1 : Nat) (Option.some Jvm.ClassFile.FieldType.long)).before args0 about1 = true := code_word (m := ⟨10, 4⟩) (meth := k10m4) (c := k10c4) (by decide +kernel) rfl rfl rfl (by decide +kernel)
set_option maxRecDepth 65536 in
theorem w_c14 : (Jvm.Cond.code ({ cls := "com/example/helmstead/helmstead/StoreRequest", name := "table", desc := "()Ljava/lang/String;" } : Jvm.MethodName) prog_29_method_30_code (1 : Nat) (Option.some (Jvm.ClassFile.FieldType.object "java/lang/String"))).before args0 about1 = true := code_word (m := ⟨10, 5⟩) (meth := k10m5) (c := k10c5) (by decide +kernel) rfl rfl rfl (by decide +kernel)
set_option maxRecDepth 65536 in
theorem w_c15 : (Jvm.Cond.code ({ cls := "com/example/helmstead/helmstead/StoreRequestGetPinLaw", name := "same", desc := "(Ljava/lang/String;Ljava/lang/String;)Z" } : Jvm.MethodName) method_2_code (2 : Nat) (Option.some Jvm.ClassFile.FieldType.boolean)).before args0 about1 = true := code_word (m := ⟨1, 1⟩) (meth := k1m1) (c := k1c1) (by decide +kernel) rfl rfl rfl (by decide +kernel)
set_option maxRecDepth 65536 in
theorem w_c16 : (Jvm.Cond.code ({ cls := "java/lang/String", name := "equals", desc := "(Ljava/lang/Object;)Z" } : Jvm.MethodName) jdk_42_method_66_code (3 : Nat) (Option.some Jvm.ClassFile.FieldType.boolean)).before args0 about1 = true := code_word (m := ⟨7, 2⟩) (meth := k7m2) (c := k7c2) (by decide +kernel) rfl rfl rfl (by decide +kernel)
set_option maxRecDepth 65536 in
theorem w_c17 : (Jvm.Cond.code ({ cls := "com/example/helmstead/helmstead/StoreRequest", name := "key", desc := "()Ljava/lang/String;" } : Jvm.MethodName) prog_29_method_31_code (1 : Nat) (Option.some (Jvm.ClassFile.FieldType.object "java/lang/String"))).before args0 about1 = true := code_word (m := ⟨10, 6⟩) (meth := k10m6) (c := k10c6) (by decide +kernel) rfl rfl rfl (by decide +kernel)
set_option maxRecDepth 65536 in
theorem w_c18 : (Jvm.Cond.code ({ cls := "com/example/helmstead/helmstead/StoreRequest", name := "value", desc := "()Ljava/lang/String;" } : Jvm.MethodName) prog_29_method_32_code (1 : Nat) (Option.some (Jvm.ClassFile.FieldType.object "java/lang/String"))).before args0 about1 = true := code_word (m := ⟨10, 7⟩) (meth := k10m7) (c := k10c7) (by decide +kernel) rfl rfl rfl (by decide +kernel)
set_option maxRecDepth 65536 in
theorem w_c19 : (Jvm.Cond.code ({ cls := "com/example/helmstead/helmstead/StoreRequest", name := "parts", desc := "()Ljava/util/List;" } : Jvm.MethodName) prog_29_method_33_code (1 : Nat) (Option.some (Jvm.ClassFile.FieldType.object "java/util/List"))).before args0 about1 = true := code_word (m := ⟨10, 8⟩) (meth := k10m8) (c := k10c8) (by decide +kernel) rfl rfl rfl (by decide +kernel)
set_option maxRecDepth 65536 in
theorem w_c20 : (Jvm.Cond.code ({ cls := "java/lang/String", name := "valueOf", desc := "(C)Ljava/lang/String;" } : Jvm.MethodName) jdk_42_method_139_code (1 : Nat) (Option.some (Jvm.ClassFile.FieldType.object "java/lang/String"))).before args0 about1 = true := code_word (m := ⟨7, 3⟩) (meth := k7m3) (c := k7c3) (by decide +kernel) rfl rfl rfl (by decide +kernel)
set_option maxRecDepth 65536 in
theorem w_c21 : (Jvm.Cond.code ({ cls := "java/lang/StringLatin1", name := "canEncode", desc := "(C)Z" } : Jvm.MethodName) jdk_43_method_3_code (1 : Nat) (Option.some Jvm.ClassFile.FieldType.boolean)).before args0 about1 = true := code_word (m := ⟨13, 1⟩) (meth := k13m1) (c := k13c1) (by decide +kernel) rfl rfl rfl (by decide +kernel)
set_option maxRecDepth 65536 in
theorem w_c22 : (Jvm.Cond.code ({ cls := "java/lang/StringLatin1", name := "toBytes", desc := "(C)[B" } : Jvm.MethodName) jdk_43_method_46_code (1 : Nat) (Option.some (Jvm.ClassFile.FieldType.array Jvm.ClassFile.FieldType.byte))).before args0 about1 = true := code_word (m := ⟨13, 2⟩) (meth := k13m2) (c := k13c2) (by decide +kernel) rfl rfl rfl (by decide +kernel)
set_option maxRecDepth 65536 in
theorem w_c23 : (Jvm.Cond.code ({ cls := "java/lang/String", name := "<init>", desc := "([BB)V" } : Jvm.MethodName) jdk_42_method_151_code (3 : Nat) (Option.none : Option Jvm.ClassFile.FieldType)).before args0 about1 = true := code_word (m := ⟨7, 5⟩) (meth := k7m5) (c := k7c5) (by decide +kernel) rfl rfl rfl (by decide +kernel)
def codes1 : List Jvm.Cond := [Jvm.Cond.code x code maxLocals ret, Jvm.Cond.code ({ cls := "com/example/helmstead/helmstead/StoreRequestGetPinLaw", name := "text", desc := "(II)Ljava/lang/String;" } : Jvm.MethodName) method_3_code (4 : Nat) (Option.some (Jvm.ClassFile.FieldType.object "java/lang/String")), Jvm.Cond.code ({ cls := "java/lang/String", name := "<init>", desc := "([C)V" } : Jvm.MethodName) jdk_42_method_3_code (2 : Nat) (Option.none : Option Jvm.ClassFile.FieldType), Jvm.Cond.code ({ cls := "java/lang/String", name := "<init>", desc := "([CIILjava/lang/Void;)V" } : Jvm.MethodName) jdk_42_method_149_code (6 : Nat) (Option.none : Option Jvm.ClassFile.FieldType), Jvm.Cond.code ({ cls := "java/lang/Object", name := "<init>", desc := "()V" } : Jvm.MethodName) object_method_1_code (1 : Nat) (Option.none : Option Jvm.ClassFile.FieldType), Jvm.Cond.code ({ cls := "java/lang/StringUTF16", name := "compress", desc := "([CII)[B" } : Jvm.MethodName) jdk_52_method_16_code (6 : Nat) (Option.some (Jvm.ClassFile.FieldType.array Jvm.ClassFile.FieldType.byte)), Jvm.Cond.code ({ cls := "java/lang/StringUTF16", name := "compress", desc := "([CI[BII)I" } : Jvm.MethodName) jdk_52_method_21_code (7 : Nat) (Option.some Jvm.ClassFile.FieldType.int), Jvm.Cond.code ({ cls := "java/lang/StringUTF16", name := "coderFromArrayLen", desc := "([BI)B" } : Jvm.MethodName) jdk_52_method_15_code (2 : Nat) (Option.some Jvm.ClassFile.FieldType.byte), Jvm.Cond.code ({ cls := "com/example/helmstead/helmstead/StoreRequest", name := "get", desc := "(Ljava/lang/String;Ljava/lang/String;)Lcom/example/helmstead/helmstead/StoreRequest;" } : Jvm.MethodName) prog_29_method_4_code (2 : Nat) (Option.some (Jvm.ClassFile.FieldType.object "com/example/helmstead/helmstead/StoreRequest")), Jvm.Cond.code ({ cls := "com/example/helmstead/helmstead/StoreRequest", name := "<init>", desc := "(Lcom/example/helmstead/helmstead/StoreRequest$Kind;Ljava/lang/String;JLjava/lang/String;Ljava/lang/String;Ljava/lang/String;Ljava/util/List;)V" } : Jvm.MethodName) prog_29_method_1_code (9 : Nat) (Option.none : Option Jvm.ClassFile.FieldType), Jvm.Cond.code ({ cls := "java/lang/Record", name := "<init>", desc := "()V" } : Jvm.MethodName) jdk_30_method_1_code (1 : Nat) (Option.none : Option Jvm.ClassFile.FieldType), Jvm.Cond.code ({ cls := "com/example/helmstead/helmstead/StoreRequest", name := "kind", desc := "()Lcom/example/helmstead/helmstead/StoreRequest$Kind;" } : Jvm.MethodName) prog_29_method_27_code (1 : Nat) (Option.some (Jvm.ClassFile.FieldType.object "com/example/helmstead/helmstead/StoreRequest$Kind")), Jvm.Cond.code ({ cls := "com/example/helmstead/helmstead/StoreRequest", name := "id", desc := "()Ljava/lang/String;" } : Jvm.MethodName) prog_29_method_28_code (1 : Nat) (Option.some (Jvm.ClassFile.FieldType.object "java/lang/String")), Jvm.Cond.code ({ cls := "com/example/helmstead/helmstead/StoreRequest", name := "leaseMs", desc := "()J" } : Jvm.MethodName) prog_29_method_29_code (1 : Nat) (Option.some Jvm.ClassFile.FieldType.long), Jvm.Cond.code ({ cls := "com/example/helmstead/helmstead/StoreRequest", name := "table", desc := "()Ljava/lang/String;" } : Jvm.MethodName) prog_29_method_30_code (1 : Nat) (Option.some (Jvm.ClassFile.FieldType.object "java/lang/String")), Jvm.Cond.code ({ cls := "com/example/helmstead/helmstead/StoreRequestGetPinLaw", name := "same", desc := "(Ljava/lang/String;Ljava/lang/String;)Z" } : Jvm.MethodName) method_2_code (2 : Nat) (Option.some Jvm.ClassFile.FieldType.boolean), Jvm.Cond.code ({ cls := "java/lang/String", name := "equals", desc := "(Ljava/lang/Object;)Z" } : Jvm.MethodName) jdk_42_method_66_code (3 : Nat) (Option.some Jvm.ClassFile.FieldType.boolean), Jvm.Cond.code ({ cls := "com/example/helmstead/helmstead/StoreRequest", name := "key", desc := "()Ljava/lang/String;" } : Jvm.MethodName) prog_29_method_31_code (1 : Nat) (Option.some (Jvm.ClassFile.FieldType.object "java/lang/String")), Jvm.Cond.code ({ cls := "com/example/helmstead/helmstead/StoreRequest", name := "value", desc := "()Ljava/lang/String;" } : Jvm.MethodName) prog_29_method_32_code (1 : Nat) (Option.some (Jvm.ClassFile.FieldType.object "java/lang/String")), Jvm.Cond.code ({ cls := "com/example/helmstead/helmstead/StoreRequest", name := "parts", desc := "()Ljava/util/List;" } : Jvm.MethodName) prog_29_method_33_code (1 : Nat) (Option.some (Jvm.ClassFile.FieldType.object "java/util/List")), Jvm.Cond.code ({ cls := "java/lang/String", name := "valueOf", desc := "(C)Ljava/lang/String;" } : Jvm.MethodName) jdk_42_method_139_code (1 : Nat) (Option.some (Jvm.ClassFile.FieldType.object "java/lang/String")), Jvm.Cond.code ({ cls := "java/lang/StringLatin1", name := "canEncode", desc := "(C)Z" } : Jvm.MethodName) jdk_43_method_3_code (1 : Nat) (Option.some Jvm.ClassFile.FieldType.boolean), Jvm.Cond.code ({ cls := "java/lang/StringLatin1", name := "toBytes", desc := "(C)[B" } : Jvm.MethodName) jdk_43_method_46_code (1 : Nat) (Option.some (Jvm.ClassFile.FieldType.array Jvm.ClassFile.FieldType.byte)), Jvm.Cond.code ({ cls := "java/lang/String", name := "<init>", desc := "([BB)V" } : Jvm.MethodName) jdk_42_method_151_code (3 : Nat) (Option.none : Option Jvm.ClassFile.FieldType)]
set_option maxRecDepth 65536 in
theorem codes_eq : words1.filter isCode = codes1 := rfl
theorem w_codes : ∀ c ∈ words1.filter isCode, c.before args0 about1 = true := by
  rw [codes_eq]
  intro c hc
  simp only [codes1, List.mem_cons, List.not_mem_nil, or_false] at hc
  rcases hc with rfl | rfl | rfl | rfl | rfl | rfl | rfl | rfl | rfl | rfl | rfl | rfl | rfl | rfl | rfl | rfl | rfl | rfl | rfl | rfl | rfl | rfl | rfl | rfl
  · exact w_c0
  · exact w_c1
  · exact w_c2
  · exact w_c3
  · exact w_c4
  · exact w_c5
  · exact w_c6
  · exact w_c7
  · exact w_c8
  · exact w_c9
  · exact w_c10
  · exact w_c11
  · exact w_c12
  · exact w_c13
  · exact w_c14
  · exact w_c15
  · exact w_c16
  · exact w_c17
  · exact w_c18
  · exact w_c19
  · exact w_c20
  · exact w_c21
  · exact w_c22
  · exact w_c23
set_option maxRecDepth 65536 in
theorem w_t1 : (words1.take 24).all (fun c => isCode c || c.before args0 about1) = true := by decide +kernel
set_option maxRecDepth 65536 in
theorem w_t2 : ((words1.drop 24).take 24).all (fun c => isCode c || c.before args0 about1) = true := by decide +kernel
set_option maxRecDepth 65536 in
theorem w_t3 : (((words1.drop 24).drop 24).take 24).all (fun c => isCode c || c.before args0 about1) = true := by decide +kernel
set_option maxRecDepth 65536 in
theorem w_t4 : ((((words1.drop 24).drop 24).drop 24).take 24).all (fun c => isCode c || c.before args0 about1) = true := by decide +kernel
set_option maxRecDepth 65536 in
theorem w_t5 : (((((words1.drop 24).drop 24).drop 24).drop 24).take 24).all (fun c => isCode c || c.before args0 about1) = true := by decide +kernel
set_option maxRecDepth 65536 in
theorem w_t6 : (((((words1.drop 24).drop 24).drop 24).drop 24).drop 24).all (fun c => isCode c || c.before args0 about1) = true := by decide +kernel
theorem w_tables : (allAtoms (Jvm.Cond.code x code maxLocals ret :: tables_1)).before args0 about1 = true := by
  rw [allAtoms_all]
  show words1.all (fun c => c.before args0 about1) = true
  refine all_split ?_ w_codes
  rw [← List.take_append_drop 24 words1, List.all_append, w_t1, ← List.take_append_drop 24 (words1.drop 24), List.all_append, w_t2, ← List.take_append_drop 24 ((words1.drop 24).drop 24), List.all_append, w_t3, ← List.take_append_drop 24 (((words1.drop 24).drop 24).drop 24), List.all_append, w_t4, ← List.take_append_drop 24 ((((words1.drop 24).drop 24).drop 24).drop 24), List.all_append, w_t5, w_t6]
  rfl
set_option maxRecDepth 65536 in
theorem w_rest : rest_1_c.before args0 about1 = true := by decide +kernel
set_option maxRecDepth 65536 in
theorem w_case : (Jvm.Cond.and given_1 narrow_1).before args0 about1 = true := by decide +kernel
set_option maxRecDepth 65536 in
theorem w_consts : constsHeld consts_1 about1 := Jvm.Lit.constsHeldB_iff.mp (by decide +kernel)
theorem w_applies : (headSpec (Jvm.Cond.code x code maxLocals ret :: tables_1) room_1).applies x e0.platform about1 = true :=
  (Spec.applies_iff w_frames).mpr ⟨w_running, w_runnable, w_alone, w_named, w_hears, w_ripe, w_room, w_tables⟩
theorem atStart : AtStart classFile x code maxLocals ret World_1 tables_1 room_1 Calls_1 rest_1 Pre_1 launch0 p0 e0 about1 theMethod args0 below0 :=
  ⟨lists_1, trivial, launch0.admits_env _ _ _, launch0.least_env, fairChoices_fair.cas, fairChoices_fair.clock, w_frames, w_args, w_heap, w_applies, ⟨w_consts, trivial⟩, w_rest, w_case⟩
end start1
theorem witness_1 : WitnessClaimed_1 := ⟨start1.p0, start1.e0, start1.about1, start1.theMethod, start1.args0, start1.below0, start1.atStart⟩
end Jvm.Pilot.@@N@@
