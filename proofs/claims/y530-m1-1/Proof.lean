import JvmDerived
import JvmDerived.Pilot.@@N@@Statement
import JvmDerived.Pilot.@@N@@Code
set_option linter.unusedVariables false
set_option linter.unusedSimpArgs false
namespace Jvm.Pilot.@@N@@
open Jvm Jvm.ClassFile Sem Op Lib Jvm.Free Jvm.Stand Jvm.LawKit Jvm.RoadKit Bundle Jvm.Pilot.@@N@@.Jvm.D
section OwnKit
variable {p : Program} {l : Launch} {e : Env} {R : Room} {s : State} {m : MethodId} {args : Array Value} {below : List Frame} {meth : Method} {c : Code} {T : State} {locs : List Loc} {cells slots : Nat}
/-- the contract of a body at given arguments and a given heap -/
def own_Con (l : Launch) (Z : State) (y : MethodName) (bytes : ByteArray) (maxL : Nat) (ret : Option FieldType) (ws : List Jvm.Cond) (rm : Room) (as' : Array Value) (h0 : Heap) (Q : Option Value → Heap → List Loc → Prop) : Prop :=
  MetFree l y (head1 (Jvm.Cond.code y bytes maxL ret :: ws) rm) (fun a U => a = as' ∧ Z.Warmed39 U.vm ∧ U.heap = h0) (fun _ _ _ _ _ => True) (fun _ U o U' => ∃ v L, o = .returned v ∧ Q v U'.heap L ∧ FrameEnd U o U' L rm.cells rm.slots)
/-- G holds of a state where the walk is owed; it goes backwards over steps -/
def own_Bk (p : Program) (e : Env) (below : List Frame) (G : State → Prop) : Prop := ∀ S S', (∀ t, Steps p.tables e below S' t → Steps p.tables e below S t) → G S' → G S
/-- a walk may end where its body returns -/
def own_Rt (p : Program) (l : Launch) (e : Env) (rm : Room) (s : State) (m : MethodId) (as' : Array Value) (below : List Frame) (meth : Method) (c : Code) (ret : Option FieldType) (Q : Option Value → Heap → List Loc → Prop) (G : State → Prop) : Prop :=
  ∀ T locs cells slots v S, Stand p l e rm s m as' below meth c T locs cells slots → cells ≤ rm.cells → slots ≤ rm.slots → (ret = none → v = none) → Q v T.heap locs →
    (∀ fs, (∀ (f : JFrame) (acts : List Action), f.method = m → f.locked = none → f.entered = [] → (doReturn e (T.setTop f) acts v).1 = T.setFrames fs) → Steps p.tables e below S (T.setFrames fs)) → G S
theorem own_intro {Z : State} {y : MethodName} {bytes : ByteArray} {maxL : Nat} {ret : Option FieldType} {ws : List Jvm.Cond} {rm : Room} {as' : Array Value} {h0 : Heap} {Q : Option Value → Heap → List Loc → Prop} (hpn : plainFor y = true)
    (H : ∀ (p : Program) (e : Env) (s : State) (m : MethodId) (below : List Frame) (meth : Method) (c : Code) (s₁ : State) (G : State → Prop), p.tables.exec = Jvm.exec → c.code = bytes → c.maxLocals = maxL → s.vm.findClass y.cls = some m.cls → meth.name = y.name → meth.sig.returnType = ret → Z.Warmed39 s.vm →
      Stand p l e rm s m as' below meth c s₁ [] 0 0 → s₁.heap = h0 → own_Bk p e below G → own_Rt p l e rm s m as' below meth c ret Q G → G (s₁.setTop (entryFrame m as' maxL))) : own_Con l Z y bytes maxL ret ws rm as' h0 Q := by
  refine MetFree.of_bodySF hpn hisR ?_
  intro p e s m args below meth c s₁ Bd hml hP hK
  obtain ⟨rfl, hZ, hh⟩ := hP
  refine H p e s m below meth c s₁ (fun S => ∃ s₂ o, Steps p.tables e below S s₂ ∧ s₂.status = .running ∧ Ended s₂ below o ∧ ∃ v L, o = .returned v ∧ Q v s₂.heap L ∧ FrameEnd s o s₂ L rm.cells rm.slots) Bd.exec Bd.bytes hml (findClass_of_methodNamed Bd.named) (name_of_methodNamed Bd.named Bd.method).1 Bd.returns hZ (Stand.of_body Bd) (by rw [← hh, Bd.state]; rfl) ?_ ?_
  · rintro S S' st ⟨s₂, o, h1, h2⟩
    exact ⟨s₂, o, st _ h1, h2⟩
  · intro T locs cells slots v S X hc hs hv hQ hst
    obtain ⟨fs, hr, hrun, hended, hW, hsame⟩ := X.leave (v := v) (fun h => hv (Bd.returns ▸ h))
    exact ⟨_, _, hst fs hr, hrun, hended, v, locs, rfl, hQ, ⟨_, rfl⟩, hW, hsame.mono hc hs⟩
section Rets
variable {Q : Option Value → Heap → List Loc → Prop} {G : State → Prop} {ret : Option FieldType} {pc : Nat} {Ls : Array Slot} {rest : List Value}
theorem own_retV (hR : own_Rt p l e R s m args below meth c none Q G) (hret : meth.sig.returnType = none) (X : Stand p l e R s m args below meth c T locs cells slots) (hx : p.tables.exec = Jvm.exec) (hd : decode c.code pc = .ok (.return_, 1)) (hc : cells ≤ R.cells) (hs : slots ≤ R.slots) (hQ : Q none T.heap locs) : G (T.setTop (mkF m pc Ls [])) :=
  hR T locs cells slots none _ X hc hs (fun _ => rfl) hQ fun fs hr => X.returnOut hx hret hd hr
theorem own_retA {t : FieldType} {v : Value} (hR : own_Rt p l e R s m args below meth c (some t) Q G) (hret : meth.sig.returnType = some t) (ht : t.isReference = true) (hv : v.isRef = true) (X : Stand p l e R s m args below meth c T locs cells slots) (hx : p.tables.exec = Jvm.exec) (hd : decode c.code pc = .ok (.areturn, 1)) (hc : cells ≤ R.cells) (hs : slots ≤ R.slots) (hQ : Q (some v) T.heap locs) : G (T.setTop (mkF m pc Ls (v :: rest))) :=
  hR T locs cells slots (some v) _ X hc hs (fun h => nomatch h) hQ fun fs hr => retOut X hx hret (by cases t <;> simp_all [FieldType.isReference, narrow]) (Or.inr (Or.inr (Or.inr (Or.inr ⟨rfl, ht, hv⟩)))) hd hr
theorem own_retI {z : Int32} (hR : own_Rt p l e R s m args below meth c (some .int) Q G) (hret : meth.sig.returnType = some .int) (X : Stand p l e R s m args below meth c T locs cells slots) (hx : p.tables.exec = Jvm.exec) (hd : decode c.code pc = .ok (.ireturn, 1)) (hc : cells ≤ R.cells) (hs : slots ≤ R.slots) (hQ : Q (some (.int z)) T.heap locs) : G (T.setTop (mkF m pc Ls (.int z :: rest))) :=
  hR T locs cells slots (some (.int z)) _ X hc hs (fun h => nomatch h) hQ fun fs hr => retOut X hx hret rfl (Or.inl ⟨rfl, Or.inl rfl, z, rfl⟩) hd hr
theorem own_retL {z : Int64} (hR : own_Rt p l e R s m args below meth c (some .long) Q G) (hret : meth.sig.returnType = some .long) (X : Stand p l e R s m args below meth c T locs cells slots) (hx : p.tables.exec = Jvm.exec) (hd : decode c.code pc = .ok (.lreturn, 1)) (hc : cells ≤ R.cells) (hs : slots ≤ R.slots) (hQ : Q (some (.long z)) T.heap locs) : G (T.setTop (mkF m pc Ls (.long z :: rest))) :=
  hR T locs cells slots (some (.long z)) _ X hc hs (fun h => nomatch h) hQ fun fs hr => retOut X hx hret rfl (Or.inr (Or.inl ⟨rfl, rfl, z, rfl⟩)) hd hr
theorem own_retN {z : Int32} {t : FieldType} (hR : own_Rt p l e R s m args below meth c (some t) Q G) (hret : meth.sig.returnType = some t) (ht : t = .boolean ∨ t = .byte ∨ t = .char ∨ t = .short) (X : Stand p l e R s m args below meth c T locs cells slots) (hx : p.tables.exec = Jvm.exec) (hd : decode c.code pc = .ok (.ireturn, 1)) (hc : cells ≤ R.cells) (hs : slots ≤ R.slots) (hQ : Q (some (.int (nar t z))) T.heap locs) : G (T.setTop (mkF m pc Ls (.int z :: rest))) :=
  hR T locs cells slots (some (.int (nar t z))) _ X hc hs (fun h => nomatch h) hQ fun fs hr => retN X hx hret ht hd hr
end Rets
section Calls
variable {Z : State} {a0 : Array Value} {own : String} {index : Nat} {y z : MethodName} {bytes : ByteArray} {maxL : Nat} {ret : Option FieldType} {rm : Room} {as' : Array Value} {h : Heap} {Q : Option Value → Heap → List Loc → Prop} {G : State → Prop} {pc : Nat} {Ls : Array Slot} {stk argsL rest : List Value}
theorem own_callS (X : Stand p l e R s m args below meth c T locs cells slots) (hx : p.tables.exec = Jvm.exec) (hZ : Z.Warmed39 s.vm) (hG : own_Bk p e below G) (hown : s.vm.findClass own = some m.cls)
    (w1 : (Jvm.Cond.methodLink own index y).before a0 Z = true) (w2 : (Jvm.Cond.static y).before a0 Z = true) (w3 : (Jvm.Cond.initialized y.cls).before a0 Z = true) (w4 : (Jvm.Cond.code y bytes maxL ret).before a0 Z = true)
    (hy : y.cls ≠ "java/lang/invoke/MethodHandle" ∧ y.cls ≠ "java/lang/invoke/VarHandle") (W : Nat) (hM : own_Con l Z y bytes maxL ret [] rm as' h Q) (hf : rm.frames + 1 ≤ R.frames) (hlo : W + (maxL + 11) + rm.locals ≤ R.locals) (eT : T.heap = h)
    (hsize : Ls.size = c.maxLocals) (hlen : ∀ sig, parseMethodDescriptor y.desc = some sig → argsL.length = sig.parameters.length) (has : argsL.toArray = as') (hst : stk = argsL.reverse ++ rest) (hW : (rest.map fun v => v.category).sum ≤ W)
    (hd : decode c.code pc = .ok (.invokestatic index, 3)) (hc : cells + rm.cells ≤ R.cells) (hs : slots + rm.slots ≤ R.slots)
    (k : ∀ T' h' v L, Stand p l e R s m args below meth c T' (locs ++ L) (cells + rm.cells) (slots + rm.slots) → T'.heap = h' → Q v h' L → G (T'.setTop (mkF m (pc + 3) Ls (v.toList ++ rest)))) : G (T.setTop (mkF m pc Ls stk)) := by
  obtain ⟨v, _, ⟨T1, L1, k1, n1⟩, -, X1, ⟨L, hQ, rfl, rfl, rfl⟩, st⟩ := Jvm.LawKit.callS X hx (y := y) hown (mvT hZ w1) (mvT hZ w2) (mvT hZ w3) (mvT hZ w4) hy (backOf (W := W) hM hZ w4 w3 hf hlo) (g := mkF m pc Ls stk) rfl hsize (argsL := argsL) (rest := rest) hlen hst (by show 2 * 0 + _ ≤ _; rw [Nat.mul_zero, Nat.zero_add]; exact hW) hd (fun _ _ => ⟨has, eT, hc, hs⟩)
  exact hG _ _ st (k T1 _ v L X1 rfl hQ)
theorem own_callI (X : Stand p l e R s m args below meth c T locs cells slots) (hx : p.tables.exec = Jvm.exec) (hZ : Z.Warmed39 s.vm) (hG : own_Bk p e below G) (hown : s.vm.findClass own = some m.cls) (hy1 : y.name = "<init>")
    (w1 : (Jvm.Cond.methodLink own index y).before a0 Z = true) (w2 : (Jvm.Cond.instanceMethod y).before a0 Z = true) (w3 : (Jvm.Cond.initialized y.cls).before a0 Z = true) (w4 : (Jvm.Cond.code y bytes maxL none).before a0 Z = true)
    (hy : y.cls ≠ "java/lang/invoke/MethodHandle" ∧ y.cls ≠ "java/lang/invoke/VarHandle") (W : Nat) (hM : own_Con l Z y bytes maxL none [] rm as' h Q) (hf : rm.frames + 1 ≤ R.frames) (hlo : W + (maxL + 11) + rm.locals ≤ R.locals) (eT : T.heap = h)
    (hsize : Ls.size = c.maxLocals) (hlen : ∀ sig, parseMethodDescriptor y.desc = some sig → argsL.length = sig.parameters.length) {a : Addr} (has : (.ref a :: argsL).toArray = as') (hst : stk = argsL.reverse ++ .ref a :: rest) (hW : (rest.map fun v => v.category).sum ≤ W)
    (hd : decode c.code pc = .ok (.invokespecial index, 3)) (hc : cells + rm.cells ≤ R.cells) (hs : slots + rm.slots ≤ R.slots)
    (k : ∀ T' h' v L, Stand p l e R s m args below meth c T' (locs ++ L) (cells + rm.cells) (slots + rm.slots) → T'.heap = h' → Q v h' L → G (T'.setTop (mkF m (pc + 3) Ls (v.toList ++ rest)))) : G (T.setTop (mkF m pc Ls stk)) := by
  obtain ⟨v, _, ⟨T1, L1, k1, n1⟩, -, X1, ⟨L, hQ, rfl, rfl, rfl⟩, st⟩ := X.specialBack hx (y := y) hy1 hown (mvT hZ w1) (mvT hZ w2) (mvT hZ w4) hy (backOf (W := W) hM hZ w4 w3 hf hlo) (g := mkF m pc Ls stk) rfl hsize (Steps.refl _) (a := a) (argsL := argsL) (rest := rest) hlen hst (by show 2 * 0 + _ ≤ _; rw [Nat.mul_zero, Nat.zero_add]; exact hW) hd (fun _ _ => ⟨has, eT, hc, hs⟩)
  exact hG _ _ (fun t kk => st.trans kk) (k T1 _ v L X1 rfl hQ)
theorem own_callV {C : String} (X : Stand p l e R s m args below meth c T locs cells slots) (hx : p.tables.exec = Jvm.exec) (hZ : Z.Warmed39 s.vm) (hG : own_Bk p e below G) (hown : s.vm.findClass own = some m.cls)
    (w1 : (Jvm.Cond.methodLink own index y).before a0 Z = true) (w2 : (Jvm.Cond.declares y).before a0 Z = true) (w3 : (Jvm.Cond.selects C y y).before a0 Z = true) (w4 : (Jvm.Cond.instanceMethod y).before a0 Z = true) (w5 : (Jvm.Cond.initialized y.cls).before a0 Z = true) (w6 : (Jvm.Cond.code y bytes maxL ret).before a0 Z = true)
    (hy : y.cls ≠ "java/lang/invoke/MethodHandle" ∧ y.cls ≠ "java/lang/invoke/VarHandle") (W : Nat) (hM : own_Con l Z y bytes maxL ret [] rm as' h Q) (hf : rm.frames + 1 ≤ R.frames) (hlo : W + (maxL + 11) + rm.locals ≤ R.locals) (eT : T.heap = h) {b : Addr} (E : Exa Z h b C)
    (hsize : Ls.size = c.maxLocals) (hlen : ∀ sig, parseMethodDescriptor y.desc = some sig → argsL.length = sig.parameters.length) (has : (.ref b :: argsL).toArray = as') (hst : stk = argsL.reverse ++ .ref b :: rest) (hW : (rest.map fun v => v.category).sum ≤ W)
    (hd : decode c.code pc = .ok (.invokevirtual index, 3)) (hc : cells + rm.cells ≤ R.cells) (hs : slots + rm.slots ≤ R.slots)
    (k : ∀ T' h' v L, Stand p l e R s m args below meth c T' (locs ++ L) (cells + rm.cells) (slots + rm.slots) → T'.heap = h' → Q v h' L → G (T'.setTop (mkF m (pc + 3) Ls (v.toList ++ rest)))) : G (T.setTop (mkF m pc Ls stk)) := by
  obtain ⟨cq, kq, qa, qb, qc⟩ := isOf hZ eT E
  obtain ⟨v, _, ⟨T1, L1, k1, n1⟩, -, X1, ⟨L, hQ, rfl, rfl, rfl⟩, st⟩ := X.virtualBack hx (y := y) (z := y) hown (mvT hZ w1) (mvT hZ w2) (notFace_of_selects (args := #[]) (mvT hZ w3)) (mvT hZ w3) (mvT hZ w4) hy (backOf (W := W) hM hZ w6 w5 hf hlo) qa qc (g := mkF m pc Ls stk) rfl hsize (Steps.refl _) (argsL := argsL) (rest := rest) hlen hst (by show 2 * 0 + _ ≤ _; rw [Nat.mul_zero, Nat.zero_add]; exact hW) hd (fun _ _ => ⟨has, eT, hc, hs⟩)
  exact hG _ _ (fun t kk => st.trans kk) (k T1 _ v L X1 rfl hQ)
theorem own_callP (X : Stand p l e R s m args below meth c T locs cells slots) (hx : p.tables.exec = Jvm.exec) (hZ : Z.Warmed39 s.vm) (hG : own_Bk p e below G) (hown : s.vm.findClass own = some m.cls)
    (w1 : (Jvm.Cond.methodLink own index y).before a0 Z = true) (w2 : (Jvm.Cond.instanceMethod y).before a0 Z = true) (w3 : (Jvm.Cond.selects y.cls y y).before a0 Z = true) (wp : (Jvm.Cond.privateMethod y).before a0 Z = true) (w5 : (Jvm.Cond.initialized y.cls).before a0 Z = true) (w6 : (Jvm.Cond.code y bytes maxL ret).before a0 Z = true)
    (hy : y.cls ≠ "java/lang/invoke/MethodHandle" ∧ y.cls ≠ "java/lang/invoke/VarHandle") (W : Nat) (hM : own_Con l Z y bytes maxL ret [] rm as' h Q) (hf : rm.frames + 1 ≤ R.frames) (hlo : W + (maxL + 11) + rm.locals ≤ R.locals) (eT : T.heap = h) {b : Addr} {C : String} (E : Exa Z h b C)
    (hsize : Ls.size = c.maxLocals) (hlen : ∀ sig, parseMethodDescriptor y.desc = some sig → argsL.length = sig.parameters.length) (has : (.ref b :: argsL).toArray = as') (hst : stk = argsL.reverse ++ .ref b :: rest) (hW : (rest.map fun v => v.category).sum ≤ W)
    (hd : decode c.code pc = .ok (.invokevirtual index, 3)) (hc : cells + rm.cells ≤ R.cells) (hs : slots + rm.slots ≤ R.slots)
    (k : ∀ T' h' v L, Stand p l e R s m args below meth c T' (locs ++ L) (cells + rm.cells) (slots + rm.slots) → T'.heap = h' → Q v h' L → G (T'.setTop (mkF m (pc + 3) Ls (v.toList ++ rest)))) : G (T.setTop (mkF m pc Ls stk)) := by
  obtain ⟨cell, hc1, hc2⟩ := (Ins.self E).cell
  obtain ⟨v, _, ⟨T1, L1, k1, n1⟩, -, X1, ⟨L, hQ, rfl, rfl, rfl⟩, st⟩ := X.privateBack hx (y := y) hown (mvT hZ w1) (mvT hZ w2) (mvT hZ w3) (Cond.privateMethod_at (mvP hZ wp (args := #[]))) (mvT hZ w6) hy (backOf (W := W) hM hZ w6 w5 hf hlo) (g := mkF m pc Ls stk) rfl hsize (Steps.refl _) (a := b) (by rw [eT]; exact hc1) hc2 (argsL := argsL) (rest := rest) hlen hst (by show 2 * 0 + _ ≤ _; rw [Nat.mul_zero, Nat.zero_add]; exact hW) hd (fun _ _ => ⟨has, eT, hc, hs⟩)
  exact hG _ _ (fun t kk => st.trans kk) (k T1 _ v L X1 rfl hQ)
theorem own_callF {C : String} {count : Nat} (X : Stand p l e R s m args below meth c T locs cells slots) (hx : p.tables.exec = Jvm.exec) (hZ : Z.Warmed39 s.vm) (hG : own_Bk p e below G) (hown : s.vm.findClass own = some m.cls)
    (w1 : (Jvm.Cond.methodLink own index z).before a0 Z = true) (w2 : (Jvm.Cond.declares z).before a0 Z = true) (wf : ∀ s' : State, Z.Warmed39 s'.vm → (Jvm.Cond.interfaceMethod z.cls z.cls z.name z.desc).before args s' = true) (w3 : (Jvm.Cond.selects C z y).before a0 Z = true) (w4 : (Jvm.Cond.instanceMethod y).before a0 Z = true) (wp : (Jvm.Cond.publicMethod y).before a0 Z = true) (wu : (Jvm.Cond.unhidden C z.name z.desc).before a0 Z = true) (wc : (Jvm.Cond.castable C z.cls).before a0 Z = true) (w5 : (Jvm.Cond.initialized y.cls).before a0 Z = true) (w6 : (Jvm.Cond.code y bytes maxL ret).before a0 Z = true)
    (hy : z.cls ≠ "java/lang/invoke/MethodHandle" ∧ z.cls ≠ "java/lang/invoke/VarHandle") (W : Nat) (hM : own_Con l Z y bytes maxL ret [] rm as' h Q) (hf : rm.frames + 1 ≤ R.frames) (hlo : W + (maxL + 11) + rm.locals ≤ R.locals) (eT : T.heap = h) {b : Addr} (E : Exa Z h b C)
    (hsize : Ls.size = c.maxLocals) (hlen : ∀ sig, parseMethodDescriptor z.desc = some sig → argsL.length = sig.parameters.length) (has : (.ref b :: argsL).toArray = as') (hst : stk = argsL.reverse ++ .ref b :: rest) (hW : (rest.map fun v => v.category).sum ≤ W)
    (hd : decode c.code pc = .ok (.invokeinterface index count, 5)) (hc : cells + rm.cells ≤ R.cells) (hs : slots + rm.slots ≤ R.slots)
    (k : ∀ T' h' v L, Stand p l e R s m args below meth c T' (locs ++ L) (cells + rm.cells) (slots + rm.slots) → T'.heap = h' → Q v h' L → G (T'.setTop (mkF m (pc + 5) Ls (v.toList ++ rest)))) : G (T.setTop (mkF m pc Ls stk)) := by
  obtain ⟨cq, kq, qa, qb, qc⟩ := isOf hZ eT E
  obtain ⟨v, _, ⟨T1, L1, k1, n1⟩, -, X1, ⟨L, hQ, rfl, rfl, rfl⟩, st⟩ := X.interfaceBack hx (xi := z) (y := y) hown (mvT hZ w1) (mvT hZ w2) (wf s hZ) (mvT hZ w3) (mvT hZ w4) (mvT hZ wp) (mvT hZ wu) (mvT hZ wc) hy (backOf (W := W) hM hZ w6 w5 hf hlo) qa qb qc (g := mkF m pc Ls stk) rfl hsize (Steps.refl _) (argsL := argsL) (rest := rest) hlen hst (by show 2 * 0 + _ ≤ _; rw [Nat.mul_zero, Nat.zero_add]; exact hW) hd (fun _ _ => ⟨has, eT, hc, hs⟩)
  exact hG _ _ (fun t kk => st.trans kk) (k T1 _ v L X1 rfl hQ)
end Calls
theorem own_entry {G : State → Prop} {n : Nat} {Ls : Array Slot} (q : entryFrame m args n = mkF m 0 Ls []) (k : G (T.setTop (mkF m 0 Ls []))) : G (T.setTop (entryFrame m args n)) := q ▸ k
abbrev own_Old (Z : State) (h : Heap) : Prop := Old Z Z.heap.size h
abbrev own_Fr (Z : State) (L : List Loc) : Prop := Fr Z.heap.size L
theorem own_ge {Z : State} {h : Heap} (O : own_Old Z h) {b : Addr} (q : h.size ≤ b) : Z.heap.size ≤ b := Nat.le_trans O.2.1 q
theorem own_sta {Z : State} {h : Heap} {C n d : String} {v : Value} (S : Sta Z Z.heap C n d v) (O : own_Old Z h) : Sta Z h C n d v := S.ext O.2
theorem own_ne {h : Heap} {a b : Addr} (q : a < h.size) (r : h.size ≤ b) : a ≠ b := Nat.ne_of_lt (Nat.lt_of_lt_of_le q r)
end OwnKit
theorem own_toInt {i : Nat} (h : i < 2147483648) : (Int32.ofNat i).toInt = i := Int32.toInt_ofNat_of_lt (by omega)
theorem own_clamp {i : Nat} (h : i < 2147483648) : (Int32.ofNat i).toNatClampNeg = i := by
  show ((Int32.ofNat i).toInt).toNat = i
  rw [own_toInt h]; rfl
theorem own_inc (i : Nat) : Int32.ofNat i + 1 = Int32.ofNat (i + 1) := (Int32.ofNat_add i 1).symm
theorem own_nn {i : Nat} (h : i < 2147483648) : ¬ Int32.ofNat i < 0 := by
  rw [Int32.lt_iff_toInt_lt, own_toInt h]; simp
theorem own_lt {i n : Nat} (h : i < n) (hn : n < 2147483648) : Int32.ofNat i < Int32.ofNat n := by
  rw [Int32.lt_iff_toInt_lt, own_toInt (by omega), own_toInt hn]; omega
theorem own_nlt {i n : Nat} (h : n ≤ i) (hi : i < 2147483648) : ¬ Int32.ofNat i < Int32.ofNat n := by
  rw [Int32.lt_iff_toInt_lt, own_toInt hi, own_toInt (by omega)]; omega
theorem own_ofNat_inj {i n : Nat} (hi : i < 2147483648) (hn : n < 2147483648) (h : Int32.ofNat i = Int32.ofNat n) : i = n := by
  have := congrArg Int32.toInt h
  rw [own_toInt hi, own_toInt hn] at this; omega
theorem own_getD_set {α : Type} (vs : List α) (i j : Nat) (x d : α) (h : i < vs.length) : (vs.set i x).getD j d = if j = i then x else vs.getD j d := by
  simp only [List.getD_eq_getElem?_getD, List.getElem?_set]
  by_cases e : i = j
  · subst e; simp [h]
  · simp [e, Ne.symm e]
theorem own_getD_map {α β : Type} (f : α → β) (cs : List α) (j : Nat) (d : β) (e : α) (h : j < cs.length) : (cs.map f).getD j d = f (cs.getD j e) := by
  simp [List.getD_eq_getElem?_getD, List.getElem?_map, h]
theorem own_mapEq {α β : Type} (f : α → β) (cs : List α) (vs : List β) (d : β) (e : α) (hl : vs.length = cs.length) (h : ∀ j, j < cs.length → vs.getD j d = f (cs.getD j e)) : vs = cs.map f := by
  apply List.ext_getElem (by simpa using hl)
  intro j h1 h2
  have q := h j (by simpa using h2)
  have h3 : j < cs.length := by simpa using h2
  simp [List.getD_eq_getElem?_getD, h1, h3] at q
  simpa using q
theorem own_narR {t : FieldType} {v : Value} (ht : t.isReference = true) (hv : v.isRef = true) : narrow t v = v := by cases t <;> simp_all [FieldType.isReference, narrow]
theorem own_nb (x : Int32) : nar .byte x.toInt8.toInt32 = x.toInt8.toInt32 := by
  show x.toInt8.toInt32.toInt8.toInt32 = _
  rw [Int8.toInt8_toInt32]
theorem own_nc (x : Int32) : nar .char x.toUInt32.toUInt16.toUInt32.toInt32 = x.toUInt32.toUInt16.toUInt32.toInt32 := by
  simp only [nar, UInt32.toUInt32_toInt32, UInt16.toUInt16_toUInt32]
theorem own_getD_mem {α : Type} (cs : List α) (i : Nat) (d : α) (h : i < cs.length) : cs.getD i d ∈ cs := by
  rw [List.getD_eq_getElem?_getD, List.getElem?_eq_getElem h]; exact List.getElem_mem h
theorem own_alln {α : Type} {P : α → Prop} : ∀ c ∈ ([] : List α), P c := fun _ q => nomatch q
theorem own_allc {α : Type} {P : α → Prop} {x : α} {L : List α} (q : P x) (r : ∀ c ∈ L, P c) : ∀ c ∈ x :: L, P c := fun c z => (List.mem_cons.mp z).elim (fun u => u ▸ q) (r c)
theorem own_and255 (x : Int32) : 0 ≤ (x &&& 255).toInt ∧ (x &&& 255).toInt ≤ 255 := by
  rw [c_mask x 255 8 (by decide) (by decide)]
  have h1 := Int.emod_nonneg x.toInt (show ((2 ^ 8 : Nat) : Int) ≠ 0 by decide)
  have h2 := Int.emod_lt_of_pos x.toInt (show (0 : Int) < ((2 ^ 8 : Nat) : Int) by decide)
  omega
theorem own_mask8 {x c : Int32} (h : (x &&& 255).toUInt32.toUInt16.toUInt32.toInt32 = c) : 0 ≤ c.toInt ∧ c.toInt ≤ 255 := by
  rw [i2c_mask] at h; subst h; exact own_and255 x
theorem own_narC {c : Int32} (h : 0 ≤ c.toInt ∧ c.toInt ≤ 65535) : nar .char c = c := by
  apply Int32.toInt_inj.mp
  have q := c_i2c c
  show c.toUInt32.toUInt16.toUInt32.toInt32.toInt = c.toInt
  omega
theorem own_le255 {c : Int32} (h : 0 ≤ c.toInt ∧ c.toInt ≤ 255) : ¬ ((255 : Int32) < c) := by
  rw [Int32.lt_iff_toInt_lt]
  have : (255 : Int32).toInt = 255 := by decide
  omega
theorem own_nar8 {c : Int32} (h : 0 ≤ c.toInt ∧ c.toInt ≤ 255) : ¬ ((255 : Int32) < nar .char c) := by
  rw [own_narC ⟨h.1, by omega⟩]; exact own_le255 h
theorem own_setNext {vs : List Value} {cs : List Int32} {i : Nat} (f : Int32 → Value) (d x : Value) (hi : i < vs.length) (hx : x = f (cs.getD i 0)) (hv : ∀ j, j < i → vs.getD j d = f (cs.getD j 0)) : ∀ j, j < i + 1 → (vs.set i x).getD j d = f (cs.getD j 0) := by
  intro j hj
  rw [own_getD_set _ _ _ _ _ hi]
  by_cases e : j = i
  · subst e; rw [if_pos rfl]; exact hx
  · rw [if_neg e]; exact hv j (by omega)
theorem own_fitR {t : FieldType} {v : Value} (ht : t.isReference = true) (hv : v.isRef = true) : fits t v = true := by
  rcases ref_cases hv with rfl | ⟨a, rfl⟩ <;> cases t <;> simp_all [FieldType.isReference, fits]
theorem own_fitC {c : Int32} (h : 0 ≤ c.toInt ∧ c.toInt ≤ 65535) : fits .char (.int c) = true := by
  have q := fits_nar_char c
  rw [own_narC h] at q; exact q
theorem own_zero1 : (0 : Int32) + (1 : Int32) = (1 : Int32) := by decide
theorem own_emptyArv {s : State} {args : Array Value} {t : Term} {a : Addr} {cl : Cell} {ty : FieldType} {dv : Value} (hf : Fit s) (ev : t.eval args s none [] s = some (.ref a)) (A : Arr s s.heap a cl ty) (hl : (Term.length t).eval args s none [] s = some (.int (0 : Int32))) : Arv s s.heap a cl.cls ty (0 : Int32) [] dv := by
  obtain ⟨x, cl', e1, e2, -⟩ := Term.length_spec hl
  cases ev.symm.trans e1
  have hc : s.arrayAt? a = some cl := A.fin (Vm.Alike.refl _)
  cases e2.symm.trans hc
  have h31 := Jvm.Free.SBG.length_lt e1 hc hl
  have e : (Term.length t).eval args s none [] s = some (.int (Int32.ofNat cl.slots.size)) := by simp [Term.eval, e1, hc, h31]
  have q : Int32.ofNat cl.slots.size = (0 : Int32) := by simpa using Option.some.inj (e.symm.trans hl)
  exact Arv.start hf A h31 q (by decide) rfl trivial
theorem own_sz {x n : Int32} (h : ((1 : Int32) + (x &&& (3 : Int32))) = n) : 1 ≤ n.toInt ∧ n.toInt ≤ 4 := by
  have q : (x &&& (3 : Int32)).toInt = x.toInt % (2 ^ 2 : Nat) := c_mask x 3 2 (by decide) (by decide)
  have e := c_iadd 1 (x &&& (3 : Int32)); rw [h] at e
  have e1 : (1 : Int32).toInt = 1 := by decide
  have r := rng32 n
  omega
theorem own_sz0 {n : Int32} (h : 1 ≤ n.toInt ∧ n.toInt ≤ 4) : n ≠ 0 := fun e => by rw [e] at h; exact absurd h.1 (by decide)
theorem own_ixr {x n r : Int32} (h : 1 ≤ n.toInt ∧ n.toInt ≤ 4) (hr : ((x &&& (2147483647 : Int32)) % n) = r) : 0 ≤ r.toInt ∧ r.toInt < n.toInt := by
  have q := c_and x 2147483647 (by decide)
  have c := (c_iremV (x &&& 2147483647) n).1 q.1 (by omega)
  rw [hr] at c
  exact ⟨c.1, c.2.1⟩
theorem own_szb {n k : Int32} {m : Int} (h : ¬ (k < n)) (hk : k.toInt = m) : n.toInt ≤ m := by
  rw [Int32.lt_iff_toInt_lt] at h; omega
theorem own_ix1 {i n : Int32} (h0 : 0 ≤ i.toInt) (h1 : i.toInt < n.toInt) (h2 : n.toInt ≤ 1) : i = (0 : Int32) := Int32.toInt_inj.mp (by have : (0 : Int32).toInt = 0 := (by decide); omega)
theorem own_ix2 {i n : Int32} (h0 : 0 ≤ i.toInt) (h1 : i.toInt < n.toInt) (h2 : n.toInt ≤ 2) : i = (0 : Int32) ∨ i = (1 : Int32) := by
  have e0 : (0 : Int32).toInt = 0 := by decide
  have e1 : (1 : Int32).toInt = 1 := by decide
  simp only [← Int32.toInt_inj]; omega
theorem own_ix3 {i n : Int32} (h0 : 0 ≤ i.toInt) (h1 : i.toInt < n.toInt) (h2 : n.toInt ≤ 3) : i = (0 : Int32) ∨ i = (1 : Int32) ∨ i = (2 : Int32) := by
  have e0 : (0 : Int32).toInt = 0 := by decide
  have e1 : (1 : Int32).toInt = 1 := by decide
  have e2 : (2 : Int32).toInt = 2 := by decide
  simp only [← Int32.toInt_inj]; omega
theorem own_ix4 {i n : Int32} (h0 : 0 ≤ i.toInt) (h1 : i.toInt < n.toInt) (h2 : n.toInt ≤ 4) : i = (0 : Int32) ∨ i = (1 : Int32) ∨ i = (2 : Int32) ∨ i = (3 : Int32) := by
  have e0 : (0 : Int32).toInt = 0 := by decide
  have e1 : (1 : Int32).toInt = 1 := by decide
  have e2 : (2 : Int32).toInt = 2 := by decide
  have e3 : (3 : Int32).toInt = 3 := by decide
  simp only [← Int32.toInt_inj]; omega

theorem own_d1_0 : decode jdk_38_method_2_code 0 = .ok (.aload_n 0, 1) := by decide +kernel
theorem own_d1_1 : decode jdk_38_method_2_code 1 = .ok (.invokespecial 1, 3) := by decide +kernel
theorem own_d1_4 : decode jdk_38_method_2_code 4 = .ok (.aload_n 0, 1) := by decide +kernel
theorem own_d1_5 : decode jdk_38_method_2_code 5 = .ok (.getstatic 39, 3) := by decide +kernel
theorem own_d1_8 : decode jdk_38_method_2_code 8 = .ok (.putfield 9, 3) := by decide +kernel
theorem own_d1_11 : decode jdk_38_method_2_code 11 = .ok (.return_, 1) := by decide +kernel
theorem own_d2_0 : decode jdk_39_method_1_code 0 = .ok (.aload_n 0, 1) := by decide +kernel
theorem own_d2_1 : decode jdk_39_method_1_code 1 = .ok (.invokespecial 1, 3) := by decide +kernel
theorem own_d2_4 : decode jdk_39_method_1_code 4 = .ok (.aload_n 0, 1) := by decide +kernel
theorem own_d2_5 : decode jdk_39_method_1_code 5 = .ok (.iconst 0, 1) := by decide +kernel
theorem own_d2_6 : decode jdk_39_method_1_code 6 = .ok (.putfield 7, 3) := by decide +kernel
theorem own_d2_9 : decode jdk_39_method_1_code 9 = .ok (.return_, 1) := by decide +kernel
theorem own_d3_0 : decode jdk_22_method_1_code 0 = .ok (.aload_n 0, 1) := by decide +kernel
theorem own_d3_1 : decode jdk_22_method_1_code 1 = .ok (.invokespecial 1, 3) := by decide +kernel
theorem own_d3_4 : decode jdk_22_method_1_code 4 = .ok (.return_, 1) := by decide +kernel
theorem own_d5_0 : decode prog_3_method_1_code 0 = .ok (.aload_n 0, 1) := by decide +kernel
theorem own_d5_1 : decode prog_3_method_1_code 1 = .ok (.invokespecial 1, 3) := by decide +kernel
theorem own_d5_4 : decode prog_3_method_1_code 4 = .ok (.aload_n 0, 1) := by decide +kernel
theorem own_d5_5 : decode prog_3_method_1_code 5 = .ok (.aload 11, 2) := by decide +kernel
theorem own_d5_7 : decode prog_3_method_1_code 7 = .ok (.invokeinterface 7 1, 5) := by decide +kernel
theorem own_d5_12 : decode prog_3_method_1_code 12 = .ok (.putfield 13, 3) := by decide +kernel
theorem own_d5_15 : decode prog_3_method_1_code 15 = .ok (.aload_n 0, 1) := by decide +kernel
theorem own_d5_16 : decode prog_3_method_1_code 16 = .ok (.dload_n 1, 1) := by decide +kernel
theorem own_d5_17 : decode prog_3_method_1_code 17 = .ok (.putfield 19, 3) := by decide +kernel
theorem own_d5_20 : decode prog_3_method_1_code 20 = .ok (.aload_n 0, 1) := by decide +kernel
theorem own_d5_21 : decode prog_3_method_1_code 21 = .ok (.lload_n 3, 1) := by decide +kernel
theorem own_d5_22 : decode prog_3_method_1_code 22 = .ok (.putfield 23, 3) := by decide +kernel
theorem own_d5_25 : decode prog_3_method_1_code 25 = .ok (.aload_n 0, 1) := by decide +kernel
theorem own_d5_26 : decode prog_3_method_1_code 26 = .ok (.lload 5, 2) := by decide +kernel
theorem own_d5_28 : decode prog_3_method_1_code 28 = .ok (.putfield 27, 3) := by decide +kernel
theorem own_d5_31 : decode prog_3_method_1_code 31 = .ok (.aload_n 0, 1) := by decide +kernel
theorem own_d5_32 : decode prog_3_method_1_code 32 = .ok (.lload 7, 2) := by decide +kernel
theorem own_d5_34 : decode prog_3_method_1_code 34 = .ok (.putfield 30, 3) := by decide +kernel
theorem own_d5_37 : decode prog_3_method_1_code 37 = .ok (.aload_n 0, 1) := by decide +kernel
theorem own_d5_38 : decode prog_3_method_1_code 38 = .ok (.lload 9, 2) := by decide +kernel
theorem own_d5_40 : decode prog_3_method_1_code 40 = .ok (.putfield 33, 3) := by decide +kernel
theorem own_d5_43 : decode prog_3_method_1_code 43 = .ok (.aload_n 0, 1) := by decide +kernel
theorem own_d5_44 : decode prog_3_method_1_code 44 = .ok (.aload 11, 2) := by decide +kernel
theorem own_d5_46 : decode prog_3_method_1_code 46 = .ok (.putfield 36, 3) := by decide +kernel
theorem own_d5_49 : decode prog_3_method_1_code 49 = .ok (.return_, 1) := by decide +kernel
theorem own_d6_0 : decode jdk_38_method_9_code 0 = .ok (.aload_n 0, 1) := by decide +kernel
theorem own_d6_1 : decode jdk_38_method_9_code 1 = .ok (.getfield 48, 3) := by decide +kernel
theorem own_d6_4 : decode jdk_38_method_9_code 4 = .ok (.ifCond .ne 7, 3) := by decide +kernel
theorem own_d6_7 : decode jdk_38_method_9_code 7 = .ok (.iconst 1, 1) := by decide +kernel
theorem own_d6_8 : decode jdk_38_method_9_code 8 = .ok (.goto 4, 3) := by decide +kernel
theorem own_d6_11 : decode jdk_38_method_9_code 11 = .ok (.iconst 0, 1) := by decide +kernel
theorem own_d6_12 : decode jdk_38_method_9_code 12 = .ok (.ireturn, 1) := by decide +kernel
theorem own_d7_0 : decode prog_3_method_2_code 0 = .ok (.getstatic 40, 3) := by decide +kernel
theorem own_d7_3 : decode prog_3_method_2_code 3 = .ok (.areturn, 1) := by decide +kernel
theorem own_d8_0 : decode prog_3_method_3_code 0 = .ok (.aload_n 0, 1) := by decide +kernel
theorem own_d8_1 : decode prog_3_method_3_code 1 = .ok (.getstatic 40, 3) := by decide +kernel
theorem own_d8_4 : decode prog_3_method_3_code 4 = .ok (.if_acmp .ne 7, 3) := by decide +kernel
theorem own_d8_7 : decode prog_3_method_3_code 7 = .ok (.iconst 1, 1) := by decide +kernel
theorem own_d8_8 : decode prog_3_method_3_code 8 = .ok (.goto 4, 3) := by decide +kernel
theorem own_d8_11 : decode prog_3_method_3_code 11 = .ok (.iconst 0, 1) := by decide +kernel
theorem own_d8_12 : decode prog_3_method_3_code 12 = .ok (.ireturn, 1) := by decide +kernel
theorem own_d9_0 : decode jdk_42_method_139_code 0 = .ok (.getstatic 38, 3) := by decide +kernel
theorem own_d9_3 : decode jdk_42_method_139_code 3 = .ok (.ifCond .eq 23, 3) := by decide +kernel
theorem own_d9_6 : decode jdk_42_method_139_code 6 = .ok (.iload_n 0, 1) := by decide +kernel
theorem own_d9_7 : decode jdk_42_method_139_code 7 = .ok (.invokestatic 1015, 3) := by decide +kernel
theorem own_d9_10 : decode jdk_42_method_139_code 10 = .ok (.ifCond .eq 16, 3) := by decide +kernel
theorem own_d9_13 : decode jdk_42_method_139_code 13 = .ok (.new 10, 3) := by decide +kernel
theorem own_d9_16 : decode jdk_42_method_139_code 16 = .ok (.dup, 1) := by decide +kernel
theorem own_d9_17 : decode jdk_42_method_139_code 17 = .ok (.iload_n 0, 1) := by decide +kernel
theorem own_d9_18 : decode jdk_42_method_139_code 18 = .ok (.invokestatic 1018, 3) := by decide +kernel
theorem own_d9_21 : decode jdk_42_method_139_code 21 = .ok (.iconst 0, 1) := by decide +kernel
theorem own_d9_22 : decode jdk_42_method_139_code 22 = .ok (.invokespecial 209, 3) := by decide +kernel
theorem own_d9_25 : decode jdk_42_method_139_code 25 = .ok (.areturn, 1) := by decide +kernel
theorem own_d10_0 : decode jdk_43_method_3_code 0 = .ok (.iload_n 0, 1) := by decide +kernel
theorem own_d10_1 : decode jdk_43_method_3_code 1 = .ok (.sipush 255, 3) := by decide +kernel
theorem own_d10_4 : decode jdk_43_method_3_code 4 = .ok (.if_icmp .gt 7, 3) := by decide +kernel
theorem own_d10_7 : decode jdk_43_method_3_code 7 = .ok (.iconst 1, 1) := by decide +kernel
theorem own_d10_8 : decode jdk_43_method_3_code 8 = .ok (.goto 4, 3) := by decide +kernel
theorem own_d10_12 : decode jdk_43_method_3_code 12 = .ok (.ireturn, 1) := by decide +kernel
theorem own_d11_0 : decode jdk_43_method_46_code 0 = .ok (.iconst 1, 1) := by decide +kernel
theorem own_d11_1 : decode jdk_43_method_46_code 1 = .ok (.newarray .byte, 2) := by decide +kernel
theorem own_d11_3 : decode jdk_43_method_46_code 3 = .ok (.dup, 1) := by decide +kernel
theorem own_d11_4 : decode jdk_43_method_46_code 4 = .ok (.iconst 0, 1) := by decide +kernel
theorem own_d11_5 : decode jdk_43_method_46_code 5 = .ok (.iload_n 0, 1) := by decide +kernel
theorem own_d11_6 : decode jdk_43_method_46_code 6 = .ok (.i2b, 1) := by decide +kernel
theorem own_d11_7 : decode jdk_43_method_46_code 7 = .ok (.bastore, 1) := by decide +kernel
theorem own_d11_8 : decode jdk_43_method_46_code 8 = .ok (.areturn, 1) := by decide +kernel
theorem own_d12_0 : decode jdk_42_method_151_code 0 = .ok (.aload_n 0, 1) := by decide +kernel
theorem own_d12_1 : decode jdk_42_method_151_code 1 = .ok (.invokespecial 1, 3) := by decide +kernel
theorem own_d12_4 : decode jdk_42_method_151_code 4 = .ok (.aload_n 0, 1) := by decide +kernel
theorem own_d12_5 : decode jdk_42_method_151_code 5 = .ok (.aload_n 1, 1) := by decide +kernel
theorem own_d12_6 : decode jdk_42_method_151_code 6 = .ok (.putfield 9, 3) := by decide +kernel
theorem own_d12_9 : decode jdk_42_method_151_code 9 = .ok (.aload_n 0, 1) := by decide +kernel
theorem own_d12_10 : decode jdk_42_method_151_code 10 = .ok (.iload_n 2, 1) := by decide +kernel
theorem own_d12_11 : decode jdk_42_method_151_code 11 = .ok (.putfield 15, 3) := by decide +kernel
theorem own_d12_14 : decode jdk_42_method_151_code 14 = .ok (.return_, 1) := by decide +kernel
theorem own_d13_0 : decode jdk_38_method_25_code 0 = .ok (.aload_n 0, 1) := by decide +kernel
theorem own_d13_1 : decode jdk_38_method_25_code 1 = .ok (.dup, 1) := by decide +kernel
theorem own_d13_2 : decode jdk_38_method_25_code 2 = .ok (.getfield 63, 3) := by decide +kernel
theorem own_d13_5 : decode jdk_38_method_25_code 5 = .ok (.iconst 1, 1) := by decide +kernel
theorem own_d13_6 : decode jdk_38_method_25_code 6 = .ok (.iadd, 1) := by decide +kernel
theorem own_d13_7 : decode jdk_38_method_25_code 7 = .ok (.putfield 63, 3) := by decide +kernel
theorem own_d13_10 : decode jdk_38_method_25_code 10 = .ok (.aload_n 0, 1) := by decide +kernel
theorem own_d13_11 : decode jdk_38_method_25_code 11 = .ok (.aload_n 1, 1) := by decide +kernel
theorem own_d13_12 : decode jdk_38_method_25_code 12 = .ok (.aload_n 0, 1) := by decide +kernel
theorem own_d13_13 : decode jdk_38_method_25_code 13 = .ok (.getfield 9, 3) := by decide +kernel
theorem own_d13_16 : decode jdk_38_method_25_code 16 = .ok (.aload_n 0, 1) := by decide +kernel
theorem own_d13_17 : decode jdk_38_method_25_code 17 = .ok (.getfield 48, 3) := by decide +kernel
theorem own_d13_20 : decode jdk_38_method_25_code 20 = .ok (.invokevirtual 131, 3) := by decide +kernel
theorem own_d13_23 : decode jdk_38_method_25_code 23 = .ok (.iconst 1, 1) := by decide +kernel
theorem own_d13_24 : decode jdk_38_method_25_code 24 = .ok (.ireturn, 1) := by decide +kernel
theorem own_d14_0 : decode jdk_38_method_24_code 0 = .ok (.iload_n 3, 1) := by decide +kernel
theorem own_d14_1 : decode jdk_38_method_24_code 1 = .ok (.aload_n 2, 1) := by decide +kernel
theorem own_d14_2 : decode jdk_38_method_24_code 2 = .ok (.arraylength, 1) := by decide +kernel
theorem own_d14_3 : decode jdk_38_method_24_code 3 = .ok (.if_icmp .ne 8, 3) := by decide +kernel
theorem own_d14_6 : decode jdk_38_method_24_code 6 = .ok (.aload_n 0, 1) := by decide +kernel
theorem own_d14_7 : decode jdk_38_method_24_code 7 = .ok (.invokevirtual 129, 3) := by decide +kernel
theorem own_d14_10 : decode jdk_38_method_24_code 10 = .ok (.astore_n 2, 1) := by decide +kernel
theorem own_d14_11 : decode jdk_38_method_24_code 11 = .ok (.aload_n 2, 1) := by decide +kernel
theorem own_d14_12 : decode jdk_38_method_24_code 12 = .ok (.iload_n 3, 1) := by decide +kernel
theorem own_d14_13 : decode jdk_38_method_24_code 13 = .ok (.aload_n 1, 1) := by decide +kernel
theorem own_d14_14 : decode jdk_38_method_24_code 14 = .ok (.aastore, 1) := by decide +kernel
theorem own_d14_15 : decode jdk_38_method_24_code 15 = .ok (.aload_n 0, 1) := by decide +kernel
theorem own_d14_16 : decode jdk_38_method_24_code 16 = .ok (.iload_n 3, 1) := by decide +kernel
theorem own_d14_17 : decode jdk_38_method_24_code 17 = .ok (.iconst 1, 1) := by decide +kernel
theorem own_d14_18 : decode jdk_38_method_24_code 18 = .ok (.iadd, 1) := by decide +kernel
theorem own_d14_19 : decode jdk_38_method_24_code 19 = .ok (.putfield 48, 3) := by decide +kernel
theorem own_d14_22 : decode jdk_38_method_24_code 22 = .ok (.return_, 1) := by decide +kernel
theorem own_d15_0 : decode jdk_38_method_7_code 0 = .ok (.aload_n 0, 1) := by decide +kernel
theorem own_d15_1 : decode jdk_38_method_7_code 1 = .ok (.aload_n 0, 1) := by decide +kernel
theorem own_d15_2 : decode jdk_38_method_7_code 2 = .ok (.getfield 48, 3) := by decide +kernel
theorem own_d15_5 : decode jdk_38_method_7_code 5 = .ok (.iconst 1, 1) := by decide +kernel
theorem own_d15_6 : decode jdk_38_method_7_code 6 = .ok (.iadd, 1) := by decide +kernel
theorem own_d15_7 : decode jdk_38_method_7_code 7 = .ok (.invokevirtual 69, 3) := by decide +kernel
theorem own_d15_10 : decode jdk_38_method_7_code 10 = .ok (.areturn, 1) := by decide +kernel
theorem own_d16_0 : decode jdk_38_method_6_code 0 = .ok (.aload_n 0, 1) := by decide +kernel
theorem own_d16_1 : decode jdk_38_method_6_code 1 = .ok (.getfield 9, 3) := by decide +kernel
theorem own_d16_4 : decode jdk_38_method_6_code 4 = .ok (.arraylength, 1) := by decide +kernel
theorem own_d16_5 : decode jdk_38_method_6_code 5 = .ok (.istore_n 2, 1) := by decide +kernel
theorem own_d16_6 : decode jdk_38_method_6_code 6 = .ok (.iload_n 2, 1) := by decide +kernel
theorem own_d16_7 : decode jdk_38_method_6_code 7 = .ok (.ifCond .gt 13, 3) := by decide +kernel
theorem own_d16_10 : decode jdk_38_method_6_code 10 = .ok (.aload_n 0, 1) := by decide +kernel
theorem own_d16_11 : decode jdk_38_method_6_code 11 = .ok (.getfield 9, 3) := by decide +kernel
theorem own_d16_14 : decode jdk_38_method_6_code 14 = .ok (.getstatic 39, 3) := by decide +kernel
theorem own_d16_17 : decode jdk_38_method_6_code 17 = .ok (.if_acmp .eq 28, 3) := by decide +kernel
theorem own_d16_45 : decode jdk_38_method_6_code 45 = .ok (.aload_n 0, 1) := by decide +kernel
theorem own_d16_46 : decode jdk_38_method_6_code 46 = .ok (.bipush 10, 2) := by decide +kernel
theorem own_d16_48 : decode jdk_38_method_6_code 48 = .ok (.iload_n 1, 1) := by decide +kernel
theorem own_d16_49 : decode jdk_38_method_6_code 49 = .ok (.invokestatic 79, 3) := by decide +kernel
theorem own_d16_52 : decode jdk_38_method_6_code 52 = .ok (.anewarray 7, 3) := by decide +kernel
theorem own_d16_55 : decode jdk_38_method_6_code 55 = .ok (.dup_x1, 1) := by decide +kernel
theorem own_d16_56 : decode jdk_38_method_6_code 56 = .ok (.putfield 9, 3) := by decide +kernel
theorem own_d16_59 : decode jdk_38_method_6_code 59 = .ok (.areturn, 1) := by decide +kernel
theorem own_d17_0 : decode jdk_29_method_65_code 0 = .ok (.iload_n 0, 1) := by decide +kernel
theorem own_d17_1 : decode jdk_29_method_65_code 1 = .ok (.iload_n 1, 1) := by decide +kernel
theorem own_d17_2 : decode jdk_29_method_65_code 2 = .ok (.if_icmp .lt 7, 3) := by decide +kernel
theorem own_d17_5 : decode jdk_29_method_65_code 5 = .ok (.iload_n 0, 1) := by decide +kernel
theorem own_d17_6 : decode jdk_29_method_65_code 6 = .ok (.goto 4, 3) := by decide +kernel
theorem own_d17_10 : decode jdk_29_method_65_code 10 = .ok (.ireturn, 1) := by decide +kernel
theorem own_pd0 : parseMethodDescriptor "([BB)V" = some ⟨[(.array .byte), .byte], none⟩ := by decide +kernel
set_option maxRecDepth 65536 in
set_option maxHeartbeats 40000000 in
theorem own_strb0 (l : Launch) (Z : State) (a0 : Array Value) (hw : ∀ d ∈ tables_1, d.before a0 Z = true) (a : Addr) (b : Addr) (v0 : Value) (v1 : Value) (h0 : Heap) (O0 : own_Old Z h0) (g0_E : Exa Z h0 a "java/lang/String") (g1_F : Fld Z h0 a "java/lang/String" "coder" "B" v0) (g2_F : Fld Z h0 a "java/lang/String" "value" "[B" v1) (g3_G : Z.heap.size ≤ a) :
    own_Con l Z (⟨"java/lang/String", "<init>", "([BB)V"⟩ : MethodName) jdk_42_method_151_code 3 none [] ({ frames := 1, cells := 0, slots := 0, locals := 12 } : Room) #[(.ref a), (.ref b), (.int (0 : Int32))] h0 (fun rv rh rL => rv = none ∧ own_Fr Z rL ∧ Keep h0 rh [a] ∧ (Exa Z rh a "java/lang/String") ∧ (Fld Z rh a "java/lang/String" "coder" "B" (.int (0 : Int32))) ∧ (Fld Z rh a "java/lang/String" "value" "[B" (.ref b))) := by
  refine own_intro (plainFor_of_name (by first | (simp [plainName, overriddenIn]; done) | decide +kernel)) ?_
  intro p e s m below meth c s₁ G hx hby hml hown hnm hret hZ X0 e0 hG hR
  have N0 := Fr.nil Z.heap.size
  refine own_entry (Ls := #[.val (.ref a), .val (.ref b), .val (.int (0 : Int32))]) (by first | (simp [entryFrame, mkF, argsToLocals, Value.category]; done) | rfl) ?_
  show G (s₁.setTop (mkF m 0 #[.val (.ref a), .val (.ref b), .val (.int (0 : Int32))] []))
  refine hG _ _ (fun t_ k_ => XS.aloadN X0.here hx rfl (hb hby own_d12_0) rfl rfl k_) ?_
  show G (s₁.setTop (mkF m 1 #[.val (.ref a), .val (.ref b), .val (.int (0 : Int32))] [(.ref a)]))
  obtain ⟨T1, X1, e1, st1⟩ := initO X0 hx hZ hown (hw _ (List.mem_of_getElem? (i := 90) rfl)) (hw _ (List.mem_of_getElem? (i := 20) rfl)) (hw _ (List.mem_of_getElem? (i := 21) rfl)) e0 (g := (mkF m 1 #[.val (.ref a), .val (.ref b), .val (.int (0 : Int32))] [(.ref a)])) rfl (by rw [hml]; rfl) rfl (hb hby own_d12_1) (by decide) (W := 0) (by show 2 * 0 + _ ≤ _; exact Nat.le_of_eq rfl) (by decide)
  refine hG _ _ st1 ?_
  show G (T1.setTop (mkF m 4 #[.val (.ref a), .val (.ref b), .val (.int (0 : Int32))] []))
  refine hG _ _ (fun t_ k_ => XS.aloadN X1.here hx rfl (hb hby own_d12_4) rfl rfl k_) ?_
  show G (T1.setTop (mkF m 5 #[.val (.ref a), .val (.ref b), .val (.int (0 : Int32))] [(.ref a)]))
  refine hG _ _ (fun t_ k_ => XS.aloadN X1.here hx rfl (hb hby own_d12_5) rfl rfl k_) ?_
  show G (T1.setTop (mkF m 6 #[.val (.ref a), .val (.ref b), .val (.int (0 : Int32))] [(.ref b), (.ref a)]))
  obtain ⟨T2, h2, X2, e2, W2, st2⟩ := putF X1 hx hZ hown (host := "") (Or.inl (hw _ (List.mem_of_getElem? (i := 91) rfl))) Via.refl e1 g2_F g0_E (Or.inr ⟨(hw _ (List.mem_of_getElem? (i := 92) rfl)), rfl, hnm⟩) (hw _ (List.mem_of_getElem? (i := 81) rfl)) (ty := (.array .byte)) (by decide) rfl rfl (g := (mkF m 6 #[.val (.ref a), .val (.ref b), .val (.int (0 : Int32))] [(.ref b), (.ref a)])) rfl rfl (hb hby own_d12_6)
  refine hG _ _ st2 ?_
  have K2 : Keep h0 h2 [a] := (Keep.refl h0 [a]).wr W2 (Or.inl (List.mem_of_getElem? (i := 0) rfl))
  have O2 : own_Old Z h2 := O0.wr W2 g3_G
  have N2 := Fr.snoc X2 N0 g3_G
  show G (T2.setTop (mkF m 9 #[.val (.ref a), .val (.ref b), .val (.int (0 : Int32))] []))
  refine hG _ _ (fun t_ k_ => XS.aloadN X2.here hx rfl (hb hby own_d12_9) rfl rfl k_) ?_
  show G (T2.setTop (mkF m 10 #[.val (.ref a), .val (.ref b), .val (.int (0 : Int32))] [(.ref a)]))
  refine hG _ _ (fun t_ k_ => XS.iloadN X2.here hx rfl (hb hby own_d12_10) rfl k_) ?_
  show G (T2.setTop (mkF m 11 #[.val (.ref a), .val (.ref b), .val (.int (0 : Int32))] [(.int (0 : Int32)), (.ref a)]))
  have f4 := (g1_F.other W2 (Or.inr (slot_ne (Or.inr (hw _ (List.mem_of_getElem? (i := 94) rfl))) (Or.inr (hw _ (List.mem_of_getElem? (i := 92) rfl))) (by decide) (t := .byte) (t' := (.array .byte)) (by decide) (by decide))))
  have f5 := (g0_E.wr W2)
  obtain ⟨T3, h3, X3, e3, W3, st3⟩ := putFN X2 hx hZ hown (hw _ (List.mem_of_getElem? (i := 93) rfl)) Via.refl e2 f4 f5 (Or.inr ⟨(hw _ (List.mem_of_getElem? (i := 94) rfl)), rfl, hnm⟩) (hw _ (List.mem_of_getElem? (i := 81) rfl)) (ty := .byte) (v' := (.int (0 : Int32))) (by decide) rfl rfl (g := (mkF m 11 #[.val (.ref a), .val (.ref b), .val (.int (0 : Int32))] [(.int (0 : Int32)), (.ref a)])) rfl rfl (hb hby own_d12_11)
  refine hG _ _ st3 ?_
  have K3 : Keep h0 h3 [a] := K2.wr W3 (Or.inl (List.mem_of_getElem? (i := 0) rfl))
  have O3 : own_Old Z h3 := O2.wr W3 g3_G
  have N3 := Fr.snoc X3 N2 g3_G
  show G (T3.setTop (mkF m 14 #[.val (.ref a), .val (.ref b), .val (.int (0 : Int32))] []))
  have f6 := (f5.wr W3)
  have f7 := ((g2_F.same W2).other W3 (Or.inr (slot_ne (Or.inr (hw _ (List.mem_of_getElem? (i := 92) rfl))) (Or.inr (hw _ (List.mem_of_getElem? (i := 94) rfl))) (by decide) (t := (.array .byte)) (t' := .byte) (by decide) (by decide))))
  exact own_retV hR hret X3 hx (hb hby own_d12_14) (by decide) (by decide) (by rw [e3]; exact ⟨rfl, N3, K3, f6, (f4.same W3), f7⟩)
theorem own_pd1 : parseMethodDescriptor "(C)Z" = some ⟨[.char], some .boolean⟩ := by decide +kernel
set_option maxRecDepth 65536 in
set_option maxHeartbeats 40000000 in
theorem own_can1 (l : Launch) (Z : State) (a0 : Array Value) (hw : ∀ d ∈ tables_1, d.before a0 Z = true) (ch : Int32) (h0 : Heap) (O0 : own_Old Z h0) (g0_hch : ¬ ((255 : Int32) < ch)) :
    own_Con l Z (⟨"java/lang/StringLatin1", "canEncode", "(C)Z"⟩ : MethodName) jdk_43_method_3_code 1 (some .boolean) [] ({ frames := 0, cells := 0, slots := 0, locals := 0 } : Room) #[(.int ch)] h0 (fun rv rh rL => rv = some (.int (1 : Int32)) ∧ own_Fr Z rL ∧ h0 = rh) := by
  refine own_intro (plainFor_of_name (by first | (simp [plainName, overriddenIn]; done) | decide +kernel)) ?_
  intro p e s m below meth c s₁ G hx hby hml hown hnm hret hZ X0 e0 hG hR
  have N0 := Fr.nil Z.heap.size
  refine own_entry (Ls := #[.val (.int ch)]) (by first | (simp [entryFrame, mkF, argsToLocals, Value.category]; done) | rfl) ?_
  show G (s₁.setTop (mkF m 0 #[.val (.int ch)] []))
  refine hG _ _ (fun t_ k_ => XS.iloadN X0.here hx rfl (hb hby own_d10_0) rfl k_) ?_
  show G (s₁.setTop (mkF m 1 #[.val (.int ch)] [(.int ch)]))
  refine hG _ _ (fun t_ k_ => XS.sipush X0.here hx rfl (hb hby own_d10_1) k_) ?_
  show G (s₁.setTop (mkF m 4 #[.val (.int ch)] [(.int (255 : Int32)), (.int ch)]))
  refine hG _ _ (fun t_ k_ => XS.icmpNo X0.here hx rfl (hb hby own_d10_4) rfl (flt g0_hch).2.2.1 k_) ?_
  show G (s₁.setTop (mkF m 7 #[.val (.int ch)] []))
  refine hG _ _ (fun t_ k_ => XS.iconst X0.here hx rfl (hb hby own_d10_7) k_) ?_
  show G (s₁.setTop (mkF m 8 #[.val (.int ch)] [(.int (1 : Int32))]))
  refine hG _ _ (fun t_ k_ => XS.goto X0.here hx rfl (pc0 := 8) (pc' := 12) rfl (hb hby own_d10_8) (by decide) (by decide) k_) ?_
  show G (s₁.setTop (mkF m 12 #[.val (.int ch)] [(.int (1 : Int32))]))
  exact own_retN hR hret (by simp) X0 hx (hb hby own_d10_12) (by decide) (by decide) (by rw [e0]; exact ⟨rfl, N0, rfl⟩)
theorem own_pd2 : parseMethodDescriptor "(C)[B" = some ⟨[.char], some (.array .byte)⟩ := by decide +kernel
set_option maxRecDepth 65536 in
set_option maxHeartbeats 40000000 in
theorem own_tob1 (l : Launch) (Z : State) (a0 : Array Value) (hw : ∀ d ∈ tables_1, d.before a0 Z = true) (ch : Int32) (h0 : Heap) (O0 : own_Old Z h0) :
    own_Con l Z (⟨"java/lang/StringLatin1", "toBytes", "(C)[B"⟩ : MethodName) jdk_43_method_46_code 1 (some (.array .byte)) [] ({ frames := 0, cells := 1, slots := 1, locals := 0 } : Room) #[(.int ch)] h0 (fun rv rh rL => ∃ (t : Addr) (kt : ClassId), rv = some (.ref t) ∧ own_Fr Z rL ∧ Keep h0 rh [] ∧ h0.size ≤ t ∧ (Arv Z rh t kt .byte (1 : Int32) [(.int (nar .byte (ch.toInt8.toInt32)))] (.int (0 : Int32)))) := by
  refine own_intro (plainFor_of_name (by first | (simp [plainName, overriddenIn]; done) | decide +kernel)) ?_
  intro p e s m below meth c s₁ G hx hby hml hown hnm hret hZ X0 e0 hG hR
  have N0 := Fr.nil Z.heap.size
  refine own_entry (Ls := #[.val (.int ch)]) (by first | (simp [entryFrame, mkF, argsToLocals, Value.category]; done) | rfl) ?_
  show G (s₁.setTop (mkF m 0 #[.val (.int ch)] []))
  refine hG _ _ (fun t_ k_ => XS.iconst X0.here hx rfl (hb hby own_d11_0) k_) ?_
  show G (s₁.setTop (mkF m 1 #[.val (.int ch)] [(.int (1 : Int32))]))
  obtain ⟨T1, h1, k1, X1, e1, E1, A1, st1⟩ := newP X0 hx hZ (hw _ (List.mem_of_getElem? (i := 85) rfl)) e0 (g := (mkF m 1 #[.val (.int ch)] [(.int (1 : Int32))])) rfl (hb hby own_d11_1) rfl (by decide) (cap := 1) (by decide) (by decide) (by decide) (by decide)
  obtain ⟨b1, z1⟩ : ∃ z, z = h0.size := ⟨_, rfl⟩
  rw [← z1] at A1 st1
  refine hG _ _ st1 ?_
  have K1 : Keep h0 h1 [] := (Keep.refl h0 []).ext E1
  have O1 : own_Old Z h1 := O0.ext E1
  have V1 : Arv Z h1 b1 k1 .byte (1 : Int32) [(.int (0 : Int32))] (.int (0 : Int32)) := (Arv.new A1 (by decide)).pad (pad_rep [] (.int (0 : Int32)) 1)
  show G (T1.setTop (mkF m 3 #[.val (.int ch)] [(.ref b1)]))
  refine hG _ _ (fun t_ k_ => XS.dup X1.here hx rfl (hb hby own_d11_3) rfl rfl k_) ?_
  show G (T1.setTop (mkF m 4 #[.val (.int ch)] [(.ref b1), (.ref b1)]))
  refine hG _ _ (fun t_ k_ => XS.iconst X1.here hx rfl (hb hby own_d11_4) k_) ?_
  show G (T1.setTop (mkF m 5 #[.val (.int ch)] [(.int (0 : Int32)), (.ref b1), (.ref b1)]))
  refine hG _ _ (fun t_ k_ => XS.iloadN X1.here hx rfl (hb hby own_d11_5) rfl k_) ?_
  show G (T1.setTop (mkF m 6 #[.val (.int ch)] [(.int ch), (.int (0 : Int32)), (.ref b1), (.ref b1)]))
  refine hG _ _ (fun t_ k_ => XS.i2b X1.here hx rfl (hb hby own_d11_6) rfl k_) ?_
  show G (T1.setTop (mkF m 7 #[.val (.int ch)] [(.int (ch.toInt8.toInt32)), (.int (0 : Int32)), (.ref b1), (.ref b1)]))
  obtain ⟨c2, Ar2, q2, S2, M2, H2, G2⟩ := id V1
  obtain ⟨T2, h2, X2, e2, W2, st2⟩ := stB X1 hx hZ e1 Ar2 (j := (0 : Int32)) (inb_of S2 ⟨by decide, by decide⟩) (g := (mkF m 7 #[.val (.int ch)] [(.int (ch.toInt8.toInt32)), (.int (0 : Int32)), (.ref b1), (.ref b1)])) rfl rfl (hb hby own_d11_7)
  refine hG _ _ st2 ?_
  have K2 : Keep h0 h2 [] := K1.wr W2 (Or.inr (Nat.le_trans (Keep.refl h0 []).1 (Nat.le_of_eq z1.symm)))
  have O2 : own_Old Z h2 := O1.wr W2 (own_ge O0 (Nat.le_of_eq z1.symm))
  have V2 : Arv Z h2 b1 k1 .byte (1 : Int32) [(.int (nar .byte (ch.toInt8.toInt32)))] (.int (0 : Int32)) := Arv.set Ar2 q2 S2 M2 H2 G2 (fits_nar_byte _) W2 0 rfl (Nat.le_of_ble_eq_true rfl)
  have N2 := Fr.snoc X2 N0 (own_ge O0 (Nat.le_of_eq z1.symm))
  show G (T2.setTop (mkF m 8 #[.val (.int ch)] [(.ref b1)]))
  exact own_retA hR hret rfl rfl X2 hx (hb hby own_d11_8) (by decide) (by decide) (by rw [e2]; exact ⟨b1, k1, rfl, N2, K2, (Nat.le_trans (Keep.refl h0 []).1 (Nat.le_of_eq z1.symm)), V2⟩)
theorem own_pd3 : parseMethodDescriptor "(C)Ljava/lang/String;" = some ⟨[.char], some (.object "java/lang/String")⟩ := by decide +kernel
set_option maxRecDepth 65536 in
set_option maxHeartbeats 40000000 in
theorem own_val1 (l : Launch) (Z : State) (a0 : Array Value) (hw : ∀ d ∈ tables_1, d.before a0 Z = true) (ch : Int32) (cpt : Int32) (h0 : Heap) (O0 : own_Old Z h0) (g0_hch : ¬ ((255 : Int32) < ch)) (g1_S : Sta Z Z.heap "java/lang/String" "COMPACT_STRINGS" "Z" (.int cpt)) (g2_hcpt : ¬ (cpt = (0 : Int32))) :
    own_Con l Z (⟨"java/lang/String", "valueOf", "(C)Ljava/lang/String;"⟩ : MethodName) jdk_42_method_139_code 1 (some (.object "java/lang/String")) [] ({ frames := 2, cells := 2, slots := 5, locals := 27 } : Room) #[(.int ch)] h0 (fun rv rh rL => ∃ (t : Addr) (b : Addr) (kb : ClassId), rv = some (.ref t) ∧ own_Fr Z rL ∧ Keep h0 rh [] ∧ h0.size ≤ t ∧ h0.size ≤ b ∧ (Exa Z rh t "java/lang/String") ∧ (Fld Z rh t "java/lang/String" "coder" "B" (.int (0 : Int32))) ∧ (Fld Z rh t "java/lang/String" "value" "[B" (.ref b)) ∧ (Arv Z rh b kb .byte (1 : Int32) [(.int (nar .byte (ch.toInt8.toInt32)))] (.int (0 : Int32)))) := by
  refine own_intro (plainFor_of_name (by first | (simp [plainName, overriddenIn]; done) | decide +kernel)) ?_
  intro p e s m below meth c s₁ G hx hby hml hown hnm hret hZ X0 e0 hG hR
  have N0 := Fr.nil Z.heap.size
  refine own_entry (Ls := #[.val (.int ch)]) (by first | (simp [entryFrame, mkF, argsToLocals, Value.category]; done) | rfl) ?_
  show G (s₁.setTop (mkF m 0 #[.val (.int ch)] []))
  obtain ⟨T1, X1, e1, st1⟩ := getS2 X0 hx hZ hown (host := "") (Or.inl (hw _ (List.mem_of_getElem? (i := 75) rfl))) Via.refl e0 (own_sta g1_S O0) (g := (mkF m 0 #[.val (.int ch)] [])) rfl (hb hby own_d9_0)
  refine hG _ _ st1 ?_
  show G (T1.setTop (mkF m 3 #[.val (.int ch)] [(.int cpt)]))
  refine hG _ _ (fun t_ k_ => XS.ifNo X1.here hx rfl (hb hby own_d9_3) rfl ((if0 _ _).trans (feq g2_hcpt).1) k_) ?_
  show G (T1.setTop (mkF m 6 #[.val (.int ch)] []))
  refine hG _ _ (fun t_ k_ => XS.iloadN X1.here hx rfl (hb hby own_d9_6) rfl k_) ?_
  show G (T1.setTop (mkF m 7 #[.val (.int ch)] [(.int ch)]))
  refine own_callS X1 hx hZ hG hown (hw _ (List.mem_of_getElem? (i := 76) rfl)) (hw _ (List.mem_of_getElem? (i := 77) rfl)) (hw _ (List.mem_of_getElem? (i := 78) rfl)) (hw _ (List.mem_of_getElem? (i := 79) rfl)) (by decide) 0 (own_can1 l Z a0 hw ch h0 O0 g0_hch) (by decide) (by decide) e1 (by rw [hml]; rfl) (lenOf own_pd1 rfl) (argsL := [(.int ch)]) (rest := []) rfl rfl (Nat.le_of_eq rfl) (hb hby own_d9_7) (by decide) (by decide) ?_
  intro T2 h2 v2 L2 X2 e2 q2
  obtain ⟨rfl, M2, rfl⟩ := q2
  have N2 := Fr.app N0 M2
  show G (T2.setTop (mkF m 10 #[.val (.int ch)] [(.int (1 : Int32))]))
  refine hG _ _ (fun t_ k_ => XS.ifNo X2.here hx rfl (hb hby own_d9_10) rfl ((if0 _ _).trans (feq (by decide)).1) k_) ?_
  show G (T2.setTop (mkF m 13 #[.val (.int ch)] []))
  obtain ⟨T3, h3, X3, e3, E3, A3, D3, -, st3⟩ := newO X2 hx hZ hown (hw _ (List.mem_of_getElem? (i := 80) rfl)) (hw _ (List.mem_of_getElem? (i := 81) rfl)) (hw _ (List.mem_of_getElem? (i := 73) rfl)) e2 (g := (mkF m 13 #[.val (.int ch)] [])) rfl (hb hby own_d9_13) (by decide) (by decide)
  obtain ⟨b3, z3⟩ : ∃ z, z = h0.size := ⟨_, rfl⟩
  rw [← z3] at A3 D3 st3
  refine hG _ _ st3 ?_
  have K3 : Keep h0 h3 [] := (Keep.refl h0 []).ext E3
  have O3 : own_Old Z h3 := O0.ext E3
  show G (T3.setTop (mkF m 16 #[.val (.int ch)] [(.ref b3)]))
  refine hG _ _ (fun t_ k_ => XS.dup X3.here hx rfl (hb hby own_d9_16) rfl rfl k_) ?_
  show G (T3.setTop (mkF m 17 #[.val (.int ch)] [(.ref b3), (.ref b3)]))
  refine hG _ _ (fun t_ k_ => XS.iloadN X3.here hx rfl (hb hby own_d9_17) rfl k_) ?_
  show G (T3.setTop (mkF m 18 #[.val (.int ch)] [(.int ch), (.ref b3), (.ref b3)]))
  refine own_callS X3 hx hZ hG hown (hw _ (List.mem_of_getElem? (i := 82) rfl)) (hw _ (List.mem_of_getElem? (i := 83) rfl)) (hw _ (List.mem_of_getElem? (i := 78) rfl)) (hw _ (List.mem_of_getElem? (i := 84) rfl)) (by decide) 2 (own_tob1 l Z a0 hw ch h3 O3) (by decide) (by decide) e3 (by rw [hml]; rfl) (lenOf own_pd2 rfl) (argsL := [(.int ch)]) (rest := [(.ref b3), (.ref b3)]) rfl rfl (Nat.le_of_eq rfl) (hb hby own_d9_18) (by decide) (by decide) ?_
  intro T4 h4 v4 L4 X4 e4 q4
  obtain ⟨t_4, kt_4, rfl, M4, J4, y4_0, r4_0⟩ := q4
  have N4 := Fr.app N2 M4
  have K4 : Keep h0 h4 [] := K3.trans J4 all0
  have O4 : own_Old Z h4 := O3.keep J4 all0
  show G (T4.setTop (mkF m 21 #[.val (.int ch)] [(.ref t_4), (.ref b3), (.ref b3)]))
  refine hG _ _ (fun t_ k_ => XS.iconst X4.here hx rfl (hb hby own_d9_21) k_) ?_
  show G (T4.setTop (mkF m 22 #[.val (.int ch)] [(.int (0 : Int32)), (.ref t_4), (.ref b3), (.ref b3)]))
  have f6 := (A3.keep J4)
  have f7 := ((D3 (Or.inr (hw _ (List.mem_of_getElem? (i := 94) rfl))) (ty := .byte) (by decide)).keep J4 nin0)
  have f8 := ((D3 (Or.inr (hw _ (List.mem_of_getElem? (i := 92) rfl))) (ty := (.array .byte)) (by decide)).keep J4 nin0)
  refine own_callI X4 hx hZ hG hown rfl (hw _ (List.mem_of_getElem? (i := 86) rfl)) (hw _ (List.mem_of_getElem? (i := 87) rfl)) (hw _ (List.mem_of_getElem? (i := 73) rfl)) (hw _ (List.mem_of_getElem? (i := 89) rfl)) (by decide) 1 (own_strb0 l Z a0 hw b3 t_4 (.int (0 : Int32)) .null h4 O4 f6 f7 f8 (own_ge O0 (Nat.le_of_eq z3.symm))) (by decide) (by decide) e4 (by rw [hml]; rfl) (lenOf own_pd0 rfl) (argsL := [(.ref t_4), (.int (0 : Int32))]) (rest := [(.ref b3)]) rfl rfl (Nat.le_of_eq rfl) (hb hby own_d9_22) (by decide) (by decide) ?_
  intro T5 h5 v5 L5 X5 e5 q5
  obtain ⟨rfl, M5, J5, r5_0, r5_1, r5_2⟩ := q5
  have N5 := Fr.app N4 M5
  have K5 : Keep h0 h5 [] := K4.trans J5 (allS (Or.inr (Nat.le_trans (Keep.refl h0 []).1 (Nat.le_of_eq z3.symm))) all0)
  have O5 : own_Old Z h5 := O4.keep J5 (allS (own_ge O0 (Nat.le_of_eq z3.symm)) all0)
  show G (T5.setTop (mkF m 25 #[.val (.int ch)] [(.ref b3)]))
  have f9 := (r4_0.keep J5 (ninS (Ne.symm (own_ne A3.lt y4_0)) nin0))
  exact own_retA hR hret rfl rfl X5 hx (hb hby own_d9_25) (by decide) (by decide) (by rw [e5]; exact ⟨b3, t_4, kt_4, rfl, N5, K5, (Nat.le_trans (Keep.refl h0 []).1 (Nat.le_of_eq z3.symm)), (Nat.le_trans K3.1 y4_0), r5_0, r5_1, r5_2, f9⟩)
theorem own_pd4 : parseMethodDescriptor "()V" = some ⟨[], none⟩ := by decide +kernel
set_option maxRecDepth 65536 in
set_option maxHeartbeats 40000000 in
theorem own_acol (l : Launch) (Z : State) (a0 : Array Value) (hw : ∀ d ∈ tables_1, d.before a0 Z = true) (a : Addr) (h0 : Heap) (O0 : own_Old Z h0) :
    own_Con l Z (⟨"java/util/AbstractCollection", "<init>", "()V"⟩ : MethodName) jdk_22_method_1_code 1 none [] ({ frames := 1, cells := 0, slots := 0, locals := 12 } : Room) #[(.ref a)] h0 (fun rv rh rL => rv = none ∧ own_Fr Z rL ∧ h0 = rh) := by
  refine own_intro (plainFor_of_name (by first | (simp [plainName, overriddenIn]; done) | decide +kernel)) ?_
  intro p e s m below meth c s₁ G hx hby hml hown hnm hret hZ X0 e0 hG hR
  have N0 := Fr.nil Z.heap.size
  refine own_entry (Ls := #[.val (.ref a)]) (by first | (simp [entryFrame, mkF, argsToLocals, Value.category]; done) | rfl) ?_
  show G (s₁.setTop (mkF m 0 #[.val (.ref a)] []))
  refine hG _ _ (fun t_ k_ => XS.aloadN X0.here hx rfl (hb hby own_d3_0) rfl rfl k_) ?_
  show G (s₁.setTop (mkF m 1 #[.val (.ref a)] [(.ref a)]))
  obtain ⟨T1, X1, e1, st1⟩ := initO X0 hx hZ hown (hw _ (List.mem_of_getElem? (i := 19) rfl)) (hw _ (List.mem_of_getElem? (i := 20) rfl)) (hw _ (List.mem_of_getElem? (i := 21) rfl)) e0 (g := (mkF m 1 #[.val (.ref a)] [(.ref a)])) rfl (by rw [hml]; rfl) rfl (hb hby own_d3_1) (by decide) (W := 0) (by show 2 * 0 + _ ≤ _; exact Nat.le_of_eq rfl) (by decide)
  refine hG _ _ st1 ?_
  show G (T1.setTop (mkF m 4 #[.val (.ref a)] []))
  exact own_retV hR hret X1 hx (hb hby own_d3_4) (by decide) (by decide) (by rw [e1]; exact ⟨rfl, N0, rfl⟩)
set_option maxRecDepth 65536 in
set_option maxHeartbeats 40000000 in
theorem own_alis (l : Launch) (Z : State) (a0 : Array Value) (hw : ∀ d ∈ tables_1, d.before a0 Z = true) (a : Addr) (u0 : Value) (u1 : Value) (u2 : Value) (h0 : Heap) (O0 : own_Old Z h0) (g0_E : Exa Z h0 a "java/util/ArrayList") (g1_G : Z.heap.size ≤ a) (g2_F : Fld Z h0 a "java/util/AbstractList" "modCount" "I" u0) (g3_F : Fld Z h0 a "java/util/ArrayList" "elementData" "[Ljava/lang/Object;" u1) (g4_F : Fld Z h0 a "java/util/ArrayList" "size" "I" u2) :
    own_Con l Z (⟨"java/util/AbstractList", "<init>", "()V"⟩ : MethodName) jdk_39_method_1_code 1 none [] ({ frames := 2, cells := 0, slots := 0, locals := 24 } : Room) #[(.ref a)] h0 (fun rv rh rL => rv = none ∧ own_Fr Z rL ∧ Keep h0 rh [a] ∧ (Exa Z rh a "java/util/ArrayList") ∧ (Fld Z rh a "java/util/AbstractList" "modCount" "I" (.int (0 : Int32))) ∧ (Fld Z rh a "java/util/ArrayList" "elementData" "[Ljava/lang/Object;" u1) ∧ (Fld Z rh a "java/util/ArrayList" "size" "I" u2)) := by
  refine own_intro (plainFor_of_name (by first | (simp [plainName, overriddenIn]; done) | decide +kernel)) ?_
  intro p e s m below meth c s₁ G hx hby hml hown hnm hret hZ X0 e0 hG hR
  have N0 := Fr.nil Z.heap.size
  refine own_entry (Ls := #[.val (.ref a)]) (by first | (simp [entryFrame, mkF, argsToLocals, Value.category]; done) | rfl) ?_
  show G (s₁.setTop (mkF m 0 #[.val (.ref a)] []))
  refine hG _ _ (fun t_ k_ => XS.aloadN X0.here hx rfl (hb hby own_d2_0) rfl rfl k_) ?_
  show G (s₁.setTop (mkF m 1 #[.val (.ref a)] [(.ref a)]))
  refine own_callI X0 hx hZ hG hown rfl (hw _ (List.mem_of_getElem? (i := 13) rfl)) (hw _ (List.mem_of_getElem? (i := 14) rfl)) (hw _ (List.mem_of_getElem? (i := 17) rfl)) (hw _ (List.mem_of_getElem? (i := 18) rfl)) (by decide) 0 (own_acol l Z a0 hw a h0 O0) (by decide) (by decide) e0 (by rw [hml]; rfl) (lenOf own_pd4 rfl) (argsL := []) (rest := []) rfl rfl (Nat.le_of_eq rfl) (hb hby own_d2_1) (by decide) (by decide) ?_
  intro T1 h1 v1 L1 X1 e1 q1
  obtain ⟨rfl, M1, rfl⟩ := q1
  have N1 := Fr.app N0 M1
  show G (T1.setTop (mkF m 4 #[.val (.ref a)] []))
  refine hG _ _ (fun t_ k_ => XS.aloadN X1.here hx rfl (hb hby own_d2_4) rfl rfl k_) ?_
  show G (T1.setTop (mkF m 5 #[.val (.ref a)] [(.ref a)]))
  refine hG _ _ (fun t_ k_ => XS.iconst X1.here hx rfl (hb hby own_d2_5) k_) ?_
  show G (T1.setTop (mkF m 6 #[.val (.ref a)] [(.int (0 : Int32)), (.ref a)]))
  obtain ⟨T2, h2, X2, e2, W2, st2⟩ := putF X1 hx hZ hown (host := "") (Or.inl (hw _ (List.mem_of_getElem? (i := 22) rfl))) Via.refl e1 g2_F g0_E (Or.inl (hw _ (List.mem_of_getElem? (i := 23) rfl))) (hw _ (List.mem_of_getElem? (i := 2) rfl)) (ty := .int) (by decide) rfl rfl (g := (mkF m 6 #[.val (.ref a)] [(.int (0 : Int32)), (.ref a)])) rfl rfl (hb hby own_d2_6)
  refine hG _ _ st2 ?_
  have K2 : Keep h0 h2 [a] := (Keep.refl h0 [a]).wr W2 (Or.inl (List.mem_of_getElem? (i := 0) rfl))
  have O2 : own_Old Z h2 := O0.wr W2 g1_G
  have N2 := Fr.snoc X2 N1 g1_G
  show G (T2.setTop (mkF m 9 #[.val (.ref a)] []))
  have f3 := (g0_E.wr W2)
  have f4 := (g3_F.other W2 (Or.inr (slot_ne (Or.inl (hw _ (List.mem_of_getElem? (i := 26) rfl))) (Or.inl (hw _ (List.mem_of_getElem? (i := 23) rfl))) (by decide) (t := (.array (.object "java/lang/Object"))) (t' := .int) (by decide) (by decide))))
  have f5 := (g4_F.other W2 (Or.inr (slot_ne (Or.inl (hw _ (List.mem_of_getElem? (i := 44) rfl))) (Or.inl (hw _ (List.mem_of_getElem? (i := 23) rfl))) (by decide) (t := .int) (t' := .int) (by decide) (by decide))))
  exact own_retV hR hret X2 hx (hb hby own_d2_9) (by decide) (by decide) (by rw [e2]; exact ⟨rfl, N2, K2, f3, (g2_F.same W2), f4, f5⟩)
set_option maxRecDepth 65536 in
set_option maxHeartbeats 40000000 in
theorem own_anew (l : Launch) (Z : State) (a0 : Array Value) (hw : ∀ d ∈ tables_1, d.before a0 Z = true) (a : Addr) (dflt : Addr) (u0 : Value) (u1 : Value) (u2 : Value) (h0 : Heap) (O0 : own_Old Z h0) (g0_E : Exa Z h0 a "java/util/ArrayList") (g1_G : Z.heap.size ≤ a) (g2_S : Sta Z Z.heap "java/util/ArrayList" "DEFAULTCAPACITY_EMPTY_ELEMENTDATA" "[Ljava/lang/Object;" (.ref dflt)) (g3_F : Fld Z h0 a "java/util/AbstractList" "modCount" "I" u0) (g4_F : Fld Z h0 a "java/util/ArrayList" "elementData" "[Ljava/lang/Object;" u1) (g5_F : Fld Z h0 a "java/util/ArrayList" "size" "I" u2) :
    own_Con l Z (⟨"java/util/ArrayList", "<init>", "()V"⟩ : MethodName) jdk_38_method_2_code 1 none [] ({ frames := 3, cells := 0, slots := 0, locals := 36 } : Room) #[(.ref a)] h0 (fun rv rh rL => rv = none ∧ own_Fr Z rL ∧ Keep h0 rh [a] ∧ (Exa Z rh a "java/util/ArrayList") ∧ (Fld Z rh a "java/util/AbstractList" "modCount" "I" (.int (0 : Int32))) ∧ (Fld Z rh a "java/util/ArrayList" "elementData" "[Ljava/lang/Object;" (.ref dflt)) ∧ (Fld Z rh a "java/util/ArrayList" "size" "I" u2)) := by
  refine own_intro (plainFor_of_name (by first | (simp [plainName, overriddenIn]; done) | decide +kernel)) ?_
  intro p e s m below meth c s₁ G hx hby hml hown hnm hret hZ X0 e0 hG hR
  have N0 := Fr.nil Z.heap.size
  refine own_entry (Ls := #[.val (.ref a)]) (by first | (simp [entryFrame, mkF, argsToLocals, Value.category]; done) | rfl) ?_
  show G (s₁.setTop (mkF m 0 #[.val (.ref a)] []))
  refine hG _ _ (fun t_ k_ => XS.aloadN X0.here hx rfl (hb hby own_d1_0) rfl rfl k_) ?_
  show G (s₁.setTop (mkF m 1 #[.val (.ref a)] [(.ref a)]))
  refine own_callI X0 hx hZ hG hown rfl (hw _ (List.mem_of_getElem? (i := 7) rfl)) (hw _ (List.mem_of_getElem? (i := 8) rfl)) (hw _ (List.mem_of_getElem? (i := 11) rfl)) (hw _ (List.mem_of_getElem? (i := 12) rfl)) (by decide) 0 (own_alis l Z a0 hw a u0 u1 u2 h0 O0 g0_E g1_G g3_F g4_F g5_F) (by decide) (by decide) e0 (by rw [hml]; rfl) (lenOf own_pd4 rfl) (argsL := []) (rest := []) rfl rfl (Nat.le_of_eq rfl) (hb hby own_d1_1) (by decide) (by decide) ?_
  intro T1 h1 v1 L1 X1 e1 q1
  obtain ⟨rfl, M1, J1, r1_0, r1_1, r1_2, r1_3⟩ := q1
  have N1 := Fr.app N0 M1
  have K1 : Keep h0 h1 [a] := (Keep.refl h0 [a]).trans J1 (allS (Or.inl (List.mem_of_getElem? (i := 0) rfl)) all0)
  have O1 : own_Old Z h1 := O0.keep J1 (allS g1_G all0)
  show G (T1.setTop (mkF m 4 #[.val (.ref a)] []))
  refine hG _ _ (fun t_ k_ => XS.aloadN X1.here hx rfl (hb hby own_d1_4) rfl rfl k_) ?_
  show G (T1.setTop (mkF m 5 #[.val (.ref a)] [(.ref a)]))
  obtain ⟨T2, X2, e2, st2⟩ := getS2 X1 hx hZ hown (host := "") (Or.inl (hw _ (List.mem_of_getElem? (i := 24) rfl))) Via.refl e1 (own_sta g2_S O1) (g := (mkF m 5 #[.val (.ref a)] [(.ref a)])) rfl (hb hby own_d1_5)
  refine hG _ _ st2 ?_
  show G (T2.setTop (mkF m 8 #[.val (.ref a)] [(.ref dflt), (.ref a)]))
  obtain ⟨T3, h3, X3, e3, W3, st3⟩ := putF X2 hx hZ hown (host := "") (Or.inl (hw _ (List.mem_of_getElem? (i := 25) rfl))) Via.refl e2 r1_2 r1_0 (Or.inl (hw _ (List.mem_of_getElem? (i := 26) rfl))) (hw _ (List.mem_of_getElem? (i := 2) rfl)) (ty := (.array (.object "java/lang/Object"))) (by decide) rfl rfl (g := (mkF m 8 #[.val (.ref a)] [(.ref dflt), (.ref a)])) rfl rfl (hb hby own_d1_8)
  refine hG _ _ st3 ?_
  have K3 : Keep h0 h3 [a] := K1.wr W3 (Or.inl (List.mem_of_getElem? (i := 0) rfl))
  have O3 : own_Old Z h3 := O1.wr W3 g1_G
  have N3 := Fr.snoc X3 N1 g1_G
  show G (T3.setTop (mkF m 11 #[.val (.ref a)] []))
  have f4 := (r1_0.wr W3)
  have f5 := (r1_1.other W3 (Or.inr (slot_ne (Or.inl (hw _ (List.mem_of_getElem? (i := 23) rfl))) (Or.inl (hw _ (List.mem_of_getElem? (i := 26) rfl))) (by decide) (t := .int) (t' := (.array (.object "java/lang/Object"))) (by decide) (by decide))))
  have f6 := (r1_3.other W3 (Or.inr (slot_ne (Or.inl (hw _ (List.mem_of_getElem? (i := 44) rfl))) (Or.inl (hw _ (List.mem_of_getElem? (i := 26) rfl))) (by decide) (t := .int) (t' := (.array (.object "java/lang/Object"))) (by decide) (by decide))))
  exact own_retV hR hret X3 hx (hb hby own_d1_11) (by decide) (by decide) (by rw [e3]; exact ⟨rfl, N3, K3, f4, f5, (r1_2.same W3), f6⟩)
theorem own_pd5 : parseMethodDescriptor "(II)I" = some ⟨[.int, .int], some .int⟩ := by decide +kernel
set_option maxRecDepth 65536 in
set_option maxHeartbeats 40000000 in
theorem own_max10 (l : Launch) (Z : State) (a0 : Array Value) (hw : ∀ d ∈ tables_1, d.before a0 Z = true) (h0 : Heap) (O0 : own_Old Z h0) :
    own_Con l Z (⟨"java/lang/Math", "max", "(II)I"⟩ : MethodName) jdk_29_method_65_code 2 (some .int) [] ({ frames := 0, cells := 0, slots := 0, locals := 0 } : Room) #[(.int (10 : Int32)), (.int (1 : Int32))] h0 (fun rv rh rL => rv = some (.int (10 : Int32)) ∧ own_Fr Z rL ∧ h0 = rh) := by
  refine own_intro (Jvm.Free.JP.mathPlain rfl (by decide +kernel)) ?_
  intro p e s m below meth c s₁ G hx hby hml hown hnm hret hZ X0 e0 hG hR
  have N0 := Fr.nil Z.heap.size
  refine own_entry (Ls := #[.val (.int (10 : Int32)), .val (.int (1 : Int32))]) (by first | (simp [entryFrame, mkF, argsToLocals, Value.category]; done) | rfl) ?_
  show G (s₁.setTop (mkF m 0 #[.val (.int (10 : Int32)), .val (.int (1 : Int32))] []))
  refine hG _ _ (fun t_ k_ => XS.iloadN X0.here hx rfl (hb hby own_d17_0) rfl k_) ?_
  show G (s₁.setTop (mkF m 1 #[.val (.int (10 : Int32)), .val (.int (1 : Int32))] [(.int (10 : Int32))]))
  refine hG _ _ (fun t_ k_ => XS.iloadN X0.here hx rfl (hb hby own_d17_1) rfl k_) ?_
  show G (s₁.setTop (mkF m 2 #[.val (.int (10 : Int32)), .val (.int (1 : Int32))] [(.int (1 : Int32)), (.int (10 : Int32))]))
  refine hG _ _ (fun t_ k_ => XS.icmpNo X0.here hx rfl (hb hby own_d17_2) rfl (flt (by decide)).1 k_) ?_
  show G (s₁.setTop (mkF m 5 #[.val (.int (10 : Int32)), .val (.int (1 : Int32))] []))
  refine hG _ _ (fun t_ k_ => XS.iloadN X0.here hx rfl (hb hby own_d17_5) rfl k_) ?_
  show G (s₁.setTop (mkF m 6 #[.val (.int (10 : Int32)), .val (.int (1 : Int32))] [(.int (10 : Int32))]))
  refine hG _ _ (fun t_ k_ => XS.goto X0.here hx rfl (pc0 := 6) (pc' := 10) rfl (hb hby own_d17_6) (by decide) (by decide) k_) ?_
  show G (s₁.setTop (mkF m 10 #[.val (.int (10 : Int32)), .val (.int (1 : Int32))] [(.int (10 : Int32))]))
  exact own_retI hR hret X0 hx (hb hby own_d17_10) (by decide) (by decide) (by rw [e0]; exact ⟨rfl, N0, rfl⟩)
theorem own_pd6 : parseMethodDescriptor "(I)[Ljava/lang/Object;" = some ⟨[.int], some (.array (.object "java/lang/Object"))⟩ := by decide +kernel
set_option maxRecDepth 65536 in
set_option maxHeartbeats 40000000 in
theorem own_growI (l : Launch) (Z : State) (a0 : Array Value) (hw : ∀ d ∈ tables_1, d.before a0 Z = true) (a : Addr) (dflt : Addr) (kd : ClassId) (mc : Int32) (h0 : Heap) (O0 : own_Old Z h0) (g0_E : Exa Z h0 a "java/util/ArrayList") (g1_G : Z.heap.size ≤ a) (g2_S : Sta Z Z.heap "java/util/ArrayList" "DEFAULTCAPACITY_EMPTY_ELEMENTDATA" "[Ljava/lang/Object;" (.ref dflt)) (g3_hne : a ≠ dflt) (g4_F : Fld Z h0 a "java/util/AbstractList" "modCount" "I" (.int mc)) (g5_F : Fld Z h0 a "java/util/ArrayList" "elementData" "[Ljava/lang/Object;" (.ref dflt)) (g6_F : Fld Z h0 a "java/util/ArrayList" "size" "I" (.int (0 : Int32))) (g7_V : Arv Z h0 dflt kd (.object "java/lang/Object") (0 : Int32) [] .null) :
    own_Con l Z (⟨"java/util/ArrayList", "grow", "(I)[Ljava/lang/Object;"⟩ : MethodName) jdk_38_method_6_code 4 (some (.array (.object "java/lang/Object"))) [] ({ frames := 1, cells := 1, slots := 10, locals := 14 } : Room) #[(.ref a), (.int (1 : Int32))] h0 (fun rv rh rL => ∃ (t : Addr) (kt : ClassId), rv = some (.ref t) ∧ own_Fr Z rL ∧ Keep h0 rh [a] ∧ h0.size ≤ t ∧ (Exa Z rh a "java/util/ArrayList") ∧ (Fld Z rh a "java/util/AbstractList" "modCount" "I" (.int mc)) ∧ (Fld Z rh a "java/util/ArrayList" "elementData" "[Ljava/lang/Object;" (.ref t)) ∧ (Fld Z rh a "java/util/ArrayList" "size" "I" (.int (0 : Int32))) ∧ (Arv Z rh t kt (.object "java/lang/Object") (10 : Int32) [.null, .null, .null, .null, .null, .null, .null, .null, .null, .null] .null) ∧ (Ovr Z kt "java/lang/Object")) := by
  refine own_intro (plainFor_of_name (by first | (simp [plainName, overriddenIn]; done) | decide +kernel)) ?_
  intro p e s m below meth c s₁ G hx hby hml hown hnm hret hZ X0 e0 hG hR
  have N0 := Fr.nil Z.heap.size
  refine own_entry (Ls := #[.val (.ref a), .val (.int (1 : Int32)), .unset, .unset]) (by first | (simp [entryFrame, mkF, argsToLocals, Value.category]; done) | rfl) ?_
  show G (s₁.setTop (mkF m 0 #[.val (.ref a), .val (.int (1 : Int32)), .unset, .unset] []))
  refine hG _ _ (fun t_ k_ => XS.aloadN X0.here hx rfl (hb hby own_d16_0) rfl rfl k_) ?_
  show G (s₁.setTop (mkF m 1 #[.val (.ref a), .val (.int (1 : Int32)), .unset, .unset] [(.ref a)]))
  obtain ⟨T1, X1, e1, st1⟩ := getF X0 hx hZ hown (host := "") (Or.inl (hw _ (List.mem_of_getElem? (i := 25) rfl))) Via.refl e0 g5_F (g := (mkF m 1 #[.val (.ref a), .val (.int (1 : Int32)), .unset, .unset] [(.ref a)])) rfl rfl (hb hby own_d16_1)
  refine hG _ _ st1 ?_
  show G (T1.setTop (mkF m 4 #[.val (.ref a), .val (.int (1 : Int32)), .unset, .unset] [(.ref dflt)]))
  obtain ⟨c2, Ar2, -, S2, M2, -, -⟩ := id g7_V
  refine hG _ _ (X1.arraylength hx (by rw [e1]; exact Ar2.1) (State.isArrayOf_alike hZ.alike Ar2.2.1) (g := (mkF m 4 #[.val (.ref a), .val (.int (1 : Int32)), .unset, .unset] [(.ref dflt)])) rfl rfl (hb hby own_d16_4)) ?_
  rw [len_of S2 M2]
  show G (T1.setTop (mkF m 5 #[.val (.ref a), .val (.int (1 : Int32)), .unset, .unset] [(.int (0 : Int32))]))
  refine hG _ _ (fun t_ k_ => XS.istoreN X1.here hx rfl (hb hby own_d16_5) rfl (l' := #[.val (.ref a), .val (.int (1 : Int32)), .val (.int (0 : Int32)), .unset]) rfl k_) ?_
  show G (T1.setTop (mkF m 6 #[.val (.ref a), .val (.int (1 : Int32)), .val (.int (0 : Int32)), .unset] []))
  refine hG _ _ (fun t_ k_ => XS.iloadN X1.here hx rfl (hb hby own_d16_6) rfl k_) ?_
  show G (T1.setTop (mkF m 7 #[.val (.ref a), .val (.int (1 : Int32)), .val (.int (0 : Int32)), .unset] [(.int (0 : Int32))]))
  refine hG _ _ (fun t_ k_ => XS.ifNo X1.here hx rfl (hb hby own_d16_7) rfl ((if0 _ _).trans (flt (by decide)).2.2.1) k_) ?_
  show G (T1.setTop (mkF m 10 #[.val (.ref a), .val (.int (1 : Int32)), .val (.int (0 : Int32)), .unset] []))
  refine hG _ _ (fun t_ k_ => XS.aloadN X1.here hx rfl (hb hby own_d16_10) rfl rfl k_) ?_
  show G (T1.setTop (mkF m 11 #[.val (.ref a), .val (.int (1 : Int32)), .val (.int (0 : Int32)), .unset] [(.ref a)]))
  obtain ⟨T3, X3, e3, st3⟩ := getF X1 hx hZ hown (host := "") (Or.inl (hw _ (List.mem_of_getElem? (i := 25) rfl))) Via.refl e1 g5_F (g := (mkF m 11 #[.val (.ref a), .val (.int (1 : Int32)), .val (.int (0 : Int32)), .unset] [(.ref a)])) rfl rfl (hb hby own_d16_11)
  refine hG _ _ st3 ?_
  show G (T3.setTop (mkF m 14 #[.val (.ref a), .val (.int (1 : Int32)), .val (.int (0 : Int32)), .unset] [(.ref dflt)]))
  obtain ⟨T4, X4, e4, st4⟩ := getS2 X3 hx hZ hown (host := "") (Or.inl (hw _ (List.mem_of_getElem? (i := 24) rfl))) Via.refl e3 (own_sta g2_S O0) (g := (mkF m 14 #[.val (.ref a), .val (.int (1 : Int32)), .val (.int (0 : Int32)), .unset] [(.ref dflt)])) rfl (hb hby own_d16_14)
  refine hG _ _ st4 ?_
  show G (T4.setTop (mkF m 17 #[.val (.ref a), .val (.int (1 : Int32)), .val (.int (0 : Int32)), .unset] [(.ref dflt), (.ref dflt)]))
  refine hG _ _ (fun t_ k_ => Jvm.RoadKit.acmp (g := (mkF m 17 #[.val (.ref a), .val (.int (1 : Int32)), .val (.int (0 : Int32)), .unset] [(.ref dflt), (.ref dflt)])) X4 hx rfl rfl rfl (pc0 := 17) (pc' := 45) (same := true) rfl (hb hby own_d16_17) rfl (decide_eq_true rfl) (by decide) (by decide) k_) ?_
  show G (T4.setTop (mkF m 45 #[.val (.ref a), .val (.int (1 : Int32)), .val (.int (0 : Int32)), .unset] []))
  refine hG _ _ (fun t_ k_ => XS.aloadN X4.here hx rfl (hb hby own_d16_45) rfl rfl k_) ?_
  show G (T4.setTop (mkF m 46 #[.val (.ref a), .val (.int (1 : Int32)), .val (.int (0 : Int32)), .unset] [(.ref a)]))
  refine hG _ _ (fun t_ k_ => XS.bipush X4.here hx rfl (hb hby own_d16_46) k_) ?_
  show G (T4.setTop (mkF m 48 #[.val (.ref a), .val (.int (1 : Int32)), .val (.int (0 : Int32)), .unset] [(.int (10 : Int32)), (.ref a)]))
  refine hG _ _ (fun t_ k_ => XS.iloadN X4.here hx rfl (hb hby own_d16_48) rfl k_) ?_
  show G (T4.setTop (mkF m 49 #[.val (.ref a), .val (.int (1 : Int32)), .val (.int (0 : Int32)), .unset] [(.int (1 : Int32)), (.int (10 : Int32)), (.ref a)]))
  refine own_callS X4 hx hZ hG hown (hw _ (List.mem_of_getElem? (i := 117) rfl)) (hw _ (List.mem_of_getElem? (i := 118) rfl)) (hw _ (List.mem_of_getElem? (i := 119) rfl)) (hw _ (List.mem_of_getElem? (i := 120) rfl)) (by decide) 1 (own_max10 l Z a0 hw h0 O0) (by decide) (by decide) e4 (by rw [hml]; rfl) (lenOf own_pd5 rfl) (argsL := [(.int (10 : Int32)), (.int (1 : Int32))]) (rest := [(.ref a)]) rfl rfl (Nat.le_of_eq rfl) (hb hby own_d16_49) (by decide) (by decide) ?_
  intro T5 h5 v5 L5 X5 e5 q5
  obtain ⟨rfl, M5, rfl⟩ := q5
  have N5 := Fr.app N0 M5
  show G (T5.setTop (mkF m 52 #[.val (.ref a), .val (.int (1 : Int32)), .val (.int (0 : Int32)), .unset] [(.int (10 : Int32)), (.ref a)]))
  obtain ⟨T6, h6, k6, X6, e6, E6, A6, Ov6, st6⟩ := newR X5 hx hZ hown (hw _ (List.mem_of_getElem? (i := 121) rfl)) (hw _ (List.mem_of_getElem? (i := 122) rfl)) e5 (g := (mkF m 52 #[.val (.ref a), .val (.int (1 : Int32)), .val (.int (0 : Int32)), .unset] [(.int (10 : Int32)), (.ref a)])) rfl (hb hby own_d16_52) rfl (by decide) (cap := 10) (by decide) (by decide) (by decide) (by decide)
  obtain ⟨b6, z6⟩ : ∃ z, z = h0.size := ⟨_, rfl⟩
  rw [← z6] at A6 st6
  refine hG _ _ st6 ?_
  have K6 : Keep h0 h6 [a] := (Keep.refl h0 [a]).ext E6
  have O6 : own_Old Z h6 := O0.ext E6
  have V6 : Arv Z h6 b6 k6 (.object "java/lang/Object") (10 : Int32) [.null, .null, .null, .null, .null, .null, .null, .null, .null, .null] .null := (Arv.new A6 (by decide)).pad (pad_rep [] .null 10)
  show G (T6.setTop (mkF m 55 #[.val (.ref a), .val (.int (1 : Int32)), .val (.int (0 : Int32)), .unset] [(.ref b6), (.ref a)]))
  refine hG _ _ (fun t_ k_ => XS.dupX1 X6.here hx rfl (hb hby own_d16_55) rfl rfl rfl k_) ?_
  show G (T6.setTop (mkF m 56 #[.val (.ref a), .val (.int (1 : Int32)), .val (.int (0 : Int32)), .unset] [(.ref b6), (.ref a), (.ref b6)]))
  have f8 := (g5_F.ext E6)
  have f9 := (g0_E.ext E6)
  obtain ⟨T7, h7, X7, e7, W7, st7⟩ := putF X6 hx hZ hown (host := "") (Or.inl (hw _ (List.mem_of_getElem? (i := 25) rfl))) Via.refl e6 f8 f9 (Or.inl (hw _ (List.mem_of_getElem? (i := 26) rfl))) (hw _ (List.mem_of_getElem? (i := 2) rfl)) (ty := (.array (.object "java/lang/Object"))) (by decide) rfl rfl (g := (mkF m 56 #[.val (.ref a), .val (.int (1 : Int32)), .val (.int (0 : Int32)), .unset] [(.ref b6), (.ref a), (.ref b6)])) rfl rfl (hb hby own_d16_56)
  refine hG _ _ st7 ?_
  have K7 : Keep h0 h7 [a] := K6.wr W7 (Or.inl (List.mem_of_getElem? (i := 0) rfl))
  have O7 : own_Old Z h7 := O6.wr W7 g1_G
  have N7 := Fr.snoc X7 N5 g1_G
  show G (T7.setTop (mkF m 59 #[.val (.ref a), .val (.int (1 : Int32)), .val (.int (0 : Int32)), .unset] [(.ref b6)]))
  have f10 := (f9.wr W7)
  have f11 := ((g4_F.ext E6).other W7 (Or.inr (slot_ne (Or.inl (hw _ (List.mem_of_getElem? (i := 23) rfl))) (Or.inl (hw _ (List.mem_of_getElem? (i := 26) rfl))) (by decide) (t := .int) (t' := (.array (.object "java/lang/Object"))) (by decide) (by decide))))
  have f12 := ((g6_F.ext E6).other W7 (Or.inr (slot_ne (Or.inl (hw _ (List.mem_of_getElem? (i := 44) rfl))) (Or.inl (hw _ (List.mem_of_getElem? (i := 26) rfl))) (by decide) (t := .int) (t' := (.array (.object "java/lang/Object"))) (by decide) (by decide))))
  have f13 := (V6.other W7 (Ne.symm (own_ne g0_E.lt (Nat.le_of_eq z6.symm))))
  exact own_retA hR hret rfl rfl X7 hx (hb hby own_d16_59) (by decide) (by decide) (by rw [e7]; exact ⟨b6, k6, rfl, N7, K7, (Nat.le_trans (Keep.refl h0 [a]).1 (Nat.le_of_eq z6.symm)), f10, f11, (f8.same W7), f12, f13, Ov6⟩)
theorem own_pd7 : parseMethodDescriptor "()[Ljava/lang/Object;" = some ⟨[], some (.array (.object "java/lang/Object"))⟩ := by decide +kernel
set_option maxRecDepth 65536 in
set_option maxHeartbeats 40000000 in
theorem own_grow (l : Launch) (Z : State) (a0 : Array Value) (hw : ∀ d ∈ tables_1, d.before a0 Z = true) (a : Addr) (dflt : Addr) (kd : ClassId) (mc : Int32) (h0 : Heap) (O0 : own_Old Z h0) (g0_E : Exa Z h0 a "java/util/ArrayList") (g1_G : Z.heap.size ≤ a) (g2_S : Sta Z Z.heap "java/util/ArrayList" "DEFAULTCAPACITY_EMPTY_ELEMENTDATA" "[Ljava/lang/Object;" (.ref dflt)) (g3_hne : a ≠ dflt) (g4_F : Fld Z h0 a "java/util/AbstractList" "modCount" "I" (.int mc)) (g5_F : Fld Z h0 a "java/util/ArrayList" "elementData" "[Ljava/lang/Object;" (.ref dflt)) (g6_F : Fld Z h0 a "java/util/ArrayList" "size" "I" (.int (0 : Int32))) (g7_V : Arv Z h0 dflt kd (.object "java/lang/Object") (0 : Int32) [] .null) :
    own_Con l Z (⟨"java/util/ArrayList", "grow", "()[Ljava/lang/Object;"⟩ : MethodName) jdk_38_method_7_code 1 (some (.array (.object "java/lang/Object"))) [] ({ frames := 2, cells := 1, slots := 10, locals := 29 } : Room) #[(.ref a)] h0 (fun rv rh rL => ∃ (t : Addr) (kt : ClassId), rv = some (.ref t) ∧ own_Fr Z rL ∧ Keep h0 rh [a] ∧ h0.size ≤ t ∧ (Exa Z rh a "java/util/ArrayList") ∧ (Fld Z rh a "java/util/AbstractList" "modCount" "I" (.int mc)) ∧ (Fld Z rh a "java/util/ArrayList" "elementData" "[Ljava/lang/Object;" (.ref t)) ∧ (Fld Z rh a "java/util/ArrayList" "size" "I" (.int (0 : Int32))) ∧ (Arv Z rh t kt (.object "java/lang/Object") (10 : Int32) [.null, .null, .null, .null, .null, .null, .null, .null, .null, .null] .null) ∧ (Ovr Z kt "java/lang/Object")) := by
  refine own_intro (plainFor_of_name (by first | (simp [plainName, overriddenIn]; done) | decide +kernel)) ?_
  intro p e s m below meth c s₁ G hx hby hml hown hnm hret hZ X0 e0 hG hR
  have N0 := Fr.nil Z.heap.size
  refine own_entry (Ls := #[.val (.ref a)]) (by first | (simp [entryFrame, mkF, argsToLocals, Value.category]; done) | rfl) ?_
  show G (s₁.setTop (mkF m 0 #[.val (.ref a)] []))
  refine hG _ _ (fun t_ k_ => XS.aloadN X0.here hx rfl (hb hby own_d15_0) rfl rfl k_) ?_
  show G (s₁.setTop (mkF m 1 #[.val (.ref a)] [(.ref a)]))
  refine hG _ _ (fun t_ k_ => XS.aloadN X0.here hx rfl (hb hby own_d15_1) rfl rfl k_) ?_
  show G (s₁.setTop (mkF m 2 #[.val (.ref a)] [(.ref a), (.ref a)]))
  obtain ⟨T1, X1, e1, st1⟩ := getF X0 hx hZ hown (host := "") (Or.inl (hw _ (List.mem_of_getElem? (i := 43) rfl))) Via.refl e0 g6_F (g := (mkF m 2 #[.val (.ref a)] [(.ref a), (.ref a)])) rfl rfl (hb hby own_d15_2)
  refine hG _ _ st1 ?_
  show G (T1.setTop (mkF m 5 #[.val (.ref a)] [(.int (0 : Int32)), (.ref a)]))
  refine hG _ _ (fun t_ k_ => XS.iconst X1.here hx rfl (hb hby own_d15_5) k_) ?_
  show G (T1.setTop (mkF m 6 #[.val (.ref a)] [(.int (1 : Int32)), (.int (0 : Int32)), (.ref a)]))
  refine hG _ _ (fun t_ k_ => XS.iadd X1.here hx rfl (hb hby own_d15_6) rfl k_) ?_
  show G (T1.setTop (mkF m 7 #[.val (.ref a)] [(.int ((0 : Int32) + (1 : Int32))), (.ref a)]))
  rw [own_zero1]
  show G (T1.setTop (mkF m 7 #[.val (.ref a)] [(.int (1 : Int32)), (.ref a)]))
  refine own_callP X1 hx hZ hG hown (hw _ (List.mem_of_getElem? (i := 112) rfl)) (hw _ (List.mem_of_getElem? (i := 113) rfl)) (hw _ (List.mem_of_getElem? (i := 115) rfl)) (hw _ (List.mem_of_getElem? (i := 114) rfl)) (hw _ (List.mem_of_getElem? (i := 3) rfl)) (hw _ (List.mem_of_getElem? (i := 116) rfl)) (by decide) 0 (own_growI l Z a0 hw a dflt kd mc h0 O0 g0_E g1_G g2_S g3_hne g4_F g5_F g6_F g7_V) (by decide) (by decide) e1 g0_E (by rw [hml]; rfl) (lenOf own_pd6 rfl) (argsL := [(.int (1 : Int32))]) (rest := []) rfl rfl (Nat.le_of_eq rfl) (hb hby own_d15_7) (by decide) (by decide) ?_
  intro T2 h2 v2 L2 X2 e2 q2
  obtain ⟨t_2, kt_2, rfl, M2, J2, y2_0, r2_0, r2_1, r2_2, r2_3, r2_4, r2_5⟩ := q2
  have N2 := Fr.app N0 M2
  have K2 : Keep h0 h2 [a] := (Keep.refl h0 [a]).trans J2 (allS (Or.inl (List.mem_of_getElem? (i := 0) rfl)) all0)
  have O2 : own_Old Z h2 := O0.keep J2 (allS g1_G all0)
  show G (T2.setTop (mkF m 10 #[.val (.ref a)] [(.ref t_2)]))
  exact own_retA hR hret rfl rfl X2 hx (hb hby own_d15_10) (by decide) (by decide) (by rw [e2]; exact ⟨t_2, kt_2, rfl, N2, K2, (Nat.le_trans (Keep.refl h0 [a]).1 y2_0), r2_0, r2_1, r2_2, r2_3, r2_4, r2_5⟩)
theorem own_pd8 : parseMethodDescriptor "(Ljava/lang/Object;[Ljava/lang/Object;I)V" = some ⟨[(.object "java/lang/Object"), (.array (.object "java/lang/Object")), .int], none⟩ := by decide +kernel
set_option maxRecDepth 65536 in
set_option maxHeartbeats 40000000 in
theorem own_addi0 (l : Launch) (Z : State) (a0 : Array Value) (hw : ∀ d ∈ tables_1, d.before a0 Z = true) (a : Addr) (dflt : Addr) (kd : ClassId) (mc : Int32) (ev : Addr) (h0 : Heap) (O0 : own_Old Z h0) (g0_E : Exa Z h0 a "java/util/ArrayList") (g1_G : Z.heap.size ≤ a) (g2_S : Sta Z Z.heap "java/util/ArrayList" "DEFAULTCAPACITY_EMPTY_ELEMENTDATA" "[Ljava/lang/Object;" (.ref dflt)) (g3_hne : a ≠ dflt) (g4_F : Fld Z h0 a "java/util/AbstractList" "modCount" "I" (.int mc)) (g5_F : Fld Z h0 a "java/util/ArrayList" "elementData" "[Ljava/lang/Object;" (.ref dflt)) (g6_F : Fld Z h0 a "java/util/ArrayList" "size" "I" (.int (0 : Int32))) (g7_V : Arv Z h0 dflt kd (.object "java/lang/Object") (0 : Int32) [] .null) (g8_E : Exa Z h0 ev "java/lang/String") :
    own_Con l Z (⟨"java/util/ArrayList", "add", "(Ljava/lang/Object;[Ljava/lang/Object;I)V"⟩ : MethodName) jdk_38_method_24_code 4 none [] ({ frames := 3, cells := 1, slots := 10, locals := 41 } : Room) #[(.ref a), (.ref ev), (.ref dflt), (.int (0 : Int32))] h0 (fun rv rh rL => ∃ (t : Addr) (kt : ClassId), rv = none ∧ own_Fr Z rL ∧ Keep h0 rh [a] ∧ h0.size ≤ t ∧ (Exa Z rh a "java/util/ArrayList") ∧ (Fld Z rh a "java/util/AbstractList" "modCount" "I" (.int mc)) ∧ (Fld Z rh a "java/util/ArrayList" "elementData" "[Ljava/lang/Object;" (.ref t)) ∧ (Fld Z rh a "java/util/ArrayList" "size" "I" (.int (1 : Int32))) ∧ (Arv Z rh t kt (.object "java/lang/Object") (10 : Int32) [(.ref ev), .null, .null, .null, .null, .null, .null, .null, .null, .null] .null) ∧ (Ovr Z kt "java/lang/Object")) := by
  refine own_intro (plainFor_of_name (by first | (simp [plainName, overriddenIn]; done) | decide +kernel)) ?_
  intro p e s m below meth c s₁ G hx hby hml hown hnm hret hZ X0 e0 hG hR
  have N0 := Fr.nil Z.heap.size
  refine own_entry (Ls := #[.val (.ref a), .val (.ref ev), .val (.ref dflt), .val (.int (0 : Int32))]) (by first | (simp [entryFrame, mkF, argsToLocals, Value.category]; done) | rfl) ?_
  show G (s₁.setTop (mkF m 0 #[.val (.ref a), .val (.ref ev), .val (.ref dflt), .val (.int (0 : Int32))] []))
  refine hG _ _ (fun t_ k_ => XS.iloadN X0.here hx rfl (hb hby own_d14_0) rfl k_) ?_
  show G (s₁.setTop (mkF m 1 #[.val (.ref a), .val (.ref ev), .val (.ref dflt), .val (.int (0 : Int32))] [(.int (0 : Int32))]))
  refine hG _ _ (fun t_ k_ => XS.aloadN X0.here hx rfl (hb hby own_d14_1) rfl rfl k_) ?_
  show G (s₁.setTop (mkF m 2 #[.val (.ref a), .val (.ref ev), .val (.ref dflt), .val (.int (0 : Int32))] [(.ref dflt), (.int (0 : Int32))]))
  obtain ⟨c1, Ar1, -, S1, M1, -, -⟩ := id g7_V
  refine hG _ _ (X0.arraylength hx (by rw [e0]; exact Ar1.1) (State.isArrayOf_alike hZ.alike Ar1.2.1) (g := (mkF m 2 #[.val (.ref a), .val (.ref ev), .val (.ref dflt), .val (.int (0 : Int32))] [(.ref dflt), (.int (0 : Int32))])) rfl rfl (hb hby own_d14_2)) ?_
  rw [len_of S1 M1]
  show G (s₁.setTop (mkF m 3 #[.val (.ref a), .val (.ref ev), .val (.ref dflt), .val (.int (0 : Int32))] [(.int (0 : Int32)), (.int (0 : Int32))]))
  refine hG _ _ (fun t_ k_ => XS.icmpNo X0.here hx rfl (hb hby own_d14_3) rfl (teq (by decide)).2 k_) ?_
  show G (s₁.setTop (mkF m 6 #[.val (.ref a), .val (.ref ev), .val (.ref dflt), .val (.int (0 : Int32))] []))
  refine hG _ _ (fun t_ k_ => XS.aloadN X0.here hx rfl (hb hby own_d14_6) rfl rfl k_) ?_
  show G (s₁.setTop (mkF m 7 #[.val (.ref a), .val (.ref ev), .val (.ref dflt), .val (.int (0 : Int32))] [(.ref a)]))
  refine own_callP X0 hx hZ hG hown (hw _ (List.mem_of_getElem? (i := 107) rfl)) (hw _ (List.mem_of_getElem? (i := 108) rfl)) (hw _ (List.mem_of_getElem? (i := 110) rfl)) (hw _ (List.mem_of_getElem? (i := 109) rfl)) (hw _ (List.mem_of_getElem? (i := 3) rfl)) (hw _ (List.mem_of_getElem? (i := 111) rfl)) (by decide) 0 (own_grow l Z a0 hw a dflt kd mc h0 O0 g0_E g1_G g2_S g3_hne g4_F g5_F g6_F g7_V) (by decide) (by decide) e0 g0_E (by rw [hml]; rfl) (lenOf own_pd7 rfl) (argsL := []) (rest := []) rfl rfl (Nat.le_of_eq rfl) (hb hby own_d14_7) (by decide) (by decide) ?_
  intro T2 h2 v2 L2 X2 e2 q2
  obtain ⟨t_2, kt_2, rfl, M2, J2, y2_0, r2_0, r2_1, r2_2, r2_3, r2_4, r2_5⟩ := q2
  have N2 := Fr.app N0 M2
  have K2 : Keep h0 h2 [a] := (Keep.refl h0 [a]).trans J2 (allS (Or.inl (List.mem_of_getElem? (i := 0) rfl)) all0)
  have O2 : own_Old Z h2 := O0.keep J2 (allS g1_G all0)
  show G (T2.setTop (mkF m 10 #[.val (.ref a), .val (.ref ev), .val (.ref dflt), .val (.int (0 : Int32))] [(.ref t_2)]))
  refine hG _ _ (fun t_ k_ => XS.astoreN X2.here hx rfl (hb hby own_d14_10) rfl rfl (l' := #[.val (.ref a), .val (.ref ev), .val (.ref t_2), .val (.int (0 : Int32))]) rfl k_) ?_
  show G (T2.setTop (mkF m 11 #[.val (.ref a), .val (.ref ev), .val (.ref t_2), .val (.int (0 : Int32))] []))
  refine hG _ _ (fun t_ k_ => XS.aloadN X2.here hx rfl (hb hby own_d14_11) rfl rfl k_) ?_
  show G (T2.setTop (mkF m 12 #[.val (.ref a), .val (.ref ev), .val (.ref t_2), .val (.int (0 : Int32))] [(.ref t_2)]))
  refine hG _ _ (fun t_ k_ => XS.iloadN X2.here hx rfl (hb hby own_d14_12) rfl k_) ?_
  show G (T2.setTop (mkF m 13 #[.val (.ref a), .val (.ref ev), .val (.ref t_2), .val (.int (0 : Int32))] [(.int (0 : Int32)), (.ref t_2)]))
  refine hG _ _ (fun t_ k_ => XS.aloadN X2.here hx rfl (hb hby own_d14_13) rfl rfl k_) ?_
  show G (T2.setTop (mkF m 14 #[.val (.ref a), .val (.ref ev), .val (.ref t_2), .val (.int (0 : Int32))] [(.ref ev), (.int (0 : Int32)), (.ref t_2)]))
  obtain ⟨c3, Ar3, q3, S3, M3, H3, G3⟩ := id r2_4
  have f4 := (g8_E.keep J2)
  obtain ⟨T3, h3, X3, e3, W3, st3⟩ := stR X2 hx hZ e2 Ar3 (j := (0 : Int32)) (inb_of S3 ⟨by decide, by decide⟩) rfl (Sto.ofV Ar3 q3 r2_5 (Ins.of_exa f4 (hw _ (List.mem_of_getElem? (i := 123) rfl)))) (g := (mkF m 14 #[.val (.ref a), .val (.ref ev), .val (.ref t_2), .val (.int (0 : Int32))] [(.ref ev), (.int (0 : Int32)), (.ref t_2)])) rfl rfl (hb hby own_d14_14)
  refine hG _ _ st3 ?_
  have K3 : Keep h0 h3 [a] := K2.wr W3 (Or.inr (Nat.le_trans (Keep.refl h0 [a]).1 y2_0))
  have O3 : own_Old Z h3 := O2.wr W3 (own_ge O0 y2_0)
  have V3 : Arv Z h3 t_2 kt_2 (.object "java/lang/Object") (10 : Int32) [(.ref ev), .null, .null, .null, .null, .null, .null, .null, .null, .null] .null := Arv.set Ar3 q3 S3 M3 H3 G3 rfl W3 0 rfl (Nat.le_of_ble_eq_true rfl)
  have N3 := Fr.snoc X3 N2 (own_ge O0 y2_0)
  show G (T3.setTop (mkF m 15 #[.val (.ref a), .val (.ref ev), .val (.ref t_2), .val (.int (0 : Int32))] []))
  refine hG _ _ (fun t_ k_ => XS.aloadN X3.here hx rfl (hb hby own_d14_15) rfl rfl k_) ?_
  show G (T3.setTop (mkF m 16 #[.val (.ref a), .val (.ref ev), .val (.ref t_2), .val (.int (0 : Int32))] [(.ref a)]))
  refine hG _ _ (fun t_ k_ => XS.iloadN X3.here hx rfl (hb hby own_d14_16) rfl k_) ?_
  show G (T3.setTop (mkF m 17 #[.val (.ref a), .val (.ref ev), .val (.ref t_2), .val (.int (0 : Int32))] [(.int (0 : Int32)), (.ref a)]))
  refine hG _ _ (fun t_ k_ => XS.iconst X3.here hx rfl (hb hby own_d14_17) k_) ?_
  show G (T3.setTop (mkF m 18 #[.val (.ref a), .val (.ref ev), .val (.ref t_2), .val (.int (0 : Int32))] [(.int (1 : Int32)), (.int (0 : Int32)), (.ref a)]))
  refine hG _ _ (fun t_ k_ => XS.iadd X3.here hx rfl (hb hby own_d14_18) rfl k_) ?_
  show G (T3.setTop (mkF m 19 #[.val (.ref a), .val (.ref ev), .val (.ref t_2), .val (.int (0 : Int32))] [(.int ((0 : Int32) + (1 : Int32))), (.ref a)]))
  rw [show (0 : Int32) + (1 : Int32) = (1 : Int32) from by decide]
  show G (T3.setTop (mkF m 19 #[.val (.ref a), .val (.ref ev), .val (.ref t_2), .val (.int (0 : Int32))] [(.int (1 : Int32)), (.ref a)]))
  have f6 := (r2_3.other W3 (Or.inl (own_ne g0_E.lt y2_0)))
  have f7 := (r2_0.wr W3)
  obtain ⟨T5, h5, X5, e5, W5, st5⟩ := putF X3 hx hZ hown (host := "") (Or.inl (hw _ (List.mem_of_getElem? (i := 43) rfl))) Via.refl e3 f6 f7 (Or.inl (hw _ (List.mem_of_getElem? (i := 44) rfl))) (hw _ (List.mem_of_getElem? (i := 2) rfl)) (ty := .int) (by decide) rfl rfl (g := (mkF m 19 #[.val (.ref a), .val (.ref ev), .val (.ref t_2), .val (.int (0 : Int32))] [(.int (1 : Int32)), (.ref a)])) rfl rfl (hb hby own_d14_19)
  refine hG _ _ st5 ?_
  have K5 : Keep h0 h5 [a] := K3.wr W5 (Or.inl (List.mem_of_getElem? (i := 0) rfl))
  have O5 : own_Old Z h5 := O3.wr W5 g1_G
  have N5 := Fr.snoc X5 N3 g1_G
  show G (T5.setTop (mkF m 22 #[.val (.ref a), .val (.ref ev), .val (.ref t_2), .val (.int (0 : Int32))] []))
  have f8 := (f7.wr W5)
  have f9 := ((r2_1.other W3 (Or.inl (own_ne g0_E.lt y2_0))).other W5 (Or.inr (slot_ne (Or.inl (hw _ (List.mem_of_getElem? (i := 23) rfl))) (Or.inl (hw _ (List.mem_of_getElem? (i := 44) rfl))) (by decide) (t := .int) (t' := .int) (by decide) (by decide))))
  have f10 := ((r2_2.other W3 (Or.inl (own_ne g0_E.lt y2_0))).other W5 (Or.inr (slot_ne (Or.inl (hw _ (List.mem_of_getElem? (i := 26) rfl))) (Or.inl (hw _ (List.mem_of_getElem? (i := 44) rfl))) (by decide) (t := (.array (.object "java/lang/Object"))) (t' := .int) (by decide) (by decide))))
  have f11 := (V3.other W5 (Ne.symm (own_ne g0_E.lt y2_0)))
  exact own_retV hR hret X5 hx (hb hby own_d14_22) (by decide) (by decide) (by rw [e5]; exact ⟨t_2, kt_2, rfl, N5, K5, (Nat.le_trans (Keep.refl h0 [a]).1 y2_0), f8, f9, f10, (f6.same W5), f11, r2_5⟩)
theorem own_pd9 : parseMethodDescriptor "(Ljava/lang/Object;)Z" = some ⟨[(.object "java/lang/Object")], some .boolean⟩ := by decide +kernel
set_option maxRecDepth 65536 in
set_option maxHeartbeats 40000000 in
theorem own_add0 (l : Launch) (Z : State) (a0 : Array Value) (hw : ∀ d ∈ tables_1, d.before a0 Z = true) (a : Addr) (dflt : Addr) (kd : ClassId) (mc : Int32) (ev : Addr) (h0 : Heap) (O0 : own_Old Z h0) (g0_E : Exa Z h0 a "java/util/ArrayList") (g1_G : Z.heap.size ≤ a) (g2_S : Sta Z Z.heap "java/util/ArrayList" "DEFAULTCAPACITY_EMPTY_ELEMENTDATA" "[Ljava/lang/Object;" (.ref dflt)) (g3_hne : a ≠ dflt) (g4_F : Fld Z h0 a "java/util/AbstractList" "modCount" "I" (.int mc)) (g5_F : Fld Z h0 a "java/util/ArrayList" "elementData" "[Ljava/lang/Object;" (.ref dflt)) (g6_F : Fld Z h0 a "java/util/ArrayList" "size" "I" (.int (0 : Int32))) (g7_V : Arv Z h0 dflt kd (.object "java/lang/Object") (0 : Int32) [] .null) (g8_E : Exa Z h0 ev "java/lang/String") :
    own_Con l Z (⟨"java/util/ArrayList", "add", "(Ljava/lang/Object;)Z"⟩ : MethodName) jdk_38_method_25_code 2 (some .boolean) [] ({ frames := 4, cells := 1, slots := 10, locals := 56 } : Room) #[(.ref a), (.ref ev)] h0 (fun rv rh rL => ∃ (t : Addr) (kt : ClassId), rv = some (.int (1 : Int32)) ∧ own_Fr Z rL ∧ Keep h0 rh [a] ∧ h0.size ≤ t ∧ (Exa Z rh a "java/util/ArrayList") ∧ (Fld Z rh a "java/util/AbstractList" "modCount" "I" (.int (mc + (1 : Int32)))) ∧ (Fld Z rh a "java/util/ArrayList" "elementData" "[Ljava/lang/Object;" (.ref t)) ∧ (Fld Z rh a "java/util/ArrayList" "size" "I" (.int (1 : Int32))) ∧ (Arv Z rh t kt (.object "java/lang/Object") (10 : Int32) [(.ref ev), .null, .null, .null, .null, .null, .null, .null, .null, .null] .null) ∧ (Ovr Z kt "java/lang/Object")) := by
  refine own_intro (plainFor_of_name (by first | (simp [plainName, overriddenIn]; done) | decide +kernel)) ?_
  intro p e s m below meth c s₁ G hx hby hml hown hnm hret hZ X0 e0 hG hR
  have N0 := Fr.nil Z.heap.size
  refine own_entry (Ls := #[.val (.ref a), .val (.ref ev)]) (by first | (simp [entryFrame, mkF, argsToLocals, Value.category]; done) | rfl) ?_
  show G (s₁.setTop (mkF m 0 #[.val (.ref a), .val (.ref ev)] []))
  refine hG _ _ (fun t_ k_ => XS.aloadN X0.here hx rfl (hb hby own_d13_0) rfl rfl k_) ?_
  show G (s₁.setTop (mkF m 1 #[.val (.ref a), .val (.ref ev)] [(.ref a)]))
  refine hG _ _ (fun t_ k_ => XS.dup X0.here hx rfl (hb hby own_d13_1) rfl rfl k_) ?_
  show G (s₁.setTop (mkF m 2 #[.val (.ref a), .val (.ref ev)] [(.ref a), (.ref a)]))
  obtain ⟨T1, X1, e1, st1⟩ := getF X0 hx hZ hown (host := "") (Or.inl (hw _ (List.mem_of_getElem? (i := 100) rfl))) (Via.of (hw _ (List.mem_of_getElem? (i := 101) rfl))) e0 g4_F (g := (mkF m 2 #[.val (.ref a), .val (.ref ev)] [(.ref a), (.ref a)])) rfl rfl (hb hby own_d13_2)
  refine hG _ _ st1 ?_
  show G (T1.setTop (mkF m 5 #[.val (.ref a), .val (.ref ev)] [(.int mc), (.ref a)]))
  refine hG _ _ (fun t_ k_ => XS.iconst X1.here hx rfl (hb hby own_d13_5) k_) ?_
  show G (T1.setTop (mkF m 6 #[.val (.ref a), .val (.ref ev)] [(.int (1 : Int32)), (.int mc), (.ref a)]))
  refine hG _ _ (fun t_ k_ => XS.iadd X1.here hx rfl (hb hby own_d13_6) rfl k_) ?_
  show G (T1.setTop (mkF m 7 #[.val (.ref a), .val (.ref ev)] [(.int (mc + (1 : Int32))), (.ref a)]))
  obtain ⟨T2, h2, X2, e2, W2, st2⟩ := putF X1 hx hZ hown (host := "") (Or.inl (hw _ (List.mem_of_getElem? (i := 100) rfl))) (Via.of (hw _ (List.mem_of_getElem? (i := 101) rfl))) e1 g4_F g0_E (Or.inl (hw _ (List.mem_of_getElem? (i := 23) rfl))) (hw _ (List.mem_of_getElem? (i := 2) rfl)) (ty := .int) (by decide) rfl rfl (g := (mkF m 7 #[.val (.ref a), .val (.ref ev)] [(.int (mc + (1 : Int32))), (.ref a)])) rfl rfl (hb hby own_d13_7)
  refine hG _ _ st2 ?_
  have K2 : Keep h0 h2 [a] := (Keep.refl h0 [a]).wr W2 (Or.inl (List.mem_of_getElem? (i := 0) rfl))
  have O2 : own_Old Z h2 := O0.wr W2 g1_G
  have N2 := Fr.snoc X2 N0 g1_G
  show G (T2.setTop (mkF m 10 #[.val (.ref a), .val (.ref ev)] []))
  refine hG _ _ (fun t_ k_ => XS.aloadN X2.here hx rfl (hb hby own_d13_10) rfl rfl k_) ?_
  show G (T2.setTop (mkF m 11 #[.val (.ref a), .val (.ref ev)] [(.ref a)]))
  refine hG _ _ (fun t_ k_ => XS.aloadN X2.here hx rfl (hb hby own_d13_11) rfl rfl k_) ?_
  show G (T2.setTop (mkF m 12 #[.val (.ref a), .val (.ref ev)] [(.ref ev), (.ref a)]))
  refine hG _ _ (fun t_ k_ => XS.aloadN X2.here hx rfl (hb hby own_d13_12) rfl rfl k_) ?_
  show G (T2.setTop (mkF m 13 #[.val (.ref a), .val (.ref ev)] [(.ref a), (.ref ev), (.ref a)]))
  have f4 := (g5_F.other W2 (Or.inr (slot_ne (Or.inl (hw _ (List.mem_of_getElem? (i := 26) rfl))) (Or.inl (hw _ (List.mem_of_getElem? (i := 23) rfl))) (by decide) (t := (.array (.object "java/lang/Object"))) (t' := .int) (by decide) (by decide))))
  obtain ⟨T3, X3, e3, st3⟩ := getF X2 hx hZ hown (host := "") (Or.inl (hw _ (List.mem_of_getElem? (i := 25) rfl))) Via.refl e2 f4 (g := (mkF m 13 #[.val (.ref a), .val (.ref ev)] [(.ref a), (.ref ev), (.ref a)])) rfl rfl (hb hby own_d13_13)
  refine hG _ _ st3 ?_
  show G (T3.setTop (mkF m 16 #[.val (.ref a), .val (.ref ev)] [(.ref dflt), (.ref ev), (.ref a)]))
  refine hG _ _ (fun t_ k_ => XS.aloadN X3.here hx rfl (hb hby own_d13_16) rfl rfl k_) ?_
  show G (T3.setTop (mkF m 17 #[.val (.ref a), .val (.ref ev)] [(.ref a), (.ref dflt), (.ref ev), (.ref a)]))
  have f6 := (g6_F.other W2 (Or.inr (slot_ne (Or.inl (hw _ (List.mem_of_getElem? (i := 44) rfl))) (Or.inl (hw _ (List.mem_of_getElem? (i := 23) rfl))) (by decide) (t := .int) (t' := .int) (by decide) (by decide))))
  obtain ⟨T5, X5, e5, st5⟩ := getF X3 hx hZ hown (host := "") (Or.inl (hw _ (List.mem_of_getElem? (i := 43) rfl))) Via.refl e3 f6 (g := (mkF m 17 #[.val (.ref a), .val (.ref ev)] [(.ref a), (.ref dflt), (.ref ev), (.ref a)])) rfl rfl (hb hby own_d13_17)
  refine hG _ _ st5 ?_
  show G (T5.setTop (mkF m 20 #[.val (.ref a), .val (.ref ev)] [(.int (0 : Int32)), (.ref dflt), (.ref ev), (.ref a)]))
  have f8 := (g0_E.wr W2)
  have f9 := (g7_V.other W2 (Ne.symm g3_hne))
  have f10 := (g8_E.wr W2)
  refine own_callP X5 hx hZ hG hown (hw _ (List.mem_of_getElem? (i := 102) rfl)) (hw _ (List.mem_of_getElem? (i := 103) rfl)) (hw _ (List.mem_of_getElem? (i := 105) rfl)) (hw _ (List.mem_of_getElem? (i := 104) rfl)) (hw _ (List.mem_of_getElem? (i := 3) rfl)) (hw _ (List.mem_of_getElem? (i := 106) rfl)) (by decide) 0 (own_addi0 l Z a0 hw a dflt kd (mc + (1 : Int32)) ev h2 O2 f8 g1_G g2_S g3_hne (g4_F.same W2) f4 f6 f9 f10) (by decide) (by decide) e5 f8 (by rw [hml]; rfl) (lenOf own_pd8 rfl) (argsL := [(.ref ev), (.ref dflt), (.int (0 : Int32))]) (rest := []) rfl rfl (Nat.le_of_eq rfl) (hb hby own_d13_20) (by decide) (by decide) ?_
  intro T7 h7 v7 L7 X7 e7 q7
  obtain ⟨t_7, kt_7, rfl, M7, J7, y7_0, r7_0, r7_1, r7_2, r7_3, r7_4, r7_5⟩ := q7
  have N7 := Fr.app N2 M7
  have K7 : Keep h0 h7 [a] := K2.trans J7 (allS (Or.inl (List.mem_of_getElem? (i := 0) rfl)) all0)
  have O7 : own_Old Z h7 := O2.keep J7 (allS g1_G all0)
  show G (T7.setTop (mkF m 23 #[.val (.ref a), .val (.ref ev)] []))
  refine hG _ _ (fun t_ k_ => XS.iconst X7.here hx rfl (hb hby own_d13_23) k_) ?_
  show G (T7.setTop (mkF m 24 #[.val (.ref a), .val (.ref ev)] [(.int (1 : Int32))]))
  exact own_retN hR hret (by simp) X7 hx (hb hby own_d13_24) (by decide) (by decide) (by rw [e7]; exact ⟨t_7, kt_7, rfl, N7, K7, (Nat.le_trans K2.1 y7_0), r7_0, r7_1, r7_2, r7_3, r7_4, r7_5⟩)
theorem own_pd10 : parseMethodDescriptor "()Z" = some ⟨[], some .boolean⟩ := by decide +kernel
set_option maxRecDepth 65536 in
set_option maxHeartbeats 40000000 in
theorem own_emp (l : Launch) (Z : State) (a0 : Array Value) (hw : ∀ d ∈ tables_1, d.before a0 Z = true) (a : Addr) (n : Int32) (h0 : Heap) (O0 : own_Old Z h0) (g0_F : Fld Z h0 a "java/util/ArrayList" "size" "I" (.int n)) :
    own_Con l Z (⟨"java/util/ArrayList", "isEmpty", "()Z"⟩ : MethodName) jdk_38_method_9_code 1 (some .boolean) [] ({ frames := 0, cells := 0, slots := 0, locals := 0 } : Room) #[(.ref a)] h0 (fun rv rh rL => ∃ (z : Int32), rv = some (.int z) ∧ own_Fr Z rL ∧ h0 = rh) := by
  refine own_intro (plainFor_of_name (by first | (simp [plainName, overriddenIn]; done) | decide +kernel)) ?_
  intro p e s m below meth c s₁ G hx hby hml hown hnm hret hZ X0 e0 hG hR
  have N0 := Fr.nil Z.heap.size
  refine own_entry (Ls := #[.val (.ref a)]) (by first | (simp [entryFrame, mkF, argsToLocals, Value.category]; done) | rfl) ?_
  show G (s₁.setTop (mkF m 0 #[.val (.ref a)] []))
  refine hG _ _ (fun t_ k_ => XS.aloadN X0.here hx rfl (hb hby own_d6_0) rfl rfl k_) ?_
  show G (s₁.setTop (mkF m 1 #[.val (.ref a)] [(.ref a)]))
  obtain ⟨T1, X1, e1, st1⟩ := getF X0 hx hZ hown (host := "") (Or.inl (hw _ (List.mem_of_getElem? (i := 43) rfl))) Via.refl e0 g0_F (g := (mkF m 1 #[.val (.ref a)] [(.ref a)])) rfl rfl (hb hby own_d6_1)
  refine hG _ _ st1 ?_
  show G (T1.setTop (mkF m 4 #[.val (.ref a)] [(.int n)]))
  by_cases hc4_2 : n = (0 : Int32)
  · skip
    refine hG _ _ (fun t_ k_ => XS.ifNo X1.here hx rfl (hb hby own_d6_4) rfl ((if0 _ _).trans (teq hc4_2).2) k_) ?_
    show G (T1.setTop (mkF m 7 #[.val (.ref a)] []))
    refine hG _ _ (fun t_ k_ => XS.iconst X1.here hx rfl (hb hby own_d6_7) k_) ?_
    show G (T1.setTop (mkF m 8 #[.val (.ref a)] [(.int (1 : Int32))]))
    refine hG _ _ (fun t_ k_ => XS.goto X1.here hx rfl (pc0 := 8) (pc' := 12) rfl (hb hby own_d6_8) (by decide) (by decide) k_) ?_
    show G (T1.setTop (mkF m 12 #[.val (.ref a)] [(.int (1 : Int32))]))
    exact own_retN hR hret (by simp) X1 hx (hb hby own_d6_12) (by decide) (by decide) (by rw [e1]; exact ⟨(nar .boolean (1 : Int32)), rfl, N0, rfl⟩)
  · skip
    refine hG _ _ (fun t_ k_ => XS.ifYes X1.here hx rfl (pc0 := 4) (pc' := 11) rfl (hb hby own_d6_4) rfl ((if0 _ _).trans (feq hc4_2).2) (by decide) (by decide) k_) ?_
    show G (T1.setTop (mkF m 11 #[.val (.ref a)] []))
    refine hG _ _ (fun t_ k_ => XS.iconst X1.here hx rfl (hb hby own_d6_11) k_) ?_
    show G (T1.setTop (mkF m 12 #[.val (.ref a)] [(.int (0 : Int32))]))
    exact own_retN hR hret (by simp) X1 hx (hb hby own_d6_12) (by decide) (by decide) (by rw [e1]; exact ⟨(nar .boolean (0 : Int32)), rfl, N0, rfl⟩)
theorem own_pd11 : parseMethodDescriptor "(DJJJJLjava/util/List;)V" = some ⟨[.double, .long, .long, .long, .long, (.object "java/util/List")], none⟩ := by decide +kernel
set_option maxRecDepth 65536 in
set_option maxHeartbeats 40000000 in
theorem own_dinit (l : Launch) (Z : State) (a0 : Array Value) (hw : ∀ d ∈ tables_1, d.before a0 Z = true) (q : Addr) (d : UInt64) (x0 : Int64) (x1 : Int64) (x2 : Int64) (x3 : Int64) (a : Addr) (n : Int32) (u0 : Value) (u1 : Value) (u2 : Value) (u3 : Value) (u4 : Value) (u5 : Value) (u6 : Value) (h0 : Heap) (O0 : own_Old Z h0) (g0_E : Exa Z h0 q "com/example/danaid/danaid/Decision") (g1_G : Z.heap.size ≤ q) (g2_E : Exa Z h0 a "java/util/ArrayList") (g3_F : Fld Z h0 a "java/util/ArrayList" "size" "I" (.int n)) (g4_hne : a ≠ q) (g5_F : Fld Z h0 q "com/example/danaid/danaid/Decision" "allowed" "Z" u0) (g6_F : Fld Z h0 q "com/example/danaid/danaid/Decision" "level" "D" u1) (g7_F : Fld Z h0 q "com/example/danaid/danaid/Decision" "remaining" "J" u2) (g8_F : Fld Z h0 q "com/example/danaid/danaid/Decision" "clearNanos" "J" u3) (g9_F : Fld Z h0 q "com/example/danaid/danaid/Decision" "retryNanos" "J" u4) (g10_F : Fld Z h0 q "com/example/danaid/danaid/Decision" "size" "J" u5) (g11_F : Fld Z h0 q "com/example/danaid/danaid/Decision" "refusedBy" "Ljava/util/List;" u6) :
    own_Con l Z (⟨"com/example/danaid/danaid/Decision", "<init>", "(DJJJJLjava/util/List;)V"⟩ : MethodName) prog_3_method_1_code 12 none [] ({ frames := 1, cells := 0, slots := 0, locals := 13 } : Room) #[(.ref q), (.double d), (.long x0), (.long x1), (.long x2), (.long x3), (.ref a)] h0 (fun rv rh rL => rv = none ∧ own_Fr Z rL ∧ Keep h0 rh [q] ∧ (Exa Z rh q "com/example/danaid/danaid/Decision")) := by
  refine own_intro (plainFor_of_name (by first | (simp [plainName, overriddenIn]; done) | decide +kernel)) ?_
  intro p e s m below meth c s₁ G hx hby hml hown hnm hret hZ X0 e0 hG hR
  have N0 := Fr.nil Z.heap.size
  refine own_entry (Ls := #[.val (.ref q), .val (.double d), .second, .val (.long x0), .second, .val (.long x1), .second, .val (.long x2), .second, .val (.long x3), .second, .val (.ref a)]) (by first | (simp [entryFrame, mkF, argsToLocals, Value.category]; done) | rfl) ?_
  show G (s₁.setTop (mkF m 0 #[.val (.ref q), .val (.double d), .second, .val (.long x0), .second, .val (.long x1), .second, .val (.long x2), .second, .val (.long x3), .second, .val (.ref a)] []))
  refine hG _ _ (fun t_ k_ => XS.aloadN X0.here hx rfl (hb hby own_d5_0) rfl rfl k_) ?_
  show G (s₁.setTop (mkF m 1 #[.val (.ref q), .val (.double d), .second, .val (.long x0), .second, .val (.long x1), .second, .val (.long x2), .second, .val (.long x3), .second, .val (.ref a)] [(.ref q)]))
  obtain ⟨T1, X1, e1, st1⟩ := initO X0 hx hZ hown (hw _ (List.mem_of_getElem? (i := 33) rfl)) (hw _ (List.mem_of_getElem? (i := 20) rfl)) (hw _ (List.mem_of_getElem? (i := 21) rfl)) e0 (g := (mkF m 1 #[.val (.ref q), .val (.double d), .second, .val (.long x0), .second, .val (.long x1), .second, .val (.long x2), .second, .val (.long x3), .second, .val (.ref a)] [(.ref q)])) rfl (by rw [hml]; rfl) rfl (hb hby own_d5_1) (by decide) (W := 0) (by show 2 * 0 + _ ≤ _; exact Nat.le_of_eq rfl) (by decide)
  refine hG _ _ st1 ?_
  show G (T1.setTop (mkF m 4 #[.val (.ref q), .val (.double d), .second, .val (.long x0), .second, .val (.long x1), .second, .val (.long x2), .second, .val (.long x3), .second, .val (.ref a)] []))
  refine hG _ _ (fun t_ k_ => XS.aloadN X1.here hx rfl (hb hby own_d5_4) rfl rfl k_) ?_
  show G (T1.setTop (mkF m 5 #[.val (.ref q), .val (.double d), .second, .val (.long x0), .second, .val (.long x1), .second, .val (.long x2), .second, .val (.long x3), .second, .val (.ref a)] [(.ref q)]))
  refine hG _ _ (fun t_ k_ => XS.aload X1.here hx rfl (hb hby own_d5_5) rfl rfl k_) ?_
  show G (T1.setTop (mkF m 7 #[.val (.ref q), .val (.double d), .second, .val (.long x0), .second, .val (.long x1), .second, .val (.long x2), .second, .val (.long x3), .second, .val (.ref a)] [(.ref a), (.ref q)]))
  refine own_callF (C := "java/util/ArrayList") X1 hx hZ hG hown (hw _ (List.mem_of_getElem? (i := 34) rfl)) (hw _ (List.mem_of_getElem? (i := 35) rfl)) (fun s_ hz_ => mvT hz_ (hw _ (List.mem_of_getElem? (i := 36) rfl))) (hw _ (List.mem_of_getElem? (i := 37) rfl)) (hw _ (List.mem_of_getElem? (i := 38) rfl)) (hw _ (List.mem_of_getElem? (i := 39) rfl)) (hw _ (List.mem_of_getElem? (i := 40) rfl)) (hw _ (List.mem_of_getElem? (i := 41) rfl)) (hw _ (List.mem_of_getElem? (i := 3) rfl)) (hw _ (List.mem_of_getElem? (i := 42) rfl)) (by decide) 1 (own_emp l Z a0 hw a n h0 O0 g3_F) (by decide) (by decide) e1 g2_E (by rw [hml]; rfl) (lenOf own_pd10 rfl) (argsL := []) (rest := [(.ref q)]) rfl rfl (Nat.le_of_eq rfl) (hb hby own_d5_7) (by decide) (by decide) ?_
  intro T2 h2 v2 L2 X2 e2 q2
  obtain ⟨z_2, rfl, M2, rfl⟩ := q2
  have N2 := Fr.app N0 M2
  show G (T2.setTop (mkF m 12 #[.val (.ref q), .val (.double d), .second, .val (.long x0), .second, .val (.long x1), .second, .val (.long x2), .second, .val (.long x3), .second, .val (.ref a)] [(.int z_2), (.ref q)]))
  obtain ⟨T3, h3, X3, e3, W3, st3⟩ := putFN X2 hx hZ hown (hw _ (List.mem_of_getElem? (i := 45) rfl)) Via.refl e2 g5_F g0_E (Or.inr ⟨(hw _ (List.mem_of_getElem? (i := 46) rfl)), rfl, hnm⟩) (hw _ (List.mem_of_getElem? (i := 28) rfl)) (ty := .boolean) (v' := (.int (nar .boolean z_2))) (by decide) rfl (fits_nar_bool _) (g := (mkF m 12 #[.val (.ref q), .val (.double d), .second, .val (.long x0), .second, .val (.long x1), .second, .val (.long x2), .second, .val (.long x3), .second, .val (.ref a)] [(.int z_2), (.ref q)])) rfl rfl (hb hby own_d5_12)
  refine hG _ _ st3 ?_
  have K3 : Keep h0 h3 [q] := (Keep.refl h0 [q]).wr W3 (Or.inl (List.mem_of_getElem? (i := 0) rfl))
  have O3 : own_Old Z h3 := O0.wr W3 g1_G
  have N3 := Fr.snoc X3 N2 g1_G
  show G (T3.setTop (mkF m 15 #[.val (.ref q), .val (.double d), .second, .val (.long x0), .second, .val (.long x1), .second, .val (.long x2), .second, .val (.long x3), .second, .val (.ref a)] []))
  refine hG _ _ (fun t_ k_ => XS.aloadN X3.here hx rfl (hb hby own_d5_15) rfl rfl k_) ?_
  show G (T3.setTop (mkF m 16 #[.val (.ref q), .val (.double d), .second, .val (.long x0), .second, .val (.long x1), .second, .val (.long x2), .second, .val (.long x3), .second, .val (.ref a)] [(.ref q)]))
  refine hG _ _ (fun t_ k_ => XS.dloadN X3.here hx rfl (hb hby own_d5_16) rfl k_) ?_
  show G (T3.setTop (mkF m 17 #[.val (.ref q), .val (.double d), .second, .val (.long x0), .second, .val (.long x1), .second, .val (.long x2), .second, .val (.long x3), .second, .val (.ref a)] [(.double d), (.ref q)]))
  have f5 := (g6_F.other W3 (Or.inr (slot_ne (Or.inr (hw _ (List.mem_of_getElem? (i := 48) rfl))) (Or.inr (hw _ (List.mem_of_getElem? (i := 46) rfl))) (by decide) (t := .double) (t' := .boolean) (by decide) (by decide))))
  have f6 := (g0_E.wr W3)
  obtain ⟨T4, h4, X4, e4, W4, st4⟩ := putF X3 hx hZ hown (host := "") (Or.inl (hw _ (List.mem_of_getElem? (i := 47) rfl))) Via.refl e3 f5 f6 (Or.inr ⟨(hw _ (List.mem_of_getElem? (i := 48) rfl)), rfl, hnm⟩) (hw _ (List.mem_of_getElem? (i := 28) rfl)) (ty := .double) (by decide) rfl rfl (g := (mkF m 17 #[.val (.ref q), .val (.double d), .second, .val (.long x0), .second, .val (.long x1), .second, .val (.long x2), .second, .val (.long x3), .second, .val (.ref a)] [(.double d), (.ref q)])) rfl rfl (hb hby own_d5_17)
  refine hG _ _ st4 ?_
  have K4 : Keep h0 h4 [q] := K3.wr W4 (Or.inl (List.mem_of_getElem? (i := 0) rfl))
  have O4 : own_Old Z h4 := O3.wr W4 g1_G
  have N4 := Fr.snoc X4 N3 g1_G
  show G (T4.setTop (mkF m 20 #[.val (.ref q), .val (.double d), .second, .val (.long x0), .second, .val (.long x1), .second, .val (.long x2), .second, .val (.long x3), .second, .val (.ref a)] []))
  refine hG _ _ (fun t_ k_ => XS.aloadN X4.here hx rfl (hb hby own_d5_20) rfl rfl k_) ?_
  show G (T4.setTop (mkF m 21 #[.val (.ref q), .val (.double d), .second, .val (.long x0), .second, .val (.long x1), .second, .val (.long x2), .second, .val (.long x3), .second, .val (.ref a)] [(.ref q)]))
  refine hG _ _ (fun t_ k_ => XS.lloadN X4.here hx rfl (hb hby own_d5_21) rfl k_) ?_
  show G (T4.setTop (mkF m 22 #[.val (.ref q), .val (.double d), .second, .val (.long x0), .second, .val (.long x1), .second, .val (.long x2), .second, .val (.long x3), .second, .val (.ref a)] [(.long x0), (.ref q)]))
  have f8 := ((g7_F.other W3 (Or.inr (slot_ne (Or.inr (hw _ (List.mem_of_getElem? (i := 50) rfl))) (Or.inr (hw _ (List.mem_of_getElem? (i := 46) rfl))) (by decide) (t := .long) (t' := .boolean) (by decide) (by decide)))).other W4 (Or.inr (slot_ne (Or.inr (hw _ (List.mem_of_getElem? (i := 50) rfl))) (Or.inr (hw _ (List.mem_of_getElem? (i := 48) rfl))) (by decide) (t := .long) (t' := .double) (by decide) (by decide))))
  have f9 := (f6.wr W4)
  obtain ⟨T7, h7, X7, e7, W7, st7⟩ := putF X4 hx hZ hown (host := "") (Or.inl (hw _ (List.mem_of_getElem? (i := 49) rfl))) Via.refl e4 f8 f9 (Or.inr ⟨(hw _ (List.mem_of_getElem? (i := 50) rfl)), rfl, hnm⟩) (hw _ (List.mem_of_getElem? (i := 28) rfl)) (ty := .long) (by decide) rfl rfl (g := (mkF m 22 #[.val (.ref q), .val (.double d), .second, .val (.long x0), .second, .val (.long x1), .second, .val (.long x2), .second, .val (.long x3), .second, .val (.ref a)] [(.long x0), (.ref q)])) rfl rfl (hb hby own_d5_22)
  refine hG _ _ st7 ?_
  have K7 : Keep h0 h7 [q] := K4.wr W7 (Or.inl (List.mem_of_getElem? (i := 0) rfl))
  have O7 : own_Old Z h7 := O4.wr W7 g1_G
  have N7 := Fr.snoc X7 N4 g1_G
  show G (T7.setTop (mkF m 25 #[.val (.ref q), .val (.double d), .second, .val (.long x0), .second, .val (.long x1), .second, .val (.long x2), .second, .val (.long x3), .second, .val (.ref a)] []))
  refine hG _ _ (fun t_ k_ => XS.aloadN X7.here hx rfl (hb hby own_d5_25) rfl rfl k_) ?_
  show G (T7.setTop (mkF m 26 #[.val (.ref q), .val (.double d), .second, .val (.long x0), .second, .val (.long x1), .second, .val (.long x2), .second, .val (.long x3), .second, .val (.ref a)] [(.ref q)]))
  refine hG _ _ (fun t_ k_ => XS.lload X7.here hx rfl (hb hby own_d5_26) rfl k_) ?_
  show G (T7.setTop (mkF m 28 #[.val (.ref q), .val (.double d), .second, .val (.long x0), .second, .val (.long x1), .second, .val (.long x2), .second, .val (.long x3), .second, .val (.ref a)] [(.long x1), (.ref q)]))
  have f11 := (((g8_F.other W3 (Or.inr (slot_ne (Or.inr (hw _ (List.mem_of_getElem? (i := 52) rfl))) (Or.inr (hw _ (List.mem_of_getElem? (i := 46) rfl))) (by decide) (t := .long) (t' := .boolean) (by decide) (by decide)))).other W4 (Or.inr (slot_ne (Or.inr (hw _ (List.mem_of_getElem? (i := 52) rfl))) (Or.inr (hw _ (List.mem_of_getElem? (i := 48) rfl))) (by decide) (t := .long) (t' := .double) (by decide) (by decide)))).other W7 (Or.inr (slot_ne (Or.inr (hw _ (List.mem_of_getElem? (i := 52) rfl))) (Or.inr (hw _ (List.mem_of_getElem? (i := 50) rfl))) (by decide) (t := .long) (t' := .long) (by decide) (by decide))))
  have f12 := (f9.wr W7)
  obtain ⟨T10, h10, X10, e10, W10, st10⟩ := putF X7 hx hZ hown (host := "") (Or.inl (hw _ (List.mem_of_getElem? (i := 51) rfl))) Via.refl e7 f11 f12 (Or.inr ⟨(hw _ (List.mem_of_getElem? (i := 52) rfl)), rfl, hnm⟩) (hw _ (List.mem_of_getElem? (i := 28) rfl)) (ty := .long) (by decide) rfl rfl (g := (mkF m 28 #[.val (.ref q), .val (.double d), .second, .val (.long x0), .second, .val (.long x1), .second, .val (.long x2), .second, .val (.long x3), .second, .val (.ref a)] [(.long x1), (.ref q)])) rfl rfl (hb hby own_d5_28)
  refine hG _ _ st10 ?_
  have K10 : Keep h0 h10 [q] := K7.wr W10 (Or.inl (List.mem_of_getElem? (i := 0) rfl))
  have O10 : own_Old Z h10 := O7.wr W10 g1_G
  have N10 := Fr.snoc X10 N7 g1_G
  show G (T10.setTop (mkF m 31 #[.val (.ref q), .val (.double d), .second, .val (.long x0), .second, .val (.long x1), .second, .val (.long x2), .second, .val (.long x3), .second, .val (.ref a)] []))
  refine hG _ _ (fun t_ k_ => XS.aloadN X10.here hx rfl (hb hby own_d5_31) rfl rfl k_) ?_
  show G (T10.setTop (mkF m 32 #[.val (.ref q), .val (.double d), .second, .val (.long x0), .second, .val (.long x1), .second, .val (.long x2), .second, .val (.long x3), .second, .val (.ref a)] [(.ref q)]))
  refine hG _ _ (fun t_ k_ => XS.lload X10.here hx rfl (hb hby own_d5_32) rfl k_) ?_
  show G (T10.setTop (mkF m 34 #[.val (.ref q), .val (.double d), .second, .val (.long x0), .second, .val (.long x1), .second, .val (.long x2), .second, .val (.long x3), .second, .val (.ref a)] [(.long x2), (.ref q)]))
  have f14 := ((((g9_F.other W3 (Or.inr (slot_ne (Or.inr (hw _ (List.mem_of_getElem? (i := 54) rfl))) (Or.inr (hw _ (List.mem_of_getElem? (i := 46) rfl))) (by decide) (t := .long) (t' := .boolean) (by decide) (by decide)))).other W4 (Or.inr (slot_ne (Or.inr (hw _ (List.mem_of_getElem? (i := 54) rfl))) (Or.inr (hw _ (List.mem_of_getElem? (i := 48) rfl))) (by decide) (t := .long) (t' := .double) (by decide) (by decide)))).other W7 (Or.inr (slot_ne (Or.inr (hw _ (List.mem_of_getElem? (i := 54) rfl))) (Or.inr (hw _ (List.mem_of_getElem? (i := 50) rfl))) (by decide) (t := .long) (t' := .long) (by decide) (by decide)))).other W10 (Or.inr (slot_ne (Or.inr (hw _ (List.mem_of_getElem? (i := 54) rfl))) (Or.inr (hw _ (List.mem_of_getElem? (i := 52) rfl))) (by decide) (t := .long) (t' := .long) (by decide) (by decide))))
  have f15 := (f12.wr W10)
  obtain ⟨T13, h13, X13, e13, W13, st13⟩ := putF X10 hx hZ hown (host := "") (Or.inl (hw _ (List.mem_of_getElem? (i := 53) rfl))) Via.refl e10 f14 f15 (Or.inr ⟨(hw _ (List.mem_of_getElem? (i := 54) rfl)), rfl, hnm⟩) (hw _ (List.mem_of_getElem? (i := 28) rfl)) (ty := .long) (by decide) rfl rfl (g := (mkF m 34 #[.val (.ref q), .val (.double d), .second, .val (.long x0), .second, .val (.long x1), .second, .val (.long x2), .second, .val (.long x3), .second, .val (.ref a)] [(.long x2), (.ref q)])) rfl rfl (hb hby own_d5_34)
  refine hG _ _ st13 ?_
  have K13 : Keep h0 h13 [q] := K10.wr W13 (Or.inl (List.mem_of_getElem? (i := 0) rfl))
  have O13 : own_Old Z h13 := O10.wr W13 g1_G
  have N13 := Fr.snoc X13 N10 g1_G
  show G (T13.setTop (mkF m 37 #[.val (.ref q), .val (.double d), .second, .val (.long x0), .second, .val (.long x1), .second, .val (.long x2), .second, .val (.long x3), .second, .val (.ref a)] []))
  refine hG _ _ (fun t_ k_ => XS.aloadN X13.here hx rfl (hb hby own_d5_37) rfl rfl k_) ?_
  show G (T13.setTop (mkF m 38 #[.val (.ref q), .val (.double d), .second, .val (.long x0), .second, .val (.long x1), .second, .val (.long x2), .second, .val (.long x3), .second, .val (.ref a)] [(.ref q)]))
  refine hG _ _ (fun t_ k_ => XS.lload X13.here hx rfl (hb hby own_d5_38) rfl k_) ?_
  show G (T13.setTop (mkF m 40 #[.val (.ref q), .val (.double d), .second, .val (.long x0), .second, .val (.long x1), .second, .val (.long x2), .second, .val (.long x3), .second, .val (.ref a)] [(.long x3), (.ref q)]))
  have f17 := (((((g10_F.other W3 (Or.inr (slot_ne (Or.inr (hw _ (List.mem_of_getElem? (i := 56) rfl))) (Or.inr (hw _ (List.mem_of_getElem? (i := 46) rfl))) (by decide) (t := .long) (t' := .boolean) (by decide) (by decide)))).other W4 (Or.inr (slot_ne (Or.inr (hw _ (List.mem_of_getElem? (i := 56) rfl))) (Or.inr (hw _ (List.mem_of_getElem? (i := 48) rfl))) (by decide) (t := .long) (t' := .double) (by decide) (by decide)))).other W7 (Or.inr (slot_ne (Or.inr (hw _ (List.mem_of_getElem? (i := 56) rfl))) (Or.inr (hw _ (List.mem_of_getElem? (i := 50) rfl))) (by decide) (t := .long) (t' := .long) (by decide) (by decide)))).other W10 (Or.inr (slot_ne (Or.inr (hw _ (List.mem_of_getElem? (i := 56) rfl))) (Or.inr (hw _ (List.mem_of_getElem? (i := 52) rfl))) (by decide) (t := .long) (t' := .long) (by decide) (by decide)))).other W13 (Or.inr (slot_ne (Or.inr (hw _ (List.mem_of_getElem? (i := 56) rfl))) (Or.inr (hw _ (List.mem_of_getElem? (i := 54) rfl))) (by decide) (t := .long) (t' := .long) (by decide) (by decide))))
  have f18 := (f15.wr W13)
  obtain ⟨T16, h16, X16, e16, W16, st16⟩ := putF X13 hx hZ hown (host := "") (Or.inl (hw _ (List.mem_of_getElem? (i := 55) rfl))) Via.refl e13 f17 f18 (Or.inr ⟨(hw _ (List.mem_of_getElem? (i := 56) rfl)), rfl, hnm⟩) (hw _ (List.mem_of_getElem? (i := 28) rfl)) (ty := .long) (by decide) rfl rfl (g := (mkF m 40 #[.val (.ref q), .val (.double d), .second, .val (.long x0), .second, .val (.long x1), .second, .val (.long x2), .second, .val (.long x3), .second, .val (.ref a)] [(.long x3), (.ref q)])) rfl rfl (hb hby own_d5_40)
  refine hG _ _ st16 ?_
  have K16 : Keep h0 h16 [q] := K13.wr W16 (Or.inl (List.mem_of_getElem? (i := 0) rfl))
  have O16 : own_Old Z h16 := O13.wr W16 g1_G
  have N16 := Fr.snoc X16 N13 g1_G
  show G (T16.setTop (mkF m 43 #[.val (.ref q), .val (.double d), .second, .val (.long x0), .second, .val (.long x1), .second, .val (.long x2), .second, .val (.long x3), .second, .val (.ref a)] []))
  refine hG _ _ (fun t_ k_ => XS.aloadN X16.here hx rfl (hb hby own_d5_43) rfl rfl k_) ?_
  show G (T16.setTop (mkF m 44 #[.val (.ref q), .val (.double d), .second, .val (.long x0), .second, .val (.long x1), .second, .val (.long x2), .second, .val (.long x3), .second, .val (.ref a)] [(.ref q)]))
  refine hG _ _ (fun t_ k_ => XS.aload X16.here hx rfl (hb hby own_d5_44) rfl rfl k_) ?_
  show G (T16.setTop (mkF m 46 #[.val (.ref q), .val (.double d), .second, .val (.long x0), .second, .val (.long x1), .second, .val (.long x2), .second, .val (.long x3), .second, .val (.ref a)] [(.ref a), (.ref q)]))
  have f20 := ((((((g11_F.other W3 (Or.inr (slot_ne (Or.inr (hw _ (List.mem_of_getElem? (i := 58) rfl))) (Or.inr (hw _ (List.mem_of_getElem? (i := 46) rfl))) (by decide) (t := (.object "java/util/List")) (t' := .boolean) (by decide) (by decide)))).other W4 (Or.inr (slot_ne (Or.inr (hw _ (List.mem_of_getElem? (i := 58) rfl))) (Or.inr (hw _ (List.mem_of_getElem? (i := 48) rfl))) (by decide) (t := (.object "java/util/List")) (t' := .double) (by decide) (by decide)))).other W7 (Or.inr (slot_ne (Or.inr (hw _ (List.mem_of_getElem? (i := 58) rfl))) (Or.inr (hw _ (List.mem_of_getElem? (i := 50) rfl))) (by decide) (t := (.object "java/util/List")) (t' := .long) (by decide) (by decide)))).other W10 (Or.inr (slot_ne (Or.inr (hw _ (List.mem_of_getElem? (i := 58) rfl))) (Or.inr (hw _ (List.mem_of_getElem? (i := 52) rfl))) (by decide) (t := (.object "java/util/List")) (t' := .long) (by decide) (by decide)))).other W13 (Or.inr (slot_ne (Or.inr (hw _ (List.mem_of_getElem? (i := 58) rfl))) (Or.inr (hw _ (List.mem_of_getElem? (i := 54) rfl))) (by decide) (t := (.object "java/util/List")) (t' := .long) (by decide) (by decide)))).other W16 (Or.inr (slot_ne (Or.inr (hw _ (List.mem_of_getElem? (i := 58) rfl))) (Or.inr (hw _ (List.mem_of_getElem? (i := 56) rfl))) (by decide) (t := (.object "java/util/List")) (t' := .long) (by decide) (by decide))))
  have f21 := (f18.wr W16)
  obtain ⟨T19, h19, X19, e19, W19, st19⟩ := putF X16 hx hZ hown (host := "") (Or.inl (hw _ (List.mem_of_getElem? (i := 57) rfl))) Via.refl e16 f20 f21 (Or.inr ⟨(hw _ (List.mem_of_getElem? (i := 58) rfl)), rfl, hnm⟩) (hw _ (List.mem_of_getElem? (i := 28) rfl)) (ty := (.object "java/util/List")) (by decide) rfl rfl (g := (mkF m 46 #[.val (.ref q), .val (.double d), .second, .val (.long x0), .second, .val (.long x1), .second, .val (.long x2), .second, .val (.long x3), .second, .val (.ref a)] [(.ref a), (.ref q)])) rfl rfl (hb hby own_d5_46)
  refine hG _ _ st19 ?_
  have K19 : Keep h0 h19 [q] := K16.wr W19 (Or.inl (List.mem_of_getElem? (i := 0) rfl))
  have O19 : own_Old Z h19 := O16.wr W19 g1_G
  have N19 := Fr.snoc X19 N16 g1_G
  show G (T19.setTop (mkF m 49 #[.val (.ref q), .val (.double d), .second, .val (.long x0), .second, .val (.long x1), .second, .val (.long x2), .second, .val (.long x3), .second, .val (.ref a)] []))
  have f22 := (f21.wr W19)
  exact own_retV hR hret X19 hx (hb hby own_d5_49) (by decide) (by decide) (by rw [e19]; exact ⟨rfl, N19, K19, f22⟩)
theorem own_pd12 : parseMethodDescriptor "()Lcom/example/danaid/danaid/Decision;" = some ⟨[], some (.object "com/example/danaid/danaid/Decision")⟩ := by decide +kernel
set_option maxRecDepth 65536 in
set_option maxHeartbeats 40000000 in
theorem own_unl (l : Launch) (Z : State) (a0 : Array Value) (hw : ∀ d ∈ tables_1, d.before a0 Z = true) (u : Addr) (h0 : Heap) (O0 : own_Old Z h0) (g0_S : Sta Z Z.heap "com/example/danaid/danaid/Decision" "UNLIMITED" "Lcom/example/danaid/danaid/Decision;" (.ref u)) :
    own_Con l Z (⟨"com/example/danaid/danaid/Decision", "unlimited", "()Lcom/example/danaid/danaid/Decision;"⟩ : MethodName) prog_3_method_2_code 0 (some (.object "com/example/danaid/danaid/Decision")) [] ({ frames := 0, cells := 0, slots := 0, locals := 0 } : Room) #[] h0 (fun rv rh rL => rv = some (.ref u) ∧ own_Fr Z rL ∧ h0 = rh) := by
  refine own_intro (plainFor_of_name (by first | (simp [plainName, overriddenIn]; done) | decide +kernel)) ?_
  intro p e s m below meth c s₁ G hx hby hml hown hnm hret hZ X0 e0 hG hR
  have N0 := Fr.nil Z.heap.size
  refine own_entry (Ls := #[]) (by first | (simp [entryFrame, mkF, argsToLocals, Value.category]; done) | rfl) ?_
  show G (s₁.setTop (mkF m 0 #[] []))
  obtain ⟨T1, X1, e1, st1⟩ := getS2 X0 hx hZ hown (host := "") (Or.inl (hw _ (List.mem_of_getElem? (i := 62) rfl))) Via.refl e0 (own_sta g0_S O0) (g := (mkF m 0 #[] [])) rfl (hb hby own_d7_0)
  refine hG _ _ st1 ?_
  show G (T1.setTop (mkF m 3 #[] [(.ref u)]))
  exact own_retA hR hret rfl rfl X1 hx (hb hby own_d7_3) (by decide) (by decide) (by rw [e1]; exact ⟨rfl, N0, rfl⟩)
set_option maxRecDepth 65536 in
set_option maxHeartbeats 40000000 in
theorem own_isu1 (l : Launch) (Z : State) (a0 : Array Value) (hw : ∀ d ∈ tables_1, d.before a0 Z = true) (u : Addr) (h0 : Heap) (O0 : own_Old Z h0) (g0_S : Sta Z Z.heap "com/example/danaid/danaid/Decision" "UNLIMITED" "Lcom/example/danaid/danaid/Decision;" (.ref u)) :
    own_Con l Z (⟨"com/example/danaid/danaid/Decision", "isUnlimited", "()Z"⟩ : MethodName) prog_3_method_3_code 1 (some .boolean) [] ({ frames := 0, cells := 0, slots := 0, locals := 0 } : Room) #[(.ref u)] h0 (fun rv rh rL => rv = some (.int (1 : Int32)) ∧ own_Fr Z rL ∧ h0 = rh) := by
  refine own_intro (plainFor_of_name (by first | (simp [plainName, overriddenIn]; done) | decide +kernel)) ?_
  intro p e s m below meth c s₁ G hx hby hml hown hnm hret hZ X0 e0 hG hR
  have N0 := Fr.nil Z.heap.size
  refine own_entry (Ls := #[.val (.ref u)]) (by first | (simp [entryFrame, mkF, argsToLocals, Value.category]; done) | rfl) ?_
  show G (s₁.setTop (mkF m 0 #[.val (.ref u)] []))
  refine hG _ _ (fun t_ k_ => XS.aloadN X0.here hx rfl (hb hby own_d8_0) rfl rfl k_) ?_
  show G (s₁.setTop (mkF m 1 #[.val (.ref u)] [(.ref u)]))
  obtain ⟨T1, X1, e1, st1⟩ := getS2 X0 hx hZ hown (host := "") (Or.inl (hw _ (List.mem_of_getElem? (i := 62) rfl))) Via.refl e0 (own_sta g0_S O0) (g := (mkF m 1 #[.val (.ref u)] [(.ref u)])) rfl (hb hby own_d8_1)
  refine hG _ _ st1 ?_
  show G (T1.setTop (mkF m 4 #[.val (.ref u)] [(.ref u), (.ref u)]))
  refine hG _ _ (fun t_ k_ => Jvm.RoadKit.acmp (g := (mkF m 4 #[.val (.ref u)] [(.ref u), (.ref u)])) X1 hx rfl rfl rfl (pc0 := 4) (pc' := 7) (same := true) rfl (hb hby own_d8_4) rfl (decide_eq_true rfl) (by decide) (by decide) k_) ?_
  show G (T1.setTop (mkF m 7 #[.val (.ref u)] []))
  refine hG _ _ (fun t_ k_ => XS.iconst X1.here hx rfl (hb hby own_d8_7) k_) ?_
  show G (T1.setTop (mkF m 8 #[.val (.ref u)] [(.int (1 : Int32))]))
  refine hG _ _ (fun t_ k_ => XS.goto X1.here hx rfl (pc0 := 8) (pc' := 12) rfl (hb hby own_d8_8) (by decide) (by decide) k_) ?_
  show G (T1.setTop (mkF m 12 #[.val (.ref u)] [(.int (1 : Int32))]))
  exact own_retN hR hret (by simp) X1 hx (hb hby own_d8_12) (by decide) (by decide) (by rw [e1]; exact ⟨rfl, N0, rfl⟩)
set_option maxRecDepth 65536 in
set_option maxHeartbeats 40000000 in
theorem own_isu0 (l : Launch) (Z : State) (a0 : Array Value) (hw : ∀ d ∈ tables_1, d.before a0 Z = true) (a : Addr) (u : Addr) (h0 : Heap) (O0 : own_Old Z h0) (g0_S : Sta Z Z.heap "com/example/danaid/danaid/Decision" "UNLIMITED" "Lcom/example/danaid/danaid/Decision;" (.ref u)) (g1_hne : a ≠ u) :
    own_Con l Z (⟨"com/example/danaid/danaid/Decision", "isUnlimited", "()Z"⟩ : MethodName) prog_3_method_3_code 1 (some .boolean) [] ({ frames := 0, cells := 0, slots := 0, locals := 0 } : Room) #[(.ref a)] h0 (fun rv rh rL => rv = some (.int (0 : Int32)) ∧ own_Fr Z rL ∧ h0 = rh) := by
  refine own_intro (plainFor_of_name (by first | (simp [plainName, overriddenIn]; done) | decide +kernel)) ?_
  intro p e s m below meth c s₁ G hx hby hml hown hnm hret hZ X0 e0 hG hR
  have N0 := Fr.nil Z.heap.size
  refine own_entry (Ls := #[.val (.ref a)]) (by first | (simp [entryFrame, mkF, argsToLocals, Value.category]; done) | rfl) ?_
  show G (s₁.setTop (mkF m 0 #[.val (.ref a)] []))
  refine hG _ _ (fun t_ k_ => XS.aloadN X0.here hx rfl (hb hby own_d8_0) rfl rfl k_) ?_
  show G (s₁.setTop (mkF m 1 #[.val (.ref a)] [(.ref a)]))
  obtain ⟨T1, X1, e1, st1⟩ := getS2 X0 hx hZ hown (host := "") (Or.inl (hw _ (List.mem_of_getElem? (i := 62) rfl))) Via.refl e0 (own_sta g0_S O0) (g := (mkF m 1 #[.val (.ref a)] [(.ref a)])) rfl (hb hby own_d8_1)
  refine hG _ _ st1 ?_
  show G (T1.setTop (mkF m 4 #[.val (.ref a)] [(.ref u), (.ref a)]))
  refine hG _ _ (fun t_ k_ => Jvm.RoadKit.acmp (g := (mkF m 4 #[.val (.ref a)] [(.ref u), (.ref a)])) X1 hx rfl rfl rfl (pc0 := 4) (pc' := 11) (same := false) rfl (hb hby own_d8_4) rfl (decide_eq_false fun q => g1_hne (Value.ref.inj q)) (by decide) (by decide) k_) ?_
  show G (T1.setTop (mkF m 11 #[.val (.ref a)] []))
  refine hG _ _ (fun t_ k_ => XS.iconst X1.here hx rfl (hb hby own_d8_11) k_) ?_
  show G (T1.setTop (mkF m 12 #[.val (.ref a)] [(.int (0 : Int32))]))
  exact own_retN hR hret (by simp) X1 hx (hb hby own_d8_12) (by decide) (by decide) (by rw [e1]; exact ⟨rfl, N0, rfl⟩)
theorem own_pd13 : parseMethodDescriptor "(IJJJJI)Z" = some ⟨[.int, .long, .long, .long, .long, .int], some .boolean⟩ := by decide +kernel
set_option maxRecDepth 65536 in
set_option maxHeartbeats 40000000 in
theorem own_law (l : Launch) (Z : State) (a0 : Array Value) (hw : ∀ d ∈ tables_1, d.before a0 Z = true) (ws : List Jvm.Cond) (i0 : Int32) (i1 : Int64) (i2 : Int64) (i3 : Int64) (i4 : Int64) (i5 : Int32) (cpt : Int32) (dflt : Addr) (kd : ClassId) (u : Addr) (h0 : Heap) (O0 : own_Old Z h0) (g0_S : Sta Z Z.heap "java/lang/String" "COMPACT_STRINGS" "Z" (.int cpt)) (g1_hcpt : ¬ (cpt = (0 : Int32))) (g2_S : Sta Z Z.heap "java/util/ArrayList" "DEFAULTCAPACITY_EMPTY_ELEMENTDATA" "[Ljava/lang/Object;" (.ref dflt)) (g3_V : Arv Z h0 dflt kd (.object "java/lang/Object") (0 : Int32) [] .null) (g4_S : Sta Z Z.heap "com/example/danaid/danaid/Decision" "UNLIMITED" "Lcom/example/danaid/danaid/Decision;" (.ref u)) (g5_E : Exa Z h0 u "com/example/danaid/danaid/Decision") :
    own_Con l Z x code maxLocals ret ws room_1 #[(.int i0), (.long i1), (.long i2), (.long i3), (.long i4), (.int i5)] h0 (fun rv rh rL => rv = some (.int (1 : Int32)) ∧ own_Fr Z rL ∧ Keep h0 rh []) := by
  refine own_intro (plainFor_of_name (by first | (simp [plainName, overriddenIn]; done) | decide +kernel)) ?_
  intro p e s m below meth c s₁ G hx hby hml hown hnm hret hZ X0 e0 hG hR
  have N0 := Fr.nil Z.heap.size
  refine own_entry (Ls := #[.val (.int i0), .val (.long i1), .second, .val (.long i2), .second, .val (.long i3), .second, .val (.long i4), .second, .val (.int i5), .unset, .unset, .unset, .unset, .unset, .unset, .unset, .unset, .unset, .unset, .unset, .unset, .unset, .unset, .unset, .unset, .unset]) (by first | (simp [entryFrame, mkF, argsToLocals, Value.category, maxLocals]; done) | rfl) ?_
  show G (s₁.setTop (mkF m 0 #[.val (.int i0), .val (.long i1), .second, .val (.long i2), .second, .val (.long i3), .second, .val (.long i4), .second, .val (.int i5), .unset, .unset, .unset, .unset, .unset, .unset, .unset, .unset, .unset, .unset, .unset, .unset, .unset, .unset, .unset, .unset, .unset] []))
  refine hG _ _ (fun t_ k_ => XS.iload X0.here hx rfl (hb hby at_0) rfl k_) ?_
  show G (s₁.setTop (mkF m 2 #[.val (.int i0), .val (.long i1), .second, .val (.long i2), .second, .val (.long i3), .second, .val (.long i4), .second, .val (.int i5), .unset, .unset, .unset, .unset, .unset, .unset, .unset, .unset, .unset, .unset, .unset, .unset, .unset, .unset, .unset, .unset, .unset] [(.int i5)]))
  refine hG _ _ (fun t_ k_ => XS.iconst X0.here hx rfl (hb hby at_2) k_) ?_
  show G (s₁.setTop (mkF m 3 #[.val (.int i0), .val (.long i1), .second, .val (.long i2), .second, .val (.long i3), .second, .val (.long i4), .second, .val (.int i5), .unset, .unset, .unset, .unset, .unset, .unset, .unset, .unset, .unset, .unset, .unset, .unset, .unset, .unset, .unset, .unset, .unset] [(.int (1 : Int32)), (.int i5)]))
  refine hG _ _ (fun t_ k_ => XS.iand X0.here hx rfl (hb hby at_3) rfl k_) ?_
  show G (s₁.setTop (mkF m 4 #[.val (.int i0), .val (.long i1), .second, .val (.long i2), .second, .val (.long i3), .second, .val (.long i4), .second, .val (.int i5), .unset, .unset, .unset, .unset, .unset, .unset, .unset, .unset, .unset, .unset, .unset, .unset, .unset, .unset, .unset, .unset, .unset] [(.int (i5 &&& (1 : Int32)))]))
  by_cases hc4_1 : (i5 &&& (1 : Int32)) = (0 : Int32)
  · skip
    refine hG _ _ (fun t_ k_ => XS.ifYes X0.here hx rfl (pc0 := 4) (pc' := 11) rfl (hb hby at_4) rfl ((if0 _ _).trans (teq hc4_1).1) (by decide) (by decide) k_) ?_
    show G (s₁.setTop (mkF m 11 #[.val (.int i0), .val (.long i1), .second, .val (.long i2), .second, .val (.long i3), .second, .val (.long i4), .second, .val (.int i5), .unset, .unset, .unset, .unset, .unset, .unset, .unset, .unset, .unset, .unset, .unset, .unset, .unset, .unset, .unset, .unset, .unset] []))
    refine hG _ _ (fun t_ k_ => XS.iconst X0.here hx rfl (hb hby at_11) k_) ?_
    show G (s₁.setTop (mkF m 12 #[.val (.int i0), .val (.long i1), .second, .val (.long i2), .second, .val (.long i3), .second, .val (.long i4), .second, .val (.int i5), .unset, .unset, .unset, .unset, .unset, .unset, .unset, .unset, .unset, .unset, .unset, .unset, .unset, .unset, .unset, .unset, .unset] [(.int (0 : Int32))]))
    refine hG _ _ (fun t_ k_ => XS.istore X0.here hx rfl (hb hby at_12) rfl (l' := #[.val (.int i0), .val (.long i1), .second, .val (.long i2), .second, .val (.long i3), .second, .val (.long i4), .second, .val (.int i5), .val (.int (0 : Int32)), .unset, .unset, .unset, .unset, .unset, .unset, .unset, .unset, .unset, .unset, .unset, .unset, .unset, .unset, .unset, .unset]) rfl k_) ?_
    show G (s₁.setTop (mkF m 14 #[.val (.int i0), .val (.long i1), .second, .val (.long i2), .second, .val (.long i3), .second, .val (.long i4), .second, .val (.int i5), .val (.int (0 : Int32)), .unset, .unset, .unset, .unset, .unset, .unset, .unset, .unset, .unset, .unset, .unset, .unset, .unset, .unset, .unset, .unset] []))
    refine hG _ _ (fun t_ k_ => XS.iload X0.here hx rfl (hb hby at_14) rfl k_) ?_
    show G (s₁.setTop (mkF m 16 #[.val (.int i0), .val (.long i1), .second, .val (.long i2), .second, .val (.long i3), .second, .val (.long i4), .second, .val (.int i5), .val (.int (0 : Int32)), .unset, .unset, .unset, .unset, .unset, .unset, .unset, .unset, .unset, .unset, .unset, .unset, .unset, .unset, .unset, .unset] [(.int (0 : Int32))]))
    refine hG _ _ (fun t_ k_ => XS.ifYes X0.here hx rfl (pc0 := 16) (pc' := 23) rfl (hb hby at_16) rfl ((if0 _ _).trans (teq (by decide)).1) (by decide) (by decide) k_) ?_
    show G (s₁.setTop (mkF m 23 #[.val (.int i0), .val (.long i1), .second, .val (.long i2), .second, .val (.long i3), .second, .val (.long i4), .second, .val (.int i5), .val (.int (0 : Int32)), .unset, .unset, .unset, .unset, .unset, .unset, .unset, .unset, .unset, .unset, .unset, .unset, .unset, .unset, .unset, .unset] []))
    refine hG _ _ (fun t_ k_ => XS.iloadN X0.here hx rfl (hb hby at_23) rfl k_) ?_
    show G (s₁.setTop (mkF m 24 #[.val (.int i0), .val (.long i1), .second, .val (.long i2), .second, .val (.long i3), .second, .val (.long i4), .second, .val (.int i5), .val (.int (0 : Int32)), .unset, .unset, .unset, .unset, .unset, .unset, .unset, .unset, .unset, .unset, .unset, .unset, .unset, .unset, .unset, .unset] [(.int i0)]))
    refine hG _ _ (X0.ldcInt hx hown (mvT hZ (hw _ (List.mem_of_getElem? (i := 0) rfl))) (g := (mkF m 24 #[.val (.int i0), .val (.long i1), .second, .val (.long i2), .second, .val (.long i3), .second, .val (.long i4), .second, .val (.int i5), .val (.int (0 : Int32)), .unset, .unset, .unset, .unset, .unset, .unset, .unset, .unset, .unset, .unset, .unset, .unset, .unset, .unset, .unset, .unset] [(.int i0)])) rfl (hb hby at_24)) ?_
    show G (s₁.setTop (mkF m 26 #[.val (.int i0), .val (.long i1), .second, .val (.long i2), .second, .val (.long i3), .second, .val (.long i4), .second, .val (.int i5), .val (.int (0 : Int32)), .unset, .unset, .unset, .unset, .unset, .unset, .unset, .unset, .unset, .unset, .unset, .unset, .unset, .unset, .unset, .unset] [(.int (65535 : Int32)), (.int i0)]))
    refine hG _ _ (fun t_ k_ => XS.iand X0.here hx rfl (hb hby at_26) rfl k_) ?_
    show G (s₁.setTop (mkF m 27 #[.val (.int i0), .val (.long i1), .second, .val (.long i2), .second, .val (.long i3), .second, .val (.long i4), .second, .val (.int i5), .val (.int (0 : Int32)), .unset, .unset, .unset, .unset, .unset, .unset, .unset, .unset, .unset, .unset, .unset, .unset, .unset, .unset, .unset, .unset] [(.int (i0 &&& (65535 : Int32)))]))
    refine hG _ _ (fun t_ k_ => XS.i2dS X0.here hx rfl (hb hby at_27) rfl rfl k_) ?_
    show G (s₁.setTop (mkF m 28 #[.val (.int i0), .val (.long i1), .second, .val (.long i2), .second, .val (.long i3), .second, .val (.long i4), .second, .val (.int i5), .val (.int (0 : Int32)), .unset, .unset, .unset, .unset, .unset, .unset, .unset, .unset, .unset, .unset, .unset, .unset, .unset, .unset, .unset, .unset] [(.double (FP.i2d (i0 &&& (65535 : Int32))))]))
    refine hG _ _ (fun t_ k_ => XS.dstore X0.here hx rfl (hb hby at_28) rfl (l' := #[.val (.int i0), .val (.long i1), .second, .val (.long i2), .second, .val (.long i3), .second, .val (.long i4), .second, .val (.int i5), .val (.int (0 : Int32)), .val (.double (FP.i2d (i0 &&& (65535 : Int32)))), .second, .unset, .unset, .unset, .unset, .unset, .unset, .unset, .unset, .unset, .unset, .unset, .unset, .unset, .unset]) rfl k_) ?_
    show G (s₁.setTop (mkF m 30 #[.val (.int i0), .val (.long i1), .second, .val (.long i2), .second, .val (.long i3), .second, .val (.long i4), .second, .val (.int i5), .val (.int (0 : Int32)), .val (.double (FP.i2d (i0 &&& (65535 : Int32)))), .second, .unset, .unset, .unset, .unset, .unset, .unset, .unset, .unset, .unset, .unset, .unset, .unset, .unset, .unset] []))
    refine hG _ _ (fun t_ k_ => XS.iload X0.here hx rfl (hb hby at_30) rfl k_) ?_
    show G (s₁.setTop (mkF m 32 #[.val (.int i0), .val (.long i1), .second, .val (.long i2), .second, .val (.long i3), .second, .val (.long i4), .second, .val (.int i5), .val (.int (0 : Int32)), .val (.double (FP.i2d (i0 &&& (65535 : Int32)))), .second, .unset, .unset, .unset, .unset, .unset, .unset, .unset, .unset, .unset, .unset, .unset, .unset, .unset, .unset] [(.int (0 : Int32))]))
    refine hG _ _ (fun t_ k_ => XS.ifYes X0.here hx rfl (pc0 := 32) (pc' := 41) rfl (hb hby at_32) rfl ((if0 _ _).trans (teq (by decide)).1) (by decide) (by decide) k_) ?_
    show G (s₁.setTop (mkF m 41 #[.val (.int i0), .val (.long i1), .second, .val (.long i2), .second, .val (.long i3), .second, .val (.long i4), .second, .val (.int i5), .val (.int (0 : Int32)), .val (.double (FP.i2d (i0 &&& (65535 : Int32)))), .second, .unset, .unset, .unset, .unset, .unset, .unset, .unset, .unset, .unset, .unset, .unset, .unset, .unset, .unset] []))
    refine hG _ _ (fun t_ k_ => XS.lloadN X0.here hx rfl (hb hby at_41) rfl k_) ?_
    show G (s₁.setTop (mkF m 42 #[.val (.int i0), .val (.long i1), .second, .val (.long i2), .second, .val (.long i3), .second, .val (.long i4), .second, .val (.int i5), .val (.int (0 : Int32)), .val (.double (FP.i2d (i0 &&& (65535 : Int32)))), .second, .unset, .unset, .unset, .unset, .unset, .unset, .unset, .unset, .unset, .unset, .unset, .unset, .unset, .unset] [(.long i1)]))
    refine hG _ _ (fun t_ k_ => XS.lstore X0.here hx rfl (hb hby at_42) rfl (l' := #[.val (.int i0), .val (.long i1), .second, .val (.long i2), .second, .val (.long i3), .second, .val (.long i4), .second, .val (.int i5), .val (.int (0 : Int32)), .val (.double (FP.i2d (i0 &&& (65535 : Int32)))), .second, .val (.long i1), .second, .unset, .unset, .unset, .unset, .unset, .unset, .unset, .unset, .unset, .unset, .unset, .unset]) rfl k_) ?_
    show G (s₁.setTop (mkF m 44 #[.val (.int i0), .val (.long i1), .second, .val (.long i2), .second, .val (.long i3), .second, .val (.long i4), .second, .val (.int i5), .val (.int (0 : Int32)), .val (.double (FP.i2d (i0 &&& (65535 : Int32)))), .second, .val (.long i1), .second, .unset, .unset, .unset, .unset, .unset, .unset, .unset, .unset, .unset, .unset, .unset, .unset] []))
    refine hG _ _ (fun t_ k_ => XS.iload X0.here hx rfl (hb hby at_44) rfl k_) ?_
    show G (s₁.setTop (mkF m 46 #[.val (.int i0), .val (.long i1), .second, .val (.long i2), .second, .val (.long i3), .second, .val (.long i4), .second, .val (.int i5), .val (.int (0 : Int32)), .val (.double (FP.i2d (i0 &&& (65535 : Int32)))), .second, .val (.long i1), .second, .unset, .unset, .unset, .unset, .unset, .unset, .unset, .unset, .unset, .unset, .unset, .unset] [(.int (0 : Int32))]))
    refine hG _ _ (fun t_ k_ => XS.ifYes X0.here hx rfl (pc0 := 46) (pc' := 53) rfl (hb hby at_46) rfl ((if0 _ _).trans (teq (by decide)).1) (by decide) (by decide) k_) ?_
    show G (s₁.setTop (mkF m 53 #[.val (.int i0), .val (.long i1), .second, .val (.long i2), .second, .val (.long i3), .second, .val (.long i4), .second, .val (.int i5), .val (.int (0 : Int32)), .val (.double (FP.i2d (i0 &&& (65535 : Int32)))), .second, .val (.long i1), .second, .unset, .unset, .unset, .unset, .unset, .unset, .unset, .unset, .unset, .unset, .unset, .unset] []))
    refine hG _ _ (fun t_ k_ => XS.lloadN X0.here hx rfl (hb hby at_53) rfl k_) ?_
    show G (s₁.setTop (mkF m 54 #[.val (.int i0), .val (.long i1), .second, .val (.long i2), .second, .val (.long i3), .second, .val (.long i4), .second, .val (.int i5), .val (.int (0 : Int32)), .val (.double (FP.i2d (i0 &&& (65535 : Int32)))), .second, .val (.long i1), .second, .unset, .unset, .unset, .unset, .unset, .unset, .unset, .unset, .unset, .unset, .unset, .unset] [(.long i2)]))
    refine hG _ _ (fun t_ k_ => XS.lstore X0.here hx rfl (hb hby at_54) rfl (l' := #[.val (.int i0), .val (.long i1), .second, .val (.long i2), .second, .val (.long i3), .second, .val (.long i4), .second, .val (.int i5), .val (.int (0 : Int32)), .val (.double (FP.i2d (i0 &&& (65535 : Int32)))), .second, .val (.long i1), .second, .val (.long i2), .second, .unset, .unset, .unset, .unset, .unset, .unset, .unset, .unset, .unset, .unset]) rfl k_) ?_
    show G (s₁.setTop (mkF m 56 #[.val (.int i0), .val (.long i1), .second, .val (.long i2), .second, .val (.long i3), .second, .val (.long i4), .second, .val (.int i5), .val (.int (0 : Int32)), .val (.double (FP.i2d (i0 &&& (65535 : Int32)))), .second, .val (.long i1), .second, .val (.long i2), .second, .unset, .unset, .unset, .unset, .unset, .unset, .unset, .unset, .unset, .unset] []))
    refine hG _ _ (fun t_ k_ => XS.iload X0.here hx rfl (hb hby at_56) rfl k_) ?_
    show G (s₁.setTop (mkF m 58 #[.val (.int i0), .val (.long i1), .second, .val (.long i2), .second, .val (.long i3), .second, .val (.long i4), .second, .val (.int i5), .val (.int (0 : Int32)), .val (.double (FP.i2d (i0 &&& (65535 : Int32)))), .second, .val (.long i1), .second, .val (.long i2), .second, .unset, .unset, .unset, .unset, .unset, .unset, .unset, .unset, .unset, .unset] [(.int (0 : Int32))]))
    refine hG _ _ (fun t_ k_ => XS.ifYes X0.here hx rfl (pc0 := 58) (pc' := 67) rfl (hb hby at_58) rfl ((if0 _ _).trans (teq (by decide)).1) (by decide) (by decide) k_) ?_
    show G (s₁.setTop (mkF m 67 #[.val (.int i0), .val (.long i1), .second, .val (.long i2), .second, .val (.long i3), .second, .val (.long i4), .second, .val (.int i5), .val (.int (0 : Int32)), .val (.double (FP.i2d (i0 &&& (65535 : Int32)))), .second, .val (.long i1), .second, .val (.long i2), .second, .unset, .unset, .unset, .unset, .unset, .unset, .unset, .unset, .unset, .unset] []))
    refine hG _ _ (fun t_ k_ => XS.lload X0.here hx rfl (hb hby at_67) rfl k_) ?_
    show G (s₁.setTop (mkF m 69 #[.val (.int i0), .val (.long i1), .second, .val (.long i2), .second, .val (.long i3), .second, .val (.long i4), .second, .val (.int i5), .val (.int (0 : Int32)), .val (.double (FP.i2d (i0 &&& (65535 : Int32)))), .second, .val (.long i1), .second, .val (.long i2), .second, .unset, .unset, .unset, .unset, .unset, .unset, .unset, .unset, .unset, .unset] [(.long i3)]))
    refine hG _ _ (fun t_ k_ => XS.lstore X0.here hx rfl (hb hby at_69) rfl (l' := #[.val (.int i0), .val (.long i1), .second, .val (.long i2), .second, .val (.long i3), .second, .val (.long i4), .second, .val (.int i5), .val (.int (0 : Int32)), .val (.double (FP.i2d (i0 &&& (65535 : Int32)))), .second, .val (.long i1), .second, .val (.long i2), .second, .val (.long i3), .second, .unset, .unset, .unset, .unset, .unset, .unset, .unset, .unset]) rfl k_) ?_
    show G (s₁.setTop (mkF m 71 #[.val (.int i0), .val (.long i1), .second, .val (.long i2), .second, .val (.long i3), .second, .val (.long i4), .second, .val (.int i5), .val (.int (0 : Int32)), .val (.double (FP.i2d (i0 &&& (65535 : Int32)))), .second, .val (.long i1), .second, .val (.long i2), .second, .val (.long i3), .second, .unset, .unset, .unset, .unset, .unset, .unset, .unset, .unset] []))
    refine hG _ _ (fun t_ k_ => XS.iload X0.here hx rfl (hb hby at_71) rfl k_) ?_
    show G (s₁.setTop (mkF m 73 #[.val (.int i0), .val (.long i1), .second, .val (.long i2), .second, .val (.long i3), .second, .val (.long i4), .second, .val (.int i5), .val (.int (0 : Int32)), .val (.double (FP.i2d (i0 &&& (65535 : Int32)))), .second, .val (.long i1), .second, .val (.long i2), .second, .val (.long i3), .second, .unset, .unset, .unset, .unset, .unset, .unset, .unset, .unset] [(.int (0 : Int32))]))
    refine hG _ _ (fun t_ k_ => XS.ifYes X0.here hx rfl (pc0 := 73) (pc' := 82) rfl (hb hby at_73) rfl ((if0 _ _).trans (teq (by decide)).1) (by decide) (by decide) k_) ?_
    show G (s₁.setTop (mkF m 82 #[.val (.int i0), .val (.long i1), .second, .val (.long i2), .second, .val (.long i3), .second, .val (.long i4), .second, .val (.int i5), .val (.int (0 : Int32)), .val (.double (FP.i2d (i0 &&& (65535 : Int32)))), .second, .val (.long i1), .second, .val (.long i2), .second, .val (.long i3), .second, .unset, .unset, .unset, .unset, .unset, .unset, .unset, .unset] []))
    refine hG _ _ (fun t_ k_ => XS.lload X0.here hx rfl (hb hby at_82) rfl k_) ?_
    show G (s₁.setTop (mkF m 84 #[.val (.int i0), .val (.long i1), .second, .val (.long i2), .second, .val (.long i3), .second, .val (.long i4), .second, .val (.int i5), .val (.int (0 : Int32)), .val (.double (FP.i2d (i0 &&& (65535 : Int32)))), .second, .val (.long i1), .second, .val (.long i2), .second, .val (.long i3), .second, .unset, .unset, .unset, .unset, .unset, .unset, .unset, .unset] [(.long i4)]))
    refine hG _ _ (fun t_ k_ => XS.lstore X0.here hx rfl (hb hby at_84) rfl (l' := #[.val (.int i0), .val (.long i1), .second, .val (.long i2), .second, .val (.long i3), .second, .val (.long i4), .second, .val (.int i5), .val (.int (0 : Int32)), .val (.double (FP.i2d (i0 &&& (65535 : Int32)))), .second, .val (.long i1), .second, .val (.long i2), .second, .val (.long i3), .second, .val (.long i4), .second, .unset, .unset, .unset, .unset, .unset, .unset]) rfl k_) ?_
    show G (s₁.setTop (mkF m 86 #[.val (.int i0), .val (.long i1), .second, .val (.long i2), .second, .val (.long i3), .second, .val (.long i4), .second, .val (.int i5), .val (.int (0 : Int32)), .val (.double (FP.i2d (i0 &&& (65535 : Int32)))), .second, .val (.long i1), .second, .val (.long i2), .second, .val (.long i3), .second, .val (.long i4), .second, .unset, .unset, .unset, .unset, .unset, .unset] []))
    obtain ⟨T2, h2, X2, e2, E2, A2, D2, -, st2⟩ := newO X0 hx hZ hown (hw _ (List.mem_of_getElem? (i := 1) rfl)) (hw _ (List.mem_of_getElem? (i := 2) rfl)) (hw _ (List.mem_of_getElem? (i := 3) rfl)) e0 (g := (mkF m 86 #[.val (.int i0), .val (.long i1), .second, .val (.long i2), .second, .val (.long i3), .second, .val (.long i4), .second, .val (.int i5), .val (.int (0 : Int32)), .val (.double (FP.i2d (i0 &&& (65535 : Int32)))), .second, .val (.long i1), .second, .val (.long i2), .second, .val (.long i3), .second, .val (.long i4), .second, .unset, .unset, .unset, .unset, .unset, .unset] [])) rfl (hb hby at_86) (by decide) (by decide)
    obtain ⟨b2, z2⟩ : ∃ z, z = h0.size := ⟨_, rfl⟩
    rw [← z2] at A2 D2 st2
    refine hG _ _ st2 ?_
    have K2 : Keep h0 h2 [] := (Keep.refl h0 []).ext E2
    have O2 : own_Old Z h2 := O0.ext E2
    show G (T2.setTop (mkF m 89 #[.val (.int i0), .val (.long i1), .second, .val (.long i2), .second, .val (.long i3), .second, .val (.long i4), .second, .val (.int i5), .val (.int (0 : Int32)), .val (.double (FP.i2d (i0 &&& (65535 : Int32)))), .second, .val (.long i1), .second, .val (.long i2), .second, .val (.long i3), .second, .val (.long i4), .second, .unset, .unset, .unset, .unset, .unset, .unset] [(.ref b2)]))
    refine hG _ _ (fun t_ k_ => XS.dup X2.here hx rfl (hb hby at_89) rfl rfl k_) ?_
    show G (T2.setTop (mkF m 90 #[.val (.int i0), .val (.long i1), .second, .val (.long i2), .second, .val (.long i3), .second, .val (.long i4), .second, .val (.int i5), .val (.int (0 : Int32)), .val (.double (FP.i2d (i0 &&& (65535 : Int32)))), .second, .val (.long i1), .second, .val (.long i2), .second, .val (.long i3), .second, .val (.long i4), .second, .unset, .unset, .unset, .unset, .unset, .unset] [(.ref b2), (.ref b2)]))
    refine own_callI X2 hx hZ hG hown rfl (hw _ (List.mem_of_getElem? (i := 4) rfl)) (hw _ (List.mem_of_getElem? (i := 5) rfl)) (hw _ (List.mem_of_getElem? (i := 3) rfl)) (hw _ (List.mem_of_getElem? (i := 6) rfl)) (by decide) 1 (own_anew l Z a0 hw b2 dflt (.int (0 : Int32)) .null (.int (0 : Int32)) h2 O2 A2 (own_ge O0 (Nat.le_of_eq z2.symm)) g2_S (D2 (Or.inl (hw _ (List.mem_of_getElem? (i := 23) rfl))) (ty := .int) (by decide)) (D2 (Or.inl (hw _ (List.mem_of_getElem? (i := 26) rfl))) (ty := (.array (.object "java/lang/Object"))) (by decide)) (D2 (Or.inl (hw _ (List.mem_of_getElem? (i := 44) rfl))) (ty := .int) (by decide))) (by decide) (by decide) e2 (by rw [hml]; rfl) (lenOf own_pd4 rfl) (argsL := []) (rest := [(.ref b2)]) rfl rfl (Nat.le_of_eq rfl) (hb hby at_90) (by decide) (by decide) ?_
    intro T3 h3 v3 L3 X3 e3 q3
    obtain ⟨rfl, M3, J3, r3_0, r3_1, r3_2, r3_3⟩ := q3
    have N3 := Fr.app N0 M3
    have K3 : Keep h0 h3 [] := K2.trans J3 (allS (Or.inr (Nat.le_trans (Keep.refl h0 []).1 (Nat.le_of_eq z2.symm))) all0)
    have O3 : own_Old Z h3 := O2.keep J3 (allS (own_ge O0 (Nat.le_of_eq z2.symm)) all0)
    show G (T3.setTop (mkF m 93 #[.val (.int i0), .val (.long i1), .second, .val (.long i2), .second, .val (.long i3), .second, .val (.long i4), .second, .val (.int i5), .val (.int (0 : Int32)), .val (.double (FP.i2d (i0 &&& (65535 : Int32)))), .second, .val (.long i1), .second, .val (.long i2), .second, .val (.long i3), .second, .val (.long i4), .second, .unset, .unset, .unset, .unset, .unset, .unset] [(.ref b2)]))
    refine hG _ _ (fun t_ k_ => XS.astore X3.here hx rfl (hb hby at_93) rfl rfl (l' := #[.val (.int i0), .val (.long i1), .second, .val (.long i2), .second, .val (.long i3), .second, .val (.long i4), .second, .val (.int i5), .val (.int (0 : Int32)), .val (.double (FP.i2d (i0 &&& (65535 : Int32)))), .second, .val (.long i1), .second, .val (.long i2), .second, .val (.long i3), .second, .val (.long i4), .second, .val (.ref b2), .unset, .unset, .unset, .unset, .unset]) rfl k_) ?_
    show G (T3.setTop (mkF m 95 #[.val (.int i0), .val (.long i1), .second, .val (.long i2), .second, .val (.long i3), .second, .val (.long i4), .second, .val (.int i5), .val (.int (0 : Int32)), .val (.double (FP.i2d (i0 &&& (65535 : Int32)))), .second, .val (.long i1), .second, .val (.long i2), .second, .val (.long i3), .second, .val (.long i4), .second, .val (.ref b2), .unset, .unset, .unset, .unset, .unset] []))
    refine hG _ _ (fun t_ k_ => XS.iload X3.here hx rfl (hb hby at_95) rfl k_) ?_
    show G (T3.setTop (mkF m 97 #[.val (.int i0), .val (.long i1), .second, .val (.long i2), .second, .val (.long i3), .second, .val (.long i4), .second, .val (.int i5), .val (.int (0 : Int32)), .val (.double (FP.i2d (i0 &&& (65535 : Int32)))), .second, .val (.long i1), .second, .val (.long i2), .second, .val (.long i3), .second, .val (.long i4), .second, .val (.ref b2), .unset, .unset, .unset, .unset, .unset] [(.int (0 : Int32))]))
    refine hG _ _ (fun t_ k_ => XS.ifNo X3.here hx rfl (hb hby at_97) rfl ((if0 _ _).trans (teq (by decide)).2) k_) ?_
    show G (T3.setTop (mkF m 100 #[.val (.int i0), .val (.long i1), .second, .val (.long i2), .second, .val (.long i3), .second, .val (.long i4), .second, .val (.int i5), .val (.int (0 : Int32)), .val (.double (FP.i2d (i0 &&& (65535 : Int32)))), .second, .val (.long i1), .second, .val (.long i2), .second, .val (.long i3), .second, .val (.long i4), .second, .val (.ref b2), .unset, .unset, .unset, .unset, .unset] []))
    refine hG _ _ (fun t_ k_ => XS.iload X3.here hx rfl (hb hby at_100) rfl k_) ?_
    show G (T3.setTop (mkF m 102 #[.val (.int i0), .val (.long i1), .second, .val (.long i2), .second, .val (.long i3), .second, .val (.long i4), .second, .val (.int i5), .val (.int (0 : Int32)), .val (.double (FP.i2d (i0 &&& (65535 : Int32)))), .second, .val (.long i1), .second, .val (.long i2), .second, .val (.long i3), .second, .val (.long i4), .second, .val (.ref b2), .unset, .unset, .unset, .unset, .unset] [(.int i5)]))
    refine hG _ _ (fun t_ k_ => XS.iconst X3.here hx rfl (hb hby at_102) k_) ?_
    show G (T3.setTop (mkF m 103 #[.val (.int i0), .val (.long i1), .second, .val (.long i2), .second, .val (.long i3), .second, .val (.long i4), .second, .val (.int i5), .val (.int (0 : Int32)), .val (.double (FP.i2d (i0 &&& (65535 : Int32)))), .second, .val (.long i1), .second, .val (.long i2), .second, .val (.long i3), .second, .val (.long i4), .second, .val (.ref b2), .unset, .unset, .unset, .unset, .unset] [(.int (2 : Int32)), (.int i5)]))
    refine hG _ _ (fun t_ k_ => XS.iand X3.here hx rfl (hb hby at_103) rfl k_) ?_
    show G (T3.setTop (mkF m 104 #[.val (.int i0), .val (.long i1), .second, .val (.long i2), .second, .val (.long i3), .second, .val (.long i4), .second, .val (.int i5), .val (.int (0 : Int32)), .val (.double (FP.i2d (i0 &&& (65535 : Int32)))), .second, .val (.long i1), .second, .val (.long i2), .second, .val (.long i3), .second, .val (.long i4), .second, .val (.ref b2), .unset, .unset, .unset, .unset, .unset] [(.int (i5 &&& (2 : Int32)))]))
    by_cases hc104_4 : (i5 &&& (2 : Int32)) = (0 : Int32)
    · skip
      refine hG _ _ (fun t_ k_ => XS.ifYes X3.here hx rfl (pc0 := 104) (pc' := 125) rfl (hb hby at_104) rfl ((if0 _ _).trans (teq hc104_4).1) (by decide) (by decide) k_) ?_
      show G (T3.setTop (mkF m 125 #[.val (.int i0), .val (.long i1), .second, .val (.long i2), .second, .val (.long i3), .second, .val (.long i4), .second, .val (.int i5), .val (.int (0 : Int32)), .val (.double (FP.i2d (i0 &&& (65535 : Int32)))), .second, .val (.long i1), .second, .val (.long i2), .second, .val (.long i3), .second, .val (.long i4), .second, .val (.ref b2), .unset, .unset, .unset, .unset, .unset] []))
      obtain ⟨T5, h5, X5, e5, E5, A5, D5, -, st5⟩ := newO X3 hx hZ hown (hw _ (List.mem_of_getElem? (i := 27) rfl)) (hw _ (List.mem_of_getElem? (i := 28) rfl)) (hw _ (List.mem_of_getElem? (i := 29) rfl)) e3 (g := (mkF m 125 #[.val (.int i0), .val (.long i1), .second, .val (.long i2), .second, .val (.long i3), .second, .val (.long i4), .second, .val (.int i5), .val (.int (0 : Int32)), .val (.double (FP.i2d (i0 &&& (65535 : Int32)))), .second, .val (.long i1), .second, .val (.long i2), .second, .val (.long i3), .second, .val (.long i4), .second, .val (.ref b2), .unset, .unset, .unset, .unset, .unset] [])) rfl (hb hby at_125) (by decide) (by decide)
      obtain ⟨b5, z5⟩ : ∃ z, z = h3.size := ⟨_, rfl⟩
      rw [← z5] at A5 D5 st5
      refine hG _ _ st5 ?_
      have K5 : Keep h0 h5 [] := K3.ext E5
      have O5 : own_Old Z h5 := O3.ext E5
      show G (T5.setTop (mkF m 128 #[.val (.int i0), .val (.long i1), .second, .val (.long i2), .second, .val (.long i3), .second, .val (.long i4), .second, .val (.int i5), .val (.int (0 : Int32)), .val (.double (FP.i2d (i0 &&& (65535 : Int32)))), .second, .val (.long i1), .second, .val (.long i2), .second, .val (.long i3), .second, .val (.long i4), .second, .val (.ref b2), .unset, .unset, .unset, .unset, .unset] [(.ref b5)]))
      refine hG _ _ (fun t_ k_ => XS.dup X5.here hx rfl (hb hby at_128) rfl rfl k_) ?_
      show G (T5.setTop (mkF m 129 #[.val (.int i0), .val (.long i1), .second, .val (.long i2), .second, .val (.long i3), .second, .val (.long i4), .second, .val (.int i5), .val (.int (0 : Int32)), .val (.double (FP.i2d (i0 &&& (65535 : Int32)))), .second, .val (.long i1), .second, .val (.long i2), .second, .val (.long i3), .second, .val (.long i4), .second, .val (.ref b2), .unset, .unset, .unset, .unset, .unset] [(.ref b5), (.ref b5)]))
      refine hG _ _ (fun t_ k_ => XS.dload X5.here hx rfl (hb hby at_129) rfl k_) ?_
      show G (T5.setTop (mkF m 131 #[.val (.int i0), .val (.long i1), .second, .val (.long i2), .second, .val (.long i3), .second, .val (.long i4), .second, .val (.int i5), .val (.int (0 : Int32)), .val (.double (FP.i2d (i0 &&& (65535 : Int32)))), .second, .val (.long i1), .second, .val (.long i2), .second, .val (.long i3), .second, .val (.long i4), .second, .val (.ref b2), .unset, .unset, .unset, .unset, .unset] [(.double (FP.i2d (i0 &&& (65535 : Int32)))), (.ref b5), (.ref b5)]))
      refine hG _ _ (fun t_ k_ => XS.lload X5.here hx rfl (hb hby at_131) rfl k_) ?_
      show G (T5.setTop (mkF m 133 #[.val (.int i0), .val (.long i1), .second, .val (.long i2), .second, .val (.long i3), .second, .val (.long i4), .second, .val (.int i5), .val (.int (0 : Int32)), .val (.double (FP.i2d (i0 &&& (65535 : Int32)))), .second, .val (.long i1), .second, .val (.long i2), .second, .val (.long i3), .second, .val (.long i4), .second, .val (.ref b2), .unset, .unset, .unset, .unset, .unset] [(.long i1), (.double (FP.i2d (i0 &&& (65535 : Int32)))), (.ref b5), (.ref b5)]))
      refine hG _ _ (fun t_ k_ => XS.lload X5.here hx rfl (hb hby at_133) rfl k_) ?_
      show G (T5.setTop (mkF m 135 #[.val (.int i0), .val (.long i1), .second, .val (.long i2), .second, .val (.long i3), .second, .val (.long i4), .second, .val (.int i5), .val (.int (0 : Int32)), .val (.double (FP.i2d (i0 &&& (65535 : Int32)))), .second, .val (.long i1), .second, .val (.long i2), .second, .val (.long i3), .second, .val (.long i4), .second, .val (.ref b2), .unset, .unset, .unset, .unset, .unset] [(.long i2), (.long i1), (.double (FP.i2d (i0 &&& (65535 : Int32)))), (.ref b5), (.ref b5)]))
      refine hG _ _ (fun t_ k_ => XS.lload X5.here hx rfl (hb hby at_135) rfl k_) ?_
      show G (T5.setTop (mkF m 137 #[.val (.int i0), .val (.long i1), .second, .val (.long i2), .second, .val (.long i3), .second, .val (.long i4), .second, .val (.int i5), .val (.int (0 : Int32)), .val (.double (FP.i2d (i0 &&& (65535 : Int32)))), .second, .val (.long i1), .second, .val (.long i2), .second, .val (.long i3), .second, .val (.long i4), .second, .val (.ref b2), .unset, .unset, .unset, .unset, .unset] [(.long i3), (.long i2), (.long i1), (.double (FP.i2d (i0 &&& (65535 : Int32)))), (.ref b5), (.ref b5)]))
      refine hG _ _ (fun t_ k_ => XS.lload X5.here hx rfl (hb hby at_137) rfl k_) ?_
      show G (T5.setTop (mkF m 139 #[.val (.int i0), .val (.long i1), .second, .val (.long i2), .second, .val (.long i3), .second, .val (.long i4), .second, .val (.int i5), .val (.int (0 : Int32)), .val (.double (FP.i2d (i0 &&& (65535 : Int32)))), .second, .val (.long i1), .second, .val (.long i2), .second, .val (.long i3), .second, .val (.long i4), .second, .val (.ref b2), .unset, .unset, .unset, .unset, .unset] [(.long i4), (.long i3), (.long i2), (.long i1), (.double (FP.i2d (i0 &&& (65535 : Int32)))), (.ref b5), (.ref b5)]))
      refine hG _ _ (fun t_ k_ => XS.aload X5.here hx rfl (hb hby at_139) rfl rfl k_) ?_
      show G (T5.setTop (mkF m 141 #[.val (.int i0), .val (.long i1), .second, .val (.long i2), .second, .val (.long i3), .second, .val (.long i4), .second, .val (.int i5), .val (.int (0 : Int32)), .val (.double (FP.i2d (i0 &&& (65535 : Int32)))), .second, .val (.long i1), .second, .val (.long i2), .second, .val (.long i3), .second, .val (.long i4), .second, .val (.ref b2), .unset, .unset, .unset, .unset, .unset] [(.ref b2), (.long i4), (.long i3), (.long i2), (.long i1), (.double (FP.i2d (i0 &&& (65535 : Int32)))), (.ref b5), (.ref b5)]))
      have f7 := (r3_0.ext E5)
      have f8 := (r3_3.ext E5)
      refine own_callI X5 hx hZ hG hown rfl (hw _ (List.mem_of_getElem? (i := 30) rfl)) (hw _ (List.mem_of_getElem? (i := 31) rfl)) (hw _ (List.mem_of_getElem? (i := 29) rfl)) (hw _ (List.mem_of_getElem? (i := 32) rfl)) (by decide) 1 (own_dinit l Z a0 hw b5 (FP.i2d (i0 &&& (65535 : Int32))) i1 i2 i3 i4 b2 (0 : Int32) (.int (0 : Int32)) (.double 0) (.long (0 : Int64)) (.long (0 : Int64)) (.long (0 : Int64)) (.long (0 : Int64)) .null h5 O5 A5 (own_ge O3 (Nat.le_of_eq z5.symm)) f7 f8 (own_ne r3_0.lt (Nat.le_of_eq z5.symm)) (D5 (Or.inr (hw _ (List.mem_of_getElem? (i := 46) rfl))) (ty := .boolean) (by decide)) (D5 (Or.inr (hw _ (List.mem_of_getElem? (i := 48) rfl))) (ty := .double) (by decide)) (D5 (Or.inr (hw _ (List.mem_of_getElem? (i := 50) rfl))) (ty := .long) (by decide)) (D5 (Or.inr (hw _ (List.mem_of_getElem? (i := 52) rfl))) (ty := .long) (by decide)) (D5 (Or.inr (hw _ (List.mem_of_getElem? (i := 54) rfl))) (ty := .long) (by decide)) (D5 (Or.inr (hw _ (List.mem_of_getElem? (i := 56) rfl))) (ty := .long) (by decide)) (D5 (Or.inr (hw _ (List.mem_of_getElem? (i := 58) rfl))) (ty := (.object "java/util/List")) (by decide))) (by decide) (by decide) e5 (by rw [hml]; rfl) (lenOf own_pd11 rfl) (argsL := [(.double (FP.i2d (i0 &&& (65535 : Int32)))), (.long i1), (.long i2), (.long i3), (.long i4), (.ref b2)]) (rest := [(.ref b5)]) rfl rfl (Nat.le_of_eq rfl) (hb hby at_141) (by decide) (by decide) ?_
      intro T6 h6 v6 L6 X6 e6 q6
      obtain ⟨rfl, M6, J6, r6_0⟩ := q6
      have N6 := Fr.app N3 M6
      have K6 : Keep h0 h6 [] := K5.trans J6 (allS (Or.inr (Nat.le_trans K3.1 (Nat.le_of_eq z5.symm))) all0)
      have O6 : own_Old Z h6 := O5.keep J6 (allS (own_ge O3 (Nat.le_of_eq z5.symm)) all0)
      show G (T6.setTop (mkF m 144 #[.val (.int i0), .val (.long i1), .second, .val (.long i2), .second, .val (.long i3), .second, .val (.long i4), .second, .val (.int i5), .val (.int (0 : Int32)), .val (.double (FP.i2d (i0 &&& (65535 : Int32)))), .second, .val (.long i1), .second, .val (.long i2), .second, .val (.long i3), .second, .val (.long i4), .second, .val (.ref b2), .unset, .unset, .unset, .unset, .unset] [(.ref b5)]))
      refine hG _ _ (fun t_ k_ => XS.astore X6.here hx rfl (hb hby at_144) rfl rfl (l' := #[.val (.int i0), .val (.long i1), .second, .val (.long i2), .second, .val (.long i3), .second, .val (.long i4), .second, .val (.int i5), .val (.int (0 : Int32)), .val (.double (FP.i2d (i0 &&& (65535 : Int32)))), .second, .val (.long i1), .second, .val (.long i2), .second, .val (.long i3), .second, .val (.long i4), .second, .val (.ref b2), .val (.ref b5), .unset, .unset, .unset, .unset]) rfl k_) ?_
      show G (T6.setTop (mkF m 146 #[.val (.int i0), .val (.long i1), .second, .val (.long i2), .second, .val (.long i3), .second, .val (.long i4), .second, .val (.int i5), .val (.int (0 : Int32)), .val (.double (FP.i2d (i0 &&& (65535 : Int32)))), .second, .val (.long i1), .second, .val (.long i2), .second, .val (.long i3), .second, .val (.long i4), .second, .val (.ref b2), .val (.ref b5), .unset, .unset, .unset, .unset] []))
      refine own_callS X6 hx hZ hG hown (hw _ (List.mem_of_getElem? (i := 59) rfl)) (hw _ (List.mem_of_getElem? (i := 60) rfl)) (hw _ (List.mem_of_getElem? (i := 29) rfl)) (hw _ (List.mem_of_getElem? (i := 61) rfl)) (by decide) 0 (own_unl l Z a0 hw u h6 O6 g4_S) (by decide) (by decide) e6 (by rw [hml]; rfl) (lenOf own_pd12 rfl) (argsL := []) (rest := []) rfl rfl (Nat.le_of_eq rfl) (hb hby at_146) (by decide) (by decide) ?_
      intro T9 h9 v9 L9 X9 e9 q9
      obtain ⟨rfl, M9, rfl⟩ := q9
      have N9 := Fr.app N6 M9
      show G (T9.setTop (mkF m 149 #[.val (.int i0), .val (.long i1), .second, .val (.long i2), .second, .val (.long i3), .second, .val (.long i4), .second, .val (.int i5), .val (.int (0 : Int32)), .val (.double (FP.i2d (i0 &&& (65535 : Int32)))), .second, .val (.long i1), .second, .val (.long i2), .second, .val (.long i3), .second, .val (.long i4), .second, .val (.ref b2), .val (.ref b5), .unset, .unset, .unset, .unset] [(.ref u)]))
      refine hG _ _ (fun t_ k_ => XS.astore X9.here hx rfl (hb hby at_149) rfl rfl (l' := #[.val (.int i0), .val (.long i1), .second, .val (.long i2), .second, .val (.long i3), .second, .val (.long i4), .second, .val (.int i5), .val (.int (0 : Int32)), .val (.double (FP.i2d (i0 &&& (65535 : Int32)))), .second, .val (.long i1), .second, .val (.long i2), .second, .val (.long i3), .second, .val (.long i4), .second, .val (.ref b2), .val (.ref b5), .val (.ref u), .unset, .unset, .unset]) rfl k_) ?_
      show G (T9.setTop (mkF m 151 #[.val (.int i0), .val (.long i1), .second, .val (.long i2), .second, .val (.long i3), .second, .val (.long i4), .second, .val (.int i5), .val (.int (0 : Int32)), .val (.double (FP.i2d (i0 &&& (65535 : Int32)))), .second, .val (.long i1), .second, .val (.long i2), .second, .val (.long i3), .second, .val (.long i4), .second, .val (.ref b2), .val (.ref b5), .val (.ref u), .unset, .unset, .unset] []))
      refine hG _ _ (fun t_ k_ => XS.aload X9.here hx rfl (hb hby at_151) rfl rfl k_) ?_
      show G (T9.setTop (mkF m 153 #[.val (.int i0), .val (.long i1), .second, .val (.long i2), .second, .val (.long i3), .second, .val (.long i4), .second, .val (.int i5), .val (.int (0 : Int32)), .val (.double (FP.i2d (i0 &&& (65535 : Int32)))), .second, .val (.long i1), .second, .val (.long i2), .second, .val (.long i3), .second, .val (.long i4), .second, .val (.ref b2), .val (.ref b5), .val (.ref u), .unset, .unset, .unset] [(.ref u)]))
      have f11 := ((((g5_E.ext E2).keep J3).ext E5).keep J6)
      refine own_callV (C := "com/example/danaid/danaid/Decision") X9 hx hZ hG hown (hw _ (List.mem_of_getElem? (i := 64) rfl)) (hw _ (List.mem_of_getElem? (i := 65) rfl)) (hw _ (List.mem_of_getElem? (i := 67) rfl)) (hw _ (List.mem_of_getElem? (i := 66) rfl)) (hw _ (List.mem_of_getElem? (i := 29) rfl)) (hw _ (List.mem_of_getElem? (i := 68) rfl)) (by decide) 0 (own_isu1 l Z a0 hw u h6 O6 g4_S) (by decide) (by decide) e9 f11 (by rw [hml]; rfl) (lenOf own_pd10 rfl) (argsL := []) (rest := []) rfl rfl (Nat.le_of_eq rfl) (hb hby at_153) (by decide) (by decide) ?_
      intro T10 h10 v10 L10 X10 e10 q10
      obtain ⟨rfl, M10, rfl⟩ := q10
      have N10 := Fr.app N9 M10
      show G (T10.setTop (mkF m 156 #[.val (.int i0), .val (.long i1), .second, .val (.long i2), .second, .val (.long i3), .second, .val (.long i4), .second, .val (.int i5), .val (.int (0 : Int32)), .val (.double (FP.i2d (i0 &&& (65535 : Int32)))), .second, .val (.long i1), .second, .val (.long i2), .second, .val (.long i3), .second, .val (.long i4), .second, .val (.ref b2), .val (.ref b5), .val (.ref u), .unset, .unset, .unset] [(.int (1 : Int32))]))
      refine hG _ _ (fun t_ k_ => XS.istore X10.here hx rfl (hb hby at_156) rfl (l' := #[.val (.int i0), .val (.long i1), .second, .val (.long i2), .second, .val (.long i3), .second, .val (.long i4), .second, .val (.int i5), .val (.int (0 : Int32)), .val (.double (FP.i2d (i0 &&& (65535 : Int32)))), .second, .val (.long i1), .second, .val (.long i2), .second, .val (.long i3), .second, .val (.long i4), .second, .val (.ref b2), .val (.ref b5), .val (.ref u), .val (.int (1 : Int32)), .unset, .unset]) rfl k_) ?_
      show G (T10.setTop (mkF m 158 #[.val (.int i0), .val (.long i1), .second, .val (.long i2), .second, .val (.long i3), .second, .val (.long i4), .second, .val (.int i5), .val (.int (0 : Int32)), .val (.double (FP.i2d (i0 &&& (65535 : Int32)))), .second, .val (.long i1), .second, .val (.long i2), .second, .val (.long i3), .second, .val (.long i4), .second, .val (.ref b2), .val (.ref b5), .val (.ref u), .val (.int (1 : Int32)), .unset, .unset] []))
      refine own_callS X10 hx hZ hG hown (hw _ (List.mem_of_getElem? (i := 59) rfl)) (hw _ (List.mem_of_getElem? (i := 60) rfl)) (hw _ (List.mem_of_getElem? (i := 29) rfl)) (hw _ (List.mem_of_getElem? (i := 61) rfl)) (by decide) 0 (own_unl l Z a0 hw u h6 O6 g4_S) (by decide) (by decide) e10 (by rw [hml]; rfl) (lenOf own_pd12 rfl) (argsL := []) (rest := []) rfl rfl (Nat.le_of_eq rfl) (hb hby at_158) (by decide) (by decide) ?_
      intro T12 h12 v12 L12 X12 e12 q12
      obtain ⟨rfl, M12, rfl⟩ := q12
      have N12 := Fr.app N10 M12
      show G (T12.setTop (mkF m 161 #[.val (.int i0), .val (.long i1), .second, .val (.long i2), .second, .val (.long i3), .second, .val (.long i4), .second, .val (.int i5), .val (.int (0 : Int32)), .val (.double (FP.i2d (i0 &&& (65535 : Int32)))), .second, .val (.long i1), .second, .val (.long i2), .second, .val (.long i3), .second, .val (.long i4), .second, .val (.ref b2), .val (.ref b5), .val (.ref u), .val (.int (1 : Int32)), .unset, .unset] [(.ref u)]))
      refine own_callV (C := "com/example/danaid/danaid/Decision") X12 hx hZ hG hown (hw _ (List.mem_of_getElem? (i := 64) rfl)) (hw _ (List.mem_of_getElem? (i := 65) rfl)) (hw _ (List.mem_of_getElem? (i := 67) rfl)) (hw _ (List.mem_of_getElem? (i := 66) rfl)) (hw _ (List.mem_of_getElem? (i := 29) rfl)) (hw _ (List.mem_of_getElem? (i := 68) rfl)) (by decide) 0 (own_isu1 l Z a0 hw u h6 O6 g4_S) (by decide) (by decide) e12 f11 (by rw [hml]; rfl) (lenOf own_pd10 rfl) (argsL := []) (rest := []) rfl rfl (Nat.le_of_eq rfl) (hb hby at_161) (by decide) (by decide) ?_
      intro T13 h13 v13 L13 X13 e13 q13
      obtain ⟨rfl, M13, rfl⟩ := q13
      have N13 := Fr.app N12 M13
      show G (T13.setTop (mkF m 164 #[.val (.int i0), .val (.long i1), .second, .val (.long i2), .second, .val (.long i3), .second, .val (.long i4), .second, .val (.int i5), .val (.int (0 : Int32)), .val (.double (FP.i2d (i0 &&& (65535 : Int32)))), .second, .val (.long i1), .second, .val (.long i2), .second, .val (.long i3), .second, .val (.long i4), .second, .val (.ref b2), .val (.ref b5), .val (.ref u), .val (.int (1 : Int32)), .unset, .unset] [(.int (1 : Int32))]))
      refine hG _ _ (fun t_ k_ => XS.istore X13.here hx rfl (hb hby at_164) rfl (l' := #[.val (.int i0), .val (.long i1), .second, .val (.long i2), .second, .val (.long i3), .second, .val (.long i4), .second, .val (.int i5), .val (.int (0 : Int32)), .val (.double (FP.i2d (i0 &&& (65535 : Int32)))), .second, .val (.long i1), .second, .val (.long i2), .second, .val (.long i3), .second, .val (.long i4), .second, .val (.ref b2), .val (.ref b5), .val (.ref u), .val (.int (1 : Int32)), .val (.int (1 : Int32)), .unset]) rfl k_) ?_
      show G (T13.setTop (mkF m 166 #[.val (.int i0), .val (.long i1), .second, .val (.long i2), .second, .val (.long i3), .second, .val (.long i4), .second, .val (.int i5), .val (.int (0 : Int32)), .val (.double (FP.i2d (i0 &&& (65535 : Int32)))), .second, .val (.long i1), .second, .val (.long i2), .second, .val (.long i3), .second, .val (.long i4), .second, .val (.ref b2), .val (.ref b5), .val (.ref u), .val (.int (1 : Int32)), .val (.int (1 : Int32)), .unset] []))
      refine hG _ _ (fun t_ k_ => XS.aload X13.here hx rfl (hb hby at_166) rfl rfl k_) ?_
      show G (T13.setTop (mkF m 168 #[.val (.int i0), .val (.long i1), .second, .val (.long i2), .second, .val (.long i3), .second, .val (.long i4), .second, .val (.int i5), .val (.int (0 : Int32)), .val (.double (FP.i2d (i0 &&& (65535 : Int32)))), .second, .val (.long i1), .second, .val (.long i2), .second, .val (.long i3), .second, .val (.long i4), .second, .val (.ref b2), .val (.ref b5), .val (.ref u), .val (.int (1 : Int32)), .val (.int (1 : Int32)), .unset] [(.ref b5)]))
      refine own_callV (C := "com/example/danaid/danaid/Decision") X13 hx hZ hG hown (hw _ (List.mem_of_getElem? (i := 64) rfl)) (hw _ (List.mem_of_getElem? (i := 65) rfl)) (hw _ (List.mem_of_getElem? (i := 67) rfl)) (hw _ (List.mem_of_getElem? (i := 66) rfl)) (hw _ (List.mem_of_getElem? (i := 29) rfl)) (hw _ (List.mem_of_getElem? (i := 68) rfl)) (by decide) 0 (own_isu0 l Z a0 hw b5 u h6 O6 g4_S (Ne.symm (own_ne (Nat.lt_of_lt_of_le (Nat.lt_of_lt_of_le g5_E.lt E2.1) J3.1) (Nat.le_of_eq z5.symm)))) (by decide) (by decide) e13 r6_0 (by rw [hml]; rfl) (lenOf own_pd10 rfl) (argsL := []) (rest := []) rfl rfl (Nat.le_of_eq rfl) (hb hby at_168) (by decide) (by decide) ?_
      intro T14 h14 v14 L14 X14 e14 q14
      obtain ⟨rfl, M14, rfl⟩ := q14
      have N14 := Fr.app N13 M14
      show G (T14.setTop (mkF m 171 #[.val (.int i0), .val (.long i1), .second, .val (.long i2), .second, .val (.long i3), .second, .val (.long i4), .second, .val (.int i5), .val (.int (0 : Int32)), .val (.double (FP.i2d (i0 &&& (65535 : Int32)))), .second, .val (.long i1), .second, .val (.long i2), .second, .val (.long i3), .second, .val (.long i4), .second, .val (.ref b2), .val (.ref b5), .val (.ref u), .val (.int (1 : Int32)), .val (.int (1 : Int32)), .unset] [(.int (0 : Int32))]))
      refine hG _ _ (fun t_ k_ => XS.istore X14.here hx rfl (hb hby at_171) rfl (l' := #[.val (.int i0), .val (.long i1), .second, .val (.long i2), .second, .val (.long i3), .second, .val (.long i4), .second, .val (.int i5), .val (.int (0 : Int32)), .val (.double (FP.i2d (i0 &&& (65535 : Int32)))), .second, .val (.long i1), .second, .val (.long i2), .second, .val (.long i3), .second, .val (.long i4), .second, .val (.ref b2), .val (.ref b5), .val (.ref u), .val (.int (1 : Int32)), .val (.int (1 : Int32)), .val (.int (0 : Int32))]) rfl k_) ?_
      show G (T14.setTop (mkF m 173 #[.val (.int i0), .val (.long i1), .second, .val (.long i2), .second, .val (.long i3), .second, .val (.long i4), .second, .val (.int i5), .val (.int (0 : Int32)), .val (.double (FP.i2d (i0 &&& (65535 : Int32)))), .second, .val (.long i1), .second, .val (.long i2), .second, .val (.long i3), .second, .val (.long i4), .second, .val (.ref b2), .val (.ref b5), .val (.ref u), .val (.int (1 : Int32)), .val (.int (1 : Int32)), .val (.int (0 : Int32))] []))
      refine hG _ _ (fun t_ k_ => XS.iload X14.here hx rfl (hb hby at_173) rfl k_) ?_
      show G (T14.setTop (mkF m 175 #[.val (.int i0), .val (.long i1), .second, .val (.long i2), .second, .val (.long i3), .second, .val (.long i4), .second, .val (.int i5), .val (.int (0 : Int32)), .val (.double (FP.i2d (i0 &&& (65535 : Int32)))), .second, .val (.long i1), .second, .val (.long i2), .second, .val (.long i3), .second, .val (.long i4), .second, .val (.ref b2), .val (.ref b5), .val (.ref u), .val (.int (1 : Int32)), .val (.int (1 : Int32)), .val (.int (0 : Int32))] [(.int (1 : Int32))]))
      refine hG _ _ (fun t_ k_ => XS.ifNo X14.here hx rfl (hb hby at_175) rfl ((if0 _ _).trans (feq (by decide)).1) k_) ?_
      show G (T14.setTop (mkF m 178 #[.val (.int i0), .val (.long i1), .second, .val (.long i2), .second, .val (.long i3), .second, .val (.long i4), .second, .val (.int i5), .val (.int (0 : Int32)), .val (.double (FP.i2d (i0 &&& (65535 : Int32)))), .second, .val (.long i1), .second, .val (.long i2), .second, .val (.long i3), .second, .val (.long i4), .second, .val (.ref b2), .val (.ref b5), .val (.ref u), .val (.int (1 : Int32)), .val (.int (1 : Int32)), .val (.int (0 : Int32))] []))
      refine hG _ _ (fun t_ k_ => XS.iload X14.here hx rfl (hb hby at_178) rfl k_) ?_
      show G (T14.setTop (mkF m 180 #[.val (.int i0), .val (.long i1), .second, .val (.long i2), .second, .val (.long i3), .second, .val (.long i4), .second, .val (.int i5), .val (.int (0 : Int32)), .val (.double (FP.i2d (i0 &&& (65535 : Int32)))), .second, .val (.long i1), .second, .val (.long i2), .second, .val (.long i3), .second, .val (.long i4), .second, .val (.ref b2), .val (.ref b5), .val (.ref u), .val (.int (1 : Int32)), .val (.int (1 : Int32)), .val (.int (0 : Int32))] [(.int (1 : Int32))]))
      refine hG _ _ (fun t_ k_ => XS.ifNo X14.here hx rfl (hb hby at_180) rfl ((if0 _ _).trans (feq (by decide)).1) k_) ?_
      show G (T14.setTop (mkF m 183 #[.val (.int i0), .val (.long i1), .second, .val (.long i2), .second, .val (.long i3), .second, .val (.long i4), .second, .val (.int i5), .val (.int (0 : Int32)), .val (.double (FP.i2d (i0 &&& (65535 : Int32)))), .second, .val (.long i1), .second, .val (.long i2), .second, .val (.long i3), .second, .val (.long i4), .second, .val (.ref b2), .val (.ref b5), .val (.ref u), .val (.int (1 : Int32)), .val (.int (1 : Int32)), .val (.int (0 : Int32))] []))
      refine hG _ _ (fun t_ k_ => XS.iload X14.here hx rfl (hb hby at_183) rfl k_) ?_
      show G (T14.setTop (mkF m 185 #[.val (.int i0), .val (.long i1), .second, .val (.long i2), .second, .val (.long i3), .second, .val (.long i4), .second, .val (.int i5), .val (.int (0 : Int32)), .val (.double (FP.i2d (i0 &&& (65535 : Int32)))), .second, .val (.long i1), .second, .val (.long i2), .second, .val (.long i3), .second, .val (.long i4), .second, .val (.ref b2), .val (.ref b5), .val (.ref u), .val (.int (1 : Int32)), .val (.int (1 : Int32)), .val (.int (0 : Int32))] [(.int (0 : Int32))]))
      refine hG _ _ (fun t_ k_ => XS.ifNo X14.here hx rfl (hb hby at_185) rfl ((if0 _ _).trans (teq (by decide)).2) k_) ?_
      show G (T14.setTop (mkF m 188 #[.val (.int i0), .val (.long i1), .second, .val (.long i2), .second, .val (.long i3), .second, .val (.long i4), .second, .val (.int i5), .val (.int (0 : Int32)), .val (.double (FP.i2d (i0 &&& (65535 : Int32)))), .second, .val (.long i1), .second, .val (.long i2), .second, .val (.long i3), .second, .val (.long i4), .second, .val (.ref b2), .val (.ref b5), .val (.ref u), .val (.int (1 : Int32)), .val (.int (1 : Int32)), .val (.int (0 : Int32))] []))
      refine hG _ _ (fun t_ k_ => XS.iconst X14.here hx rfl (hb hby at_188) k_) ?_
      show G (T14.setTop (mkF m 189 #[.val (.int i0), .val (.long i1), .second, .val (.long i2), .second, .val (.long i3), .second, .val (.long i4), .second, .val (.int i5), .val (.int (0 : Int32)), .val (.double (FP.i2d (i0 &&& (65535 : Int32)))), .second, .val (.long i1), .second, .val (.long i2), .second, .val (.long i3), .second, .val (.long i4), .second, .val (.ref b2), .val (.ref b5), .val (.ref u), .val (.int (1 : Int32)), .val (.int (1 : Int32)), .val (.int (0 : Int32))] [(.int (1 : Int32))]))
      refine hG _ _ (fun t_ k_ => XS.goto X14.here hx rfl (pc0 := 189) (pc' := 193) rfl (hb hby at_189) (by decide) (by decide) k_) ?_
      show G (T14.setTop (mkF m 193 #[.val (.int i0), .val (.long i1), .second, .val (.long i2), .second, .val (.long i3), .second, .val (.long i4), .second, .val (.int i5), .val (.int (0 : Int32)), .val (.double (FP.i2d (i0 &&& (65535 : Int32)))), .second, .val (.long i1), .second, .val (.long i2), .second, .val (.long i3), .second, .val (.long i4), .second, .val (.ref b2), .val (.ref b5), .val (.ref u), .val (.int (1 : Int32)), .val (.int (1 : Int32)), .val (.int (0 : Int32))] [(.int (1 : Int32))]))
      exact own_retN hR hret (by simp) X14 hx (hb hby at_193) (by decide) (by decide) (by rw [e14]; exact ⟨rfl, N14, K6⟩)
    · skip
      refine hG _ _ (fun t_ k_ => XS.ifNo X3.here hx rfl (hb hby at_104) rfl ((if0 _ _).trans (feq hc104_4).1) k_) ?_
      show G (T3.setTop (mkF m 107 #[.val (.int i0), .val (.long i1), .second, .val (.long i2), .second, .val (.long i3), .second, .val (.long i4), .second, .val (.int i5), .val (.int (0 : Int32)), .val (.double (FP.i2d (i0 &&& (65535 : Int32)))), .second, .val (.long i1), .second, .val (.long i2), .second, .val (.long i3), .second, .val (.long i4), .second, .val (.ref b2), .unset, .unset, .unset, .unset, .unset] []))
      refine hG _ _ (fun t_ k_ => XS.aload X3.here hx rfl (hb hby at_107) rfl rfl k_) ?_
      show G (T3.setTop (mkF m 109 #[.val (.int i0), .val (.long i1), .second, .val (.long i2), .second, .val (.long i3), .second, .val (.long i4), .second, .val (.int i5), .val (.int (0 : Int32)), .val (.double (FP.i2d (i0 &&& (65535 : Int32)))), .second, .val (.long i1), .second, .val (.long i2), .second, .val (.long i3), .second, .val (.long i4), .second, .val (.ref b2), .unset, .unset, .unset, .unset, .unset] [(.ref b2)]))
      refine hG _ _ (fun t_ k_ => XS.iloadN X3.here hx rfl (hb hby at_109) rfl k_) ?_
      show G (T3.setTop (mkF m 110 #[.val (.int i0), .val (.long i1), .second, .val (.long i2), .second, .val (.long i3), .second, .val (.long i4), .second, .val (.int i5), .val (.int (0 : Int32)), .val (.double (FP.i2d (i0 &&& (65535 : Int32)))), .second, .val (.long i1), .second, .val (.long i2), .second, .val (.long i3), .second, .val (.long i4), .second, .val (.ref b2), .unset, .unset, .unset, .unset, .unset] [(.int i0), (.ref b2)]))
      refine hG _ _ (fun t_ k_ => XS.bipush X3.here hx rfl (hb hby at_110) k_) ?_
      show G (T3.setTop (mkF m 112 #[.val (.int i0), .val (.long i1), .second, .val (.long i2), .second, .val (.long i3), .second, .val (.long i4), .second, .val (.int i5), .val (.int (0 : Int32)), .val (.double (FP.i2d (i0 &&& (65535 : Int32)))), .second, .val (.long i1), .second, .val (.long i2), .second, .val (.long i3), .second, .val (.long i4), .second, .val (.ref b2), .unset, .unset, .unset, .unset, .unset] [(.int (16 : Int32)), (.int i0), (.ref b2)]))
      refine hG _ _ (fun t_ k_ => XS.iushr X3.here hx rfl (hb hby at_112) rfl k_) ?_
      show G (T3.setTop (mkF m 113 #[.val (.int i0), .val (.long i1), .second, .val (.long i2), .second, .val (.long i3), .second, .val (.long i4), .second, .val (.int i5), .val (.int (0 : Int32)), .val (.double (FP.i2d (i0 &&& (65535 : Int32)))), .second, .val (.long i1), .second, .val (.long i2), .second, .val (.long i3), .second, .val (.long i4), .second, .val (.ref b2), .unset, .unset, .unset, .unset, .unset] [(.int ((i0.toUInt32 >>> ((16 : Int32) &&& 31).toUInt32).toInt32)), (.ref b2)]))
      refine hG _ _ (fun t_ k_ => XS.sipush X3.here hx rfl (hb hby at_113) k_) ?_
      show G (T3.setTop (mkF m 116 #[.val (.int i0), .val (.long i1), .second, .val (.long i2), .second, .val (.long i3), .second, .val (.long i4), .second, .val (.int i5), .val (.int (0 : Int32)), .val (.double (FP.i2d (i0 &&& (65535 : Int32)))), .second, .val (.long i1), .second, .val (.long i2), .second, .val (.long i3), .second, .val (.long i4), .second, .val (.ref b2), .unset, .unset, .unset, .unset, .unset] [(.int (255 : Int32)), (.int ((i0.toUInt32 >>> ((16 : Int32) &&& 31).toUInt32).toInt32)), (.ref b2)]))
      refine hG _ _ (fun t_ k_ => XS.iand X3.here hx rfl (hb hby at_116) rfl k_) ?_
      show G (T3.setTop (mkF m 117 #[.val (.int i0), .val (.long i1), .second, .val (.long i2), .second, .val (.long i3), .second, .val (.long i4), .second, .val (.int i5), .val (.int (0 : Int32)), .val (.double (FP.i2d (i0 &&& (65535 : Int32)))), .second, .val (.long i1), .second, .val (.long i2), .second, .val (.long i3), .second, .val (.long i4), .second, .val (.ref b2), .unset, .unset, .unset, .unset, .unset] [(.int (((i0.toUInt32 >>> ((16 : Int32) &&& 31).toUInt32).toInt32) &&& (255 : Int32))), (.ref b2)]))
      refine hG _ _ (fun t_ k_ => XS.i2c X3.here hx rfl (hb hby at_117) rfl k_) ?_
      show G (T3.setTop (mkF m 118 #[.val (.int i0), .val (.long i1), .second, .val (.long i2), .second, .val (.long i3), .second, .val (.long i4), .second, .val (.int i5), .val (.int (0 : Int32)), .val (.double (FP.i2d (i0 &&& (65535 : Int32)))), .second, .val (.long i1), .second, .val (.long i2), .second, .val (.long i3), .second, .val (.long i4), .second, .val (.ref b2), .unset, .unset, .unset, .unset, .unset] [(.int ((((i0.toUInt32 >>> ((16 : Int32) &&& 31).toUInt32).toInt32) &&& (255 : Int32)).toUInt32.toUInt16.toUInt32.toInt32)), (.ref b2)]))
      generalize hn_c15 : ((((i0.toUInt32 >>> ((16 : Int32) &&& 31).toUInt32).toInt32) &&& (255 : Int32)).toUInt32.toUInt16.toUInt32.toInt32) = c15
      have hr_c15 := own_mask8 hn_c15
      show G (T3.setTop (mkF m 118 #[.val (.int i0), .val (.long i1), .second, .val (.long i2), .second, .val (.long i3), .second, .val (.long i4), .second, .val (.int i5), .val (.int (0 : Int32)), .val (.double (FP.i2d (i0 &&& (65535 : Int32)))), .second, .val (.long i1), .second, .val (.long i2), .second, .val (.long i3), .second, .val (.long i4), .second, .val (.ref b2), .unset, .unset, .unset, .unset, .unset] [(.int c15), (.ref b2)]))
      refine own_callS X3 hx hZ hG hown (hw _ (List.mem_of_getElem? (i := 71) rfl)) (hw _ (List.mem_of_getElem? (i := 72) rfl)) (hw _ (List.mem_of_getElem? (i := 73) rfl)) (hw _ (List.mem_of_getElem? (i := 74) rfl)) (by decide) 1 (own_val1 l Z a0 hw c15 cpt h3 O3 (own_le255 hr_c15) g0_S g1_hcpt) (by decide) (by decide) e3 (by rw [hml]; rfl) (lenOf own_pd3 rfl) (argsL := [(.int c15)]) (rest := [(.ref b2)]) rfl rfl (Nat.le_of_eq rfl) (hb hby at_118) (by decide) (by decide) ?_
      intro T16 h16 v16 L16 X16 e16 q16
      obtain ⟨t_16, b_16, kb_16, rfl, M16, J16, y16_0, y16_1, r16_0, r16_1, r16_2, r16_3⟩ := q16
      have N16 := Fr.app N3 M16
      have K16 : Keep h0 h16 [] := K3.trans J16 all0
      have O16 : own_Old Z h16 := O3.keep J16 all0
      show G (T16.setTop (mkF m 121 #[.val (.int i0), .val (.long i1), .second, .val (.long i2), .second, .val (.long i3), .second, .val (.long i4), .second, .val (.int i5), .val (.int (0 : Int32)), .val (.double (FP.i2d (i0 &&& (65535 : Int32)))), .second, .val (.long i1), .second, .val (.long i2), .second, .val (.long i3), .second, .val (.long i4), .second, .val (.ref b2), .unset, .unset, .unset, .unset, .unset] [(.ref t_16), (.ref b2)]))
      have f18 := (r3_0.keep J16)
      have f19 := (r3_1.keep J16 nin0)
      have f20 := (r3_2.keep J16 nin0)
      have f21 := (r3_3.keep J16 nin0)
      have f22 := (((g3_V.ext E2).keep J3 (ninS (own_ne g3_V.lt (Nat.le_of_eq z2.symm)) nin0)).keep J16 nin0)
      refine own_callV (C := "java/util/ArrayList") X16 hx hZ hG hown (hw _ (List.mem_of_getElem? (i := 95) rfl)) (hw _ (List.mem_of_getElem? (i := 96) rfl)) (hw _ (List.mem_of_getElem? (i := 98) rfl)) (hw _ (List.mem_of_getElem? (i := 97) rfl)) (hw _ (List.mem_of_getElem? (i := 3) rfl)) (hw _ (List.mem_of_getElem? (i := 99) rfl)) (by decide) 0 (own_add0 l Z a0 hw b2 dflt kd (0 : Int32) t_16 h16 O16 f18 (own_ge O0 (Nat.le_of_eq z2.symm)) g2_S (Ne.symm (own_ne g3_V.lt (Nat.le_of_eq z2.symm))) f19 f20 f21 f22 r16_0) (by decide) (by decide) e16 f18 (by rw [hml]; rfl) (lenOf own_pd9 rfl) (argsL := [(.ref t_16)]) (rest := []) rfl rfl (Nat.le_of_eq rfl) (hb hby at_121) (by decide) (by decide) ?_
      intro T17 h17 v17 L17 X17 e17 q17
      obtain ⟨t_17, kt_17, rfl, M17, J17, y17_0, r17_0, r17_1, r17_2, r17_3, r17_4, r17_5⟩ := q17
      have N17 := Fr.app N16 M17
      have K17 : Keep h0 h17 [] := K16.trans J17 (allS (Or.inr (Nat.le_trans (Keep.refl h0 []).1 (Nat.le_of_eq z2.symm))) all0)
      have O17 : own_Old Z h17 := O16.keep J17 (allS (own_ge O0 (Nat.le_of_eq z2.symm)) all0)
      show G (T17.setTop (mkF m 124 #[.val (.int i0), .val (.long i1), .second, .val (.long i2), .second, .val (.long i3), .second, .val (.long i4), .second, .val (.int i5), .val (.int (0 : Int32)), .val (.double (FP.i2d (i0 &&& (65535 : Int32)))), .second, .val (.long i1), .second, .val (.long i2), .second, .val (.long i3), .second, .val (.long i4), .second, .val (.ref b2), .unset, .unset, .unset, .unset, .unset] [(.int (1 : Int32))]))
      refine hG _ _ (fun t_ k_ => XS.pop X17.here hx rfl (hb hby at_124) rfl rfl k_) ?_
      show G (T17.setTop (mkF m 125 #[.val (.int i0), .val (.long i1), .second, .val (.long i2), .second, .val (.long i3), .second, .val (.long i4), .second, .val (.int i5), .val (.int (0 : Int32)), .val (.double (FP.i2d (i0 &&& (65535 : Int32)))), .second, .val (.long i1), .second, .val (.long i2), .second, .val (.long i3), .second, .val (.long i4), .second, .val (.ref b2), .unset, .unset, .unset, .unset, .unset] []))
      obtain ⟨T23, h23, X23, e23, E23, A23, D23, -, st23⟩ := newO X17 hx hZ hown (hw _ (List.mem_of_getElem? (i := 27) rfl)) (hw _ (List.mem_of_getElem? (i := 28) rfl)) (hw _ (List.mem_of_getElem? (i := 29) rfl)) e17 (g := (mkF m 125 #[.val (.int i0), .val (.long i1), .second, .val (.long i2), .second, .val (.long i3), .second, .val (.long i4), .second, .val (.int i5), .val (.int (0 : Int32)), .val (.double (FP.i2d (i0 &&& (65535 : Int32)))), .second, .val (.long i1), .second, .val (.long i2), .second, .val (.long i3), .second, .val (.long i4), .second, .val (.ref b2), .unset, .unset, .unset, .unset, .unset] [])) rfl (hb hby at_125) (by decide) (by decide)
      obtain ⟨b23, z23⟩ : ∃ z, z = h17.size := ⟨_, rfl⟩
      rw [← z23] at A23 D23 st23
      refine hG _ _ st23 ?_
      have K23 : Keep h0 h23 [] := K17.ext E23
      have O23 : own_Old Z h23 := O17.ext E23
      show G (T23.setTop (mkF m 128 #[.val (.int i0), .val (.long i1), .second, .val (.long i2), .second, .val (.long i3), .second, .val (.long i4), .second, .val (.int i5), .val (.int (0 : Int32)), .val (.double (FP.i2d (i0 &&& (65535 : Int32)))), .second, .val (.long i1), .second, .val (.long i2), .second, .val (.long i3), .second, .val (.long i4), .second, .val (.ref b2), .unset, .unset, .unset, .unset, .unset] [(.ref b23)]))
      refine hG _ _ (fun t_ k_ => XS.dup X23.here hx rfl (hb hby at_128) rfl rfl k_) ?_
      show G (T23.setTop (mkF m 129 #[.val (.int i0), .val (.long i1), .second, .val (.long i2), .second, .val (.long i3), .second, .val (.long i4), .second, .val (.int i5), .val (.int (0 : Int32)), .val (.double (FP.i2d (i0 &&& (65535 : Int32)))), .second, .val (.long i1), .second, .val (.long i2), .second, .val (.long i3), .second, .val (.long i4), .second, .val (.ref b2), .unset, .unset, .unset, .unset, .unset] [(.ref b23), (.ref b23)]))
      refine hG _ _ (fun t_ k_ => XS.dload X23.here hx rfl (hb hby at_129) rfl k_) ?_
      show G (T23.setTop (mkF m 131 #[.val (.int i0), .val (.long i1), .second, .val (.long i2), .second, .val (.long i3), .second, .val (.long i4), .second, .val (.int i5), .val (.int (0 : Int32)), .val (.double (FP.i2d (i0 &&& (65535 : Int32)))), .second, .val (.long i1), .second, .val (.long i2), .second, .val (.long i3), .second, .val (.long i4), .second, .val (.ref b2), .unset, .unset, .unset, .unset, .unset] [(.double (FP.i2d (i0 &&& (65535 : Int32)))), (.ref b23), (.ref b23)]))
      refine hG _ _ (fun t_ k_ => XS.lload X23.here hx rfl (hb hby at_131) rfl k_) ?_
      show G (T23.setTop (mkF m 133 #[.val (.int i0), .val (.long i1), .second, .val (.long i2), .second, .val (.long i3), .second, .val (.long i4), .second, .val (.int i5), .val (.int (0 : Int32)), .val (.double (FP.i2d (i0 &&& (65535 : Int32)))), .second, .val (.long i1), .second, .val (.long i2), .second, .val (.long i3), .second, .val (.long i4), .second, .val (.ref b2), .unset, .unset, .unset, .unset, .unset] [(.long i1), (.double (FP.i2d (i0 &&& (65535 : Int32)))), (.ref b23), (.ref b23)]))
      refine hG _ _ (fun t_ k_ => XS.lload X23.here hx rfl (hb hby at_133) rfl k_) ?_
      show G (T23.setTop (mkF m 135 #[.val (.int i0), .val (.long i1), .second, .val (.long i2), .second, .val (.long i3), .second, .val (.long i4), .second, .val (.int i5), .val (.int (0 : Int32)), .val (.double (FP.i2d (i0 &&& (65535 : Int32)))), .second, .val (.long i1), .second, .val (.long i2), .second, .val (.long i3), .second, .val (.long i4), .second, .val (.ref b2), .unset, .unset, .unset, .unset, .unset] [(.long i2), (.long i1), (.double (FP.i2d (i0 &&& (65535 : Int32)))), (.ref b23), (.ref b23)]))
      refine hG _ _ (fun t_ k_ => XS.lload X23.here hx rfl (hb hby at_135) rfl k_) ?_
      show G (T23.setTop (mkF m 137 #[.val (.int i0), .val (.long i1), .second, .val (.long i2), .second, .val (.long i3), .second, .val (.long i4), .second, .val (.int i5), .val (.int (0 : Int32)), .val (.double (FP.i2d (i0 &&& (65535 : Int32)))), .second, .val (.long i1), .second, .val (.long i2), .second, .val (.long i3), .second, .val (.long i4), .second, .val (.ref b2), .unset, .unset, .unset, .unset, .unset] [(.long i3), (.long i2), (.long i1), (.double (FP.i2d (i0 &&& (65535 : Int32)))), (.ref b23), (.ref b23)]))
      refine hG _ _ (fun t_ k_ => XS.lload X23.here hx rfl (hb hby at_137) rfl k_) ?_
      show G (T23.setTop (mkF m 139 #[.val (.int i0), .val (.long i1), .second, .val (.long i2), .second, .val (.long i3), .second, .val (.long i4), .second, .val (.int i5), .val (.int (0 : Int32)), .val (.double (FP.i2d (i0 &&& (65535 : Int32)))), .second, .val (.long i1), .second, .val (.long i2), .second, .val (.long i3), .second, .val (.long i4), .second, .val (.ref b2), .unset, .unset, .unset, .unset, .unset] [(.long i4), (.long i3), (.long i2), (.long i1), (.double (FP.i2d (i0 &&& (65535 : Int32)))), (.ref b23), (.ref b23)]))
      refine hG _ _ (fun t_ k_ => XS.aload X23.here hx rfl (hb hby at_139) rfl rfl k_) ?_
      show G (T23.setTop (mkF m 141 #[.val (.int i0), .val (.long i1), .second, .val (.long i2), .second, .val (.long i3), .second, .val (.long i4), .second, .val (.int i5), .val (.int (0 : Int32)), .val (.double (FP.i2d (i0 &&& (65535 : Int32)))), .second, .val (.long i1), .second, .val (.long i2), .second, .val (.long i3), .second, .val (.long i4), .second, .val (.ref b2), .unset, .unset, .unset, .unset, .unset] [(.ref b2), (.long i4), (.long i3), (.long i2), (.long i1), (.double (FP.i2d (i0 &&& (65535 : Int32)))), (.ref b23), (.ref b23)]))
      have f25 := (r17_0.ext E23)
      have f26 := (r17_3.ext E23)
      refine own_callI X23 hx hZ hG hown rfl (hw _ (List.mem_of_getElem? (i := 30) rfl)) (hw _ (List.mem_of_getElem? (i := 31) rfl)) (hw _ (List.mem_of_getElem? (i := 29) rfl)) (hw _ (List.mem_of_getElem? (i := 32) rfl)) (by decide) 1 (own_dinit l Z a0 hw b23 (FP.i2d (i0 &&& (65535 : Int32))) i1 i2 i3 i4 b2 (1 : Int32) (.int (0 : Int32)) (.double 0) (.long (0 : Int64)) (.long (0 : Int64)) (.long (0 : Int64)) (.long (0 : Int64)) .null h23 O23 A23 (own_ge O17 (Nat.le_of_eq z23.symm)) f25 f26 (own_ne r17_0.lt (Nat.le_of_eq z23.symm)) (D23 (Or.inr (hw _ (List.mem_of_getElem? (i := 46) rfl))) (ty := .boolean) (by decide)) (D23 (Or.inr (hw _ (List.mem_of_getElem? (i := 48) rfl))) (ty := .double) (by decide)) (D23 (Or.inr (hw _ (List.mem_of_getElem? (i := 50) rfl))) (ty := .long) (by decide)) (D23 (Or.inr (hw _ (List.mem_of_getElem? (i := 52) rfl))) (ty := .long) (by decide)) (D23 (Or.inr (hw _ (List.mem_of_getElem? (i := 54) rfl))) (ty := .long) (by decide)) (D23 (Or.inr (hw _ (List.mem_of_getElem? (i := 56) rfl))) (ty := .long) (by decide)) (D23 (Or.inr (hw _ (List.mem_of_getElem? (i := 58) rfl))) (ty := (.object "java/util/List")) (by decide))) (by decide) (by decide) e23 (by rw [hml]; rfl) (lenOf own_pd11 rfl) (argsL := [(.double (FP.i2d (i0 &&& (65535 : Int32)))), (.long i1), (.long i2), (.long i3), (.long i4), (.ref b2)]) (rest := [(.ref b23)]) rfl rfl (Nat.le_of_eq rfl) (hb hby at_141) (by decide) (by decide) ?_
      intro T24 h24 v24 L24 X24 e24 q24
      obtain ⟨rfl, M24, J24, r24_0⟩ := q24
      have N24 := Fr.app N17 M24
      have K24 : Keep h0 h24 [] := K23.trans J24 (allS (Or.inr (Nat.le_trans K17.1 (Nat.le_of_eq z23.symm))) all0)
      have O24 : own_Old Z h24 := O23.keep J24 (allS (own_ge O17 (Nat.le_of_eq z23.symm)) all0)
      show G (T24.setTop (mkF m 144 #[.val (.int i0), .val (.long i1), .second, .val (.long i2), .second, .val (.long i3), .second, .val (.long i4), .second, .val (.int i5), .val (.int (0 : Int32)), .val (.double (FP.i2d (i0 &&& (65535 : Int32)))), .second, .val (.long i1), .second, .val (.long i2), .second, .val (.long i3), .second, .val (.long i4), .second, .val (.ref b2), .unset, .unset, .unset, .unset, .unset] [(.ref b23)]))
      refine hG _ _ (fun t_ k_ => XS.astore X24.here hx rfl (hb hby at_144) rfl rfl (l' := #[.val (.int i0), .val (.long i1), .second, .val (.long i2), .second, .val (.long i3), .second, .val (.long i4), .second, .val (.int i5), .val (.int (0 : Int32)), .val (.double (FP.i2d (i0 &&& (65535 : Int32)))), .second, .val (.long i1), .second, .val (.long i2), .second, .val (.long i3), .second, .val (.long i4), .second, .val (.ref b2), .val (.ref b23), .unset, .unset, .unset, .unset]) rfl k_) ?_
      show G (T24.setTop (mkF m 146 #[.val (.int i0), .val (.long i1), .second, .val (.long i2), .second, .val (.long i3), .second, .val (.long i4), .second, .val (.int i5), .val (.int (0 : Int32)), .val (.double (FP.i2d (i0 &&& (65535 : Int32)))), .second, .val (.long i1), .second, .val (.long i2), .second, .val (.long i3), .second, .val (.long i4), .second, .val (.ref b2), .val (.ref b23), .unset, .unset, .unset, .unset] []))
      refine own_callS X24 hx hZ hG hown (hw _ (List.mem_of_getElem? (i := 59) rfl)) (hw _ (List.mem_of_getElem? (i := 60) rfl)) (hw _ (List.mem_of_getElem? (i := 29) rfl)) (hw _ (List.mem_of_getElem? (i := 61) rfl)) (by decide) 0 (own_unl l Z a0 hw u h24 O24 g4_S) (by decide) (by decide) e24 (by rw [hml]; rfl) (lenOf own_pd12 rfl) (argsL := []) (rest := []) rfl rfl (Nat.le_of_eq rfl) (hb hby at_146) (by decide) (by decide) ?_
      intro T27 h27 v27 L27 X27 e27 q27
      obtain ⟨rfl, M27, rfl⟩ := q27
      have N27 := Fr.app N24 M27
      show G (T27.setTop (mkF m 149 #[.val (.int i0), .val (.long i1), .second, .val (.long i2), .second, .val (.long i3), .second, .val (.long i4), .second, .val (.int i5), .val (.int (0 : Int32)), .val (.double (FP.i2d (i0 &&& (65535 : Int32)))), .second, .val (.long i1), .second, .val (.long i2), .second, .val (.long i3), .second, .val (.long i4), .second, .val (.ref b2), .val (.ref b23), .unset, .unset, .unset, .unset] [(.ref u)]))
      refine hG _ _ (fun t_ k_ => XS.astore X27.here hx rfl (hb hby at_149) rfl rfl (l' := #[.val (.int i0), .val (.long i1), .second, .val (.long i2), .second, .val (.long i3), .second, .val (.long i4), .second, .val (.int i5), .val (.int (0 : Int32)), .val (.double (FP.i2d (i0 &&& (65535 : Int32)))), .second, .val (.long i1), .second, .val (.long i2), .second, .val (.long i3), .second, .val (.long i4), .second, .val (.ref b2), .val (.ref b23), .val (.ref u), .unset, .unset, .unset]) rfl k_) ?_
      show G (T27.setTop (mkF m 151 #[.val (.int i0), .val (.long i1), .second, .val (.long i2), .second, .val (.long i3), .second, .val (.long i4), .second, .val (.int i5), .val (.int (0 : Int32)), .val (.double (FP.i2d (i0 &&& (65535 : Int32)))), .second, .val (.long i1), .second, .val (.long i2), .second, .val (.long i3), .second, .val (.long i4), .second, .val (.ref b2), .val (.ref b23), .val (.ref u), .unset, .unset, .unset] []))
      refine hG _ _ (fun t_ k_ => XS.aload X27.here hx rfl (hb hby at_151) rfl rfl k_) ?_
      show G (T27.setTop (mkF m 153 #[.val (.int i0), .val (.long i1), .second, .val (.long i2), .second, .val (.long i3), .second, .val (.long i4), .second, .val (.int i5), .val (.int (0 : Int32)), .val (.double (FP.i2d (i0 &&& (65535 : Int32)))), .second, .val (.long i1), .second, .val (.long i2), .second, .val (.long i3), .second, .val (.long i4), .second, .val (.ref b2), .val (.ref b23), .val (.ref u), .unset, .unset, .unset] [(.ref u)]))
      have f29 := ((((((g5_E.ext E2).keep J3).keep J16).keep J17).ext E23).keep J24)
      refine own_callV (C := "com/example/danaid/danaid/Decision") X27 hx hZ hG hown (hw _ (List.mem_of_getElem? (i := 64) rfl)) (hw _ (List.mem_of_getElem? (i := 65) rfl)) (hw _ (List.mem_of_getElem? (i := 67) rfl)) (hw _ (List.mem_of_getElem? (i := 66) rfl)) (hw _ (List.mem_of_getElem? (i := 29) rfl)) (hw _ (List.mem_of_getElem? (i := 68) rfl)) (by decide) 0 (own_isu1 l Z a0 hw u h24 O24 g4_S) (by decide) (by decide) e27 f29 (by rw [hml]; rfl) (lenOf own_pd10 rfl) (argsL := []) (rest := []) rfl rfl (Nat.le_of_eq rfl) (hb hby at_153) (by decide) (by decide) ?_
      intro T28 h28 v28 L28 X28 e28 q28
      obtain ⟨rfl, M28, rfl⟩ := q28
      have N28 := Fr.app N27 M28
      show G (T28.setTop (mkF m 156 #[.val (.int i0), .val (.long i1), .second, .val (.long i2), .second, .val (.long i3), .second, .val (.long i4), .second, .val (.int i5), .val (.int (0 : Int32)), .val (.double (FP.i2d (i0 &&& (65535 : Int32)))), .second, .val (.long i1), .second, .val (.long i2), .second, .val (.long i3), .second, .val (.long i4), .second, .val (.ref b2), .val (.ref b23), .val (.ref u), .unset, .unset, .unset] [(.int (1 : Int32))]))
      refine hG _ _ (fun t_ k_ => XS.istore X28.here hx rfl (hb hby at_156) rfl (l' := #[.val (.int i0), .val (.long i1), .second, .val (.long i2), .second, .val (.long i3), .second, .val (.long i4), .second, .val (.int i5), .val (.int (0 : Int32)), .val (.double (FP.i2d (i0 &&& (65535 : Int32)))), .second, .val (.long i1), .second, .val (.long i2), .second, .val (.long i3), .second, .val (.long i4), .second, .val (.ref b2), .val (.ref b23), .val (.ref u), .val (.int (1 : Int32)), .unset, .unset]) rfl k_) ?_
      show G (T28.setTop (mkF m 158 #[.val (.int i0), .val (.long i1), .second, .val (.long i2), .second, .val (.long i3), .second, .val (.long i4), .second, .val (.int i5), .val (.int (0 : Int32)), .val (.double (FP.i2d (i0 &&& (65535 : Int32)))), .second, .val (.long i1), .second, .val (.long i2), .second, .val (.long i3), .second, .val (.long i4), .second, .val (.ref b2), .val (.ref b23), .val (.ref u), .val (.int (1 : Int32)), .unset, .unset] []))
      refine own_callS X28 hx hZ hG hown (hw _ (List.mem_of_getElem? (i := 59) rfl)) (hw _ (List.mem_of_getElem? (i := 60) rfl)) (hw _ (List.mem_of_getElem? (i := 29) rfl)) (hw _ (List.mem_of_getElem? (i := 61) rfl)) (by decide) 0 (own_unl l Z a0 hw u h24 O24 g4_S) (by decide) (by decide) e28 (by rw [hml]; rfl) (lenOf own_pd12 rfl) (argsL := []) (rest := []) rfl rfl (Nat.le_of_eq rfl) (hb hby at_158) (by decide) (by decide) ?_
      intro T30 h30 v30 L30 X30 e30 q30
      obtain ⟨rfl, M30, rfl⟩ := q30
      have N30 := Fr.app N28 M30
      show G (T30.setTop (mkF m 161 #[.val (.int i0), .val (.long i1), .second, .val (.long i2), .second, .val (.long i3), .second, .val (.long i4), .second, .val (.int i5), .val (.int (0 : Int32)), .val (.double (FP.i2d (i0 &&& (65535 : Int32)))), .second, .val (.long i1), .second, .val (.long i2), .second, .val (.long i3), .second, .val (.long i4), .second, .val (.ref b2), .val (.ref b23), .val (.ref u), .val (.int (1 : Int32)), .unset, .unset] [(.ref u)]))
      refine own_callV (C := "com/example/danaid/danaid/Decision") X30 hx hZ hG hown (hw _ (List.mem_of_getElem? (i := 64) rfl)) (hw _ (List.mem_of_getElem? (i := 65) rfl)) (hw _ (List.mem_of_getElem? (i := 67) rfl)) (hw _ (List.mem_of_getElem? (i := 66) rfl)) (hw _ (List.mem_of_getElem? (i := 29) rfl)) (hw _ (List.mem_of_getElem? (i := 68) rfl)) (by decide) 0 (own_isu1 l Z a0 hw u h24 O24 g4_S) (by decide) (by decide) e30 f29 (by rw [hml]; rfl) (lenOf own_pd10 rfl) (argsL := []) (rest := []) rfl rfl (Nat.le_of_eq rfl) (hb hby at_161) (by decide) (by decide) ?_
      intro T31 h31 v31 L31 X31 e31 q31
      obtain ⟨rfl, M31, rfl⟩ := q31
      have N31 := Fr.app N30 M31
      show G (T31.setTop (mkF m 164 #[.val (.int i0), .val (.long i1), .second, .val (.long i2), .second, .val (.long i3), .second, .val (.long i4), .second, .val (.int i5), .val (.int (0 : Int32)), .val (.double (FP.i2d (i0 &&& (65535 : Int32)))), .second, .val (.long i1), .second, .val (.long i2), .second, .val (.long i3), .second, .val (.long i4), .second, .val (.ref b2), .val (.ref b23), .val (.ref u), .val (.int (1 : Int32)), .unset, .unset] [(.int (1 : Int32))]))
      refine hG _ _ (fun t_ k_ => XS.istore X31.here hx rfl (hb hby at_164) rfl (l' := #[.val (.int i0), .val (.long i1), .second, .val (.long i2), .second, .val (.long i3), .second, .val (.long i4), .second, .val (.int i5), .val (.int (0 : Int32)), .val (.double (FP.i2d (i0 &&& (65535 : Int32)))), .second, .val (.long i1), .second, .val (.long i2), .second, .val (.long i3), .second, .val (.long i4), .second, .val (.ref b2), .val (.ref b23), .val (.ref u), .val (.int (1 : Int32)), .val (.int (1 : Int32)), .unset]) rfl k_) ?_
      show G (T31.setTop (mkF m 166 #[.val (.int i0), .val (.long i1), .second, .val (.long i2), .second, .val (.long i3), .second, .val (.long i4), .second, .val (.int i5), .val (.int (0 : Int32)), .val (.double (FP.i2d (i0 &&& (65535 : Int32)))), .second, .val (.long i1), .second, .val (.long i2), .second, .val (.long i3), .second, .val (.long i4), .second, .val (.ref b2), .val (.ref b23), .val (.ref u), .val (.int (1 : Int32)), .val (.int (1 : Int32)), .unset] []))
      refine hG _ _ (fun t_ k_ => XS.aload X31.here hx rfl (hb hby at_166) rfl rfl k_) ?_
      show G (T31.setTop (mkF m 168 #[.val (.int i0), .val (.long i1), .second, .val (.long i2), .second, .val (.long i3), .second, .val (.long i4), .second, .val (.int i5), .val (.int (0 : Int32)), .val (.double (FP.i2d (i0 &&& (65535 : Int32)))), .second, .val (.long i1), .second, .val (.long i2), .second, .val (.long i3), .second, .val (.long i4), .second, .val (.ref b2), .val (.ref b23), .val (.ref u), .val (.int (1 : Int32)), .val (.int (1 : Int32)), .unset] [(.ref b23)]))
      refine own_callV (C := "com/example/danaid/danaid/Decision") X31 hx hZ hG hown (hw _ (List.mem_of_getElem? (i := 64) rfl)) (hw _ (List.mem_of_getElem? (i := 65) rfl)) (hw _ (List.mem_of_getElem? (i := 67) rfl)) (hw _ (List.mem_of_getElem? (i := 66) rfl)) (hw _ (List.mem_of_getElem? (i := 29) rfl)) (hw _ (List.mem_of_getElem? (i := 68) rfl)) (by decide) 0 (own_isu0 l Z a0 hw b23 u h24 O24 g4_S (Ne.symm (own_ne (Nat.lt_of_lt_of_le (Nat.lt_of_lt_of_le (Nat.lt_of_lt_of_le (Nat.lt_of_lt_of_le g5_E.lt E2.1) J3.1) J16.1) J17.1) (Nat.le_of_eq z23.symm)))) (by decide) (by decide) e31 r24_0 (by rw [hml]; rfl) (lenOf own_pd10 rfl) (argsL := []) (rest := []) rfl rfl (Nat.le_of_eq rfl) (hb hby at_168) (by decide) (by decide) ?_
      intro T32 h32 v32 L32 X32 e32 q32
      obtain ⟨rfl, M32, rfl⟩ := q32
      have N32 := Fr.app N31 M32
      show G (T32.setTop (mkF m 171 #[.val (.int i0), .val (.long i1), .second, .val (.long i2), .second, .val (.long i3), .second, .val (.long i4), .second, .val (.int i5), .val (.int (0 : Int32)), .val (.double (FP.i2d (i0 &&& (65535 : Int32)))), .second, .val (.long i1), .second, .val (.long i2), .second, .val (.long i3), .second, .val (.long i4), .second, .val (.ref b2), .val (.ref b23), .val (.ref u), .val (.int (1 : Int32)), .val (.int (1 : Int32)), .unset] [(.int (0 : Int32))]))
      refine hG _ _ (fun t_ k_ => XS.istore X32.here hx rfl (hb hby at_171) rfl (l' := #[.val (.int i0), .val (.long i1), .second, .val (.long i2), .second, .val (.long i3), .second, .val (.long i4), .second, .val (.int i5), .val (.int (0 : Int32)), .val (.double (FP.i2d (i0 &&& (65535 : Int32)))), .second, .val (.long i1), .second, .val (.long i2), .second, .val (.long i3), .second, .val (.long i4), .second, .val (.ref b2), .val (.ref b23), .val (.ref u), .val (.int (1 : Int32)), .val (.int (1 : Int32)), .val (.int (0 : Int32))]) rfl k_) ?_
      show G (T32.setTop (mkF m 173 #[.val (.int i0), .val (.long i1), .second, .val (.long i2), .second, .val (.long i3), .second, .val (.long i4), .second, .val (.int i5), .val (.int (0 : Int32)), .val (.double (FP.i2d (i0 &&& (65535 : Int32)))), .second, .val (.long i1), .second, .val (.long i2), .second, .val (.long i3), .second, .val (.long i4), .second, .val (.ref b2), .val (.ref b23), .val (.ref u), .val (.int (1 : Int32)), .val (.int (1 : Int32)), .val (.int (0 : Int32))] []))
      refine hG _ _ (fun t_ k_ => XS.iload X32.here hx rfl (hb hby at_173) rfl k_) ?_
      show G (T32.setTop (mkF m 175 #[.val (.int i0), .val (.long i1), .second, .val (.long i2), .second, .val (.long i3), .second, .val (.long i4), .second, .val (.int i5), .val (.int (0 : Int32)), .val (.double (FP.i2d (i0 &&& (65535 : Int32)))), .second, .val (.long i1), .second, .val (.long i2), .second, .val (.long i3), .second, .val (.long i4), .second, .val (.ref b2), .val (.ref b23), .val (.ref u), .val (.int (1 : Int32)), .val (.int (1 : Int32)), .val (.int (0 : Int32))] [(.int (1 : Int32))]))
      refine hG _ _ (fun t_ k_ => XS.ifNo X32.here hx rfl (hb hby at_175) rfl ((if0 _ _).trans (feq (by decide)).1) k_) ?_
      show G (T32.setTop (mkF m 178 #[.val (.int i0), .val (.long i1), .second, .val (.long i2), .second, .val (.long i3), .second, .val (.long i4), .second, .val (.int i5), .val (.int (0 : Int32)), .val (.double (FP.i2d (i0 &&& (65535 : Int32)))), .second, .val (.long i1), .second, .val (.long i2), .second, .val (.long i3), .second, .val (.long i4), .second, .val (.ref b2), .val (.ref b23), .val (.ref u), .val (.int (1 : Int32)), .val (.int (1 : Int32)), .val (.int (0 : Int32))] []))
      refine hG _ _ (fun t_ k_ => XS.iload X32.here hx rfl (hb hby at_178) rfl k_) ?_
      show G (T32.setTop (mkF m 180 #[.val (.int i0), .val (.long i1), .second, .val (.long i2), .second, .val (.long i3), .second, .val (.long i4), .second, .val (.int i5), .val (.int (0 : Int32)), .val (.double (FP.i2d (i0 &&& (65535 : Int32)))), .second, .val (.long i1), .second, .val (.long i2), .second, .val (.long i3), .second, .val (.long i4), .second, .val (.ref b2), .val (.ref b23), .val (.ref u), .val (.int (1 : Int32)), .val (.int (1 : Int32)), .val (.int (0 : Int32))] [(.int (1 : Int32))]))
      refine hG _ _ (fun t_ k_ => XS.ifNo X32.here hx rfl (hb hby at_180) rfl ((if0 _ _).trans (feq (by decide)).1) k_) ?_
      show G (T32.setTop (mkF m 183 #[.val (.int i0), .val (.long i1), .second, .val (.long i2), .second, .val (.long i3), .second, .val (.long i4), .second, .val (.int i5), .val (.int (0 : Int32)), .val (.double (FP.i2d (i0 &&& (65535 : Int32)))), .second, .val (.long i1), .second, .val (.long i2), .second, .val (.long i3), .second, .val (.long i4), .second, .val (.ref b2), .val (.ref b23), .val (.ref u), .val (.int (1 : Int32)), .val (.int (1 : Int32)), .val (.int (0 : Int32))] []))
      refine hG _ _ (fun t_ k_ => XS.iload X32.here hx rfl (hb hby at_183) rfl k_) ?_
      show G (T32.setTop (mkF m 185 #[.val (.int i0), .val (.long i1), .second, .val (.long i2), .second, .val (.long i3), .second, .val (.long i4), .second, .val (.int i5), .val (.int (0 : Int32)), .val (.double (FP.i2d (i0 &&& (65535 : Int32)))), .second, .val (.long i1), .second, .val (.long i2), .second, .val (.long i3), .second, .val (.long i4), .second, .val (.ref b2), .val (.ref b23), .val (.ref u), .val (.int (1 : Int32)), .val (.int (1 : Int32)), .val (.int (0 : Int32))] [(.int (0 : Int32))]))
      refine hG _ _ (fun t_ k_ => XS.ifNo X32.here hx rfl (hb hby at_185) rfl ((if0 _ _).trans (teq (by decide)).2) k_) ?_
      show G (T32.setTop (mkF m 188 #[.val (.int i0), .val (.long i1), .second, .val (.long i2), .second, .val (.long i3), .second, .val (.long i4), .second, .val (.int i5), .val (.int (0 : Int32)), .val (.double (FP.i2d (i0 &&& (65535 : Int32)))), .second, .val (.long i1), .second, .val (.long i2), .second, .val (.long i3), .second, .val (.long i4), .second, .val (.ref b2), .val (.ref b23), .val (.ref u), .val (.int (1 : Int32)), .val (.int (1 : Int32)), .val (.int (0 : Int32))] []))
      refine hG _ _ (fun t_ k_ => XS.iconst X32.here hx rfl (hb hby at_188) k_) ?_
      show G (T32.setTop (mkF m 189 #[.val (.int i0), .val (.long i1), .second, .val (.long i2), .second, .val (.long i3), .second, .val (.long i4), .second, .val (.int i5), .val (.int (0 : Int32)), .val (.double (FP.i2d (i0 &&& (65535 : Int32)))), .second, .val (.long i1), .second, .val (.long i2), .second, .val (.long i3), .second, .val (.long i4), .second, .val (.ref b2), .val (.ref b23), .val (.ref u), .val (.int (1 : Int32)), .val (.int (1 : Int32)), .val (.int (0 : Int32))] [(.int (1 : Int32))]))
      refine hG _ _ (fun t_ k_ => XS.goto X32.here hx rfl (pc0 := 189) (pc' := 193) rfl (hb hby at_189) (by decide) (by decide) k_) ?_
      show G (T32.setTop (mkF m 193 #[.val (.int i0), .val (.long i1), .second, .val (.long i2), .second, .val (.long i3), .second, .val (.long i4), .second, .val (.int i5), .val (.int (0 : Int32)), .val (.double (FP.i2d (i0 &&& (65535 : Int32)))), .second, .val (.long i1), .second, .val (.long i2), .second, .val (.long i3), .second, .val (.long i4), .second, .val (.ref b2), .val (.ref b23), .val (.ref u), .val (.int (1 : Int32)), .val (.int (1 : Int32)), .val (.int (0 : Int32))] [(.int (1 : Int32))]))
      exact own_retN hR hret (by simp) X32 hx (hb hby at_193) (by decide) (by decide) (by rw [e32]; exact ⟨rfl, N32, K24⟩)
  · skip
    refine hG _ _ (fun t_ k_ => XS.ifNo X0.here hx rfl (hb hby at_4) rfl ((if0 _ _).trans (feq hc4_1).1) k_) ?_
    show G (s₁.setTop (mkF m 7 #[.val (.int i0), .val (.long i1), .second, .val (.long i2), .second, .val (.long i3), .second, .val (.long i4), .second, .val (.int i5), .unset, .unset, .unset, .unset, .unset, .unset, .unset, .unset, .unset, .unset, .unset, .unset, .unset, .unset, .unset, .unset, .unset] []))
    refine hG _ _ (fun t_ k_ => XS.iconst X0.here hx rfl (hb hby at_7) k_) ?_
    show G (s₁.setTop (mkF m 8 #[.val (.int i0), .val (.long i1), .second, .val (.long i2), .second, .val (.long i3), .second, .val (.long i4), .second, .val (.int i5), .unset, .unset, .unset, .unset, .unset, .unset, .unset, .unset, .unset, .unset, .unset, .unset, .unset, .unset, .unset, .unset, .unset] [(.int (1 : Int32))]))
    refine hG _ _ (fun t_ k_ => XS.goto X0.here hx rfl (pc0 := 8) (pc' := 12) rfl (hb hby at_8) (by decide) (by decide) k_) ?_
    show G (s₁.setTop (mkF m 12 #[.val (.int i0), .val (.long i1), .second, .val (.long i2), .second, .val (.long i3), .second, .val (.long i4), .second, .val (.int i5), .unset, .unset, .unset, .unset, .unset, .unset, .unset, .unset, .unset, .unset, .unset, .unset, .unset, .unset, .unset, .unset, .unset] [(.int (1 : Int32))]))
    refine hG _ _ (fun t_ k_ => XS.istore X0.here hx rfl (hb hby at_12) rfl (l' := #[.val (.int i0), .val (.long i1), .second, .val (.long i2), .second, .val (.long i3), .second, .val (.long i4), .second, .val (.int i5), .val (.int (1 : Int32)), .unset, .unset, .unset, .unset, .unset, .unset, .unset, .unset, .unset, .unset, .unset, .unset, .unset, .unset, .unset, .unset]) rfl k_) ?_
    show G (s₁.setTop (mkF m 14 #[.val (.int i0), .val (.long i1), .second, .val (.long i2), .second, .val (.long i3), .second, .val (.long i4), .second, .val (.int i5), .val (.int (1 : Int32)), .unset, .unset, .unset, .unset, .unset, .unset, .unset, .unset, .unset, .unset, .unset, .unset, .unset, .unset, .unset, .unset] []))
    refine hG _ _ (fun t_ k_ => XS.iload X0.here hx rfl (hb hby at_14) rfl k_) ?_
    show G (s₁.setTop (mkF m 16 #[.val (.int i0), .val (.long i1), .second, .val (.long i2), .second, .val (.long i3), .second, .val (.long i4), .second, .val (.int i5), .val (.int (1 : Int32)), .unset, .unset, .unset, .unset, .unset, .unset, .unset, .unset, .unset, .unset, .unset, .unset, .unset, .unset, .unset, .unset] [(.int (1 : Int32))]))
    refine hG _ _ (fun t_ k_ => XS.ifNo X0.here hx rfl (hb hby at_16) rfl ((if0 _ _).trans (feq (by decide)).1) k_) ?_
    show G (s₁.setTop (mkF m 19 #[.val (.int i0), .val (.long i1), .second, .val (.long i2), .second, .val (.long i3), .second, .val (.long i4), .second, .val (.int i5), .val (.int (1 : Int32)), .unset, .unset, .unset, .unset, .unset, .unset, .unset, .unset, .unset, .unset, .unset, .unset, .unset, .unset, .unset, .unset] []))
    refine hG _ _ (fun t_ k_ => XS.dconst0 X0.here hx rfl (hb hby at_19) rfl k_) ?_
    show G (s₁.setTop (mkF m 20 #[.val (.int i0), .val (.long i1), .second, .val (.long i2), .second, .val (.long i3), .second, .val (.long i4), .second, .val (.int i5), .val (.int (1 : Int32)), .unset, .unset, .unset, .unset, .unset, .unset, .unset, .unset, .unset, .unset, .unset, .unset, .unset, .unset, .unset, .unset] [(.double FP.dconst0)]))
    refine hG _ _ (fun t_ k_ => XS.goto X0.here hx rfl (pc0 := 20) (pc' := 28) rfl (hb hby at_20) (by decide) (by decide) k_) ?_
    show G (s₁.setTop (mkF m 28 #[.val (.int i0), .val (.long i1), .second, .val (.long i2), .second, .val (.long i3), .second, .val (.long i4), .second, .val (.int i5), .val (.int (1 : Int32)), .unset, .unset, .unset, .unset, .unset, .unset, .unset, .unset, .unset, .unset, .unset, .unset, .unset, .unset, .unset, .unset] [(.double FP.dconst0)]))
    refine hG _ _ (fun t_ k_ => XS.dstore X0.here hx rfl (hb hby at_28) rfl (l' := #[.val (.int i0), .val (.long i1), .second, .val (.long i2), .second, .val (.long i3), .second, .val (.long i4), .second, .val (.int i5), .val (.int (1 : Int32)), .val (.double FP.dconst0), .second, .unset, .unset, .unset, .unset, .unset, .unset, .unset, .unset, .unset, .unset, .unset, .unset, .unset, .unset]) rfl k_) ?_
    show G (s₁.setTop (mkF m 30 #[.val (.int i0), .val (.long i1), .second, .val (.long i2), .second, .val (.long i3), .second, .val (.long i4), .second, .val (.int i5), .val (.int (1 : Int32)), .val (.double FP.dconst0), .second, .unset, .unset, .unset, .unset, .unset, .unset, .unset, .unset, .unset, .unset, .unset, .unset, .unset, .unset] []))
    refine hG _ _ (fun t_ k_ => XS.iload X0.here hx rfl (hb hby at_30) rfl k_) ?_
    show G (s₁.setTop (mkF m 32 #[.val (.int i0), .val (.long i1), .second, .val (.long i2), .second, .val (.long i3), .second, .val (.long i4), .second, .val (.int i5), .val (.int (1 : Int32)), .val (.double FP.dconst0), .second, .unset, .unset, .unset, .unset, .unset, .unset, .unset, .unset, .unset, .unset, .unset, .unset, .unset, .unset] [(.int (1 : Int32))]))
    refine hG _ _ (fun t_ k_ => XS.ifNo X0.here hx rfl (hb hby at_32) rfl ((if0 _ _).trans (feq (by decide)).1) k_) ?_
    show G (s₁.setTop (mkF m 35 #[.val (.int i0), .val (.long i1), .second, .val (.long i2), .second, .val (.long i3), .second, .val (.long i4), .second, .val (.int i5), .val (.int (1 : Int32)), .val (.double FP.dconst0), .second, .unset, .unset, .unset, .unset, .unset, .unset, .unset, .unset, .unset, .unset, .unset, .unset, .unset, .unset] []))
    refine hG _ _ (X0.ldc2Long hx hown (mvT hZ (hw _ (List.mem_of_getElem? (i := 69) rfl))) (g := (mkF m 35 #[.val (.int i0), .val (.long i1), .second, .val (.long i2), .second, .val (.long i3), .second, .val (.long i4), .second, .val (.int i5), .val (.int (1 : Int32)), .val (.double FP.dconst0), .second, .unset, .unset, .unset, .unset, .unset, .unset, .unset, .unset, .unset, .unset, .unset, .unset, .unset, .unset] [])) rfl (hb hby at_35)) ?_
    show G (s₁.setTop (mkF m 38 #[.val (.int i0), .val (.long i1), .second, .val (.long i2), .second, .val (.long i3), .second, .val (.long i4), .second, .val (.int i5), .val (.int (1 : Int32)), .val (.double FP.dconst0), .second, .unset, .unset, .unset, .unset, .unset, .unset, .unset, .unset, .unset, .unset, .unset, .unset, .unset, .unset] [(.long (9223372036854775807 : Int64))]))
    refine hG _ _ (fun t_ k_ => XS.goto X0.here hx rfl (pc0 := 38) (pc' := 42) rfl (hb hby at_38) (by decide) (by decide) k_) ?_
    show G (s₁.setTop (mkF m 42 #[.val (.int i0), .val (.long i1), .second, .val (.long i2), .second, .val (.long i3), .second, .val (.long i4), .second, .val (.int i5), .val (.int (1 : Int32)), .val (.double FP.dconst0), .second, .unset, .unset, .unset, .unset, .unset, .unset, .unset, .unset, .unset, .unset, .unset, .unset, .unset, .unset] [(.long (9223372036854775807 : Int64))]))
    refine hG _ _ (fun t_ k_ => XS.lstore X0.here hx rfl (hb hby at_42) rfl (l' := #[.val (.int i0), .val (.long i1), .second, .val (.long i2), .second, .val (.long i3), .second, .val (.long i4), .second, .val (.int i5), .val (.int (1 : Int32)), .val (.double FP.dconst0), .second, .val (.long (9223372036854775807 : Int64)), .second, .unset, .unset, .unset, .unset, .unset, .unset, .unset, .unset, .unset, .unset, .unset, .unset]) rfl k_) ?_
    show G (s₁.setTop (mkF m 44 #[.val (.int i0), .val (.long i1), .second, .val (.long i2), .second, .val (.long i3), .second, .val (.long i4), .second, .val (.int i5), .val (.int (1 : Int32)), .val (.double FP.dconst0), .second, .val (.long (9223372036854775807 : Int64)), .second, .unset, .unset, .unset, .unset, .unset, .unset, .unset, .unset, .unset, .unset, .unset, .unset] []))
    refine hG _ _ (fun t_ k_ => XS.iload X0.here hx rfl (hb hby at_44) rfl k_) ?_
    show G (s₁.setTop (mkF m 46 #[.val (.int i0), .val (.long i1), .second, .val (.long i2), .second, .val (.long i3), .second, .val (.long i4), .second, .val (.int i5), .val (.int (1 : Int32)), .val (.double FP.dconst0), .second, .val (.long (9223372036854775807 : Int64)), .second, .unset, .unset, .unset, .unset, .unset, .unset, .unset, .unset, .unset, .unset, .unset, .unset] [(.int (1 : Int32))]))
    refine hG _ _ (fun t_ k_ => XS.ifNo X0.here hx rfl (hb hby at_46) rfl ((if0 _ _).trans (feq (by decide)).1) k_) ?_
    show G (s₁.setTop (mkF m 49 #[.val (.int i0), .val (.long i1), .second, .val (.long i2), .second, .val (.long i3), .second, .val (.long i4), .second, .val (.int i5), .val (.int (1 : Int32)), .val (.double FP.dconst0), .second, .val (.long (9223372036854775807 : Int64)), .second, .unset, .unset, .unset, .unset, .unset, .unset, .unset, .unset, .unset, .unset, .unset, .unset] []))
    refine hG _ _ (fun t_ k_ => XS.lconst X0.here hx rfl (hb hby at_49) k_) ?_
    show G (s₁.setTop (mkF m 50 #[.val (.int i0), .val (.long i1), .second, .val (.long i2), .second, .val (.long i3), .second, .val (.long i4), .second, .val (.int i5), .val (.int (1 : Int32)), .val (.double FP.dconst0), .second, .val (.long (9223372036854775807 : Int64)), .second, .unset, .unset, .unset, .unset, .unset, .unset, .unset, .unset, .unset, .unset, .unset, .unset] [(.long (0 : Int64))]))
    refine hG _ _ (fun t_ k_ => XS.goto X0.here hx rfl (pc0 := 50) (pc' := 54) rfl (hb hby at_50) (by decide) (by decide) k_) ?_
    show G (s₁.setTop (mkF m 54 #[.val (.int i0), .val (.long i1), .second, .val (.long i2), .second, .val (.long i3), .second, .val (.long i4), .second, .val (.int i5), .val (.int (1 : Int32)), .val (.double FP.dconst0), .second, .val (.long (9223372036854775807 : Int64)), .second, .unset, .unset, .unset, .unset, .unset, .unset, .unset, .unset, .unset, .unset, .unset, .unset] [(.long (0 : Int64))]))
    refine hG _ _ (fun t_ k_ => XS.lstore X0.here hx rfl (hb hby at_54) rfl (l' := #[.val (.int i0), .val (.long i1), .second, .val (.long i2), .second, .val (.long i3), .second, .val (.long i4), .second, .val (.int i5), .val (.int (1 : Int32)), .val (.double FP.dconst0), .second, .val (.long (9223372036854775807 : Int64)), .second, .val (.long (0 : Int64)), .second, .unset, .unset, .unset, .unset, .unset, .unset, .unset, .unset, .unset, .unset]) rfl k_) ?_
    show G (s₁.setTop (mkF m 56 #[.val (.int i0), .val (.long i1), .second, .val (.long i2), .second, .val (.long i3), .second, .val (.long i4), .second, .val (.int i5), .val (.int (1 : Int32)), .val (.double FP.dconst0), .second, .val (.long (9223372036854775807 : Int64)), .second, .val (.long (0 : Int64)), .second, .unset, .unset, .unset, .unset, .unset, .unset, .unset, .unset, .unset, .unset] []))
    refine hG _ _ (fun t_ k_ => XS.iload X0.here hx rfl (hb hby at_56) rfl k_) ?_
    show G (s₁.setTop (mkF m 58 #[.val (.int i0), .val (.long i1), .second, .val (.long i2), .second, .val (.long i3), .second, .val (.long i4), .second, .val (.int i5), .val (.int (1 : Int32)), .val (.double FP.dconst0), .second, .val (.long (9223372036854775807 : Int64)), .second, .val (.long (0 : Int64)), .second, .unset, .unset, .unset, .unset, .unset, .unset, .unset, .unset, .unset, .unset] [(.int (1 : Int32))]))
    refine hG _ _ (fun t_ k_ => XS.ifNo X0.here hx rfl (hb hby at_58) rfl ((if0 _ _).trans (feq (by decide)).1) k_) ?_
    show G (s₁.setTop (mkF m 61 #[.val (.int i0), .val (.long i1), .second, .val (.long i2), .second, .val (.long i3), .second, .val (.long i4), .second, .val (.int i5), .val (.int (1 : Int32)), .val (.double FP.dconst0), .second, .val (.long (9223372036854775807 : Int64)), .second, .val (.long (0 : Int64)), .second, .unset, .unset, .unset, .unset, .unset, .unset, .unset, .unset, .unset, .unset] []))
    refine hG _ _ (X0.ldc2Long hx hown (mvT hZ (hw _ (List.mem_of_getElem? (i := 70) rfl))) (g := (mkF m 61 #[.val (.int i0), .val (.long i1), .second, .val (.long i2), .second, .val (.long i3), .second, .val (.long i4), .second, .val (.int i5), .val (.int (1 : Int32)), .val (.double FP.dconst0), .second, .val (.long (9223372036854775807 : Int64)), .second, .val (.long (0 : Int64)), .second, .unset, .unset, .unset, .unset, .unset, .unset, .unset, .unset, .unset, .unset] [])) rfl (hb hby at_61)) ?_
    show G (s₁.setTop (mkF m 64 #[.val (.int i0), .val (.long i1), .second, .val (.long i2), .second, .val (.long i3), .second, .val (.long i4), .second, .val (.int i5), .val (.int (1 : Int32)), .val (.double FP.dconst0), .second, .val (.long (9223372036854775807 : Int64)), .second, .val (.long (0 : Int64)), .second, .unset, .unset, .unset, .unset, .unset, .unset, .unset, .unset, .unset, .unset] [(.long (-1 : Int64))]))
    refine hG _ _ (fun t_ k_ => XS.goto X0.here hx rfl (pc0 := 64) (pc' := 69) rfl (hb hby at_64) (by decide) (by decide) k_) ?_
    show G (s₁.setTop (mkF m 69 #[.val (.int i0), .val (.long i1), .second, .val (.long i2), .second, .val (.long i3), .second, .val (.long i4), .second, .val (.int i5), .val (.int (1 : Int32)), .val (.double FP.dconst0), .second, .val (.long (9223372036854775807 : Int64)), .second, .val (.long (0 : Int64)), .second, .unset, .unset, .unset, .unset, .unset, .unset, .unset, .unset, .unset, .unset] [(.long (-1 : Int64))]))
    refine hG _ _ (fun t_ k_ => XS.lstore X0.here hx rfl (hb hby at_69) rfl (l' := #[.val (.int i0), .val (.long i1), .second, .val (.long i2), .second, .val (.long i3), .second, .val (.long i4), .second, .val (.int i5), .val (.int (1 : Int32)), .val (.double FP.dconst0), .second, .val (.long (9223372036854775807 : Int64)), .second, .val (.long (0 : Int64)), .second, .val (.long (-1 : Int64)), .second, .unset, .unset, .unset, .unset, .unset, .unset, .unset, .unset]) rfl k_) ?_
    show G (s₁.setTop (mkF m 71 #[.val (.int i0), .val (.long i1), .second, .val (.long i2), .second, .val (.long i3), .second, .val (.long i4), .second, .val (.int i5), .val (.int (1 : Int32)), .val (.double FP.dconst0), .second, .val (.long (9223372036854775807 : Int64)), .second, .val (.long (0 : Int64)), .second, .val (.long (-1 : Int64)), .second, .unset, .unset, .unset, .unset, .unset, .unset, .unset, .unset] []))
    refine hG _ _ (fun t_ k_ => XS.iload X0.here hx rfl (hb hby at_71) rfl k_) ?_
    show G (s₁.setTop (mkF m 73 #[.val (.int i0), .val (.long i1), .second, .val (.long i2), .second, .val (.long i3), .second, .val (.long i4), .second, .val (.int i5), .val (.int (1 : Int32)), .val (.double FP.dconst0), .second, .val (.long (9223372036854775807 : Int64)), .second, .val (.long (0 : Int64)), .second, .val (.long (-1 : Int64)), .second, .unset, .unset, .unset, .unset, .unset, .unset, .unset, .unset] [(.int (1 : Int32))]))
    refine hG _ _ (fun t_ k_ => XS.ifNo X0.here hx rfl (hb hby at_73) rfl ((if0 _ _).trans (feq (by decide)).1) k_) ?_
    show G (s₁.setTop (mkF m 76 #[.val (.int i0), .val (.long i1), .second, .val (.long i2), .second, .val (.long i3), .second, .val (.long i4), .second, .val (.int i5), .val (.int (1 : Int32)), .val (.double FP.dconst0), .second, .val (.long (9223372036854775807 : Int64)), .second, .val (.long (0 : Int64)), .second, .val (.long (-1 : Int64)), .second, .unset, .unset, .unset, .unset, .unset, .unset, .unset, .unset] []))
    refine hG _ _ (X0.ldc2Long hx hown (mvT hZ (hw _ (List.mem_of_getElem? (i := 69) rfl))) (g := (mkF m 76 #[.val (.int i0), .val (.long i1), .second, .val (.long i2), .second, .val (.long i3), .second, .val (.long i4), .second, .val (.int i5), .val (.int (1 : Int32)), .val (.double FP.dconst0), .second, .val (.long (9223372036854775807 : Int64)), .second, .val (.long (0 : Int64)), .second, .val (.long (-1 : Int64)), .second, .unset, .unset, .unset, .unset, .unset, .unset, .unset, .unset] [])) rfl (hb hby at_76)) ?_
    show G (s₁.setTop (mkF m 79 #[.val (.int i0), .val (.long i1), .second, .val (.long i2), .second, .val (.long i3), .second, .val (.long i4), .second, .val (.int i5), .val (.int (1 : Int32)), .val (.double FP.dconst0), .second, .val (.long (9223372036854775807 : Int64)), .second, .val (.long (0 : Int64)), .second, .val (.long (-1 : Int64)), .second, .unset, .unset, .unset, .unset, .unset, .unset, .unset, .unset] [(.long (9223372036854775807 : Int64))]))
    refine hG _ _ (fun t_ k_ => XS.goto X0.here hx rfl (pc0 := 79) (pc' := 84) rfl (hb hby at_79) (by decide) (by decide) k_) ?_
    show G (s₁.setTop (mkF m 84 #[.val (.int i0), .val (.long i1), .second, .val (.long i2), .second, .val (.long i3), .second, .val (.long i4), .second, .val (.int i5), .val (.int (1 : Int32)), .val (.double FP.dconst0), .second, .val (.long (9223372036854775807 : Int64)), .second, .val (.long (0 : Int64)), .second, .val (.long (-1 : Int64)), .second, .unset, .unset, .unset, .unset, .unset, .unset, .unset, .unset] [(.long (9223372036854775807 : Int64))]))
    refine hG _ _ (fun t_ k_ => XS.lstore X0.here hx rfl (hb hby at_84) rfl (l' := #[.val (.int i0), .val (.long i1), .second, .val (.long i2), .second, .val (.long i3), .second, .val (.long i4), .second, .val (.int i5), .val (.int (1 : Int32)), .val (.double FP.dconst0), .second, .val (.long (9223372036854775807 : Int64)), .second, .val (.long (0 : Int64)), .second, .val (.long (-1 : Int64)), .second, .val (.long (9223372036854775807 : Int64)), .second, .unset, .unset, .unset, .unset, .unset, .unset]) rfl k_) ?_
    show G (s₁.setTop (mkF m 86 #[.val (.int i0), .val (.long i1), .second, .val (.long i2), .second, .val (.long i3), .second, .val (.long i4), .second, .val (.int i5), .val (.int (1 : Int32)), .val (.double FP.dconst0), .second, .val (.long (9223372036854775807 : Int64)), .second, .val (.long (0 : Int64)), .second, .val (.long (-1 : Int64)), .second, .val (.long (9223372036854775807 : Int64)), .second, .unset, .unset, .unset, .unset, .unset, .unset] []))
    obtain ⟨T33, h33, X33, e33, E33, A33, D33, -, st33⟩ := newO X0 hx hZ hown (hw _ (List.mem_of_getElem? (i := 1) rfl)) (hw _ (List.mem_of_getElem? (i := 2) rfl)) (hw _ (List.mem_of_getElem? (i := 3) rfl)) e0 (g := (mkF m 86 #[.val (.int i0), .val (.long i1), .second, .val (.long i2), .second, .val (.long i3), .second, .val (.long i4), .second, .val (.int i5), .val (.int (1 : Int32)), .val (.double FP.dconst0), .second, .val (.long (9223372036854775807 : Int64)), .second, .val (.long (0 : Int64)), .second, .val (.long (-1 : Int64)), .second, .val (.long (9223372036854775807 : Int64)), .second, .unset, .unset, .unset, .unset, .unset, .unset] [])) rfl (hb hby at_86) (by decide) (by decide)
    obtain ⟨b33, z33⟩ : ∃ z, z = h0.size := ⟨_, rfl⟩
    rw [← z33] at A33 D33 st33
    refine hG _ _ st33 ?_
    have K33 : Keep h0 h33 [] := (Keep.refl h0 []).ext E33
    have O33 : own_Old Z h33 := O0.ext E33
    show G (T33.setTop (mkF m 89 #[.val (.int i0), .val (.long i1), .second, .val (.long i2), .second, .val (.long i3), .second, .val (.long i4), .second, .val (.int i5), .val (.int (1 : Int32)), .val (.double FP.dconst0), .second, .val (.long (9223372036854775807 : Int64)), .second, .val (.long (0 : Int64)), .second, .val (.long (-1 : Int64)), .second, .val (.long (9223372036854775807 : Int64)), .second, .unset, .unset, .unset, .unset, .unset, .unset] [(.ref b33)]))
    refine hG _ _ (fun t_ k_ => XS.dup X33.here hx rfl (hb hby at_89) rfl rfl k_) ?_
    show G (T33.setTop (mkF m 90 #[.val (.int i0), .val (.long i1), .second, .val (.long i2), .second, .val (.long i3), .second, .val (.long i4), .second, .val (.int i5), .val (.int (1 : Int32)), .val (.double FP.dconst0), .second, .val (.long (9223372036854775807 : Int64)), .second, .val (.long (0 : Int64)), .second, .val (.long (-1 : Int64)), .second, .val (.long (9223372036854775807 : Int64)), .second, .unset, .unset, .unset, .unset, .unset, .unset] [(.ref b33), (.ref b33)]))
    refine own_callI X33 hx hZ hG hown rfl (hw _ (List.mem_of_getElem? (i := 4) rfl)) (hw _ (List.mem_of_getElem? (i := 5) rfl)) (hw _ (List.mem_of_getElem? (i := 3) rfl)) (hw _ (List.mem_of_getElem? (i := 6) rfl)) (by decide) 1 (own_anew l Z a0 hw b33 dflt (.int (0 : Int32)) .null (.int (0 : Int32)) h33 O33 A33 (own_ge O0 (Nat.le_of_eq z33.symm)) g2_S (D33 (Or.inl (hw _ (List.mem_of_getElem? (i := 23) rfl))) (ty := .int) (by decide)) (D33 (Or.inl (hw _ (List.mem_of_getElem? (i := 26) rfl))) (ty := (.array (.object "java/lang/Object"))) (by decide)) (D33 (Or.inl (hw _ (List.mem_of_getElem? (i := 44) rfl))) (ty := .int) (by decide))) (by decide) (by decide) e33 (by rw [hml]; rfl) (lenOf own_pd4 rfl) (argsL := []) (rest := [(.ref b33)]) rfl rfl (Nat.le_of_eq rfl) (hb hby at_90) (by decide) (by decide) ?_
    intro T34 h34 v34 L34 X34 e34 q34
    obtain ⟨rfl, M34, J34, r34_0, r34_1, r34_2, r34_3⟩ := q34
    have N34 := Fr.app N0 M34
    have K34 : Keep h0 h34 [] := K33.trans J34 (allS (Or.inr (Nat.le_trans (Keep.refl h0 []).1 (Nat.le_of_eq z33.symm))) all0)
    have O34 : own_Old Z h34 := O33.keep J34 (allS (own_ge O0 (Nat.le_of_eq z33.symm)) all0)
    show G (T34.setTop (mkF m 93 #[.val (.int i0), .val (.long i1), .second, .val (.long i2), .second, .val (.long i3), .second, .val (.long i4), .second, .val (.int i5), .val (.int (1 : Int32)), .val (.double FP.dconst0), .second, .val (.long (9223372036854775807 : Int64)), .second, .val (.long (0 : Int64)), .second, .val (.long (-1 : Int64)), .second, .val (.long (9223372036854775807 : Int64)), .second, .unset, .unset, .unset, .unset, .unset, .unset] [(.ref b33)]))
    refine hG _ _ (fun t_ k_ => XS.astore X34.here hx rfl (hb hby at_93) rfl rfl (l' := #[.val (.int i0), .val (.long i1), .second, .val (.long i2), .second, .val (.long i3), .second, .val (.long i4), .second, .val (.int i5), .val (.int (1 : Int32)), .val (.double FP.dconst0), .second, .val (.long (9223372036854775807 : Int64)), .second, .val (.long (0 : Int64)), .second, .val (.long (-1 : Int64)), .second, .val (.long (9223372036854775807 : Int64)), .second, .val (.ref b33), .unset, .unset, .unset, .unset, .unset]) rfl k_) ?_
    show G (T34.setTop (mkF m 95 #[.val (.int i0), .val (.long i1), .second, .val (.long i2), .second, .val (.long i3), .second, .val (.long i4), .second, .val (.int i5), .val (.int (1 : Int32)), .val (.double FP.dconst0), .second, .val (.long (9223372036854775807 : Int64)), .second, .val (.long (0 : Int64)), .second, .val (.long (-1 : Int64)), .second, .val (.long (9223372036854775807 : Int64)), .second, .val (.ref b33), .unset, .unset, .unset, .unset, .unset] []))
    refine hG _ _ (fun t_ k_ => XS.iload X34.here hx rfl (hb hby at_95) rfl k_) ?_
    show G (T34.setTop (mkF m 97 #[.val (.int i0), .val (.long i1), .second, .val (.long i2), .second, .val (.long i3), .second, .val (.long i4), .second, .val (.int i5), .val (.int (1 : Int32)), .val (.double FP.dconst0), .second, .val (.long (9223372036854775807 : Int64)), .second, .val (.long (0 : Int64)), .second, .val (.long (-1 : Int64)), .second, .val (.long (9223372036854775807 : Int64)), .second, .val (.ref b33), .unset, .unset, .unset, .unset, .unset] [(.int (1 : Int32))]))
    refine hG _ _ (fun t_ k_ => XS.ifYes X34.here hx rfl (pc0 := 97) (pc' := 125) rfl (hb hby at_97) rfl ((if0 _ _).trans (feq (by decide)).2) (by decide) (by decide) k_) ?_
    show G (T34.setTop (mkF m 125 #[.val (.int i0), .val (.long i1), .second, .val (.long i2), .second, .val (.long i3), .second, .val (.long i4), .second, .val (.int i5), .val (.int (1 : Int32)), .val (.double FP.dconst0), .second, .val (.long (9223372036854775807 : Int64)), .second, .val (.long (0 : Int64)), .second, .val (.long (-1 : Int64)), .second, .val (.long (9223372036854775807 : Int64)), .second, .val (.ref b33), .unset, .unset, .unset, .unset, .unset] []))
    obtain ⟨T35, h35, X35, e35, E35, A35, D35, -, st35⟩ := newO X34 hx hZ hown (hw _ (List.mem_of_getElem? (i := 27) rfl)) (hw _ (List.mem_of_getElem? (i := 28) rfl)) (hw _ (List.mem_of_getElem? (i := 29) rfl)) e34 (g := (mkF m 125 #[.val (.int i0), .val (.long i1), .second, .val (.long i2), .second, .val (.long i3), .second, .val (.long i4), .second, .val (.int i5), .val (.int (1 : Int32)), .val (.double FP.dconst0), .second, .val (.long (9223372036854775807 : Int64)), .second, .val (.long (0 : Int64)), .second, .val (.long (-1 : Int64)), .second, .val (.long (9223372036854775807 : Int64)), .second, .val (.ref b33), .unset, .unset, .unset, .unset, .unset] [])) rfl (hb hby at_125) (by decide) (by decide)
    obtain ⟨b35, z35⟩ : ∃ z, z = h34.size := ⟨_, rfl⟩
    rw [← z35] at A35 D35 st35
    refine hG _ _ st35 ?_
    have K35 : Keep h0 h35 [] := K34.ext E35
    have O35 : own_Old Z h35 := O34.ext E35
    show G (T35.setTop (mkF m 128 #[.val (.int i0), .val (.long i1), .second, .val (.long i2), .second, .val (.long i3), .second, .val (.long i4), .second, .val (.int i5), .val (.int (1 : Int32)), .val (.double FP.dconst0), .second, .val (.long (9223372036854775807 : Int64)), .second, .val (.long (0 : Int64)), .second, .val (.long (-1 : Int64)), .second, .val (.long (9223372036854775807 : Int64)), .second, .val (.ref b33), .unset, .unset, .unset, .unset, .unset] [(.ref b35)]))
    refine hG _ _ (fun t_ k_ => XS.dup X35.here hx rfl (hb hby at_128) rfl rfl k_) ?_
    show G (T35.setTop (mkF m 129 #[.val (.int i0), .val (.long i1), .second, .val (.long i2), .second, .val (.long i3), .second, .val (.long i4), .second, .val (.int i5), .val (.int (1 : Int32)), .val (.double FP.dconst0), .second, .val (.long (9223372036854775807 : Int64)), .second, .val (.long (0 : Int64)), .second, .val (.long (-1 : Int64)), .second, .val (.long (9223372036854775807 : Int64)), .second, .val (.ref b33), .unset, .unset, .unset, .unset, .unset] [(.ref b35), (.ref b35)]))
    refine hG _ _ (fun t_ k_ => XS.dload X35.here hx rfl (hb hby at_129) rfl k_) ?_
    show G (T35.setTop (mkF m 131 #[.val (.int i0), .val (.long i1), .second, .val (.long i2), .second, .val (.long i3), .second, .val (.long i4), .second, .val (.int i5), .val (.int (1 : Int32)), .val (.double FP.dconst0), .second, .val (.long (9223372036854775807 : Int64)), .second, .val (.long (0 : Int64)), .second, .val (.long (-1 : Int64)), .second, .val (.long (9223372036854775807 : Int64)), .second, .val (.ref b33), .unset, .unset, .unset, .unset, .unset] [(.double FP.dconst0), (.ref b35), (.ref b35)]))
    refine hG _ _ (fun t_ k_ => XS.lload X35.here hx rfl (hb hby at_131) rfl k_) ?_
    show G (T35.setTop (mkF m 133 #[.val (.int i0), .val (.long i1), .second, .val (.long i2), .second, .val (.long i3), .second, .val (.long i4), .second, .val (.int i5), .val (.int (1 : Int32)), .val (.double FP.dconst0), .second, .val (.long (9223372036854775807 : Int64)), .second, .val (.long (0 : Int64)), .second, .val (.long (-1 : Int64)), .second, .val (.long (9223372036854775807 : Int64)), .second, .val (.ref b33), .unset, .unset, .unset, .unset, .unset] [(.long (9223372036854775807 : Int64)), (.double FP.dconst0), (.ref b35), (.ref b35)]))
    refine hG _ _ (fun t_ k_ => XS.lload X35.here hx rfl (hb hby at_133) rfl k_) ?_
    show G (T35.setTop (mkF m 135 #[.val (.int i0), .val (.long i1), .second, .val (.long i2), .second, .val (.long i3), .second, .val (.long i4), .second, .val (.int i5), .val (.int (1 : Int32)), .val (.double FP.dconst0), .second, .val (.long (9223372036854775807 : Int64)), .second, .val (.long (0 : Int64)), .second, .val (.long (-1 : Int64)), .second, .val (.long (9223372036854775807 : Int64)), .second, .val (.ref b33), .unset, .unset, .unset, .unset, .unset] [(.long (0 : Int64)), (.long (9223372036854775807 : Int64)), (.double FP.dconst0), (.ref b35), (.ref b35)]))
    refine hG _ _ (fun t_ k_ => XS.lload X35.here hx rfl (hb hby at_135) rfl k_) ?_
    show G (T35.setTop (mkF m 137 #[.val (.int i0), .val (.long i1), .second, .val (.long i2), .second, .val (.long i3), .second, .val (.long i4), .second, .val (.int i5), .val (.int (1 : Int32)), .val (.double FP.dconst0), .second, .val (.long (9223372036854775807 : Int64)), .second, .val (.long (0 : Int64)), .second, .val (.long (-1 : Int64)), .second, .val (.long (9223372036854775807 : Int64)), .second, .val (.ref b33), .unset, .unset, .unset, .unset, .unset] [(.long (-1 : Int64)), (.long (0 : Int64)), (.long (9223372036854775807 : Int64)), (.double FP.dconst0), (.ref b35), (.ref b35)]))
    refine hG _ _ (fun t_ k_ => XS.lload X35.here hx rfl (hb hby at_137) rfl k_) ?_
    show G (T35.setTop (mkF m 139 #[.val (.int i0), .val (.long i1), .second, .val (.long i2), .second, .val (.long i3), .second, .val (.long i4), .second, .val (.int i5), .val (.int (1 : Int32)), .val (.double FP.dconst0), .second, .val (.long (9223372036854775807 : Int64)), .second, .val (.long (0 : Int64)), .second, .val (.long (-1 : Int64)), .second, .val (.long (9223372036854775807 : Int64)), .second, .val (.ref b33), .unset, .unset, .unset, .unset, .unset] [(.long (9223372036854775807 : Int64)), (.long (-1 : Int64)), (.long (0 : Int64)), (.long (9223372036854775807 : Int64)), (.double FP.dconst0), (.ref b35), (.ref b35)]))
    refine hG _ _ (fun t_ k_ => XS.aload X35.here hx rfl (hb hby at_139) rfl rfl k_) ?_
    show G (T35.setTop (mkF m 141 #[.val (.int i0), .val (.long i1), .second, .val (.long i2), .second, .val (.long i3), .second, .val (.long i4), .second, .val (.int i5), .val (.int (1 : Int32)), .val (.double FP.dconst0), .second, .val (.long (9223372036854775807 : Int64)), .second, .val (.long (0 : Int64)), .second, .val (.long (-1 : Int64)), .second, .val (.long (9223372036854775807 : Int64)), .second, .val (.ref b33), .unset, .unset, .unset, .unset, .unset] [(.ref b33), (.long (9223372036854775807 : Int64)), (.long (-1 : Int64)), (.long (0 : Int64)), (.long (9223372036854775807 : Int64)), (.double FP.dconst0), (.ref b35), (.ref b35)]))
    have f37 := (r34_0.ext E35)
    have f38 := (r34_3.ext E35)
    refine own_callI X35 hx hZ hG hown rfl (hw _ (List.mem_of_getElem? (i := 30) rfl)) (hw _ (List.mem_of_getElem? (i := 31) rfl)) (hw _ (List.mem_of_getElem? (i := 29) rfl)) (hw _ (List.mem_of_getElem? (i := 32) rfl)) (by decide) 1 (own_dinit l Z a0 hw b35 FP.dconst0 (9223372036854775807 : Int64) (0 : Int64) (-1 : Int64) (9223372036854775807 : Int64) b33 (0 : Int32) (.int (0 : Int32)) (.double 0) (.long (0 : Int64)) (.long (0 : Int64)) (.long (0 : Int64)) (.long (0 : Int64)) .null h35 O35 A35 (own_ge O34 (Nat.le_of_eq z35.symm)) f37 f38 (own_ne r34_0.lt (Nat.le_of_eq z35.symm)) (D35 (Or.inr (hw _ (List.mem_of_getElem? (i := 46) rfl))) (ty := .boolean) (by decide)) (D35 (Or.inr (hw _ (List.mem_of_getElem? (i := 48) rfl))) (ty := .double) (by decide)) (D35 (Or.inr (hw _ (List.mem_of_getElem? (i := 50) rfl))) (ty := .long) (by decide)) (D35 (Or.inr (hw _ (List.mem_of_getElem? (i := 52) rfl))) (ty := .long) (by decide)) (D35 (Or.inr (hw _ (List.mem_of_getElem? (i := 54) rfl))) (ty := .long) (by decide)) (D35 (Or.inr (hw _ (List.mem_of_getElem? (i := 56) rfl))) (ty := .long) (by decide)) (D35 (Or.inr (hw _ (List.mem_of_getElem? (i := 58) rfl))) (ty := (.object "java/util/List")) (by decide))) (by decide) (by decide) e35 (by rw [hml]; rfl) (lenOf own_pd11 rfl) (argsL := [(.double FP.dconst0), (.long (9223372036854775807 : Int64)), (.long (0 : Int64)), (.long (-1 : Int64)), (.long (9223372036854775807 : Int64)), (.ref b33)]) (rest := [(.ref b35)]) rfl rfl (Nat.le_of_eq rfl) (hb hby at_141) (by decide) (by decide) ?_
    intro T36 h36 v36 L36 X36 e36 q36
    obtain ⟨rfl, M36, J36, r36_0⟩ := q36
    have N36 := Fr.app N34 M36
    have K36 : Keep h0 h36 [] := K35.trans J36 (allS (Or.inr (Nat.le_trans K34.1 (Nat.le_of_eq z35.symm))) all0)
    have O36 : own_Old Z h36 := O35.keep J36 (allS (own_ge O34 (Nat.le_of_eq z35.symm)) all0)
    show G (T36.setTop (mkF m 144 #[.val (.int i0), .val (.long i1), .second, .val (.long i2), .second, .val (.long i3), .second, .val (.long i4), .second, .val (.int i5), .val (.int (1 : Int32)), .val (.double FP.dconst0), .second, .val (.long (9223372036854775807 : Int64)), .second, .val (.long (0 : Int64)), .second, .val (.long (-1 : Int64)), .second, .val (.long (9223372036854775807 : Int64)), .second, .val (.ref b33), .unset, .unset, .unset, .unset, .unset] [(.ref b35)]))
    refine hG _ _ (fun t_ k_ => XS.astore X36.here hx rfl (hb hby at_144) rfl rfl (l' := #[.val (.int i0), .val (.long i1), .second, .val (.long i2), .second, .val (.long i3), .second, .val (.long i4), .second, .val (.int i5), .val (.int (1 : Int32)), .val (.double FP.dconst0), .second, .val (.long (9223372036854775807 : Int64)), .second, .val (.long (0 : Int64)), .second, .val (.long (-1 : Int64)), .second, .val (.long (9223372036854775807 : Int64)), .second, .val (.ref b33), .val (.ref b35), .unset, .unset, .unset, .unset]) rfl k_) ?_
    show G (T36.setTop (mkF m 146 #[.val (.int i0), .val (.long i1), .second, .val (.long i2), .second, .val (.long i3), .second, .val (.long i4), .second, .val (.int i5), .val (.int (1 : Int32)), .val (.double FP.dconst0), .second, .val (.long (9223372036854775807 : Int64)), .second, .val (.long (0 : Int64)), .second, .val (.long (-1 : Int64)), .second, .val (.long (9223372036854775807 : Int64)), .second, .val (.ref b33), .val (.ref b35), .unset, .unset, .unset, .unset] []))
    refine own_callS X36 hx hZ hG hown (hw _ (List.mem_of_getElem? (i := 59) rfl)) (hw _ (List.mem_of_getElem? (i := 60) rfl)) (hw _ (List.mem_of_getElem? (i := 29) rfl)) (hw _ (List.mem_of_getElem? (i := 61) rfl)) (by decide) 0 (own_unl l Z a0 hw u h36 O36 g4_S) (by decide) (by decide) e36 (by rw [hml]; rfl) (lenOf own_pd12 rfl) (argsL := []) (rest := []) rfl rfl (Nat.le_of_eq rfl) (hb hby at_146) (by decide) (by decide) ?_
    intro T39 h39 v39 L39 X39 e39 q39
    obtain ⟨rfl, M39, rfl⟩ := q39
    have N39 := Fr.app N36 M39
    show G (T39.setTop (mkF m 149 #[.val (.int i0), .val (.long i1), .second, .val (.long i2), .second, .val (.long i3), .second, .val (.long i4), .second, .val (.int i5), .val (.int (1 : Int32)), .val (.double FP.dconst0), .second, .val (.long (9223372036854775807 : Int64)), .second, .val (.long (0 : Int64)), .second, .val (.long (-1 : Int64)), .second, .val (.long (9223372036854775807 : Int64)), .second, .val (.ref b33), .val (.ref b35), .unset, .unset, .unset, .unset] [(.ref u)]))
    refine hG _ _ (fun t_ k_ => XS.astore X39.here hx rfl (hb hby at_149) rfl rfl (l' := #[.val (.int i0), .val (.long i1), .second, .val (.long i2), .second, .val (.long i3), .second, .val (.long i4), .second, .val (.int i5), .val (.int (1 : Int32)), .val (.double FP.dconst0), .second, .val (.long (9223372036854775807 : Int64)), .second, .val (.long (0 : Int64)), .second, .val (.long (-1 : Int64)), .second, .val (.long (9223372036854775807 : Int64)), .second, .val (.ref b33), .val (.ref b35), .val (.ref u), .unset, .unset, .unset]) rfl k_) ?_
    show G (T39.setTop (mkF m 151 #[.val (.int i0), .val (.long i1), .second, .val (.long i2), .second, .val (.long i3), .second, .val (.long i4), .second, .val (.int i5), .val (.int (1 : Int32)), .val (.double FP.dconst0), .second, .val (.long (9223372036854775807 : Int64)), .second, .val (.long (0 : Int64)), .second, .val (.long (-1 : Int64)), .second, .val (.long (9223372036854775807 : Int64)), .second, .val (.ref b33), .val (.ref b35), .val (.ref u), .unset, .unset, .unset] []))
    refine hG _ _ (fun t_ k_ => XS.aload X39.here hx rfl (hb hby at_151) rfl rfl k_) ?_
    show G (T39.setTop (mkF m 153 #[.val (.int i0), .val (.long i1), .second, .val (.long i2), .second, .val (.long i3), .second, .val (.long i4), .second, .val (.int i5), .val (.int (1 : Int32)), .val (.double FP.dconst0), .second, .val (.long (9223372036854775807 : Int64)), .second, .val (.long (0 : Int64)), .second, .val (.long (-1 : Int64)), .second, .val (.long (9223372036854775807 : Int64)), .second, .val (.ref b33), .val (.ref b35), .val (.ref u), .unset, .unset, .unset] [(.ref u)]))
    have f41 := ((((g5_E.ext E33).keep J34).ext E35).keep J36)
    refine own_callV (C := "com/example/danaid/danaid/Decision") X39 hx hZ hG hown (hw _ (List.mem_of_getElem? (i := 64) rfl)) (hw _ (List.mem_of_getElem? (i := 65) rfl)) (hw _ (List.mem_of_getElem? (i := 67) rfl)) (hw _ (List.mem_of_getElem? (i := 66) rfl)) (hw _ (List.mem_of_getElem? (i := 29) rfl)) (hw _ (List.mem_of_getElem? (i := 68) rfl)) (by decide) 0 (own_isu1 l Z a0 hw u h36 O36 g4_S) (by decide) (by decide) e39 f41 (by rw [hml]; rfl) (lenOf own_pd10 rfl) (argsL := []) (rest := []) rfl rfl (Nat.le_of_eq rfl) (hb hby at_153) (by decide) (by decide) ?_
    intro T40 h40 v40 L40 X40 e40 q40
    obtain ⟨rfl, M40, rfl⟩ := q40
    have N40 := Fr.app N39 M40
    show G (T40.setTop (mkF m 156 #[.val (.int i0), .val (.long i1), .second, .val (.long i2), .second, .val (.long i3), .second, .val (.long i4), .second, .val (.int i5), .val (.int (1 : Int32)), .val (.double FP.dconst0), .second, .val (.long (9223372036854775807 : Int64)), .second, .val (.long (0 : Int64)), .second, .val (.long (-1 : Int64)), .second, .val (.long (9223372036854775807 : Int64)), .second, .val (.ref b33), .val (.ref b35), .val (.ref u), .unset, .unset, .unset] [(.int (1 : Int32))]))
    refine hG _ _ (fun t_ k_ => XS.istore X40.here hx rfl (hb hby at_156) rfl (l' := #[.val (.int i0), .val (.long i1), .second, .val (.long i2), .second, .val (.long i3), .second, .val (.long i4), .second, .val (.int i5), .val (.int (1 : Int32)), .val (.double FP.dconst0), .second, .val (.long (9223372036854775807 : Int64)), .second, .val (.long (0 : Int64)), .second, .val (.long (-1 : Int64)), .second, .val (.long (9223372036854775807 : Int64)), .second, .val (.ref b33), .val (.ref b35), .val (.ref u), .val (.int (1 : Int32)), .unset, .unset]) rfl k_) ?_
    show G (T40.setTop (mkF m 158 #[.val (.int i0), .val (.long i1), .second, .val (.long i2), .second, .val (.long i3), .second, .val (.long i4), .second, .val (.int i5), .val (.int (1 : Int32)), .val (.double FP.dconst0), .second, .val (.long (9223372036854775807 : Int64)), .second, .val (.long (0 : Int64)), .second, .val (.long (-1 : Int64)), .second, .val (.long (9223372036854775807 : Int64)), .second, .val (.ref b33), .val (.ref b35), .val (.ref u), .val (.int (1 : Int32)), .unset, .unset] []))
    refine own_callS X40 hx hZ hG hown (hw _ (List.mem_of_getElem? (i := 59) rfl)) (hw _ (List.mem_of_getElem? (i := 60) rfl)) (hw _ (List.mem_of_getElem? (i := 29) rfl)) (hw _ (List.mem_of_getElem? (i := 61) rfl)) (by decide) 0 (own_unl l Z a0 hw u h36 O36 g4_S) (by decide) (by decide) e40 (by rw [hml]; rfl) (lenOf own_pd12 rfl) (argsL := []) (rest := []) rfl rfl (Nat.le_of_eq rfl) (hb hby at_158) (by decide) (by decide) ?_
    intro T42 h42 v42 L42 X42 e42 q42
    obtain ⟨rfl, M42, rfl⟩ := q42
    have N42 := Fr.app N40 M42
    show G (T42.setTop (mkF m 161 #[.val (.int i0), .val (.long i1), .second, .val (.long i2), .second, .val (.long i3), .second, .val (.long i4), .second, .val (.int i5), .val (.int (1 : Int32)), .val (.double FP.dconst0), .second, .val (.long (9223372036854775807 : Int64)), .second, .val (.long (0 : Int64)), .second, .val (.long (-1 : Int64)), .second, .val (.long (9223372036854775807 : Int64)), .second, .val (.ref b33), .val (.ref b35), .val (.ref u), .val (.int (1 : Int32)), .unset, .unset] [(.ref u)]))
    refine own_callV (C := "com/example/danaid/danaid/Decision") X42 hx hZ hG hown (hw _ (List.mem_of_getElem? (i := 64) rfl)) (hw _ (List.mem_of_getElem? (i := 65) rfl)) (hw _ (List.mem_of_getElem? (i := 67) rfl)) (hw _ (List.mem_of_getElem? (i := 66) rfl)) (hw _ (List.mem_of_getElem? (i := 29) rfl)) (hw _ (List.mem_of_getElem? (i := 68) rfl)) (by decide) 0 (own_isu1 l Z a0 hw u h36 O36 g4_S) (by decide) (by decide) e42 f41 (by rw [hml]; rfl) (lenOf own_pd10 rfl) (argsL := []) (rest := []) rfl rfl (Nat.le_of_eq rfl) (hb hby at_161) (by decide) (by decide) ?_
    intro T43 h43 v43 L43 X43 e43 q43
    obtain ⟨rfl, M43, rfl⟩ := q43
    have N43 := Fr.app N42 M43
    show G (T43.setTop (mkF m 164 #[.val (.int i0), .val (.long i1), .second, .val (.long i2), .second, .val (.long i3), .second, .val (.long i4), .second, .val (.int i5), .val (.int (1 : Int32)), .val (.double FP.dconst0), .second, .val (.long (9223372036854775807 : Int64)), .second, .val (.long (0 : Int64)), .second, .val (.long (-1 : Int64)), .second, .val (.long (9223372036854775807 : Int64)), .second, .val (.ref b33), .val (.ref b35), .val (.ref u), .val (.int (1 : Int32)), .unset, .unset] [(.int (1 : Int32))]))
    refine hG _ _ (fun t_ k_ => XS.istore X43.here hx rfl (hb hby at_164) rfl (l' := #[.val (.int i0), .val (.long i1), .second, .val (.long i2), .second, .val (.long i3), .second, .val (.long i4), .second, .val (.int i5), .val (.int (1 : Int32)), .val (.double FP.dconst0), .second, .val (.long (9223372036854775807 : Int64)), .second, .val (.long (0 : Int64)), .second, .val (.long (-1 : Int64)), .second, .val (.long (9223372036854775807 : Int64)), .second, .val (.ref b33), .val (.ref b35), .val (.ref u), .val (.int (1 : Int32)), .val (.int (1 : Int32)), .unset]) rfl k_) ?_
    show G (T43.setTop (mkF m 166 #[.val (.int i0), .val (.long i1), .second, .val (.long i2), .second, .val (.long i3), .second, .val (.long i4), .second, .val (.int i5), .val (.int (1 : Int32)), .val (.double FP.dconst0), .second, .val (.long (9223372036854775807 : Int64)), .second, .val (.long (0 : Int64)), .second, .val (.long (-1 : Int64)), .second, .val (.long (9223372036854775807 : Int64)), .second, .val (.ref b33), .val (.ref b35), .val (.ref u), .val (.int (1 : Int32)), .val (.int (1 : Int32)), .unset] []))
    refine hG _ _ (fun t_ k_ => XS.aload X43.here hx rfl (hb hby at_166) rfl rfl k_) ?_
    show G (T43.setTop (mkF m 168 #[.val (.int i0), .val (.long i1), .second, .val (.long i2), .second, .val (.long i3), .second, .val (.long i4), .second, .val (.int i5), .val (.int (1 : Int32)), .val (.double FP.dconst0), .second, .val (.long (9223372036854775807 : Int64)), .second, .val (.long (0 : Int64)), .second, .val (.long (-1 : Int64)), .second, .val (.long (9223372036854775807 : Int64)), .second, .val (.ref b33), .val (.ref b35), .val (.ref u), .val (.int (1 : Int32)), .val (.int (1 : Int32)), .unset] [(.ref b35)]))
    refine own_callV (C := "com/example/danaid/danaid/Decision") X43 hx hZ hG hown (hw _ (List.mem_of_getElem? (i := 64) rfl)) (hw _ (List.mem_of_getElem? (i := 65) rfl)) (hw _ (List.mem_of_getElem? (i := 67) rfl)) (hw _ (List.mem_of_getElem? (i := 66) rfl)) (hw _ (List.mem_of_getElem? (i := 29) rfl)) (hw _ (List.mem_of_getElem? (i := 68) rfl)) (by decide) 0 (own_isu0 l Z a0 hw b35 u h36 O36 g4_S (Ne.symm (own_ne (Nat.lt_of_lt_of_le (Nat.lt_of_lt_of_le g5_E.lt E33.1) J34.1) (Nat.le_of_eq z35.symm)))) (by decide) (by decide) e43 r36_0 (by rw [hml]; rfl) (lenOf own_pd10 rfl) (argsL := []) (rest := []) rfl rfl (Nat.le_of_eq rfl) (hb hby at_168) (by decide) (by decide) ?_
    intro T44 h44 v44 L44 X44 e44 q44
    obtain ⟨rfl, M44, rfl⟩ := q44
    have N44 := Fr.app N43 M44
    show G (T44.setTop (mkF m 171 #[.val (.int i0), .val (.long i1), .second, .val (.long i2), .second, .val (.long i3), .second, .val (.long i4), .second, .val (.int i5), .val (.int (1 : Int32)), .val (.double FP.dconst0), .second, .val (.long (9223372036854775807 : Int64)), .second, .val (.long (0 : Int64)), .second, .val (.long (-1 : Int64)), .second, .val (.long (9223372036854775807 : Int64)), .second, .val (.ref b33), .val (.ref b35), .val (.ref u), .val (.int (1 : Int32)), .val (.int (1 : Int32)), .unset] [(.int (0 : Int32))]))
    refine hG _ _ (fun t_ k_ => XS.istore X44.here hx rfl (hb hby at_171) rfl (l' := #[.val (.int i0), .val (.long i1), .second, .val (.long i2), .second, .val (.long i3), .second, .val (.long i4), .second, .val (.int i5), .val (.int (1 : Int32)), .val (.double FP.dconst0), .second, .val (.long (9223372036854775807 : Int64)), .second, .val (.long (0 : Int64)), .second, .val (.long (-1 : Int64)), .second, .val (.long (9223372036854775807 : Int64)), .second, .val (.ref b33), .val (.ref b35), .val (.ref u), .val (.int (1 : Int32)), .val (.int (1 : Int32)), .val (.int (0 : Int32))]) rfl k_) ?_
    show G (T44.setTop (mkF m 173 #[.val (.int i0), .val (.long i1), .second, .val (.long i2), .second, .val (.long i3), .second, .val (.long i4), .second, .val (.int i5), .val (.int (1 : Int32)), .val (.double FP.dconst0), .second, .val (.long (9223372036854775807 : Int64)), .second, .val (.long (0 : Int64)), .second, .val (.long (-1 : Int64)), .second, .val (.long (9223372036854775807 : Int64)), .second, .val (.ref b33), .val (.ref b35), .val (.ref u), .val (.int (1 : Int32)), .val (.int (1 : Int32)), .val (.int (0 : Int32))] []))
    refine hG _ _ (fun t_ k_ => XS.iload X44.here hx rfl (hb hby at_173) rfl k_) ?_
    show G (T44.setTop (mkF m 175 #[.val (.int i0), .val (.long i1), .second, .val (.long i2), .second, .val (.long i3), .second, .val (.long i4), .second, .val (.int i5), .val (.int (1 : Int32)), .val (.double FP.dconst0), .second, .val (.long (9223372036854775807 : Int64)), .second, .val (.long (0 : Int64)), .second, .val (.long (-1 : Int64)), .second, .val (.long (9223372036854775807 : Int64)), .second, .val (.ref b33), .val (.ref b35), .val (.ref u), .val (.int (1 : Int32)), .val (.int (1 : Int32)), .val (.int (0 : Int32))] [(.int (1 : Int32))]))
    refine hG _ _ (fun t_ k_ => XS.ifNo X44.here hx rfl (hb hby at_175) rfl ((if0 _ _).trans (feq (by decide)).1) k_) ?_
    show G (T44.setTop (mkF m 178 #[.val (.int i0), .val (.long i1), .second, .val (.long i2), .second, .val (.long i3), .second, .val (.long i4), .second, .val (.int i5), .val (.int (1 : Int32)), .val (.double FP.dconst0), .second, .val (.long (9223372036854775807 : Int64)), .second, .val (.long (0 : Int64)), .second, .val (.long (-1 : Int64)), .second, .val (.long (9223372036854775807 : Int64)), .second, .val (.ref b33), .val (.ref b35), .val (.ref u), .val (.int (1 : Int32)), .val (.int (1 : Int32)), .val (.int (0 : Int32))] []))
    refine hG _ _ (fun t_ k_ => XS.iload X44.here hx rfl (hb hby at_178) rfl k_) ?_
    show G (T44.setTop (mkF m 180 #[.val (.int i0), .val (.long i1), .second, .val (.long i2), .second, .val (.long i3), .second, .val (.long i4), .second, .val (.int i5), .val (.int (1 : Int32)), .val (.double FP.dconst0), .second, .val (.long (9223372036854775807 : Int64)), .second, .val (.long (0 : Int64)), .second, .val (.long (-1 : Int64)), .second, .val (.long (9223372036854775807 : Int64)), .second, .val (.ref b33), .val (.ref b35), .val (.ref u), .val (.int (1 : Int32)), .val (.int (1 : Int32)), .val (.int (0 : Int32))] [(.int (1 : Int32))]))
    refine hG _ _ (fun t_ k_ => XS.ifNo X44.here hx rfl (hb hby at_180) rfl ((if0 _ _).trans (feq (by decide)).1) k_) ?_
    show G (T44.setTop (mkF m 183 #[.val (.int i0), .val (.long i1), .second, .val (.long i2), .second, .val (.long i3), .second, .val (.long i4), .second, .val (.int i5), .val (.int (1 : Int32)), .val (.double FP.dconst0), .second, .val (.long (9223372036854775807 : Int64)), .second, .val (.long (0 : Int64)), .second, .val (.long (-1 : Int64)), .second, .val (.long (9223372036854775807 : Int64)), .second, .val (.ref b33), .val (.ref b35), .val (.ref u), .val (.int (1 : Int32)), .val (.int (1 : Int32)), .val (.int (0 : Int32))] []))
    refine hG _ _ (fun t_ k_ => XS.iload X44.here hx rfl (hb hby at_183) rfl k_) ?_
    show G (T44.setTop (mkF m 185 #[.val (.int i0), .val (.long i1), .second, .val (.long i2), .second, .val (.long i3), .second, .val (.long i4), .second, .val (.int i5), .val (.int (1 : Int32)), .val (.double FP.dconst0), .second, .val (.long (9223372036854775807 : Int64)), .second, .val (.long (0 : Int64)), .second, .val (.long (-1 : Int64)), .second, .val (.long (9223372036854775807 : Int64)), .second, .val (.ref b33), .val (.ref b35), .val (.ref u), .val (.int (1 : Int32)), .val (.int (1 : Int32)), .val (.int (0 : Int32))] [(.int (0 : Int32))]))
    refine hG _ _ (fun t_ k_ => XS.ifNo X44.here hx rfl (hb hby at_185) rfl ((if0 _ _).trans (teq (by decide)).2) k_) ?_
    show G (T44.setTop (mkF m 188 #[.val (.int i0), .val (.long i1), .second, .val (.long i2), .second, .val (.long i3), .second, .val (.long i4), .second, .val (.int i5), .val (.int (1 : Int32)), .val (.double FP.dconst0), .second, .val (.long (9223372036854775807 : Int64)), .second, .val (.long (0 : Int64)), .second, .val (.long (-1 : Int64)), .second, .val (.long (9223372036854775807 : Int64)), .second, .val (.ref b33), .val (.ref b35), .val (.ref u), .val (.int (1 : Int32)), .val (.int (1 : Int32)), .val (.int (0 : Int32))] []))
    refine hG _ _ (fun t_ k_ => XS.iconst X44.here hx rfl (hb hby at_188) k_) ?_
    show G (T44.setTop (mkF m 189 #[.val (.int i0), .val (.long i1), .second, .val (.long i2), .second, .val (.long i3), .second, .val (.long i4), .second, .val (.int i5), .val (.int (1 : Int32)), .val (.double FP.dconst0), .second, .val (.long (9223372036854775807 : Int64)), .second, .val (.long (0 : Int64)), .second, .val (.long (-1 : Int64)), .second, .val (.long (9223372036854775807 : Int64)), .second, .val (.ref b33), .val (.ref b35), .val (.ref u), .val (.int (1 : Int32)), .val (.int (1 : Int32)), .val (.int (0 : Int32))] [(.int (1 : Int32))]))
    refine hG _ _ (fun t_ k_ => XS.goto X44.here hx rfl (pc0 := 189) (pc' := 193) rfl (hb hby at_189) (by decide) (by decide) k_) ?_
    show G (T44.setTop (mkF m 193 #[.val (.int i0), .val (.long i1), .second, .val (.long i2), .second, .val (.long i3), .second, .val (.long i4), .second, .val (.int i5), .val (.int (1 : Int32)), .val (.double FP.dconst0), .second, .val (.long (9223372036854775807 : Int64)), .second, .val (.long (0 : Int64)), .second, .val (.long (-1 : Int64)), .second, .val (.long (9223372036854775807 : Int64)), .second, .val (.ref b33), .val (.ref b35), .val (.ref u), .val (.int (1 : Int32)), .val (.int (1 : Int32)), .val (.int (0 : Int32))] [(.int (1 : Int32))]))
    exact own_retN hR hret (by simp) X44 hx (hb hby at_193) (by decide) (by decide) (by rw [e44]; exact ⟨rfl, N44, K36⟩)
set_option maxRecDepth 65536 in
set_option maxHeartbeats 40000000 in
theorem own_comes {Post : Tables → Env → Array Value → State → Outcome → State → Prop} (hpost : ∀ tb e args s v u, (limb_1_1.after args s (.returned v) u = true ∧ limb_1_2.after args s (.returned v) u = true ∧ True) → FrameEnd s (.returned v) u (Jvm.fieldLocs frame_1_writes args s ++ Jvm.arrayLocs frame_1_arrays args s ++ Jvm.staticLocs frame_1_statics s) 24 128 → Post tb e args s (.returned v) u) :
    ArmFor flags0 classFile x code maxLocals ret World_1 tables_1 room_1 Calls_1 rest_1 Pre_1 Post := by
  intro l hfl _ _ p e ha hc hk s m args below hf hA hF happ hP
  obtain ⟨hcalls, hrest, hpre⟩ := hP
  obtain ⟨-, -, -, hnamed, -, -, -, hat⟩ := (Spec.applies_iff hf).mp happ
  obtain ⟨hg, hn⟩ := and_e (Cond.before_iff.mp (show (Jvm.Cond.and given_1 narrow_1).before args s = true from hpre))
  obtain ⟨hcnt, hg⟩ := and_e hg
  obtain ⟨g0, hg⟩ := and_e hg
  obtain ⟨g1, hg⟩ := and_e hg
  obtain ⟨g2, hg⟩ := and_e hg
  obtain ⟨g3, hg⟩ := and_e hg
  obtain ⟨g4, hg⟩ := and_e hg
  have g5 := hg
  obtain ⟨w0, w1, w2, w3, w4, w5, rfl⟩ : ∃ w0 w1 w2 w3 w4 w5 : Value, args = #[w0, w1, w2, w3, w4, w5] := by
    have hs : args.size = 6 := by simpa [Cond.value, given_1] using hcnt
    obtain ⟨L⟩ := args
    match L, hs with
    | [w0, w1, w2, w3, w4, w5], _ => exact ⟨w0, w1, w2, w3, w4, w5, rfl⟩
  have hw := fun d (hd : d ∈ tables_1) => atoms_spec (ws := Jvm.Cond.code x code maxLocals ret :: tables_1) hat d (List.mem_cons_of_mem _ hd)
  have hfit : Fit s := fun {y c} hc i hi => by
    obtain ⟨ha, rfl⟩ := Array.getElem?_eq_some_iff.mp hc
    have q := List.all_eq_true.mp ((Array.all_eq_true_iff_forall_mem.mp hF) _ (Array.getElem_mem ha)) i (List.mem_range.mpr hi)
    simpa [Array.getElem?_eq_getElem hi] using q
  obtain ⟨hsets, hown0⟩ := atoms_of _ (rest_1_c_eq ▸ (show rest_1_c.before _ s = true from hrest))
  have hr0 := Cond.before_iff.mp hown0
  obtain ⟨i0, ei0⟩ := is_v g0
  obtain rfl : w0 = (.int i0) := Option.some.inj ei0
  obtain ⟨i1, ei1⟩ := isL_v g1
  obtain rfl : w1 = (.long i1) := Option.some.inj ei1
  obtain ⟨i2, ei2⟩ := isL_v g2
  obtain rfl : w2 = (.long i2) := Option.some.inj ei2
  obtain ⟨i3, ei3⟩ := isL_v g3
  obtain rfl : w3 = (.long i3) := Option.some.inj ei3
  obtain ⟨i4, ei4⟩ := isL_v g4
  obtain rfl : w4 = (.long i4) := Option.some.inj ei4
  obtain ⟨i5, ei5⟩ := is_v g5
  obtain rfl : w5 = (.int i5) := Option.some.inj ei5
  obtain ⟨cpt, ecpt⟩ := is_v (Cond.before_iff.mp (hsets _ (List.mem_of_getElem? (i := 10) rfl)))
  have S_cpt : Sta s s.heap "java/lang/String" "COMPACT_STRINGS" "Z" (.int cpt) := Sta.start ecpt (Or.inl (hsets _ (List.mem_of_getElem? (i := 9) rfl)))
  have h_cpt : ¬ (cpt = (0 : Int32)) := gotF (Cond.eq_ints ecpt (Term.int_eval (0))) (not_v (Cond.before_iff.mp (hsets _ (List.mem_of_getElem? (i := 11) rfl))))
  obtain ⟨dflt, edf⟩ := arr_v (Cond.before_iff.mp (hsets _ (List.mem_of_getElem? (i := 6) rfl)))
  have S_df : Sta s s.heap "java/util/ArrayList" "DEFAULTCAPACITY_EMPTY_ELEMENTDATA" "[Ljava/lang/Object;" (.ref dflt) := Sta.start edf (Or.inr ⟨(hw _ (List.mem_of_getElem? (i := 3) rfl)), (hsets _ (List.mem_of_getElem? (i := 2) rfl))⟩)
  obtain ⟨cdf, Adf⟩ := Arr.start edf (Cond.before_iff.mp (hsets _ (List.mem_of_getElem? (i := 6) rfl)))
  have ldf := Cond.eq_int (hsets _ (List.mem_of_getElem? (i := 8) rfl)) rfl
  have V_df : Arv s s.heap dflt cdf.cls (.object "java/lang/Object") (0 : Int32) [] .null := own_emptyArv hfit edf Adf ldf
  obtain ⟨u, eu⟩ := exa_v hn
  have S_u : Sta s s.heap "com/example/danaid/danaid/Decision" "UNLIMITED" "Lcom/example/danaid/danaid/Decision;" (.ref u) := Sta.start eu (Or.inr ⟨(hw _ (List.mem_of_getElem? (i := 29) rfl)), (hw _ (List.mem_of_getElem? (i := 63) rfl))⟩)
  have E_u := Exa.start eu hn
  obtain ⟨n, o, h1, h2, h3, _, L, rfl, ⟨rfl, N, K⟩, hq⟩ := own_law l s _ hw tables_1 i0 i1 i2 i3 i4 i5 cpt dflt cdf.cls u s.heap (Old.start s) S_cpt h_cpt S_df V_df S_u E_u p e ha hc hk s m _ below hf ((Spec.applies_iff_loose hf).mp happ).1 ⟨rfl, State.Warmed39.refl s, rfl⟩ trivial
  refine ⟨n, _, h1, h2, h3, hpost _ _ _ _ _ _ ⟨Cond.after_iff.mpr rfl, Cond.after_iff.mpr (eq_i res_at (Term.int_eval (1)) rfl), trivial⟩ ⟨hq.1, hq.2.1, (hq.2.2.sift fun y hy => Or.inr (N y hy)).mono (by decide) (by decide)⟩⟩
theorem main_1_1 : Claimed_1_1 := own_comes fun _ _ _ _ _ _ h hF => ⟨h.1, hF⟩
theorem main_1_2 : Claimed_1_2 := own_comes fun _ _ _ _ _ _ h hF => ⟨h.2.1, hF⟩
end Jvm.Pilot.@@N@@
namespace Jvm.Pilot.@@N@@
open Jvm Jvm.ClassFile Sem Op Lib Jvm.Free Jvm.Stand Jvm.Pilot.@@N@@.Jvm.D
/-! MADE BY PROGRAM (witnessworld.py) out of the Statement's table words and the real class files: 27 classes; the members and pool entries that the words name. The judged class is class 1, her method 1. -/
namespace start1
open Jvm.ClassFile
def u (s : String) : CpInfo := .utf8 (stringToUtf16 s)
/-- a pool by its gaps: so many unusable entries, then the entry; so many at the end -/
def gap : Nat → List CpInfo → List CpInfo
  | 0, r => r
  | n + 1, r => .unusable :: gap n r
def poolList (es : List (Nat × CpInfo)) (last : Nat) : List CpInfo := es.foldr (fun e r => gap e.1 (e.2 :: r)) (gap last [])
def pool (es : List (Nat × CpInfo)) (last : Nat) : Array CpInfo := ⟨poolList es last⟩
def fileOf (pool : Array CpInfo) (this : Nat) (attrs : Array Attribute := #[]) (ms : Array MethodInfo := #[]) (fl : Nat := 33) (sup : Nat := 0) (ifs : Array Nat := #[]) (fds : Array FieldInfo := #[]) : ClassFile where
  minorVersion := 0
  majorVersion := 65
  constantPool := pool
  accessFlags := fl
  thisClass := this
  superClass := sup
  interfaces := ifs
  fields := fds
  methods := ms
  attributes := attrs
def plain (name : String) (sup : Option ClassId) : Class where
  name := name
  kind := .ordinary
  loader := none
  accessFlags := 33
  super := sup
  interfaces := #[]
  cf := none
  fields := #[]
  methods := #[]
  instanceTypes := #[]
  staticTypes := #[]
  resolved := #[]
  callSites := []
  init := .initialized
  statics := none
  mirror := none

def pool0 : Array CpInfo := pool [(5, u "<init>"), (0, u "()V"), (1, .class_ 10), (1, u "java/lang/Object")] 113

def k0c0 : Code := { maxStack := 0, maxLocals := 1, code := object_method_1_code, exceptionTable := #[], attributes := #[] }
def k0m0 : Method := { name := "<init>", desc := "()V", sig := { parameters := [], returnType := none }, accessFlags := 1, code := some k0c0 }
/-- java/lang/Object -/
def k0 : Class := { plain "java/lang/Object" none with
  accessFlags := 33
  interfaces := #[]
  cf := some (fileOf pool0 8 #[] #[{ accessFlags := 1, nameIndex := 5, descriptorIndex := 6, attributes := #[] }] 33 0 #[] #[])
  fields := #[]
  methods := #[k0m0]
  instanceTypes := #[]
  staticTypes := #[]
  resolved := Array.replicate 124 none
  statics := none }

def pool1 : Array CpInfo := pool [(2, .class_ 4), (0, .nameAndType 5 6), (0, u "java/lang/Object"), (0, u "<init>"), (0, u "()V"), (0, .integer 65535), (2, .long 9223372036854775807), (1, .class_ 13), (0, u "com/example/danaid/danaid/Decision"), (0, .long 18446744073709551615), (1, .class_ 17), (0, u "java/util/ArrayList"), (0, .methodref 16 3), (0, .methodref 20 21), (0, .class_ 22), (0, .nameAndType 23 24), (0, u "java/lang/String"), (0, u "valueOf"), (0, u "(C)Ljava/lang/String;"), (0, .methodref 16 26), (0, .nameAndType 27 28), (0, u "add"), (0, u "(Ljava/lang/Object;)Z"), (0, .methodref 12 30), (0, .nameAndType 5 31), (0, u "(DJJJJLjava/util/List;)V"), (0, .methodref 12 33), (0, .nameAndType 34 35), (0, u "unlimited"), (0, u "()Lcom/example/danaid/danaid/Decision;"), (0, .methodref 12 37), (0, .nameAndType 38 39), (0, u "isUnlimited"), (0, u "()Z"), (0, .class_ 41), (0, u "com/example/danaid/danaid/DecisionIsUnlimitedPinLaw"), (2, u "law"), (0, u "(IJJJJI)Z")] 3

def k1m0 : Method := { name := "<init>", desc := "()V", sig := { parameters := [], returnType := none }, accessFlags := 1, code := none }
def k1c1 : Code := { maxStack := 13, maxLocals := 27, code := code, exceptionTable := #[], attributes := #[] }
def k1m1 : Method := { name := "law", desc := "(IJJJJI)Z", sig := { parameters := [.int, .long, .long, .long, .long, .int], returnType := some .boolean }, accessFlags := 9, code := some k1c1 }
/-- com/example/danaid/danaid/DecisionIsUnlimitedPinLaw -/
def k1 : Class := { plain "com/example/danaid/danaid/DecisionIsUnlimitedPinLaw" (some 0) with
  accessFlags := 49
  interfaces := #[]
  cf := some (fileOf pool1 40 #[] #[{ accessFlags := 1, nameIndex := 5, descriptorIndex := 6, attributes := #[] }, { accessFlags := 9, nameIndex := 44, descriptorIndex := 45, attributes := #[] }] 49 2 #[] #[])
  fields := #[]
  methods := #[k1m0, k1m1]
  instanceTypes := #[]
  staticTypes := #[]
  resolved := Array.replicate 49 none
  statics := none }

def pool2 : Array CpInfo := pool [(8, .class_ 10), (1, u "java/lang/Iterable"), (24, .class_ 36), (0, u "java/lang/Object")] 25

/-- java/lang/Iterable -/
def k2 : Class := { plain "java/lang/Iterable" (some 0) with
  accessFlags := 1537
  interfaces := #[]
  cf := some (fileOf pool2 8 #[] #[] 1537 35 #[] #[])
  fields := #[]
  methods := #[]
  instanceTypes := #[]
  staticTypes := #[]
  resolved := Array.replicate 62 none
  statics := none }

def pool3 : Array CpInfo := pool [(10, .class_ 12), (1, u "java/util/Collection"), (47, .class_ 61), (0, u "java/lang/Object"), (0, .class_ 63), (0, u "java/lang/Iterable")] 51

/-- java/util/Collection -/
def k3 : Class := { plain "java/util/Collection" (some 0) with
  accessFlags := 1537
  interfaces := #[2]
  cf := some (fileOf pool3 10 #[] #[] 1537 60 #[62] #[])
  fields := #[]
  methods := #[]
  instanceTypes := #[]
  staticTypes := #[]
  resolved := Array.replicate 115 none
  statics := none }

def pool4 : Array CpInfo := pool [(1, .methodref 2 3), (0, .class_ 4), (0, .nameAndType 5 6), (0, u "java/lang/Object"), (0, u "<init>"), (0, u "()V"), (1, .class_ 10), (1, u "java/util/AbstractCollection"), (66, .class_ 78), (0, u "java/util/Collection")] 81

def k4c0 : Code := { maxStack := 1, maxLocals := 1, code := jdk_22_method_1_code, exceptionTable := #[], attributes := #[] }
def k4m0 : Method := { name := "<init>", desc := "()V", sig := { parameters := [], returnType := none }, accessFlags := 4, code := some k4c0 }
/-- java/util/AbstractCollection -/
def k4 : Class := { plain "java/util/AbstractCollection" (some 0) with
  accessFlags := 1057
  interfaces := #[3]
  cf := some (fileOf pool4 8 #[] #[{ accessFlags := 4, nameIndex := 5, descriptorIndex := 6, attributes := #[] }] 1057 2 #[77] #[])
  fields := #[]
  methods := #[k4m0]
  instanceTypes := #[]
  staticTypes := #[]
  resolved := Array.replicate 160 none
  statics := none }

def pool5 : Array CpInfo := pool [(8, .class_ 10), (1, u "java/util/SequencedCollection"), (15, .class_ 27), (0, u "java/lang/Object"), (0, .class_ 29), (0, u "java/util/Collection")] 27

/-- java/util/SequencedCollection -/
def k5 : Class := { plain "java/util/SequencedCollection" (some 0) with
  accessFlags := 1537
  interfaces := #[3]
  cf := some (fileOf pool5 8 #[] #[] 1537 26 #[28] #[])
  fields := #[]
  methods := #[]
  instanceTypes := #[]
  staticTypes := #[]
  resolved := Array.replicate 57 none
  statics := none }

def pool6 : Array CpInfo := pool [(8, .class_ 10), (1, u "java/util/List"), (7, u "()Z"), (48, u "isEmpty"), (35, .class_ 104), (0, u "java/lang/Object"), (15, .class_ 121), (0, u "java/util/SequencedCollection")] 129

def k6m0 : Method := { name := "isEmpty", desc := "()Z", sig := { parameters := [], returnType := some .boolean }, accessFlags := 1025, code := none }
/-- java/util/List -/
def k6 : Class := { plain "java/util/List" (some 0) with
  accessFlags := 1537
  interfaces := #[5]
  cf := some (fileOf pool6 8 #[] #[{ accessFlags := 1025, nameIndex := 67, descriptorIndex := 18, attributes := #[] }] 1537 103 #[120] #[])
  fields := #[]
  methods := #[k6m0]
  instanceTypes := #[]
  staticTypes := #[]
  resolved := Array.replicate 251 none
  statics := none }

def pool7 : Array CpInfo := pool [(1, .methodref 2 3), (0, .class_ 4), (0, .nameAndType 5 6), (0, u "java/util/AbstractCollection"), (0, u "<init>"), (0, u "()V"), (0, .fieldref 8 9), (0, .class_ 10), (0, .nameAndType 11 12), (0, u "java/util/AbstractList"), (0, u "modCount"), (0, u "I"), (64, .class_ 78), (0, u "java/util/AbstractList$Itr"), (3, .class_ 83), (0, u "java/util/AbstractList$ListItr"), (9, .class_ 94), (0, u "java/util/AbstractList$RandomAccessSubList"), (3, .class_ 99), (0, u "java/util/AbstractList$SubList"), (33, .class_ 134), (0, u "java/util/List"), (73, .class_ 209), (0, u "java/util/AbstractList$SubList$1"), (0, .class_ 211), (0, u "java/util/AbstractList$RandomAccessSpliterator")] 6

def k7c0 : Code := { maxStack := 2, maxLocals := 1, code := jdk_39_method_1_code, exceptionTable := #[], attributes := #[] }
def k7m0 : Method := { name := "<init>", desc := "()V", sig := { parameters := [], returnType := none }, accessFlags := 4, code := some k7c0 }
/-- java/util/AbstractList -/
def k7 : Class := { plain "java/util/AbstractList" (some 4) with
  accessFlags := 1057
  interfaces := #[6]
  cf := some (fileOf pool7 8 #[.nestMembers #[93, 98, 208, 210, 82, 77]] #[{ accessFlags := 4, nameIndex := 5, descriptorIndex := 6, attributes := #[] }] 1057 2 #[133] #[{ accessFlags := 132, nameIndex := 11, descriptorIndex := 12, attributes := #[] }])
  fields := #[{ name := "modCount", type := .int, accessFlags := 132, slot := 0, constantValue := 0 }]
  methods := #[k7m0]
  instanceTypes := #[.int]
  staticTypes := #[]
  resolved := Array.replicate 218 none
  statics := none }

def pool8 : Array CpInfo := pool [(1, .class_ 2), (0, u "java/util/RandomAccess"), (0, .class_ 4), (0, u "java/lang/Object")] 2

/-- java/util/RandomAccess -/
def k8 : Class := { plain "java/util/RandomAccess" (some 0) with
  accessFlags := 1537
  interfaces := #[]
  cf := some (fileOf pool8 1 #[] #[] 1537 3 #[] #[])
  fields := #[]
  methods := #[]
  instanceTypes := #[]
  staticTypes := #[]
  resolved := Array.replicate 7 none
  statics := none }

def pool9 : Array CpInfo := pool [(1, .class_ 2), (0, u "java/lang/Cloneable"), (0, .class_ 4), (0, u "java/lang/Object")] 2

/-- java/lang/Cloneable -/
def k9 : Class := { plain "java/lang/Cloneable" (some 0) with
  accessFlags := 1537
  interfaces := #[]
  cf := some (fileOf pool9 1 #[] #[] 1537 3 #[] #[])
  fields := #[]
  methods := #[]
  instanceTypes := #[]
  staticTypes := #[]
  resolved := Array.replicate 7 none
  statics := none }

def pool10 : Array CpInfo := pool [(1, .class_ 2), (0, u "java/io/Serializable"), (0, .class_ 4), (0, u "java/lang/Object")] 2

/-- java/io/Serializable -/
def k10 : Class := { plain "java/io/Serializable" (some 0) with
  accessFlags := 1537
  interfaces := #[]
  cf := some (fileOf pool10 1 #[] #[] 1537 3 #[] #[])
  fields := #[]
  methods := #[]
  instanceTypes := #[]
  staticTypes := #[]
  resolved := Array.replicate 7 none
  statics := none }

def pool11 : Array CpInfo := pool [(1, .methodref 2 3), (0, .class_ 4), (0, .nameAndType 5 6), (0, u "java/util/AbstractList"), (0, u "<init>"), (0, u "()V"), (0, .class_ 8), (0, u "java/lang/Object"), (0, .fieldref 10 11), (0, .class_ 12), (0, .nameAndType 13 14), (0, u "java/util/ArrayList"), (0, u "elementData"), (0, u "[Ljava/lang/Object;"), (2, u "EMPTY_ELEMENTDATA"), (21, .fieldref 10 40), (0, .nameAndType 41 14), (0, u "DEFAULTCAPACITY_EMPTY_ELEMENTDATA"), (5, u "()[Ljava/lang/Object;"), (0, .fieldref 10 49), (0, .nameAndType 50 51), (0, u "size"), (0, u "I"), (11, .fieldref 10 64), (0, .nameAndType 65 51), (0, u "modCount"), (3, .methodref 10 70), (0, .nameAndType 71 72), (0, u "grow"), (0, u "(I)[Ljava/lang/Object;"), (6, .methodref 80 81), (0, .class_ 82), (0, .nameAndType 83 84), (0, u "java/lang/Math"), (0, u "max"), (0, u "(II)I"), (11, u "(Ljava/lang/Object;)Z"), (32, .methodref 10 130), (0, .nameAndType 71 47), (0, .methodref 10 132), (0, .nameAndType 133 134), (0, u "add"), (0, u "(Ljava/lang/Object;[Ljava/lang/Object;I)V"), (13, .class_ 149), (0, u "java/util/List"), (23, u "()Z"), (88, .class_ 263), (0, u "java/util/ArrayList$ListItr"), (3, .class_ 268), (0, u "java/util/ArrayList$Itr"), (7, .class_ 277), (0, u "java/util/ArrayList$SubList"), (12, .class_ 291), (0, u "java/util/ArrayList$ArrayListSpliterator"), (37, .class_ 330), (0, u "java/util/RandomAccess"), (0, .class_ 332), (0, u "java/lang/Cloneable"), (0, .class_ 334), (0, u "java/io/Serializable"), (0, u "serialVersionUID"), (0, u "J"), (3, u "DEFAULT_CAPACITY"), (22, u "isEmpty"), (136, .class_ 501), (0, u "java/util/ArrayList$SubList$2"), (0, .class_ 503), (0, u "java/util/ArrayList$SubList$1")] 5

def k11c0 : Code := { maxStack := 2, maxLocals := 1, code := jdk_38_method_2_code, exceptionTable := #[], attributes := #[] }
def k11m0 : Method := { name := "<init>", desc := "()V", sig := { parameters := [], returnType := none }, accessFlags := 1, code := some k11c0 }
def k11c1 : Code := { maxStack := 4, maxLocals := 4, code := jdk_38_method_6_code, exceptionTable := #[], attributes := #[] }
def k11m1 : Method := { name := "grow", desc := "(I)[Ljava/lang/Object;", sig := { parameters := [.int], returnType := some (.array (.object "java/lang/Object")) }, accessFlags := 2, code := some k11c1 }
def k11c2 : Code := { maxStack := 3, maxLocals := 1, code := jdk_38_method_7_code, exceptionTable := #[], attributes := #[] }
def k11m2 : Method := { name := "grow", desc := "()[Ljava/lang/Object;", sig := { parameters := [], returnType := some (.array (.object "java/lang/Object")) }, accessFlags := 2, code := some k11c2 }
def k11c3 : Code := { maxStack := 1, maxLocals := 1, code := jdk_38_method_9_code, exceptionTable := #[], attributes := #[] }
def k11m3 : Method := { name := "isEmpty", desc := "()Z", sig := { parameters := [], returnType := some .boolean }, accessFlags := 1, code := some k11c3 }
def k11c4 : Code := { maxStack := 3, maxLocals := 4, code := jdk_38_method_24_code, exceptionTable := #[], attributes := #[] }
def k11m4 : Method := { name := "add", desc := "(Ljava/lang/Object;[Ljava/lang/Object;I)V", sig := { parameters := [(.object "java/lang/Object"), (.array (.object "java/lang/Object")), .int], returnType := none }, accessFlags := 2, code := some k11c4 }
def k11c5 : Code := { maxStack := 4, maxLocals := 2, code := jdk_38_method_25_code, exceptionTable := #[], attributes := #[] }
def k11m5 : Method := { name := "add", desc := "(Ljava/lang/Object;)Z", sig := { parameters := [(.object "java/lang/Object")], returnType := some .boolean }, accessFlags := 1, code := some k11c5 }
/-- java/util/ArrayList -/
def k11 : Class := { plain "java/util/ArrayList" (some 7) with
  accessFlags := 33
  interfaces := #[6, 8, 9, 10]
  cf := some (fileOf pool11 10 #[.nestMembers #[290, 276, 500, 502, 262, 267]] #[{ accessFlags := 1, nameIndex := 5, descriptorIndex := 6, attributes := #[] }, { accessFlags := 2, nameIndex := 71, descriptorIndex := 72, attributes := #[] }, { accessFlags := 2, nameIndex := 71, descriptorIndex := 47, attributes := #[] }, { accessFlags := 1, nameIndex := 363, descriptorIndex := 173, attributes := #[] }, { accessFlags := 2, nameIndex := 133, descriptorIndex := 134, attributes := #[] }, { accessFlags := 1, nameIndex := 133, descriptorIndex := 96, attributes := #[] }] 33 2 #[148, 329, 331, 333] #[{ accessFlags := 26, nameIndex := 335, descriptorIndex := 336, attributes := #[] }, { accessFlags := 26, nameIndex := 340, descriptorIndex := 51, attributes := #[] }, { accessFlags := 26, nameIndex := 17, descriptorIndex := 14, attributes := #[] }, { accessFlags := 26, nameIndex := 41, descriptorIndex := 14, attributes := #[] }, { accessFlags := 128, nameIndex := 13, descriptorIndex := 14, attributes := #[] }, { accessFlags := 2, nameIndex := 50, descriptorIndex := 51, attributes := #[] }])
  fields := #[{ name := "serialVersionUID", type := .long, accessFlags := 26, slot := 0, constantValue := 0 }, { name := "DEFAULT_CAPACITY", type := .int, accessFlags := 26, slot := 1, constantValue := 0 }, { name := "EMPTY_ELEMENTDATA", type := (.array (.object "java/lang/Object")), accessFlags := 26, slot := 2, constantValue := 0 }, { name := "DEFAULTCAPACITY_EMPTY_ELEMENTDATA", type := (.array (.object "java/lang/Object")), accessFlags := 26, slot := 3, constantValue := 0 }, { name := "elementData", type := (.array (.object "java/lang/Object")), accessFlags := 128, slot := 1, constantValue := 0 }, { name := "size", type := .int, accessFlags := 2, slot := 2, constantValue := 0 }]
  methods := #[k11m0, k11m1, k11m2, k11m3, k11m4, k11m5]
  instanceTypes := #[.int, (.array (.object "java/lang/Object")), .int]
  staticTypes := #[.long, .int, (.array (.object "java/lang/Object")), (.array (.object "java/lang/Object"))]
  resolved := Array.replicate 509 none
  statics := some 0 }

def pool12 : Array CpInfo := pool [(1, .methodref 2 3), (0, .class_ 4), (0, .nameAndType 5 6), (0, u "java/lang/Object"), (0, u "<init>"), (0, u "()V"), (0, .interfaceMethodref 8 9), (0, .class_ 10), (0, .nameAndType 11 12), (0, u "java/util/List"), (0, u "isEmpty"), (0, u "()Z"), (0, .fieldref 14 15), (0, .class_ 16), (0, .nameAndType 17 18), (0, u "com/example/danaid/danaid/Decision"), (0, u "allowed"), (0, u "Z"), (0, .fieldref 14 20), (0, .nameAndType 21 22), (0, u "level"), (0, u "D"), (0, .fieldref 14 24), (0, .nameAndType 25 26), (0, u "remaining"), (0, u "J"), (0, .fieldref 14 28), (0, .nameAndType 29 26), (0, u "clearNanos"), (0, .fieldref 14 31), (0, .nameAndType 32 26), (0, u "retryNanos"), (0, .fieldref 14 34), (0, .nameAndType 35 26), (0, u "size"), (0, .fieldref 14 37), (0, .nameAndType 38 39), (0, u "refusedBy"), (0, u "Ljava/util/List;"), (0, .fieldref 14 41), (0, .nameAndType 42 43), (0, u "UNLIMITED"), (0, u "Lcom/example/danaid/danaid/Decision;"), (25, u "(DJJJJLjava/util/List;)V"), (54, u "NO_RETRY"), (6, u "unlimited"), (0, u "()Lcom/example/danaid/danaid/Decision;"), (0, u "isUnlimited")] 40

def k12c0 : Code := { maxStack := 3, maxLocals := 12, code := prog_3_method_1_code, exceptionTable := #[], attributes := #[] }
def k12m0 : Method := { name := "<init>", desc := "(DJJJJLjava/util/List;)V", sig := { parameters := [.double, .long, .long, .long, .long, (.object "java/util/List")], returnType := none }, accessFlags := 0, code := some k12c0 }
def k12c1 : Code := { maxStack := 1, maxLocals := 0, code := prog_3_method_2_code, exceptionTable := #[], attributes := #[] }
def k12m1 : Method := { name := "unlimited", desc := "()Lcom/example/danaid/danaid/Decision;", sig := { parameters := [], returnType := some (.object "com/example/danaid/danaid/Decision") }, accessFlags := 8, code := some k12c1 }
def k12c2 : Code := { maxStack := 2, maxLocals := 1, code := prog_3_method_3_code, exceptionTable := #[], attributes := #[] }
def k12m2 : Method := { name := "isUnlimited", desc := "()Z", sig := { parameters := [], returnType := some .boolean }, accessFlags := 0, code := some k12c2 }
/-- com/example/danaid/danaid/Decision -/
def k12 : Class := { plain "com/example/danaid/danaid/Decision" (some 0) with
  accessFlags := 33
  interfaces := #[]
  cf := some (fileOf pool12 14 #[] #[{ accessFlags := 0, nameIndex := 5, descriptorIndex := 69, attributes := #[] }, { accessFlags := 8, nameIndex := 131, descriptorIndex := 132, attributes := #[] }, { accessFlags := 0, nameIndex := 133, descriptorIndex := 12, attributes := #[] }] 33 2 #[] #[{ accessFlags := 24, nameIndex := 124, descriptorIndex := 26, attributes := #[] }, { accessFlags := 26, nameIndex := 42, descriptorIndex := 43, attributes := #[] }, { accessFlags := 18, nameIndex := 17, descriptorIndex := 18, attributes := #[] }, { accessFlags := 18, nameIndex := 21, descriptorIndex := 22, attributes := #[] }, { accessFlags := 18, nameIndex := 25, descriptorIndex := 26, attributes := #[] }, { accessFlags := 18, nameIndex := 29, descriptorIndex := 26, attributes := #[] }, { accessFlags := 18, nameIndex := 32, descriptorIndex := 26, attributes := #[] }, { accessFlags := 18, nameIndex := 35, descriptorIndex := 26, attributes := #[] }, { accessFlags := 18, nameIndex := 38, descriptorIndex := 39, attributes := #[] }])
  fields := #[{ name := "NO_RETRY", type := .long, accessFlags := 24, slot := 0, constantValue := 0 }, { name := "UNLIMITED", type := (.object "com/example/danaid/danaid/Decision"), accessFlags := 26, slot := 1, constantValue := 0 }, { name := "allowed", type := .boolean, accessFlags := 18, slot := 0, constantValue := 0 }, { name := "level", type := .double, accessFlags := 18, slot := 1, constantValue := 0 }, { name := "remaining", type := .long, accessFlags := 18, slot := 2, constantValue := 0 }, { name := "clearNanos", type := .long, accessFlags := 18, slot := 3, constantValue := 0 }, { name := "retryNanos", type := .long, accessFlags := 18, slot := 4, constantValue := 0 }, { name := "size", type := .long, accessFlags := 18, slot := 5, constantValue := 0 }, { name := "refusedBy", type := (.object "java/util/List"), accessFlags := 18, slot := 6, constantValue := 0 }]
  methods := #[k12m0, k12m1, k12m2]
  instanceTypes := #[.boolean, .double, .long, .long, .long, .long, (.object "java/util/List")]
  staticTypes := #[.long, (.object "com/example/danaid/danaid/Decision")]
  resolved := Array.replicate 174 none
  statics := some 1 }

def pool13 : Array CpInfo := pool [(1, .class_ 2), (0, u "java/lang/Comparable"), (0, .class_ 4), (0, u "java/lang/Object")] 7

/-- java/lang/Comparable -/
def k13 : Class := { plain "java/lang/Comparable" (some 0) with
  accessFlags := 1537
  interfaces := #[]
  cf := some (fileOf pool13 1 #[] #[] 1537 3 #[] #[])
  fields := #[]
  methods := #[]
  instanceTypes := #[]
  staticTypes := #[]
  resolved := Array.replicate 12 none
  statics := none }

def pool14 : Array CpInfo := pool [(2, .class_ 4), (1, u "java/lang/CharSequence"), (42, .class_ 48), (0, u "java/lang/CharSequence$1CodePointIterator"), (10, .class_ 60), (0, u "java/lang/CharSequence$1CharIterator"), (5, .class_ 67), (0, u "java/lang/Object")] 63

/-- java/lang/CharSequence -/
def k14 : Class := { plain "java/lang/CharSequence" (some 0) with
  accessFlags := 1537
  interfaces := #[]
  cf := some (fileOf pool14 2 #[.nestMembers #[47, 59]] #[] 1537 66 #[] #[])
  fields := #[]
  methods := #[]
  instanceTypes := #[]
  staticTypes := #[]
  resolved := Array.replicate 131 none
  statics := none }

def pool15 : Array CpInfo := pool [(1, .class_ 2), (0, u "java/lang/constant/Constable"), (0, .class_ 4), (0, u "java/lang/Object")] 6

/-- java/lang/constant/Constable -/
def k15 : Class := { plain "java/lang/constant/Constable" (some 0) with
  accessFlags := 1537
  interfaces := #[]
  cf := some (fileOf pool15 1 #[] #[] 1537 3 #[] #[])
  fields := #[]
  methods := #[]
  instanceTypes := #[]
  staticTypes := #[]
  resolved := Array.replicate 11 none
  statics := none }

def pool16 : Array CpInfo := pool [(1, .class_ 2), (0, u "java/lang/constant/ConstantDesc"), (0, .class_ 4), (0, u "java/lang/Object")] 32

/-- java/lang/constant/ConstantDesc -/
def k16 : Class := { plain "java/lang/constant/ConstantDesc" (some 0) with
  accessFlags := 1537
  interfaces := #[]
  cf := some (fileOf pool16 1 #[] #[] 1537 3 #[] #[])
  fields := #[]
  methods := #[]
  instanceTypes := #[]
  staticTypes := #[]
  resolved := Array.replicate 37 none
  statics := none }

def pool17 : Array CpInfo := pool [(1, .methodref 2 3), (0, .class_ 4), (0, .nameAndType 5 6), (0, u "java/lang/Object"), (0, u "<init>"), (0, u "()V"), (2, .fieldref 10 11), (0, .class_ 12), (0, .nameAndType 13 14), (0, u "java/lang/String"), (0, u "value"), (0, u "[B"), (0, .fieldref 10 16), (0, .nameAndType 17 18), (0, u "coder"), (0, u "B"), (2, u "hash"), (0, u "I"), (2, u "hashIsZero"), (0, u "Z"), (11, .fieldref 10 39), (0, .nameAndType 40 26), (0, u "COMPACT_STRINGS"), (12, u "toBytes"), (53, .class_ 109), (1, u "java/lang/StringLatin1"), (99, .methodref 10 210), (0, .nameAndType 5 211), (0, u "([BB)V"), (157, u "(C)Z"), (205, .class_ 576), (0, u "java/lang/CharSequence"), (22, u "CASE_INSENSITIVE_ORDER"), (0, u "Ljava/util/Comparator;"), (181, u "valueOf"), (0, u "(C)Ljava/lang/String;"), (231, .methodref 107 1016), (0, .nameAndType 1017 369), (0, u "canEncode"), (0, .methodref 107 1019), (0, .nameAndType 53 1020), (0, u "(C)[B"), (80, u "serialPersistentFields"), (0, u "[Ljava/io/ObjectStreamField;"), (0, .class_ 1104), (0, u "java/lang/String$CaseInsensitiveComparator"), (1, .class_ 1107), (0, u "java/io/Serializable"), (0, .class_ 1109), (0, u "java/lang/Comparable"), (0, .class_ 1111), (0, u "java/lang/constant/Constable"), (0, .class_ 1113), (0, u "java/lang/constant/ConstantDesc"), (2, u "serialVersionUID"), (0, u "J"), (3, u "REPL"), (0, u "C"), (2, u "LATIN1"), (1, u "UTF16")] 323

def k17m0 : Method := { name := "<init>", desc := "()V", sig := { parameters := [], returnType := none }, accessFlags := 1, code := none }
def k17c1 : Code := { maxStack := 4, maxLocals := 1, code := jdk_42_method_139_code, exceptionTable := #[], attributes := #[] }
def k17m1 : Method := { name := "valueOf", desc := "(C)Ljava/lang/String;", sig := { parameters := [.char], returnType := some (.object "java/lang/String") }, accessFlags := 9, code := some k17c1 }
def k17c2 : Code := { maxStack := 2, maxLocals := 3, code := jdk_42_method_151_code, exceptionTable := #[], attributes := #[] }
def k17m2 : Method := { name := "<init>", desc := "([BB)V", sig := { parameters := [(.array .byte), .byte], returnType := none }, accessFlags := 0, code := some k17c2 }
/-- java/lang/String -/
def k17 : Class := { plain "java/lang/String" (some 0) with
  accessFlags := 49
  interfaces := #[10, 13, 14, 15, 16]
  cf := some (fileOf pool17 10 #[.nestMembers #[1103]] #[{ accessFlags := 1, nameIndex := 5, descriptorIndex := 6, attributes := #[] }, { accessFlags := 9, nameIndex := 782, descriptorIndex := 783, attributes := #[] }, { accessFlags := 0, nameIndex := 5, descriptorIndex := 211, attributes := #[] }] 49 2 #[1106, 1108, 575, 1110, 1112] #[{ accessFlags := 18, nameIndex := 13, descriptorIndex := 14, attributes := #[] }, { accessFlags := 18, nameIndex := 17, descriptorIndex := 18, attributes := #[] }, { accessFlags := 2, nameIndex := 21, descriptorIndex := 22, attributes := #[] }, { accessFlags := 2, nameIndex := 25, descriptorIndex := 26, attributes := #[] }, { accessFlags := 26, nameIndex := 1116, descriptorIndex := 1117, attributes := #[] }, { accessFlags := 24, nameIndex := 40, descriptorIndex := 26, attributes := #[] }, { accessFlags := 26, nameIndex := 1101, descriptorIndex := 1102, attributes := #[] }, { accessFlags := 26, nameIndex := 1121, descriptorIndex := 1122, attributes := #[] }, { accessFlags := 25, nameIndex := 599, descriptorIndex := 600, attributes := #[] }, { accessFlags := 24, nameIndex := 1125, descriptorIndex := 18, attributes := #[] }, { accessFlags := 24, nameIndex := 1127, descriptorIndex := 18, attributes := #[] }])
  fields := #[{ name := "value", type := (.array .byte), accessFlags := 18, slot := 0, constantValue := 0 }, { name := "coder", type := .byte, accessFlags := 18, slot := 1, constantValue := 0 }, { name := "hash", type := .int, accessFlags := 2, slot := 2, constantValue := 0 }, { name := "hashIsZero", type := .boolean, accessFlags := 2, slot := 3, constantValue := 0 }, { name := "serialVersionUID", type := .long, accessFlags := 26, slot := 0, constantValue := 0 }, { name := "COMPACT_STRINGS", type := .boolean, accessFlags := 24, slot := 1, constantValue := 0 }, { name := "serialPersistentFields", type := (.array (.object "java/io/ObjectStreamField")), accessFlags := 26, slot := 2, constantValue := 0 }, { name := "REPL", type := .char, accessFlags := 26, slot := 3, constantValue := 0 }, { name := "CASE_INSENSITIVE_ORDER", type := (.object "java/util/Comparator"), accessFlags := 25, slot := 4, constantValue := 0 }, { name := "LATIN1", type := .byte, accessFlags := 24, slot := 5, constantValue := 0 }, { name := "UTF16", type := .byte, accessFlags := 24, slot := 6, constantValue := 0 }]
  methods := #[k17m0, k17m1, k17m2]
  instanceTypes := #[(.array .byte), .byte, .int, .boolean]
  staticTypes := #[.long, .boolean, (.array (.object "java/io/ObjectStreamField")), .char, (.object "java/util/Comparator"), .byte, .byte]
  resolved := Array.replicate 1451 none
  statics := some 2 }

def pool18 : Array CpInfo := pool [(4, .class_ 6), (1, u "java/lang/Object"), (0, u "<init>"), (0, u "()V"), (5, .class_ 16), (1, u "java/lang/StringLatin1"), (73, u "canEncode"), (14, u "(C)Z"), (15, u "$assertionsDisabled"), (0, u "Z"), (98, .class_ 223), (1, u "java/lang/StringLatin1$LinesSpliterator"), (156, u "toBytes"), (1, u "(C)[B"), (7, .class_ 391), (0, u "java/lang/StringLatin1$CharsSpliterator")] 3

def k18m0 : Method := { name := "<init>", desc := "()V", sig := { parameters := [], returnType := none }, accessFlags := 0, code := none }
def k18c1 : Code := { maxStack := 2, maxLocals := 1, code := jdk_43_method_3_code, exceptionTable := #[], attributes := #[] }
def k18m1 : Method := { name := "canEncode", desc := "(C)Z", sig := { parameters := [.char], returnType := some .boolean }, accessFlags := 9, code := some k18c1 }
def k18c2 : Code := { maxStack := 4, maxLocals := 1, code := jdk_43_method_46_code, exceptionTable := #[], attributes := #[] }
def k18m2 : Method := { name := "toBytes", desc := "(C)[B", sig := { parameters := [.char], returnType := some (.array .byte) }, accessFlags := 9, code := some k18c2 }
/-- java/lang/StringLatin1 -/
def k18 : Class := { plain "java/lang/StringLatin1" (some 0) with
  accessFlags := 48
  interfaces := #[]
  cf := some (fileOf pool18 14 #[.nestMembers #[390, 221]] #[{ accessFlags := 0, nameIndex := 7, descriptorIndex := 8, attributes := #[] }, { accessFlags := 9, nameIndex := 90, descriptorIndex := 105, attributes := #[] }, { accessFlags := 9, nameIndex := 380, descriptorIndex := 382, attributes := #[] }] 48 4 #[] #[{ accessFlags := 4120, nameIndex := 121, descriptorIndex := 122, attributes := #[] }])
  fields := #[{ name := "$assertionsDisabled", type := .boolean, accessFlags := 4120, slot := 0, constantValue := 0 }]
  methods := #[k18m0, k18m1, k18m2]
  instanceTypes := #[]
  staticTypes := #[.boolean]
  resolved := Array.replicate 395 none
  statics := none }

def pool19 : Array CpInfo := pool [(1, .class_ 2), (0, u "java/lang/Math"), (1, .class_ 6), (1, u "java/lang/Object"), (0, u "<init>"), (0, u "()V"), (89, .class_ 100), (1, u "java/lang/Math$RandomNumberGeneratorHolder"), (71, u "negativeZeroFloatBits"), (0, u "J"), (2, u "negativeZeroDoubleBits"), (21, u "max"), (46, u "$assertionsDisabled"), (0, u "Z"), (88, u "(II)I"), (2, u "twoToTheDoubleScaleDown"), (0, u "D"), (4, u "twoToTheDoubleScaleUp"), (9, u "E"), (3, u "PI"), (2, u "TAU"), (2, u "DEGREES_TO_RADIANS"), (0, u "RADIANS_TO_DEGREES")] 94

def k19m0 : Method := { name := "<init>", desc := "()V", sig := { parameters := [], returnType := none }, accessFlags := 2, code := none }
def k19c1 : Code := { maxStack := 2, maxLocals := 2, code := jdk_29_method_65_code, exceptionTable := #[], attributes := #[] }
def k19m1 : Method := { name := "max", desc := "(II)I", sig := { parameters := [.int, .int], returnType := some .int }, accessFlags := 9, code := some k19c1 }
/-- java/lang/Math -/
def k19 : Class := { plain "java/lang/Math" (some 0) with
  accessFlags := 49
  interfaces := #[]
  cf := some (fileOf pool19 1 #[.nestMembers #[98]] #[{ accessFlags := 2, nameIndex := 7, descriptorIndex := 8, attributes := #[] }, { accessFlags := 9, nameIndex := 198, descriptorIndex := 335, attributes := #[] }] 49 4 #[] #[{ accessFlags := 25, nameIndex := 354, descriptorIndex := 339, attributes := #[] }, { accessFlags := 25, nameIndex := 358, descriptorIndex := 339, attributes := #[] }, { accessFlags := 25, nameIndex := 361, descriptorIndex := 339, attributes := #[] }, { accessFlags := 26, nameIndex := 364, descriptorIndex := 339, attributes := #[] }, { accessFlags := 26, nameIndex := 365, descriptorIndex := 339, attributes := #[] }, { accessFlags := 26, nameIndex := 172, descriptorIndex := 173, attributes := #[] }, { accessFlags := 26, nameIndex := 176, descriptorIndex := 173, attributes := #[] }, { accessFlags := 8, nameIndex := 344, descriptorIndex := 339, attributes := #[] }, { accessFlags := 8, nameIndex := 338, descriptorIndex := 339, attributes := #[] }, { accessFlags := 4120, nameIndex := 245, descriptorIndex := 246, attributes := #[] }])
  fields := #[{ name := "E", type := .double, accessFlags := 25, slot := 0, constantValue := 0 }, { name := "PI", type := .double, accessFlags := 25, slot := 1, constantValue := 0 }, { name := "TAU", type := .double, accessFlags := 25, slot := 2, constantValue := 0 }, { name := "DEGREES_TO_RADIANS", type := .double, accessFlags := 26, slot := 3, constantValue := 0 }, { name := "RADIANS_TO_DEGREES", type := .double, accessFlags := 26, slot := 4, constantValue := 0 }, { name := "negativeZeroFloatBits", type := .long, accessFlags := 26, slot := 5, constantValue := 0 }, { name := "negativeZeroDoubleBits", type := .long, accessFlags := 26, slot := 6, constantValue := 0 }, { name := "twoToTheDoubleScaleUp", type := .double, accessFlags := 8, slot := 7, constantValue := 0 }, { name := "twoToTheDoubleScaleDown", type := .double, accessFlags := 8, slot := 8, constantValue := 0 }, { name := "$assertionsDisabled", type := .boolean, accessFlags := 4120, slot := 9, constantValue := 0 }]
  methods := #[k19m0, k19m1]
  instanceTypes := #[]
  staticTypes := #[.double, .double, .double, .double, .double, .long, .long, .double, .double, .boolean]
  resolved := Array.replicate 460 none
  statics := none }

def pool20 : Array CpInfo := pool [(2, .class_ 4), (1, u "java/lang/Object"), (0, u "<init>"), (0, u "()V"), (17, .class_ 26), (1, u "jdk/internal/util/Preconditions"), (28, .class_ 56), (0, u "jdk/internal/util/Preconditions$4"), (57, .class_ 115), (0, u "jdk/internal/util/Preconditions$1"), (7, u "SIOOBE_FORMATTER"), (0, u "Ljava/util/function/BiFunction;"), (0, .class_ 126), (0, u "jdk/internal/util/Preconditions$2"), (3, u "AIOOBE_FORMATTER"), (0, .class_ 132), (0, u "jdk/internal/util/Preconditions$3"), (3, u "IOOBE_FORMATTER")] 57

def k20m0 : Method := { name := "<init>", desc := "()V", sig := { parameters := [], returnType := none }, accessFlags := 1, code := none }
/-- jdk/internal/util/Preconditions -/
def k20 : Class := { plain "jdk/internal/util/Preconditions" (some 0) with
  accessFlags := 33
  interfaces := #[]
  cf := some (fileOf pool20 24 #[.nestMembers #[55, 131, 125, 114]] #[{ accessFlags := 1, nameIndex := 5, descriptorIndex := 6, attributes := #[] }] 33 2 #[] #[{ accessFlags := 25, nameIndex := 123, descriptorIndex := 124, attributes := #[] }, { accessFlags := 25, nameIndex := 130, descriptorIndex := 124, attributes := #[] }, { accessFlags := 25, nameIndex := 136, descriptorIndex := 124, attributes := #[] }])
  fields := #[{ name := "SIOOBE_FORMATTER", type := (.object "java/util/function/BiFunction"), accessFlags := 25, slot := 0, constantValue := 0 }, { name := "AIOOBE_FORMATTER", type := (.object "java/util/function/BiFunction"), accessFlags := 25, slot := 1, constantValue := 0 }, { name := "IOOBE_FORMATTER", type := (.object "java/util/function/BiFunction"), accessFlags := 25, slot := 2, constantValue := 0 }]
  methods := #[k20m0]
  instanceTypes := #[]
  staticTypes := #[(.object "java/util/function/BiFunction"), (.object "java/util/function/BiFunction"), (.object "java/util/function/BiFunction")]
  resolved := Array.replicate 194 none
  statics := some 3 }

def pool21 : Array CpInfo := pool [(9, u "<init>"), (6, .class_ 18), (1, u "java/lang/Object"), (0, u "()V"), (1, .class_ 23), (1, u "jdk/internal/util/ArraysSupport"), (0, u "LOG2_ARRAY_LONG_INDEX_SCALE"), (0, u "I"), (2, u "U"), (0, u "Ljdk/internal/misc/Unsafe;"), (8, u "BIG_ENDIAN"), (0, u "Z"), (8, u "LOG2_BYTE_BIT_SIZE"), (4, u "LOG2_ARRAY_INT_INDEX_SCALE"), (54, u "JLA"), (0, u "Ljdk/internal/access/JavaLangAccess;"), (11, u "LOG2_ARRAY_BOOLEAN_INDEX_SCALE"), (9, u "LOG2_ARRAY_BYTE_INDEX_SCALE"), (5, u "LOG2_ARRAY_CHAR_INDEX_SCALE"), (5, u "LOG2_ARRAY_SHORT_INDEX_SCALE"), (18, u "LOG2_ARRAY_FLOAT_INDEX_SCALE"), (24, u "LOG2_ARRAY_DOUBLE_INDEX_SCALE"), (89, u "T_BOOLEAN"), (2, u "T_CHAR"), (1, u "T_FLOAT"), (1, u "T_DOUBLE"), (1, u "T_BYTE"), (1, u "T_SHORT"), (1, u "T_INT"), (1, u "T_LONG"), (1, u "SOFT_MAX_ARRAY_LENGTH")] 83

def k21m0 : Method := { name := "<init>", desc := "()V", sig := { parameters := [], returnType := none }, accessFlags := 2, code := none }
/-- jdk/internal/util/ArraysSupport -/
def k21 : Class := { plain "jdk/internal/util/ArraysSupport" (some 0) with
  accessFlags := 33
  interfaces := #[]
  cf := some (fileOf pool21 21 #[] #[{ accessFlags := 2, nameIndex := 9, descriptorIndex := 19, attributes := #[] }] 33 16 #[] #[{ accessFlags := 24, nameIndex := 28, descriptorIndex := 29, attributes := #[] }, { accessFlags := 26, nameIndex := 38, descriptorIndex := 39, attributes := #[] }, { accessFlags := 25, nameIndex := 121, descriptorIndex := 25, attributes := #[] }, { accessFlags := 25, nameIndex := 131, descriptorIndex := 25, attributes := #[] }, { accessFlags := 25, nameIndex := 137, descriptorIndex := 25, attributes := #[] }, { accessFlags := 25, nameIndex := 143, descriptorIndex := 25, attributes := #[] }, { accessFlags := 25, nameIndex := 53, descriptorIndex := 25, attributes := #[] }, { accessFlags := 25, nameIndex := 24, descriptorIndex := 25, attributes := #[] }, { accessFlags := 25, nameIndex := 162, descriptorIndex := 25, attributes := #[] }, { accessFlags := 25, nameIndex := 187, descriptorIndex := 25, attributes := #[] }, { accessFlags := 26, nameIndex := 48, descriptorIndex := 25, attributes := #[] }, { accessFlags := 25, nameIndex := 277, descriptorIndex := 25, attributes := #[] }, { accessFlags := 25, nameIndex := 280, descriptorIndex := 25, attributes := #[] }, { accessFlags := 25, nameIndex := 282, descriptorIndex := 25, attributes := #[] }, { accessFlags := 25, nameIndex := 284, descriptorIndex := 25, attributes := #[] }, { accessFlags := 25, nameIndex := 286, descriptorIndex := 25, attributes := #[] }, { accessFlags := 25, nameIndex := 288, descriptorIndex := 25, attributes := #[] }, { accessFlags := 25, nameIndex := 290, descriptorIndex := 25, attributes := #[] }, { accessFlags := 25, nameIndex := 292, descriptorIndex := 25, attributes := #[] }, { accessFlags := 26, nameIndex := 108, descriptorIndex := 109, attributes := #[] }, { accessFlags := 25, nameIndex := 294, descriptorIndex := 25, attributes := #[] }])
  fields := #[{ name := "U", type := (.object "jdk/internal/misc/Unsafe"), accessFlags := 24, slot := 0, constantValue := 0 }, { name := "BIG_ENDIAN", type := .boolean, accessFlags := 26, slot := 1, constantValue := 0 }, { name := "LOG2_ARRAY_BOOLEAN_INDEX_SCALE", type := .int, accessFlags := 25, slot := 2, constantValue := 0 }, { name := "LOG2_ARRAY_BYTE_INDEX_SCALE", type := .int, accessFlags := 25, slot := 3, constantValue := 0 }, { name := "LOG2_ARRAY_CHAR_INDEX_SCALE", type := .int, accessFlags := 25, slot := 4, constantValue := 0 }, { name := "LOG2_ARRAY_SHORT_INDEX_SCALE", type := .int, accessFlags := 25, slot := 5, constantValue := 0 }, { name := "LOG2_ARRAY_INT_INDEX_SCALE", type := .int, accessFlags := 25, slot := 6, constantValue := 0 }, { name := "LOG2_ARRAY_LONG_INDEX_SCALE", type := .int, accessFlags := 25, slot := 7, constantValue := 0 }, { name := "LOG2_ARRAY_FLOAT_INDEX_SCALE", type := .int, accessFlags := 25, slot := 8, constantValue := 0 }, { name := "LOG2_ARRAY_DOUBLE_INDEX_SCALE", type := .int, accessFlags := 25, slot := 9, constantValue := 0 }, { name := "LOG2_BYTE_BIT_SIZE", type := .int, accessFlags := 26, slot := 10, constantValue := 0 }, { name := "T_BOOLEAN", type := .int, accessFlags := 25, slot := 11, constantValue := 0 }, { name := "T_CHAR", type := .int, accessFlags := 25, slot := 12, constantValue := 0 }, { name := "T_FLOAT", type := .int, accessFlags := 25, slot := 13, constantValue := 0 }, { name := "T_DOUBLE", type := .int, accessFlags := 25, slot := 14, constantValue := 0 }, { name := "T_BYTE", type := .int, accessFlags := 25, slot := 15, constantValue := 0 }, { name := "T_SHORT", type := .int, accessFlags := 25, slot := 16, constantValue := 0 }, { name := "T_INT", type := .int, accessFlags := 25, slot := 17, constantValue := 0 }, { name := "T_LONG", type := .int, accessFlags := 25, slot := 18, constantValue := 0 }, { name := "JLA", type := (.object "jdk/internal/access/JavaLangAccess"), accessFlags := 26, slot := 19, constantValue := 0 }, { name := "SOFT_MAX_ARRAY_LENGTH", type := .int, accessFlags := 25, slot := 20, constantValue := 0 }]
  methods := #[k21m0]
  instanceTypes := #[]
  staticTypes := #[(.object "jdk/internal/misc/Unsafe"), .boolean, .int, .int, .int, .int, .int, .int, .int, .int, .int, .int, .int, .int, .int, .int, .int, .int, .int, (.object "jdk/internal/access/JavaLangAccess"), .int]
  resolved := Array.replicate 378 none
  statics := none }

/-- the primitive byte -/
def k22 : Class := { plain "byte" none with kind := .primitive 'B', accessFlags := 0x411 }
/-- [B -/
def k23 : Class := { plain "[B" (some 0) with kind := .array 22 .byte, interfaces := #[9, 10], accessFlags := 1041 }

/-- the primitive int -/
def k24 : Class := { plain "int" none with kind := .primitive 'I', accessFlags := 0x411 }
/-- [I -/
def k25 : Class := { plain "[I" (some 0) with kind := .array 24 .int, interfaces := #[9, 10], accessFlags := 1041 }

/-- [Ljava/lang/Object; -/
def k26 : Class := { plain "[Ljava/lang/Object;" (some 0) with kind := .array 0 (.object "java/lang/Object"), interfaces := #[9, 10], accessFlags := 1041 }

def heap : Heap := #[{ cls := 11, slots := #[.long 0, .int 0, .ref 5, .ref 6], vm := .statics 11 },
  { cls := 12, slots := #[.long 0, .ref 4], vm := .statics 12 },
  { cls := 17, slots := #[.long 0, .int 1, .null, .int 0, .null, .int 0, .int 0], vm := .statics 17 },
  { cls := 20, slots := #[.null, .null, .null], vm := .statics 20 },
  { cls := 12, slots := #[.int 0, .double 0, .long 0, .long 0, .long 0, .long 0, .null], vm := .none },
  { cls := 26, slots := #[], vm := .none },
  { cls := 26, slots := #[], vm := .none }]
def classes : Array Class := #[k0, k1, k2, k3, k4, k5, k6, k7, k8, k9, k10, k11, k12, k13, k14, k15, k16, k17, k18, k19, k20, k21, k22, k23, k24, k25, k26]
def interned : List (Array UInt16 × Addr) := []
def slotsUsed : Nat := 23
def theMethod : MethodId := ⟨1, 1⟩
def args0 : Array Value := #[.int 5, .long 5, .long 5, .long 5, .long 5, .int 5]
def aboutOver (below : List Frame) : State where
  vm := { classes := classes, interned := interned.toArray }
  heap := heap
  slotsUsed := slotsUsed
  threads := #[{ frames := .invoking theMethod args0 :: below }]
def below0 : List Frame := [.native { method := ⟨0, 0⟩, args := #[] }]
def about1 : State := aboutOver below0
def p0 : Program := .bare "" "" ""
def e0 : Env := launch0.env 0 0 0
theorem w_frames : about1.frames = Frame.invoking theMethod args0 :: below0 := rfl
set_option maxRecDepth 65536 in
theorem w_args : argsFit about1.vm theMethod args0 = true := by decide +kernel
set_option maxRecDepth 65536 in
theorem w_heap : heapFits about1 = true := by decide +kernel
set_option maxRecDepth 65536 in
theorem w_runnable : about1.curStatus? = some .runnable := by decide +kernel
set_option maxRecDepth 65536 in
theorem w_alone : about1.alone = true := by decide +kernel
set_option maxRecDepth 65536 in
theorem w_named : about1.methodNamed? x = some theMethod := by decide +kernel
set_option maxRecDepth 65536 in
theorem w_hears : about1.hears theMethod below0 = true := by decide +kernel
set_option maxRecDepth 65536 in
theorem w_ripe : about1.ripe theMethod args0 below0 = true := by decide +kernel
theorem w_running : about1.status = .running := rfl
set_option maxRecDepth 65536 in
theorem w_room : about1.hasRoom e0.platform room_1 = true :=
  launch0.hasRoom_least _ room_1 (by decide +kernel) (by decide +kernel) (by decide +kernel) (by decide +kernel) (by decide +kernel) (by decide +kernel)
theorem allAtoms_all (ts : List Jvm.Cond) (a : Array Jvm.Value) (st : Jvm.State) : (allAtoms ts).before a st = ts.all (fun c => c.before a st) := by
  induction ts with
  | nil => rfl
  | cons c t ih =>
    show (Jvm.Cond.and c (allAtoms t)).before a st = _
    rw [Jvm.Cond.before_and, ih, List.all_cons]
def words1 : List Jvm.Cond := Jvm.Cond.code x code maxLocals ret :: tables_1
/-- a 'code' word, met by the world's own term for the bytes: nothing is compared byte by byte -/
theorem code_word {y : MethodName} {bytes : ByteArray} {mx : Nat} {rt : Option FieldType} {a : Array Value} {s : State} {m : MethodId} {meth : Method} {c : Code} (h1 : s.methodNamed? y = some m) (h2 : s.vm.method? m = some meth) (h3 : meth.code = some c) (h4 : c.code = bytes)
    (h5 : (c.maxLocals == mx && c.exceptionTable.isEmpty && decide (c.maxStack ≤ mostOperands) && decide (meth.sig.returnType = rt) && !meth.locks && decide (parseMethodDescriptor y.desc = some meth.sig)) = true) : (Jvm.Cond.code y bytes mx rt).before a s = true := by
  simp only [Bool.and_eq_true, beq_iff_eq, Bool.not_eq_true', decide_eq_true_eq] at h5
  obtain ⟨⟨⟨⟨⟨g1, g2⟩, g3⟩, g4⟩, g5⟩, g6⟩ := h5
  simp [Cond.before, Cond.holds, Cond.value, h1, h2, h3, h4, g1, g2, g3, g4, g5, g6]
def isCode : Jvm.Cond → Bool
  | .code _ _ _ _ => true
  | _ => false
theorem all_split {L : List Jvm.Cond} {P : Jvm.Cond → Bool} (h1 : L.all (fun c => isCode c || P c) = true) (h2 : ∀ c ∈ L.filter isCode, P c = true) : L.all P = true := by
  refine List.all_eq_true.mpr fun c hc => ?_
  have h := List.all_eq_true.mp h1 c hc
  rcases Bool.eq_false_or_eq_true (isCode c) with hi | hi
  · exact h2 c (List.mem_filter.mpr ⟨hc, hi⟩)
  · simpa [hi] using h
set_option maxRecDepth 65536 in
theorem w_c0 : (Jvm.Cond.code x code maxLocals ret).before args0 about1 = true := code_word (m := ⟨1, 1⟩) (meth := k1m1) (c := k1c1) (by decide +kernel) rfl rfl rfl (by decide +kernel)
set_option maxRecDepth 65536 in
theorem w_c1 : (Jvm.Cond.code ({ cls := "java/util/ArrayList", name := "<init>", desc := "()V" } : Jvm.MethodName) jdk_38_method_2_code (1 : Nat) (Option.none : Option Jvm.ClassFile.FieldType)).before args0 about1 = true := code_word (m := ⟨11, 0⟩) (meth := k11m0) (c := k11c0) (by decide +kernel) rfl rfl rfl (by decide +kernel)
set_option maxRecDepth 65536 in
theorem w_c2 : (Jvm.Cond.code ({ cls := "java/util/AbstractList", name := "<init>", desc := "()V" } : Jvm.MethodName) jdk_39_method_1_code (1 : Nat) (Option.none : Option Jvm.ClassFile.FieldType)).before args0 about1 = true := code_word (m := ⟨7, 0⟩) (meth := k7m0) (c := k7c0) (by decide +kernel) rfl rfl rfl (by decide +kernel)
set_option maxRecDepth 65536 in
theorem w_c3 : (Jvm.Cond.code ({ cls := "java/util/AbstractCollection", name := "<init>", desc := "()V" } : Jvm.MethodName) jdk_22_method_1_code (1 : Nat) (Option.none : Option Jvm.ClassFile.FieldType)).before args0 about1 = true := code_word (m := ⟨4, 0⟩) (meth := k4m0) (c := k4c0) (by decide +kernel) rfl rfl rfl (by decide +kernel)
set_option maxRecDepth 65536 in
theorem w_c4 : (Jvm.Cond.code ({ cls := "java/lang/Object", name := "<init>", desc := "()V" } : Jvm.MethodName) object_method_1_code (1 : Nat) (Option.none : Option Jvm.ClassFile.FieldType)).before args0 about1 = true := code_word (m := ⟨0, 0⟩) (meth := k0m0) (c := k0c0) (by decide +kernel) rfl rfl rfl (by decide +kernel)
set_option maxRecDepth 65536 in
theorem w_c5 : (Jvm.Cond.code ({ cls := "com/example/danaid/danaid/Decision", name := "<init>", desc := "(DJJJJLjava/util/List;)V" } : Jvm.MethodName) prog_3_method_1_code (12 : Nat) (Option.none : Option Jvm.ClassFile.FieldType)).before args0 about1 = true := code_word (m := ⟨12, 0⟩) (meth := k12m0) (c := k12c0) (by decide +kernel) rfl rfl rfl (by decide +kernel)
set_option maxRecDepth 65536 in
theorem w_c6 : (Jvm.Cond.code ({ cls := "java/util/ArrayList", name := "isEmpty", desc := "()Z" } : Jvm.MethodName) jdk_38_method_9_code (1 : Nat) (Option.some Jvm.ClassFile.FieldType.boolean)).before args0 about1 = true := code_word (m := ⟨11, 3⟩) (meth := k11m3) (c := k11c3) (by decide +kernel) rfl rfl rfl (by decide +kernel)
set_option maxRecDepth 65536 in
theorem w_c7 : (Jvm.Cond.code ({ cls := "com/example/danaid/danaid/Decision", name := "unlimited", desc := "()Lcom/example/danaid/danaid/Decision;" } : Jvm.MethodName) prog_3_method_2_code (0 : Nat) (Option.some (Jvm.ClassFile.FieldType.object "com/example/danaid/danaid/Decision"))).before args0 about1 = true := code_word (m := ⟨12, 1⟩) (meth := k12m1) (c := k12c1) (by decide +kernel) rfl rfl rfl (by decide +kernel)
set_option maxRecDepth 65536 in
theorem w_c8 : (Jvm.Cond.code ({ cls := "com/example/danaid/danaid/Decision", name := "isUnlimited", desc := "()Z" } : Jvm.MethodName) prog_3_method_3_code (1 : Nat) (Option.some Jvm.ClassFile.FieldType.boolean)).before args0 about1 = true := code_word (m := ⟨12, 2⟩) (meth := k12m2) (c := k12c2) (by decide +kernel) rfl rfl rfl (by decide +kernel)
set_option maxRecDepth 65536 in
theorem w_c9 : (Jvm.Cond.code ({ cls := "java/lang/String", name := "valueOf", desc := "(C)Ljava/lang/String;" } : Jvm.MethodName) jdk_42_method_139_code (1 : Nat) (Option.some (Jvm.ClassFile.FieldType.object "java/lang/String"))).before args0 about1 = true := code_word (m := ⟨17, 1⟩) (meth := k17m1) (c := k17c1) (by decide +kernel) rfl rfl rfl (by decide +kernel)
set_option maxRecDepth 65536 in
theorem w_c10 : (Jvm.Cond.code ({ cls := "java/lang/StringLatin1", name := "canEncode", desc := "(C)Z" } : Jvm.MethodName) jdk_43_method_3_code (1 : Nat) (Option.some Jvm.ClassFile.FieldType.boolean)).before args0 about1 = true := code_word (m := ⟨18, 1⟩) (meth := k18m1) (c := k18c1) (by decide +kernel) rfl rfl rfl (by decide +kernel)
set_option maxRecDepth 65536 in
theorem w_c11 : (Jvm.Cond.code ({ cls := "java/lang/StringLatin1", name := "toBytes", desc := "(C)[B" } : Jvm.MethodName) jdk_43_method_46_code (1 : Nat) (Option.some (Jvm.ClassFile.FieldType.array Jvm.ClassFile.FieldType.byte))).before args0 about1 = true := code_word (m := ⟨18, 2⟩) (meth := k18m2) (c := k18c2) (by decide +kernel) rfl rfl rfl (by decide +kernel)
set_option maxRecDepth 65536 in
theorem w_c12 : (Jvm.Cond.code ({ cls := "java/lang/String", name := "<init>", desc := "([BB)V" } : Jvm.MethodName) jdk_42_method_151_code (3 : Nat) (Option.none : Option Jvm.ClassFile.FieldType)).before args0 about1 = true := code_word (m := ⟨17, 2⟩) (meth := k17m2) (c := k17c2) (by decide +kernel) rfl rfl rfl (by decide +kernel)
set_option maxRecDepth 65536 in
theorem w_c13 : (Jvm.Cond.code ({ cls := "java/util/ArrayList", name := "add", desc := "(Ljava/lang/Object;)Z" } : Jvm.MethodName) jdk_38_method_25_code (2 : Nat) (Option.some Jvm.ClassFile.FieldType.boolean)).before args0 about1 = true := code_word (m := ⟨11, 5⟩) (meth := k11m5) (c := k11c5) (by decide +kernel) rfl rfl rfl (by decide +kernel)
set_option maxRecDepth 65536 in
theorem w_c14 : (Jvm.Cond.code ({ cls := "java/util/ArrayList", name := "add", desc := "(Ljava/lang/Object;[Ljava/lang/Object;I)V" } : Jvm.MethodName) jdk_38_method_24_code (4 : Nat) (Option.none : Option Jvm.ClassFile.FieldType)).before args0 about1 = true := code_word (m := ⟨11, 4⟩) (meth := k11m4) (c := k11c4) (by decide +kernel) rfl rfl rfl (by decide +kernel)
set_option maxRecDepth 65536 in
theorem w_c15 : (Jvm.Cond.code ({ cls := "java/util/ArrayList", name := "grow", desc := "()[Ljava/lang/Object;" } : Jvm.MethodName) jdk_38_method_7_code (1 : Nat) (Option.some (Jvm.ClassFile.FieldType.array (Jvm.ClassFile.FieldType.object "java/lang/Object")))).before args0 about1 = true := code_word (m := ⟨11, 2⟩) (meth := k11m2) (c := k11c2) (by decide +kernel) rfl rfl rfl (by decide +kernel)
set_option maxRecDepth 65536 in
theorem w_c16 : (Jvm.Cond.code ({ cls := "java/util/ArrayList", name := "grow", desc := "(I)[Ljava/lang/Object;" } : Jvm.MethodName) jdk_38_method_6_code (4 : Nat) (Option.some (Jvm.ClassFile.FieldType.array (Jvm.ClassFile.FieldType.object "java/lang/Object")))).before args0 about1 = true := code_word (m := ⟨11, 1⟩) (meth := k11m1) (c := k11c1) (by decide +kernel) rfl rfl rfl (by decide +kernel)
set_option maxRecDepth 65536 in
theorem w_c17 : (Jvm.Cond.code ({ cls := "java/lang/Math", name := "max", desc := "(II)I" } : Jvm.MethodName) jdk_29_method_65_code (2 : Nat) (Option.some Jvm.ClassFile.FieldType.int)).before args0 about1 = true := code_word (m := ⟨19, 1⟩) (meth := k19m1) (c := k19c1) (by decide +kernel) rfl rfl rfl (by decide +kernel)
def codes1 : List Jvm.Cond := [Jvm.Cond.code x code maxLocals ret, Jvm.Cond.code ({ cls := "java/util/ArrayList", name := "<init>", desc := "()V" } : Jvm.MethodName) jdk_38_method_2_code (1 : Nat) (Option.none : Option Jvm.ClassFile.FieldType), Jvm.Cond.code ({ cls := "java/util/AbstractList", name := "<init>", desc := "()V" } : Jvm.MethodName) jdk_39_method_1_code (1 : Nat) (Option.none : Option Jvm.ClassFile.FieldType), Jvm.Cond.code ({ cls := "java/util/AbstractCollection", name := "<init>", desc := "()V" } : Jvm.MethodName) jdk_22_method_1_code (1 : Nat) (Option.none : Option Jvm.ClassFile.FieldType), Jvm.Cond.code ({ cls := "java/lang/Object", name := "<init>", desc := "()V" } : Jvm.MethodName) object_method_1_code (1 : Nat) (Option.none : Option Jvm.ClassFile.FieldType), Jvm.Cond.code ({ cls := "com/example/danaid/danaid/Decision", name := "<init>", desc := "(DJJJJLjava/util/List;)V" } : Jvm.MethodName) prog_3_method_1_code (12 : Nat) (Option.none : Option Jvm.ClassFile.FieldType), Jvm.Cond.code ({ cls := "java/util/ArrayList", name := "isEmpty", desc := "()Z" } : Jvm.MethodName) jdk_38_method_9_code (1 : Nat) (Option.some Jvm.ClassFile.FieldType.boolean), Jvm.Cond.code ({ cls := "com/example/danaid/danaid/Decision", name := "unlimited", desc := "()Lcom/example/danaid/danaid/Decision;" } : Jvm.MethodName) prog_3_method_2_code (0 : Nat) (Option.some (Jvm.ClassFile.FieldType.object "com/example/danaid/danaid/Decision")), Jvm.Cond.code ({ cls := "com/example/danaid/danaid/Decision", name := "isUnlimited", desc := "()Z" } : Jvm.MethodName) prog_3_method_3_code (1 : Nat) (Option.some Jvm.ClassFile.FieldType.boolean), Jvm.Cond.code ({ cls := "java/lang/String", name := "valueOf", desc := "(C)Ljava/lang/String;" } : Jvm.MethodName) jdk_42_method_139_code (1 : Nat) (Option.some (Jvm.ClassFile.FieldType.object "java/lang/String")), Jvm.Cond.code ({ cls := "java/lang/StringLatin1", name := "canEncode", desc := "(C)Z" } : Jvm.MethodName) jdk_43_method_3_code (1 : Nat) (Option.some Jvm.ClassFile.FieldType.boolean), Jvm.Cond.code ({ cls := "java/lang/StringLatin1", name := "toBytes", desc := "(C)[B" } : Jvm.MethodName) jdk_43_method_46_code (1 : Nat) (Option.some (Jvm.ClassFile.FieldType.array Jvm.ClassFile.FieldType.byte)), Jvm.Cond.code ({ cls := "java/lang/String", name := "<init>", desc := "([BB)V" } : Jvm.MethodName) jdk_42_method_151_code (3 : Nat) (Option.none : Option Jvm.ClassFile.FieldType), Jvm.Cond.code ({ cls := "java/util/ArrayList", name := "add", desc := "(Ljava/lang/Object;)Z" } : Jvm.MethodName) jdk_38_method_25_code (2 : Nat) (Option.some Jvm.ClassFile.FieldType.boolean), Jvm.Cond.code ({ cls := "java/util/ArrayList", name := "add", desc := "(Ljava/lang/Object;[Ljava/lang/Object;I)V" } : Jvm.MethodName) jdk_38_method_24_code (4 : Nat) (Option.none : Option Jvm.ClassFile.FieldType), Jvm.Cond.code ({ cls := "java/util/ArrayList", name := "grow", desc := "()[Ljava/lang/Object;" } : Jvm.MethodName) jdk_38_method_7_code (1 : Nat) (Option.some (Jvm.ClassFile.FieldType.array (Jvm.ClassFile.FieldType.object "java/lang/Object"))), Jvm.Cond.code ({ cls := "java/util/ArrayList", name := "grow", desc := "(I)[Ljava/lang/Object;" } : Jvm.MethodName) jdk_38_method_6_code (4 : Nat) (Option.some (Jvm.ClassFile.FieldType.array (Jvm.ClassFile.FieldType.object "java/lang/Object"))), Jvm.Cond.code ({ cls := "java/lang/Math", name := "max", desc := "(II)I" } : Jvm.MethodName) jdk_29_method_65_code (2 : Nat) (Option.some Jvm.ClassFile.FieldType.int)]
set_option maxRecDepth 65536 in
theorem codes_eq : words1.filter isCode = codes1 := rfl
theorem w_codes : ∀ c ∈ words1.filter isCode, c.before args0 about1 = true := by
  rw [codes_eq]
  intro c hc
  simp only [codes1, List.mem_cons, List.not_mem_nil, or_false] at hc
  rcases hc with rfl | rfl | rfl | rfl | rfl | rfl | rfl | rfl | rfl | rfl | rfl | rfl | rfl | rfl | rfl | rfl | rfl | rfl
  · exact w_c0
  · exact w_c1
  · exact w_c2
  · exact w_c3
  · exact w_c4
  · exact w_c5
  · exact w_c6
  · exact w_c7
  · exact w_c8
  · exact w_c9
  · exact w_c10
  · exact w_c11
  · exact w_c12
  · exact w_c13
  · exact w_c14
  · exact w_c15
  · exact w_c16
  · exact w_c17
set_option maxRecDepth 65536 in
theorem w_t1 : (words1.take 24).all (fun c => isCode c || c.before args0 about1) = true := by decide +kernel
set_option maxRecDepth 65536 in
theorem w_t2 : ((words1.drop 24).take 24).all (fun c => isCode c || c.before args0 about1) = true := by decide +kernel
set_option maxRecDepth 65536 in
theorem w_t3 : (((words1.drop 24).drop 24).take 24).all (fun c => isCode c || c.before args0 about1) = true := by decide +kernel
set_option maxRecDepth 65536 in
theorem w_t4 : ((((words1.drop 24).drop 24).drop 24).take 24).all (fun c => isCode c || c.before args0 about1) = true := by decide +kernel
set_option maxRecDepth 65536 in
theorem w_t5 : (((((words1.drop 24).drop 24).drop 24).drop 24).take 24).all (fun c => isCode c || c.before args0 about1) = true := by decide +kernel
set_option maxRecDepth 65536 in
theorem w_t6 : (((((words1.drop 24).drop 24).drop 24).drop 24).drop 24).all (fun c => isCode c || c.before args0 about1) = true := by decide +kernel
theorem w_tables : (allAtoms (Jvm.Cond.code x code maxLocals ret :: tables_1)).before args0 about1 = true := by
  rw [allAtoms_all]
  show words1.all (fun c => c.before args0 about1) = true
  refine all_split ?_ w_codes
  rw [← List.take_append_drop 24 words1, List.all_append, w_t1, ← List.take_append_drop 24 (words1.drop 24), List.all_append, w_t2, ← List.take_append_drop 24 ((words1.drop 24).drop 24), List.all_append, w_t3, ← List.take_append_drop 24 (((words1.drop 24).drop 24).drop 24), List.all_append, w_t4, ← List.take_append_drop 24 ((((words1.drop 24).drop 24).drop 24).drop 24), List.all_append, w_t5, w_t6]
  rfl
set_option maxRecDepth 65536 in
theorem w_rest : rest_1_c.before args0 about1 = true := by decide +kernel
set_option maxRecDepth 65536 in
theorem w_case : (Jvm.Cond.and given_1 narrow_1).before args0 about1 = true := by decide +kernel
theorem w_applies : (headSpec (Jvm.Cond.code x code maxLocals ret :: tables_1) room_1).applies x e0.platform about1 = true :=
  (Spec.applies_iff w_frames).mpr ⟨w_running, w_runnable, w_alone, w_named, w_hears, w_ripe, w_room, w_tables⟩
theorem atStart : AtStart classFile x code maxLocals ret World_1 tables_1 room_1 Calls_1 rest_1 Pre_1 launch0 p0 e0 about1 theMethod args0 below0 :=
  ⟨lists_1, trivial, launch0.admits_env _ _ _, launch0.least_env, fairChoices_fair.cas, fairChoices_fair.clock, w_frames, w_args, w_heap, w_applies, trivial, w_rest, w_case⟩
end start1
theorem witness_1 : WitnessClaimed_1 := ⟨start1.p0, start1.e0, start1.about1, start1.theMethod, start1.args0, start1.below0, start1.atStart⟩
end Jvm.Pilot.@@N@@
