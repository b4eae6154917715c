import JvmDerived
import JvmDerived.Pilot.@@N@@Statement
import JvmDerived.Pilot.@@N@@Code
set_option linter.unusedVariables false
set_option linter.unusedSimpArgs false
namespace Jvm.Pilot.@@N@@
open Jvm Jvm.ClassFile Sem Op Lib Jvm.Free Jvm.Stand Jvm.LawKit Jvm.RoadKit Bundle Jvm.Pilot.@@N@@.Jvm.D
section OwnKit
variable {p : Program} {l : Launch} {e : Env} {R : Room} {s : State} {m : MethodId} {args : Array Value} {below : List Frame} {meth : Method} {c : Code} {T : State} {locs : List Loc} {cells slots : Nat}
/-- the contract of a body at given arguments and a given heap -/
def own_Con (l : Launch) (Z : State) (y : MethodName) (bytes : ByteArray) (maxL : Nat) (ret : Option FieldType) (ws : List Jvm.Cond) (rm : Room) (as' : Array Value) (h0 : Heap) (Q : Option Value → Heap → List Loc → Prop) : Prop :=
  MetFree l y (head1 (Jvm.Cond.code y bytes maxL ret :: ws) rm) (fun a U => a = as' ∧ Z.Warmed39 U.vm ∧ U.heap = h0) (fun _ _ _ _ _ => True) (fun _ U o U' => ∃ v L, o = .returned v ∧ Q v U'.heap L ∧ FrameEnd U o U' L rm.cells rm.slots)
/-- G holds of a state where the walk is owed; it goes backwards over steps -/
def own_Bk (p : Program) (e : Env) (below : List Frame) (G : State → Prop) : Prop := ∀ S S', (∀ t, Steps p.tables e below S' t → Steps p.tables e below S t) → G S' → G S
/-- a walk may end where its body returns -/
def own_Rt (p : Program) (l : Launch) (e : Env) (rm : Room) (s : State) (m : MethodId) (as' : Array Value) (below : List Frame) (meth : Method) (c : Code) (ret : Option FieldType) (Q : Option Value → Heap → List Loc → Prop) (G : State → Prop) : Prop :=
  ∀ T locs cells slots v S, Stand p l e rm s m as' below meth c T locs cells slots → cells ≤ rm.cells → slots ≤ rm.slots → (ret = none → v = none) → Q v T.heap locs →
    (∀ fs, (∀ (f : JFrame) (acts : List Action), f.method = m → f.locked = none → f.entered = [] → (doReturn e (T.setTop f) acts v).1 = T.setFrames fs) → Steps p.tables e below S (T.setFrames fs)) → G S
theorem own_intro {Z : State} {y : MethodName} {bytes : ByteArray} {maxL : Nat} {ret : Option FieldType} {ws : List Jvm.Cond} {rm : Room} {as' : Array Value} {h0 : Heap} {Q : Option Value → Heap → List Loc → Prop} (hpn : plainFor y = true)
    (H : ∀ (p : Program) (e : Env) (s : State) (m : MethodId) (below : List Frame) (meth : Method) (c : Code) (s₁ : State) (G : State → Prop), p.tables.exec = Jvm.exec → c.code = bytes → c.maxLocals = maxL → s.vm.findClass y.cls = some m.cls → meth.name = y.name → meth.sig.returnType = ret → Z.Warmed39 s.vm →
      Stand p l e rm s m as' below meth c s₁ [] 0 0 → s₁.heap = h0 → own_Bk p e below G → own_Rt p l e rm s m as' below meth c ret Q G → G (s₁.setTop (entryFrame m as' maxL))) : own_Con l Z y bytes maxL ret ws rm as' h0 Q := by
  refine MetFree.of_bodySF hpn hisR ?_
  intro p e s m args below meth c s₁ Bd hml hP hK
  obtain ⟨rfl, hZ, hh⟩ := hP
  refine H p e s m below meth c s₁ (fun S => ∃ s₂ o, Steps p.tables e below S s₂ ∧ s₂.status = .running ∧ Ended s₂ below o ∧ ∃ v L, o = .returned v ∧ Q v s₂.heap L ∧ FrameEnd s o s₂ L rm.cells rm.slots) Bd.exec Bd.bytes hml (findClass_of_methodNamed Bd.named) (name_of_methodNamed Bd.named Bd.method).1 Bd.returns hZ (Stand.of_body Bd) (by rw [← hh, Bd.state]; rfl) ?_ ?_
  · rintro S S' st ⟨s₂, o, h1, h2⟩
    exact ⟨s₂, o, st _ h1, h2⟩
  · intro T locs cells slots v S X hc hs hv hQ hst
    obtain ⟨fs, hr, hrun, hended, hW, hsame⟩ := X.leave (v := v) (fun h => hv (Bd.returns ▸ h))
    exact ⟨_, _, hst fs hr, hrun, hended, v, locs, rfl, hQ, ⟨_, rfl⟩, hW, hsame.mono hc hs⟩
section Rets
variable {Q : Option Value → Heap → List Loc → Prop} {G : State → Prop} {ret : Option FieldType} {pc : Nat} {Ls : Array Slot} {rest : List Value}
theorem own_retV (hR : own_Rt p l e R s m args below meth c none Q G) (hret : meth.sig.returnType = none) (X : Stand p l e R s m args below meth c T locs cells slots) (hx : p.tables.exec = Jvm.exec) (hd : decode c.code pc = .ok (.return_, 1)) (hc : cells ≤ R.cells) (hs : slots ≤ R.slots) (hQ : Q none T.heap locs) : G (T.setTop (mkF m pc Ls [])) :=
  hR T locs cells slots none _ X hc hs (fun _ => rfl) hQ fun fs hr => X.returnOut hx hret hd hr
theorem own_retA {t : FieldType} {v : Value} (hR : own_Rt p l e R s m args below meth c (some t) Q G) (hret : meth.sig.returnType = some t) (ht : t.isReference = true) (hv : v.isRef = true) (X : Stand p l e R s m args below meth c T locs cells slots) (hx : p.tables.exec = Jvm.exec) (hd : decode c.code pc = .ok (.areturn, 1)) (hc : cells ≤ R.cells) (hs : slots ≤ R.slots) (hQ : Q (some v) T.heap locs) : G (T.setTop (mkF m pc Ls (v :: rest))) :=
  hR T locs cells slots (some v) _ X hc hs (fun h => nomatch h) hQ fun fs hr => retOut X hx hret (by cases t <;> simp_all [FieldType.isReference, narrow]) (Or.inr (Or.inr (Or.inr (Or.inr ⟨rfl, ht, hv⟩)))) hd hr
theorem own_retI {z : Int32} (hR : own_Rt p l e R s m args below meth c (some .int) Q G) (hret : meth.sig.returnType = some .int) (X : Stand p l e R s m args below meth c T locs cells slots) (hx : p.tables.exec = Jvm.exec) (hd : decode c.code pc = .ok (.ireturn, 1)) (hc : cells ≤ R.cells) (hs : slots ≤ R.slots) (hQ : Q (some (.int z)) T.heap locs) : G (T.setTop (mkF m pc Ls (.int z :: rest))) :=
  hR T locs cells slots (some (.int z)) _ X hc hs (fun h => nomatch h) hQ fun fs hr => retOut X hx hret rfl (Or.inl ⟨rfl, Or.inl rfl, z, rfl⟩) hd hr
theorem own_retL {z : Int64} (hR : own_Rt p l e R s m args below meth c (some .long) Q G) (hret : meth.sig.returnType = some .long) (X : Stand p l e R s m args below meth c T locs cells slots) (hx : p.tables.exec = Jvm.exec) (hd : decode c.code pc = .ok (.lreturn, 1)) (hc : cells ≤ R.cells) (hs : slots ≤ R.slots) (hQ : Q (some (.long z)) T.heap locs) : G (T.setTop (mkF m pc Ls (.long z :: rest))) :=
  hR T locs cells slots (some (.long z)) _ X hc hs (fun h => nomatch h) hQ fun fs hr => retOut X hx hret rfl (Or.inr (Or.inl ⟨rfl, rfl, z, rfl⟩)) hd hr
theorem own_retN {z : Int32} {t : FieldType} (hR : own_Rt p l e R s m args below meth c (some t) Q G) (hret : meth.sig.returnType = some t) (ht : t = .boolean ∨ t = .byte ∨ t = .char ∨ t = .short) (X : Stand p l e R s m args below meth c T locs cells slots) (hx : p.tables.exec = Jvm.exec) (hd : decode c.code pc = .ok (.ireturn, 1)) (hc : cells ≤ R.cells) (hs : slots ≤ R.slots) (hQ : Q (some (.int (nar t z))) T.heap locs) : G (T.setTop (mkF m pc Ls (.int z :: rest))) :=
  hR T locs cells slots (some (.int (nar t z))) _ X hc hs (fun h => nomatch h) hQ fun fs hr => retN X hx hret ht hd hr
end Rets
section Calls
variable {Z : State} {a0 : Array Value} {own : String} {index : Nat} {y z : MethodName} {bytes : ByteArray} {maxL : Nat} {ret : Option FieldType} {rm : Room} {as' : Array Value} {h : Heap} {Q : Option Value → Heap → List Loc → Prop} {G : State → Prop} {pc : Nat} {Ls : Array Slot} {stk argsL rest : List Value}
theorem own_callS (X : Stand p l e R s m args below meth c T locs cells slots) (hx : p.tables.exec = Jvm.exec) (hZ : Z.Warmed39 s.vm) (hG : own_Bk p e below G) (hown : s.vm.findClass own = some m.cls)
    (w1 : (Jvm.Cond.methodLink own index y).before a0 Z = true) (w2 : (Jvm.Cond.static y).before a0 Z = true) (w3 : (Jvm.Cond.initialized y.cls).before a0 Z = true) (w4 : (Jvm.Cond.code y bytes maxL ret).before a0 Z = true)
    (hy : y.cls ≠ "java/lang/invoke/MethodHandle" ∧ y.cls ≠ "java/lang/invoke/VarHandle") (W : Nat) (hM : own_Con l Z y bytes maxL ret [] rm as' h Q) (hf : rm.frames + 1 ≤ R.frames) (hlo : W + (maxL + 11) + rm.locals ≤ R.locals) (eT : T.heap = h)
    (hsize : Ls.size = c.maxLocals) (hlen : ∀ sig, parseMethodDescriptor y.desc = some sig → argsL.length = sig.parameters.length) (has : argsL.toArray = as') (hst : stk = argsL.reverse ++ rest) (hW : (rest.map fun v => v.category).sum ≤ W)
    (hd : decode c.code pc = .ok (.invokestatic index, 3)) (hc : cells + rm.cells ≤ R.cells) (hs : slots + rm.slots ≤ R.slots)
    (k : ∀ T' h' v L, Stand p l e R s m args below meth c T' (locs ++ L) (cells + rm.cells) (slots + rm.slots) → T'.heap = h' → Q v h' L → G (T'.setTop (mkF m (pc + 3) Ls (v.toList ++ rest)))) : G (T.setTop (mkF m pc Ls stk)) := by
  obtain ⟨v, _, ⟨T1, L1, k1, n1⟩, -, X1, ⟨L, hQ, rfl, rfl, rfl⟩, st⟩ := Jvm.LawKit.callS X hx (y := y) hown (mvT hZ w1) (mvT hZ w2) (mvT hZ w3) (mvT hZ w4) hy (backOf (W := W) hM hZ w4 w3 hf hlo) (g := mkF m pc Ls stk) rfl hsize (argsL := argsL) (rest := rest) hlen hst (by show 2 * 0 + _ ≤ _; rw [Nat.mul_zero, Nat.zero_add]; exact hW) hd (fun _ _ => ⟨has, eT, hc, hs⟩)
  exact hG _ _ st (k T1 _ v L X1 rfl hQ)
theorem own_callI (X : Stand p l e R s m args below meth c T locs cells slots) (hx : p.tables.exec = Jvm.exec) (hZ : Z.Warmed39 s.vm) (hG : own_Bk p e below G) (hown : s.vm.findClass own = some m.cls) (hy1 : y.name = "<init>")
    (w1 : (Jvm.Cond.methodLink own index y).before a0 Z = true) (w2 : (Jvm.Cond.instanceMethod y).before a0 Z = true) (w3 : (Jvm.Cond.initialized y.cls).before a0 Z = true) (w4 : (Jvm.Cond.code y bytes maxL none).before a0 Z = true)
    (hy : y.cls ≠ "java/lang/invoke/MethodHandle" ∧ y.cls ≠ "java/lang/invoke/VarHandle") (W : Nat) (hM : own_Con l Z y bytes maxL none [] rm as' h Q) (hf : rm.frames + 1 ≤ R.frames) (hlo : W + (maxL + 11) + rm.locals ≤ R.locals) (eT : T.heap = h)
    (hsize : Ls.size = c.maxLocals) (hlen : ∀ sig, parseMethodDescriptor y.desc = some sig → argsL.length = sig.parameters.length) {a : Addr} (has : (.ref a :: argsL).toArray = as') (hst : stk = argsL.reverse ++ .ref a :: rest) (hW : (rest.map fun v => v.category).sum ≤ W)
    (hd : decode c.code pc = .ok (.invokespecial index, 3)) (hc : cells + rm.cells ≤ R.cells) (hs : slots + rm.slots ≤ R.slots)
    (k : ∀ T' h' v L, Stand p l e R s m args below meth c T' (locs ++ L) (cells + rm.cells) (slots + rm.slots) → T'.heap = h' → Q v h' L → G (T'.setTop (mkF m (pc + 3) Ls (v.toList ++ rest)))) : G (T.setTop (mkF m pc Ls stk)) := by
  obtain ⟨v, _, ⟨T1, L1, k1, n1⟩, -, X1, ⟨L, hQ, rfl, rfl, rfl⟩, st⟩ := X.specialBack hx (y := y) hy1 hown (mvT hZ w1) (mvT hZ w2) (mvT hZ w4) hy (backOf (W := W) hM hZ w4 w3 hf hlo) (g := mkF m pc Ls stk) rfl hsize (Steps.refl _) (a := a) (argsL := argsL) (rest := rest) hlen hst (by show 2 * 0 + _ ≤ _; rw [Nat.mul_zero, Nat.zero_add]; exact hW) hd (fun _ _ => ⟨has, eT, hc, hs⟩)
  exact hG _ _ (fun t kk => st.trans kk) (k T1 _ v L X1 rfl hQ)
theorem own_callV {C : String} (X : Stand p l e R s m args below meth c T locs cells slots) (hx : p.tables.exec = Jvm.exec) (hZ : Z.Warmed39 s.vm) (hG : own_Bk p e below G) (hown : s.vm.findClass own = some m.cls)
    (w1 : (Jvm.Cond.methodLink own index y).before a0 Z = true) (w2 : (Jvm.Cond.declares y).before a0 Z = true) (w3 : (Jvm.Cond.selects C y y).before a0 Z = true) (w4 : (Jvm.Cond.instanceMethod y).before a0 Z = true) (w5 : (Jvm.Cond.initialized y.cls).before a0 Z = true) (w6 : (Jvm.Cond.code y bytes maxL ret).before a0 Z = true)
    (hy : y.cls ≠ "java/lang/invoke/MethodHandle" ∧ y.cls ≠ "java/lang/invoke/VarHandle") (W : Nat) (hM : own_Con l Z y bytes maxL ret [] rm as' h Q) (hf : rm.frames + 1 ≤ R.frames) (hlo : W + (maxL + 11) + rm.locals ≤ R.locals) (eT : T.heap = h) {b : Addr} (E : Exa Z h b C)
    (hsize : Ls.size = c.maxLocals) (hlen : ∀ sig, parseMethodDescriptor y.desc = some sig → argsL.length = sig.parameters.length) (has : (.ref b :: argsL).toArray = as') (hst : stk = argsL.reverse ++ .ref b :: rest) (hW : (rest.map fun v => v.category).sum ≤ W)
    (hd : decode c.code pc = .ok (.invokevirtual index, 3)) (hc : cells + rm.cells ≤ R.cells) (hs : slots + rm.slots ≤ R.slots)
    (k : ∀ T' h' v L, Stand p l e R s m args below meth c T' (locs ++ L) (cells + rm.cells) (slots + rm.slots) → T'.heap = h' → Q v h' L → G (T'.setTop (mkF m (pc + 3) Ls (v.toList ++ rest)))) : G (T.setTop (mkF m pc Ls stk)) := by
  obtain ⟨cq, kq, qa, qb, qc⟩ := isOf hZ eT E
  obtain ⟨v, _, ⟨T1, L1, k1, n1⟩, -, X1, ⟨L, hQ, rfl, rfl, rfl⟩, st⟩ := X.virtualBack hx (y := y) (z := y) hown (mvT hZ w1) (mvT hZ w2) (notFace_of_selects (args := #[]) (mvT hZ w3)) (mvT hZ w3) (mvT hZ w4) hy (backOf (W := W) hM hZ w6 w5 hf hlo) qa qc (g := mkF m pc Ls stk) rfl hsize (Steps.refl _) (argsL := argsL) (rest := rest) hlen hst (by show 2 * 0 + _ ≤ _; rw [Nat.mul_zero, Nat.zero_add]; exact hW) hd (fun _ _ => ⟨has, eT, hc, hs⟩)
  exact hG _ _ (fun t kk => st.trans kk) (k T1 _ v L X1 rfl hQ)
theorem own_callP (X : Stand p l e R s m args below meth c T locs cells slots) (hx : p.tables.exec = Jvm.exec) (hZ : Z.Warmed39 s.vm) (hG : own_Bk p e below G) (hown : s.vm.findClass own = some m.cls)
    (w1 : (Jvm.Cond.methodLink own index y).before a0 Z = true) (w2 : (Jvm.Cond.instanceMethod y).before a0 Z = true) (w3 : (Jvm.Cond.selects y.cls y y).before a0 Z = true) (wp : (Jvm.Cond.privateMethod y).before a0 Z = true) (w5 : (Jvm.Cond.initialized y.cls).before a0 Z = true) (w6 : (Jvm.Cond.code y bytes maxL ret).before a0 Z = true)
    (hy : y.cls ≠ "java/lang/invoke/MethodHandle" ∧ y.cls ≠ "java/lang/invoke/VarHandle") (W : Nat) (hM : own_Con l Z y bytes maxL ret [] rm as' h Q) (hf : rm.frames + 1 ≤ R.frames) (hlo : W + (maxL + 11) + rm.locals ≤ R.locals) (eT : T.heap = h) {b : Addr} {C : String} (E : Exa Z h b C)
    (hsize : Ls.size = c.maxLocals) (hlen : ∀ sig, parseMethodDescriptor y.desc = some sig → argsL.length = sig.parameters.length) (has : (.ref b :: argsL).toArray = as') (hst : stk = argsL.reverse ++ .ref b :: rest) (hW : (rest.map fun v => v.category).sum ≤ W)
    (hd : decode c.code pc = .ok (.invokevirtual index, 3)) (hc : cells + rm.cells ≤ R.cells) (hs : slots + rm.slots ≤ R.slots)
    (k : ∀ T' h' v L, Stand p l e R s m args below meth c T' (locs ++ L) (cells + rm.cells) (slots + rm.slots) → T'.heap = h' → Q v h' L → G (T'.setTop (mkF m (pc + 3) Ls (v.toList ++ rest)))) : G (T.setTop (mkF m pc Ls stk)) := by
  obtain ⟨cell, hc1, hc2⟩ := (Ins.self E).cell
  obtain ⟨v, _, ⟨T1, L1, k1, n1⟩, -, X1, ⟨L, hQ, rfl, rfl, rfl⟩, st⟩ := X.privateBack hx (y := y) hown (mvT hZ w1) (mvT hZ w2) (mvT hZ w3) (Cond.privateMethod_at (mvP hZ wp (args := #[]))) (mvT hZ w6) hy (backOf (W := W) hM hZ w6 w5 hf hlo) (g := mkF m pc Ls stk) rfl hsize (Steps.refl _) (a := b) (by rw [eT]; exact hc1) hc2 (argsL := argsL) (rest := rest) hlen hst (by show 2 * 0 + _ ≤ _; rw [Nat.mul_zero, Nat.zero_add]; exact hW) hd (fun _ _ => ⟨has, eT, hc, hs⟩)
  exact hG _ _ (fun t kk => st.trans kk) (k T1 _ v L X1 rfl hQ)
theorem own_callF {C : String} {count : Nat} (X : Stand p l e R s m args below meth c T locs cells slots) (hx : p.tables.exec = Jvm.exec) (hZ : Z.Warmed39 s.vm) (hG : own_Bk p e below G) (hown : s.vm.findClass own = some m.cls)
    (w1 : (Jvm.Cond.methodLink own index z).before a0 Z = true) (w2 : (Jvm.Cond.declares z).before a0 Z = true) (wf : ∀ s' : State, Z.Warmed39 s'.vm → (Jvm.Cond.interfaceMethod z.cls z.cls z.name z.desc).before args s' = true) (w3 : (Jvm.Cond.selects C z y).before a0 Z = true) (w4 : (Jvm.Cond.instanceMethod y).before a0 Z = true) (wp : (Jvm.Cond.publicMethod y).before a0 Z = true) (wu : (Jvm.Cond.unhidden C z.name z.desc).before a0 Z = true) (wc : (Jvm.Cond.castable C z.cls).before a0 Z = true) (w5 : (Jvm.Cond.initialized y.cls).before a0 Z = true) (w6 : (Jvm.Cond.code y bytes maxL ret).before a0 Z = true)
    (hy : z.cls ≠ "java/lang/invoke/MethodHandle" ∧ z.cls ≠ "java/lang/invoke/VarHandle") (W : Nat) (hM : own_Con l Z y bytes maxL ret [] rm as' h Q) (hf : rm.frames + 1 ≤ R.frames) (hlo : W + (maxL + 11) + rm.locals ≤ R.locals) (eT : T.heap = h) {b : Addr} (E : Exa Z h b C)
    (hsize : Ls.size = c.maxLocals) (hlen : ∀ sig, parseMethodDescriptor z.desc = some sig → argsL.length = sig.parameters.length) (has : (.ref b :: argsL).toArray = as') (hst : stk = argsL.reverse ++ .ref b :: rest) (hW : (rest.map fun v => v.category).sum ≤ W)
    (hd : decode c.code pc = .ok (.invokeinterface index count, 5)) (hc : cells + rm.cells ≤ R.cells) (hs : slots + rm.slots ≤ R.slots)
    (k : ∀ T' h' v L, Stand p l e R s m args below meth c T' (locs ++ L) (cells + rm.cells) (slots + rm.slots) → T'.heap = h' → Q v h' L → G (T'.setTop (mkF m (pc + 5) Ls (v.toList ++ rest)))) : G (T.setTop (mkF m pc Ls stk)) := by
  obtain ⟨cq, kq, qa, qb, qc⟩ := isOf hZ eT E
  obtain ⟨v, _, ⟨T1, L1, k1, n1⟩, -, X1, ⟨L, hQ, rfl, rfl, rfl⟩, st⟩ := X.interfaceBack hx (xi := z) (y := y) hown (mvT hZ w1) (mvT hZ w2) (wf s hZ) (mvT hZ w3) (mvT hZ w4) (mvT hZ wp) (mvT hZ wu) (mvT hZ wc) hy (backOf (W := W) hM hZ w6 w5 hf hlo) qa qb qc (g := mkF m pc Ls stk) rfl hsize (Steps.refl _) (argsL := argsL) (rest := rest) hlen hst (by show 2 * 0 + _ ≤ _; rw [Nat.mul_zero, Nat.zero_add]; exact hW) hd (fun _ _ => ⟨has, eT, hc, hs⟩)
  exact hG _ _ (fun t kk => st.trans kk) (k T1 _ v L X1 rfl hQ)
end Calls
theorem own_entry {G : State → Prop} {n : Nat} {Ls : Array Slot} (q : entryFrame m args n = mkF m 0 Ls []) (k : G (T.setTop (mkF m 0 Ls []))) : G (T.setTop (entryFrame m args n)) := q ▸ k
abbrev own_Old (Z : State) (h : Heap) : Prop := Old Z Z.heap.size h
abbrev own_Fr (Z : State) (L : List Loc) : Prop := Fr Z.heap.size L
theorem own_ge {Z : State} {h : Heap} (O : own_Old Z h) {b : Addr} (q : h.size ≤ b) : Z.heap.size ≤ b := Nat.le_trans O.2.1 q
theorem own_sta {Z : State} {h : Heap} {C n d : String} {v : Value} (S : Sta Z Z.heap C n d v) (O : own_Old Z h) : Sta Z h C n d v := S.ext O.2
theorem own_ne {h : Heap} {a b : Addr} (q : a < h.size) (r : h.size ≤ b) : a ≠ b := Nat.ne_of_lt (Nat.lt_of_lt_of_le q r)
end OwnKit
theorem own_toInt {i : Nat} (h : i < 2147483648) : (Int32.ofNat i).toInt = i := Int32.toInt_ofNat_of_lt (by omega)
theorem own_clamp {i : Nat} (h : i < 2147483648) : (Int32.ofNat i).toNatClampNeg = i := by
  show ((Int32.ofNat i).toInt).toNat = i
  rw [own_toInt h]; rfl
theorem own_inc (i : Nat) : Int32.ofNat i + 1 = Int32.ofNat (i + 1) := (Int32.ofNat_add i 1).symm
theorem own_nn {i : Nat} (h : i < 2147483648) : ¬ Int32.ofNat i < 0 := by
  rw [Int32.lt_iff_toInt_lt, own_toInt h]; simp
theorem own_lt {i n : Nat} (h : i < n) (hn : n < 2147483648) : Int32.ofNat i < Int32.ofNat n := by
  rw [Int32.lt_iff_toInt_lt, own_toInt (by omega), own_toInt hn]; omega
theorem own_nlt {i n : Nat} (h : n ≤ i) (hi : i < 2147483648) : ¬ Int32.ofNat i < Int32.ofNat n := by
  rw [Int32.lt_iff_toInt_lt, own_toInt hi, own_toInt (by omega)]; omega
theorem own_ofNat_inj {i n : Nat} (hi : i < 2147483648) (hn : n < 2147483648) (h : Int32.ofNat i = Int32.ofNat n) : i = n := by
  have := congrArg Int32.toInt h
  rw [own_toInt hi, own_toInt hn] at this; omega
theorem own_getD_set {α : Type} (vs : List α) (i j : Nat) (x d : α) (h : i < vs.length) : (vs.set i x).getD j d = if j = i then x else vs.getD j d := by
  simp only [List.getD_eq_getElem?_getD, List.getElem?_set]
  by_cases e : i = j
  · subst e; simp [h]
  · simp [e, Ne.symm e]
theorem own_getD_map {α β : Type} (f : α → β) (cs : List α) (j : Nat) (d : β) (e : α) (h : j < cs.length) : (cs.map f).getD j d = f (cs.getD j e) := by
  simp [List.getD_eq_getElem?_getD, List.getElem?_map, h]
theorem own_mapEq {α β : Type} (f : α → β) (cs : List α) (vs : List β) (d : β) (e : α) (hl : vs.length = cs.length) (h : ∀ j, j < cs.length → vs.getD j d = f (cs.getD j e)) : vs = cs.map f := by
  apply List.ext_getElem (by simpa using hl)
  intro j h1 h2
  have q := h j (by simpa using h2)
  have h3 : j < cs.length := by simpa using h2
  simp [List.getD_eq_getElem?_getD, h1, h3] at q
  simpa using q
theorem own_narR {t : FieldType} {v : Value} (ht : t.isReference = true) (hv : v.isRef = true) : narrow t v = v := by cases t <;> simp_all [FieldType.isReference, narrow]
theorem own_nb (x : Int32) : nar .byte x.toInt8.toInt32 = x.toInt8.toInt32 := by
  show x.toInt8.toInt32.toInt8.toInt32 = _
  rw [Int8.toInt8_toInt32]
theorem own_nc (x : Int32) : nar .char x.toUInt32.toUInt16.toUInt32.toInt32 = x.toUInt32.toUInt16.toUInt32.toInt32 := by
  simp only [nar, UInt32.toUInt32_toInt32, UInt16.toUInt16_toUInt32]
theorem own_getD_mem {α : Type} (cs : List α) (i : Nat) (d : α) (h : i < cs.length) : cs.getD i d ∈ cs := by
  rw [List.getD_eq_getElem?_getD, List.getElem?_eq_getElem h]; exact List.getElem_mem h
theorem own_alln {α : Type} {P : α → Prop} : ∀ c ∈ ([] : List α), P c := fun _ q => nomatch q
theorem own_allc {α : Type} {P : α → Prop} {x : α} {L : List α} (q : P x) (r : ∀ c ∈ L, P c) : ∀ c ∈ x :: L, P c := fun c z => (List.mem_cons.mp z).elim (fun u => u ▸ q) (r c)
theorem own_and255 (x : Int32) : 0 ≤ (x &&& 255).toInt ∧ (x &&& 255).toInt ≤ 255 := by
  rw [c_mask x 255 8 (by decide) (by decide)]
  have h1 := Int.emod_nonneg x.toInt (show ((2 ^ 8 : Nat) : Int) ≠ 0 by decide)
  have h2 := Int.emod_lt_of_pos x.toInt (show (0 : Int) < ((2 ^ 8 : Nat) : Int) by decide)
  omega
theorem own_mask8 {x c : Int32} (h : (x &&& 255).toUInt32.toUInt16.toUInt32.toInt32 = c) : 0 ≤ c.toInt ∧ c.toInt ≤ 255 := by
  rw [i2c_mask] at h; subst h; exact own_and255 x
theorem own_narC {c : Int32} (h : 0 ≤ c.toInt ∧ c.toInt ≤ 65535) : nar .char c = c := by
  apply Int32.toInt_inj.mp
  have q := c_i2c c
  show c.toUInt32.toUInt16.toUInt32.toInt32.toInt = c.toInt
  omega
theorem own_le255 {c : Int32} (h : 0 ≤ c.toInt ∧ c.toInt ≤ 255) : ¬ ((255 : Int32) < c) := by
  rw [Int32.lt_iff_toInt_lt]
  have : (255 : Int32).toInt = 255 := by decide
  omega
theorem own_nar8 {c : Int32} (h : 0 ≤ c.toInt ∧ c.toInt ≤ 255) : ¬ ((255 : Int32) < nar .char c) := by
  rw [own_narC ⟨h.1, by omega⟩]; exact own_le255 h
theorem own_setNext {vs : List Value} {cs : List Int32} {i : Nat} (f : Int32 → Value) (d x : Value) (hi : i < vs.length) (hx : x = f (cs.getD i 0)) (hv : ∀ j, j < i → vs.getD j d = f (cs.getD j 0)) : ∀ j, j < i + 1 → (vs.set i x).getD j d = f (cs.getD j 0) := by
  intro j hj
  rw [own_getD_set _ _ _ _ _ hi]
  by_cases e : j = i
  · subst e; rw [if_pos rfl]; exact hx
  · rw [if_neg e]; exact hv j (by omega)
theorem own_fitR {t : FieldType} {v : Value} (ht : t.isReference = true) (hv : v.isRef = true) : fits t v = true := by
  rcases ref_cases hv with rfl | ⟨a, rfl⟩ <;> cases t <;> simp_all [FieldType.isReference, fits]
theorem own_pb {a b m n : Int} (ha : 0 ≤ a) (hb : 0 ≤ b) (h1 : a ≤ m) (h2 : b ≤ n) : 0 ≤ a * b ∧ a * b ≤ m * n :=
  ⟨Int.mul_nonneg ha hb, Int.mul_le_mul h1 h2 hb (Int.le_trans ha h1)⟩
theorem own_expand (a1 a0 b1 b0 : Int) : (a1 * 4294967296 + a0) * (b1 * 4294967296 + b0) = a1 * b1 * 18446744073709551616 + (a1 * b0 + a0 * b1) * 4294967296 + a0 * b0 := by grind
theorem own_hiB_int (P00 P01 P10 P11 : Int) (h : 0 ≤ P00) : P11 + P01 / 4294967296 + P10 / 4294967296 + (P00 / 4294967296 + P01 % 4294967296 + P10 % 4294967296) / 4294967296 = (P11 * 18446744073709551616 + (P10 + P01) * 4294967296 + P00) / 18446744073709551616 := by omega
set_option maxHeartbeats 4000000 in
theorem own_hiB {a b x0 x1 y0 y1 p00 p01 p10 p11 mid r : Int64} (ha : 0 ≤ a.toInt) (hb : 0 ≤ b.toInt)
    (h1 : (a &&& (4294967295 : Int64)) = x0) (h2 : ((a.toUInt64 >>> ((32 : Int32) &&& 0x3f).toInt64.toUInt64).toInt64) = x1) (h3 : (b &&& (4294967295 : Int64)) = y0) (h4 : ((b.toUInt64 >>> ((32 : Int32) &&& 0x3f).toInt64.toUInt64).toInt64) = y1)
    (h5 : (x0 * y0) = p00) (h6 : (x0 * y1) = p01) (h7 : (x1 * y0) = p10) (h8 : (x1 * y1) = p11)
    (h9 : ((((p00.toUInt64 >>> ((32 : Int32) &&& 0x3f).toInt64.toUInt64).toInt64) + (p01 &&& (4294967295 : Int64))) + (p10 &&& (4294967295 : Int64))) = mid)
    (h10 : (((p11 + ((p01.toUInt64 >>> ((32 : Int32) &&& 0x3f).toInt64.toUInt64).toInt64)) + ((p10.toUInt64 >>> ((32 : Int32) &&& 0x3f).toInt64.toUInt64).toInt64)) + ((mid.toUInt64 >>> ((32 : Int32) &&& 0x3f).toInt64.toUInt64).toInt64)) = r) : r.toInt = a.toInt * b.toInt / 18446744073709551616 := by
  have sh : ∀ z : Int64, ((z.toUInt64 >>> ((32 : Int32) &&& 0x3f).toInt64.toUInt64).toInt64).toInt = (z.toInt % 18446744073709551616) / 4294967296 := fun z => c_lushr z 32 32 (by decide) (by decide)
  have mk : ∀ z : Int64, (z &&& (4294967295 : Int64)).toInt = z.toInt % 4294967296 := fun z => c_maskL _ _ 32 (by decide) (by decide)
  have e1 : x0.toInt = a.toInt % 4294967296 := by rw [← h1]; exact mk a
  have e2 := sh a; rw [h2] at e2
  have e3 : y0.toInt = b.toInt % 4294967296 := by rw [← h3]; exact mk b
  have e4 := sh b; rw [h4] at e4
  have e5 := c_lmul x0 y0; rw [h5] at e5
  have e6 := c_lmul x0 y1; rw [h6] at e6
  have e7 := c_lmul x1 y0; rw [h7] at e7
  have e8 := c_lmul x1 y1; rw [h8] at e8
  have s00 := sh p00; have s01 := sh p01; have s10 := sh p10; have sm := sh mid
  have m01 := mk p01; have m10 := mk p10
  generalize ((p00.toUInt64 >>> ((32 : Int32) &&& 0x3f).toInt64.toUInt64).toInt64) = S00 at *
  generalize ((p01.toUInt64 >>> ((32 : Int32) &&& 0x3f).toInt64.toUInt64).toInt64) = S01 at *
  generalize ((p10.toUInt64 >>> ((32 : Int32) &&& 0x3f).toInt64.toUInt64).toInt64) = S10 at *
  generalize ((mid.toUInt64 >>> ((32 : Int32) &&& 0x3f).toInt64.toUInt64).toInt64) = SM at *
  generalize (p01 &&& (4294967295 : Int64)) = M01 at *
  generalize (p10 &&& (4294967295 : Int64)) = M10 at *
  have a1 := c_ladd S00 M01
  have a2 := c_ladd (S00 + M01) M10; rw [h9] at a2
  have a3 := c_ladd p11 S01
  have a4 := c_ladd (p11 + S01) S10
  have a5 := c_ladd (p11 + S01 + S10) SM; rw [h10] at a5
  have ra := rng64 a; have rb := rng64 b
  have b1 : 0 ≤ x1.toInt ∧ x1.toInt ≤ 2147483647 := by omega
  have b2 : 0 ≤ x0.toInt ∧ x0.toInt ≤ 4294967295 := by omega
  have b3 : 0 ≤ y1.toInt ∧ y1.toInt ≤ 2147483647 := by omega
  have b4 : 0 ≤ y0.toInt ∧ y0.toInt ≤ 4294967295 := by omega
  have hx : a.toInt * b.toInt = x1.toInt * y1.toInt * 18446744073709551616 + (x1.toInt * y0.toInt + x0.toInt * y1.toInt) * 4294967296 + x0.toInt * y0.toInt := by
    rw [← own_expand]; congr 1 <;> omega
  have q00 := own_pb b2.1 b4.1 b2.2 b4.2
  have q10 := own_pb b1.1 b4.1 b1.2 b4.2
  have q01 := own_pb b2.1 b3.1 b2.2 b3.2
  have q11 := own_pb b1.1 b3.1 b1.2 b3.2
  rw [hx]
  have w1 := rng64 p00; have w2 := rng64 p01; have w3 := rng64 p10; have w4 := rng64 p11; have w5 := rng64 mid; have w6 := rng64 r
  have v1 := rng64 (S00 + M01); have v2 := rng64 (p11 + S01); have v3 := rng64 (p11 + S01 + S10)
  generalize x0.toInt * y0.toInt = P00 at *
  generalize x0.toInt * y1.toInt = P01 at *
  generalize x1.toInt * y0.toInt = P10 at *
  generalize x1.toInt * y1.toInt = P11 at *
  have f1 : S00.toInt = P00 / 4294967296 := by omega
  have f2 : p01.toInt = P01 := by omega
  have f3 : p10.toInt = P10 := by omega
  have f4 : p11.toInt = P11 := by omega
  have f5 : mid.toInt = P00 / 4294967296 + P01 % 4294967296 + P10 % 4294967296 := by omega
  have g1 : S01.toInt = P01 / 4294967296 := by omega
  have g2 : S10.toInt = P10 / 4294967296 := by omega
  have g3 : SM.toInt = mid.toInt / 4294967296 := by omega
  have g4 : (p11 + S01).toInt = P11 + P01 / 4294967296 := by omega
  have g5 : (p11 + S01 + S10).toInt = P11 + P01 / 4294967296 + P10 / 4294967296 := by omega
  have f6 : r.toInt = P11 + P01 / 4294967296 + P10 / 4294967296 + mid.toInt / 4294967296 := by
    rw [← g3, ← g5]
    have u1 : 0 ≤ (p11 + S01 + S10).toInt + SM.toInt ∧ (p11 + S01 + S10).toInt + SM.toInt < 9223372036854775808 := by omega
    clear g4 g5 g1 g2 g3
    omega
  rw [f6, f5]
  exact own_hiB_int _ _ _ _ q00.1
def own_U (x : Int64) : Int := x.toInt % 18446744073709551616
theorem own_U_rng (x : Int64) : 0 ≤ own_U x ∧ own_U x < 18446744073709551616 := by unfold own_U; omega
theorem own_xorN {n : Nat} (h : n < 2 ^ 63) : n ^^^ 2 ^ 63 = 2 ^ 63 + n := by
  apply Nat.eq_of_testBit_eq
  intro j
  rw [Nat.testBit_xor, Nat.testBit_two_pow]
  by_cases e : 63 = j
  · subst e; rw [Nat.testBit_two_pow_add_eq]; simp
  · by_cases g : j < 63
    · rw [Nat.testBit_two_pow_add_gt g]; simp [e]
    · have h1 : n.testBit j = false := Nat.testBit_lt_two_pow (Nat.lt_of_lt_of_le h (Nat.pow_le_pow_right (by decide) (by omega)))
      have h2 : (2 ^ 63 + n).testBit j = false := Nat.testBit_lt_two_pow (Nat.lt_of_lt_of_le (by omega : 2 ^ 63 + n < 2 ^ 64) (Nat.pow_le_pow_right (by decide) (by omega)))
      rw [h1, h2]; simp [e]
theorem own_xormin (x : Int64) : (x ^^^ (-9223372036854775808 : Int64)) = x + (-9223372036854775808 : Int64) := by
  apply Int64.toBitVec_inj.mp
  rw [Int64.toBitVec_xor, Int64.toBitVec_add]
  have hm : (-9223372036854775808 : Int64).toBitVec = 0x8000000000000000#64 := by decide
  rw [hm]
  generalize x.toBitVec = b
  apply BitVec.eq_of_toNat_eq
  rw [BitVec.toNat_xor, BitVec.toNat_add]
  have hb := b.isLt
  have h8 : (0x8000000000000000#64).toNat = 2 ^ 63 := by decide
  rw [h8]
  generalize b.toNat = n at *
  by_cases g : n < 2 ^ 63
  · rw [own_xorN g]; omega
  · obtain ⟨k, rfl⟩ : ∃ k, n = 2 ^ 63 + k := ⟨n - 2 ^ 63, by omega⟩
    have hk : k < 2 ^ 63 := by omega
    rw [← own_xorN hk, Nat.xor_assoc, Nat.xor_self, Nat.xor_zero, own_xorN hk]; omega
theorem own_addmin (x : Int64) : (x + (-9223372036854775808 : Int64)).toInt = own_U x - 9223372036854775808 := by
  have h := c_ladd x (-9223372036854775808 : Int64)
  have e : (-9223372036854775808 : Int64).toInt = -9223372036854775808 := by decide
  have r := rng64 (x + (-9223372036854775808 : Int64))
  unfold own_U
  have rx := rng64 x
  omega
theorem own_ultA (x y : Int64) : (x + (-9223372036854775808 : Int64)) < (y + (-9223372036854775808 : Int64)) ↔ own_U x < own_U y := by
  rw [Int64.lt_iff_toInt_lt, own_addmin, own_addmin]; omega
theorem own_ultX (x y : Int64) : (x ^^^ (-9223372036854775808 : Int64)) < (y ^^^ (-9223372036854775808 : Int64)) ↔ own_U x < own_U y := by
  rw [own_xormin, own_xormin]; exact own_ultA x y
theorem own_nat32 {q : Int32} {k : Nat} (h : q.toInt = k) : q.toBitVec.toNat = k := by
  have h1 : q.toInt = q.toBitVec.toInt := rfl
  have h2 := BitVec.toInt_eq_toNat_cond q.toBitVec
  have h3 := q.toBitVec.isLt
  rw [← h1, h] at h2
  split at h2 <;> omega
/-- one bit of a long -/
theorem own_bit {x : Int64} {q : Int32} {k : Nat} (h : q.toInt = k) (hk : k < 64) : (((x.toUInt64 >>> (q &&& 0x3f).toInt64.toUInt64).toInt64) &&& (1 : Int64)).toInt = own_U x / (2 ^ k : Nat) % 2 := by
  have m : ∀ z : Int64, (z &&& (1 : Int64)).toInt = z.toInt % 2 := fun z => c_maskL _ _ 1 (by decide) (by decide)
  rw [m]
  by_cases h0 : 0 < k
  · rw [c_lushr x q k (by rw [own_nat32 h]; omega) h0]; rfl
  · have e : k = 0 := by omega
    subst e
    have eq : q = 0 := Int32.toInt_inj.mp (by rw [h]; rfl)
    subst eq
    have e2 : (x.toUInt64 >>> ((0 : Int32) &&& 0x3f).toInt64.toUInt64).toInt64 = x := by
      have : ((0 : Int32) &&& 0x3f).toInt64.toUInt64 = 0 := by decide
      rw [this]; simp
    rw [e2]; unfold own_U; simp
theorem own_dbl {R b : Int64} (hb : 0 ≤ b.toInt ∧ b.toInt < 2) : own_U ((R <<< ((1 : Int32) &&& 0x3f).toInt64) ||| b) = (2 * R.toInt + b.toInt) % 18446744073709551616 := by
  have h1 : ((R <<< ((1 : Int32) &&& 0x3f).toInt64).toInt - R.toInt * 2) % 18446744073709551616 = 0 := c_lshl R 1 1 (by decide)
  have h2 := c_orL (R <<< ((1 : Int32) &&& 0x3f).toInt64) b 1 (by decide) 2 rfl (by omega) hb.1 hb.2
  unfold own_U
  omega
theorem own_dbl0 (Q : Int64) : own_U (Q <<< ((1 : Int32) &&& 0x3f).toInt64) = (2 * Q.toInt) % 18446744073709551616 := by
  have h1 : ((Q <<< ((1 : Int32) &&& 0x3f).toInt64).toInt - Q.toInt * 2) % 18446744073709551616 = 0 := c_lshl Q 1 1 (by decide)
  unfold own_U
  omega
theorem own_or1 (Q : Int64) : own_U ((Q <<< ((1 : Int32) &&& 0x3f).toInt64) ||| (1 : Int64)) = (2 * Q.toInt + 1) % 18446744073709551616 := own_dbl (by decide)
theorem own_half (X : Int) (m : Nat) : X / (2 ^ m : Nat) = 2 * (X / (2 ^ (m + 1) : Nat)) + X / (2 ^ m : Nat) % 2 := by
  have h : X / (2 ^ (m + 1) : Nat) = X / (2 ^ m : Nat) / 2 := by
    rw [Nat.pow_succ, Int.natCast_mul, Int.ediv_ediv_of_nonneg (Int.natCast_nonneg _)]; rfl
  rw [h]; omega
theorem own_bitX (H L : Int) (m : Nat) (hm : m < 64) : (H * 18446744073709551616 + L) / (2 ^ m : Nat) % 2 = L / (2 ^ m : Nat) % 2 := by
  obtain ⟨k, hk⟩ : ∃ k, 64 = m + (k + 1) := ⟨63 - m, by omega⟩
  have h : (18446744073709551616 : Int) = ((2 ^ m : Nat) : Int) * (2 * ((2 ^ k : Nat) : Int)) := by
    have : (18446744073709551616 : Nat) = 2 ^ m * (2 * 2 ^ k) := by
      have e : (18446744073709551616 : Nat) = 2 ^ 64 := by decide
      rw [e, hk, Nat.pow_add, Nat.pow_succ]; rw [Nat.mul_comm (2 ^ k) 2]
    have q := congrArg (fun n : Nat => (n : Int)) this
    simpa [Int.natCast_mul] using q
  have hp : ((2 ^ m : Nat) : Int) ≠ 0 := by
    have := Nat.pow_pos (n := m) (show 0 < 2 by decide); omega
  rw [h, show H * (((2 ^ m : Nat) : Int) * (2 * ((2 ^ k : Nat) : Int))) = ((2 ^ m : Nat) : Int) * (H * (2 * ((2 ^ k : Nat) : Int))) by rw [← Int.mul_assoc, Int.mul_comm H, Int.mul_assoc], Int.mul_add_ediv_left _ _ hp, ← Int.mul_assoc, Int.mul_comm H 2, Int.mul_assoc]
  omega
/-- long division, one bit: what holds where m bits are left -/
def own_inv (X : Int) (D R Q : Int) (m : Nat) : Prop := X / (2 ^ m : Nat) = Q * D + R ∧ 0 ≤ R ∧ R < D
theorem own_invQ {X D R Q : Int} {m : Nat} (h : own_inv X D R Q (m + 1)) (hX : X < D * 18446744073709551616) (h0 : 0 ≤ X) : Q < 9223372036854775808 := by
  obtain ⟨h1, h2, h3⟩ := h
  have hD : 0 < D := by omega
  have e1 : X / (2 ^ (m + 1) : Nat) ≤ X / 2 := by
    rw [Nat.pow_succ, Int.natCast_mul, Int.mul_comm, ← Int.ediv_ediv_of_nonneg (by decide)]
    have : X / ((2 : Nat) : Int) / ((2 ^ m : Nat) : Int) ≤ X / ((2 : Nat) : Int) := Int.ediv_le_self _ (by omega)
    exact this
  have e2 : Q * D < 9223372036854775808 * D := by
    have e3 : X / 2 < D * 9223372036854775808 := by omega
    rw [Int.mul_comm 9223372036854775808 D]; omega
  exact Int.lt_of_mul_lt_mul_right e2 (by omega)
theorem own_stepI {H L X D R Q b : Int} {m : Nat} (hm : m < 64) (hX : X = H * 18446744073709551616 + L) (h : own_inv X D R Q (m + 1)) (hb : b = L / (2 ^ m : Nat) % 2) :
    (D ≤ 2 * R + b → own_inv X D (2 * R + b - D) (2 * Q + 1) m) ∧ (2 * R + b < D → own_inv X D (2 * R + b) (2 * Q) m) := by
  obtain ⟨h1, h2, h3⟩ := h
  have e := own_half X m
  have e2 : X / (2 ^ m : Nat) % 2 = b := by rw [hb, hX]; exact own_bitX H L m hm
  rw [e2, h1] at e
  have hb2 : 0 ≤ b ∧ b < 2 := by omega
  constructor
  · intro g; refine ⟨?_, by omega, by omega⟩
    rw [e, Int.add_mul, Int.mul_assoc]; omega
  · intro g; refine ⟨?_, by omega, by omega⟩
    rw [e, Int.mul_assoc]; omega
theorem own_Unn {x : Int64} (h : 0 ≤ x.toInt) : own_U x = x.toInt := by unfold own_U; have := rng64 x; omega
theorem own_Ucase (x : Int64) : (0 ≤ x.toInt ∧ own_U x = x.toInt) ∨ (x.toInt < 0 ∧ own_U x = x.toInt + 18446744073709551616) := by unfold own_U; have := rng64 x; omega
theorem own_stepL {low d R Q : Int64} {q : Int32} {m : Nat} {H X : Int} (hq : q.toInt = m) (hm : m < 64) (hX : X = H * 18446744073709551616 + own_U low) (h1 : X < d.toInt * 18446744073709551616) (h0 : 0 ≤ X) (h : own_inv X d.toInt R.toInt (own_U Q) (m + 1)) :
    (¬ (own_U ((R <<< ((1 : Int32) &&& 0x3f).toInt64) ||| (((low.toUInt64 >>> (q &&& 0x3f).toInt64.toUInt64).toInt64) &&& (1 : Int64))) < own_U d) → own_inv X d.toInt (((R <<< ((1 : Int32) &&& 0x3f).toInt64) ||| (((low.toUInt64 >>> (q &&& 0x3f).toInt64.toUInt64).toInt64) &&& (1 : Int64))) - d).toInt (own_U ((Q <<< ((1 : Int32) &&& 0x3f).toInt64) ||| (1 : Int64))) m) ∧
    (own_U ((R <<< ((1 : Int32) &&& 0x3f).toInt64) ||| (((low.toUInt64 >>> (q &&& 0x3f).toInt64.toUInt64).toInt64) &&& (1 : Int64))) < own_U d → own_inv X d.toInt ((R <<< ((1 : Int32) &&& 0x3f).toInt64) ||| (((low.toUInt64 >>> (q &&& 0x3f).toInt64.toUInt64).toInt64) &&& (1 : Int64))).toInt (own_U (Q <<< ((1 : Int32) &&& 0x3f).toInt64)) m) := by
  have hb := own_bit (x := low) hq hm
  generalize hB : (((low.toUInt64 >>> (q &&& 0x3f).toInt64.toUInt64).toInt64) &&& (1 : Int64)) = B at *
  have hb2 : 0 ≤ B.toInt ∧ B.toInt < 2 := by omega
  have hs := own_stepI hm hX h hb
  have hQ := own_invQ h h1 h0
  obtain ⟨-, r1, r2⟩ := h
  have hd := own_dbl (R := R) hb2
  generalize hR2 : ((R <<< ((1 : Int32) &&& 0x3f).toInt64) ||| B) = R2 at *
  have rd := rng64 d
  have ud : own_U d = d.toInt := own_Unn (by omega)
  have e1 : own_U R2 = 2 * R.toInt + B.toInt := by omega
  have q1 := own_or1 Q; have q0 := own_dbl0 Q
  have uq := own_Ucase Q
  have ur := own_U_rng Q
  have g1 : own_U ((Q <<< ((1 : Int32) &&& 0x3f).toInt64) ||| (1 : Int64)) = 2 * own_U Q + 1 := by omega
  have g0 : own_U (Q <<< ((1 : Int32) &&& 0x3f).toInt64) = 2 * own_U Q := by omega
  rw [g1, g0, ud, e1]
  have us := own_Ucase R2
  have cs := c_lsub R2 d
  have rs := rng64 (R2 - d)
  constructor
  · intro g
    have hv : 0 ≤ 2 * R.toInt + B.toInt - d.toInt ∧ 2 * R.toInt + B.toInt - d.toInt < 9223372036854775808 := by omega
    have hc : ((R2 - d).toInt - (2 * R.toInt + B.toInt - d.toInt)) % 18446744073709551616 = 0 := by
      rcases us with ⟨-, us⟩ | ⟨-, us⟩ <;> omega
    have e2 : (R2 - d).toInt = 2 * R.toInt + B.toInt - d.toInt := by
      clear us cs e1 g0 g1 q1 q0 uq ur hs hd
      omega
    rw [e2]; exact hs.1 (by omega)
  · intro g
    have e2 : R2.toInt = 2 * R.toInt + B.toInt := by have := rng64 R2; omega
    rw [e2]; exact hs.2 g
/-- the wide sum: high and low word of a * b + c -/
theorem own_wide {a b c hi low sum : Int64} (ha : 0 ≤ a.toInt) (hb : 0 ≤ b.toInt) (hc : 0 ≤ c.toInt) (h1 : hi.toInt = a.toInt * b.toInt / 18446744073709551616) (h2 : (a * b) = low) (h3 : (low + c) = sum) :
    (own_U sum < own_U low → a.toInt * b.toInt + c.toInt = (hi.toInt + 1) * 18446744073709551616 + own_U sum) ∧ (¬ (own_U sum < own_U low) → a.toInt * b.toInt + c.toInt = hi.toInt * 18446744073709551616 + own_U sum) ∧ 0 ≤ hi.toInt ∧ hi.toInt < 4611686018427387904 := by
  have e1 := c_lmul a b; rw [h2] at e1
  have e2 := c_ladd low c; rw [h3] at e2
  have ra := rng64 a; have rb := rng64 b; have rc := rng64 c
  have p := own_pb ha hb (show a.toInt ≤ 9223372036854775807 by omega) (show b.toInt ≤ 9223372036854775807 by omega)
  generalize a.toInt * b.toInt = P at *
  have u1 := own_Ucase low; have u2 := own_Ucase sum; have r1 := own_U_rng low; have r2 := own_U_rng sum
  have e3 : own_U low = P % 18446744073709551616 := by omega
  have e4 : own_U sum = (own_U low + c.toInt) % 18446744073709551616 := by omega
  refine ⟨?_, ?_, by omega, by omega⟩
  · intro g; omega
  · intro g; omega
/-- what MulDiv.floor answers -/
def own_fl (X D q : Int) : Prop := (q = 9223372036854775807 ∧ 9223372036854775807 * D ≤ X) ∨ (0 ≤ q ∧ q * D ≤ X ∧ X < (q + 1) * D)
theorem own_fl_div {X D : Int} (hD : 0 < D) (h0 : 0 ≤ X) : own_fl X D (X / D) := by
  refine Or.inr ⟨Int.ediv_nonneg h0 (by omega), Int.ediv_mul_le X (by omega), ?_⟩
  exact Int.lt_ediv_add_one_mul_self X hD
theorem own_fl_of {X D Q R : Int} (h : X = Q * D + R) (h1 : 0 ≤ R) (h2 : R < D) (hQ : 0 ≤ Q) : own_fl X D Q := by
  refine Or.inr ⟨hQ, by omega, ?_⟩
  rw [Int.add_mul]; omega
theorem own_fl_max {X D : Int} (hD : 0 < D) (h : D * 9223372036854775808 ≤ X) : own_fl X D 9223372036854775807 := Or.inl ⟨rfl, by omega⟩
theorem own_hiA {a b x1 x2 y1 y2 z2 t z1 z0 z3 r : Int64} (ha : 0 ≤ a.toInt) (hb : 0 ≤ b.toInt)
    (h1 : (a >>> ((32 : Int32) &&& 0x3f).toInt64) = x1) (h2 : (a &&& (4294967295 : Int64)) = x2) (h3 : (b >>> ((32 : Int32) &&& 0x3f).toInt64) = y1) (h4 : (b &&& (4294967295 : Int64)) = y2)
    (h5 : (x2 * y2) = z2) (h6 : ((x1 * y2) + ((z2.toUInt64 >>> ((32 : Int32) &&& 0x3f).toInt64.toUInt64).toInt64)) = t) (h7 : (t &&& (4294967295 : Int64)) = z1) (h8 : (t >>> ((32 : Int32) &&& 0x3f).toInt64) = z0)
    (h9 : (z1 + (x2 * y1)) = z3) (h10 : (((x1 * y1) + z0) + (z3 >>> ((32 : Int32) &&& 0x3f).toInt64)) = r) : r.toInt = a.toInt * b.toInt / 18446744073709551616 := by
  have e1 : x1.toInt = a.toInt / 4294967296 := by rw [← h1]; exact c_lshr _ _ 32 (by decide)
  have e2 : x2.toInt = a.toInt % 4294967296 := by rw [← h2]; exact c_maskL _ _ 32 (by decide) (by decide)
  have e3 : y1.toInt = b.toInt / 4294967296 := by rw [← h3]; exact c_lshr _ _ 32 (by decide)
  have e4 : y2.toInt = b.toInt % 4294967296 := by rw [← h4]; exact c_maskL _ _ 32 (by decide) (by decide)
  have e5 := c_lmul x2 y2; rw [h5] at e5
  have e6 := c_lushr z2 32 32 (by decide) (by decide)
  have e7 := c_lmul x1 y2
  have e8 := c_ladd (x1 * y2) ((z2.toUInt64 >>> ((32 : Int32) &&& 0x3f).toInt64.toUInt64).toInt64); rw [h6] at e8
  have e9 : z1.toInt = t.toInt % 4294967296 := by rw [← h7]; exact c_maskL _ _ 32 (by decide) (by decide)
  have e10 : z0.toInt = t.toInt / 4294967296 := by rw [← h8]; exact c_lshr _ _ 32 (by decide)
  have e11 := c_lmul x2 y1
  have e12 := c_ladd z1 (x2 * y1); rw [h9] at e12
  have e13 := c_lmul x1 y1
  have e14 := c_ladd (x1 * y1) z0
  have e15 : (z3 >>> ((32 : Int32) &&& 0x3f).toInt64).toInt = z3.toInt / 4294967296 := c_lshr _ _ 32 (by decide)
  have e16 := c_ladd ((x1 * y1) + z0) (z3 >>> ((32 : Int32) &&& 0x3f).toInt64); rw [h10] at e16
  have ra := rng64 a; have rb := rng64 b
  have hx : a.toInt * b.toInt = x1.toInt * y1.toInt * 18446744073709551616 + (x1.toInt * y2.toInt + x2.toInt * y1.toInt) * 4294967296 + x2.toInt * y2.toInt := by
    rw [← own_expand]; congr 1 <;> omega
  have b1 : 0 ≤ x1.toInt ∧ x1.toInt ≤ 2147483647 := by omega
  have b2 : 0 ≤ x2.toInt ∧ x2.toInt ≤ 4294967295 := by omega
  have b3 : 0 ≤ y1.toInt ∧ y1.toInt ≤ 2147483647 := by omega
  have b4 : 0 ≤ y2.toInt ∧ y2.toInt ≤ 4294967295 := by omega
  have p22 := own_pb b2.1 b4.1 b2.2 b4.2
  have p12 := own_pb b1.1 b4.1 b1.2 b4.2
  have p21 := own_pb b2.1 b3.1 b2.2 b3.2
  have p11 := own_pb b1.1 b3.1 b1.2 b3.2
  rw [hx]
  have rt := rng64 t; have rz := rng64 z2; have r3 := rng64 z3; have rr := rng64 r; have q1 := rng64 (x1 * y2); have q2 := rng64 (x2 * y1); have q3 := rng64 (x1 * y1); have q4 := rng64 (x1 * y1 + z0)
  generalize x2.toInt * y2.toInt = P22 at *
  generalize x1.toInt * y2.toInt = P12 at *
  generalize x2.toInt * y1.toInt = P21 at *
  generalize x1.toInt * y1.toInt = P11 at *
  generalize ((z2.toUInt64 >>> ((32 : Int32) &&& 0x3f).toInt64.toUInt64).toInt64).toInt = Z2 at *
  have f1 : (x1 * y2).toInt = P12 := by omega
  have f2 : Z2 = P22 / 4294967296 := by simp only [Nat.reducePow, Int.cast_ofNat_Int] at e6; omega
  have f3 : t.toInt = P12 + P22 / 4294967296 := by omega
  have f4 : (x2 * y1).toInt = P21 := by omega
  have f5 : z3.toInt = t.toInt % 4294967296 + P21 := by omega
  have f6 : (x1 * y1).toInt = P11 := by omega
  have f7 : (x1 * y1 + z0).toInt = P11 + t.toInt / 4294967296 := by omega
  have f8 : r.toInt = P11 + t.toInt / 4294967296 + z3.toInt / 4294967296 := by omega
  rw [f8]
  omega

theorem own_posmask (x : Int64) : 0 ≤ (x &&& (9223372036854775807 : Int64)).toInt := by
  rw [c_maskL x _ 63 (by decide) (by decide)]
  exact Int.emod_nonneg _ (by decide)
theorem own_ldiv {x y : Int64} (hx : 0 ≤ x.toInt) (hy : 0 < y.toInt) : (x / y).toInt = x.toInt / y.toInt :=
  (c_ldiv x y y.toInt rfl (fun e => by rw [e] at hy; exact absurd hy (by decide))).1 hx
theorem own_lt64 {x y : Int64} : x < y ↔ x.toInt < y.toInt := Int64.lt_iff_toInt_lt
theorem own_eq64 {x y : Int64} : x = y ↔ x.toInt = y.toInt := Int64.toInt_inj.symm
theorem own_lt0 {x : Int64} : x < (0 : Int64) ↔ x.toInt < 0 := Int64.lt_iff_toInt_lt
theorem own_eq0 {x : Int64} : x = (0 : Int64) ↔ x.toInt = 0 := Int64.toInt_inj.symm
theorem own_ne0 {x : Int64} (h : 0 < x.toInt) : x ≠ 0 := fun e => by rw [e] at h; exact absurd h (by decide)
theorem own_inc64 {x r : Int64} (h : (x + (1 : Int64)) = r) (h1 : 0 ≤ x.toInt) (h2 : x.toInt < 4611686018427387904) : r.toInt = x.toInt + 1 := by
  have e := c_ladd x 1; rw [h] at e
  have e1 : (1 : Int64).toInt = 1 := by decide
  have := rng64 r; omega
theorem own_add0 {x r : Int64} (h : (x + (0 : Int64)) = r) : r.toInt = x.toInt := by rw [← h]; simp
/-- the product of two longs, high and low word -/
theorem own_wide0 {a b hi low : Int64} (ha : 0 ≤ a.toInt) (hb : 0 ≤ b.toInt) (h1 : hi.toInt = a.toInt * b.toInt / 18446744073709551616) (h2 : (a * b) = low) : a.toInt * b.toInt = hi.toInt * 18446744073709551616 + own_U low := by
  have e1 := c_lmul a b; rw [h2] at e1
  have u1 := own_Ucase low; have r1 := own_U_rng low
  have p := Int.mul_nonneg ha hb
  generalize a.toInt * b.toInt = P at *
  have e3 : own_U low = P % 18446744073709551616 := by omega
  omega
theorem own_fl_nn {X D q : Int} (h : own_fl X D q) : 0 ≤ q := by rcases h with ⟨rfl, -⟩ | ⟨h, -⟩ <;> omega
theorem own_fl_le {X D q : Int} (h : own_fl X D q) : q * D ≤ X := by rcases h with ⟨rfl, h⟩ | ⟨-, h, -⟩ <;> exact h
theorem own_fl_lt {X D q : Int} (h : own_fl X D q) (hq : q ≠ 9223372036854775807) : X < (q + 1) * D := by
  rcases h with ⟨rfl, -⟩ | ⟨-, -, h⟩
  · exact absurd rfl hq
  · exact h
theorem own_nnU {x : Int64} : 0 ≤ x.toInt ↔ x.toUInt64.toNat < 9223372036854775808 := by
  have h1 : x.toInt = x.toBitVec.toInt := rfl
  have h2 := BitVec.toInt_eq_toNat_cond x.toBitVec
  have h3 : x.toUInt64.toNat = x.toBitVec.toNat := rfl
  have h4 := x.toBitVec.isLt
  rw [h1, h2, h3]
  split <;> omega
theorem own_ushr_nn {x : Int64} (k : UInt64) (h : 0 ≤ x.toInt) : 0 ≤ ((x.toUInt64 >>> k).toInt64).toInt := by
  rw [own_nnU] at h ⊢
  have : (x.toUInt64 >>> k).toInt64.toUInt64.toNat = (x.toUInt64 >>> k).toNat := rfl
  rw [this, UInt64.toNat_shiftRight]
  exact Nat.lt_of_le_of_lt (Nat.shiftRight_le _ _) h
theorem own_modv {a b c d q : Int64} (h1 : q.toInt * d.toInt ≤ a.toInt * b.toInt + c.toInt) (h2 : a.toInt * b.toInt + c.toInt < (q.toInt + 1) * d.toInt) : (((a * b) + c) - (q * d)).toInt = a.toInt * b.toInt + c.toInt - q.toInt * d.toInt := by
  have e1 := c_lmul a b; have e2 := c_ladd (a * b) c; have e3 := c_lmul q d; have e4 := c_lsub (a * b + c) (q * d)
  have r1 := rng64 (a * b + c - q * d); have r2 := rng64 d
  rw [Int.add_mul] at h2
  generalize a.toInt * b.toInt = P at *
  generalize q.toInt * d.toInt = Q at *
  omega
def own_ce (X D q : Int) : Prop := 0 ≤ q ∧ (q = 9223372036854775807 → 9223372036854775806 * D < X) ∧ (q = 0 → X = 0) ∧ (q ≠ 9223372036854775807 → q ≠ 0 → X ≤ q * D ∧ (q - 1) * D < X)
theorem own_ce_max {X D : Int} (hD : 0 < D) (h : 9223372036854775807 * D ≤ X) : own_ce X D 9223372036854775807 := ⟨by decide, fun _ => by omega, fun q => absurd q (by decide), fun q => absurd rfl q⟩
theorem own_ce_eq {X D q : Int} (hD : 0 < D) (h0 : 0 ≤ q) (hm : q ≠ 9223372036854775807) (h : X = q * D) : own_ce X D q := ⟨h0, fun e => absurd e hm, fun e => by rw [h, e, Int.zero_mul], fun _ _ => ⟨by omega, by rw [Int.sub_mul]; omega⟩⟩
theorem own_ce_up {X D q : Int} (hD : 0 < D) (h0 : 0 ≤ q) (h1 : q * D < X) (h2 : X < (q + 1) * D) : own_ce X D (q + 1) := by
  refine ⟨by omega, fun e => ?_, fun e => by omega, fun _ _ => ⟨by omega, by rw [Int.add_sub_cancel]; exact h1⟩⟩
  have : q = 9223372036854775806 := by omega
  subst this; exact h1
theorem own_dec {bt : Int32} {k : Nat} (h : bt.toInt = (k : Int)) (hk : k < 64) : (bt + (-1 : Int32)).toInt = (k : Int) - 1 := by
  have e := c_iadd bt (-1)
  have e1 : (-1 : Int32).toInt = -1 := by decide
  have r := rng32 (bt + (-1 : Int32))
  omega
theorem own_fl_div' {X : Int} {hi sm d : Int64} (h0 : hi = 0) (h1 : ¬ sm < 0) (hX : X = hi.toInt * 18446744073709551616 + own_U sm) (hd : 0 < d.toInt) : own_fl X d.toInt (sm / d).toInt := by
  have e0 := own_eq0.mp h0
  have e1 : 0 ≤ sm.toInt := by have := mt own_lt0.mpr h1; omega
  have e2 := own_Unn e1
  have e4 : X = sm.toInt := by omega
  rw [e4, own_ldiv e1 hd]
  exact own_fl_div hd e1
theorem own_fl_big' {X : Int} {hi sm d : Int64} (h1 : ¬ hi < d) (hX : X = hi.toInt * 18446744073709551616 + own_U sm) (hd : 0 < d.toInt) : own_fl X d.toInt (9223372036854775807 : Int64).toInt := by
  have q := mt own_lt64.mpr h1
  have u := own_U_rng sm
  exact own_fl_max hd (by omega)
theorem own_fl_neg' {X R : Int} {hi sm r d : Int64} (h : hi.toInt * 18446744073709551616 + own_U sm = own_U r * d.toInt + R ∧ 0 ≤ R ∧ R < d.toInt) (hn : r < 0) (hX : X = hi.toInt * 18446744073709551616 + own_U sm) (hd : 0 < d.toInt) : own_fl X d.toInt (9223372036854775807 : Int64).toInt := by
  have q := own_lt0.mp hn
  obtain ⟨e1, e2, e3⟩ := h
  rcases own_Ucase r with ⟨u, -⟩ | ⟨-, u⟩
  · omega
  · have hm : 9223372036854775808 * d.toInt ≤ own_U r * d.toInt := Int.mul_le_mul_of_nonneg_right (by have := rng64 r; omega) (by omega)
    exact own_fl_max hd (by omega)
theorem own_fl_ok' {X R : Int} {hi sm r d : Int64} (h : hi.toInt * 18446744073709551616 + own_U sm = own_U r * d.toInt + R ∧ 0 ≤ R ∧ R < d.toInt) (hn : ¬ r < 0) (hX : X = hi.toInt * 18446744073709551616 + own_U sm) : own_fl X d.toInt r.toInt := by
  have q := mt own_lt0.mpr hn
  obtain ⟨e1, e2, e3⟩ := h
  have u := own_Unn (x := r) (by omega)
  rw [u] at e1
  exact own_fl_of (hX.trans e1) e2 e3 (by omega)

theorem own_d1_0 : decode prog_7_method_3_code 0 = .ok (.lload_n 0, 1) := by decide +kernel
theorem own_d1_1 : decode prog_7_method_3_code 1 = .ok (.lload_n 2, 1) := by decide +kernel
theorem own_d1_2 : decode prog_7_method_3_code 2 = .ok (.lload 4, 2) := by decide +kernel
theorem own_d1_4 : decode prog_7_method_3_code 4 = .ok (.lload 6, 2) := by decide +kernel
theorem own_d1_6 : decode prog_7_method_3_code 6 = .ok (.invokestatic 27, 3) := by decide +kernel
theorem own_d1_9 : decode prog_7_method_3_code 9 = .ok (.lstore 8, 2) := by decide +kernel
theorem own_d1_11 : decode prog_7_method_3_code 11 = .ok (.lload 8, 2) := by decide +kernel
theorem own_d1_13 : decode prog_7_method_3_code 13 = .ok (.ldc2_w 19, 3) := by decide +kernel
theorem own_d1_16 : decode prog_7_method_3_code 16 = .ok (.lcmp, 1) := by decide +kernel
theorem own_d1_17 : decode prog_7_method_3_code 17 = .ok (.ifCond .ne 6, 3) := by decide +kernel
theorem own_d1_20 : decode prog_7_method_3_code 20 = .ok (.lload 8, 2) := by decide +kernel
theorem own_d1_22 : decode prog_7_method_3_code 22 = .ok (.lreturn, 1) := by decide +kernel
theorem own_d1_23 : decode prog_7_method_3_code 23 = .ok (.lload_n 0, 1) := by decide +kernel
theorem own_d1_24 : decode prog_7_method_3_code 24 = .ok (.lload_n 2, 1) := by decide +kernel
theorem own_d1_25 : decode prog_7_method_3_code 25 = .ok (.lload 4, 2) := by decide +kernel
theorem own_d1_27 : decode prog_7_method_3_code 27 = .ok (.lload 6, 2) := by decide +kernel
theorem own_d1_29 : decode prog_7_method_3_code 29 = .ok (.lload 8, 2) := by decide +kernel
theorem own_d1_31 : decode prog_7_method_3_code 31 = .ok (.invokestatic 31, 3) := by decide +kernel
theorem own_d1_34 : decode prog_7_method_3_code 34 = .ok (.lconst 0, 1) := by decide +kernel
theorem own_d1_35 : decode prog_7_method_3_code 35 = .ok (.lcmp, 1) := by decide +kernel
theorem own_d1_36 : decode prog_7_method_3_code 36 = .ok (.ifCond .ne 8, 3) := by decide +kernel
theorem own_d1_39 : decode prog_7_method_3_code 39 = .ok (.lload 8, 2) := by decide +kernel
theorem own_d1_41 : decode prog_7_method_3_code 41 = .ok (.goto 7, 3) := by decide +kernel
theorem own_d1_44 : decode prog_7_method_3_code 44 = .ok (.lload 8, 2) := by decide +kernel
theorem own_d1_46 : decode prog_7_method_3_code 46 = .ok (.lconst 1, 1) := by decide +kernel
theorem own_d1_47 : decode prog_7_method_3_code 47 = .ok (.ladd, 1) := by decide +kernel
theorem own_d1_48 : decode prog_7_method_3_code 48 = .ok (.lreturn, 1) := by decide +kernel
theorem own_d2_0 : decode prog_7_method_2_code 0 = .ok (.lload_n 0, 1) := by decide +kernel
theorem own_d2_1 : decode prog_7_method_2_code 1 = .ok (.lload_n 2, 1) := by decide +kernel
theorem own_d2_2 : decode prog_7_method_2_code 2 = .ok (.lmul, 1) := by decide +kernel
theorem own_d2_3 : decode prog_7_method_2_code 3 = .ok (.lstore 8, 2) := by decide +kernel
theorem own_d2_5 : decode prog_7_method_2_code 5 = .ok (.lload_n 0, 1) := by decide +kernel
theorem own_d2_6 : decode prog_7_method_2_code 6 = .ok (.lload_n 2, 1) := by decide +kernel
theorem own_d2_7 : decode prog_7_method_2_code 7 = .ok (.invokestatic 7, 3) := by decide +kernel
theorem own_d2_10 : decode prog_7_method_2_code 10 = .ok (.lstore 10, 2) := by decide +kernel
theorem own_d2_12 : decode prog_7_method_2_code 12 = .ok (.lload 8, 2) := by decide +kernel
theorem own_d2_14 : decode prog_7_method_2_code 14 = .ok (.lload 4, 2) := by decide +kernel
theorem own_d2_16 : decode prog_7_method_2_code 16 = .ok (.ladd, 1) := by decide +kernel
theorem own_d2_17 : decode prog_7_method_2_code 17 = .ok (.lstore 12, 2) := by decide +kernel
theorem own_d2_19 : decode prog_7_method_2_code 19 = .ok (.lload 12, 2) := by decide +kernel
theorem own_d2_21 : decode prog_7_method_2_code 21 = .ok (.lload 8, 2) := by decide +kernel
theorem own_d2_23 : decode prog_7_method_2_code 23 = .ok (.invokestatic 13, 3) := by decide +kernel
theorem own_d2_26 : decode prog_7_method_2_code 26 = .ok (.ifCond .ge 9, 3) := by decide +kernel
theorem own_d2_29 : decode prog_7_method_2_code 29 = .ok (.lload 10, 2) := by decide +kernel
theorem own_d2_31 : decode prog_7_method_2_code 31 = .ok (.lconst 1, 1) := by decide +kernel
theorem own_d2_32 : decode prog_7_method_2_code 32 = .ok (.ladd, 1) := by decide +kernel
theorem own_d2_33 : decode prog_7_method_2_code 33 = .ok (.lstore 10, 2) := by decide +kernel
theorem own_d2_35 : decode prog_7_method_2_code 35 = .ok (.lload 10, 2) := by decide +kernel
theorem own_d2_37 : decode prog_7_method_2_code 37 = .ok (.lconst 0, 1) := by decide +kernel
theorem own_d2_38 : decode prog_7_method_2_code 38 = .ok (.lcmp, 1) := by decide +kernel
theorem own_d2_39 : decode prog_7_method_2_code 39 = .ok (.ifCond .ne 20, 3) := by decide +kernel
theorem own_d2_42 : decode prog_7_method_2_code 42 = .ok (.lload 12, 2) := by decide +kernel
theorem own_d2_44 : decode prog_7_method_2_code 44 = .ok (.lconst 0, 1) := by decide +kernel
theorem own_d2_45 : decode prog_7_method_2_code 45 = .ok (.lcmp, 1) := by decide +kernel
theorem own_d2_46 : decode prog_7_method_2_code 46 = .ok (.ifCond .lt 13, 3) := by decide +kernel
theorem own_d2_49 : decode prog_7_method_2_code 49 = .ok (.lload 12, 2) := by decide +kernel
theorem own_d2_51 : decode prog_7_method_2_code 51 = .ok (.lload 6, 2) := by decide +kernel
theorem own_d2_53 : decode prog_7_method_2_code 53 = .ok (.ldiv, 1) := by decide +kernel
theorem own_d2_54 : decode prog_7_method_2_code 54 = .ok (.lstore 14, 2) := by decide +kernel
theorem own_d2_56 : decode prog_7_method_2_code 56 = .ok (.goto 47, 3) := by decide +kernel
theorem own_d2_59 : decode prog_7_method_2_code 59 = .ok (.lload 10, 2) := by decide +kernel
theorem own_d2_61 : decode prog_7_method_2_code 61 = .ok (.lload 6, 2) := by decide +kernel
theorem own_d2_63 : decode prog_7_method_2_code 63 = .ok (.lcmp, 1) := by decide +kernel
theorem own_d2_64 : decode prog_7_method_2_code 64 = .ok (.ifCond .lt 11, 3) := by decide +kernel
theorem own_d2_67 : decode prog_7_method_2_code 67 = .ok (.ldc2_w 19, 3) := by decide +kernel
theorem own_d2_70 : decode prog_7_method_2_code 70 = .ok (.lstore 14, 2) := by decide +kernel
theorem own_d2_72 : decode prog_7_method_2_code 72 = .ok (.goto 31, 3) := by decide +kernel
theorem own_d2_75 : decode prog_7_method_2_code 75 = .ok (.lload 10, 2) := by decide +kernel
theorem own_d2_77 : decode prog_7_method_2_code 77 = .ok (.lload 12, 2) := by decide +kernel
theorem own_d2_79 : decode prog_7_method_2_code 79 = .ok (.lload 6, 2) := by decide +kernel
theorem own_d2_81 : decode prog_7_method_2_code 81 = .ok (.invokestatic 21, 3) := by decide +kernel
theorem own_d2_84 : decode prog_7_method_2_code 84 = .ok (.lstore 16, 2) := by decide +kernel
theorem own_d2_86 : decode prog_7_method_2_code 86 = .ok (.lload 16, 2) := by decide +kernel
theorem own_d2_88 : decode prog_7_method_2_code 88 = .ok (.lconst 0, 1) := by decide +kernel
theorem own_d2_89 : decode prog_7_method_2_code 89 = .ok (.lcmp, 1) := by decide +kernel
theorem own_d2_90 : decode prog_7_method_2_code 90 = .ok (.ifCond .ge 9, 3) := by decide +kernel
theorem own_d2_93 : decode prog_7_method_2_code 93 = .ok (.ldc2_w 19, 3) := by decide +kernel
theorem own_d2_96 : decode prog_7_method_2_code 96 = .ok (.goto 5, 3) := by decide +kernel
theorem own_d2_99 : decode prog_7_method_2_code 99 = .ok (.lload 16, 2) := by decide +kernel
theorem own_d2_101 : decode prog_7_method_2_code 101 = .ok (.lstore 14, 2) := by decide +kernel
theorem own_d2_103 : decode prog_7_method_2_code 103 = .ok (.lload 14, 2) := by decide +kernel
theorem own_d2_105 : decode prog_7_method_2_code 105 = .ok (.lreturn, 1) := by decide +kernel
theorem own_d3_0 : decode jdk_29_method_45_code 0 = .ok (.lload_n 0, 1) := by decide +kernel
theorem own_d3_1 : decode jdk_29_method_45_code 1 = .ok (.bipush 32, 2) := by decide +kernel
theorem own_d3_3 : decode jdk_29_method_45_code 3 = .ok (.lshr, 1) := by decide +kernel
theorem own_d3_4 : decode jdk_29_method_45_code 4 = .ok (.lstore 4, 2) := by decide +kernel
theorem own_d3_6 : decode jdk_29_method_45_code 6 = .ok (.lload_n 0, 1) := by decide +kernel
theorem own_d3_7 : decode jdk_29_method_45_code 7 = .ok (.ldc2_w 138, 3) := by decide +kernel
theorem own_d3_10 : decode jdk_29_method_45_code 10 = .ok (.land, 1) := by decide +kernel
theorem own_d3_11 : decode jdk_29_method_45_code 11 = .ok (.lstore 6, 2) := by decide +kernel
theorem own_d3_13 : decode jdk_29_method_45_code 13 = .ok (.lload_n 2, 1) := by decide +kernel
theorem own_d3_14 : decode jdk_29_method_45_code 14 = .ok (.bipush 32, 2) := by decide +kernel
theorem own_d3_16 : decode jdk_29_method_45_code 16 = .ok (.lshr, 1) := by decide +kernel
theorem own_d3_17 : decode jdk_29_method_45_code 17 = .ok (.lstore 8, 2) := by decide +kernel
theorem own_d3_19 : decode jdk_29_method_45_code 19 = .ok (.lload_n 2, 1) := by decide +kernel
theorem own_d3_20 : decode jdk_29_method_45_code 20 = .ok (.ldc2_w 138, 3) := by decide +kernel
theorem own_d3_23 : decode jdk_29_method_45_code 23 = .ok (.land, 1) := by decide +kernel
theorem own_d3_24 : decode jdk_29_method_45_code 24 = .ok (.lstore 10, 2) := by decide +kernel
theorem own_d3_26 : decode jdk_29_method_45_code 26 = .ok (.lload 6, 2) := by decide +kernel
theorem own_d3_28 : decode jdk_29_method_45_code 28 = .ok (.lload 10, 2) := by decide +kernel
theorem own_d3_30 : decode jdk_29_method_45_code 30 = .ok (.lmul, 1) := by decide +kernel
theorem own_d3_31 : decode jdk_29_method_45_code 31 = .ok (.lstore 12, 2) := by decide +kernel
theorem own_d3_33 : decode jdk_29_method_45_code 33 = .ok (.lload 4, 2) := by decide +kernel
theorem own_d3_35 : decode jdk_29_method_45_code 35 = .ok (.lload 10, 2) := by decide +kernel
theorem own_d3_37 : decode jdk_29_method_45_code 37 = .ok (.lmul, 1) := by decide +kernel
theorem own_d3_38 : decode jdk_29_method_45_code 38 = .ok (.lload 12, 2) := by decide +kernel
theorem own_d3_40 : decode jdk_29_method_45_code 40 = .ok (.bipush 32, 2) := by decide +kernel
theorem own_d3_42 : decode jdk_29_method_45_code 42 = .ok (.lushr, 1) := by decide +kernel
theorem own_d3_43 : decode jdk_29_method_45_code 43 = .ok (.ladd, 1) := by decide +kernel
theorem own_d3_44 : decode jdk_29_method_45_code 44 = .ok (.lstore 14, 2) := by decide +kernel
theorem own_d3_46 : decode jdk_29_method_45_code 46 = .ok (.lload 14, 2) := by decide +kernel
theorem own_d3_48 : decode jdk_29_method_45_code 48 = .ok (.ldc2_w 138, 3) := by decide +kernel
theorem own_d3_51 : decode jdk_29_method_45_code 51 = .ok (.land, 1) := by decide +kernel
theorem own_d3_52 : decode jdk_29_method_45_code 52 = .ok (.lstore 16, 2) := by decide +kernel
theorem own_d3_54 : decode jdk_29_method_45_code 54 = .ok (.lload 14, 2) := by decide +kernel
theorem own_d3_56 : decode jdk_29_method_45_code 56 = .ok (.bipush 32, 2) := by decide +kernel
theorem own_d3_58 : decode jdk_29_method_45_code 58 = .ok (.lshr, 1) := by decide +kernel
theorem own_d3_59 : decode jdk_29_method_45_code 59 = .ok (.lstore 18, 2) := by decide +kernel
theorem own_d3_61 : decode jdk_29_method_45_code 61 = .ok (.lload 16, 2) := by decide +kernel
theorem own_d3_63 : decode jdk_29_method_45_code 63 = .ok (.lload 6, 2) := by decide +kernel
theorem own_d3_65 : decode jdk_29_method_45_code 65 = .ok (.lload 8, 2) := by decide +kernel
theorem own_d3_67 : decode jdk_29_method_45_code 67 = .ok (.lmul, 1) := by decide +kernel
theorem own_d3_68 : decode jdk_29_method_45_code 68 = .ok (.ladd, 1) := by decide +kernel
theorem own_d3_69 : decode jdk_29_method_45_code 69 = .ok (.lstore 16, 2) := by decide +kernel
theorem own_d3_71 : decode jdk_29_method_45_code 71 = .ok (.lload 4, 2) := by decide +kernel
theorem own_d3_73 : decode jdk_29_method_45_code 73 = .ok (.lload 8, 2) := by decide +kernel
theorem own_d3_75 : decode jdk_29_method_45_code 75 = .ok (.lmul, 1) := by decide +kernel
theorem own_d3_76 : decode jdk_29_method_45_code 76 = .ok (.lload 18, 2) := by decide +kernel
theorem own_d3_78 : decode jdk_29_method_45_code 78 = .ok (.ladd, 1) := by decide +kernel
theorem own_d3_79 : decode jdk_29_method_45_code 79 = .ok (.lload 16, 2) := by decide +kernel
theorem own_d3_81 : decode jdk_29_method_45_code 81 = .ok (.bipush 32, 2) := by decide +kernel
theorem own_d3_83 : decode jdk_29_method_45_code 83 = .ok (.lshr, 1) := by decide +kernel
theorem own_d3_84 : decode jdk_29_method_45_code 84 = .ok (.ladd, 1) := by decide +kernel
theorem own_d3_85 : decode jdk_29_method_45_code 85 = .ok (.lreturn, 1) := by decide +kernel
theorem own_d4_0 : decode jdk_35_method_43_code 0 = .ok (.lload_n 0, 1) := by decide +kernel
theorem own_d4_1 : decode jdk_35_method_43_code 1 = .ok (.ldc2_w 168, 3) := by decide +kernel
theorem own_d4_4 : decode jdk_35_method_43_code 4 = .ok (.ladd, 1) := by decide +kernel
theorem own_d4_5 : decode jdk_35_method_43_code 5 = .ok (.lload_n 2, 1) := by decide +kernel
theorem own_d4_6 : decode jdk_35_method_43_code 6 = .ok (.ldc2_w 168, 3) := by decide +kernel
theorem own_d4_9 : decode jdk_35_method_43_code 9 = .ok (.ladd, 1) := by decide +kernel
theorem own_d4_10 : decode jdk_35_method_43_code 10 = .ok (.invokestatic 302, 3) := by decide +kernel
theorem own_d4_13 : decode jdk_35_method_43_code 13 = .ok (.ireturn, 1) := by decide +kernel
theorem own_d5_0 : decode jdk_35_method_42_code 0 = .ok (.lload_n 0, 1) := by decide +kernel
theorem own_d5_1 : decode jdk_35_method_42_code 1 = .ok (.lload_n 2, 1) := by decide +kernel
theorem own_d5_2 : decode jdk_35_method_42_code 2 = .ok (.lcmp, 1) := by decide +kernel
theorem own_d5_3 : decode jdk_35_method_42_code 3 = .ok (.ifCond .ge 7, 3) := by decide +kernel
theorem own_d5_6 : decode jdk_35_method_42_code 6 = .ok (.iconst (-1), 1) := by decide +kernel
theorem own_d5_7 : decode jdk_35_method_42_code 7 = .ok (.goto 14, 3) := by decide +kernel
theorem own_d5_10 : decode jdk_35_method_42_code 10 = .ok (.lload_n 0, 1) := by decide +kernel
theorem own_d5_11 : decode jdk_35_method_42_code 11 = .ok (.lload_n 2, 1) := by decide +kernel
theorem own_d5_12 : decode jdk_35_method_42_code 12 = .ok (.lcmp, 1) := by decide +kernel
theorem own_d5_13 : decode jdk_35_method_42_code 13 = .ok (.ifCond .ne 7, 3) := by decide +kernel
theorem own_d5_16 : decode jdk_35_method_42_code 16 = .ok (.iconst 0, 1) := by decide +kernel
theorem own_d5_17 : decode jdk_35_method_42_code 17 = .ok (.goto 4, 3) := by decide +kernel
theorem own_d5_20 : decode jdk_35_method_42_code 20 = .ok (.iconst 1, 1) := by decide +kernel
theorem own_d5_21 : decode jdk_35_method_42_code 21 = .ok (.ireturn, 1) := by decide +kernel
theorem own_d6_0 : decode prog_7_method_5_code 0 = .ok (.lload_n 0, 1) := by decide +kernel
theorem own_d6_1 : decode prog_7_method_5_code 1 = .ok (.lload_n 2, 1) := by decide +kernel
theorem own_d6_2 : decode prog_7_method_5_code 2 = .ok (.lmul, 1) := by decide +kernel
theorem own_d6_3 : decode prog_7_method_5_code 3 = .ok (.lload 4, 2) := by decide +kernel
theorem own_d6_5 : decode prog_7_method_5_code 5 = .ok (.ladd, 1) := by decide +kernel
theorem own_d6_6 : decode prog_7_method_5_code 6 = .ok (.lload 8, 2) := by decide +kernel
theorem own_d6_8 : decode prog_7_method_5_code 8 = .ok (.lload 6, 2) := by decide +kernel
theorem own_d6_10 : decode prog_7_method_5_code 10 = .ok (.lmul, 1) := by decide +kernel
theorem own_d6_11 : decode prog_7_method_5_code 11 = .ok (.lsub, 1) := by decide +kernel
theorem own_d6_12 : decode prog_7_method_5_code 12 = .ok (.lreturn, 1) := by decide +kernel
theorem own_d7_0 : decode method_5_code 0 = .ok (.lload_n 0, 1) := by decide +kernel
theorem own_d7_1 : decode method_5_code 1 = .ok (.ldc2_w 35, 3) := by decide +kernel
theorem own_d7_4 : decode method_5_code 4 = .ok (.land, 1) := by decide +kernel
theorem own_d7_5 : decode method_5_code 5 = .ok (.lstore 4, 2) := by decide +kernel
theorem own_d7_7 : decode method_5_code 7 = .ok (.lload_n 0, 1) := by decide +kernel
theorem own_d7_8 : decode method_5_code 8 = .ok (.bipush 32, 2) := by decide +kernel
theorem own_d7_10 : decode method_5_code 10 = .ok (.lushr, 1) := by decide +kernel
theorem own_d7_11 : decode method_5_code 11 = .ok (.lstore 6, 2) := by decide +kernel
theorem own_d7_13 : decode method_5_code 13 = .ok (.lload_n 2, 1) := by decide +kernel
theorem own_d7_14 : decode method_5_code 14 = .ok (.ldc2_w 35, 3) := by decide +kernel
theorem own_d7_17 : decode method_5_code 17 = .ok (.land, 1) := by decide +kernel
theorem own_d7_18 : decode method_5_code 18 = .ok (.lstore 8, 2) := by decide +kernel
theorem own_d7_20 : decode method_5_code 20 = .ok (.lload_n 2, 1) := by decide +kernel
theorem own_d7_21 : decode method_5_code 21 = .ok (.bipush 32, 2) := by decide +kernel
theorem own_d7_23 : decode method_5_code 23 = .ok (.lushr, 1) := by decide +kernel
theorem own_d7_24 : decode method_5_code 24 = .ok (.lstore 10, 2) := by decide +kernel
theorem own_d7_26 : decode method_5_code 26 = .ok (.lload 4, 2) := by decide +kernel
theorem own_d7_28 : decode method_5_code 28 = .ok (.lload 8, 2) := by decide +kernel
theorem own_d7_30 : decode method_5_code 30 = .ok (.lmul, 1) := by decide +kernel
theorem own_d7_31 : decode method_5_code 31 = .ok (.lstore 12, 2) := by decide +kernel
theorem own_d7_33 : decode method_5_code 33 = .ok (.lload 4, 2) := by decide +kernel
theorem own_d7_35 : decode method_5_code 35 = .ok (.lload 10, 2) := by decide +kernel
theorem own_d7_37 : decode method_5_code 37 = .ok (.lmul, 1) := by decide +kernel
theorem own_d7_38 : decode method_5_code 38 = .ok (.lstore 14, 2) := by decide +kernel
theorem own_d7_40 : decode method_5_code 40 = .ok (.lload 6, 2) := by decide +kernel
theorem own_d7_42 : decode method_5_code 42 = .ok (.lload 8, 2) := by decide +kernel
theorem own_d7_44 : decode method_5_code 44 = .ok (.lmul, 1) := by decide +kernel
theorem own_d7_45 : decode method_5_code 45 = .ok (.lstore 16, 2) := by decide +kernel
theorem own_d7_47 : decode method_5_code 47 = .ok (.lload 6, 2) := by decide +kernel
theorem own_d7_49 : decode method_5_code 49 = .ok (.lload 10, 2) := by decide +kernel
theorem own_d7_51 : decode method_5_code 51 = .ok (.lmul, 1) := by decide +kernel
theorem own_d7_52 : decode method_5_code 52 = .ok (.lstore 18, 2) := by decide +kernel
theorem own_d7_54 : decode method_5_code 54 = .ok (.lload 12, 2) := by decide +kernel
theorem own_d7_56 : decode method_5_code 56 = .ok (.bipush 32, 2) := by decide +kernel
theorem own_d7_58 : decode method_5_code 58 = .ok (.lushr, 1) := by decide +kernel
theorem own_d7_59 : decode method_5_code 59 = .ok (.lload 14, 2) := by decide +kernel
theorem own_d7_61 : decode method_5_code 61 = .ok (.ldc2_w 35, 3) := by decide +kernel
theorem own_d7_64 : decode method_5_code 64 = .ok (.land, 1) := by decide +kernel
theorem own_d7_65 : decode method_5_code 65 = .ok (.ladd, 1) := by decide +kernel
theorem own_d7_66 : decode method_5_code 66 = .ok (.lload 16, 2) := by decide +kernel
theorem own_d7_68 : decode method_5_code 68 = .ok (.ldc2_w 35, 3) := by decide +kernel
theorem own_d7_71 : decode method_5_code 71 = .ok (.land, 1) := by decide +kernel
theorem own_d7_72 : decode method_5_code 72 = .ok (.ladd, 1) := by decide +kernel
theorem own_d7_73 : decode method_5_code 73 = .ok (.lstore 20, 2) := by decide +kernel
theorem own_d7_75 : decode method_5_code 75 = .ok (.lload 18, 2) := by decide +kernel
theorem own_d7_77 : decode method_5_code 77 = .ok (.lload 14, 2) := by decide +kernel
theorem own_d7_79 : decode method_5_code 79 = .ok (.bipush 32, 2) := by decide +kernel
theorem own_d7_81 : decode method_5_code 81 = .ok (.lushr, 1) := by decide +kernel
theorem own_d7_82 : decode method_5_code 82 = .ok (.ladd, 1) := by decide +kernel
theorem own_d7_83 : decode method_5_code 83 = .ok (.lload 16, 2) := by decide +kernel
theorem own_d7_85 : decode method_5_code 85 = .ok (.bipush 32, 2) := by decide +kernel
theorem own_d7_87 : decode method_5_code 87 = .ok (.lushr, 1) := by decide +kernel
theorem own_d7_88 : decode method_5_code 88 = .ok (.ladd, 1) := by decide +kernel
theorem own_d7_89 : decode method_5_code 89 = .ok (.lload 20, 2) := by decide +kernel
theorem own_d7_91 : decode method_5_code 91 = .ok (.bipush 32, 2) := by decide +kernel
theorem own_d7_93 : decode method_5_code 93 = .ok (.lushr, 1) := by decide +kernel
theorem own_d7_94 : decode method_5_code 94 = .ok (.ladd, 1) := by decide +kernel
theorem own_d7_95 : decode method_5_code 95 = .ok (.lreturn, 1) := by decide +kernel
theorem own_d8_0 : decode method_3_code 0 = .ok (.lload_n 0, 1) := by decide +kernel
theorem own_d8_1 : decode method_3_code 1 = .ok (.ldc2_w 33, 3) := by decide +kernel
theorem own_d8_4 : decode method_3_code 4 = .ok (.ladd, 1) := by decide +kernel
theorem own_d8_5 : decode method_3_code 5 = .ok (.lload_n 2, 1) := by decide +kernel
theorem own_d8_6 : decode method_3_code 6 = .ok (.ldc2_w 33, 3) := by decide +kernel
theorem own_d8_9 : decode method_3_code 9 = .ok (.ladd, 1) := by decide +kernel
theorem own_d8_10 : decode method_3_code 10 = .ok (.lcmp, 1) := by decide +kernel
theorem own_d8_11 : decode method_3_code 11 = .ok (.ifCond .ge 7, 3) := by decide +kernel
theorem own_d8_14 : decode method_3_code 14 = .ok (.iconst 1, 1) := by decide +kernel
theorem own_d8_15 : decode method_3_code 15 = .ok (.goto 4, 3) := by decide +kernel
theorem own_d8_18 : decode method_3_code 18 = .ok (.iconst 0, 1) := by decide +kernel
theorem own_d8_19 : decode method_3_code 19 = .ok (.ireturn, 1) := by decide +kernel
theorem own_d9_0 : decode method_4_code 0 = .ok (.lload_n 0, 1) := by decide +kernel
theorem own_d9_1 : decode method_4_code 1 = .ok (.lload 4, 2) := by decide +kernel
theorem own_d9_3 : decode method_4_code 3 = .ok (.lcmp, 1) := by decide +kernel
theorem own_d9_4 : decode method_4_code 4 = .ok (.ifCond .lt 19, 3) := by decide +kernel
theorem own_d9_7 : decode method_4_code 7 = .ok (.lload_n 0, 1) := by decide +kernel
theorem own_d9_8 : decode method_4_code 8 = .ok (.lload 4, 2) := by decide +kernel
theorem own_d9_10 : decode method_4_code 10 = .ok (.lcmp, 1) := by decide +kernel
theorem own_d9_11 : decode method_4_code 11 = .ok (.ifCond .ne 16, 3) := by decide +kernel
theorem own_d9_14 : decode method_4_code 14 = .ok (.lload_n 2, 1) := by decide +kernel
theorem own_d9_15 : decode method_4_code 15 = .ok (.lload 6, 2) := by decide +kernel
theorem own_d9_17 : decode method_4_code 17 = .ok (.invokestatic 23, 3) := by decide +kernel
theorem own_d9_20 : decode method_4_code 20 = .ok (.ifCond .eq 7, 3) := by decide +kernel
theorem own_d9_23 : decode method_4_code 23 = .ok (.iconst 1, 1) := by decide +kernel
theorem own_d9_24 : decode method_4_code 24 = .ok (.goto 4, 3) := by decide +kernel
theorem own_d9_27 : decode method_4_code 27 = .ok (.iconst 0, 1) := by decide +kernel
theorem own_d9_28 : decode method_4_code 28 = .ok (.ireturn, 1) := by decide +kernel
theorem own_d10_0 : decode prog_7_method_6_code 0 = .ok (.lload_n 0, 1) := by decide +kernel
theorem own_d10_1 : decode prog_7_method_6_code 1 = .ok (.lstore 6, 2) := by decide +kernel
theorem own_d10_3 : decode prog_7_method_6_code 3 = .ok (.lconst 0, 1) := by decide +kernel
theorem own_d10_4 : decode prog_7_method_6_code 4 = .ok (.lstore 8, 2) := by decide +kernel
theorem own_d10_6 : decode prog_7_method_6_code 6 = .ok (.bipush 63, 2) := by decide +kernel
theorem own_d10_8 : decode prog_7_method_6_code 8 = .ok (.istore 10, 2) := by decide +kernel
theorem own_d10_10 : decode prog_7_method_6_code 10 = .ok (.iload 10, 2) := by decide +kernel
theorem own_d10_12 : decode prog_7_method_6_code 12 = .ok (.ifCond .lt 51, 3) := by decide +kernel
theorem own_d10_15 : decode prog_7_method_6_code 15 = .ok (.lload 6, 2) := by decide +kernel
theorem own_d10_17 : decode prog_7_method_6_code 17 = .ok (.iconst 1, 1) := by decide +kernel
theorem own_d10_18 : decode prog_7_method_6_code 18 = .ok (.lshl, 1) := by decide +kernel
theorem own_d10_19 : decode prog_7_method_6_code 19 = .ok (.lload_n 2, 1) := by decide +kernel
theorem own_d10_20 : decode prog_7_method_6_code 20 = .ok (.iload 10, 2) := by decide +kernel
theorem own_d10_22 : decode prog_7_method_6_code 22 = .ok (.lushr, 1) := by decide +kernel
theorem own_d10_23 : decode prog_7_method_6_code 23 = .ok (.lconst 1, 1) := by decide +kernel
theorem own_d10_24 : decode prog_7_method_6_code 24 = .ok (.land, 1) := by decide +kernel
theorem own_d10_25 : decode prog_7_method_6_code 25 = .ok (.lor, 1) := by decide +kernel
theorem own_d10_26 : decode prog_7_method_6_code 26 = .ok (.lstore 6, 2) := by decide +kernel
theorem own_d10_28 : decode prog_7_method_6_code 28 = .ok (.lload 8, 2) := by decide +kernel
theorem own_d10_30 : decode prog_7_method_6_code 30 = .ok (.iconst 1, 1) := by decide +kernel
theorem own_d10_31 : decode prog_7_method_6_code 31 = .ok (.lshl, 1) := by decide +kernel
theorem own_d10_32 : decode prog_7_method_6_code 32 = .ok (.lstore 8, 2) := by decide +kernel
theorem own_d10_34 : decode prog_7_method_6_code 34 = .ok (.lload 6, 2) := by decide +kernel
theorem own_d10_36 : decode prog_7_method_6_code 36 = .ok (.lload 4, 2) := by decide +kernel
theorem own_d10_38 : decode prog_7_method_6_code 38 = .ok (.invokestatic 13, 3) := by decide +kernel
theorem own_d10_41 : decode prog_7_method_6_code 41 = .ok (.ifCond .lt 16, 3) := by decide +kernel
theorem own_d10_44 : decode prog_7_method_6_code 44 = .ok (.lload 6, 2) := by decide +kernel
theorem own_d10_46 : decode prog_7_method_6_code 46 = .ok (.lload 4, 2) := by decide +kernel
theorem own_d10_48 : decode prog_7_method_6_code 48 = .ok (.lsub, 1) := by decide +kernel
theorem own_d10_49 : decode prog_7_method_6_code 49 = .ok (.lstore 6, 2) := by decide +kernel
theorem own_d10_51 : decode prog_7_method_6_code 51 = .ok (.lload 8, 2) := by decide +kernel
theorem own_d10_53 : decode prog_7_method_6_code 53 = .ok (.lconst 1, 1) := by decide +kernel
theorem own_d10_54 : decode prog_7_method_6_code 54 = .ok (.lor, 1) := by decide +kernel
theorem own_d10_55 : decode prog_7_method_6_code 55 = .ok (.lstore 8, 2) := by decide +kernel
theorem own_d10_57 : decode prog_7_method_6_code 57 = .ok (.iinc 10 (-1), 3) := by decide +kernel
theorem own_d10_60 : decode prog_7_method_6_code 60 = .ok (.goto (-50), 3) := by decide +kernel
theorem own_d10_63 : decode prog_7_method_6_code 63 = .ok (.lload 8, 2) := by decide +kernel
theorem own_d10_65 : decode prog_7_method_6_code 65 = .ok (.lreturn, 1) := by decide +kernel
theorem own_pd0 : parseMethodDescriptor "(JJ)I" = some ⟨[.long, .long], some .int⟩ := by decide +kernel
set_option maxRecDepth 65536 in
set_option maxHeartbeats 40000000 in
theorem own_cmp (l : Launch) (Z : State) (a0 : Array Value) (hw : ∀ d ∈ tables_1, d.before a0 Z = true) (x : Int64) (y : Int64) (h0 : Heap) (O0 : own_Old Z h0) :
    own_Con l Z (⟨"java/lang/Long", "compare", "(JJ)I"⟩ : MethodName) jdk_35_method_42_code 4 (some .int) [] ({ frames := 0, cells := 0, slots := 0, locals := 0 } : Room) #[(.long x), (.long y)] h0 (fun rv rh rL => ∃ (r : Int32), rv = some (.int r) ∧ own_Fr Z rL ∧ h0 = rh ∧ (r < (0 : Int32) ↔ x < y)) := by
  refine own_intro (plainFor_of_name (by first | (simp [plainName, overriddenIn]; done) | decide +kernel)) ?_
  intro p e s m below meth c s₁ G hx hby hml hown hnm hret hZ X0 e0 hG hR
  have N0 := Fr.nil Z.heap.size
  refine own_entry (Ls := #[.val (.long x), .second, .val (.long y), .second]) (by first | (simp [entryFrame, mkF, argsToLocals, Value.category]; done) | rfl) ?_
  show G (s₁.setTop (mkF m 0 #[.val (.long x), .second, .val (.long y), .second] []))
  refine hG _ _ (fun t k => XS.lloadN X0.here hx rfl (hb hby own_d5_0) rfl k) ?_
  show G (s₁.setTop (mkF m 1 #[.val (.long x), .second, .val (.long y), .second] [(.long x)]))
  refine hG _ _ (fun t k => XS.lloadN X0.here hx rfl (hb hby own_d5_1) rfl k) ?_
  show G (s₁.setTop (mkF m 2 #[.val (.long x), .second, .val (.long y), .second] [(.long y), (.long x)]))
  refine hG _ _ (fun t k => XS.lcmp X0.here hx rfl (hb hby own_d5_2) rfl k) ?_
  show G (s₁.setTop (mkF m 3 #[.val (.long x), .second, .val (.long y), .second] [(.int (lcmpW x y))]))
  by_cases hc3_1 : x < y
  · skip
    refine hG _ _ (fun t k => XS.ifNo X0.here hx rfl (hb hby own_d5_3) rfl ((if0 _ _).trans (tlt ((lw_lt _ _).mpr hc3_1)).2.1) k) ?_
    show G (s₁.setTop (mkF m 6 #[.val (.long x), .second, .val (.long y), .second] []))
    refine hG _ _ (fun t k => XS.iconst X0.here hx rfl (hb hby own_d5_6) k) ?_
    show G (s₁.setTop (mkF m 7 #[.val (.long x), .second, .val (.long y), .second] [(.int (-1 : Int32))]))
    refine hG _ _ (fun t k => XS.goto X0.here hx rfl (pc0 := 7) (pc' := 21) rfl (hb hby own_d5_7) (by decide) (by decide) k) ?_
    show G (s₁.setTop (mkF m 21 #[.val (.long x), .second, .val (.long y), .second] [(.int (-1 : Int32))]))
    exact own_retI hR hret X0 hx (hb hby own_d5_21) (by decide) (by decide) (by rw [e0]; exact ⟨(-1 : Int32), rfl, N0, rfl, ⟨fun _ => hc3_1, fun _ => (by decide)⟩⟩)
  · skip
    refine hG _ _ (fun t k => XS.ifYes X0.here hx rfl (pc0 := 3) (pc' := 10) rfl (hb hby own_d5_3) rfl ((if0 _ _).trans (flt (fun q => hc3_1 ((lw_lt _ _).mp q))).2.1) (by decide) (by decide) k) ?_
    show G (s₁.setTop (mkF m 10 #[.val (.long x), .second, .val (.long y), .second] []))
    refine hG _ _ (fun t k => XS.lloadN X0.here hx rfl (hb hby own_d5_10) rfl k) ?_
    show G (s₁.setTop (mkF m 11 #[.val (.long x), .second, .val (.long y), .second] [(.long x)]))
    refine hG _ _ (fun t k => XS.lloadN X0.here hx rfl (hb hby own_d5_11) rfl k) ?_
    show G (s₁.setTop (mkF m 12 #[.val (.long x), .second, .val (.long y), .second] [(.long y), (.long x)]))
    refine hG _ _ (fun t k => XS.lcmp X0.here hx rfl (hb hby own_d5_12) rfl k) ?_
    show G (s₁.setTop (mkF m 13 #[.val (.long x), .second, .val (.long y), .second] [(.int (lcmpW x y))]))
    by_cases hc13_2 : x = y
    · skip
      refine hG _ _ (fun t k => XS.ifNo X0.here hx rfl (hb hby own_d5_13) rfl ((if0 _ _).trans (teq ((lw_eq _ _).mpr hc13_2)).2) k) ?_
      show G (s₁.setTop (mkF m 16 #[.val (.long x), .second, .val (.long y), .second] []))
      refine hG _ _ (fun t k => XS.iconst X0.here hx rfl (hb hby own_d5_16) k) ?_
      show G (s₁.setTop (mkF m 17 #[.val (.long x), .second, .val (.long y), .second] [(.int (0 : Int32))]))
      refine hG _ _ (fun t k => XS.goto X0.here hx rfl (pc0 := 17) (pc' := 21) rfl (hb hby own_d5_17) (by decide) (by decide) k) ?_
      show G (s₁.setTop (mkF m 21 #[.val (.long x), .second, .val (.long y), .second] [(.int (0 : Int32))]))
      exact own_retI hR hret X0 hx (hb hby own_d5_21) (by decide) (by decide) (by rw [e0]; exact ⟨(0 : Int32), rfl, N0, rfl, ⟨fun q => absurd q (by decide), fun q => absurd q hc3_1⟩⟩)
    · skip
      refine hG _ _ (fun t k => XS.ifYes X0.here hx rfl (pc0 := 13) (pc' := 20) rfl (hb hby own_d5_13) rfl ((if0 _ _).trans (feq (fun q => hc13_2 ((lw_eq _ _).mp q))).2) (by decide) (by decide) k) ?_
      show G (s₁.setTop (mkF m 20 #[.val (.long x), .second, .val (.long y), .second] []))
      refine hG _ _ (fun t k => XS.iconst X0.here hx rfl (hb hby own_d5_20) k) ?_
      show G (s₁.setTop (mkF m 21 #[.val (.long x), .second, .val (.long y), .second] [(.int (1 : Int32))]))
      exact own_retI hR hret X0 hx (hb hby own_d5_21) (by decide) (by decide) (by rw [e0]; exact ⟨(1 : Int32), rfl, N0, rfl, ⟨fun q => absurd q (by decide), fun q => absurd q hc3_1⟩⟩)
set_option maxRecDepth 65536 in
set_option maxHeartbeats 40000000 in
theorem own_cmpU (l : Launch) (Z : State) (a0 : Array Value) (hw : ∀ d ∈ tables_1, d.before a0 Z = true) (x : Int64) (y : Int64) (h0 : Heap) (O0 : own_Old Z h0) :
    own_Con l Z (⟨"java/lang/Long", "compareUnsigned", "(JJ)I"⟩ : MethodName) jdk_35_method_43_code 4 (some .int) [] ({ frames := 1, cells := 0, slots := 0, locals := 15 } : Room) #[(.long x), (.long y)] h0 (fun rv rh rL => ∃ (r : Int32), rv = some (.int r) ∧ own_Fr Z rL ∧ h0 = rh ∧ (r < (0 : Int32) ↔ own_U x < own_U y)) := by
  refine own_intro (plainFor_of_name (by first | (simp [plainName, overriddenIn]; done) | decide +kernel)) ?_
  intro p e s m below meth c s₁ G hx hby hml hown hnm hret hZ X0 e0 hG hR
  have N0 := Fr.nil Z.heap.size
  refine own_entry (Ls := #[.val (.long x), .second, .val (.long y), .second]) (by first | (simp [entryFrame, mkF, argsToLocals, Value.category]; done) | rfl) ?_
  show G (s₁.setTop (mkF m 0 #[.val (.long x), .second, .val (.long y), .second] []))
  refine hG _ _ (fun t k => XS.lloadN X0.here hx rfl (hb hby own_d4_0) rfl k) ?_
  show G (s₁.setTop (mkF m 1 #[.val (.long x), .second, .val (.long y), .second] [(.long x)]))
  refine hG _ _ (X0.ldc2Long hx hown (mvT hZ (hw _ (List.mem_of_getElem? (i := 17) rfl))) (g := (mkF m 1 #[.val (.long x), .second, .val (.long y), .second] [(.long x)])) rfl (hb hby own_d4_1)) ?_
  show G (s₁.setTop (mkF m 4 #[.val (.long x), .second, .val (.long y), .second] [(.long (-9223372036854775808 : Int64)), (.long x)]))
  refine hG _ _ (fun t k => XS.ladd X0.here hx rfl (hb hby own_d4_4) rfl k) ?_
  show G (s₁.setTop (mkF m 5 #[.val (.long x), .second, .val (.long y), .second] [(.long (x + (-9223372036854775808 : Int64)))]))
  refine hG _ _ (fun t k => XS.lloadN X0.here hx rfl (hb hby own_d4_5) rfl k) ?_
  show G (s₁.setTop (mkF m 6 #[.val (.long x), .second, .val (.long y), .second] [(.long y), (.long (x + (-9223372036854775808 : Int64)))]))
  refine hG _ _ (X0.ldc2Long hx hown (mvT hZ (hw _ (List.mem_of_getElem? (i := 17) rfl))) (g := (mkF m 6 #[.val (.long x), .second, .val (.long y), .second] [(.long y), (.long (x + (-9223372036854775808 : Int64)))])) rfl (hb hby own_d4_6)) ?_
  show G (s₁.setTop (mkF m 9 #[.val (.long x), .second, .val (.long y), .second] [(.long (-9223372036854775808 : Int64)), (.long y), (.long (x + (-9223372036854775808 : Int64)))]))
  refine hG _ _ (fun t k => XS.ladd X0.here hx rfl (hb hby own_d4_9) rfl k) ?_
  show G (s₁.setTop (mkF m 10 #[.val (.long x), .second, .val (.long y), .second] [(.long (y + (-9223372036854775808 : Int64))), (.long (x + (-9223372036854775808 : Int64)))]))
  refine own_callS X0 hx hZ hG hown (hw _ (List.mem_of_getElem? (i := 18) rfl)) (hw _ (List.mem_of_getElem? (i := 19) rfl)) (hw _ (List.mem_of_getElem? (i := 15) rfl)) (hw _ (List.mem_of_getElem? (i := 20) rfl)) (by decide) 0 (own_cmp l Z a0 hw (x + (-9223372036854775808 : Int64)) (y + (-9223372036854775808 : Int64)) h0 O0) (by decide) (by decide) e0 (by rw [hml]; rfl) (lenOf own_pd0 rfl) (argsL := [(.long (x + (-9223372036854775808 : Int64))), (.long (y + (-9223372036854775808 : Int64)))]) (rest := []) rfl rfl (Nat.le_of_eq rfl) (hb hby own_d4_10) (by decide) (by decide) ?_
  intro T1 h1 v1 L1 X1 e1 q1
  obtain ⟨r_1, rfl, M1, rfl, r1_0⟩ := q1
  have N1 := Fr.app N0 M1
  show G (T1.setTop (mkF m 13 #[.val (.long x), .second, .val (.long y), .second] [(.int r_1)]))
  exact own_retI hR hret X1 hx (hb hby own_d4_13) (by decide) (by decide) (by rw [e1]; exact ⟨r_1, rfl, N1, rfl, (r1_0.trans (own_ultA _ _))⟩)
theorem own_pd1 : parseMethodDescriptor "(JJ)J" = some ⟨[.long, .long], some .long⟩ := by decide +kernel
set_option maxRecDepth 65536 in
set_option maxHeartbeats 40000000 in
theorem own_mh (l : Launch) (Z : State) (a0 : Array Value) (hw : ∀ d ∈ tables_1, d.before a0 Z = true) (x : Int64) (y : Int64) (h0 : Heap) (O0 : own_Old Z h0) (g0_hx : 0 ≤ x.toInt) (g1_hy : 0 ≤ y.toInt) :
    own_Con l Z (⟨"java/lang/Math", "multiplyHigh", "(JJ)J"⟩ : MethodName) jdk_29_method_45_code 20 (some .long) [] ({ frames := 0, cells := 0, slots := 0, locals := 0 } : Room) #[(.long x), (.long y)] h0 (fun rv rh rL => ∃ (r : Int64), rv = some (.long r) ∧ own_Fr Z rL ∧ h0 = rh ∧ (r.toInt = x.toInt * y.toInt / 18446744073709551616)) := by
  refine own_intro (Jvm.Free.JP.mathPlain rfl (by decide +kernel)) ?_
  intro p e s m below meth c s₁ G hx hby hml hown hnm hret hZ X0 e0 hG hR
  have N0 := Fr.nil Z.heap.size
  refine own_entry (Ls := #[.val (.long x), .second, .val (.long y), .second, .unset, .unset, .unset, .unset, .unset, .unset, .unset, .unset, .unset, .unset, .unset, .unset, .unset, .unset, .unset, .unset]) (by first | (simp [entryFrame, mkF, argsToLocals, Value.category]; done) | rfl) ?_
  show G (s₁.setTop (mkF m 0 #[.val (.long x), .second, .val (.long y), .second, .unset, .unset, .unset, .unset, .unset, .unset, .unset, .unset, .unset, .unset, .unset, .unset, .unset, .unset, .unset, .unset] []))
  refine hG _ _ (fun t k => XS.lloadN X0.here hx rfl (hb hby own_d3_0) rfl k) ?_
  show G (s₁.setTop (mkF m 1 #[.val (.long x), .second, .val (.long y), .second, .unset, .unset, .unset, .unset, .unset, .unset, .unset, .unset, .unset, .unset, .unset, .unset, .unset, .unset, .unset, .unset] [(.long x)]))
  refine hG _ _ (fun t k => XS.bipush X0.here hx rfl (hb hby own_d3_1) k) ?_
  show G (s₁.setTop (mkF m 3 #[.val (.long x), .second, .val (.long y), .second, .unset, .unset, .unset, .unset, .unset, .unset, .unset, .unset, .unset, .unset, .unset, .unset, .unset, .unset, .unset, .unset] [(.int (32 : Int32)), (.long x)]))
  refine hG _ _ (fun t k => XS.lshr X0.here hx rfl (hb hby own_d3_3) rfl k) ?_
  show G (s₁.setTop (mkF m 4 #[.val (.long x), .second, .val (.long y), .second, .unset, .unset, .unset, .unset, .unset, .unset, .unset, .unset, .unset, .unset, .unset, .unset, .unset, .unset, .unset, .unset] [(.long (x >>> ((32 : Int32) &&& 0x3f).toInt64))]))
  refine hG _ _ (fun t k => XS.lstore X0.here hx rfl (hb hby own_d3_4) rfl (l' := #[.val (.long x), .second, .val (.long y), .second, .val (.long (x >>> ((32 : Int32) &&& 0x3f).toInt64)), .second, .unset, .unset, .unset, .unset, .unset, .unset, .unset, .unset, .unset, .unset, .unset, .unset, .unset, .unset]) rfl k) ?_
  show G (s₁.setTop (mkF m 6 #[.val (.long x), .second, .val (.long y), .second, .val (.long (x >>> ((32 : Int32) &&& 0x3f).toInt64)), .second, .unset, .unset, .unset, .unset, .unset, .unset, .unset, .unset, .unset, .unset, .unset, .unset, .unset, .unset] []))
  generalize hn_y4_1 : (x >>> ((32 : Int32) &&& 0x3f).toInt64) = y4_1
  refine hG _ _ (fun t k => XS.lloadN X0.here hx rfl (hb hby own_d3_6) rfl k) ?_
  show G (s₁.setTop (mkF m 7 #[.val (.long x), .second, .val (.long y), .second, .val (.long y4_1), .second, .unset, .unset, .unset, .unset, .unset, .unset, .unset, .unset, .unset, .unset, .unset, .unset, .unset, .unset] [(.long x)]))
  refine hG _ _ (X0.ldc2Long hx hown (mvT hZ (hw _ (List.mem_of_getElem? (i := 12) rfl))) (g := (mkF m 7 #[.val (.long x), .second, .val (.long y), .second, .val (.long y4_1), .second, .unset, .unset, .unset, .unset, .unset, .unset, .unset, .unset, .unset, .unset, .unset, .unset, .unset, .unset] [(.long x)])) rfl (hb hby own_d3_7)) ?_
  show G (s₁.setTop (mkF m 10 #[.val (.long x), .second, .val (.long y), .second, .val (.long y4_1), .second, .unset, .unset, .unset, .unset, .unset, .unset, .unset, .unset, .unset, .unset, .unset, .unset, .unset, .unset] [(.long (4294967295 : Int64)), (.long x)]))
  refine hG _ _ (fun t k => XS.land X0.here hx rfl (hb hby own_d3_10) rfl k) ?_
  show G (s₁.setTop (mkF m 11 #[.val (.long x), .second, .val (.long y), .second, .val (.long y4_1), .second, .unset, .unset, .unset, .unset, .unset, .unset, .unset, .unset, .unset, .unset, .unset, .unset, .unset, .unset] [(.long (x &&& (4294967295 : Int64)))]))
  refine hG _ _ (fun t k => XS.lstore X0.here hx rfl (hb hby own_d3_11) rfl (l' := #[.val (.long x), .second, .val (.long y), .second, .val (.long y4_1), .second, .val (.long (x &&& (4294967295 : Int64))), .second, .unset, .unset, .unset, .unset, .unset, .unset, .unset, .unset, .unset, .unset, .unset, .unset]) rfl k) ?_
  show G (s₁.setTop (mkF m 13 #[.val (.long x), .second, .val (.long y), .second, .val (.long y4_1), .second, .val (.long (x &&& (4294967295 : Int64))), .second, .unset, .unset, .unset, .unset, .unset, .unset, .unset, .unset, .unset, .unset, .unset, .unset] []))
  generalize hn_y6_2 : (x &&& (4294967295 : Int64)) = y6_2
  refine hG _ _ (fun t k => XS.lloadN X0.here hx rfl (hb hby own_d3_13) rfl k) ?_
  show G (s₁.setTop (mkF m 14 #[.val (.long x), .second, .val (.long y), .second, .val (.long y4_1), .second, .val (.long y6_2), .second, .unset, .unset, .unset, .unset, .unset, .unset, .unset, .unset, .unset, .unset, .unset, .unset] [(.long y)]))
  refine hG _ _ (fun t k => XS.bipush X0.here hx rfl (hb hby own_d3_14) k) ?_
  show G (s₁.setTop (mkF m 16 #[.val (.long x), .second, .val (.long y), .second, .val (.long y4_1), .second, .val (.long y6_2), .second, .unset, .unset, .unset, .unset, .unset, .unset, .unset, .unset, .unset, .unset, .unset, .unset] [(.int (32 : Int32)), (.long y)]))
  refine hG _ _ (fun t k => XS.lshr X0.here hx rfl (hb hby own_d3_16) rfl k) ?_
  show G (s₁.setTop (mkF m 17 #[.val (.long x), .second, .val (.long y), .second, .val (.long y4_1), .second, .val (.long y6_2), .second, .unset, .unset, .unset, .unset, .unset, .unset, .unset, .unset, .unset, .unset, .unset, .unset] [(.long (y >>> ((32 : Int32) &&& 0x3f).toInt64))]))
  refine hG _ _ (fun t k => XS.lstore X0.here hx rfl (hb hby own_d3_17) rfl (l' := #[.val (.long x), .second, .val (.long y), .second, .val (.long y4_1), .second, .val (.long y6_2), .second, .val (.long (y >>> ((32 : Int32) &&& 0x3f).toInt64)), .second, .unset, .unset, .unset, .unset, .unset, .unset, .unset, .unset, .unset, .unset]) rfl k) ?_
  show G (s₁.setTop (mkF m 19 #[.val (.long x), .second, .val (.long y), .second, .val (.long y4_1), .second, .val (.long y6_2), .second, .val (.long (y >>> ((32 : Int32) &&& 0x3f).toInt64)), .second, .unset, .unset, .unset, .unset, .unset, .unset, .unset, .unset, .unset, .unset] []))
  generalize hn_y8_3 : (y >>> ((32 : Int32) &&& 0x3f).toInt64) = y8_3
  refine hG _ _ (fun t k => XS.lloadN X0.here hx rfl (hb hby own_d3_19) rfl k) ?_
  show G (s₁.setTop (mkF m 20 #[.val (.long x), .second, .val (.long y), .second, .val (.long y4_1), .second, .val (.long y6_2), .second, .val (.long y8_3), .second, .unset, .unset, .unset, .unset, .unset, .unset, .unset, .unset, .unset, .unset] [(.long y)]))
  refine hG _ _ (X0.ldc2Long hx hown (mvT hZ (hw _ (List.mem_of_getElem? (i := 12) rfl))) (g := (mkF m 20 #[.val (.long x), .second, .val (.long y), .second, .val (.long y4_1), .second, .val (.long y6_2), .second, .val (.long y8_3), .second, .unset, .unset, .unset, .unset, .unset, .unset, .unset, .unset, .unset, .unset] [(.long y)])) rfl (hb hby own_d3_20)) ?_
  show G (s₁.setTop (mkF m 23 #[.val (.long x), .second, .val (.long y), .second, .val (.long y4_1), .second, .val (.long y6_2), .second, .val (.long y8_3), .second, .unset, .unset, .unset, .unset, .unset, .unset, .unset, .unset, .unset, .unset] [(.long (4294967295 : Int64)), (.long y)]))
  refine hG _ _ (fun t k => XS.land X0.here hx rfl (hb hby own_d3_23) rfl k) ?_
  show G (s₁.setTop (mkF m 24 #[.val (.long x), .second, .val (.long y), .second, .val (.long y4_1), .second, .val (.long y6_2), .second, .val (.long y8_3), .second, .unset, .unset, .unset, .unset, .unset, .unset, .unset, .unset, .unset, .unset] [(.long (y &&& (4294967295 : Int64)))]))
  refine hG _ _ (fun t k => XS.lstore X0.here hx rfl (hb hby own_d3_24) rfl (l' := #[.val (.long x), .second, .val (.long y), .second, .val (.long y4_1), .second, .val (.long y6_2), .second, .val (.long y8_3), .second, .val (.long (y &&& (4294967295 : Int64))), .second, .unset, .unset, .unset, .unset, .unset, .unset, .unset, .unset]) rfl k) ?_
  show G (s₁.setTop (mkF m 26 #[.val (.long x), .second, .val (.long y), .second, .val (.long y4_1), .second, .val (.long y6_2), .second, .val (.long y8_3), .second, .val (.long (y &&& (4294967295 : Int64))), .second, .unset, .unset, .unset, .unset, .unset, .unset, .unset, .unset] []))
  generalize hn_y10_4 : (y &&& (4294967295 : Int64)) = y10_4
  refine hG _ _ (fun t k => XS.lload X0.here hx rfl (hb hby own_d3_26) rfl k) ?_
  show G (s₁.setTop (mkF m 28 #[.val (.long x), .second, .val (.long y), .second, .val (.long y4_1), .second, .val (.long y6_2), .second, .val (.long y8_3), .second, .val (.long y10_4), .second, .unset, .unset, .unset, .unset, .unset, .unset, .unset, .unset] [(.long y6_2)]))
  refine hG _ _ (fun t k => XS.lload X0.here hx rfl (hb hby own_d3_28) rfl k) ?_
  show G (s₁.setTop (mkF m 30 #[.val (.long x), .second, .val (.long y), .second, .val (.long y4_1), .second, .val (.long y6_2), .second, .val (.long y8_3), .second, .val (.long y10_4), .second, .unset, .unset, .unset, .unset, .unset, .unset, .unset, .unset] [(.long y10_4), (.long y6_2)]))
  refine hG _ _ (fun t k => XS.lmul X0.here hx rfl (hb hby own_d3_30) rfl k) ?_
  show G (s₁.setTop (mkF m 31 #[.val (.long x), .second, .val (.long y), .second, .val (.long y4_1), .second, .val (.long y6_2), .second, .val (.long y8_3), .second, .val (.long y10_4), .second, .unset, .unset, .unset, .unset, .unset, .unset, .unset, .unset] [(.long (y6_2 * y10_4))]))
  refine hG _ _ (fun t k => XS.lstore X0.here hx rfl (hb hby own_d3_31) rfl (l' := #[.val (.long x), .second, .val (.long y), .second, .val (.long y4_1), .second, .val (.long y6_2), .second, .val (.long y8_3), .second, .val (.long y10_4), .second, .val (.long (y6_2 * y10_4)), .second, .unset, .unset, .unset, .unset, .unset, .unset]) rfl k) ?_
  show G (s₁.setTop (mkF m 33 #[.val (.long x), .second, .val (.long y), .second, .val (.long y4_1), .second, .val (.long y6_2), .second, .val (.long y8_3), .second, .val (.long y10_4), .second, .val (.long (y6_2 * y10_4)), .second, .unset, .unset, .unset, .unset, .unset, .unset] []))
  generalize hn_y12_5 : (y6_2 * y10_4) = y12_5
  refine hG _ _ (fun t k => XS.lload X0.here hx rfl (hb hby own_d3_33) rfl k) ?_
  show G (s₁.setTop (mkF m 35 #[.val (.long x), .second, .val (.long y), .second, .val (.long y4_1), .second, .val (.long y6_2), .second, .val (.long y8_3), .second, .val (.long y10_4), .second, .val (.long y12_5), .second, .unset, .unset, .unset, .unset, .unset, .unset] [(.long y4_1)]))
  refine hG _ _ (fun t k => XS.lload X0.here hx rfl (hb hby own_d3_35) rfl k) ?_
  show G (s₁.setTop (mkF m 37 #[.val (.long x), .second, .val (.long y), .second, .val (.long y4_1), .second, .val (.long y6_2), .second, .val (.long y8_3), .second, .val (.long y10_4), .second, .val (.long y12_5), .second, .unset, .unset, .unset, .unset, .unset, .unset] [(.long y10_4), (.long y4_1)]))
  refine hG _ _ (fun t k => XS.lmul X0.here hx rfl (hb hby own_d3_37) rfl k) ?_
  show G (s₁.setTop (mkF m 38 #[.val (.long x), .second, .val (.long y), .second, .val (.long y4_1), .second, .val (.long y6_2), .second, .val (.long y8_3), .second, .val (.long y10_4), .second, .val (.long y12_5), .second, .unset, .unset, .unset, .unset, .unset, .unset] [(.long (y4_1 * y10_4))]))
  refine hG _ _ (fun t k => XS.lload X0.here hx rfl (hb hby own_d3_38) rfl k) ?_
  show G (s₁.setTop (mkF m 40 #[.val (.long x), .second, .val (.long y), .second, .val (.long y4_1), .second, .val (.long y6_2), .second, .val (.long y8_3), .second, .val (.long y10_4), .second, .val (.long y12_5), .second, .unset, .unset, .unset, .unset, .unset, .unset] [(.long y12_5), (.long (y4_1 * y10_4))]))
  refine hG _ _ (fun t k => XS.bipush X0.here hx rfl (hb hby own_d3_40) k) ?_
  show G (s₁.setTop (mkF m 42 #[.val (.long x), .second, .val (.long y), .second, .val (.long y4_1), .second, .val (.long y6_2), .second, .val (.long y8_3), .second, .val (.long y10_4), .second, .val (.long y12_5), .second, .unset, .unset, .unset, .unset, .unset, .unset] [(.int (32 : Int32)), (.long y12_5), (.long (y4_1 * y10_4))]))
  refine hG _ _ (fun t k => XS.lushr X0.here hx rfl (hb hby own_d3_42) rfl k) ?_
  show G (s₁.setTop (mkF m 43 #[.val (.long x), .second, .val (.long y), .second, .val (.long y4_1), .second, .val (.long y6_2), .second, .val (.long y8_3), .second, .val (.long y10_4), .second, .val (.long y12_5), .second, .unset, .unset, .unset, .unset, .unset, .unset] [(.long ((y12_5.toUInt64 >>> ((32 : Int32) &&& 0x3f).toInt64.toUInt64).toInt64)), (.long (y4_1 * y10_4))]))
  refine hG _ _ (fun t k => XS.ladd X0.here hx rfl (hb hby own_d3_43) rfl k) ?_
  show G (s₁.setTop (mkF m 44 #[.val (.long x), .second, .val (.long y), .second, .val (.long y4_1), .second, .val (.long y6_2), .second, .val (.long y8_3), .second, .val (.long y10_4), .second, .val (.long y12_5), .second, .unset, .unset, .unset, .unset, .unset, .unset] [(.long ((y4_1 * y10_4) + ((y12_5.toUInt64 >>> ((32 : Int32) &&& 0x3f).toInt64.toUInt64).toInt64)))]))
  refine hG _ _ (fun t k => XS.lstore X0.here hx rfl (hb hby own_d3_44) rfl (l' := #[.val (.long x), .second, .val (.long y), .second, .val (.long y4_1), .second, .val (.long y6_2), .second, .val (.long y8_3), .second, .val (.long y10_4), .second, .val (.long y12_5), .second, .val (.long ((y4_1 * y10_4) + ((y12_5.toUInt64 >>> ((32 : Int32) &&& 0x3f).toInt64.toUInt64).toInt64))), .second, .unset, .unset, .unset, .unset]) rfl k) ?_
  show G (s₁.setTop (mkF m 46 #[.val (.long x), .second, .val (.long y), .second, .val (.long y4_1), .second, .val (.long y6_2), .second, .val (.long y8_3), .second, .val (.long y10_4), .second, .val (.long y12_5), .second, .val (.long ((y4_1 * y10_4) + ((y12_5.toUInt64 >>> ((32 : Int32) &&& 0x3f).toInt64.toUInt64).toInt64))), .second, .unset, .unset, .unset, .unset] []))
  generalize hn_y14_6 : ((y4_1 * y10_4) + ((y12_5.toUInt64 >>> ((32 : Int32) &&& 0x3f).toInt64.toUInt64).toInt64)) = y14_6
  refine hG _ _ (fun t k => XS.lload X0.here hx rfl (hb hby own_d3_46) rfl k) ?_
  show G (s₁.setTop (mkF m 48 #[.val (.long x), .second, .val (.long y), .second, .val (.long y4_1), .second, .val (.long y6_2), .second, .val (.long y8_3), .second, .val (.long y10_4), .second, .val (.long y12_5), .second, .val (.long y14_6), .second, .unset, .unset, .unset, .unset] [(.long y14_6)]))
  refine hG _ _ (X0.ldc2Long hx hown (mvT hZ (hw _ (List.mem_of_getElem? (i := 12) rfl))) (g := (mkF m 48 #[.val (.long x), .second, .val (.long y), .second, .val (.long y4_1), .second, .val (.long y6_2), .second, .val (.long y8_3), .second, .val (.long y10_4), .second, .val (.long y12_5), .second, .val (.long y14_6), .second, .unset, .unset, .unset, .unset] [(.long y14_6)])) rfl (hb hby own_d3_48)) ?_
  show G (s₁.setTop (mkF m 51 #[.val (.long x), .second, .val (.long y), .second, .val (.long y4_1), .second, .val (.long y6_2), .second, .val (.long y8_3), .second, .val (.long y10_4), .second, .val (.long y12_5), .second, .val (.long y14_6), .second, .unset, .unset, .unset, .unset] [(.long (4294967295 : Int64)), (.long y14_6)]))
  refine hG _ _ (fun t k => XS.land X0.here hx rfl (hb hby own_d3_51) rfl k) ?_
  show G (s₁.setTop (mkF m 52 #[.val (.long x), .second, .val (.long y), .second, .val (.long y4_1), .second, .val (.long y6_2), .second, .val (.long y8_3), .second, .val (.long y10_4), .second, .val (.long y12_5), .second, .val (.long y14_6), .second, .unset, .unset, .unset, .unset] [(.long (y14_6 &&& (4294967295 : Int64)))]))
  refine hG _ _ (fun t k => XS.lstore X0.here hx rfl (hb hby own_d3_52) rfl (l' := #[.val (.long x), .second, .val (.long y), .second, .val (.long y4_1), .second, .val (.long y6_2), .second, .val (.long y8_3), .second, .val (.long y10_4), .second, .val (.long y12_5), .second, .val (.long y14_6), .second, .val (.long (y14_6 &&& (4294967295 : Int64))), .second, .unset, .unset]) rfl k) ?_
  show G (s₁.setTop (mkF m 54 #[.val (.long x), .second, .val (.long y), .second, .val (.long y4_1), .second, .val (.long y6_2), .second, .val (.long y8_3), .second, .val (.long y10_4), .second, .val (.long y12_5), .second, .val (.long y14_6), .second, .val (.long (y14_6 &&& (4294967295 : Int64))), .second, .unset, .unset] []))
  generalize hn_y16_7 : (y14_6 &&& (4294967295 : Int64)) = y16_7
  refine hG _ _ (fun t k => XS.lload X0.here hx rfl (hb hby own_d3_54) rfl k) ?_
  show G (s₁.setTop (mkF m 56 #[.val (.long x), .second, .val (.long y), .second, .val (.long y4_1), .second, .val (.long y6_2), .second, .val (.long y8_3), .second, .val (.long y10_4), .second, .val (.long y12_5), .second, .val (.long y14_6), .second, .val (.long y16_7), .second, .unset, .unset] [(.long y14_6)]))
  refine hG _ _ (fun t k => XS.bipush X0.here hx rfl (hb hby own_d3_56) k) ?_
  show G (s₁.setTop (mkF m 58 #[.val (.long x), .second, .val (.long y), .second, .val (.long y4_1), .second, .val (.long y6_2), .second, .val (.long y8_3), .second, .val (.long y10_4), .second, .val (.long y12_5), .second, .val (.long y14_6), .second, .val (.long y16_7), .second, .unset, .unset] [(.int (32 : Int32)), (.long y14_6)]))
  refine hG _ _ (fun t k => XS.lshr X0.here hx rfl (hb hby own_d3_58) rfl k) ?_
  show G (s₁.setTop (mkF m 59 #[.val (.long x), .second, .val (.long y), .second, .val (.long y4_1), .second, .val (.long y6_2), .second, .val (.long y8_3), .second, .val (.long y10_4), .second, .val (.long y12_5), .second, .val (.long y14_6), .second, .val (.long y16_7), .second, .unset, .unset] [(.long (y14_6 >>> ((32 : Int32) &&& 0x3f).toInt64))]))
  refine hG _ _ (fun t k => XS.lstore X0.here hx rfl (hb hby own_d3_59) rfl (l' := #[.val (.long x), .second, .val (.long y), .second, .val (.long y4_1), .second, .val (.long y6_2), .second, .val (.long y8_3), .second, .val (.long y10_4), .second, .val (.long y12_5), .second, .val (.long y14_6), .second, .val (.long y16_7), .second, .val (.long (y14_6 >>> ((32 : Int32) &&& 0x3f).toInt64)), .second]) rfl k) ?_
  show G (s₁.setTop (mkF m 61 #[.val (.long x), .second, .val (.long y), .second, .val (.long y4_1), .second, .val (.long y6_2), .second, .val (.long y8_3), .second, .val (.long y10_4), .second, .val (.long y12_5), .second, .val (.long y14_6), .second, .val (.long y16_7), .second, .val (.long (y14_6 >>> ((32 : Int32) &&& 0x3f).toInt64)), .second] []))
  generalize hn_y18_8 : (y14_6 >>> ((32 : Int32) &&& 0x3f).toInt64) = y18_8
  refine hG _ _ (fun t k => XS.lload X0.here hx rfl (hb hby own_d3_61) rfl k) ?_
  show G (s₁.setTop (mkF m 63 #[.val (.long x), .second, .val (.long y), .second, .val (.long y4_1), .second, .val (.long y6_2), .second, .val (.long y8_3), .second, .val (.long y10_4), .second, .val (.long y12_5), .second, .val (.long y14_6), .second, .val (.long y16_7), .second, .val (.long y18_8), .second] [(.long y16_7)]))
  refine hG _ _ (fun t k => XS.lload X0.here hx rfl (hb hby own_d3_63) rfl k) ?_
  show G (s₁.setTop (mkF m 65 #[.val (.long x), .second, .val (.long y), .second, .val (.long y4_1), .second, .val (.long y6_2), .second, .val (.long y8_3), .second, .val (.long y10_4), .second, .val (.long y12_5), .second, .val (.long y14_6), .second, .val (.long y16_7), .second, .val (.long y18_8), .second] [(.long y6_2), (.long y16_7)]))
  refine hG _ _ (fun t k => XS.lload X0.here hx rfl (hb hby own_d3_65) rfl k) ?_
  show G (s₁.setTop (mkF m 67 #[.val (.long x), .second, .val (.long y), .second, .val (.long y4_1), .second, .val (.long y6_2), .second, .val (.long y8_3), .second, .val (.long y10_4), .second, .val (.long y12_5), .second, .val (.long y14_6), .second, .val (.long y16_7), .second, .val (.long y18_8), .second] [(.long y8_3), (.long y6_2), (.long y16_7)]))
  refine hG _ _ (fun t k => XS.lmul X0.here hx rfl (hb hby own_d3_67) rfl k) ?_
  show G (s₁.setTop (mkF m 68 #[.val (.long x), .second, .val (.long y), .second, .val (.long y4_1), .second, .val (.long y6_2), .second, .val (.long y8_3), .second, .val (.long y10_4), .second, .val (.long y12_5), .second, .val (.long y14_6), .second, .val (.long y16_7), .second, .val (.long y18_8), .second] [(.long (y6_2 * y8_3)), (.long y16_7)]))
  refine hG _ _ (fun t k => XS.ladd X0.here hx rfl (hb hby own_d3_68) rfl k) ?_
  show G (s₁.setTop (mkF m 69 #[.val (.long x), .second, .val (.long y), .second, .val (.long y4_1), .second, .val (.long y6_2), .second, .val (.long y8_3), .second, .val (.long y10_4), .second, .val (.long y12_5), .second, .val (.long y14_6), .second, .val (.long y16_7), .second, .val (.long y18_8), .second] [(.long (y16_7 + (y6_2 * y8_3)))]))
  refine hG _ _ (fun t k => XS.lstore X0.here hx rfl (hb hby own_d3_69) rfl (l' := #[.val (.long x), .second, .val (.long y), .second, .val (.long y4_1), .second, .val (.long y6_2), .second, .val (.long y8_3), .second, .val (.long y10_4), .second, .val (.long y12_5), .second, .val (.long y14_6), .second, .val (.long (y16_7 + (y6_2 * y8_3))), .second, .val (.long y18_8), .second]) rfl k) ?_
  show G (s₁.setTop (mkF m 71 #[.val (.long x), .second, .val (.long y), .second, .val (.long y4_1), .second, .val (.long y6_2), .second, .val (.long y8_3), .second, .val (.long y10_4), .second, .val (.long y12_5), .second, .val (.long y14_6), .second, .val (.long (y16_7 + (y6_2 * y8_3))), .second, .val (.long y18_8), .second] []))
  generalize hn_y16_9 : (y16_7 + (y6_2 * y8_3)) = y16_9
  refine hG _ _ (fun t k => XS.lload X0.here hx rfl (hb hby own_d3_71) rfl k) ?_
  show G (s₁.setTop (mkF m 73 #[.val (.long x), .second, .val (.long y), .second, .val (.long y4_1), .second, .val (.long y6_2), .second, .val (.long y8_3), .second, .val (.long y10_4), .second, .val (.long y12_5), .second, .val (.long y14_6), .second, .val (.long y16_9), .second, .val (.long y18_8), .second] [(.long y4_1)]))
  refine hG _ _ (fun t k => XS.lload X0.here hx rfl (hb hby own_d3_73) rfl k) ?_
  show G (s₁.setTop (mkF m 75 #[.val (.long x), .second, .val (.long y), .second, .val (.long y4_1), .second, .val (.long y6_2), .second, .val (.long y8_3), .second, .val (.long y10_4), .second, .val (.long y12_5), .second, .val (.long y14_6), .second, .val (.long y16_9), .second, .val (.long y18_8), .second] [(.long y8_3), (.long y4_1)]))
  refine hG _ _ (fun t k => XS.lmul X0.here hx rfl (hb hby own_d3_75) rfl k) ?_
  show G (s₁.setTop (mkF m 76 #[.val (.long x), .second, .val (.long y), .second, .val (.long y4_1), .second, .val (.long y6_2), .second, .val (.long y8_3), .second, .val (.long y10_4), .second, .val (.long y12_5), .second, .val (.long y14_6), .second, .val (.long y16_9), .second, .val (.long y18_8), .second] [(.long (y4_1 * y8_3))]))
  refine hG _ _ (fun t k => XS.lload X0.here hx rfl (hb hby own_d3_76) rfl k) ?_
  show G (s₁.setTop (mkF m 78 #[.val (.long x), .second, .val (.long y), .second, .val (.long y4_1), .second, .val (.long y6_2), .second, .val (.long y8_3), .second, .val (.long y10_4), .second, .val (.long y12_5), .second, .val (.long y14_6), .second, .val (.long y16_9), .second, .val (.long y18_8), .second] [(.long y18_8), (.long (y4_1 * y8_3))]))
  refine hG _ _ (fun t k => XS.ladd X0.here hx rfl (hb hby own_d3_78) rfl k) ?_
  show G (s₁.setTop (mkF m 79 #[.val (.long x), .second, .val (.long y), .second, .val (.long y4_1), .second, .val (.long y6_2), .second, .val (.long y8_3), .second, .val (.long y10_4), .second, .val (.long y12_5), .second, .val (.long y14_6), .second, .val (.long y16_9), .second, .val (.long y18_8), .second] [(.long ((y4_1 * y8_3) + y18_8))]))
  refine hG _ _ (fun t k => XS.lload X0.here hx rfl (hb hby own_d3_79) rfl k) ?_
  show G (s₁.setTop (mkF m 81 #[.val (.long x), .second, .val (.long y), .second, .val (.long y4_1), .second, .val (.long y6_2), .second, .val (.long y8_3), .second, .val (.long y10_4), .second, .val (.long y12_5), .second, .val (.long y14_6), .second, .val (.long y16_9), .second, .val (.long y18_8), .second] [(.long y16_9), (.long ((y4_1 * y8_3) + y18_8))]))
  refine hG _ _ (fun t k => XS.bipush X0.here hx rfl (hb hby own_d3_81) k) ?_
  show G (s₁.setTop (mkF m 83 #[.val (.long x), .second, .val (.long y), .second, .val (.long y4_1), .second, .val (.long y6_2), .second, .val (.long y8_3), .second, .val (.long y10_4), .second, .val (.long y12_5), .second, .val (.long y14_6), .second, .val (.long y16_9), .second, .val (.long y18_8), .second] [(.int (32 : Int32)), (.long y16_9), (.long ((y4_1 * y8_3) + y18_8))]))
  refine hG _ _ (fun t k => XS.lshr X0.here hx rfl (hb hby own_d3_83) rfl k) ?_
  show G (s₁.setTop (mkF m 84 #[.val (.long x), .second, .val (.long y), .second, .val (.long y4_1), .second, .val (.long y6_2), .second, .val (.long y8_3), .second, .val (.long y10_4), .second, .val (.long y12_5), .second, .val (.long y14_6), .second, .val (.long y16_9), .second, .val (.long y18_8), .second] [(.long (y16_9 >>> ((32 : Int32) &&& 0x3f).toInt64)), (.long ((y4_1 * y8_3) + y18_8))]))
  refine hG _ _ (fun t k => XS.ladd X0.here hx rfl (hb hby own_d3_84) rfl k) ?_
  show G (s₁.setTop (mkF m 85 #[.val (.long x), .second, .val (.long y), .second, .val (.long y4_1), .second, .val (.long y6_2), .second, .val (.long y8_3), .second, .val (.long y10_4), .second, .val (.long y12_5), .second, .val (.long y14_6), .second, .val (.long y16_9), .second, .val (.long y18_8), .second] [(.long (((y4_1 * y8_3) + y18_8) + (y16_9 >>> ((32 : Int32) &&& 0x3f).toInt64)))]))
  exact own_retL hR hret X0 hx (hb hby own_d3_85) (by decide) (by decide) (by rw [e0]; exact ⟨(((y4_1 * y8_3) + y18_8) + (y16_9 >>> ((32 : Int32) &&& 0x3f).toInt64)), rfl, N0, rfl, (own_hiA g0_hx g1_hy hn_y4_1 hn_y6_2 hn_y8_3 hn_y10_4 hn_y12_5 hn_y14_6 hn_y16_7 hn_y18_8 hn_y16_9 rfl)⟩)
theorem own_pd2 : parseMethodDescriptor "(JJJ)J" = some ⟨[.long, .long, .long], some .long⟩ := by decide +kernel
set_option maxRecDepth 65536 in
set_option maxHeartbeats 40000000 in
theorem own_divide (l : Launch) (Z : State) (a0 : Array Value) (hw : ∀ d ∈ tables_1, d.before a0 Z = true) (hi : Int64) (lo : Int64) (d : Int64) (h0 : Heap) (O0 : own_Old Z h0) (g0_h1 : 0 ≤ hi.toInt) (g1_h2 : hi.toInt < d.toInt) :
    own_Con l Z (⟨"com/example/danaid/danaid/MulDiv", "divide", "(JJJ)J"⟩ : MethodName) prog_7_method_6_code 11 (some .long) [] ({ frames := 2, cells := 0, slots := 0, locals := 30 } : Room) #[(.long hi), (.long lo), (.long d)] h0 (fun rv rh rL => ∃ (r : Int64) (R : Int), rv = some (.long r) ∧ own_Fr Z rL ∧ h0 = rh ∧ (hi.toInt * 18446744073709551616 + own_U lo = own_U r * d.toInt + R ∧ 0 ≤ R ∧ R < d.toInt)) := by
  refine own_intro (plainFor_of_name (by first | (simp [plainName, overriddenIn]; done) | decide +kernel)) ?_
  intro p e s m below meth c s₁ G hx hby hml hown hnm hret hZ X0 e0 hG hR
  have N0 := Fr.nil Z.heap.size
  refine own_entry (Ls := #[.val (.long hi), .second, .val (.long lo), .second, .val (.long d), .second, .unset, .unset, .unset, .unset, .unset]) (by first | (simp [entryFrame, mkF, argsToLocals, Value.category]; done) | rfl) ?_
  show G (s₁.setTop (mkF m 0 #[.val (.long hi), .second, .val (.long lo), .second, .val (.long d), .second, .unset, .unset, .unset, .unset, .unset] []))
  refine hG _ _ (fun t k => XS.lloadN X0.here hx rfl (hb hby own_d10_0) rfl k) ?_
  show G (s₁.setTop (mkF m 1 #[.val (.long hi), .second, .val (.long lo), .second, .val (.long d), .second, .unset, .unset, .unset, .unset, .unset] [(.long hi)]))
  refine hG _ _ (fun t k => XS.lstore X0.here hx rfl (hb hby own_d10_1) rfl (l' := #[.val (.long hi), .second, .val (.long lo), .second, .val (.long d), .second, .val (.long hi), .second, .unset, .unset, .unset]) rfl k) ?_
  show G (s₁.setTop (mkF m 3 #[.val (.long hi), .second, .val (.long lo), .second, .val (.long d), .second, .val (.long hi), .second, .unset, .unset, .unset] []))
  refine hG _ _ (fun t k => XS.lconst X0.here hx rfl (hb hby own_d10_3) k) ?_
  show G (s₁.setTop (mkF m 4 #[.val (.long hi), .second, .val (.long lo), .second, .val (.long d), .second, .val (.long hi), .second, .unset, .unset, .unset] [(.long (0 : Int64))]))
  refine hG _ _ (fun t k => XS.lstore X0.here hx rfl (hb hby own_d10_4) rfl (l' := #[.val (.long hi), .second, .val (.long lo), .second, .val (.long d), .second, .val (.long hi), .second, .val (.long (0 : Int64)), .second, .unset]) rfl k) ?_
  show G (s₁.setTop (mkF m 6 #[.val (.long hi), .second, .val (.long lo), .second, .val (.long d), .second, .val (.long hi), .second, .val (.long (0 : Int64)), .second, .unset] []))
  refine hG _ _ (fun t k => XS.bipush X0.here hx rfl (hb hby own_d10_6) k) ?_
  show G (s₁.setTop (mkF m 8 #[.val (.long hi), .second, .val (.long lo), .second, .val (.long d), .second, .val (.long hi), .second, .val (.long (0 : Int64)), .second, .unset] [(.int (63 : Int32))]))
  refine hG _ _ (fun t k => XS.istore X0.here hx rfl (hb hby own_d10_8) rfl (l' := #[.val (.long hi), .second, .val (.long lo), .second, .val (.long d), .second, .val (.long hi), .second, .val (.long (0 : Int64)), .second, .val (.int (63 : Int32))]) rfl k) ?_
  show G (s₁.setTop (mkF m 10 #[.val (.long hi), .second, .val (.long lo), .second, .val (.long d), .second, .val (.long hi), .second, .val (.long (0 : Int64)), .second, .val (.int (63 : Int32))] []))
  have hX0 : 0 ≤ (hi.toInt * 18446744073709551616 + own_U lo) := by have := own_U_rng lo; omega
  have hX1 : (hi.toInt * 18446744073709551616 + own_U lo) < d.toInt * 18446744073709551616 := by have := own_U_rng lo; omega
  have loop : ∀ (k : Nat) (rr qq : Int64) (bt : Int32) (T : State) (locs : List Loc), own_Fr Z locs → k ≤ 64 → bt.toInt = (k : Int) - 1 → own_inv (hi.toInt * 18446744073709551616 + own_U lo) d.toInt rr.toInt (own_U qq) k → Stand p l e ({ frames := 2, cells := 0, slots := 0, locals := 30 } : Room) s m #[(.long hi), (.long lo), (.long d)] below meth c T locs 0 0 → T.heap = h0 → G (T.setTop (mkF m 10 #[.val (.long hi), .second, .val (.long lo), .second, .val (.long d), .second, .val (.long rr), .second, .val (.long qq), .second, .val (.int bt)] [])) := by
    intro k
    induction k with
    | zero =>
      intro rr qq bt T locs N hk hbt hinv X eT
      refine hG _ _ (fun t k => XS.iload X.here hx rfl (hb hby own_d10_10) rfl k) ?_
      show G (T.setTop (mkF m 12 #[.val (.long hi), .second, .val (.long lo), .second, .val (.long d), .second, .val (.long rr), .second, .val (.long qq), .second, .val (.int bt)] [(.int bt)]))
      refine hG _ _ (fun t k => XS.ifYes X.here hx rfl (pc0 := 12) (pc' := 63) rfl (hb hby own_d10_12) rfl ((if0 _ _).trans (tlt (by rw [Int32.lt_iff_toInt_lt]; show bt.toInt < 0; omega)).1) (by decide) (by decide) k) ?_
      show G (T.setTop (mkF m 63 #[.val (.long hi), .second, .val (.long lo), .second, .val (.long d), .second, .val (.long rr), .second, .val (.long qq), .second, .val (.int bt)] []))
      refine hG _ _ (fun t k => XS.lload X.here hx rfl (hb hby own_d10_63) rfl k) ?_
      show G (T.setTop (mkF m 65 #[.val (.long hi), .second, .val (.long lo), .second, .val (.long d), .second, .val (.long rr), .second, .val (.long qq), .second, .val (.int bt)] [(.long qq)]))
      exact own_retL hR hret X hx (hb hby own_d10_65) (by decide) (by decide) (by rw [eT]; exact ⟨qq, rr.toInt, rfl, N, rfl, (by have q := hinv.1; simp at q; exact ⟨q, hinv.2⟩)⟩)
    | succ k ih =>
      intro rr qq bt T locs N hk hbt hinv X eT
      have hq : bt.toInt = (k : Int) := by omega
      have hstep := own_stepL (low := lo) (d := d) hq (by omega) rfl hX1 hX0 hinv
      have hbt2 := own_dec hq (by omega)
      refine hG _ _ (fun t k => XS.iload X.here hx rfl (hb hby own_d10_10) rfl k) ?_
      show G (T.setTop (mkF m 12 #[.val (.long hi), .second, .val (.long lo), .second, .val (.long d), .second, .val (.long rr), .second, .val (.long qq), .second, .val (.int bt)] [(.int bt)]))
      refine hG _ _ (fun t k => XS.ifNo X.here hx rfl (hb hby own_d10_12) rfl ((if0 _ _).trans (flt (by rw [Int32.lt_iff_toInt_lt]; show ¬ bt.toInt < 0; omega)).1) k) ?_
      show G (T.setTop (mkF m 15 #[.val (.long hi), .second, .val (.long lo), .second, .val (.long d), .second, .val (.long rr), .second, .val (.long qq), .second, .val (.int bt)] []))
      refine hG _ _ (fun t k => XS.lload X.here hx rfl (hb hby own_d10_15) rfl k) ?_
      show G (T.setTop (mkF m 17 #[.val (.long hi), .second, .val (.long lo), .second, .val (.long d), .second, .val (.long rr), .second, .val (.long qq), .second, .val (.int bt)] [(.long rr)]))
      refine hG _ _ (fun t k => XS.iconst X.here hx rfl (hb hby own_d10_17) k) ?_
      show G (T.setTop (mkF m 18 #[.val (.long hi), .second, .val (.long lo), .second, .val (.long d), .second, .val (.long rr), .second, .val (.long qq), .second, .val (.int bt)] [(.int (1 : Int32)), (.long rr)]))
      refine hG _ _ (fun t k => XS.lshl X.here hx rfl (hb hby own_d10_18) rfl k) ?_
      show G (T.setTop (mkF m 19 #[.val (.long hi), .second, .val (.long lo), .second, .val (.long d), .second, .val (.long rr), .second, .val (.long qq), .second, .val (.int bt)] [(.long (rr <<< ((1 : Int32) &&& 0x3f).toInt64))]))
      refine hG _ _ (fun t k => XS.lloadN X.here hx rfl (hb hby own_d10_19) rfl k) ?_
      show G (T.setTop (mkF m 20 #[.val (.long hi), .second, .val (.long lo), .second, .val (.long d), .second, .val (.long rr), .second, .val (.long qq), .second, .val (.int bt)] [(.long lo), (.long (rr <<< ((1 : Int32) &&& 0x3f).toInt64))]))
      refine hG _ _ (fun t k => XS.iload X.here hx rfl (hb hby own_d10_20) rfl k) ?_
      show G (T.setTop (mkF m 22 #[.val (.long hi), .second, .val (.long lo), .second, .val (.long d), .second, .val (.long rr), .second, .val (.long qq), .second, .val (.int bt)] [(.int bt), (.long lo), (.long (rr <<< ((1 : Int32) &&& 0x3f).toInt64))]))
      refine hG _ _ (fun t k => XS.lushr X.here hx rfl (hb hby own_d10_22) rfl k) ?_
      show G (T.setTop (mkF m 23 #[.val (.long hi), .second, .val (.long lo), .second, .val (.long d), .second, .val (.long rr), .second, .val (.long qq), .second, .val (.int bt)] [(.long ((lo.toUInt64 >>> (bt &&& 0x3f).toInt64.toUInt64).toInt64)), (.long (rr <<< ((1 : Int32) &&& 0x3f).toInt64))]))
      refine hG _ _ (fun t k => XS.lconst X.here hx rfl (hb hby own_d10_23) k) ?_
      show G (T.setTop (mkF m 24 #[.val (.long hi), .second, .val (.long lo), .second, .val (.long d), .second, .val (.long rr), .second, .val (.long qq), .second, .val (.int bt)] [(.long (1 : Int64)), (.long ((lo.toUInt64 >>> (bt &&& 0x3f).toInt64.toUInt64).toInt64)), (.long (rr <<< ((1 : Int32) &&& 0x3f).toInt64))]))
      refine hG _ _ (fun t k => XS.land X.here hx rfl (hb hby own_d10_24) rfl k) ?_
      show G (T.setTop (mkF m 25 #[.val (.long hi), .second, .val (.long lo), .second, .val (.long d), .second, .val (.long rr), .second, .val (.long qq), .second, .val (.int bt)] [(.long (((lo.toUInt64 >>> (bt &&& 0x3f).toInt64.toUInt64).toInt64) &&& (1 : Int64))), (.long (rr <<< ((1 : Int32) &&& 0x3f).toInt64))]))
      refine hG _ _ (fun t k => XS.lor X.here hx rfl (hb hby own_d10_25) rfl k) ?_
      show G (T.setTop (mkF m 26 #[.val (.long hi), .second, .val (.long lo), .second, .val (.long d), .second, .val (.long rr), .second, .val (.long qq), .second, .val (.int bt)] [(.long ((rr <<< ((1 : Int32) &&& 0x3f).toInt64) ||| (((lo.toUInt64 >>> (bt &&& 0x3f).toInt64.toUInt64).toInt64) &&& (1 : Int64))))]))
      refine hG _ _ (fun t k => XS.lstore X.here hx rfl (hb hby own_d10_26) rfl (l' := #[.val (.long hi), .second, .val (.long lo), .second, .val (.long d), .second, .val (.long ((rr <<< ((1 : Int32) &&& 0x3f).toInt64) ||| (((lo.toUInt64 >>> (bt &&& 0x3f).toInt64.toUInt64).toInt64) &&& (1 : Int64)))), .second, .val (.long qq), .second, .val (.int bt)]) rfl k) ?_
      show G (T.setTop (mkF m 28 #[.val (.long hi), .second, .val (.long lo), .second, .val (.long d), .second, .val (.long ((rr <<< ((1 : Int32) &&& 0x3f).toInt64) ||| (((lo.toUInt64 >>> (bt &&& 0x3f).toInt64.toUInt64).toInt64) &&& (1 : Int64)))), .second, .val (.long qq), .second, .val (.int bt)] []))
      refine hG _ _ (fun t k => XS.lload X.here hx rfl (hb hby own_d10_28) rfl k) ?_
      show G (T.setTop (mkF m 30 #[.val (.long hi), .second, .val (.long lo), .second, .val (.long d), .second, .val (.long ((rr <<< ((1 : Int32) &&& 0x3f).toInt64) ||| (((lo.toUInt64 >>> (bt &&& 0x3f).toInt64.toUInt64).toInt64) &&& (1 : Int64)))), .second, .val (.long qq), .second, .val (.int bt)] [(.long qq)]))
      refine hG _ _ (fun t k => XS.iconst X.here hx rfl (hb hby own_d10_30) k) ?_
      show G (T.setTop (mkF m 31 #[.val (.long hi), .second, .val (.long lo), .second, .val (.long d), .second, .val (.long ((rr <<< ((1 : Int32) &&& 0x3f).toInt64) ||| (((lo.toUInt64 >>> (bt &&& 0x3f).toInt64.toUInt64).toInt64) &&& (1 : Int64)))), .second, .val (.long qq), .second, .val (.int bt)] [(.int (1 : Int32)), (.long qq)]))
      refine hG _ _ (fun t k => XS.lshl X.here hx rfl (hb hby own_d10_31) rfl k) ?_
      show G (T.setTop (mkF m 32 #[.val (.long hi), .second, .val (.long lo), .second, .val (.long d), .second, .val (.long ((rr <<< ((1 : Int32) &&& 0x3f).toInt64) ||| (((lo.toUInt64 >>> (bt &&& 0x3f).toInt64.toUInt64).toInt64) &&& (1 : Int64)))), .second, .val (.long qq), .second, .val (.int bt)] [(.long (qq <<< ((1 : Int32) &&& 0x3f).toInt64))]))
      refine hG _ _ (fun t k => XS.lstore X.here hx rfl (hb hby own_d10_32) rfl (l' := #[.val (.long hi), .second, .val (.long lo), .second, .val (.long d), .second, .val (.long ((rr <<< ((1 : Int32) &&& 0x3f).toInt64) ||| (((lo.toUInt64 >>> (bt &&& 0x3f).toInt64.toUInt64).toInt64) &&& (1 : Int64)))), .second, .val (.long (qq <<< ((1 : Int32) &&& 0x3f).toInt64)), .second, .val (.int bt)]) rfl k) ?_
      show G (T.setTop (mkF m 34 #[.val (.long hi), .second, .val (.long lo), .second, .val (.long d), .second, .val (.long ((rr <<< ((1 : Int32) &&& 0x3f).toInt64) ||| (((lo.toUInt64 >>> (bt &&& 0x3f).toInt64.toUInt64).toInt64) &&& (1 : Int64)))), .second, .val (.long (qq <<< ((1 : Int32) &&& 0x3f).toInt64)), .second, .val (.int bt)] []))
      refine hG _ _ (fun t k => XS.lload X.here hx rfl (hb hby own_d10_34) rfl k) ?_
      show G (T.setTop (mkF m 36 #[.val (.long hi), .second, .val (.long lo), .second, .val (.long d), .second, .val (.long ((rr <<< ((1 : Int32) &&& 0x3f).toInt64) ||| (((lo.toUInt64 >>> (bt &&& 0x3f).toInt64.toUInt64).toInt64) &&& (1 : Int64)))), .second, .val (.long (qq <<< ((1 : Int32) &&& 0x3f).toInt64)), .second, .val (.int bt)] [(.long ((rr <<< ((1 : Int32) &&& 0x3f).toInt64) ||| (((lo.toUInt64 >>> (bt &&& 0x3f).toInt64.toUInt64).toInt64) &&& (1 : Int64))))]))
      refine hG _ _ (fun t k => XS.lload X.here hx rfl (hb hby own_d10_36) rfl k) ?_
      show G (T.setTop (mkF m 38 #[.val (.long hi), .second, .val (.long lo), .second, .val (.long d), .second, .val (.long ((rr <<< ((1 : Int32) &&& 0x3f).toInt64) ||| (((lo.toUInt64 >>> (bt &&& 0x3f).toInt64.toUInt64).toInt64) &&& (1 : Int64)))), .second, .val (.long (qq <<< ((1 : Int32) &&& 0x3f).toInt64)), .second, .val (.int bt)] [(.long d), (.long ((rr <<< ((1 : Int32) &&& 0x3f).toInt64) ||| (((lo.toUInt64 >>> (bt &&& 0x3f).toInt64.toUInt64).toInt64) &&& (1 : Int64))))]))
      refine own_callS X hx hZ hG hown (hw _ (List.mem_of_getElem? (i := 13) rfl)) (hw _ (List.mem_of_getElem? (i := 14) rfl)) (hw _ (List.mem_of_getElem? (i := 15) rfl)) (hw _ (List.mem_of_getElem? (i := 16) rfl)) (by decide) 0 (own_cmpU l Z a0 hw ((rr <<< ((1 : Int32) &&& 0x3f).toInt64) ||| (((lo.toUInt64 >>> (bt &&& 0x3f).toInt64.toUInt64).toInt64) &&& (1 : Int64))) d h0 O0) (by decide) (by decide) eT (by rw [hml]; rfl) (lenOf own_pd0 rfl) (argsL := [(.long ((rr <<< ((1 : Int32) &&& 0x3f).toInt64) ||| (((lo.toUInt64 >>> (bt &&& 0x3f).toInt64.toUInt64).toInt64) &&& (1 : Int64)))), (.long d)]) (rest := []) rfl rfl (Nat.le_of_eq rfl) (hb hby own_d10_38) (by decide) (by decide) ?_
      intro T1 h1 v1 L1 X1 e1 q1
      obtain ⟨r_1, rfl, M1, rfl, r1_0⟩ := q1
      have N1 := Fr.app N M1
      show G (T1.setTop (mkF m 41 #[.val (.long hi), .second, .val (.long lo), .second, .val (.long d), .second, .val (.long ((rr <<< ((1 : Int32) &&& 0x3f).toInt64) ||| (((lo.toUInt64 >>> (bt &&& 0x3f).toInt64.toUInt64).toInt64) &&& (1 : Int64)))), .second, .val (.long (qq <<< ((1 : Int32) &&& 0x3f).toInt64)), .second, .val (.int bt)] [(.int r_1)]))
      by_cases hc41_2 : r_1 < (0 : Int32)
      · skip
        refine hG _ _ (fun t k => XS.ifYes X1.here hx rfl (pc0 := 41) (pc' := 57) rfl (hb hby own_d10_41) rfl ((if0 _ _).trans (tlt hc41_2).1) (by decide) (by decide) k) ?_
        show G (T1.setTop (mkF m 57 #[.val (.long hi), .second, .val (.long lo), .second, .val (.long d), .second, .val (.long ((rr <<< ((1 : Int32) &&& 0x3f).toInt64) ||| (((lo.toUInt64 >>> (bt &&& 0x3f).toInt64.toUInt64).toInt64) &&& (1 : Int64)))), .second, .val (.long (qq <<< ((1 : Int32) &&& 0x3f).toInt64)), .second, .val (.int bt)] []))
        refine hG _ _ (fun t k => XS.iinc X1.here hx rfl (hb hby own_d10_57) rfl (l' := #[.val (.long hi), .second, .val (.long lo), .second, .val (.long d), .second, .val (.long ((rr <<< ((1 : Int32) &&& 0x3f).toInt64) ||| (((lo.toUInt64 >>> (bt &&& 0x3f).toInt64.toUInt64).toInt64) &&& (1 : Int64)))), .second, .val (.long (qq <<< ((1 : Int32) &&& 0x3f).toInt64)), .second, .val (.int (bt + (-1 : Int32)))]) rfl k) ?_
        show G (T1.setTop (mkF m 60 #[.val (.long hi), .second, .val (.long lo), .second, .val (.long d), .second, .val (.long ((rr <<< ((1 : Int32) &&& 0x3f).toInt64) ||| (((lo.toUInt64 >>> (bt &&& 0x3f).toInt64.toUInt64).toInt64) &&& (1 : Int64)))), .second, .val (.long (qq <<< ((1 : Int32) &&& 0x3f).toInt64)), .second, .val (.int (bt + (-1 : Int32)))] []))
        refine hG _ _ (fun t k => XS.goto X1.here hx rfl (pc0 := 60) (pc' := 10) rfl (hb hby own_d10_60) (by decide) (by decide) k) ?_
        show G (T1.setTop (mkF m 10 #[.val (.long hi), .second, .val (.long lo), .second, .val (.long d), .second, .val (.long ((rr <<< ((1 : Int32) &&& 0x3f).toInt64) ||| (((lo.toUInt64 >>> (bt &&& 0x3f).toInt64.toUInt64).toInt64) &&& (1 : Int64)))), .second, .val (.long (qq <<< ((1 : Int32) &&& 0x3f).toInt64)), .second, .val (.int (bt + (-1 : Int32)))] []))
        exact ih _ _ _ _ _ N1 (by omega) hbt2 (hstep.2 (r1_0.mp hc41_2)) X1 e1
      · skip
        refine hG _ _ (fun t k => XS.ifNo X1.here hx rfl (hb hby own_d10_41) rfl ((if0 _ _).trans (flt hc41_2).1) k) ?_
        show G (T1.setTop (mkF m 44 #[.val (.long hi), .second, .val (.long lo), .second, .val (.long d), .second, .val (.long ((rr <<< ((1 : Int32) &&& 0x3f).toInt64) ||| (((lo.toUInt64 >>> (bt &&& 0x3f).toInt64.toUInt64).toInt64) &&& (1 : Int64)))), .second, .val (.long (qq <<< ((1 : Int32) &&& 0x3f).toInt64)), .second, .val (.int bt)] []))
        refine hG _ _ (fun t k => XS.lload X1.here hx rfl (hb hby own_d10_44) rfl k) ?_
        show G (T1.setTop (mkF m 46 #[.val (.long hi), .second, .val (.long lo), .second, .val (.long d), .second, .val (.long ((rr <<< ((1 : Int32) &&& 0x3f).toInt64) ||| (((lo.toUInt64 >>> (bt &&& 0x3f).toInt64.toUInt64).toInt64) &&& (1 : Int64)))), .second, .val (.long (qq <<< ((1 : Int32) &&& 0x3f).toInt64)), .second, .val (.int bt)] [(.long ((rr <<< ((1 : Int32) &&& 0x3f).toInt64) ||| (((lo.toUInt64 >>> (bt &&& 0x3f).toInt64.toUInt64).toInt64) &&& (1 : Int64))))]))
        refine hG _ _ (fun t k => XS.lload X1.here hx rfl (hb hby own_d10_46) rfl k) ?_
        show G (T1.setTop (mkF m 48 #[.val (.long hi), .second, .val (.long lo), .second, .val (.long d), .second, .val (.long ((rr <<< ((1 : Int32) &&& 0x3f).toInt64) ||| (((lo.toUInt64 >>> (bt &&& 0x3f).toInt64.toUInt64).toInt64) &&& (1 : Int64)))), .second, .val (.long (qq <<< ((1 : Int32) &&& 0x3f).toInt64)), .second, .val (.int bt)] [(.long d), (.long ((rr <<< ((1 : Int32) &&& 0x3f).toInt64) ||| (((lo.toUInt64 >>> (bt &&& 0x3f).toInt64.toUInt64).toInt64) &&& (1 : Int64))))]))
        refine hG _ _ (fun t k => XS.lsub X1.here hx rfl (hb hby own_d10_48) rfl k) ?_
        show G (T1.setTop (mkF m 49 #[.val (.long hi), .second, .val (.long lo), .second, .val (.long d), .second, .val (.long ((rr <<< ((1 : Int32) &&& 0x3f).toInt64) ||| (((lo.toUInt64 >>> (bt &&& 0x3f).toInt64.toUInt64).toInt64) &&& (1 : Int64)))), .second, .val (.long (qq <<< ((1 : Int32) &&& 0x3f).toInt64)), .second, .val (.int bt)] [(.long (((rr <<< ((1 : Int32) &&& 0x3f).toInt64) ||| (((lo.toUInt64 >>> (bt &&& 0x3f).toInt64.toUInt64).toInt64) &&& (1 : Int64))) - d))]))
        refine hG _ _ (fun t k => XS.lstore X1.here hx rfl (hb hby own_d10_49) rfl (l' := #[.val (.long hi), .second, .val (.long lo), .second, .val (.long d), .second, .val (.long (((rr <<< ((1 : Int32) &&& 0x3f).toInt64) ||| (((lo.toUInt64 >>> (bt &&& 0x3f).toInt64.toUInt64).toInt64) &&& (1 : Int64))) - d)), .second, .val (.long (qq <<< ((1 : Int32) &&& 0x3f).toInt64)), .second, .val (.int bt)]) rfl k) ?_
        show G (T1.setTop (mkF m 51 #[.val (.long hi), .second, .val (.long lo), .second, .val (.long d), .second, .val (.long (((rr <<< ((1 : Int32) &&& 0x3f).toInt64) ||| (((lo.toUInt64 >>> (bt &&& 0x3f).toInt64.toUInt64).toInt64) &&& (1 : Int64))) - d)), .second, .val (.long (qq <<< ((1 : Int32) &&& 0x3f).toInt64)), .second, .val (.int bt)] []))
        refine hG _ _ (fun t k => XS.lload X1.here hx rfl (hb hby own_d10_51) rfl k) ?_
        show G (T1.setTop (mkF m 53 #[.val (.long hi), .second, .val (.long lo), .second, .val (.long d), .second, .val (.long (((rr <<< ((1 : Int32) &&& 0x3f).toInt64) ||| (((lo.toUInt64 >>> (bt &&& 0x3f).toInt64.toUInt64).toInt64) &&& (1 : Int64))) - d)), .second, .val (.long (qq <<< ((1 : Int32) &&& 0x3f).toInt64)), .second, .val (.int bt)] [(.long (qq <<< ((1 : Int32) &&& 0x3f).toInt64))]))
        refine hG _ _ (fun t k => XS.lconst X1.here hx rfl (hb hby own_d10_53) k) ?_
        show G (T1.setTop (mkF m 54 #[.val (.long hi), .second, .val (.long lo), .second, .val (.long d), .second, .val (.long (((rr <<< ((1 : Int32) &&& 0x3f).toInt64) ||| (((lo.toUInt64 >>> (bt &&& 0x3f).toInt64.toUInt64).toInt64) &&& (1 : Int64))) - d)), .second, .val (.long (qq <<< ((1 : Int32) &&& 0x3f).toInt64)), .second, .val (.int bt)] [(.long (1 : Int64)), (.long (qq <<< ((1 : Int32) &&& 0x3f).toInt64))]))
        refine hG _ _ (fun t k => XS.lor X1.here hx rfl (hb hby own_d10_54) rfl k) ?_
        show G (T1.setTop (mkF m 55 #[.val (.long hi), .second, .val (.long lo), .second, .val (.long d), .second, .val (.long (((rr <<< ((1 : Int32) &&& 0x3f).toInt64) ||| (((lo.toUInt64 >>> (bt &&& 0x3f).toInt64.toUInt64).toInt64) &&& (1 : Int64))) - d)), .second, .val (.long (qq <<< ((1 : Int32) &&& 0x3f).toInt64)), .second, .val (.int bt)] [(.long ((qq <<< ((1 : Int32) &&& 0x3f).toInt64) ||| (1 : Int64)))]))
        refine hG _ _ (fun t k => XS.lstore X1.here hx rfl (hb hby own_d10_55) rfl (l' := #[.val (.long hi), .second, .val (.long lo), .second, .val (.long d), .second, .val (.long (((rr <<< ((1 : Int32) &&& 0x3f).toInt64) ||| (((lo.toUInt64 >>> (bt &&& 0x3f).toInt64.toUInt64).toInt64) &&& (1 : Int64))) - d)), .second, .val (.long ((qq <<< ((1 : Int32) &&& 0x3f).toInt64) ||| (1 : Int64))), .second, .val (.int bt)]) rfl k) ?_
        show G (T1.setTop (mkF m 57 #[.val (.long hi), .second, .val (.long lo), .second, .val (.long d), .second, .val (.long (((rr <<< ((1 : Int32) &&& 0x3f).toInt64) ||| (((lo.toUInt64 >>> (bt &&& 0x3f).toInt64.toUInt64).toInt64) &&& (1 : Int64))) - d)), .second, .val (.long ((qq <<< ((1 : Int32) &&& 0x3f).toInt64) ||| (1 : Int64))), .second, .val (.int bt)] []))
        refine hG _ _ (fun t k => XS.iinc X1.here hx rfl (hb hby own_d10_57) rfl (l' := #[.val (.long hi), .second, .val (.long lo), .second, .val (.long d), .second, .val (.long (((rr <<< ((1 : Int32) &&& 0x3f).toInt64) ||| (((lo.toUInt64 >>> (bt &&& 0x3f).toInt64.toUInt64).toInt64) &&& (1 : Int64))) - d)), .second, .val (.long ((qq <<< ((1 : Int32) &&& 0x3f).toInt64) ||| (1 : Int64))), .second, .val (.int (bt + (-1 : Int32)))]) rfl k) ?_
        show G (T1.setTop (mkF m 60 #[.val (.long hi), .second, .val (.long lo), .second, .val (.long d), .second, .val (.long (((rr <<< ((1 : Int32) &&& 0x3f).toInt64) ||| (((lo.toUInt64 >>> (bt &&& 0x3f).toInt64.toUInt64).toInt64) &&& (1 : Int64))) - d)), .second, .val (.long ((qq <<< ((1 : Int32) &&& 0x3f).toInt64) ||| (1 : Int64))), .second, .val (.int (bt + (-1 : Int32)))] []))
        refine hG _ _ (fun t k => XS.goto X1.here hx rfl (pc0 := 60) (pc' := 10) rfl (hb hby own_d10_60) (by decide) (by decide) k) ?_
        show G (T1.setTop (mkF m 10 #[.val (.long hi), .second, .val (.long lo), .second, .val (.long d), .second, .val (.long (((rr <<< ((1 : Int32) &&& 0x3f).toInt64) ||| (((lo.toUInt64 >>> (bt &&& 0x3f).toInt64.toUInt64).toInt64) &&& (1 : Int64))) - d)), .second, .val (.long ((qq <<< ((1 : Int32) &&& 0x3f).toInt64) ||| (1 : Int64))), .second, .val (.int (bt + (-1 : Int32)))] []))
        exact ih _ _ _ _ _ N1 (by omega) hbt2 (hstep.1 (fun q => hc41_2 (r1_0.mpr q))) X1 e1
  refine loop 64 _ _ _ _ _ N0 (Nat.le_refl _) (by decide) ⟨?_, g0_h1, g1_h2⟩ X0 e0
  have u := own_U_rng lo
  have u0 : own_U (0 : Int64) = 0 := by decide
  rw [u0]
  show (hi.toInt * 18446744073709551616 + own_U lo) / 18446744073709551616 = _
  omega
theorem own_pd3 : parseMethodDescriptor "(JJJJ)J" = some ⟨[.long, .long, .long, .long], some .long⟩ := by decide +kernel
set_option maxRecDepth 65536 in
set_option maxHeartbeats 40000000 in
theorem own_floor (l : Launch) (Z : State) (a0 : Array Value) (hw : ∀ d ∈ tables_1, d.before a0 Z = true) (a : Int64) (b : Int64) (cc : Int64) (d : Int64) (h0 : Heap) (O0 : own_Old Z h0) (g0_h1 : 0 ≤ a.toInt) (g1_h2 : 0 ≤ b.toInt) (g2_h3 : 0 ≤ cc.toInt) (g3_h4 : 0 < d.toInt) :
    own_Con l Z (⟨"com/example/danaid/danaid/MulDiv", "floor", "(JJJJ)J"⟩ : MethodName) prog_7_method_2_code 18 (some .long) [] ({ frames := 3, cells := 0, slots := 0, locals := 52 } : Room) #[(.long a), (.long b), (.long cc), (.long d)] h0 (fun rv rh rL => ∃ (r : Int64), rv = some (.long r) ∧ own_Fr Z rL ∧ h0 = rh ∧ (own_fl (a.toInt * b.toInt + cc.toInt) d.toInt r.toInt)) := by
  refine own_intro (plainFor_of_name (by first | (simp [plainName, overriddenIn]; done) | decide +kernel)) ?_
  intro p e s m below meth c s₁ G hx hby hml hown hnm hret hZ X0 e0 hG hR
  have N0 := Fr.nil Z.heap.size
  refine own_entry (Ls := #[.val (.long a), .second, .val (.long b), .second, .val (.long cc), .second, .val (.long d), .second, .unset, .unset, .unset, .unset, .unset, .unset, .unset, .unset, .unset, .unset]) (by first | (simp [entryFrame, mkF, argsToLocals, Value.category]; done) | rfl) ?_
  show G (s₁.setTop (mkF m 0 #[.val (.long a), .second, .val (.long b), .second, .val (.long cc), .second, .val (.long d), .second, .unset, .unset, .unset, .unset, .unset, .unset, .unset, .unset, .unset, .unset] []))
  refine hG _ _ (fun t k => XS.lloadN X0.here hx rfl (hb hby own_d2_0) rfl k) ?_
  show G (s₁.setTop (mkF m 1 #[.val (.long a), .second, .val (.long b), .second, .val (.long cc), .second, .val (.long d), .second, .unset, .unset, .unset, .unset, .unset, .unset, .unset, .unset, .unset, .unset] [(.long a)]))
  refine hG _ _ (fun t k => XS.lloadN X0.here hx rfl (hb hby own_d2_1) rfl k) ?_
  show G (s₁.setTop (mkF m 2 #[.val (.long a), .second, .val (.long b), .second, .val (.long cc), .second, .val (.long d), .second, .unset, .unset, .unset, .unset, .unset, .unset, .unset, .unset, .unset, .unset] [(.long b), (.long a)]))
  refine hG _ _ (fun t k => XS.lmul X0.here hx rfl (hb hby own_d2_2) rfl k) ?_
  show G (s₁.setTop (mkF m 3 #[.val (.long a), .second, .val (.long b), .second, .val (.long cc), .second, .val (.long d), .second, .unset, .unset, .unset, .unset, .unset, .unset, .unset, .unset, .unset, .unset] [(.long (a * b))]))
  refine hG _ _ (fun t k => XS.lstore X0.here hx rfl (hb hby own_d2_3) rfl (l' := #[.val (.long a), .second, .val (.long b), .second, .val (.long cc), .second, .val (.long d), .second, .val (.long (a * b)), .second, .unset, .unset, .unset, .unset, .unset, .unset, .unset, .unset]) rfl k) ?_
  show G (s₁.setTop (mkF m 5 #[.val (.long a), .second, .val (.long b), .second, .val (.long cc), .second, .val (.long d), .second, .val (.long (a * b)), .second, .unset, .unset, .unset, .unset, .unset, .unset, .unset, .unset] []))
  generalize hn_y8_1 : (a * b) = y8_1
  refine hG _ _ (fun t k => XS.lloadN X0.here hx rfl (hb hby own_d2_5) rfl k) ?_
  show G (s₁.setTop (mkF m 6 #[.val (.long a), .second, .val (.long b), .second, .val (.long cc), .second, .val (.long d), .second, .val (.long y8_1), .second, .unset, .unset, .unset, .unset, .unset, .unset, .unset, .unset] [(.long a)]))
  refine hG _ _ (fun t k => XS.lloadN X0.here hx rfl (hb hby own_d2_6) rfl k) ?_
  show G (s₁.setTop (mkF m 7 #[.val (.long a), .second, .val (.long b), .second, .val (.long cc), .second, .val (.long d), .second, .val (.long y8_1), .second, .unset, .unset, .unset, .unset, .unset, .unset, .unset, .unset] [(.long b), (.long a)]))
  refine own_callS X0 hx hZ hG hown (hw _ (List.mem_of_getElem? (i := 8) rfl)) (hw _ (List.mem_of_getElem? (i := 9) rfl)) (hw _ (List.mem_of_getElem? (i := 10) rfl)) (hw _ (List.mem_of_getElem? (i := 11) rfl)) (by decide) 0 (own_mh l Z a0 hw a b h0 O0 g0_h1 g1_h2) (by decide) (by decide) e0 (by rw [hml]; rfl) (lenOf own_pd1 rfl) (argsL := [(.long a), (.long b)]) (rest := []) rfl rfl (Nat.le_of_eq rfl) (hb hby own_d2_7) (by decide) (by decide) ?_
  intro T2 h2 v2 L2 X2 e2 q2
  obtain ⟨r_2, rfl, M2, rfl, r2_0⟩ := q2
  have N2 := Fr.app N0 M2
  show G (T2.setTop (mkF m 10 #[.val (.long a), .second, .val (.long b), .second, .val (.long cc), .second, .val (.long d), .second, .val (.long y8_1), .second, .unset, .unset, .unset, .unset, .unset, .unset, .unset, .unset] [(.long r_2)]))
  refine hG _ _ (fun t k => XS.lstore X2.here hx rfl (hb hby own_d2_10) rfl (l' := #[.val (.long a), .second, .val (.long b), .second, .val (.long cc), .second, .val (.long d), .second, .val (.long y8_1), .second, .val (.long r_2), .second, .unset, .unset, .unset, .unset, .unset, .unset]) rfl k) ?_
  show G (T2.setTop (mkF m 12 #[.val (.long a), .second, .val (.long b), .second, .val (.long cc), .second, .val (.long d), .second, .val (.long y8_1), .second, .val (.long r_2), .second, .unset, .unset, .unset, .unset, .unset, .unset] []))
  refine hG _ _ (fun t k => XS.lload X2.here hx rfl (hb hby own_d2_12) rfl k) ?_
  show G (T2.setTop (mkF m 14 #[.val (.long a), .second, .val (.long b), .second, .val (.long cc), .second, .val (.long d), .second, .val (.long y8_1), .second, .val (.long r_2), .second, .unset, .unset, .unset, .unset, .unset, .unset] [(.long y8_1)]))
  refine hG _ _ (fun t k => XS.lload X2.here hx rfl (hb hby own_d2_14) rfl k) ?_
  show G (T2.setTop (mkF m 16 #[.val (.long a), .second, .val (.long b), .second, .val (.long cc), .second, .val (.long d), .second, .val (.long y8_1), .second, .val (.long r_2), .second, .unset, .unset, .unset, .unset, .unset, .unset] [(.long cc), (.long y8_1)]))
  refine hG _ _ (fun t k => XS.ladd X2.here hx rfl (hb hby own_d2_16) rfl k) ?_
  show G (T2.setTop (mkF m 17 #[.val (.long a), .second, .val (.long b), .second, .val (.long cc), .second, .val (.long d), .second, .val (.long y8_1), .second, .val (.long r_2), .second, .unset, .unset, .unset, .unset, .unset, .unset] [(.long (y8_1 + cc))]))
  refine hG _ _ (fun t k => XS.lstore X2.here hx rfl (hb hby own_d2_17) rfl (l' := #[.val (.long a), .second, .val (.long b), .second, .val (.long cc), .second, .val (.long d), .second, .val (.long y8_1), .second, .val (.long r_2), .second, .val (.long (y8_1 + cc)), .second, .unset, .unset, .unset, .unset]) rfl k) ?_
  show G (T2.setTop (mkF m 19 #[.val (.long a), .second, .val (.long b), .second, .val (.long cc), .second, .val (.long d), .second, .val (.long y8_1), .second, .val (.long r_2), .second, .val (.long (y8_1 + cc)), .second, .unset, .unset, .unset, .unset] []))
  generalize hn_y12_3 : (y8_1 + cc) = y12_3
  refine hG _ _ (fun t k => XS.lload X2.here hx rfl (hb hby own_d2_19) rfl k) ?_
  show G (T2.setTop (mkF m 21 #[.val (.long a), .second, .val (.long b), .second, .val (.long cc), .second, .val (.long d), .second, .val (.long y8_1), .second, .val (.long r_2), .second, .val (.long y12_3), .second, .unset, .unset, .unset, .unset] [(.long y12_3)]))
  refine hG _ _ (fun t k => XS.lload X2.here hx rfl (hb hby own_d2_21) rfl k) ?_
  show G (T2.setTop (mkF m 23 #[.val (.long a), .second, .val (.long b), .second, .val (.long cc), .second, .val (.long d), .second, .val (.long y8_1), .second, .val (.long r_2), .second, .val (.long y12_3), .second, .unset, .unset, .unset, .unset] [(.long y8_1), (.long y12_3)]))
  refine own_callS X2 hx hZ hG hown (hw _ (List.mem_of_getElem? (i := 13) rfl)) (hw _ (List.mem_of_getElem? (i := 14) rfl)) (hw _ (List.mem_of_getElem? (i := 15) rfl)) (hw _ (List.mem_of_getElem? (i := 16) rfl)) (by decide) 0 (own_cmpU l Z a0 hw y12_3 y8_1 h0 O0) (by decide) (by decide) e2 (by rw [hml]; rfl) (lenOf own_pd0 rfl) (argsL := [(.long y12_3), (.long y8_1)]) (rest := []) rfl rfl (Nat.le_of_eq rfl) (hb hby own_d2_23) (by decide) (by decide) ?_
  intro T4 h4 v4 L4 X4 e4 q4
  obtain ⟨r_4, rfl, M4, rfl, r4_0⟩ := q4
  have N4 := Fr.app N2 M4
  show G (T4.setTop (mkF m 26 #[.val (.long a), .second, .val (.long b), .second, .val (.long cc), .second, .val (.long d), .second, .val (.long y8_1), .second, .val (.long r_2), .second, .val (.long y12_3), .second, .unset, .unset, .unset, .unset] [(.int r_4)]))
  by_cases hc26_5 : r_4 < (0 : Int32)
  · skip
    refine hG _ _ (fun t k => XS.ifNo X4.here hx rfl (hb hby own_d2_26) rfl ((if0 _ _).trans (tlt hc26_5).2.1) k) ?_
    show G (T4.setTop (mkF m 29 #[.val (.long a), .second, .val (.long b), .second, .val (.long cc), .second, .val (.long d), .second, .val (.long y8_1), .second, .val (.long r_2), .second, .val (.long y12_3), .second, .unset, .unset, .unset, .unset] []))
    refine hG _ _ (fun t k => XS.lload X4.here hx rfl (hb hby own_d2_29) rfl k) ?_
    show G (T4.setTop (mkF m 31 #[.val (.long a), .second, .val (.long b), .second, .val (.long cc), .second, .val (.long d), .second, .val (.long y8_1), .second, .val (.long r_2), .second, .val (.long y12_3), .second, .unset, .unset, .unset, .unset] [(.long r_2)]))
    refine hG _ _ (fun t k => XS.lconst X4.here hx rfl (hb hby own_d2_31) k) ?_
    show G (T4.setTop (mkF m 32 #[.val (.long a), .second, .val (.long b), .second, .val (.long cc), .second, .val (.long d), .second, .val (.long y8_1), .second, .val (.long r_2), .second, .val (.long y12_3), .second, .unset, .unset, .unset, .unset] [(.long (1 : Int64)), (.long r_2)]))
    refine hG _ _ (fun t k => XS.ladd X4.here hx rfl (hb hby own_d2_32) rfl k) ?_
    show G (T4.setTop (mkF m 33 #[.val (.long a), .second, .val (.long b), .second, .val (.long cc), .second, .val (.long d), .second, .val (.long y8_1), .second, .val (.long r_2), .second, .val (.long y12_3), .second, .unset, .unset, .unset, .unset] [(.long (r_2 + (1 : Int64)))]))
    refine hG _ _ (fun t k => XS.lstore X4.here hx rfl (hb hby own_d2_33) rfl (l' := #[.val (.long a), .second, .val (.long b), .second, .val (.long cc), .second, .val (.long d), .second, .val (.long y8_1), .second, .val (.long (r_2 + (1 : Int64))), .second, .val (.long y12_3), .second, .unset, .unset, .unset, .unset]) rfl k) ?_
    show G (T4.setTop (mkF m 35 #[.val (.long a), .second, .val (.long b), .second, .val (.long cc), .second, .val (.long d), .second, .val (.long y8_1), .second, .val (.long (r_2 + (1 : Int64))), .second, .val (.long y12_3), .second, .unset, .unset, .unset, .unset] []))
    generalize hn_y10_6 : (r_2 + (1 : Int64)) = y10_6
    have ww7 := own_wide g0_h1 g1_h2 g2_h3 r2_0 hn_y8_1 hn_y12_3
    have hX7 : a.toInt * b.toInt + cc.toInt = y10_6.toInt * 18446744073709551616 + own_U y12_3 := by rw [own_inc64 hn_y10_6 ww7.2.2.1 ww7.2.2.2]; exact ww7.1 (r4_0.mp hc26_5)
    have hH7 : 0 ≤ y10_6.toInt := by rw [own_inc64 hn_y10_6 ww7.2.2.1 ww7.2.2.2]; have := ww7.2.2.1; omega
    show G (T4.setTop (mkF m 35 #[.val (.long a), .second, .val (.long b), .second, .val (.long cc), .second, .val (.long d), .second, .val (.long y8_1), .second, .val (.long y10_6), .second, .val (.long y12_3), .second, .unset, .unset, .unset, .unset] []))
    refine hG _ _ (fun t k => XS.lload X4.here hx rfl (hb hby own_d2_35) rfl k) ?_
    show G (T4.setTop (mkF m 37 #[.val (.long a), .second, .val (.long b), .second, .val (.long cc), .second, .val (.long d), .second, .val (.long y8_1), .second, .val (.long y10_6), .second, .val (.long y12_3), .second, .unset, .unset, .unset, .unset] [(.long y10_6)]))
    refine hG _ _ (fun t k => XS.lconst X4.here hx rfl (hb hby own_d2_37) k) ?_
    show G (T4.setTop (mkF m 38 #[.val (.long a), .second, .val (.long b), .second, .val (.long cc), .second, .val (.long d), .second, .val (.long y8_1), .second, .val (.long y10_6), .second, .val (.long y12_3), .second, .unset, .unset, .unset, .unset] [(.long (0 : Int64)), (.long y10_6)]))
    refine hG _ _ (fun t k => XS.lcmp X4.here hx rfl (hb hby own_d2_38) rfl k) ?_
    show G (T4.setTop (mkF m 39 #[.val (.long a), .second, .val (.long b), .second, .val (.long cc), .second, .val (.long d), .second, .val (.long y8_1), .second, .val (.long y10_6), .second, .val (.long y12_3), .second, .unset, .unset, .unset, .unset] [(.int (lcmpW y10_6 (0 : Int64)))]))
    by_cases hc39_8 : y10_6 = (0 : Int64)
    · skip
      refine hG _ _ (fun t k => XS.ifNo X4.here hx rfl (hb hby own_d2_39) rfl ((if0 _ _).trans (teq ((lw_eq _ _).mpr hc39_8)).2) k) ?_
      show G (T4.setTop (mkF m 42 #[.val (.long a), .second, .val (.long b), .second, .val (.long cc), .second, .val (.long d), .second, .val (.long y8_1), .second, .val (.long y10_6), .second, .val (.long y12_3), .second, .unset, .unset, .unset, .unset] []))
      refine hG _ _ (fun t k => XS.lload X4.here hx rfl (hb hby own_d2_42) rfl k) ?_
      show G (T4.setTop (mkF m 44 #[.val (.long a), .second, .val (.long b), .second, .val (.long cc), .second, .val (.long d), .second, .val (.long y8_1), .second, .val (.long y10_6), .second, .val (.long y12_3), .second, .unset, .unset, .unset, .unset] [(.long y12_3)]))
      refine hG _ _ (fun t k => XS.lconst X4.here hx rfl (hb hby own_d2_44) k) ?_
      show G (T4.setTop (mkF m 45 #[.val (.long a), .second, .val (.long b), .second, .val (.long cc), .second, .val (.long d), .second, .val (.long y8_1), .second, .val (.long y10_6), .second, .val (.long y12_3), .second, .unset, .unset, .unset, .unset] [(.long (0 : Int64)), (.long y12_3)]))
      refine hG _ _ (fun t k => XS.lcmp X4.here hx rfl (hb hby own_d2_45) rfl k) ?_
      show G (T4.setTop (mkF m 46 #[.val (.long a), .second, .val (.long b), .second, .val (.long cc), .second, .val (.long d), .second, .val (.long y8_1), .second, .val (.long y10_6), .second, .val (.long y12_3), .second, .unset, .unset, .unset, .unset] [(.int (lcmpW y12_3 (0 : Int64)))]))
      by_cases hc46_9 : y12_3 < (0 : Int64)
      · skip
        refine hG _ _ (fun t k => XS.ifYes X4.here hx rfl (pc0 := 46) (pc' := 59) rfl (hb hby own_d2_46) rfl ((if0 _ _).trans (tlt ((lw_lt _ _).mpr hc46_9)).1) (by decide) (by decide) k) ?_
        show G (T4.setTop (mkF m 59 #[.val (.long a), .second, .val (.long b), .second, .val (.long cc), .second, .val (.long d), .second, .val (.long y8_1), .second, .val (.long y10_6), .second, .val (.long y12_3), .second, .unset, .unset, .unset, .unset] []))
        refine hG _ _ (fun t k => XS.lload X4.here hx rfl (hb hby own_d2_59) rfl k) ?_
        show G (T4.setTop (mkF m 61 #[.val (.long a), .second, .val (.long b), .second, .val (.long cc), .second, .val (.long d), .second, .val (.long y8_1), .second, .val (.long y10_6), .second, .val (.long y12_3), .second, .unset, .unset, .unset, .unset] [(.long y10_6)]))
        refine hG _ _ (fun t k => XS.lload X4.here hx rfl (hb hby own_d2_61) rfl k) ?_
        show G (T4.setTop (mkF m 63 #[.val (.long a), .second, .val (.long b), .second, .val (.long cc), .second, .val (.long d), .second, .val (.long y8_1), .second, .val (.long y10_6), .second, .val (.long y12_3), .second, .unset, .unset, .unset, .unset] [(.long d), (.long y10_6)]))
        refine hG _ _ (fun t k => XS.lcmp X4.here hx rfl (hb hby own_d2_63) rfl k) ?_
        show G (T4.setTop (mkF m 64 #[.val (.long a), .second, .val (.long b), .second, .val (.long cc), .second, .val (.long d), .second, .val (.long y8_1), .second, .val (.long y10_6), .second, .val (.long y12_3), .second, .unset, .unset, .unset, .unset] [(.int (lcmpW y10_6 d))]))
        by_cases hc64_10 : y10_6 < d
        · skip
          refine hG _ _ (fun t k => XS.ifYes X4.here hx rfl (pc0 := 64) (pc' := 75) rfl (hb hby own_d2_64) rfl ((if0 _ _).trans (tlt ((lw_lt _ _).mpr hc64_10)).1) (by decide) (by decide) k) ?_
          show G (T4.setTop (mkF m 75 #[.val (.long a), .second, .val (.long b), .second, .val (.long cc), .second, .val (.long d), .second, .val (.long y8_1), .second, .val (.long y10_6), .second, .val (.long y12_3), .second, .unset, .unset, .unset, .unset] []))
          refine hG _ _ (fun t k => XS.lload X4.here hx rfl (hb hby own_d2_75) rfl k) ?_
          show G (T4.setTop (mkF m 77 #[.val (.long a), .second, .val (.long b), .second, .val (.long cc), .second, .val (.long d), .second, .val (.long y8_1), .second, .val (.long y10_6), .second, .val (.long y12_3), .second, .unset, .unset, .unset, .unset] [(.long y10_6)]))
          refine hG _ _ (fun t k => XS.lload X4.here hx rfl (hb hby own_d2_77) rfl k) ?_
          show G (T4.setTop (mkF m 79 #[.val (.long a), .second, .val (.long b), .second, .val (.long cc), .second, .val (.long d), .second, .val (.long y8_1), .second, .val (.long y10_6), .second, .val (.long y12_3), .second, .unset, .unset, .unset, .unset] [(.long y12_3), (.long y10_6)]))
          refine hG _ _ (fun t k => XS.lload X4.here hx rfl (hb hby own_d2_79) rfl k) ?_
          show G (T4.setTop (mkF m 81 #[.val (.long a), .second, .val (.long b), .second, .val (.long cc), .second, .val (.long d), .second, .val (.long y8_1), .second, .val (.long y10_6), .second, .val (.long y12_3), .second, .unset, .unset, .unset, .unset] [(.long d), (.long y12_3), (.long y10_6)]))
          refine own_callS X4 hx hZ hG hown (hw _ (List.mem_of_getElem? (i := 37) rfl)) (hw _ (List.mem_of_getElem? (i := 38) rfl)) (hw _ (List.mem_of_getElem? (i := 3) rfl)) (hw _ (List.mem_of_getElem? (i := 39) rfl)) (by decide) 0 (own_divide l Z a0 hw y10_6 y12_3 d h0 O0 hH7 (own_lt64.mp hc64_10)) (by decide) (by decide) e4 (by rw [hml]; rfl) (lenOf own_pd2 rfl) (argsL := [(.long y10_6), (.long y12_3), (.long d)]) (rest := []) rfl rfl (Nat.le_of_eq rfl) (hb hby own_d2_81) (by decide) (by decide) ?_
          intro T11 h11 v11 L11 X11 e11 q11
          obtain ⟨r_11, R_11, rfl, M11, rfl, r11_0⟩ := q11
          have N11 := Fr.app N4 M11
          show G (T11.setTop (mkF m 84 #[.val (.long a), .second, .val (.long b), .second, .val (.long cc), .second, .val (.long d), .second, .val (.long y8_1), .second, .val (.long y10_6), .second, .val (.long y12_3), .second, .unset, .unset, .unset, .unset] [(.long r_11)]))
          refine hG _ _ (fun t k => XS.lstore X11.here hx rfl (hb hby own_d2_84) rfl (l' := #[.val (.long a), .second, .val (.long b), .second, .val (.long cc), .second, .val (.long d), .second, .val (.long y8_1), .second, .val (.long y10_6), .second, .val (.long y12_3), .second, .unset, .unset, .val (.long r_11), .second]) rfl k) ?_
          show G (T11.setTop (mkF m 86 #[.val (.long a), .second, .val (.long b), .second, .val (.long cc), .second, .val (.long d), .second, .val (.long y8_1), .second, .val (.long y10_6), .second, .val (.long y12_3), .second, .unset, .unset, .val (.long r_11), .second] []))
          refine hG _ _ (fun t k => XS.lload X11.here hx rfl (hb hby own_d2_86) rfl k) ?_
          show G (T11.setTop (mkF m 88 #[.val (.long a), .second, .val (.long b), .second, .val (.long cc), .second, .val (.long d), .second, .val (.long y8_1), .second, .val (.long y10_6), .second, .val (.long y12_3), .second, .unset, .unset, .val (.long r_11), .second] [(.long r_11)]))
          refine hG _ _ (fun t k => XS.lconst X11.here hx rfl (hb hby own_d2_88) k) ?_
          show G (T11.setTop (mkF m 89 #[.val (.long a), .second, .val (.long b), .second, .val (.long cc), .second, .val (.long d), .second, .val (.long y8_1), .second, .val (.long y10_6), .second, .val (.long y12_3), .second, .unset, .unset, .val (.long r_11), .second] [(.long (0 : Int64)), (.long r_11)]))
          refine hG _ _ (fun t k => XS.lcmp X11.here hx rfl (hb hby own_d2_89) rfl k) ?_
          show G (T11.setTop (mkF m 90 #[.val (.long a), .second, .val (.long b), .second, .val (.long cc), .second, .val (.long d), .second, .val (.long y8_1), .second, .val (.long y10_6), .second, .val (.long y12_3), .second, .unset, .unset, .val (.long r_11), .second] [(.int (lcmpW r_11 (0 : Int64)))]))
          by_cases hc90_12 : r_11 < (0 : Int64)
          · skip
            refine hG _ _ (fun t k => XS.ifNo X11.here hx rfl (hb hby own_d2_90) rfl ((if0 _ _).trans (tlt ((lw_lt _ _).mpr hc90_12)).2.1) k) ?_
            show G (T11.setTop (mkF m 93 #[.val (.long a), .second, .val (.long b), .second, .val (.long cc), .second, .val (.long d), .second, .val (.long y8_1), .second, .val (.long y10_6), .second, .val (.long y12_3), .second, .unset, .unset, .val (.long r_11), .second] []))
            refine hG _ _ (X11.ldc2Long hx hown (mvT hZ (hw _ (List.mem_of_getElem? (i := 21) rfl))) (g := (mkF m 93 #[.val (.long a), .second, .val (.long b), .second, .val (.long cc), .second, .val (.long d), .second, .val (.long y8_1), .second, .val (.long y10_6), .second, .val (.long y12_3), .second, .unset, .unset, .val (.long r_11), .second] [])) rfl (hb hby own_d2_93)) ?_
            show G (T11.setTop (mkF m 96 #[.val (.long a), .second, .val (.long b), .second, .val (.long cc), .second, .val (.long d), .second, .val (.long y8_1), .second, .val (.long y10_6), .second, .val (.long y12_3), .second, .unset, .unset, .val (.long r_11), .second] [(.long (9223372036854775807 : Int64))]))
            refine hG _ _ (fun t k => XS.goto X11.here hx rfl (pc0 := 96) (pc' := 101) rfl (hb hby own_d2_96) (by decide) (by decide) k) ?_
            show G (T11.setTop (mkF m 101 #[.val (.long a), .second, .val (.long b), .second, .val (.long cc), .second, .val (.long d), .second, .val (.long y8_1), .second, .val (.long y10_6), .second, .val (.long y12_3), .second, .unset, .unset, .val (.long r_11), .second] [(.long (9223372036854775807 : Int64))]))
            refine hG _ _ (fun t k => XS.lstore X11.here hx rfl (hb hby own_d2_101) rfl (l' := #[.val (.long a), .second, .val (.long b), .second, .val (.long cc), .second, .val (.long d), .second, .val (.long y8_1), .second, .val (.long y10_6), .second, .val (.long y12_3), .second, .val (.long (9223372036854775807 : Int64)), .second, .val (.long r_11), .second]) rfl k) ?_
            show G (T11.setTop (mkF m 103 #[.val (.long a), .second, .val (.long b), .second, .val (.long cc), .second, .val (.long d), .second, .val (.long y8_1), .second, .val (.long y10_6), .second, .val (.long y12_3), .second, .val (.long (9223372036854775807 : Int64)), .second, .val (.long r_11), .second] []))
            generalize hn_y14_13 : (9223372036854775807 : Int64) = y14_13
            refine hG _ _ (fun t k => XS.lload X11.here hx rfl (hb hby own_d2_103) rfl k) ?_
            show G (T11.setTop (mkF m 105 #[.val (.long a), .second, .val (.long b), .second, .val (.long cc), .second, .val (.long d), .second, .val (.long y8_1), .second, .val (.long y10_6), .second, .val (.long y12_3), .second, .val (.long y14_13), .second, .val (.long r_11), .second] [(.long y14_13)]))
            exact own_retL hR hret X11 hx (hb hby own_d2_105) (by decide) (by decide) (by rw [e11]; exact ⟨y14_13, rfl, N11, rfl, (by rw [← hn_y14_13]; exact own_fl_neg' r11_0 hc90_12 hX7 g3_h4)⟩)
          · skip
            refine hG _ _ (fun t k => XS.ifYes X11.here hx rfl (pc0 := 90) (pc' := 99) rfl (hb hby own_d2_90) rfl ((if0 _ _).trans (flt (fun q => hc90_12 ((lw_lt _ _).mp q))).2.1) (by decide) (by decide) k) ?_
            show G (T11.setTop (mkF m 99 #[.val (.long a), .second, .val (.long b), .second, .val (.long cc), .second, .val (.long d), .second, .val (.long y8_1), .second, .val (.long y10_6), .second, .val (.long y12_3), .second, .unset, .unset, .val (.long r_11), .second] []))
            refine hG _ _ (fun t k => XS.lload X11.here hx rfl (hb hby own_d2_99) rfl k) ?_
            show G (T11.setTop (mkF m 101 #[.val (.long a), .second, .val (.long b), .second, .val (.long cc), .second, .val (.long d), .second, .val (.long y8_1), .second, .val (.long y10_6), .second, .val (.long y12_3), .second, .unset, .unset, .val (.long r_11), .second] [(.long r_11)]))
            refine hG _ _ (fun t k => XS.lstore X11.here hx rfl (hb hby own_d2_101) rfl (l' := #[.val (.long a), .second, .val (.long b), .second, .val (.long cc), .second, .val (.long d), .second, .val (.long y8_1), .second, .val (.long y10_6), .second, .val (.long y12_3), .second, .val (.long r_11), .second, .val (.long r_11), .second]) rfl k) ?_
            show G (T11.setTop (mkF m 103 #[.val (.long a), .second, .val (.long b), .second, .val (.long cc), .second, .val (.long d), .second, .val (.long y8_1), .second, .val (.long y10_6), .second, .val (.long y12_3), .second, .val (.long r_11), .second, .val (.long r_11), .second] []))
            refine hG _ _ (fun t k => XS.lload X11.here hx rfl (hb hby own_d2_103) rfl k) ?_
            show G (T11.setTop (mkF m 105 #[.val (.long a), .second, .val (.long b), .second, .val (.long cc), .second, .val (.long d), .second, .val (.long y8_1), .second, .val (.long y10_6), .second, .val (.long y12_3), .second, .val (.long r_11), .second, .val (.long r_11), .second] [(.long r_11)]))
            exact own_retL hR hret X11 hx (hb hby own_d2_105) (by decide) (by decide) (by rw [e11]; exact ⟨r_11, rfl, N11, rfl, (own_fl_ok' r11_0 hc90_12 hX7)⟩)
        · skip
          refine hG _ _ (fun t k => XS.ifNo X4.here hx rfl (hb hby own_d2_64) rfl ((if0 _ _).trans (flt (fun q => hc64_10 ((lw_lt _ _).mp q))).1) k) ?_
          show G (T4.setTop (mkF m 67 #[.val (.long a), .second, .val (.long b), .second, .val (.long cc), .second, .val (.long d), .second, .val (.long y8_1), .second, .val (.long y10_6), .second, .val (.long y12_3), .second, .unset, .unset, .unset, .unset] []))
          refine hG _ _ (X4.ldc2Long hx hown (mvT hZ (hw _ (List.mem_of_getElem? (i := 21) rfl))) (g := (mkF m 67 #[.val (.long a), .second, .val (.long b), .second, .val (.long cc), .second, .val (.long d), .second, .val (.long y8_1), .second, .val (.long y10_6), .second, .val (.long y12_3), .second, .unset, .unset, .unset, .unset] [])) rfl (hb hby own_d2_67)) ?_
          show G (T4.setTop (mkF m 70 #[.val (.long a), .second, .val (.long b), .second, .val (.long cc), .second, .val (.long d), .second, .val (.long y8_1), .second, .val (.long y10_6), .second, .val (.long y12_3), .second, .unset, .unset, .unset, .unset] [(.long (9223372036854775807 : Int64))]))
          refine hG _ _ (fun t k => XS.lstore X4.here hx rfl (hb hby own_d2_70) rfl (l' := #[.val (.long a), .second, .val (.long b), .second, .val (.long cc), .second, .val (.long d), .second, .val (.long y8_1), .second, .val (.long y10_6), .second, .val (.long y12_3), .second, .val (.long (9223372036854775807 : Int64)), .second, .unset, .unset]) rfl k) ?_
          show G (T4.setTop (mkF m 72 #[.val (.long a), .second, .val (.long b), .second, .val (.long cc), .second, .val (.long d), .second, .val (.long y8_1), .second, .val (.long y10_6), .second, .val (.long y12_3), .second, .val (.long (9223372036854775807 : Int64)), .second, .unset, .unset] []))
          generalize hn_y14_14 : (9223372036854775807 : Int64) = y14_14
          refine hG _ _ (fun t k => XS.goto X4.here hx rfl (pc0 := 72) (pc' := 103) rfl (hb hby own_d2_72) (by decide) (by decide) k) ?_
          show G (T4.setTop (mkF m 103 #[.val (.long a), .second, .val (.long b), .second, .val (.long cc), .second, .val (.long d), .second, .val (.long y8_1), .second, .val (.long y10_6), .second, .val (.long y12_3), .second, .val (.long y14_14), .second, .unset, .unset] []))
          refine hG _ _ (fun t k => XS.lload X4.here hx rfl (hb hby own_d2_103) rfl k) ?_
          show G (T4.setTop (mkF m 105 #[.val (.long a), .second, .val (.long b), .second, .val (.long cc), .second, .val (.long d), .second, .val (.long y8_1), .second, .val (.long y10_6), .second, .val (.long y12_3), .second, .val (.long y14_14), .second, .unset, .unset] [(.long y14_14)]))
          exact own_retL hR hret X4 hx (hb hby own_d2_105) (by decide) (by decide) (by rw [e4]; exact ⟨y14_14, rfl, N4, rfl, (by rw [← hn_y14_14]; exact own_fl_big' hc64_10 hX7 g3_h4)⟩)
      · skip
        refine hG _ _ (fun t k => XS.ifNo X4.here hx rfl (hb hby own_d2_46) rfl ((if0 _ _).trans (flt (fun q => hc46_9 ((lw_lt _ _).mp q))).1) k) ?_
        show G (T4.setTop (mkF m 49 #[.val (.long a), .second, .val (.long b), .second, .val (.long cc), .second, .val (.long d), .second, .val (.long y8_1), .second, .val (.long y10_6), .second, .val (.long y12_3), .second, .unset, .unset, .unset, .unset] []))
        refine hG _ _ (fun t k => XS.lload X4.here hx rfl (hb hby own_d2_49) rfl k) ?_
        show G (T4.setTop (mkF m 51 #[.val (.long a), .second, .val (.long b), .second, .val (.long cc), .second, .val (.long d), .second, .val (.long y8_1), .second, .val (.long y10_6), .second, .val (.long y12_3), .second, .unset, .unset, .unset, .unset] [(.long y12_3)]))
        refine hG _ _ (fun t k => XS.lload X4.here hx rfl (hb hby own_d2_51) rfl k) ?_
        show G (T4.setTop (mkF m 53 #[.val (.long a), .second, .val (.long b), .second, .val (.long cc), .second, .val (.long d), .second, .val (.long y8_1), .second, .val (.long y10_6), .second, .val (.long y12_3), .second, .unset, .unset, .unset, .unset] [(.long d), (.long y12_3)]))
        refine hG _ _ (fun t k => XS.ldiv X4.here hx rfl (hb hby own_d2_53) rfl (own_ne0 g3_h4) k) ?_
        show G (T4.setTop (mkF m 54 #[.val (.long a), .second, .val (.long b), .second, .val (.long cc), .second, .val (.long d), .second, .val (.long y8_1), .second, .val (.long y10_6), .second, .val (.long y12_3), .second, .unset, .unset, .unset, .unset] [(.long (y12_3 / d))]))
        refine hG _ _ (fun t k => XS.lstore X4.here hx rfl (hb hby own_d2_54) rfl (l' := #[.val (.long a), .second, .val (.long b), .second, .val (.long cc), .second, .val (.long d), .second, .val (.long y8_1), .second, .val (.long y10_6), .second, .val (.long y12_3), .second, .val (.long (y12_3 / d)), .second, .unset, .unset]) rfl k) ?_
        show G (T4.setTop (mkF m 56 #[.val (.long a), .second, .val (.long b), .second, .val (.long cc), .second, .val (.long d), .second, .val (.long y8_1), .second, .val (.long y10_6), .second, .val (.long y12_3), .second, .val (.long (y12_3 / d)), .second, .unset, .unset] []))
        generalize hn_y14_15 : (y12_3 / d) = y14_15
        refine hG _ _ (fun t k => XS.goto X4.here hx rfl (pc0 := 56) (pc' := 103) rfl (hb hby own_d2_56) (by decide) (by decide) k) ?_
        show G (T4.setTop (mkF m 103 #[.val (.long a), .second, .val (.long b), .second, .val (.long cc), .second, .val (.long d), .second, .val (.long y8_1), .second, .val (.long y10_6), .second, .val (.long y12_3), .second, .val (.long y14_15), .second, .unset, .unset] []))
        refine hG _ _ (fun t k => XS.lload X4.here hx rfl (hb hby own_d2_103) rfl k) ?_
        show G (T4.setTop (mkF m 105 #[.val (.long a), .second, .val (.long b), .second, .val (.long cc), .second, .val (.long d), .second, .val (.long y8_1), .second, .val (.long y10_6), .second, .val (.long y12_3), .second, .val (.long y14_15), .second, .unset, .unset] [(.long y14_15)]))
        exact own_retL hR hret X4 hx (hb hby own_d2_105) (by decide) (by decide) (by rw [e4]; exact ⟨y14_15, rfl, N4, rfl, (by rw [← hn_y14_15]; exact own_fl_div' hc39_8 hc46_9 hX7 g3_h4)⟩)
    · skip
      refine hG _ _ (fun t k => XS.ifYes X4.here hx rfl (pc0 := 39) (pc' := 59) rfl (hb hby own_d2_39) rfl ((if0 _ _).trans (feq (fun q => hc39_8 ((lw_eq _ _).mp q))).2) (by decide) (by decide) k) ?_
      show G (T4.setTop (mkF m 59 #[.val (.long a), .second, .val (.long b), .second, .val (.long cc), .second, .val (.long d), .second, .val (.long y8_1), .second, .val (.long y10_6), .second, .val (.long y12_3), .second, .unset, .unset, .unset, .unset] []))
      refine hG _ _ (fun t k => XS.lload X4.here hx rfl (hb hby own_d2_59) rfl k) ?_
      show G (T4.setTop (mkF m 61 #[.val (.long a), .second, .val (.long b), .second, .val (.long cc), .second, .val (.long d), .second, .val (.long y8_1), .second, .val (.long y10_6), .second, .val (.long y12_3), .second, .unset, .unset, .unset, .unset] [(.long y10_6)]))
      refine hG _ _ (fun t k => XS.lload X4.here hx rfl (hb hby own_d2_61) rfl k) ?_
      show G (T4.setTop (mkF m 63 #[.val (.long a), .second, .val (.long b), .second, .val (.long cc), .second, .val (.long d), .second, .val (.long y8_1), .second, .val (.long y10_6), .second, .val (.long y12_3), .second, .unset, .unset, .unset, .unset] [(.long d), (.long y10_6)]))
      refine hG _ _ (fun t k => XS.lcmp X4.here hx rfl (hb hby own_d2_63) rfl k) ?_
      show G (T4.setTop (mkF m 64 #[.val (.long a), .second, .val (.long b), .second, .val (.long cc), .second, .val (.long d), .second, .val (.long y8_1), .second, .val (.long y10_6), .second, .val (.long y12_3), .second, .unset, .unset, .unset, .unset] [(.int (lcmpW y10_6 d))]))
      by_cases hc64_16 : y10_6 < d
      · skip
        refine hG _ _ (fun t k => XS.ifYes X4.here hx rfl (pc0 := 64) (pc' := 75) rfl (hb hby own_d2_64) rfl ((if0 _ _).trans (tlt ((lw_lt _ _).mpr hc64_16)).1) (by decide) (by decide) k) ?_
        show G (T4.setTop (mkF m 75 #[.val (.long a), .second, .val (.long b), .second, .val (.long cc), .second, .val (.long d), .second, .val (.long y8_1), .second, .val (.long y10_6), .second, .val (.long y12_3), .second, .unset, .unset, .unset, .unset] []))
        refine hG _ _ (fun t k => XS.lload X4.here hx rfl (hb hby own_d2_75) rfl k) ?_
        show G (T4.setTop (mkF m 77 #[.val (.long a), .second, .val (.long b), .second, .val (.long cc), .second, .val (.long d), .second, .val (.long y8_1), .second, .val (.long y10_6), .second, .val (.long y12_3), .second, .unset, .unset, .unset, .unset] [(.long y10_6)]))
        refine hG _ _ (fun t k => XS.lload X4.here hx rfl (hb hby own_d2_77) rfl k) ?_
        show G (T4.setTop (mkF m 79 #[.val (.long a), .second, .val (.long b), .second, .val (.long cc), .second, .val (.long d), .second, .val (.long y8_1), .second, .val (.long y10_6), .second, .val (.long y12_3), .second, .unset, .unset, .unset, .unset] [(.long y12_3), (.long y10_6)]))
        refine hG _ _ (fun t k => XS.lload X4.here hx rfl (hb hby own_d2_79) rfl k) ?_
        show G (T4.setTop (mkF m 81 #[.val (.long a), .second, .val (.long b), .second, .val (.long cc), .second, .val (.long d), .second, .val (.long y8_1), .second, .val (.long y10_6), .second, .val (.long y12_3), .second, .unset, .unset, .unset, .unset] [(.long d), (.long y12_3), (.long y10_6)]))
        refine own_callS X4 hx hZ hG hown (hw _ (List.mem_of_getElem? (i := 37) rfl)) (hw _ (List.mem_of_getElem? (i := 38) rfl)) (hw _ (List.mem_of_getElem? (i := 3) rfl)) (hw _ (List.mem_of_getElem? (i := 39) rfl)) (by decide) 0 (own_divide l Z a0 hw y10_6 y12_3 d h0 O0 hH7 (own_lt64.mp hc64_16)) (by decide) (by decide) e4 (by rw [hml]; rfl) (lenOf own_pd2 rfl) (argsL := [(.long y10_6), (.long y12_3), (.long d)]) (rest := []) rfl rfl (Nat.le_of_eq rfl) (hb hby own_d2_81) (by decide) (by decide) ?_
        intro T17 h17 v17 L17 X17 e17 q17
        obtain ⟨r_17, R_17, rfl, M17, rfl, r17_0⟩ := q17
        have N17 := Fr.app N4 M17
        show G (T17.setTop (mkF m 84 #[.val (.long a), .second, .val (.long b), .second, .val (.long cc), .second, .val (.long d), .second, .val (.long y8_1), .second, .val (.long y10_6), .second, .val (.long y12_3), .second, .unset, .unset, .unset, .unset] [(.long r_17)]))
        refine hG _ _ (fun t k => XS.lstore X17.here hx rfl (hb hby own_d2_84) rfl (l' := #[.val (.long a), .second, .val (.long b), .second, .val (.long cc), .second, .val (.long d), .second, .val (.long y8_1), .second, .val (.long y10_6), .second, .val (.long y12_3), .second, .unset, .unset, .val (.long r_17), .second]) rfl k) ?_
        show G (T17.setTop (mkF m 86 #[.val (.long a), .second, .val (.long b), .second, .val (.long cc), .second, .val (.long d), .second, .val (.long y8_1), .second, .val (.long y10_6), .second, .val (.long y12_3), .second, .unset, .unset, .val (.long r_17), .second] []))
        refine hG _ _ (fun t k => XS.lload X17.here hx rfl (hb hby own_d2_86) rfl k) ?_
        show G (T17.setTop (mkF m 88 #[.val (.long a), .second, .val (.long b), .second, .val (.long cc), .second, .val (.long d), .second, .val (.long y8_1), .second, .val (.long y10_6), .second, .val (.long y12_3), .second, .unset, .unset, .val (.long r_17), .second] [(.long r_17)]))
        refine hG _ _ (fun t k => XS.lconst X17.here hx rfl (hb hby own_d2_88) k) ?_
        show G (T17.setTop (mkF m 89 #[.val (.long a), .second, .val (.long b), .second, .val (.long cc), .second, .val (.long d), .second, .val (.long y8_1), .second, .val (.long y10_6), .second, .val (.long y12_3), .second, .unset, .unset, .val (.long r_17), .second] [(.long (0 : Int64)), (.long r_17)]))
        refine hG _ _ (fun t k => XS.lcmp X17.here hx rfl (hb hby own_d2_89) rfl k) ?_
        show G (T17.setTop (mkF m 90 #[.val (.long a), .second, .val (.long b), .second, .val (.long cc), .second, .val (.long d), .second, .val (.long y8_1), .second, .val (.long y10_6), .second, .val (.long y12_3), .second, .unset, .unset, .val (.long r_17), .second] [(.int (lcmpW r_17 (0 : Int64)))]))
        by_cases hc90_18 : r_17 < (0 : Int64)
        · skip
          refine hG _ _ (fun t k => XS.ifNo X17.here hx rfl (hb hby own_d2_90) rfl ((if0 _ _).trans (tlt ((lw_lt _ _).mpr hc90_18)).2.1) k) ?_
          show G (T17.setTop (mkF m 93 #[.val (.long a), .second, .val (.long b), .second, .val (.long cc), .second, .val (.long d), .second, .val (.long y8_1), .second, .val (.long y10_6), .second, .val (.long y12_3), .second, .unset, .unset, .val (.long r_17), .second] []))
          refine hG _ _ (X17.ldc2Long hx hown (mvT hZ (hw _ (List.mem_of_getElem? (i := 21) rfl))) (g := (mkF m 93 #[.val (.long a), .second, .val (.long b), .second, .val (.long cc), .second, .val (.long d), .second, .val (.long y8_1), .second, .val (.long y10_6), .second, .val (.long y12_3), .second, .unset, .unset, .val (.long r_17), .second] [])) rfl (hb hby own_d2_93)) ?_
          show G (T17.setTop (mkF m 96 #[.val (.long a), .second, .val (.long b), .second, .val (.long cc), .second, .val (.long d), .second, .val (.long y8_1), .second, .val (.long y10_6), .second, .val (.long y12_3), .second, .unset, .unset, .val (.long r_17), .second] [(.long (9223372036854775807 : Int64))]))
          refine hG _ _ (fun t k => XS.goto X17.here hx rfl (pc0 := 96) (pc' := 101) rfl (hb hby own_d2_96) (by decide) (by decide) k) ?_
          show G (T17.setTop (mkF m 101 #[.val (.long a), .second, .val (.long b), .second, .val (.long cc), .second, .val (.long d), .second, .val (.long y8_1), .second, .val (.long y10_6), .second, .val (.long y12_3), .second, .unset, .unset, .val (.long r_17), .second] [(.long (9223372036854775807 : Int64))]))
          refine hG _ _ (fun t k => XS.lstore X17.here hx rfl (hb hby own_d2_101) rfl (l' := #[.val (.long a), .second, .val (.long b), .second, .val (.long cc), .second, .val (.long d), .second, .val (.long y8_1), .second, .val (.long y10_6), .second, .val (.long y12_3), .second, .val (.long (9223372036854775807 : Int64)), .second, .val (.long r_17), .second]) rfl k) ?_
          show G (T17.setTop (mkF m 103 #[.val (.long a), .second, .val (.long b), .second, .val (.long cc), .second, .val (.long d), .second, .val (.long y8_1), .second, .val (.long y10_6), .second, .val (.long y12_3), .second, .val (.long (9223372036854775807 : Int64)), .second, .val (.long r_17), .second] []))
          generalize hn_y14_19 : (9223372036854775807 : Int64) = y14_19
          refine hG _ _ (fun t k => XS.lload X17.here hx rfl (hb hby own_d2_103) rfl k) ?_
          show G (T17.setTop (mkF m 105 #[.val (.long a), .second, .val (.long b), .second, .val (.long cc), .second, .val (.long d), .second, .val (.long y8_1), .second, .val (.long y10_6), .second, .val (.long y12_3), .second, .val (.long y14_19), .second, .val (.long r_17), .second] [(.long y14_19)]))
          exact own_retL hR hret X17 hx (hb hby own_d2_105) (by decide) (by decide) (by rw [e17]; exact ⟨y14_19, rfl, N17, rfl, (by rw [← hn_y14_19]; exact own_fl_neg' r17_0 hc90_18 hX7 g3_h4)⟩)
        · skip
          refine hG _ _ (fun t k => XS.ifYes X17.here hx rfl (pc0 := 90) (pc' := 99) rfl (hb hby own_d2_90) rfl ((if0 _ _).trans (flt (fun q => hc90_18 ((lw_lt _ _).mp q))).2.1) (by decide) (by decide) k) ?_
          show G (T17.setTop (mkF m 99 #[.val (.long a), .second, .val (.long b), .second, .val (.long cc), .second, .val (.long d), .second, .val (.long y8_1), .second, .val (.long y10_6), .second, .val (.long y12_3), .second, .unset, .unset, .val (.long r_17), .second] []))
          refine hG _ _ (fun t k => XS.lload X17.here hx rfl (hb hby own_d2_99) rfl k) ?_
          show G (T17.setTop (mkF m 101 #[.val (.long a), .second, .val (.long b), .second, .val (.long cc), .second, .val (.long d), .second, .val (.long y8_1), .second, .val (.long y10_6), .second, .val (.long y12_3), .second, .unset, .unset, .val (.long r_17), .second] [(.long r_17)]))
          refine hG _ _ (fun t k => XS.lstore X17.here hx rfl (hb hby own_d2_101) rfl (l' := #[.val (.long a), .second, .val (.long b), .second, .val (.long cc), .second, .val (.long d), .second, .val (.long y8_1), .second, .val (.long y10_6), .second, .val (.long y12_3), .second, .val (.long r_17), .second, .val (.long r_17), .second]) rfl k) ?_
          show G (T17.setTop (mkF m 103 #[.val (.long a), .second, .val (.long b), .second, .val (.long cc), .second, .val (.long d), .second, .val (.long y8_1), .second, .val (.long y10_6), .second, .val (.long y12_3), .second, .val (.long r_17), .second, .val (.long r_17), .second] []))
          refine hG _ _ (fun t k => XS.lload X17.here hx rfl (hb hby own_d2_103) rfl k) ?_
          show G (T17.setTop (mkF m 105 #[.val (.long a), .second, .val (.long b), .second, .val (.long cc), .second, .val (.long d), .second, .val (.long y8_1), .second, .val (.long y10_6), .second, .val (.long y12_3), .second, .val (.long r_17), .second, .val (.long r_17), .second] [(.long r_17)]))
          exact own_retL hR hret X17 hx (hb hby own_d2_105) (by decide) (by decide) (by rw [e17]; exact ⟨r_17, rfl, N17, rfl, (own_fl_ok' r17_0 hc90_18 hX7)⟩)
      · skip
        refine hG _ _ (fun t k => XS.ifNo X4.here hx rfl (hb hby own_d2_64) rfl ((if0 _ _).trans (flt (fun q => hc64_16 ((lw_lt _ _).mp q))).1) k) ?_
        show G (T4.setTop (mkF m 67 #[.val (.long a), .second, .val (.long b), .second, .val (.long cc), .second, .val (.long d), .second, .val (.long y8_1), .second, .val (.long y10_6), .second, .val (.long y12_3), .second, .unset, .unset, .unset, .unset] []))
        refine hG _ _ (X4.ldc2Long hx hown (mvT hZ (hw _ (List.mem_of_getElem? (i := 21) rfl))) (g := (mkF m 67 #[.val (.long a), .second, .val (.long b), .second, .val (.long cc), .second, .val (.long d), .second, .val (.long y8_1), .second, .val (.long y10_6), .second, .val (.long y12_3), .second, .unset, .unset, .unset, .unset] [])) rfl (hb hby own_d2_67)) ?_
        show G (T4.setTop (mkF m 70 #[.val (.long a), .second, .val (.long b), .second, .val (.long cc), .second, .val (.long d), .second, .val (.long y8_1), .second, .val (.long y10_6), .second, .val (.long y12_3), .second, .unset, .unset, .unset, .unset] [(.long (9223372036854775807 : Int64))]))
        refine hG _ _ (fun t k => XS.lstore X4.here hx rfl (hb hby own_d2_70) rfl (l' := #[.val (.long a), .second, .val (.long b), .second, .val (.long cc), .second, .val (.long d), .second, .val (.long y8_1), .second, .val (.long y10_6), .second, .val (.long y12_3), .second, .val (.long (9223372036854775807 : Int64)), .second, .unset, .unset]) rfl k) ?_
        show G (T4.setTop (mkF m 72 #[.val (.long a), .second, .val (.long b), .second, .val (.long cc), .second, .val (.long d), .second, .val (.long y8_1), .second, .val (.long y10_6), .second, .val (.long y12_3), .second, .val (.long (9223372036854775807 : Int64)), .second, .unset, .unset] []))
        generalize hn_y14_20 : (9223372036854775807 : Int64) = y14_20
        refine hG _ _ (fun t k => XS.goto X4.here hx rfl (pc0 := 72) (pc' := 103) rfl (hb hby own_d2_72) (by decide) (by decide) k) ?_
        show G (T4.setTop (mkF m 103 #[.val (.long a), .second, .val (.long b), .second, .val (.long cc), .second, .val (.long d), .second, .val (.long y8_1), .second, .val (.long y10_6), .second, .val (.long y12_3), .second, .val (.long y14_20), .second, .unset, .unset] []))
        refine hG _ _ (fun t k => XS.lload X4.here hx rfl (hb hby own_d2_103) rfl k) ?_
        show G (T4.setTop (mkF m 105 #[.val (.long a), .second, .val (.long b), .second, .val (.long cc), .second, .val (.long d), .second, .val (.long y8_1), .second, .val (.long y10_6), .second, .val (.long y12_3), .second, .val (.long y14_20), .second, .unset, .unset] [(.long y14_20)]))
        exact own_retL hR hret X4 hx (hb hby own_d2_105) (by decide) (by decide) (by rw [e4]; exact ⟨y14_20, rfl, N4, rfl, (by rw [← hn_y14_20]; exact own_fl_big' hc64_16 hX7 g3_h4)⟩)
  · skip
    refine hG _ _ (fun t k => XS.ifYes X4.here hx rfl (pc0 := 26) (pc' := 35) rfl (hb hby own_d2_26) rfl ((if0 _ _).trans (flt hc26_5).2.1) (by decide) (by decide) k) ?_
    show G (T4.setTop (mkF m 35 #[.val (.long a), .second, .val (.long b), .second, .val (.long cc), .second, .val (.long d), .second, .val (.long y8_1), .second, .val (.long r_2), .second, .val (.long y12_3), .second, .unset, .unset, .unset, .unset] []))
    have ww21 := own_wide g0_h1 g1_h2 g2_h3 r2_0 hn_y8_1 hn_y12_3
    have hX21 : a.toInt * b.toInt + cc.toInt = r_2.toInt * 18446744073709551616 + own_U y12_3 := ww21.2.1 (fun q => hc26_5 (r4_0.mpr q))
    have hH21 : 0 ≤ r_2.toInt := ww21.2.2.1
    show G (T4.setTop (mkF m 35 #[.val (.long a), .second, .val (.long b), .second, .val (.long cc), .second, .val (.long d), .second, .val (.long y8_1), .second, .val (.long r_2), .second, .val (.long y12_3), .second, .unset, .unset, .unset, .unset] []))
    refine hG _ _ (fun t k => XS.lload X4.here hx rfl (hb hby own_d2_35) rfl k) ?_
    show G (T4.setTop (mkF m 37 #[.val (.long a), .second, .val (.long b), .second, .val (.long cc), .second, .val (.long d), .second, .val (.long y8_1), .second, .val (.long r_2), .second, .val (.long y12_3), .second, .unset, .unset, .unset, .unset] [(.long r_2)]))
    refine hG _ _ (fun t k => XS.lconst X4.here hx rfl (hb hby own_d2_37) k) ?_
    show G (T4.setTop (mkF m 38 #[.val (.long a), .second, .val (.long b), .second, .val (.long cc), .second, .val (.long d), .second, .val (.long y8_1), .second, .val (.long r_2), .second, .val (.long y12_3), .second, .unset, .unset, .unset, .unset] [(.long (0 : Int64)), (.long r_2)]))
    refine hG _ _ (fun t k => XS.lcmp X4.here hx rfl (hb hby own_d2_38) rfl k) ?_
    show G (T4.setTop (mkF m 39 #[.val (.long a), .second, .val (.long b), .second, .val (.long cc), .second, .val (.long d), .second, .val (.long y8_1), .second, .val (.long r_2), .second, .val (.long y12_3), .second, .unset, .unset, .unset, .unset] [(.int (lcmpW r_2 (0 : Int64)))]))
    by_cases hc39_22 : r_2 = (0 : Int64)
    · skip
      refine hG _ _ (fun t k => XS.ifNo X4.here hx rfl (hb hby own_d2_39) rfl ((if0 _ _).trans (teq ((lw_eq _ _).mpr hc39_22)).2) k) ?_
      show G (T4.setTop (mkF m 42 #[.val (.long a), .second, .val (.long b), .second, .val (.long cc), .second, .val (.long d), .second, .val (.long y8_1), .second, .val (.long r_2), .second, .val (.long y12_3), .second, .unset, .unset, .unset, .unset] []))
      refine hG _ _ (fun t k => XS.lload X4.here hx rfl (hb hby own_d2_42) rfl k) ?_
      show G (T4.setTop (mkF m 44 #[.val (.long a), .second, .val (.long b), .second, .val (.long cc), .second, .val (.long d), .second, .val (.long y8_1), .second, .val (.long r_2), .second, .val (.long y12_3), .second, .unset, .unset, .unset, .unset] [(.long y12_3)]))
      refine hG _ _ (fun t k => XS.lconst X4.here hx rfl (hb hby own_d2_44) k) ?_
      show G (T4.setTop (mkF m 45 #[.val (.long a), .second, .val (.long b), .second, .val (.long cc), .second, .val (.long d), .second, .val (.long y8_1), .second, .val (.long r_2), .second, .val (.long y12_3), .second, .unset, .unset, .unset, .unset] [(.long (0 : Int64)), (.long y12_3)]))
      refine hG _ _ (fun t k => XS.lcmp X4.here hx rfl (hb hby own_d2_45) rfl k) ?_
      show G (T4.setTop (mkF m 46 #[.val (.long a), .second, .val (.long b), .second, .val (.long cc), .second, .val (.long d), .second, .val (.long y8_1), .second, .val (.long r_2), .second, .val (.long y12_3), .second, .unset, .unset, .unset, .unset] [(.int (lcmpW y12_3 (0 : Int64)))]))
      by_cases hc46_23 : y12_3 < (0 : Int64)
      · skip
        refine hG _ _ (fun t k => XS.ifYes X4.here hx rfl (pc0 := 46) (pc' := 59) rfl (hb hby own_d2_46) rfl ((if0 _ _).trans (tlt ((lw_lt _ _).mpr hc46_23)).1) (by decide) (by decide) k) ?_
        show G (T4.setTop (mkF m 59 #[.val (.long a), .second, .val (.long b), .second, .val (.long cc), .second, .val (.long d), .second, .val (.long y8_1), .second, .val (.long r_2), .second, .val (.long y12_3), .second, .unset, .unset, .unset, .unset] []))
        refine hG _ _ (fun t k => XS.lload X4.here hx rfl (hb hby own_d2_59) rfl k) ?_
        show G (T4.setTop (mkF m 61 #[.val (.long a), .second, .val (.long b), .second, .val (.long cc), .second, .val (.long d), .second, .val (.long y8_1), .second, .val (.long r_2), .second, .val (.long y12_3), .second, .unset, .unset, .unset, .unset] [(.long r_2)]))
        refine hG _ _ (fun t k => XS.lload X4.here hx rfl (hb hby own_d2_61) rfl k) ?_
        show G (T4.setTop (mkF m 63 #[.val (.long a), .second, .val (.long b), .second, .val (.long cc), .second, .val (.long d), .second, .val (.long y8_1), .second, .val (.long r_2), .second, .val (.long y12_3), .second, .unset, .unset, .unset, .unset] [(.long d), (.long r_2)]))
        refine hG _ _ (fun t k => XS.lcmp X4.here hx rfl (hb hby own_d2_63) rfl k) ?_
        show G (T4.setTop (mkF m 64 #[.val (.long a), .second, .val (.long b), .second, .val (.long cc), .second, .val (.long d), .second, .val (.long y8_1), .second, .val (.long r_2), .second, .val (.long y12_3), .second, .unset, .unset, .unset, .unset] [(.int (lcmpW r_2 d))]))
        by_cases hc64_24 : r_2 < d
        · skip
          refine hG _ _ (fun t k => XS.ifYes X4.here hx rfl (pc0 := 64) (pc' := 75) rfl (hb hby own_d2_64) rfl ((if0 _ _).trans (tlt ((lw_lt _ _).mpr hc64_24)).1) (by decide) (by decide) k) ?_
          show G (T4.setTop (mkF m 75 #[.val (.long a), .second, .val (.long b), .second, .val (.long cc), .second, .val (.long d), .second, .val (.long y8_1), .second, .val (.long r_2), .second, .val (.long y12_3), .second, .unset, .unset, .unset, .unset] []))
          refine hG _ _ (fun t k => XS.lload X4.here hx rfl (hb hby own_d2_75) rfl k) ?_
          show G (T4.setTop (mkF m 77 #[.val (.long a), .second, .val (.long b), .second, .val (.long cc), .second, .val (.long d), .second, .val (.long y8_1), .second, .val (.long r_2), .second, .val (.long y12_3), .second, .unset, .unset, .unset, .unset] [(.long r_2)]))
          refine hG _ _ (fun t k => XS.lload X4.here hx rfl (hb hby own_d2_77) rfl k) ?_
          show G (T4.setTop (mkF m 79 #[.val (.long a), .second, .val (.long b), .second, .val (.long cc), .second, .val (.long d), .second, .val (.long y8_1), .second, .val (.long r_2), .second, .val (.long y12_3), .second, .unset, .unset, .unset, .unset] [(.long y12_3), (.long r_2)]))
          refine hG _ _ (fun t k => XS.lload X4.here hx rfl (hb hby own_d2_79) rfl k) ?_
          show G (T4.setTop (mkF m 81 #[.val (.long a), .second, .val (.long b), .second, .val (.long cc), .second, .val (.long d), .second, .val (.long y8_1), .second, .val (.long r_2), .second, .val (.long y12_3), .second, .unset, .unset, .unset, .unset] [(.long d), (.long y12_3), (.long r_2)]))
          refine own_callS X4 hx hZ hG hown (hw _ (List.mem_of_getElem? (i := 37) rfl)) (hw _ (List.mem_of_getElem? (i := 38) rfl)) (hw _ (List.mem_of_getElem? (i := 3) rfl)) (hw _ (List.mem_of_getElem? (i := 39) rfl)) (by decide) 0 (own_divide l Z a0 hw r_2 y12_3 d h0 O0 hH21 (own_lt64.mp hc64_24)) (by decide) (by decide) e4 (by rw [hml]; rfl) (lenOf own_pd2 rfl) (argsL := [(.long r_2), (.long y12_3), (.long d)]) (rest := []) rfl rfl (Nat.le_of_eq rfl) (hb hby own_d2_81) (by decide) (by decide) ?_
          intro T25 h25 v25 L25 X25 e25 q25
          obtain ⟨r_25, R_25, rfl, M25, rfl, r25_0⟩ := q25
          have N25 := Fr.app N4 M25
          show G (T25.setTop (mkF m 84 #[.val (.long a), .second, .val (.long b), .second, .val (.long cc), .second, .val (.long d), .second, .val (.long y8_1), .second, .val (.long r_2), .second, .val (.long y12_3), .second, .unset, .unset, .unset, .unset] [(.long r_25)]))
          refine hG _ _ (fun t k => XS.lstore X25.here hx rfl (hb hby own_d2_84) rfl (l' := #[.val (.long a), .second, .val (.long b), .second, .val (.long cc), .second, .val (.long d), .second, .val (.long y8_1), .second, .val (.long r_2), .second, .val (.long y12_3), .second, .unset, .unset, .val (.long r_25), .second]) rfl k) ?_
          show G (T25.setTop (mkF m 86 #[.val (.long a), .second, .val (.long b), .second, .val (.long cc), .second, .val (.long d), .second, .val (.long y8_1), .second, .val (.long r_2), .second, .val (.long y12_3), .second, .unset, .unset, .val (.long r_25), .second] []))
          refine hG _ _ (fun t k => XS.lload X25.here hx rfl (hb hby own_d2_86) rfl k) ?_
          show G (T25.setTop (mkF m 88 #[.val (.long a), .second, .val (.long b), .second, .val (.long cc), .second, .val (.long d), .second, .val (.long y8_1), .second, .val (.long r_2), .second, .val (.long y12_3), .second, .unset, .unset, .val (.long r_25), .second] [(.long r_25)]))
          refine hG _ _ (fun t k => XS.lconst X25.here hx rfl (hb hby own_d2_88) k) ?_
          show G (T25.setTop (mkF m 89 #[.val (.long a), .second, .val (.long b), .second, .val (.long cc), .second, .val (.long d), .second, .val (.long y8_1), .second, .val (.long r_2), .second, .val (.long y12_3), .second, .unset, .unset, .val (.long r_25), .second] [(.long (0 : Int64)), (.long r_25)]))
          refine hG _ _ (fun t k => XS.lcmp X25.here hx rfl (hb hby own_d2_89) rfl k) ?_
          show G (T25.setTop (mkF m 90 #[.val (.long a), .second, .val (.long b), .second, .val (.long cc), .second, .val (.long d), .second, .val (.long y8_1), .second, .val (.long r_2), .second, .val (.long y12_3), .second, .unset, .unset, .val (.long r_25), .second] [(.int (lcmpW r_25 (0 : Int64)))]))
          by_cases hc90_26 : r_25 < (0 : Int64)
          · skip
            refine hG _ _ (fun t k => XS.ifNo X25.here hx rfl (hb hby own_d2_90) rfl ((if0 _ _).trans (tlt ((lw_lt _ _).mpr hc90_26)).2.1) k) ?_
            show G (T25.setTop (mkF m 93 #[.val (.long a), .second, .val (.long b), .second, .val (.long cc), .second, .val (.long d), .second, .val (.long y8_1), .second, .val (.long r_2), .second, .val (.long y12_3), .second, .unset, .unset, .val (.long r_25), .second] []))
            refine hG _ _ (X25.ldc2Long hx hown (mvT hZ (hw _ (List.mem_of_getElem? (i := 21) rfl))) (g := (mkF m 93 #[.val (.long a), .second, .val (.long b), .second, .val (.long cc), .second, .val (.long d), .second, .val (.long y8_1), .second, .val (.long r_2), .second, .val (.long y12_3), .second, .unset, .unset, .val (.long r_25), .second] [])) rfl (hb hby own_d2_93)) ?_
            show G (T25.setTop (mkF m 96 #[.val (.long a), .second, .val (.long b), .second, .val (.long cc), .second, .val (.long d), .second, .val (.long y8_1), .second, .val (.long r_2), .second, .val (.long y12_3), .second, .unset, .unset, .val (.long r_25), .second] [(.long (9223372036854775807 : Int64))]))
            refine hG _ _ (fun t k => XS.goto X25.here hx rfl (pc0 := 96) (pc' := 101) rfl (hb hby own_d2_96) (by decide) (by decide) k) ?_
            show G (T25.setTop (mkF m 101 #[.val (.long a), .second, .val (.long b), .second, .val (.long cc), .second, .val (.long d), .second, .val (.long y8_1), .second, .val (.long r_2), .second, .val (.long y12_3), .second, .unset, .unset, .val (.long r_25), .second] [(.long (9223372036854775807 : Int64))]))
            refine hG _ _ (fun t k => XS.lstore X25.here hx rfl (hb hby own_d2_101) rfl (l' := #[.val (.long a), .second, .val (.long b), .second, .val (.long cc), .second, .val (.long d), .second, .val (.long y8_1), .second, .val (.long r_2), .second, .val (.long y12_3), .second, .val (.long (9223372036854775807 : Int64)), .second, .val (.long r_25), .second]) rfl k) ?_
            show G (T25.setTop (mkF m 103 #[.val (.long a), .second, .val (.long b), .second, .val (.long cc), .second, .val (.long d), .second, .val (.long y8_1), .second, .val (.long r_2), .second, .val (.long y12_3), .second, .val (.long (9223372036854775807 : Int64)), .second, .val (.long r_25), .second] []))
            generalize hn_y14_27 : (9223372036854775807 : Int64) = y14_27
            refine hG _ _ (fun t k => XS.lload X25.here hx rfl (hb hby own_d2_103) rfl k) ?_
            show G (T25.setTop (mkF m 105 #[.val (.long a), .second, .val (.long b), .second, .val (.long cc), .second, .val (.long d), .second, .val (.long y8_1), .second, .val (.long r_2), .second, .val (.long y12_3), .second, .val (.long y14_27), .second, .val (.long r_25), .second] [(.long y14_27)]))
            exact own_retL hR hret X25 hx (hb hby own_d2_105) (by decide) (by decide) (by rw [e25]; exact ⟨y14_27, rfl, N25, rfl, (by rw [← hn_y14_27]; exact own_fl_neg' r25_0 hc90_26 hX21 g3_h4)⟩)
          · skip
            refine hG _ _ (fun t k => XS.ifYes X25.here hx rfl (pc0 := 90) (pc' := 99) rfl (hb hby own_d2_90) rfl ((if0 _ _).trans (flt (fun q => hc90_26 ((lw_lt _ _).mp q))).2.1) (by decide) (by decide) k) ?_
            show G (T25.setTop (mkF m 99 #[.val (.long a), .second, .val (.long b), .second, .val (.long cc), .second, .val (.long d), .second, .val (.long y8_1), .second, .val (.long r_2), .second, .val (.long y12_3), .second, .unset, .unset, .val (.long r_25), .second] []))
            refine hG _ _ (fun t k => XS.lload X25.here hx rfl (hb hby own_d2_99) rfl k) ?_
            show G (T25.setTop (mkF m 101 #[.val (.long a), .second, .val (.long b), .second, .val (.long cc), .second, .val (.long d), .second, .val (.long y8_1), .second, .val (.long r_2), .second, .val (.long y12_3), .second, .unset, .unset, .val (.long r_25), .second] [(.long r_25)]))
            refine hG _ _ (fun t k => XS.lstore X25.here hx rfl (hb hby own_d2_101) rfl (l' := #[.val (.long a), .second, .val (.long b), .second, .val (.long cc), .second, .val (.long d), .second, .val (.long y8_1), .second, .val (.long r_2), .second, .val (.long y12_3), .second, .val (.long r_25), .second, .val (.long r_25), .second]) rfl k) ?_
            show G (T25.setTop (mkF m 103 #[.val (.long a), .second, .val (.long b), .second, .val (.long cc), .second, .val (.long d), .second, .val (.long y8_1), .second, .val (.long r_2), .second, .val (.long y12_3), .second, .val (.long r_25), .second, .val (.long r_25), .second] []))
            refine hG _ _ (fun t k => XS.lload X25.here hx rfl (hb hby own_d2_103) rfl k) ?_
            show G (T25.setTop (mkF m 105 #[.val (.long a), .second, .val (.long b), .second, .val (.long cc), .second, .val (.long d), .second, .val (.long y8_1), .second, .val (.long r_2), .second, .val (.long y12_3), .second, .val (.long r_25), .second, .val (.long r_25), .second] [(.long r_25)]))
            exact own_retL hR hret X25 hx (hb hby own_d2_105) (by decide) (by decide) (by rw [e25]; exact ⟨r_25, rfl, N25, rfl, (own_fl_ok' r25_0 hc90_26 hX21)⟩)
        · skip
          refine hG _ _ (fun t k => XS.ifNo X4.here hx rfl (hb hby own_d2_64) rfl ((if0 _ _).trans (flt (fun q => hc64_24 ((lw_lt _ _).mp q))).1) k) ?_
          show G (T4.setTop (mkF m 67 #[.val (.long a), .second, .val (.long b), .second, .val (.long cc), .second, .val (.long d), .second, .val (.long y8_1), .second, .val (.long r_2), .second, .val (.long y12_3), .second, .unset, .unset, .unset, .unset] []))
          refine hG _ _ (X4.ldc2Long hx hown (mvT hZ (hw _ (List.mem_of_getElem? (i := 21) rfl))) (g := (mkF m 67 #[.val (.long a), .second, .val (.long b), .second, .val (.long cc), .second, .val (.long d), .second, .val (.long y8_1), .second, .val (.long r_2), .second, .val (.long y12_3), .second, .unset, .unset, .unset, .unset] [])) rfl (hb hby own_d2_67)) ?_
          show G (T4.setTop (mkF m 70 #[.val (.long a), .second, .val (.long b), .second, .val (.long cc), .second, .val (.long d), .second, .val (.long y8_1), .second, .val (.long r_2), .second, .val (.long y12_3), .second, .unset, .unset, .unset, .unset] [(.long (9223372036854775807 : Int64))]))
          refine hG _ _ (fun t k => XS.lstore X4.here hx rfl (hb hby own_d2_70) rfl (l' := #[.val (.long a), .second, .val (.long b), .second, .val (.long cc), .second, .val (.long d), .second, .val (.long y8_1), .second, .val (.long r_2), .second, .val (.long y12_3), .second, .val (.long (9223372036854775807 : Int64)), .second, .unset, .unset]) rfl k) ?_
          show G (T4.setTop (mkF m 72 #[.val (.long a), .second, .val (.long b), .second, .val (.long cc), .second, .val (.long d), .second, .val (.long y8_1), .second, .val (.long r_2), .second, .val (.long y12_3), .second, .val (.long (9223372036854775807 : Int64)), .second, .unset, .unset] []))
          generalize hn_y14_28 : (9223372036854775807 : Int64) = y14_28
          refine hG _ _ (fun t k => XS.goto X4.here hx rfl (pc0 := 72) (pc' := 103) rfl (hb hby own_d2_72) (by decide) (by decide) k) ?_
          show G (T4.setTop (mkF m 103 #[.val (.long a), .second, .val (.long b), .second, .val (.long cc), .second, .val (.long d), .second, .val (.long y8_1), .second, .val (.long r_2), .second, .val (.long y12_3), .second, .val (.long y14_28), .second, .unset, .unset] []))
          refine hG _ _ (fun t k => XS.lload X4.here hx rfl (hb hby own_d2_103) rfl k) ?_
          show G (T4.setTop (mkF m 105 #[.val (.long a), .second, .val (.long b), .second, .val (.long cc), .second, .val (.long d), .second, .val (.long y8_1), .second, .val (.long r_2), .second, .val (.long y12_3), .second, .val (.long y14_28), .second, .unset, .unset] [(.long y14_28)]))
          exact own_retL hR hret X4 hx (hb hby own_d2_105) (by decide) (by decide) (by rw [e4]; exact ⟨y14_28, rfl, N4, rfl, (by rw [← hn_y14_28]; exact own_fl_big' hc64_24 hX21 g3_h4)⟩)
      · skip
        refine hG _ _ (fun t k => XS.ifNo X4.here hx rfl (hb hby own_d2_46) rfl ((if0 _ _).trans (flt (fun q => hc46_23 ((lw_lt _ _).mp q))).1) k) ?_
        show G (T4.setTop (mkF m 49 #[.val (.long a), .second, .val (.long b), .second, .val (.long cc), .second, .val (.long d), .second, .val (.long y8_1), .second, .val (.long r_2), .second, .val (.long y12_3), .second, .unset, .unset, .unset, .unset] []))
        refine hG _ _ (fun t k => XS.lload X4.here hx rfl (hb hby own_d2_49) rfl k) ?_
        show G (T4.setTop (mkF m 51 #[.val (.long a), .second, .val (.long b), .second, .val (.long cc), .second, .val (.long d), .second, .val (.long y8_1), .second, .val (.long r_2), .second, .val (.long y12_3), .second, .unset, .unset, .unset, .unset] [(.long y12_3)]))
        refine hG _ _ (fun t k => XS.lload X4.here hx rfl (hb hby own_d2_51) rfl k) ?_
        show G (T4.setTop (mkF m 53 #[.val (.long a), .second, .val (.long b), .second, .val (.long cc), .second, .val (.long d), .second, .val (.long y8_1), .second, .val (.long r_2), .second, .val (.long y12_3), .second, .unset, .unset, .unset, .unset] [(.long d), (.long y12_3)]))
        refine hG _ _ (fun t k => XS.ldiv X4.here hx rfl (hb hby own_d2_53) rfl (own_ne0 g3_h4) k) ?_
        show G (T4.setTop (mkF m 54 #[.val (.long a), .second, .val (.long b), .second, .val (.long cc), .second, .val (.long d), .second, .val (.long y8_1), .second, .val (.long r_2), .second, .val (.long y12_3), .second, .unset, .unset, .unset, .unset] [(.long (y12_3 / d))]))
        refine hG _ _ (fun t k => XS.lstore X4.here hx rfl (hb hby own_d2_54) rfl (l' := #[.val (.long a), .second, .val (.long b), .second, .val (.long cc), .second, .val (.long d), .second, .val (.long y8_1), .second, .val (.long r_2), .second, .val (.long y12_3), .second, .val (.long (y12_3 / d)), .second, .unset, .unset]) rfl k) ?_
        show G (T4.setTop (mkF m 56 #[.val (.long a), .second, .val (.long b), .second, .val (.long cc), .second, .val (.long d), .second, .val (.long y8_1), .second, .val (.long r_2), .second, .val (.long y12_3), .second, .val (.long (y12_3 / d)), .second, .unset, .unset] []))
        generalize hn_y14_29 : (y12_3 / d) = y14_29
        refine hG _ _ (fun t k => XS.goto X4.here hx rfl (pc0 := 56) (pc' := 103) rfl (hb hby own_d2_56) (by decide) (by decide) k) ?_
        show G (T4.setTop (mkF m 103 #[.val (.long a), .second, .val (.long b), .second, .val (.long cc), .second, .val (.long d), .second, .val (.long y8_1), .second, .val (.long r_2), .second, .val (.long y12_3), .second, .val (.long y14_29), .second, .unset, .unset] []))
        refine hG _ _ (fun t k => XS.lload X4.here hx rfl (hb hby own_d2_103) rfl k) ?_
        show G (T4.setTop (mkF m 105 #[.val (.long a), .second, .val (.long b), .second, .val (.long cc), .second, .val (.long d), .second, .val (.long y8_1), .second, .val (.long r_2), .second, .val (.long y12_3), .second, .val (.long y14_29), .second, .unset, .unset] [(.long y14_29)]))
        exact own_retL hR hret X4 hx (hb hby own_d2_105) (by decide) (by decide) (by rw [e4]; exact ⟨y14_29, rfl, N4, rfl, (by rw [← hn_y14_29]; exact own_fl_div' hc39_22 hc46_23 hX21 g3_h4)⟩)
    · skip
      refine hG _ _ (fun t k => XS.ifYes X4.here hx rfl (pc0 := 39) (pc' := 59) rfl (hb hby own_d2_39) rfl ((if0 _ _).trans (feq (fun q => hc39_22 ((lw_eq _ _).mp q))).2) (by decide) (by decide) k) ?_
      show G (T4.setTop (mkF m 59 #[.val (.long a), .second, .val (.long b), .second, .val (.long cc), .second, .val (.long d), .second, .val (.long y8_1), .second, .val (.long r_2), .second, .val (.long y12_3), .second, .unset, .unset, .unset, .unset] []))
      refine hG _ _ (fun t k => XS.lload X4.here hx rfl (hb hby own_d2_59) rfl k) ?_
      show G (T4.setTop (mkF m 61 #[.val (.long a), .second, .val (.long b), .second, .val (.long cc), .second, .val (.long d), .second, .val (.long y8_1), .second, .val (.long r_2), .second, .val (.long y12_3), .second, .unset, .unset, .unset, .unset] [(.long r_2)]))
      refine hG _ _ (fun t k => XS.lload X4.here hx rfl (hb hby own_d2_61) rfl k) ?_
      show G (T4.setTop (mkF m 63 #[.val (.long a), .second, .val (.long b), .second, .val (.long cc), .second, .val (.long d), .second, .val (.long y8_1), .second, .val (.long r_2), .second, .val (.long y12_3), .second, .unset, .unset, .unset, .unset] [(.long d), (.long r_2)]))
      refine hG _ _ (fun t k => XS.lcmp X4.here hx rfl (hb hby own_d2_63) rfl k) ?_
      show G (T4.setTop (mkF m 64 #[.val (.long a), .second, .val (.long b), .second, .val (.long cc), .second, .val (.long d), .second, .val (.long y8_1), .second, .val (.long r_2), .second, .val (.long y12_3), .second, .unset, .unset, .unset, .unset] [(.int (lcmpW r_2 d))]))
      by_cases hc64_30 : r_2 < d
      · skip
        refine hG _ _ (fun t k => XS.ifYes X4.here hx rfl (pc0 := 64) (pc' := 75) rfl (hb hby own_d2_64) rfl ((if0 _ _).trans (tlt ((lw_lt _ _).mpr hc64_30)).1) (by decide) (by decide) k) ?_
        show G (T4.setTop (mkF m 75 #[.val (.long a), .second, .val (.long b), .second, .val (.long cc), .second, .val (.long d), .second, .val (.long y8_1), .second, .val (.long r_2), .second, .val (.long y12_3), .second, .unset, .unset, .unset, .unset] []))
        refine hG _ _ (fun t k => XS.lload X4.here hx rfl (hb hby own_d2_75) rfl k) ?_
        show G (T4.setTop (mkF m 77 #[.val (.long a), .second, .val (.long b), .second, .val (.long cc), .second, .val (.long d), .second, .val (.long y8_1), .second, .val (.long r_2), .second, .val (.long y12_3), .second, .unset, .unset, .unset, .unset] [(.long r_2)]))
        refine hG _ _ (fun t k => XS.lload X4.here hx rfl (hb hby own_d2_77) rfl k) ?_
        show G (T4.setTop (mkF m 79 #[.val (.long a), .second, .val (.long b), .second, .val (.long cc), .second, .val (.long d), .second, .val (.long y8_1), .second, .val (.long r_2), .second, .val (.long y12_3), .second, .unset, .unset, .unset, .unset] [(.long y12_3), (.long r_2)]))
        refine hG _ _ (fun t k => XS.lload X4.here hx rfl (hb hby own_d2_79) rfl k) ?_
        show G (T4.setTop (mkF m 81 #[.val (.long a), .second, .val (.long b), .second, .val (.long cc), .second, .val (.long d), .second, .val (.long y8_1), .second, .val (.long r_2), .second, .val (.long y12_3), .second, .unset, .unset, .unset, .unset] [(.long d), (.long y12_3), (.long r_2)]))
        refine own_callS X4 hx hZ hG hown (hw _ (List.mem_of_getElem? (i := 37) rfl)) (hw _ (List.mem_of_getElem? (i := 38) rfl)) (hw _ (List.mem_of_getElem? (i := 3) rfl)) (hw _ (List.mem_of_getElem? (i := 39) rfl)) (by decide) 0 (own_divide l Z a0 hw r_2 y12_3 d h0 O0 hH21 (own_lt64.mp hc64_30)) (by decide) (by decide) e4 (by rw [hml]; rfl) (lenOf own_pd2 rfl) (argsL := [(.long r_2), (.long y12_3), (.long d)]) (rest := []) rfl rfl (Nat.le_of_eq rfl) (hb hby own_d2_81) (by decide) (by decide) ?_
        intro T31 h31 v31 L31 X31 e31 q31
        obtain ⟨r_31, R_31, rfl, M31, rfl, r31_0⟩ := q31
        have N31 := Fr.app N4 M31
        show G (T31.setTop (mkF m 84 #[.val (.long a), .second, .val (.long b), .second, .val (.long cc), .second, .val (.long d), .second, .val (.long y8_1), .second, .val (.long r_2), .second, .val (.long y12_3), .second, .unset, .unset, .unset, .unset] [(.long r_31)]))
        refine hG _ _ (fun t k => XS.lstore X31.here hx rfl (hb hby own_d2_84) rfl (l' := #[.val (.long a), .second, .val (.long b), .second, .val (.long cc), .second, .val (.long d), .second, .val (.long y8_1), .second, .val (.long r_2), .second, .val (.long y12_3), .second, .unset, .unset, .val (.long r_31), .second]) rfl k) ?_
        show G (T31.setTop (mkF m 86 #[.val (.long a), .second, .val (.long b), .second, .val (.long cc), .second, .val (.long d), .second, .val (.long y8_1), .second, .val (.long r_2), .second, .val (.long y12_3), .second, .unset, .unset, .val (.long r_31), .second] []))
        refine hG _ _ (fun t k => XS.lload X31.here hx rfl (hb hby own_d2_86) rfl k) ?_
        show G (T31.setTop (mkF m 88 #[.val (.long a), .second, .val (.long b), .second, .val (.long cc), .second, .val (.long d), .second, .val (.long y8_1), .second, .val (.long r_2), .second, .val (.long y12_3), .second, .unset, .unset, .val (.long r_31), .second] [(.long r_31)]))
        refine hG _ _ (fun t k => XS.lconst X31.here hx rfl (hb hby own_d2_88) k) ?_
        show G (T31.setTop (mkF m 89 #[.val (.long a), .second, .val (.long b), .second, .val (.long cc), .second, .val (.long d), .second, .val (.long y8_1), .second, .val (.long r_2), .second, .val (.long y12_3), .second, .unset, .unset, .val (.long r_31), .second] [(.long (0 : Int64)), (.long r_31)]))
        refine hG _ _ (fun t k => XS.lcmp X31.here hx rfl (hb hby own_d2_89) rfl k) ?_
        show G (T31.setTop (mkF m 90 #[.val (.long a), .second, .val (.long b), .second, .val (.long cc), .second, .val (.long d), .second, .val (.long y8_1), .second, .val (.long r_2), .second, .val (.long y12_3), .second, .unset, .unset, .val (.long r_31), .second] [(.int (lcmpW r_31 (0 : Int64)))]))
        by_cases hc90_32 : r_31 < (0 : Int64)
        · skip
          refine hG _ _ (fun t k => XS.ifNo X31.here hx rfl (hb hby own_d2_90) rfl ((if0 _ _).trans (tlt ((lw_lt _ _).mpr hc90_32)).2.1) k) ?_
          show G (T31.setTop (mkF m 93 #[.val (.long a), .second, .val (.long b), .second, .val (.long cc), .second, .val (.long d), .second, .val (.long y8_1), .second, .val (.long r_2), .second, .val (.long y12_3), .second, .unset, .unset, .val (.long r_31), .second] []))
          refine hG _ _ (X31.ldc2Long hx hown (mvT hZ (hw _ (List.mem_of_getElem? (i := 21) rfl))) (g := (mkF m 93 #[.val (.long a), .second, .val (.long b), .second, .val (.long cc), .second, .val (.long d), .second, .val (.long y8_1), .second, .val (.long r_2), .second, .val (.long y12_3), .second, .unset, .unset, .val (.long r_31), .second] [])) rfl (hb hby own_d2_93)) ?_
          show G (T31.setTop (mkF m 96 #[.val (.long a), .second, .val (.long b), .second, .val (.long cc), .second, .val (.long d), .second, .val (.long y8_1), .second, .val (.long r_2), .second, .val (.long y12_3), .second, .unset, .unset, .val (.long r_31), .second] [(.long (9223372036854775807 : Int64))]))
          refine hG _ _ (fun t k => XS.goto X31.here hx rfl (pc0 := 96) (pc' := 101) rfl (hb hby own_d2_96) (by decide) (by decide) k) ?_
          show G (T31.setTop (mkF m 101 #[.val (.long a), .second, .val (.long b), .second, .val (.long cc), .second, .val (.long d), .second, .val (.long y8_1), .second, .val (.long r_2), .second, .val (.long y12_3), .second, .unset, .unset, .val (.long r_31), .second] [(.long (9223372036854775807 : Int64))]))
          refine hG _ _ (fun t k => XS.lstore X31.here hx rfl (hb hby own_d2_101) rfl (l' := #[.val (.long a), .second, .val (.long b), .second, .val (.long cc), .second, .val (.long d), .second, .val (.long y8_1), .second, .val (.long r_2), .second, .val (.long y12_3), .second, .val (.long (9223372036854775807 : Int64)), .second, .val (.long r_31), .second]) rfl k) ?_
          show G (T31.setTop (mkF m 103 #[.val (.long a), .second, .val (.long b), .second, .val (.long cc), .second, .val (.long d), .second, .val (.long y8_1), .second, .val (.long r_2), .second, .val (.long y12_3), .second, .val (.long (9223372036854775807 : Int64)), .second, .val (.long r_31), .second] []))
          generalize hn_y14_33 : (9223372036854775807 : Int64) = y14_33
          refine hG _ _ (fun t k => XS.lload X31.here hx rfl (hb hby own_d2_103) rfl k) ?_
          show G (T31.setTop (mkF m 105 #[.val (.long a), .second, .val (.long b), .second, .val (.long cc), .second, .val (.long d), .second, .val (.long y8_1), .second, .val (.long r_2), .second, .val (.long y12_3), .second, .val (.long y14_33), .second, .val (.long r_31), .second] [(.long y14_33)]))
          exact own_retL hR hret X31 hx (hb hby own_d2_105) (by decide) (by decide) (by rw [e31]; exact ⟨y14_33, rfl, N31, rfl, (by rw [← hn_y14_33]; exact own_fl_neg' r31_0 hc90_32 hX21 g3_h4)⟩)
        · skip
          refine hG _ _ (fun t k => XS.ifYes X31.here hx rfl (pc0 := 90) (pc' := 99) rfl (hb hby own_d2_90) rfl ((if0 _ _).trans (flt (fun q => hc90_32 ((lw_lt _ _).mp q))).2.1) (by decide) (by decide) k) ?_
          show G (T31.setTop (mkF m 99 #[.val (.long a), .second, .val (.long b), .second, .val (.long cc), .second, .val (.long d), .second, .val (.long y8_1), .second, .val (.long r_2), .second, .val (.long y12_3), .second, .unset, .unset, .val (.long r_31), .second] []))
          refine hG _ _ (fun t k => XS.lload X31.here hx rfl (hb hby own_d2_99) rfl k) ?_
          show G (T31.setTop (mkF m 101 #[.val (.long a), .second, .val (.long b), .second, .val (.long cc), .second, .val (.long d), .second, .val (.long y8_1), .second, .val (.long r_2), .second, .val (.long y12_3), .second, .unset, .unset, .val (.long r_31), .second] [(.long r_31)]))
          refine hG _ _ (fun t k => XS.lstore X31.here hx rfl (hb hby own_d2_101) rfl (l' := #[.val (.long a), .second, .val (.long b), .second, .val (.long cc), .second, .val (.long d), .second, .val (.long y8_1), .second, .val (.long r_2), .second, .val (.long y12_3), .second, .val (.long r_31), .second, .val (.long r_31), .second]) rfl k) ?_
          show G (T31.setTop (mkF m 103 #[.val (.long a), .second, .val (.long b), .second, .val (.long cc), .second, .val (.long d), .second, .val (.long y8_1), .second, .val (.long r_2), .second, .val (.long y12_3), .second, .val (.long r_31), .second, .val (.long r_31), .second] []))
          refine hG _ _ (fun t k => XS.lload X31.here hx rfl (hb hby own_d2_103) rfl k) ?_
          show G (T31.setTop (mkF m 105 #[.val (.long a), .second, .val (.long b), .second, .val (.long cc), .second, .val (.long d), .second, .val (.long y8_1), .second, .val (.long r_2), .second, .val (.long y12_3), .second, .val (.long r_31), .second, .val (.long r_31), .second] [(.long r_31)]))
          exact own_retL hR hret X31 hx (hb hby own_d2_105) (by decide) (by decide) (by rw [e31]; exact ⟨r_31, rfl, N31, rfl, (own_fl_ok' r31_0 hc90_32 hX21)⟩)
      · skip
        refine hG _ _ (fun t k => XS.ifNo X4.here hx rfl (hb hby own_d2_64) rfl ((if0 _ _).trans (flt (fun q => hc64_30 ((lw_lt _ _).mp q))).1) k) ?_
        show G (T4.setTop (mkF m 67 #[.val (.long a), .second, .val (.long b), .second, .val (.long cc), .second, .val (.long d), .second, .val (.long y8_1), .second, .val (.long r_2), .second, .val (.long y12_3), .second, .unset, .unset, .unset, .unset] []))
        refine hG _ _ (X4.ldc2Long hx hown (mvT hZ (hw _ (List.mem_of_getElem? (i := 21) rfl))) (g := (mkF m 67 #[.val (.long a), .second, .val (.long b), .second, .val (.long cc), .second, .val (.long d), .second, .val (.long y8_1), .second, .val (.long r_2), .second, .val (.long y12_3), .second, .unset, .unset, .unset, .unset] [])) rfl (hb hby own_d2_67)) ?_
        show G (T4.setTop (mkF m 70 #[.val (.long a), .second, .val (.long b), .second, .val (.long cc), .second, .val (.long d), .second, .val (.long y8_1), .second, .val (.long r_2), .second, .val (.long y12_3), .second, .unset, .unset, .unset, .unset] [(.long (9223372036854775807 : Int64))]))
        refine hG _ _ (fun t k => XS.lstore X4.here hx rfl (hb hby own_d2_70) rfl (l' := #[.val (.long a), .second, .val (.long b), .second, .val (.long cc), .second, .val (.long d), .second, .val (.long y8_1), .second, .val (.long r_2), .second, .val (.long y12_3), .second, .val (.long (9223372036854775807 : Int64)), .second, .unset, .unset]) rfl k) ?_
        show G (T4.setTop (mkF m 72 #[.val (.long a), .second, .val (.long b), .second, .val (.long cc), .second, .val (.long d), .second, .val (.long y8_1), .second, .val (.long r_2), .second, .val (.long y12_3), .second, .val (.long (9223372036854775807 : Int64)), .second, .unset, .unset] []))
        generalize hn_y14_34 : (9223372036854775807 : Int64) = y14_34
        refine hG _ _ (fun t k => XS.goto X4.here hx rfl (pc0 := 72) (pc' := 103) rfl (hb hby own_d2_72) (by decide) (by decide) k) ?_
        show G (T4.setTop (mkF m 103 #[.val (.long a), .second, .val (.long b), .second, .val (.long cc), .second, .val (.long d), .second, .val (.long y8_1), .second, .val (.long r_2), .second, .val (.long y12_3), .second, .val (.long y14_34), .second, .unset, .unset] []))
        refine hG _ _ (fun t k => XS.lload X4.here hx rfl (hb hby own_d2_103) rfl k) ?_
        show G (T4.setTop (mkF m 105 #[.val (.long a), .second, .val (.long b), .second, .val (.long cc), .second, .val (.long d), .second, .val (.long y8_1), .second, .val (.long r_2), .second, .val (.long y12_3), .second, .val (.long y14_34), .second, .unset, .unset] [(.long y14_34)]))
        exact own_retL hR hret X4 hx (hb hby own_d2_105) (by decide) (by decide) (by rw [e4]; exact ⟨y14_34, rfl, N4, rfl, (by rw [← hn_y14_34]; exact own_fl_big' hc64_30 hX21 g3_h4)⟩)
set_option maxRecDepth 65536 in
set_option maxHeartbeats 40000000 in
theorem own_mulhi (l : Launch) (Z : State) (a0 : Array Value) (hw : ∀ d ∈ tables_1, d.before a0 Z = true) (x : Int64) (y : Int64) (h0 : Heap) (O0 : own_Old Z h0) (g0_hx : 0 ≤ x.toInt) (g1_hy : 0 ≤ y.toInt) :
    own_Con l Z (⟨"com/example/danaid/danaid/MulDivCeilPinLaw", "mulHigh", "(JJ)J"⟩ : MethodName) method_5_code 22 (some .long) [] ({ frames := 0, cells := 0, slots := 0, locals := 0 } : Room) #[(.long x), (.long y)] h0 (fun rv rh rL => ∃ (r : Int64), rv = some (.long r) ∧ own_Fr Z rL ∧ h0 = rh ∧ (r.toInt = x.toInt * y.toInt / 18446744073709551616)) := by
  refine own_intro (plainFor_of_name (by first | (simp [plainName, overriddenIn]; done) | decide +kernel)) ?_
  intro p e s m below meth c s₁ G hx hby hml hown hnm hret hZ X0 e0 hG hR
  have N0 := Fr.nil Z.heap.size
  refine own_entry (Ls := #[.val (.long x), .second, .val (.long y), .second, .unset, .unset, .unset, .unset, .unset, .unset, .unset, .unset, .unset, .unset, .unset, .unset, .unset, .unset, .unset, .unset, .unset, .unset]) (by first | (simp [entryFrame, mkF, argsToLocals, Value.category]; done) | rfl) ?_
  show G (s₁.setTop (mkF m 0 #[.val (.long x), .second, .val (.long y), .second, .unset, .unset, .unset, .unset, .unset, .unset, .unset, .unset, .unset, .unset, .unset, .unset, .unset, .unset, .unset, .unset, .unset, .unset] []))
  refine hG _ _ (fun t k => XS.lloadN X0.here hx rfl (hb hby own_d7_0) rfl k) ?_
  show G (s₁.setTop (mkF m 1 #[.val (.long x), .second, .val (.long y), .second, .unset, .unset, .unset, .unset, .unset, .unset, .unset, .unset, .unset, .unset, .unset, .unset, .unset, .unset, .unset, .unset, .unset, .unset] [(.long x)]))
  refine hG _ _ (X0.ldc2Long hx hown (mvT hZ (hw _ (List.mem_of_getElem? (i := 29) rfl))) (g := (mkF m 1 #[.val (.long x), .second, .val (.long y), .second, .unset, .unset, .unset, .unset, .unset, .unset, .unset, .unset, .unset, .unset, .unset, .unset, .unset, .unset, .unset, .unset, .unset, .unset] [(.long x)])) rfl (hb hby own_d7_1)) ?_
  show G (s₁.setTop (mkF m 4 #[.val (.long x), .second, .val (.long y), .second, .unset, .unset, .unset, .unset, .unset, .unset, .unset, .unset, .unset, .unset, .unset, .unset, .unset, .unset, .unset, .unset, .unset, .unset] [(.long (4294967295 : Int64)), (.long x)]))
  refine hG _ _ (fun t k => XS.land X0.here hx rfl (hb hby own_d7_4) rfl k) ?_
  show G (s₁.setTop (mkF m 5 #[.val (.long x), .second, .val (.long y), .second, .unset, .unset, .unset, .unset, .unset, .unset, .unset, .unset, .unset, .unset, .unset, .unset, .unset, .unset, .unset, .unset, .unset, .unset] [(.long (x &&& (4294967295 : Int64)))]))
  refine hG _ _ (fun t k => XS.lstore X0.here hx rfl (hb hby own_d7_5) rfl (l' := #[.val (.long x), .second, .val (.long y), .second, .val (.long (x &&& (4294967295 : Int64))), .second, .unset, .unset, .unset, .unset, .unset, .unset, .unset, .unset, .unset, .unset, .unset, .unset, .unset, .unset, .unset, .unset]) rfl k) ?_
  show G (s₁.setTop (mkF m 7 #[.val (.long x), .second, .val (.long y), .second, .val (.long (x &&& (4294967295 : Int64))), .second, .unset, .unset, .unset, .unset, .unset, .unset, .unset, .unset, .unset, .unset, .unset, .unset, .unset, .unset, .unset, .unset] []))
  generalize hn_y4_1 : (x &&& (4294967295 : Int64)) = y4_1
  refine hG _ _ (fun t k => XS.lloadN X0.here hx rfl (hb hby own_d7_7) rfl k) ?_
  show G (s₁.setTop (mkF m 8 #[.val (.long x), .second, .val (.long y), .second, .val (.long y4_1), .second, .unset, .unset, .unset, .unset, .unset, .unset, .unset, .unset, .unset, .unset, .unset, .unset, .unset, .unset, .unset, .unset] [(.long x)]))
  refine hG _ _ (fun t k => XS.bipush X0.here hx rfl (hb hby own_d7_8) k) ?_
  show G (s₁.setTop (mkF m 10 #[.val (.long x), .second, .val (.long y), .second, .val (.long y4_1), .second, .unset, .unset, .unset, .unset, .unset, .unset, .unset, .unset, .unset, .unset, .unset, .unset, .unset, .unset, .unset, .unset] [(.int (32 : Int32)), (.long x)]))
  refine hG _ _ (fun t k => XS.lushr X0.here hx rfl (hb hby own_d7_10) rfl k) ?_
  show G (s₁.setTop (mkF m 11 #[.val (.long x), .second, .val (.long y), .second, .val (.long y4_1), .second, .unset, .unset, .unset, .unset, .unset, .unset, .unset, .unset, .unset, .unset, .unset, .unset, .unset, .unset, .unset, .unset] [(.long ((x.toUInt64 >>> ((32 : Int32) &&& 0x3f).toInt64.toUInt64).toInt64))]))
  refine hG _ _ (fun t k => XS.lstore X0.here hx rfl (hb hby own_d7_11) rfl (l' := #[.val (.long x), .second, .val (.long y), .second, .val (.long y4_1), .second, .val (.long ((x.toUInt64 >>> ((32 : Int32) &&& 0x3f).toInt64.toUInt64).toInt64)), .second, .unset, .unset, .unset, .unset, .unset, .unset, .unset, .unset, .unset, .unset, .unset, .unset, .unset, .unset]) rfl k) ?_
  show G (s₁.setTop (mkF m 13 #[.val (.long x), .second, .val (.long y), .second, .val (.long y4_1), .second, .val (.long ((x.toUInt64 >>> ((32 : Int32) &&& 0x3f).toInt64.toUInt64).toInt64)), .second, .unset, .unset, .unset, .unset, .unset, .unset, .unset, .unset, .unset, .unset, .unset, .unset, .unset, .unset] []))
  generalize hn_y6_2 : ((x.toUInt64 >>> ((32 : Int32) &&& 0x3f).toInt64.toUInt64).toInt64) = y6_2
  refine hG _ _ (fun t k => XS.lloadN X0.here hx rfl (hb hby own_d7_13) rfl k) ?_
  show G (s₁.setTop (mkF m 14 #[.val (.long x), .second, .val (.long y), .second, .val (.long y4_1), .second, .val (.long y6_2), .second, .unset, .unset, .unset, .unset, .unset, .unset, .unset, .unset, .unset, .unset, .unset, .unset, .unset, .unset] [(.long y)]))
  refine hG _ _ (X0.ldc2Long hx hown (mvT hZ (hw _ (List.mem_of_getElem? (i := 29) rfl))) (g := (mkF m 14 #[.val (.long x), .second, .val (.long y), .second, .val (.long y4_1), .second, .val (.long y6_2), .second, .unset, .unset, .unset, .unset, .unset, .unset, .unset, .unset, .unset, .unset, .unset, .unset, .unset, .unset] [(.long y)])) rfl (hb hby own_d7_14)) ?_
  show G (s₁.setTop (mkF m 17 #[.val (.long x), .second, .val (.long y), .second, .val (.long y4_1), .second, .val (.long y6_2), .second, .unset, .unset, .unset, .unset, .unset, .unset, .unset, .unset, .unset, .unset, .unset, .unset, .unset, .unset] [(.long (4294967295 : Int64)), (.long y)]))
  refine hG _ _ (fun t k => XS.land X0.here hx rfl (hb hby own_d7_17) rfl k) ?_
  show G (s₁.setTop (mkF m 18 #[.val (.long x), .second, .val (.long y), .second, .val (.long y4_1), .second, .val (.long y6_2), .second, .unset, .unset, .unset, .unset, .unset, .unset, .unset, .unset, .unset, .unset, .unset, .unset, .unset, .unset] [(.long (y &&& (4294967295 : Int64)))]))
  refine hG _ _ (fun t k => XS.lstore X0.here hx rfl (hb hby own_d7_18) rfl (l' := #[.val (.long x), .second, .val (.long y), .second, .val (.long y4_1), .second, .val (.long y6_2), .second, .val (.long (y &&& (4294967295 : Int64))), .second, .unset, .unset, .unset, .unset, .unset, .unset, .unset, .unset, .unset, .unset, .unset, .unset]) rfl k) ?_
  show G (s₁.setTop (mkF m 20 #[.val (.long x), .second, .val (.long y), .second, .val (.long y4_1), .second, .val (.long y6_2), .second, .val (.long (y &&& (4294967295 : Int64))), .second, .unset, .unset, .unset, .unset, .unset, .unset, .unset, .unset, .unset, .unset, .unset, .unset] []))
  generalize hn_y8_3 : (y &&& (4294967295 : Int64)) = y8_3
  refine hG _ _ (fun t k => XS.lloadN X0.here hx rfl (hb hby own_d7_20) rfl k) ?_
  show G (s₁.setTop (mkF m 21 #[.val (.long x), .second, .val (.long y), .second, .val (.long y4_1), .second, .val (.long y6_2), .second, .val (.long y8_3), .second, .unset, .unset, .unset, .unset, .unset, .unset, .unset, .unset, .unset, .unset, .unset, .unset] [(.long y)]))
  refine hG _ _ (fun t k => XS.bipush X0.here hx rfl (hb hby own_d7_21) k) ?_
  show G (s₁.setTop (mkF m 23 #[.val (.long x), .second, .val (.long y), .second, .val (.long y4_1), .second, .val (.long y6_2), .second, .val (.long y8_3), .second, .unset, .unset, .unset, .unset, .unset, .unset, .unset, .unset, .unset, .unset, .unset, .unset] [(.int (32 : Int32)), (.long y)]))
  refine hG _ _ (fun t k => XS.lushr X0.here hx rfl (hb hby own_d7_23) rfl k) ?_
  show G (s₁.setTop (mkF m 24 #[.val (.long x), .second, .val (.long y), .second, .val (.long y4_1), .second, .val (.long y6_2), .second, .val (.long y8_3), .second, .unset, .unset, .unset, .unset, .unset, .unset, .unset, .unset, .unset, .unset, .unset, .unset] [(.long ((y.toUInt64 >>> ((32 : Int32) &&& 0x3f).toInt64.toUInt64).toInt64))]))
  refine hG _ _ (fun t k => XS.lstore X0.here hx rfl (hb hby own_d7_24) rfl (l' := #[.val (.long x), .second, .val (.long y), .second, .val (.long y4_1), .second, .val (.long y6_2), .second, .val (.long y8_3), .second, .val (.long ((y.toUInt64 >>> ((32 : Int32) &&& 0x3f).toInt64.toUInt64).toInt64)), .second, .unset, .unset, .unset, .unset, .unset, .unset, .unset, .unset, .unset, .unset]) rfl k) ?_
  show G (s₁.setTop (mkF m 26 #[.val (.long x), .second, .val (.long y), .second, .val (.long y4_1), .second, .val (.long y6_2), .second, .val (.long y8_3), .second, .val (.long ((y.toUInt64 >>> ((32 : Int32) &&& 0x3f).toInt64.toUInt64).toInt64)), .second, .unset, .unset, .unset, .unset, .unset, .unset, .unset, .unset, .unset, .unset] []))
  generalize hn_y10_4 : ((y.toUInt64 >>> ((32 : Int32) &&& 0x3f).toInt64.toUInt64).toInt64) = y10_4
  refine hG _ _ (fun t k => XS.lload X0.here hx rfl (hb hby own_d7_26) rfl k) ?_
  show G (s₁.setTop (mkF m 28 #[.val (.long x), .second, .val (.long y), .second, .val (.long y4_1), .second, .val (.long y6_2), .second, .val (.long y8_3), .second, .val (.long y10_4), .second, .unset, .unset, .unset, .unset, .unset, .unset, .unset, .unset, .unset, .unset] [(.long y4_1)]))
  refine hG _ _ (fun t k => XS.lload X0.here hx rfl (hb hby own_d7_28) rfl k) ?_
  show G (s₁.setTop (mkF m 30 #[.val (.long x), .second, .val (.long y), .second, .val (.long y4_1), .second, .val (.long y6_2), .second, .val (.long y8_3), .second, .val (.long y10_4), .second, .unset, .unset, .unset, .unset, .unset, .unset, .unset, .unset, .unset, .unset] [(.long y8_3), (.long y4_1)]))
  refine hG _ _ (fun t k => XS.lmul X0.here hx rfl (hb hby own_d7_30) rfl k) ?_
  show G (s₁.setTop (mkF m 31 #[.val (.long x), .second, .val (.long y), .second, .val (.long y4_1), .second, .val (.long y6_2), .second, .val (.long y8_3), .second, .val (.long y10_4), .second, .unset, .unset, .unset, .unset, .unset, .unset, .unset, .unset, .unset, .unset] [(.long (y4_1 * y8_3))]))
  refine hG _ _ (fun t k => XS.lstore X0.here hx rfl (hb hby own_d7_31) rfl (l' := #[.val (.long x), .second, .val (.long y), .second, .val (.long y4_1), .second, .val (.long y6_2), .second, .val (.long y8_3), .second, .val (.long y10_4), .second, .val (.long (y4_1 * y8_3)), .second, .unset, .unset, .unset, .unset, .unset, .unset, .unset, .unset]) rfl k) ?_
  show G (s₁.setTop (mkF m 33 #[.val (.long x), .second, .val (.long y), .second, .val (.long y4_1), .second, .val (.long y6_2), .second, .val (.long y8_3), .second, .val (.long y10_4), .second, .val (.long (y4_1 * y8_3)), .second, .unset, .unset, .unset, .unset, .unset, .unset, .unset, .unset] []))
  generalize hn_y12_5 : (y4_1 * y8_3) = y12_5
  refine hG _ _ (fun t k => XS.lload X0.here hx rfl (hb hby own_d7_33) rfl k) ?_
  show G (s₁.setTop (mkF m 35 #[.val (.long x), .second, .val (.long y), .second, .val (.long y4_1), .second, .val (.long y6_2), .second, .val (.long y8_3), .second, .val (.long y10_4), .second, .val (.long y12_5), .second, .unset, .unset, .unset, .unset, .unset, .unset, .unset, .unset] [(.long y4_1)]))
  refine hG _ _ (fun t k => XS.lload X0.here hx rfl (hb hby own_d7_35) rfl k) ?_
  show G (s₁.setTop (mkF m 37 #[.val (.long x), .second, .val (.long y), .second, .val (.long y4_1), .second, .val (.long y6_2), .second, .val (.long y8_3), .second, .val (.long y10_4), .second, .val (.long y12_5), .second, .unset, .unset, .unset, .unset, .unset, .unset, .unset, .unset] [(.long y10_4), (.long y4_1)]))
  refine hG _ _ (fun t k => XS.lmul X0.here hx rfl (hb hby own_d7_37) rfl k) ?_
  show G (s₁.setTop (mkF m 38 #[.val (.long x), .second, .val (.long y), .second, .val (.long y4_1), .second, .val (.long y6_2), .second, .val (.long y8_3), .second, .val (.long y10_4), .second, .val (.long y12_5), .second, .unset, .unset, .unset, .unset, .unset, .unset, .unset, .unset] [(.long (y4_1 * y10_4))]))
  refine hG _ _ (fun t k => XS.lstore X0.here hx rfl (hb hby own_d7_38) rfl (l' := #[.val (.long x), .second, .val (.long y), .second, .val (.long y4_1), .second, .val (.long y6_2), .second, .val (.long y8_3), .second, .val (.long y10_4), .second, .val (.long y12_5), .second, .val (.long (y4_1 * y10_4)), .second, .unset, .unset, .unset, .unset, .unset, .unset]) rfl k) ?_
  show G (s₁.setTop (mkF m 40 #[.val (.long x), .second, .val (.long y), .second, .val (.long y4_1), .second, .val (.long y6_2), .second, .val (.long y8_3), .second, .val (.long y10_4), .second, .val (.long y12_5), .second, .val (.long (y4_1 * y10_4)), .second, .unset, .unset, .unset, .unset, .unset, .unset] []))
  generalize hn_y14_6 : (y4_1 * y10_4) = y14_6
  refine hG _ _ (fun t k => XS.lload X0.here hx rfl (hb hby own_d7_40) rfl k) ?_
  show G (s₁.setTop (mkF m 42 #[.val (.long x), .second, .val (.long y), .second, .val (.long y4_1), .second, .val (.long y6_2), .second, .val (.long y8_3), .second, .val (.long y10_4), .second, .val (.long y12_5), .second, .val (.long y14_6), .second, .unset, .unset, .unset, .unset, .unset, .unset] [(.long y6_2)]))
  refine hG _ _ (fun t k => XS.lload X0.here hx rfl (hb hby own_d7_42) rfl k) ?_
  show G (s₁.setTop (mkF m 44 #[.val (.long x), .second, .val (.long y), .second, .val (.long y4_1), .second, .val (.long y6_2), .second, .val (.long y8_3), .second, .val (.long y10_4), .second, .val (.long y12_5), .second, .val (.long y14_6), .second, .unset, .unset, .unset, .unset, .unset, .unset] [(.long y8_3), (.long y6_2)]))
  refine hG _ _ (fun t k => XS.lmul X0.here hx rfl (hb hby own_d7_44) rfl k) ?_
  show G (s₁.setTop (mkF m 45 #[.val (.long x), .second, .val (.long y), .second, .val (.long y4_1), .second, .val (.long y6_2), .second, .val (.long y8_3), .second, .val (.long y10_4), .second, .val (.long y12_5), .second, .val (.long y14_6), .second, .unset, .unset, .unset, .unset, .unset, .unset] [(.long (y6_2 * y8_3))]))
  refine hG _ _ (fun t k => XS.lstore X0.here hx rfl (hb hby own_d7_45) rfl (l' := #[.val (.long x), .second, .val (.long y), .second, .val (.long y4_1), .second, .val (.long y6_2), .second, .val (.long y8_3), .second, .val (.long y10_4), .second, .val (.long y12_5), .second, .val (.long y14_6), .second, .val (.long (y6_2 * y8_3)), .second, .unset, .unset, .unset, .unset]) rfl k) ?_
  show G (s₁.setTop (mkF m 47 #[.val (.long x), .second, .val (.long y), .second, .val (.long y4_1), .second, .val (.long y6_2), .second, .val (.long y8_3), .second, .val (.long y10_4), .second, .val (.long y12_5), .second, .val (.long y14_6), .second, .val (.long (y6_2 * y8_3)), .second, .unset, .unset, .unset, .unset] []))
  generalize hn_y16_7 : (y6_2 * y8_3) = y16_7
  refine hG _ _ (fun t k => XS.lload X0.here hx rfl (hb hby own_d7_47) rfl k) ?_
  show G (s₁.setTop (mkF m 49 #[.val (.long x), .second, .val (.long y), .second, .val (.long y4_1), .second, .val (.long y6_2), .second, .val (.long y8_3), .second, .val (.long y10_4), .second, .val (.long y12_5), .second, .val (.long y14_6), .second, .val (.long y16_7), .second, .unset, .unset, .unset, .unset] [(.long y6_2)]))
  refine hG _ _ (fun t k => XS.lload X0.here hx rfl (hb hby own_d7_49) rfl k) ?_
  show G (s₁.setTop (mkF m 51 #[.val (.long x), .second, .val (.long y), .second, .val (.long y4_1), .second, .val (.long y6_2), .second, .val (.long y8_3), .second, .val (.long y10_4), .second, .val (.long y12_5), .second, .val (.long y14_6), .second, .val (.long y16_7), .second, .unset, .unset, .unset, .unset] [(.long y10_4), (.long y6_2)]))
  refine hG _ _ (fun t k => XS.lmul X0.here hx rfl (hb hby own_d7_51) rfl k) ?_
  show G (s₁.setTop (mkF m 52 #[.val (.long x), .second, .val (.long y), .second, .val (.long y4_1), .second, .val (.long y6_2), .second, .val (.long y8_3), .second, .val (.long y10_4), .second, .val (.long y12_5), .second, .val (.long y14_6), .second, .val (.long y16_7), .second, .unset, .unset, .unset, .unset] [(.long (y6_2 * y10_4))]))
  refine hG _ _ (fun t k => XS.lstore X0.here hx rfl (hb hby own_d7_52) rfl (l' := #[.val (.long x), .second, .val (.long y), .second, .val (.long y4_1), .second, .val (.long y6_2), .second, .val (.long y8_3), .second, .val (.long y10_4), .second, .val (.long y12_5), .second, .val (.long y14_6), .second, .val (.long y16_7), .second, .val (.long (y6_2 * y10_4)), .second, .unset, .unset]) rfl k) ?_
  show G (s₁.setTop (mkF m 54 #[.val (.long x), .second, .val (.long y), .second, .val (.long y4_1), .second, .val (.long y6_2), .second, .val (.long y8_3), .second, .val (.long y10_4), .second, .val (.long y12_5), .second, .val (.long y14_6), .second, .val (.long y16_7), .second, .val (.long (y6_2 * y10_4)), .second, .unset, .unset] []))
  generalize hn_y18_8 : (y6_2 * y10_4) = y18_8
  refine hG _ _ (fun t k => XS.lload X0.here hx rfl (hb hby own_d7_54) rfl k) ?_
  show G (s₁.setTop (mkF m 56 #[.val (.long x), .second, .val (.long y), .second, .val (.long y4_1), .second, .val (.long y6_2), .second, .val (.long y8_3), .second, .val (.long y10_4), .second, .val (.long y12_5), .second, .val (.long y14_6), .second, .val (.long y16_7), .second, .val (.long y18_8), .second, .unset, .unset] [(.long y12_5)]))
  refine hG _ _ (fun t k => XS.bipush X0.here hx rfl (hb hby own_d7_56) k) ?_
  show G (s₁.setTop (mkF m 58 #[.val (.long x), .second, .val (.long y), .second, .val (.long y4_1), .second, .val (.long y6_2), .second, .val (.long y8_3), .second, .val (.long y10_4), .second, .val (.long y12_5), .second, .val (.long y14_6), .second, .val (.long y16_7), .second, .val (.long y18_8), .second, .unset, .unset] [(.int (32 : Int32)), (.long y12_5)]))
  refine hG _ _ (fun t k => XS.lushr X0.here hx rfl (hb hby own_d7_58) rfl k) ?_
  show G (s₁.setTop (mkF m 59 #[.val (.long x), .second, .val (.long y), .second, .val (.long y4_1), .second, .val (.long y6_2), .second, .val (.long y8_3), .second, .val (.long y10_4), .second, .val (.long y12_5), .second, .val (.long y14_6), .second, .val (.long y16_7), .second, .val (.long y18_8), .second, .unset, .unset] [(.long ((y12_5.toUInt64 >>> ((32 : Int32) &&& 0x3f).toInt64.toUInt64).toInt64))]))
  refine hG _ _ (fun t k => XS.lload X0.here hx rfl (hb hby own_d7_59) rfl k) ?_
  show G (s₁.setTop (mkF m 61 #[.val (.long x), .second, .val (.long y), .second, .val (.long y4_1), .second, .val (.long y6_2), .second, .val (.long y8_3), .second, .val (.long y10_4), .second, .val (.long y12_5), .second, .val (.long y14_6), .second, .val (.long y16_7), .second, .val (.long y18_8), .second, .unset, .unset] [(.long y14_6), (.long ((y12_5.toUInt64 >>> ((32 : Int32) &&& 0x3f).toInt64.toUInt64).toInt64))]))
  refine hG _ _ (X0.ldc2Long hx hown (mvT hZ (hw _ (List.mem_of_getElem? (i := 29) rfl))) (g := (mkF m 61 #[.val (.long x), .second, .val (.long y), .second, .val (.long y4_1), .second, .val (.long y6_2), .second, .val (.long y8_3), .second, .val (.long y10_4), .second, .val (.long y12_5), .second, .val (.long y14_6), .second, .val (.long y16_7), .second, .val (.long y18_8), .second, .unset, .unset] [(.long y14_6), (.long ((y12_5.toUInt64 >>> ((32 : Int32) &&& 0x3f).toInt64.toUInt64).toInt64))])) rfl (hb hby own_d7_61)) ?_
  show G (s₁.setTop (mkF m 64 #[.val (.long x), .second, .val (.long y), .second, .val (.long y4_1), .second, .val (.long y6_2), .second, .val (.long y8_3), .second, .val (.long y10_4), .second, .val (.long y12_5), .second, .val (.long y14_6), .second, .val (.long y16_7), .second, .val (.long y18_8), .second, .unset, .unset] [(.long (4294967295 : Int64)), (.long y14_6), (.long ((y12_5.toUInt64 >>> ((32 : Int32) &&& 0x3f).toInt64.toUInt64).toInt64))]))
  refine hG _ _ (fun t k => XS.land X0.here hx rfl (hb hby own_d7_64) rfl k) ?_
  show G (s₁.setTop (mkF m 65 #[.val (.long x), .second, .val (.long y), .second, .val (.long y4_1), .second, .val (.long y6_2), .second, .val (.long y8_3), .second, .val (.long y10_4), .second, .val (.long y12_5), .second, .val (.long y14_6), .second, .val (.long y16_7), .second, .val (.long y18_8), .second, .unset, .unset] [(.long (y14_6 &&& (4294967295 : Int64))), (.long ((y12_5.toUInt64 >>> ((32 : Int32) &&& 0x3f).toInt64.toUInt64).toInt64))]))
  refine hG _ _ (fun t k => XS.ladd X0.here hx rfl (hb hby own_d7_65) rfl k) ?_
  show G (s₁.setTop (mkF m 66 #[.val (.long x), .second, .val (.long y), .second, .val (.long y4_1), .second, .val (.long y6_2), .second, .val (.long y8_3), .second, .val (.long y10_4), .second, .val (.long y12_5), .second, .val (.long y14_6), .second, .val (.long y16_7), .second, .val (.long y18_8), .second, .unset, .unset] [(.long (((y12_5.toUInt64 >>> ((32 : Int32) &&& 0x3f).toInt64.toUInt64).toInt64) + (y14_6 &&& (4294967295 : Int64))))]))
  refine hG _ _ (fun t k => XS.lload X0.here hx rfl (hb hby own_d7_66) rfl k) ?_
  show G (s₁.setTop (mkF m 68 #[.val (.long x), .second, .val (.long y), .second, .val (.long y4_1), .second, .val (.long y6_2), .second, .val (.long y8_3), .second, .val (.long y10_4), .second, .val (.long y12_5), .second, .val (.long y14_6), .second, .val (.long y16_7), .second, .val (.long y18_8), .second, .unset, .unset] [(.long y16_7), (.long (((y12_5.toUInt64 >>> ((32 : Int32) &&& 0x3f).toInt64.toUInt64).toInt64) + (y14_6 &&& (4294967295 : Int64))))]))
  refine hG _ _ (X0.ldc2Long hx hown (mvT hZ (hw _ (List.mem_of_getElem? (i := 29) rfl))) (g := (mkF m 68 #[.val (.long x), .second, .val (.long y), .second, .val (.long y4_1), .second, .val (.long y6_2), .second, .val (.long y8_3), .second, .val (.long y10_4), .second, .val (.long y12_5), .second, .val (.long y14_6), .second, .val (.long y16_7), .second, .val (.long y18_8), .second, .unset, .unset] [(.long y16_7), (.long (((y12_5.toUInt64 >>> ((32 : Int32) &&& 0x3f).toInt64.toUInt64).toInt64) + (y14_6 &&& (4294967295 : Int64))))])) rfl (hb hby own_d7_68)) ?_
  show G (s₁.setTop (mkF m 71 #[.val (.long x), .second, .val (.long y), .second, .val (.long y4_1), .second, .val (.long y6_2), .second, .val (.long y8_3), .second, .val (.long y10_4), .second, .val (.long y12_5), .second, .val (.long y14_6), .second, .val (.long y16_7), .second, .val (.long y18_8), .second, .unset, .unset] [(.long (4294967295 : Int64)), (.long y16_7), (.long (((y12_5.toUInt64 >>> ((32 : Int32) &&& 0x3f).toInt64.toUInt64).toInt64) + (y14_6 &&& (4294967295 : Int64))))]))
  refine hG _ _ (fun t k => XS.land X0.here hx rfl (hb hby own_d7_71) rfl k) ?_
  show G (s₁.setTop (mkF m 72 #[.val (.long x), .second, .val (.long y), .second, .val (.long y4_1), .second, .val (.long y6_2), .second, .val (.long y8_3), .second, .val (.long y10_4), .second, .val (.long y12_5), .second, .val (.long y14_6), .second, .val (.long y16_7), .second, .val (.long y18_8), .second, .unset, .unset] [(.long (y16_7 &&& (4294967295 : Int64))), (.long (((y12_5.toUInt64 >>> ((32 : Int32) &&& 0x3f).toInt64.toUInt64).toInt64) + (y14_6 &&& (4294967295 : Int64))))]))
  refine hG _ _ (fun t k => XS.ladd X0.here hx rfl (hb hby own_d7_72) rfl k) ?_
  show G (s₁.setTop (mkF m 73 #[.val (.long x), .second, .val (.long y), .second, .val (.long y4_1), .second, .val (.long y6_2), .second, .val (.long y8_3), .second, .val (.long y10_4), .second, .val (.long y12_5), .second, .val (.long y14_6), .second, .val (.long y16_7), .second, .val (.long y18_8), .second, .unset, .unset] [(.long ((((y12_5.toUInt64 >>> ((32 : Int32) &&& 0x3f).toInt64.toUInt64).toInt64) + (y14_6 &&& (4294967295 : Int64))) + (y16_7 &&& (4294967295 : Int64))))]))
  refine hG _ _ (fun t k => XS.lstore X0.here hx rfl (hb hby own_d7_73) rfl (l' := #[.val (.long x), .second, .val (.long y), .second, .val (.long y4_1), .second, .val (.long y6_2), .second, .val (.long y8_3), .second, .val (.long y10_4), .second, .val (.long y12_5), .second, .val (.long y14_6), .second, .val (.long y16_7), .second, .val (.long y18_8), .second, .val (.long ((((y12_5.toUInt64 >>> ((32 : Int32) &&& 0x3f).toInt64.toUInt64).toInt64) + (y14_6 &&& (4294967295 : Int64))) + (y16_7 &&& (4294967295 : Int64)))), .second]) rfl k) ?_
  show G (s₁.setTop (mkF m 75 #[.val (.long x), .second, .val (.long y), .second, .val (.long y4_1), .second, .val (.long y6_2), .second, .val (.long y8_3), .second, .val (.long y10_4), .second, .val (.long y12_5), .second, .val (.long y14_6), .second, .val (.long y16_7), .second, .val (.long y18_8), .second, .val (.long ((((y12_5.toUInt64 >>> ((32 : Int32) &&& 0x3f).toInt64.toUInt64).toInt64) + (y14_6 &&& (4294967295 : Int64))) + (y16_7 &&& (4294967295 : Int64)))), .second] []))
  generalize hn_y20_9 : ((((y12_5.toUInt64 >>> ((32 : Int32) &&& 0x3f).toInt64.toUInt64).toInt64) + (y14_6 &&& (4294967295 : Int64))) + (y16_7 &&& (4294967295 : Int64))) = y20_9
  refine hG _ _ (fun t k => XS.lload X0.here hx rfl (hb hby own_d7_75) rfl k) ?_
  show G (s₁.setTop (mkF m 77 #[.val (.long x), .second, .val (.long y), .second, .val (.long y4_1), .second, .val (.long y6_2), .second, .val (.long y8_3), .second, .val (.long y10_4), .second, .val (.long y12_5), .second, .val (.long y14_6), .second, .val (.long y16_7), .second, .val (.long y18_8), .second, .val (.long y20_9), .second] [(.long y18_8)]))
  refine hG _ _ (fun t k => XS.lload X0.here hx rfl (hb hby own_d7_77) rfl k) ?_
  show G (s₁.setTop (mkF m 79 #[.val (.long x), .second, .val (.long y), .second, .val (.long y4_1), .second, .val (.long y6_2), .second, .val (.long y8_3), .second, .val (.long y10_4), .second, .val (.long y12_5), .second, .val (.long y14_6), .second, .val (.long y16_7), .second, .val (.long y18_8), .second, .val (.long y20_9), .second] [(.long y14_6), (.long y18_8)]))
  refine hG _ _ (fun t k => XS.bipush X0.here hx rfl (hb hby own_d7_79) k) ?_
  show G (s₁.setTop (mkF m 81 #[.val (.long x), .second, .val (.long y), .second, .val (.long y4_1), .second, .val (.long y6_2), .second, .val (.long y8_3), .second, .val (.long y10_4), .second, .val (.long y12_5), .second, .val (.long y14_6), .second, .val (.long y16_7), .second, .val (.long y18_8), .second, .val (.long y20_9), .second] [(.int (32 : Int32)), (.long y14_6), (.long y18_8)]))
  refine hG _ _ (fun t k => XS.lushr X0.here hx rfl (hb hby own_d7_81) rfl k) ?_
  show G (s₁.setTop (mkF m 82 #[.val (.long x), .second, .val (.long y), .second, .val (.long y4_1), .second, .val (.long y6_2), .second, .val (.long y8_3), .second, .val (.long y10_4), .second, .val (.long y12_5), .second, .val (.long y14_6), .second, .val (.long y16_7), .second, .val (.long y18_8), .second, .val (.long y20_9), .second] [(.long ((y14_6.toUInt64 >>> ((32 : Int32) &&& 0x3f).toInt64.toUInt64).toInt64)), (.long y18_8)]))
  refine hG _ _ (fun t k => XS.ladd X0.here hx rfl (hb hby own_d7_82) rfl k) ?_
  show G (s₁.setTop (mkF m 83 #[.val (.long x), .second, .val (.long y), .second, .val (.long y4_1), .second, .val (.long y6_2), .second, .val (.long y8_3), .second, .val (.long y10_4), .second, .val (.long y12_5), .second, .val (.long y14_6), .second, .val (.long y16_7), .second, .val (.long y18_8), .second, .val (.long y20_9), .second] [(.long (y18_8 + ((y14_6.toUInt64 >>> ((32 : Int32) &&& 0x3f).toInt64.toUInt64).toInt64)))]))
  refine hG _ _ (fun t k => XS.lload X0.here hx rfl (hb hby own_d7_83) rfl k) ?_
  show G (s₁.setTop (mkF m 85 #[.val (.long x), .second, .val (.long y), .second, .val (.long y4_1), .second, .val (.long y6_2), .second, .val (.long y8_3), .second, .val (.long y10_4), .second, .val (.long y12_5), .second, .val (.long y14_6), .second, .val (.long y16_7), .second, .val (.long y18_8), .second, .val (.long y20_9), .second] [(.long y16_7), (.long (y18_8 + ((y14_6.toUInt64 >>> ((32 : Int32) &&& 0x3f).toInt64.toUInt64).toInt64)))]))
  refine hG _ _ (fun t k => XS.bipush X0.here hx rfl (hb hby own_d7_85) k) ?_
  show G (s₁.setTop (mkF m 87 #[.val (.long x), .second, .val (.long y), .second, .val (.long y4_1), .second, .val (.long y6_2), .second, .val (.long y8_3), .second, .val (.long y10_4), .second, .val (.long y12_5), .second, .val (.long y14_6), .second, .val (.long y16_7), .second, .val (.long y18_8), .second, .val (.long y20_9), .second] [(.int (32 : Int32)), (.long y16_7), (.long (y18_8 + ((y14_6.toUInt64 >>> ((32 : Int32) &&& 0x3f).toInt64.toUInt64).toInt64)))]))
  refine hG _ _ (fun t k => XS.lushr X0.here hx rfl (hb hby own_d7_87) rfl k) ?_
  show G (s₁.setTop (mkF m 88 #[.val (.long x), .second, .val (.long y), .second, .val (.long y4_1), .second, .val (.long y6_2), .second, .val (.long y8_3), .second, .val (.long y10_4), .second, .val (.long y12_5), .second, .val (.long y14_6), .second, .val (.long y16_7), .second, .val (.long y18_8), .second, .val (.long y20_9), .second] [(.long ((y16_7.toUInt64 >>> ((32 : Int32) &&& 0x3f).toInt64.toUInt64).toInt64)), (.long (y18_8 + ((y14_6.toUInt64 >>> ((32 : Int32) &&& 0x3f).toInt64.toUInt64).toInt64)))]))
  refine hG _ _ (fun t k => XS.ladd X0.here hx rfl (hb hby own_d7_88) rfl k) ?_
  show G (s₁.setTop (mkF m 89 #[.val (.long x), .second, .val (.long y), .second, .val (.long y4_1), .second, .val (.long y6_2), .second, .val (.long y8_3), .second, .val (.long y10_4), .second, .val (.long y12_5), .second, .val (.long y14_6), .second, .val (.long y16_7), .second, .val (.long y18_8), .second, .val (.long y20_9), .second] [(.long ((y18_8 + ((y14_6.toUInt64 >>> ((32 : Int32) &&& 0x3f).toInt64.toUInt64).toInt64)) + ((y16_7.toUInt64 >>> ((32 : Int32) &&& 0x3f).toInt64.toUInt64).toInt64)))]))
  refine hG _ _ (fun t k => XS.lload X0.here hx rfl (hb hby own_d7_89) rfl k) ?_
  show G (s₁.setTop (mkF m 91 #[.val (.long x), .second, .val (.long y), .second, .val (.long y4_1), .second, .val (.long y6_2), .second, .val (.long y8_3), .second, .val (.long y10_4), .second, .val (.long y12_5), .second, .val (.long y14_6), .second, .val (.long y16_7), .second, .val (.long y18_8), .second, .val (.long y20_9), .second] [(.long y20_9), (.long ((y18_8 + ((y14_6.toUInt64 >>> ((32 : Int32) &&& 0x3f).toInt64.toUInt64).toInt64)) + ((y16_7.toUInt64 >>> ((32 : Int32) &&& 0x3f).toInt64.toUInt64).toInt64)))]))
  refine hG _ _ (fun t k => XS.bipush X0.here hx rfl (hb hby own_d7_91) k) ?_
  show G (s₁.setTop (mkF m 93 #[.val (.long x), .second, .val (.long y), .second, .val (.long y4_1), .second, .val (.long y6_2), .second, .val (.long y8_3), .second, .val (.long y10_4), .second, .val (.long y12_5), .second, .val (.long y14_6), .second, .val (.long y16_7), .second, .val (.long y18_8), .second, .val (.long y20_9), .second] [(.int (32 : Int32)), (.long y20_9), (.long ((y18_8 + ((y14_6.toUInt64 >>> ((32 : Int32) &&& 0x3f).toInt64.toUInt64).toInt64)) + ((y16_7.toUInt64 >>> ((32 : Int32) &&& 0x3f).toInt64.toUInt64).toInt64)))]))
  refine hG _ _ (fun t k => XS.lushr X0.here hx rfl (hb hby own_d7_93) rfl k) ?_
  show G (s₁.setTop (mkF m 94 #[.val (.long x), .second, .val (.long y), .second, .val (.long y4_1), .second, .val (.long y6_2), .second, .val (.long y8_3), .second, .val (.long y10_4), .second, .val (.long y12_5), .second, .val (.long y14_6), .second, .val (.long y16_7), .second, .val (.long y18_8), .second, .val (.long y20_9), .second] [(.long ((y20_9.toUInt64 >>> ((32 : Int32) &&& 0x3f).toInt64.toUInt64).toInt64)), (.long ((y18_8 + ((y14_6.toUInt64 >>> ((32 : Int32) &&& 0x3f).toInt64.toUInt64).toInt64)) + ((y16_7.toUInt64 >>> ((32 : Int32) &&& 0x3f).toInt64.toUInt64).toInt64)))]))
  refine hG _ _ (fun t k => XS.ladd X0.here hx rfl (hb hby own_d7_94) rfl k) ?_
  show G (s₁.setTop (mkF m 95 #[.val (.long x), .second, .val (.long y), .second, .val (.long y4_1), .second, .val (.long y6_2), .second, .val (.long y8_3), .second, .val (.long y10_4), .second, .val (.long y12_5), .second, .val (.long y14_6), .second, .val (.long y16_7), .second, .val (.long y18_8), .second, .val (.long y20_9), .second] [(.long (((y18_8 + ((y14_6.toUInt64 >>> ((32 : Int32) &&& 0x3f).toInt64.toUInt64).toInt64)) + ((y16_7.toUInt64 >>> ((32 : Int32) &&& 0x3f).toInt64.toUInt64).toInt64)) + ((y20_9.toUInt64 >>> ((32 : Int32) &&& 0x3f).toInt64.toUInt64).toInt64)))]))
  exact own_retL hR hret X0 hx (hb hby own_d7_95) (by decide) (by decide) (by rw [e0]; exact ⟨(((y18_8 + ((y14_6.toUInt64 >>> ((32 : Int32) &&& 0x3f).toInt64.toUInt64).toInt64)) + ((y16_7.toUInt64 >>> ((32 : Int32) &&& 0x3f).toInt64.toUInt64).toInt64)) + ((y20_9.toUInt64 >>> ((32 : Int32) &&& 0x3f).toInt64.toUInt64).toInt64)), rfl, N0, rfl, (own_hiB g0_hx g1_hy hn_y4_1 hn_y6_2 hn_y8_3 hn_y10_4 hn_y12_5 hn_y14_6 hn_y16_7 hn_y18_8 hn_y20_9 rfl)⟩)
theorem own_pd4 : parseMethodDescriptor "(JJ)Z" = some ⟨[.long, .long], some .boolean⟩ := by decide +kernel
set_option maxRecDepth 65536 in
set_option maxHeartbeats 40000000 in
theorem own_ult (l : Launch) (Z : State) (a0 : Array Value) (hw : ∀ d ∈ tables_1, d.before a0 Z = true) (x : Int64) (y : Int64) (h0 : Heap) (O0 : own_Old Z h0) :
    own_Con l Z (⟨"com/example/danaid/danaid/MulDivCeilPinLaw", "ult", "(JJ)Z"⟩ : MethodName) method_3_code 4 (some .boolean) [] ({ frames := 0, cells := 0, slots := 0, locals := 0 } : Room) #[(.long x), (.long y)] h0 (fun rv rh rL => ∃ (r : Int32), rv = some (.int r) ∧ own_Fr Z rL ∧ h0 = rh ∧ (r = (0 : Int32) ↔ ¬ (own_U x < own_U y))) := by
  refine own_intro (plainFor_of_name (by first | (simp [plainName, overriddenIn]; done) | decide +kernel)) ?_
  intro p e s m below meth c s₁ G hx hby hml hown hnm hret hZ X0 e0 hG hR
  have N0 := Fr.nil Z.heap.size
  refine own_entry (Ls := #[.val (.long x), .second, .val (.long y), .second]) (by first | (simp [entryFrame, mkF, argsToLocals, Value.category]; done) | rfl) ?_
  show G (s₁.setTop (mkF m 0 #[.val (.long x), .second, .val (.long y), .second] []))
  refine hG _ _ (fun t k => XS.lloadN X0.here hx rfl (hb hby own_d8_0) rfl k) ?_
  show G (s₁.setTop (mkF m 1 #[.val (.long x), .second, .val (.long y), .second] [(.long x)]))
  refine hG _ _ (X0.ldc2Long hx hown (mvT hZ (hw _ (List.mem_of_getElem? (i := 33) rfl))) (g := (mkF m 1 #[.val (.long x), .second, .val (.long y), .second] [(.long x)])) rfl (hb hby own_d8_1)) ?_
  show G (s₁.setTop (mkF m 4 #[.val (.long x), .second, .val (.long y), .second] [(.long (-9223372036854775808 : Int64)), (.long x)]))
  refine hG _ _ (fun t k => XS.ladd X0.here hx rfl (hb hby own_d8_4) rfl k) ?_
  show G (s₁.setTop (mkF m 5 #[.val (.long x), .second, .val (.long y), .second] [(.long (x + (-9223372036854775808 : Int64)))]))
  refine hG _ _ (fun t k => XS.lloadN X0.here hx rfl (hb hby own_d8_5) rfl k) ?_
  show G (s₁.setTop (mkF m 6 #[.val (.long x), .second, .val (.long y), .second] [(.long y), (.long (x + (-9223372036854775808 : Int64)))]))
  refine hG _ _ (X0.ldc2Long hx hown (mvT hZ (hw _ (List.mem_of_getElem? (i := 33) rfl))) (g := (mkF m 6 #[.val (.long x), .second, .val (.long y), .second] [(.long y), (.long (x + (-9223372036854775808 : Int64)))])) rfl (hb hby own_d8_6)) ?_
  show G (s₁.setTop (mkF m 9 #[.val (.long x), .second, .val (.long y), .second] [(.long (-9223372036854775808 : Int64)), (.long y), (.long (x + (-9223372036854775808 : Int64)))]))
  refine hG _ _ (fun t k => XS.ladd X0.here hx rfl (hb hby own_d8_9) rfl k) ?_
  show G (s₁.setTop (mkF m 10 #[.val (.long x), .second, .val (.long y), .second] [(.long (y + (-9223372036854775808 : Int64))), (.long (x + (-9223372036854775808 : Int64)))]))
  refine hG _ _ (fun t k => XS.lcmp X0.here hx rfl (hb hby own_d8_10) rfl k) ?_
  show G (s₁.setTop (mkF m 11 #[.val (.long x), .second, .val (.long y), .second] [(.int (lcmpW (x + (-9223372036854775808 : Int64)) (y + (-9223372036854775808 : Int64))))]))
  by_cases hc11_1 : (x + (-9223372036854775808 : Int64)) < (y + (-9223372036854775808 : Int64))
  · skip
    refine hG _ _ (fun t k => XS.ifNo X0.here hx rfl (hb hby own_d8_11) rfl ((if0 _ _).trans (tlt ((lw_lt _ _).mpr hc11_1)).2.1) k) ?_
    show G (s₁.setTop (mkF m 14 #[.val (.long x), .second, .val (.long y), .second] []))
    refine hG _ _ (fun t k => XS.iconst X0.here hx rfl (hb hby own_d8_14) k) ?_
    show G (s₁.setTop (mkF m 15 #[.val (.long x), .second, .val (.long y), .second] [(.int (1 : Int32))]))
    refine hG _ _ (fun t k => XS.goto X0.here hx rfl (pc0 := 15) (pc' := 19) rfl (hb hby own_d8_15) (by decide) (by decide) k) ?_
    show G (s₁.setTop (mkF m 19 #[.val (.long x), .second, .val (.long y), .second] [(.int (1 : Int32))]))
    exact own_retN hR hret (by simp) X0 hx (hb hby own_d8_19) (by decide) (by decide) (by rw [e0]; exact ⟨(1 : Int32), rfl, N0, rfl, ⟨fun q => absurd q (by decide), fun q => absurd ((own_ultA _ _).mp hc11_1) q⟩⟩)
  · skip
    refine hG _ _ (fun t k => XS.ifYes X0.here hx rfl (pc0 := 11) (pc' := 18) rfl (hb hby own_d8_11) rfl ((if0 _ _).trans (flt (fun q => hc11_1 ((lw_lt _ _).mp q))).2.1) (by decide) (by decide) k) ?_
    show G (s₁.setTop (mkF m 18 #[.val (.long x), .second, .val (.long y), .second] []))
    refine hG _ _ (fun t k => XS.iconst X0.here hx rfl (hb hby own_d8_18) k) ?_
    show G (s₁.setTop (mkF m 19 #[.val (.long x), .second, .val (.long y), .second] [(.int (0 : Int32))]))
    exact own_retN hR hret (by simp) X0 hx (hb hby own_d8_19) (by decide) (by decide) (by rw [e0]; exact ⟨(0 : Int32), rfl, N0, rfl, ⟨fun _ q => hc11_1 ((own_ultA _ _).mpr q), fun _ => rfl⟩⟩)
theorem own_pd5 : parseMethodDescriptor "(JJJJ)Z" = some ⟨[.long, .long, .long, .long], some .boolean⟩ := by decide +kernel
set_option maxRecDepth 65536 in
set_option maxHeartbeats 40000000 in
theorem own_lt2 (l : Launch) (Z : State) (a0 : Array Value) (hw : ∀ d ∈ tables_1, d.before a0 Z = true) (h1 : Int64) (l1 : Int64) (h2 : Int64) (l2 : Int64) (h0 : Heap) (O0 : own_Old Z h0) (g0_hp : h1.toInt * 18446744073709551616 + own_U l1 < h2.toInt * 18446744073709551616 + own_U l2) :
    own_Con l Z (⟨"com/example/danaid/danaid/MulDivCeilPinLaw", "lt", "(JJJJ)Z"⟩ : MethodName) method_4_code 8 (some .boolean) [] ({ frames := 1, cells := 0, slots := 0, locals := 15 } : Room) #[(.long h1), (.long l1), (.long h2), (.long l2)] h0 (fun rv rh rL => rv = some (.int (1 : Int32)) ∧ own_Fr Z rL ∧ h0 = rh) := by
  refine own_intro (plainFor_of_name (by first | (simp [plainName, overriddenIn]; done) | decide +kernel)) ?_
  intro p e s m below meth c s₁ G hx hby hml hown hnm hret hZ X0 e0 hG hR
  have N0 := Fr.nil Z.heap.size
  refine own_entry (Ls := #[.val (.long h1), .second, .val (.long l1), .second, .val (.long h2), .second, .val (.long l2), .second]) (by first | (simp [entryFrame, mkF, argsToLocals, Value.category]; done) | rfl) ?_
  show G (s₁.setTop (mkF m 0 #[.val (.long h1), .second, .val (.long l1), .second, .val (.long h2), .second, .val (.long l2), .second] []))
  refine hG _ _ (fun t k => XS.lloadN X0.here hx rfl (hb hby own_d9_0) rfl k) ?_
  show G (s₁.setTop (mkF m 1 #[.val (.long h1), .second, .val (.long l1), .second, .val (.long h2), .second, .val (.long l2), .second] [(.long h1)]))
  refine hG _ _ (fun t k => XS.lload X0.here hx rfl (hb hby own_d9_1) rfl k) ?_
  show G (s₁.setTop (mkF m 3 #[.val (.long h1), .second, .val (.long l1), .second, .val (.long h2), .second, .val (.long l2), .second] [(.long h2), (.long h1)]))
  refine hG _ _ (fun t k => XS.lcmp X0.here hx rfl (hb hby own_d9_3) rfl k) ?_
  show G (s₁.setTop (mkF m 4 #[.val (.long h1), .second, .val (.long l1), .second, .val (.long h2), .second, .val (.long l2), .second] [(.int (lcmpW h1 h2))]))
  by_cases hc4_1 : h1 < h2
  · skip
    refine hG _ _ (fun t k => XS.ifYes X0.here hx rfl (pc0 := 4) (pc' := 23) rfl (hb hby own_d9_4) rfl ((if0 _ _).trans (tlt ((lw_lt _ _).mpr hc4_1)).1) (by decide) (by decide) k) ?_
    show G (s₁.setTop (mkF m 23 #[.val (.long h1), .second, .val (.long l1), .second, .val (.long h2), .second, .val (.long l2), .second] []))
    refine hG _ _ (fun t k => XS.iconst X0.here hx rfl (hb hby own_d9_23) k) ?_
    show G (s₁.setTop (mkF m 24 #[.val (.long h1), .second, .val (.long l1), .second, .val (.long h2), .second, .val (.long l2), .second] [(.int (1 : Int32))]))
    refine hG _ _ (fun t k => XS.goto X0.here hx rfl (pc0 := 24) (pc' := 28) rfl (hb hby own_d9_24) (by decide) (by decide) k) ?_
    show G (s₁.setTop (mkF m 28 #[.val (.long h1), .second, .val (.long l1), .second, .val (.long h2), .second, .val (.long l2), .second] [(.int (1 : Int32))]))
    exact own_retN hR hret (by simp) X0 hx (hb hby own_d9_28) (by decide) (by decide) (by rw [e0]; exact ⟨rfl, N0, rfl⟩)
  · skip
    refine hG _ _ (fun t k => XS.ifNo X0.here hx rfl (hb hby own_d9_4) rfl ((if0 _ _).trans (flt (fun q => hc4_1 ((lw_lt _ _).mp q))).1) k) ?_
    show G (s₁.setTop (mkF m 7 #[.val (.long h1), .second, .val (.long l1), .second, .val (.long h2), .second, .val (.long l2), .second] []))
    refine hG _ _ (fun t k => XS.lloadN X0.here hx rfl (hb hby own_d9_7) rfl k) ?_
    show G (s₁.setTop (mkF m 8 #[.val (.long h1), .second, .val (.long l1), .second, .val (.long h2), .second, .val (.long l2), .second] [(.long h1)]))
    refine hG _ _ (fun t k => XS.lload X0.here hx rfl (hb hby own_d9_8) rfl k) ?_
    show G (s₁.setTop (mkF m 10 #[.val (.long h1), .second, .val (.long l1), .second, .val (.long h2), .second, .val (.long l2), .second] [(.long h2), (.long h1)]))
    refine hG _ _ (fun t k => XS.lcmp X0.here hx rfl (hb hby own_d9_10) rfl k) ?_
    show G (s₁.setTop (mkF m 11 #[.val (.long h1), .second, .val (.long l1), .second, .val (.long h2), .second, .val (.long l2), .second] [(.int (lcmpW h1 h2))]))
    refine hG _ _ (fun t k => XS.ifNo X0.here hx rfl (hb hby own_d9_11) rfl ((if0 _ _).trans (teq ((lw_eq _ _).mpr (own_eq64.mpr (by have u1 := own_U_rng l1; have u2 := own_U_rng l2; have hp := g0_hp; have q := mt own_lt64.mpr hc4_1; omega)))).2) k) ?_
    show G (s₁.setTop (mkF m 14 #[.val (.long h1), .second, .val (.long l1), .second, .val (.long h2), .second, .val (.long l2), .second] []))
    refine hG _ _ (fun t k => XS.lloadN X0.here hx rfl (hb hby own_d9_14) rfl k) ?_
    show G (s₁.setTop (mkF m 15 #[.val (.long h1), .second, .val (.long l1), .second, .val (.long h2), .second, .val (.long l2), .second] [(.long l1)]))
    refine hG _ _ (fun t k => XS.lload X0.here hx rfl (hb hby own_d9_15) rfl k) ?_
    show G (s₁.setTop (mkF m 17 #[.val (.long h1), .second, .val (.long l1), .second, .val (.long h2), .second, .val (.long l2), .second] [(.long l2), (.long l1)]))
    refine own_callS X0 hx hZ hG hown (hw _ (List.mem_of_getElem? (i := 30) rfl)) (hw _ (List.mem_of_getElem? (i := 31) rfl)) (hw _ (List.mem_of_getElem? (i := 27) rfl)) (hw _ (List.mem_of_getElem? (i := 32) rfl)) (by decide) 0 (own_ult l Z a0 hw l1 l2 h0 O0) (by decide) (by decide) e0 (by rw [hml]; rfl) (lenOf own_pd4 rfl) (argsL := [(.long l1), (.long l2)]) (rest := []) rfl rfl (Nat.le_of_eq rfl) (hb hby own_d9_17) (by decide) (by decide) ?_
    intro T2 h2 v2 L2 X2 e2 q2
    obtain ⟨r_2, rfl, M2, rfl, r2_0⟩ := q2
    have N2 := Fr.app N0 M2
    show G (T2.setTop (mkF m 20 #[.val (.long h1), .second, .val (.long l1), .second, .val (.long h2), .second, .val (.long l2), .second] [(.int r_2)]))
    refine hG _ _ (fun t k => XS.ifNo X2.here hx rfl (hb hby own_d9_20) rfl ((if0 _ _).trans (feq (fun z => r2_0.mp z (by have u1 := own_U_rng l1; have u2 := own_U_rng l2; have hp := g0_hp; have q := mt own_lt64.mpr hc4_1; omega))).1) k) ?_
    show G (T2.setTop (mkF m 23 #[.val (.long h1), .second, .val (.long l1), .second, .val (.long h2), .second, .val (.long l2), .second] []))
    refine hG _ _ (fun t k => XS.iconst X2.here hx rfl (hb hby own_d9_23) k) ?_
    show G (T2.setTop (mkF m 24 #[.val (.long h1), .second, .val (.long l1), .second, .val (.long h2), .second, .val (.long l2), .second] [(.int (1 : Int32))]))
    refine hG _ _ (fun t k => XS.goto X2.here hx rfl (pc0 := 24) (pc' := 28) rfl (hb hby own_d9_24) (by decide) (by decide) k) ?_
    show G (T2.setTop (mkF m 28 #[.val (.long h1), .second, .val (.long l1), .second, .val (.long h2), .second, .val (.long l2), .second] [(.int (1 : Int32))]))
    exact own_retN hR hret (by simp) X2 hx (hb hby own_d9_28) (by decide) (by decide) (by rw [e2]; exact ⟨rfl, N2, rfl⟩)
set_option maxRecDepth 65536 in
set_option maxHeartbeats 40000000 in
theorem own_ltF (l : Launch) (Z : State) (a0 : Array Value) (hw : ∀ d ∈ tables_1, d.before a0 Z = true) (h1 : Int64) (l1 : Int64) (h2 : Int64) (l2 : Int64) (h0 : Heap) (O0 : own_Old Z h0) (g0_hp : h2.toInt * 18446744073709551616 + own_U l2 ≤ h1.toInt * 18446744073709551616 + own_U l1) :
    own_Con l Z (⟨"com/example/danaid/danaid/MulDivCeilPinLaw", "lt", "(JJJJ)Z"⟩ : MethodName) method_4_code 8 (some .boolean) [] ({ frames := 1, cells := 0, slots := 0, locals := 15 } : Room) #[(.long h1), (.long l1), (.long h2), (.long l2)] h0 (fun rv rh rL => rv = some (.int (0 : Int32)) ∧ own_Fr Z rL ∧ h0 = rh) := by
  refine own_intro (plainFor_of_name (by first | (simp [plainName, overriddenIn]; done) | decide +kernel)) ?_
  intro p e s m below meth c s₁ G hx hby hml hown hnm hret hZ X0 e0 hG hR
  have N0 := Fr.nil Z.heap.size
  refine own_entry (Ls := #[.val (.long h1), .second, .val (.long l1), .second, .val (.long h2), .second, .val (.long l2), .second]) (by first | (simp [entryFrame, mkF, argsToLocals, Value.category]; done) | rfl) ?_
  show G (s₁.setTop (mkF m 0 #[.val (.long h1), .second, .val (.long l1), .second, .val (.long h2), .second, .val (.long l2), .second] []))
  refine hG _ _ (fun t k => XS.lloadN X0.here hx rfl (hb hby own_d9_0) rfl k) ?_
  show G (s₁.setTop (mkF m 1 #[.val (.long h1), .second, .val (.long l1), .second, .val (.long h2), .second, .val (.long l2), .second] [(.long h1)]))
  refine hG _ _ (fun t k => XS.lload X0.here hx rfl (hb hby own_d9_1) rfl k) ?_
  show G (s₁.setTop (mkF m 3 #[.val (.long h1), .second, .val (.long l1), .second, .val (.long h2), .second, .val (.long l2), .second] [(.long h2), (.long h1)]))
  refine hG _ _ (fun t k => XS.lcmp X0.here hx rfl (hb hby own_d9_3) rfl k) ?_
  show G (s₁.setTop (mkF m 4 #[.val (.long h1), .second, .val (.long l1), .second, .val (.long h2), .second, .val (.long l2), .second] [(.int (lcmpW h1 h2))]))
  refine hG _ _ (fun t k => XS.ifNo X0.here hx rfl (hb hby own_d9_4) rfl ((if0 _ _).trans (flt (fun q => (fun z => absurd (own_lt64.mp z) (by have u1 := own_U_rng l1; have u2 := own_U_rng l2; have hp := g0_hp; omega)) ((lw_lt _ _).mp q))).1) k) ?_
  show G (s₁.setTop (mkF m 7 #[.val (.long h1), .second, .val (.long l1), .second, .val (.long h2), .second, .val (.long l2), .second] []))
  refine hG _ _ (fun t k => XS.lloadN X0.here hx rfl (hb hby own_d9_7) rfl k) ?_
  show G (s₁.setTop (mkF m 8 #[.val (.long h1), .second, .val (.long l1), .second, .val (.long h2), .second, .val (.long l2), .second] [(.long h1)]))
  refine hG _ _ (fun t k => XS.lload X0.here hx rfl (hb hby own_d9_8) rfl k) ?_
  show G (s₁.setTop (mkF m 10 #[.val (.long h1), .second, .val (.long l1), .second, .val (.long h2), .second, .val (.long l2), .second] [(.long h2), (.long h1)]))
  refine hG _ _ (fun t k => XS.lcmp X0.here hx rfl (hb hby own_d9_10) rfl k) ?_
  show G (s₁.setTop (mkF m 11 #[.val (.long h1), .second, .val (.long l1), .second, .val (.long h2), .second, .val (.long l2), .second] [(.int (lcmpW h1 h2))]))
  by_cases hc11_1 : h1 = h2
  · skip
    refine hG _ _ (fun t k => XS.ifNo X0.here hx rfl (hb hby own_d9_11) rfl ((if0 _ _).trans (teq ((lw_eq _ _).mpr hc11_1)).2) k) ?_
    show G (s₁.setTop (mkF m 14 #[.val (.long h1), .second, .val (.long l1), .second, .val (.long h2), .second, .val (.long l2), .second] []))
    refine hG _ _ (fun t k => XS.lloadN X0.here hx rfl (hb hby own_d9_14) rfl k) ?_
    show G (s₁.setTop (mkF m 15 #[.val (.long h1), .second, .val (.long l1), .second, .val (.long h2), .second, .val (.long l2), .second] [(.long l1)]))
    refine hG _ _ (fun t k => XS.lload X0.here hx rfl (hb hby own_d9_15) rfl k) ?_
    show G (s₁.setTop (mkF m 17 #[.val (.long h1), .second, .val (.long l1), .second, .val (.long h2), .second, .val (.long l2), .second] [(.long l2), (.long l1)]))
    refine own_callS X0 hx hZ hG hown (hw _ (List.mem_of_getElem? (i := 30) rfl)) (hw _ (List.mem_of_getElem? (i := 31) rfl)) (hw _ (List.mem_of_getElem? (i := 27) rfl)) (hw _ (List.mem_of_getElem? (i := 32) rfl)) (by decide) 0 (own_ult l Z a0 hw l1 l2 h0 O0) (by decide) (by decide) e0 (by rw [hml]; rfl) (lenOf own_pd4 rfl) (argsL := [(.long l1), (.long l2)]) (rest := []) rfl rfl (Nat.le_of_eq rfl) (hb hby own_d9_17) (by decide) (by decide) ?_
    intro T2 h2 v2 L2 X2 e2 q2
    obtain ⟨r_2, rfl, M2, rfl, r2_0⟩ := q2
    have N2 := Fr.app N0 M2
    show G (T2.setTop (mkF m 20 #[.val (.long h1), .second, .val (.long l1), .second, .val (.long h2), .second, .val (.long l2), .second] [(.int r_2)]))
    refine hG _ _ (fun t k => XS.ifYes X2.here hx rfl (pc0 := 20) (pc' := 27) rfl (hb hby own_d9_20) rfl ((if0 _ _).trans (teq (r2_0.mpr (by have u1 := own_U_rng l1; have u2 := own_U_rng l2; have hp := g0_hp; have q := own_eq64.mp hc11_1; omega))).1) (by decide) (by decide) k) ?_
    show G (T2.setTop (mkF m 27 #[.val (.long h1), .second, .val (.long l1), .second, .val (.long h2), .second, .val (.long l2), .second] []))
    refine hG _ _ (fun t k => XS.iconst X2.here hx rfl (hb hby own_d9_27) k) ?_
    show G (T2.setTop (mkF m 28 #[.val (.long h1), .second, .val (.long l1), .second, .val (.long h2), .second, .val (.long l2), .second] [(.int (0 : Int32))]))
    exact own_retN hR hret (by simp) X2 hx (hb hby own_d9_28) (by decide) (by decide) (by rw [e2]; exact ⟨rfl, N2, rfl⟩)
  · skip
    refine hG _ _ (fun t k => XS.ifYes X0.here hx rfl (pc0 := 11) (pc' := 27) rfl (hb hby own_d9_11) rfl ((if0 _ _).trans (feq (fun q => hc11_1 ((lw_eq _ _).mp q))).2) (by decide) (by decide) k) ?_
    show G (s₁.setTop (mkF m 27 #[.val (.long h1), .second, .val (.long l1), .second, .val (.long h2), .second, .val (.long l2), .second] []))
    refine hG _ _ (fun t k => XS.iconst X0.here hx rfl (hb hby own_d9_27) k) ?_
    show G (s₁.setTop (mkF m 28 #[.val (.long h1), .second, .val (.long l1), .second, .val (.long h2), .second, .val (.long l2), .second] [(.int (0 : Int32))]))
    exact own_retN hR hret (by simp) X0 hx (hb hby own_d9_28) (by decide) (by decide) (by rw [e0]; exact ⟨rfl, N0, rfl⟩)
theorem own_pd6 : parseMethodDescriptor "(JJJJJ)J" = some ⟨[.long, .long, .long, .long, .long], some .long⟩ := by decide +kernel
set_option maxRecDepth 65536 in
set_option maxHeartbeats 40000000 in
theorem own_mod (l : Launch) (Z : State) (a0 : Array Value) (hw : ∀ d ∈ tables_1, d.before a0 Z = true) (a : Int64) (b : Int64) (cc : Int64) (d : Int64) (q : Int64) (h0 : Heap) (O0 : own_Old Z h0) :
    own_Con l Z (⟨"com/example/danaid/danaid/MulDiv", "mod", "(JJJJJ)J"⟩ : MethodName) prog_7_method_5_code 10 (some .long) [] ({ frames := 0, cells := 0, slots := 0, locals := 0 } : Room) #[(.long a), (.long b), (.long cc), (.long d), (.long q)] h0 (fun rv rh rL => rv = some (.long (((a * b) + cc) - (q * d))) ∧ own_Fr Z rL ∧ h0 = rh) := by
  refine own_intro (plainFor_of_name (by first | (simp [plainName, overriddenIn]; done) | decide +kernel)) ?_
  intro p e s m below meth c s₁ G hx hby hml hown hnm hret hZ X0 e0 hG hR
  have N0 := Fr.nil Z.heap.size
  refine own_entry (Ls := #[.val (.long a), .second, .val (.long b), .second, .val (.long cc), .second, .val (.long d), .second, .val (.long q), .second]) (by first | (simp [entryFrame, mkF, argsToLocals, Value.category]; done) | rfl) ?_
  show G (s₁.setTop (mkF m 0 #[.val (.long a), .second, .val (.long b), .second, .val (.long cc), .second, .val (.long d), .second, .val (.long q), .second] []))
  refine hG _ _ (fun t k => XS.lloadN X0.here hx rfl (hb hby own_d6_0) rfl k) ?_
  show G (s₁.setTop (mkF m 1 #[.val (.long a), .second, .val (.long b), .second, .val (.long cc), .second, .val (.long d), .second, .val (.long q), .second] [(.long a)]))
  refine hG _ _ (fun t k => XS.lloadN X0.here hx rfl (hb hby own_d6_1) rfl k) ?_
  show G (s₁.setTop (mkF m 2 #[.val (.long a), .second, .val (.long b), .second, .val (.long cc), .second, .val (.long d), .second, .val (.long q), .second] [(.long b), (.long a)]))
  refine hG _ _ (fun t k => XS.lmul X0.here hx rfl (hb hby own_d6_2) rfl k) ?_
  show G (s₁.setTop (mkF m 3 #[.val (.long a), .second, .val (.long b), .second, .val (.long cc), .second, .val (.long d), .second, .val (.long q), .second] [(.long (a * b))]))
  refine hG _ _ (fun t k => XS.lload X0.here hx rfl (hb hby own_d6_3) rfl k) ?_
  show G (s₁.setTop (mkF m 5 #[.val (.long a), .second, .val (.long b), .second, .val (.long cc), .second, .val (.long d), .second, .val (.long q), .second] [(.long cc), (.long (a * b))]))
  refine hG _ _ (fun t k => XS.ladd X0.here hx rfl (hb hby own_d6_5) rfl k) ?_
  show G (s₁.setTop (mkF m 6 #[.val (.long a), .second, .val (.long b), .second, .val (.long cc), .second, .val (.long d), .second, .val (.long q), .second] [(.long ((a * b) + cc))]))
  refine hG _ _ (fun t k => XS.lload X0.here hx rfl (hb hby own_d6_6) rfl k) ?_
  show G (s₁.setTop (mkF m 8 #[.val (.long a), .second, .val (.long b), .second, .val (.long cc), .second, .val (.long d), .second, .val (.long q), .second] [(.long q), (.long ((a * b) + cc))]))
  refine hG _ _ (fun t k => XS.lload X0.here hx rfl (hb hby own_d6_8) rfl k) ?_
  show G (s₁.setTop (mkF m 10 #[.val (.long a), .second, .val (.long b), .second, .val (.long cc), .second, .val (.long d), .second, .val (.long q), .second] [(.long d), (.long q), (.long ((a * b) + cc))]))
  refine hG _ _ (fun t k => XS.lmul X0.here hx rfl (hb hby own_d6_10) rfl k) ?_
  show G (s₁.setTop (mkF m 11 #[.val (.long a), .second, .val (.long b), .second, .val (.long cc), .second, .val (.long d), .second, .val (.long q), .second] [(.long (q * d)), (.long ((a * b) + cc))]))
  refine hG _ _ (fun t k => XS.lsub X0.here hx rfl (hb hby own_d6_11) rfl k) ?_
  show G (s₁.setTop (mkF m 12 #[.val (.long a), .second, .val (.long b), .second, .val (.long cc), .second, .val (.long d), .second, .val (.long q), .second] [(.long (((a * b) + cc) - (q * d)))]))
  exact own_retL hR hret X0 hx (hb hby own_d6_12) (by decide) (by decide) (by rw [e0]; exact ⟨rfl, N0, rfl⟩)
set_option maxRecDepth 65536 in
set_option maxHeartbeats 40000000 in
theorem own_ceil (l : Launch) (Z : State) (a0 : Array Value) (hw : ∀ d ∈ tables_1, d.before a0 Z = true) (a : Int64) (b : Int64) (cc : Int64) (d : Int64) (h0 : Heap) (O0 : own_Old Z h0) (g0_h1 : 0 ≤ a.toInt) (g1_h2 : 0 ≤ b.toInt) (g2_h3 : 0 ≤ cc.toInt) (g3_h4 : 0 < d.toInt) :
    own_Con l Z (⟨"com/example/danaid/danaid/MulDiv", "ceil", "(JJJJ)J"⟩ : MethodName) prog_7_method_3_code 10 (some .long) [] ({ frames := 4, cells := 0, slots := 0, locals := 81 } : Room) #[(.long a), (.long b), (.long cc), (.long d)] h0 (fun rv rh rL => ∃ (r : Int64), rv = some (.long r) ∧ own_Fr Z rL ∧ h0 = rh ∧ (own_ce (a.toInt * b.toInt + cc.toInt) d.toInt r.toInt)) := by
  refine own_intro (plainFor_of_name (by first | (simp [plainName, overriddenIn]; done) | decide +kernel)) ?_
  intro p e s m below meth c s₁ G hx hby hml hown hnm hret hZ X0 e0 hG hR
  have N0 := Fr.nil Z.heap.size
  refine own_entry (Ls := #[.val (.long a), .second, .val (.long b), .second, .val (.long cc), .second, .val (.long d), .second, .unset, .unset]) (by first | (simp [entryFrame, mkF, argsToLocals, Value.category]; done) | rfl) ?_
  show G (s₁.setTop (mkF m 0 #[.val (.long a), .second, .val (.long b), .second, .val (.long cc), .second, .val (.long d), .second, .unset, .unset] []))
  refine hG _ _ (fun t k => XS.lloadN X0.here hx rfl (hb hby own_d1_0) rfl k) ?_
  show G (s₁.setTop (mkF m 1 #[.val (.long a), .second, .val (.long b), .second, .val (.long cc), .second, .val (.long d), .second, .unset, .unset] [(.long a)]))
  refine hG _ _ (fun t k => XS.lloadN X0.here hx rfl (hb hby own_d1_1) rfl k) ?_
  show G (s₁.setTop (mkF m 2 #[.val (.long a), .second, .val (.long b), .second, .val (.long cc), .second, .val (.long d), .second, .unset, .unset] [(.long b), (.long a)]))
  refine hG _ _ (fun t k => XS.lload X0.here hx rfl (hb hby own_d1_2) rfl k) ?_
  show G (s₁.setTop (mkF m 4 #[.val (.long a), .second, .val (.long b), .second, .val (.long cc), .second, .val (.long d), .second, .unset, .unset] [(.long cc), (.long b), (.long a)]))
  refine hG _ _ (fun t k => XS.lload X0.here hx rfl (hb hby own_d1_4) rfl k) ?_
  show G (s₁.setTop (mkF m 6 #[.val (.long a), .second, .val (.long b), .second, .val (.long cc), .second, .val (.long d), .second, .unset, .unset] [(.long d), (.long cc), (.long b), (.long a)]))
  refine own_callS X0 hx hZ hG hown (hw _ (List.mem_of_getElem? (i := 5) rfl)) (hw _ (List.mem_of_getElem? (i := 6) rfl)) (hw _ (List.mem_of_getElem? (i := 3) rfl)) (hw _ (List.mem_of_getElem? (i := 7) rfl)) (by decide) 0 (own_floor l Z a0 hw a b cc d h0 O0 g0_h1 g1_h2 g2_h3 g3_h4) (by decide) (by decide) e0 (by rw [hml]; rfl) (lenOf own_pd3 rfl) (argsL := [(.long a), (.long b), (.long cc), (.long d)]) (rest := []) rfl rfl (Nat.le_of_eq rfl) (hb hby own_d1_6) (by decide) (by decide) ?_
  intro T1 h1 v1 L1 X1 e1 q1
  obtain ⟨r_1, rfl, M1, rfl, r1_0⟩ := q1
  have N1 := Fr.app N0 M1
  show G (T1.setTop (mkF m 9 #[.val (.long a), .second, .val (.long b), .second, .val (.long cc), .second, .val (.long d), .second, .unset, .unset] [(.long r_1)]))
  refine hG _ _ (fun t k => XS.lstore X1.here hx rfl (hb hby own_d1_9) rfl (l' := #[.val (.long a), .second, .val (.long b), .second, .val (.long cc), .second, .val (.long d), .second, .val (.long r_1), .second]) rfl k) ?_
  show G (T1.setTop (mkF m 11 #[.val (.long a), .second, .val (.long b), .second, .val (.long cc), .second, .val (.long d), .second, .val (.long r_1), .second] []))
  refine hG _ _ (fun t k => XS.lload X1.here hx rfl (hb hby own_d1_11) rfl k) ?_
  show G (T1.setTop (mkF m 13 #[.val (.long a), .second, .val (.long b), .second, .val (.long cc), .second, .val (.long d), .second, .val (.long r_1), .second] [(.long r_1)]))
  refine hG _ _ (X1.ldc2Long hx hown (mvT hZ (hw _ (List.mem_of_getElem? (i := 21) rfl))) (g := (mkF m 13 #[.val (.long a), .second, .val (.long b), .second, .val (.long cc), .second, .val (.long d), .second, .val (.long r_1), .second] [(.long r_1)])) rfl (hb hby own_d1_13)) ?_
  show G (T1.setTop (mkF m 16 #[.val (.long a), .second, .val (.long b), .second, .val (.long cc), .second, .val (.long d), .second, .val (.long r_1), .second] [(.long (9223372036854775807 : Int64)), (.long r_1)]))
  refine hG _ _ (fun t k => XS.lcmp X1.here hx rfl (hb hby own_d1_16) rfl k) ?_
  show G (T1.setTop (mkF m 17 #[.val (.long a), .second, .val (.long b), .second, .val (.long cc), .second, .val (.long d), .second, .val (.long r_1), .second] [(.int (lcmpW r_1 (9223372036854775807 : Int64)))]))
  by_cases hc17_2 : r_1 = (9223372036854775807 : Int64)
  · skip
    refine hG _ _ (fun t k => XS.ifNo X1.here hx rfl (hb hby own_d1_17) rfl ((if0 _ _).trans (teq ((lw_eq _ _).mpr hc17_2)).2) k) ?_
    show G (T1.setTop (mkF m 20 #[.val (.long a), .second, .val (.long b), .second, .val (.long cc), .second, .val (.long d), .second, .val (.long r_1), .second] []))
    refine hG _ _ (fun t k => XS.lload X1.here hx rfl (hb hby own_d1_20) rfl k) ?_
    show G (T1.setTop (mkF m 22 #[.val (.long a), .second, .val (.long b), .second, .val (.long cc), .second, .val (.long d), .second, .val (.long r_1), .second] [(.long r_1)]))
    exact own_retL hR hret X1 hx (hb hby own_d1_22) (by decide) (by decide) (by rw [e1]; exact ⟨r_1, rfl, N1, rfl, (by have e : r_1.toInt = 9223372036854775807 := own_eq64.mp hc17_2; have q := own_fl_le r1_0; rw [e] at q ⊢; exact own_ce_max g3_h4 q)⟩)
  · skip
    refine hG _ _ (fun t k => XS.ifYes X1.here hx rfl (pc0 := 17) (pc' := 23) rfl (hb hby own_d1_17) rfl ((if0 _ _).trans (feq (fun q => hc17_2 ((lw_eq _ _).mp q))).2) (by decide) (by decide) k) ?_
    show G (T1.setTop (mkF m 23 #[.val (.long a), .second, .val (.long b), .second, .val (.long cc), .second, .val (.long d), .second, .val (.long r_1), .second] []))
    refine hG _ _ (fun t k => XS.lloadN X1.here hx rfl (hb hby own_d1_23) rfl k) ?_
    show G (T1.setTop (mkF m 24 #[.val (.long a), .second, .val (.long b), .second, .val (.long cc), .second, .val (.long d), .second, .val (.long r_1), .second] [(.long a)]))
    refine hG _ _ (fun t k => XS.lloadN X1.here hx rfl (hb hby own_d1_24) rfl k) ?_
    show G (T1.setTop (mkF m 25 #[.val (.long a), .second, .val (.long b), .second, .val (.long cc), .second, .val (.long d), .second, .val (.long r_1), .second] [(.long b), (.long a)]))
    refine hG _ _ (fun t k => XS.lload X1.here hx rfl (hb hby own_d1_25) rfl k) ?_
    show G (T1.setTop (mkF m 27 #[.val (.long a), .second, .val (.long b), .second, .val (.long cc), .second, .val (.long d), .second, .val (.long r_1), .second] [(.long cc), (.long b), (.long a)]))
    refine hG _ _ (fun t k => XS.lload X1.here hx rfl (hb hby own_d1_27) rfl k) ?_
    show G (T1.setTop (mkF m 29 #[.val (.long a), .second, .val (.long b), .second, .val (.long cc), .second, .val (.long d), .second, .val (.long r_1), .second] [(.long d), (.long cc), (.long b), (.long a)]))
    refine hG _ _ (fun t k => XS.lload X1.here hx rfl (hb hby own_d1_29) rfl k) ?_
    show G (T1.setTop (mkF m 31 #[.val (.long a), .second, .val (.long b), .second, .val (.long cc), .second, .val (.long d), .second, .val (.long r_1), .second] [(.long r_1), (.long d), (.long cc), (.long b), (.long a)]))
    refine own_callS X1 hx hZ hG hown (hw _ (List.mem_of_getElem? (i := 22) rfl)) (hw _ (List.mem_of_getElem? (i := 23) rfl)) (hw _ (List.mem_of_getElem? (i := 3) rfl)) (hw _ (List.mem_of_getElem? (i := 24) rfl)) (by decide) 0 (own_mod l Z a0 hw a b cc d r_1 h0 O0) (by decide) (by decide) e1 (by rw [hml]; rfl) (lenOf own_pd6 rfl) (argsL := [(.long a), (.long b), (.long cc), (.long d), (.long r_1)]) (rest := []) rfl rfl (Nat.le_of_eq rfl) (hb hby own_d1_31) (by decide) (by decide) ?_
    intro T3 h3 v3 L3 X3 e3 q3
    obtain ⟨rfl, M3, rfl⟩ := q3
    have N3 := Fr.app N1 M3
    show G (T3.setTop (mkF m 34 #[.val (.long a), .second, .val (.long b), .second, .val (.long cc), .second, .val (.long d), .second, .val (.long r_1), .second] [(.long (((a * b) + cc) - (r_1 * d)))]))
    refine hG _ _ (fun t k => XS.lconst X3.here hx rfl (hb hby own_d1_34) k) ?_
    show G (T3.setTop (mkF m 35 #[.val (.long a), .second, .val (.long b), .second, .val (.long cc), .second, .val (.long d), .second, .val (.long r_1), .second] [(.long (0 : Int64)), (.long (((a * b) + cc) - (r_1 * d)))]))
    refine hG _ _ (fun t k => XS.lcmp X3.here hx rfl (hb hby own_d1_35) rfl k) ?_
    show G (T3.setTop (mkF m 36 #[.val (.long a), .second, .val (.long b), .second, .val (.long cc), .second, .val (.long d), .second, .val (.long r_1), .second] [(.int (lcmpW (((a * b) + cc) - (r_1 * d)) (0 : Int64)))]))
    by_cases hc36_4 : (((a * b) + cc) - (r_1 * d)) = (0 : Int64)
    · skip
      refine hG _ _ (fun t k => XS.ifNo X3.here hx rfl (hb hby own_d1_36) rfl ((if0 _ _).trans (teq ((lw_eq _ _).mpr hc36_4)).2) k) ?_
      show G (T3.setTop (mkF m 39 #[.val (.long a), .second, .val (.long b), .second, .val (.long cc), .second, .val (.long d), .second, .val (.long r_1), .second] []))
      refine hG _ _ (fun t k => XS.lload X3.here hx rfl (hb hby own_d1_39) rfl k) ?_
      show G (T3.setTop (mkF m 41 #[.val (.long a), .second, .val (.long b), .second, .val (.long cc), .second, .val (.long d), .second, .val (.long r_1), .second] [(.long r_1)]))
      refine hG _ _ (fun t k => XS.goto X3.here hx rfl (pc0 := 41) (pc' := 48) rfl (hb hby own_d1_41) (by decide) (by decide) k) ?_
      show G (T3.setTop (mkF m 48 #[.val (.long a), .second, .val (.long b), .second, .val (.long cc), .second, .val (.long d), .second, .val (.long r_1), .second] [(.long r_1)]))
      exact own_retL hR hret X3 hx (hb hby own_d1_48) (by decide) (by decide) (by rw [e3]; exact ⟨r_1, rfl, N3, rfl, (by have ne : r_1.toInt ≠ 9223372036854775807 := (fun z => hc17_2 (own_eq64.mpr z)); have q1 := own_fl_le r1_0; have q2 := own_fl_lt r1_0 ne; have q0 := own_fl_nn r1_0; have qm := own_modv q1 q2; have e := own_eq0.mp hc36_4; exact own_ce_eq g3_h4 q0 ne (by omega))⟩)
    · skip
      refine hG _ _ (fun t k => XS.ifYes X3.here hx rfl (pc0 := 36) (pc' := 44) rfl (hb hby own_d1_36) rfl ((if0 _ _).trans (feq (fun q => hc36_4 ((lw_eq _ _).mp q))).2) (by decide) (by decide) k) ?_
      show G (T3.setTop (mkF m 44 #[.val (.long a), .second, .val (.long b), .second, .val (.long cc), .second, .val (.long d), .second, .val (.long r_1), .second] []))
      refine hG _ _ (fun t k => XS.lload X3.here hx rfl (hb hby own_d1_44) rfl k) ?_
      show G (T3.setTop (mkF m 46 #[.val (.long a), .second, .val (.long b), .second, .val (.long cc), .second, .val (.long d), .second, .val (.long r_1), .second] [(.long r_1)]))
      refine hG _ _ (fun t k => XS.lconst X3.here hx rfl (hb hby own_d1_46) k) ?_
      show G (T3.setTop (mkF m 47 #[.val (.long a), .second, .val (.long b), .second, .val (.long cc), .second, .val (.long d), .second, .val (.long r_1), .second] [(.long (1 : Int64)), (.long r_1)]))
      refine hG _ _ (fun t k => XS.ladd X3.here hx rfl (hb hby own_d1_47) rfl k) ?_
      show G (T3.setTop (mkF m 48 #[.val (.long a), .second, .val (.long b), .second, .val (.long cc), .second, .val (.long d), .second, .val (.long r_1), .second] [(.long (r_1 + (1 : Int64)))]))
      exact own_retL hR hret X3 hx (hb hby own_d1_48) (by decide) (by decide) (by rw [e3]; exact ⟨(r_1 + (1 : Int64)), rfl, N3, rfl, (by have ne : r_1.toInt ≠ 9223372036854775807 := (fun z => hc17_2 (own_eq64.mpr z)); have q1 := own_fl_le r1_0; have q2 := own_fl_lt r1_0 ne; have q0 := own_fl_nn r1_0; have qm := own_modv q1 q2; have e := mt own_eq0.mpr hc36_4; have r1 := rng64 r_1; have e2 := c_ladd r_1 1; have e3 : (1 : Int64).toInt = 1 := (by decide); have r2 := rng64 (r_1 + 1); have e4 : (r_1 + (1 : Int64)).toInt = r_1.toInt + 1 := (by omega); rw [e4]; exact own_ce_up g3_h4 q0 (by omega) q2)⟩)
theorem own_pd7 : parseMethodDescriptor "(JJJJI)Z" = some ⟨[.long, .long, .long, .long, .int], some .boolean⟩ := by decide +kernel
set_option maxRecDepth 65536 in
set_option maxHeartbeats 40000000 in
theorem own_law (l : Launch) (Z : State) (a0 : Array Value) (hw : ∀ d ∈ tables_1, d.before a0 Z = true) (ws : List Jvm.Cond) (i0 : Int64) (i1 : Int64) (i2 : Int64) (i3 : Int64) (i4 : Int32) (h0 : Heap) (O0 : own_Old Z h0) :
    own_Con l Z x code maxLocals ret ws room_1 #[(.long i0), (.long i1), (.long i2), (.long i3), (.int i4)] h0 (fun rv rh rL => rv = some (.int (1 : Int32)) ∧ own_Fr Z rL ∧ Keep h0 rh []) := by
  refine own_intro (plainFor_of_name (by first | (simp [plainName, overriddenIn]; done) | decide +kernel)) ?_
  intro p e s m below meth c s₁ G hx hby hml hown hnm hret hZ X0 e0 hG hR
  have N0 := Fr.nil Z.heap.size
  refine own_entry (Ls := #[.val (.long i0), .second, .val (.long i1), .second, .val (.long i2), .second, .val (.long i3), .second, .val (.int i4), .unset, .unset, .unset, .unset, .unset, .unset, .unset, .unset, .unset, .unset, .unset, .unset, .unset, .unset, .unset, .unset, .unset, .unset, .unset, .unset]) (by first | (simp [entryFrame, mkF, argsToLocals, Value.category, maxLocals]; done) | rfl) ?_
  show G (s₁.setTop (mkF m 0 #[.val (.long i0), .second, .val (.long i1), .second, .val (.long i2), .second, .val (.long i3), .second, .val (.int i4), .unset, .unset, .unset, .unset, .unset, .unset, .unset, .unset, .unset, .unset, .unset, .unset, .unset, .unset, .unset, .unset, .unset, .unset, .unset, .unset] []))
  refine hG _ _ (fun t k => XS.lloadN X0.here hx rfl (hb hby at_0) rfl k) ?_
  show G (s₁.setTop (mkF m 1 #[.val (.long i0), .second, .val (.long i1), .second, .val (.long i2), .second, .val (.long i3), .second, .val (.int i4), .unset, .unset, .unset, .unset, .unset, .unset, .unset, .unset, .unset, .unset, .unset, .unset, .unset, .unset, .unset, .unset, .unset, .unset, .unset, .unset] [(.long i0)]))
  refine hG _ _ (X0.ldc2Long hx hown (mvT hZ (hw _ (List.mem_of_getElem? (i := 0) rfl))) (g := (mkF m 1 #[.val (.long i0), .second, .val (.long i1), .second, .val (.long i2), .second, .val (.long i3), .second, .val (.int i4), .unset, .unset, .unset, .unset, .unset, .unset, .unset, .unset, .unset, .unset, .unset, .unset, .unset, .unset, .unset, .unset, .unset, .unset, .unset, .unset] [(.long i0)])) rfl (hb hby at_1)) ?_
  show G (s₁.setTop (mkF m 4 #[.val (.long i0), .second, .val (.long i1), .second, .val (.long i2), .second, .val (.long i3), .second, .val (.int i4), .unset, .unset, .unset, .unset, .unset, .unset, .unset, .unset, .unset, .unset, .unset, .unset, .unset, .unset, .unset, .unset, .unset, .unset, .unset, .unset] [(.long (9223372036854775807 : Int64)), (.long i0)]))
  refine hG _ _ (fun t k => XS.land X0.here hx rfl (hb hby at_4) rfl k) ?_
  show G (s₁.setTop (mkF m 5 #[.val (.long i0), .second, .val (.long i1), .second, .val (.long i2), .second, .val (.long i3), .second, .val (.int i4), .unset, .unset, .unset, .unset, .unset, .unset, .unset, .unset, .unset, .unset, .unset, .unset, .unset, .unset, .unset, .unset, .unset, .unset, .unset, .unset] [(.long (i0 &&& (9223372036854775807 : Int64)))]))
  refine hG _ _ (fun t k => XS.iload X0.here hx rfl (hb hby at_5) rfl k) ?_
  show G (s₁.setTop (mkF m 7 #[.val (.long i0), .second, .val (.long i1), .second, .val (.long i2), .second, .val (.long i3), .second, .val (.int i4), .unset, .unset, .unset, .unset, .unset, .unset, .unset, .unset, .unset, .unset, .unset, .unset, .unset, .unset, .unset, .unset, .unset, .unset, .unset, .unset] [(.int i4), (.long (i0 &&& (9223372036854775807 : Int64)))]))
  refine hG _ _ (fun t k => XS.bipush X0.here hx rfl (hb hby at_7) k) ?_
  show G (s₁.setTop (mkF m 9 #[.val (.long i0), .second, .val (.long i1), .second, .val (.long i2), .second, .val (.long i3), .second, .val (.int i4), .unset, .unset, .unset, .unset, .unset, .unset, .unset, .unset, .unset, .unset, .unset, .unset, .unset, .unset, .unset, .unset, .unset, .unset, .unset, .unset] [(.int (63 : Int32)), (.int i4), (.long (i0 &&& (9223372036854775807 : Int64)))]))
  refine hG _ _ (fun t k => XS.iand X0.here hx rfl (hb hby at_9) rfl k) ?_
  show G (s₁.setTop (mkF m 10 #[.val (.long i0), .second, .val (.long i1), .second, .val (.long i2), .second, .val (.long i3), .second, .val (.int i4), .unset, .unset, .unset, .unset, .unset, .unset, .unset, .unset, .unset, .unset, .unset, .unset, .unset, .unset, .unset, .unset, .unset, .unset, .unset, .unset] [(.int (i4 &&& (63 : Int32))), (.long (i0 &&& (9223372036854775807 : Int64)))]))
  refine hG _ _ (fun t k => XS.lushr X0.here hx rfl (hb hby at_10) rfl k) ?_
  show G (s₁.setTop (mkF m 11 #[.val (.long i0), .second, .val (.long i1), .second, .val (.long i2), .second, .val (.long i3), .second, .val (.int i4), .unset, .unset, .unset, .unset, .unset, .unset, .unset, .unset, .unset, .unset, .unset, .unset, .unset, .unset, .unset, .unset, .unset, .unset, .unset, .unset] [(.long (((i0 &&& (9223372036854775807 : Int64)).toUInt64 >>> ((i4 &&& (63 : Int32)) &&& 0x3f).toInt64.toUInt64).toInt64))]))
  refine hG _ _ (fun t k => XS.lstore X0.here hx rfl (hb hby at_11) rfl (l' := #[.val (.long i0), .second, .val (.long i1), .second, .val (.long i2), .second, .val (.long i3), .second, .val (.int i4), .val (.long (((i0 &&& (9223372036854775807 : Int64)).toUInt64 >>> ((i4 &&& (63 : Int32)) &&& 0x3f).toInt64.toUInt64).toInt64)), .second, .unset, .unset, .unset, .unset, .unset, .unset, .unset, .unset, .unset, .unset, .unset, .unset, .unset, .unset, .unset, .unset, .unset, .unset]) rfl k) ?_
  show G (s₁.setTop (mkF m 13 #[.val (.long i0), .second, .val (.long i1), .second, .val (.long i2), .second, .val (.long i3), .second, .val (.int i4), .val (.long (((i0 &&& (9223372036854775807 : Int64)).toUInt64 >>> ((i4 &&& (63 : Int32)) &&& 0x3f).toInt64.toUInt64).toInt64)), .second, .unset, .unset, .unset, .unset, .unset, .unset, .unset, .unset, .unset, .unset, .unset, .unset, .unset, .unset, .unset, .unset, .unset, .unset] []))
  generalize hn_y9_1 : (((i0 &&& (9223372036854775807 : Int64)).toUInt64 >>> ((i4 &&& (63 : Int32)) &&& 0x3f).toInt64.toUInt64).toInt64) = y9_1
  refine hG _ _ (fun t k => XS.lloadN X0.here hx rfl (hb hby at_13) rfl k) ?_
  show G (s₁.setTop (mkF m 14 #[.val (.long i0), .second, .val (.long i1), .second, .val (.long i2), .second, .val (.long i3), .second, .val (.int i4), .val (.long y9_1), .second, .unset, .unset, .unset, .unset, .unset, .unset, .unset, .unset, .unset, .unset, .unset, .unset, .unset, .unset, .unset, .unset, .unset, .unset] [(.long i1)]))
  refine hG _ _ (X0.ldc2Long hx hown (mvT hZ (hw _ (List.mem_of_getElem? (i := 0) rfl))) (g := (mkF m 14 #[.val (.long i0), .second, .val (.long i1), .second, .val (.long i2), .second, .val (.long i3), .second, .val (.int i4), .val (.long y9_1), .second, .unset, .unset, .unset, .unset, .unset, .unset, .unset, .unset, .unset, .unset, .unset, .unset, .unset, .unset, .unset, .unset, .unset, .unset] [(.long i1)])) rfl (hb hby at_14)) ?_
  show G (s₁.setTop (mkF m 17 #[.val (.long i0), .second, .val (.long i1), .second, .val (.long i2), .second, .val (.long i3), .second, .val (.int i4), .val (.long y9_1), .second, .unset, .unset, .unset, .unset, .unset, .unset, .unset, .unset, .unset, .unset, .unset, .unset, .unset, .unset, .unset, .unset, .unset, .unset] [(.long (9223372036854775807 : Int64)), (.long i1)]))
  refine hG _ _ (fun t k => XS.land X0.here hx rfl (hb hby at_17) rfl k) ?_
  show G (s₁.setTop (mkF m 18 #[.val (.long i0), .second, .val (.long i1), .second, .val (.long i2), .second, .val (.long i3), .second, .val (.int i4), .val (.long y9_1), .second, .unset, .unset, .unset, .unset, .unset, .unset, .unset, .unset, .unset, .unset, .unset, .unset, .unset, .unset, .unset, .unset, .unset, .unset] [(.long (i1 &&& (9223372036854775807 : Int64)))]))
  refine hG _ _ (fun t k => XS.iload X0.here hx rfl (hb hby at_18) rfl k) ?_
  show G (s₁.setTop (mkF m 20 #[.val (.long i0), .second, .val (.long i1), .second, .val (.long i2), .second, .val (.long i3), .second, .val (.int i4), .val (.long y9_1), .second, .unset, .unset, .unset, .unset, .unset, .unset, .unset, .unset, .unset, .unset, .unset, .unset, .unset, .unset, .unset, .unset, .unset, .unset] [(.int i4), (.long (i1 &&& (9223372036854775807 : Int64)))]))
  refine hG _ _ (fun t k => XS.bipush X0.here hx rfl (hb hby at_20) k) ?_
  show G (s₁.setTop (mkF m 22 #[.val (.long i0), .second, .val (.long i1), .second, .val (.long i2), .second, .val (.long i3), .second, .val (.int i4), .val (.long y9_1), .second, .unset, .unset, .unset, .unset, .unset, .unset, .unset, .unset, .unset, .unset, .unset, .unset, .unset, .unset, .unset, .unset, .unset, .unset] [(.int (6 : Int32)), (.int i4), (.long (i1 &&& (9223372036854775807 : Int64)))]))
  refine hG _ _ (fun t k => XS.iushr X0.here hx rfl (hb hby at_22) rfl k) ?_
  show G (s₁.setTop (mkF m 23 #[.val (.long i0), .second, .val (.long i1), .second, .val (.long i2), .second, .val (.long i3), .second, .val (.int i4), .val (.long y9_1), .second, .unset, .unset, .unset, .unset, .unset, .unset, .unset, .unset, .unset, .unset, .unset, .unset, .unset, .unset, .unset, .unset, .unset, .unset] [(.int ((i4.toUInt32 >>> ((6 : Int32) &&& 31).toUInt32).toInt32)), (.long (i1 &&& (9223372036854775807 : Int64)))]))
  refine hG _ _ (fun t k => XS.bipush X0.here hx rfl (hb hby at_23) k) ?_
  show G (s₁.setTop (mkF m 25 #[.val (.long i0), .second, .val (.long i1), .second, .val (.long i2), .second, .val (.long i3), .second, .val (.int i4), .val (.long y9_1), .second, .unset, .unset, .unset, .unset, .unset, .unset, .unset, .unset, .unset, .unset, .unset, .unset, .unset, .unset, .unset, .unset, .unset, .unset] [(.int (63 : Int32)), (.int ((i4.toUInt32 >>> ((6 : Int32) &&& 31).toUInt32).toInt32)), (.long (i1 &&& (9223372036854775807 : Int64)))]))
  refine hG _ _ (fun t k => XS.iand X0.here hx rfl (hb hby at_25) rfl k) ?_
  show G (s₁.setTop (mkF m 26 #[.val (.long i0), .second, .val (.long i1), .second, .val (.long i2), .second, .val (.long i3), .second, .val (.int i4), .val (.long y9_1), .second, .unset, .unset, .unset, .unset, .unset, .unset, .unset, .unset, .unset, .unset, .unset, .unset, .unset, .unset, .unset, .unset, .unset, .unset] [(.int (((i4.toUInt32 >>> ((6 : Int32) &&& 31).toUInt32).toInt32) &&& (63 : Int32))), (.long (i1 &&& (9223372036854775807 : Int64)))]))
  refine hG _ _ (fun t k => XS.lushr X0.here hx rfl (hb hby at_26) rfl k) ?_
  show G (s₁.setTop (mkF m 27 #[.val (.long i0), .second, .val (.long i1), .second, .val (.long i2), .second, .val (.long i3), .second, .val (.int i4), .val (.long y9_1), .second, .unset, .unset, .unset, .unset, .unset, .unset, .unset, .unset, .unset, .unset, .unset, .unset, .unset, .unset, .unset, .unset, .unset, .unset] [(.long (((i1 &&& (9223372036854775807 : Int64)).toUInt64 >>> ((((i4.toUInt32 >>> ((6 : Int32) &&& 31).toUInt32).toInt32) &&& (63 : Int32)) &&& 0x3f).toInt64.toUInt64).toInt64))]))
  refine hG _ _ (fun t k => XS.lstore X0.here hx rfl (hb hby at_27) rfl (l' := #[.val (.long i0), .second, .val (.long i1), .second, .val (.long i2), .second, .val (.long i3), .second, .val (.int i4), .val (.long y9_1), .second, .val (.long (((i1 &&& (9223372036854775807 : Int64)).toUInt64 >>> ((((i4.toUInt32 >>> ((6 : Int32) &&& 31).toUInt32).toInt32) &&& (63 : Int32)) &&& 0x3f).toInt64.toUInt64).toInt64)), .second, .unset, .unset, .unset, .unset, .unset, .unset, .unset, .unset, .unset, .unset, .unset, .unset, .unset, .unset, .unset, .unset]) rfl k) ?_
  show G (s₁.setTop (mkF m 29 #[.val (.long i0), .second, .val (.long i1), .second, .val (.long i2), .second, .val (.long i3), .second, .val (.int i4), .val (.long y9_1), .second, .val (.long (((i1 &&& (9223372036854775807 : Int64)).toUInt64 >>> ((((i4.toUInt32 >>> ((6 : Int32) &&& 31).toUInt32).toInt32) &&& (63 : Int32)) &&& 0x3f).toInt64.toUInt64).toInt64)), .second, .unset, .unset, .unset, .unset, .unset, .unset, .unset, .unset, .unset, .unset, .unset, .unset, .unset, .unset, .unset, .unset] []))
  generalize hn_y11_2 : (((i1 &&& (9223372036854775807 : Int64)).toUInt64 >>> ((((i4.toUInt32 >>> ((6 : Int32) &&& 31).toUInt32).toInt32) &&& (63 : Int32)) &&& 0x3f).toInt64.toUInt64).toInt64) = y11_2
  refine hG _ _ (fun t k => XS.lload X0.here hx rfl (hb hby at_29) rfl k) ?_
  show G (s₁.setTop (mkF m 31 #[.val (.long i0), .second, .val (.long i1), .second, .val (.long i2), .second, .val (.long i3), .second, .val (.int i4), .val (.long y9_1), .second, .val (.long y11_2), .second, .unset, .unset, .unset, .unset, .unset, .unset, .unset, .unset, .unset, .unset, .unset, .unset, .unset, .unset, .unset, .unset] [(.long i2)]))
  refine hG _ _ (X0.ldc2Long hx hown (mvT hZ (hw _ (List.mem_of_getElem? (i := 0) rfl))) (g := (mkF m 31 #[.val (.long i0), .second, .val (.long i1), .second, .val (.long i2), .second, .val (.long i3), .second, .val (.int i4), .val (.long y9_1), .second, .val (.long y11_2), .second, .unset, .unset, .unset, .unset, .unset, .unset, .unset, .unset, .unset, .unset, .unset, .unset, .unset, .unset, .unset, .unset] [(.long i2)])) rfl (hb hby at_31)) ?_
  show G (s₁.setTop (mkF m 34 #[.val (.long i0), .second, .val (.long i1), .second, .val (.long i2), .second, .val (.long i3), .second, .val (.int i4), .val (.long y9_1), .second, .val (.long y11_2), .second, .unset, .unset, .unset, .unset, .unset, .unset, .unset, .unset, .unset, .unset, .unset, .unset, .unset, .unset, .unset, .unset] [(.long (9223372036854775807 : Int64)), (.long i2)]))
  refine hG _ _ (fun t k => XS.land X0.here hx rfl (hb hby at_34) rfl k) ?_
  show G (s₁.setTop (mkF m 35 #[.val (.long i0), .second, .val (.long i1), .second, .val (.long i2), .second, .val (.long i3), .second, .val (.int i4), .val (.long y9_1), .second, .val (.long y11_2), .second, .unset, .unset, .unset, .unset, .unset, .unset, .unset, .unset, .unset, .unset, .unset, .unset, .unset, .unset, .unset, .unset] [(.long (i2 &&& (9223372036854775807 : Int64)))]))
  refine hG _ _ (fun t k => XS.iload X0.here hx rfl (hb hby at_35) rfl k) ?_
  show G (s₁.setTop (mkF m 37 #[.val (.long i0), .second, .val (.long i1), .second, .val (.long i2), .second, .val (.long i3), .second, .val (.int i4), .val (.long y9_1), .second, .val (.long y11_2), .second, .unset, .unset, .unset, .unset, .unset, .unset, .unset, .unset, .unset, .unset, .unset, .unset, .unset, .unset, .unset, .unset] [(.int i4), (.long (i2 &&& (9223372036854775807 : Int64)))]))
  refine hG _ _ (fun t k => XS.bipush X0.here hx rfl (hb hby at_37) k) ?_
  show G (s₁.setTop (mkF m 39 #[.val (.long i0), .second, .val (.long i1), .second, .val (.long i2), .second, .val (.long i3), .second, .val (.int i4), .val (.long y9_1), .second, .val (.long y11_2), .second, .unset, .unset, .unset, .unset, .unset, .unset, .unset, .unset, .unset, .unset, .unset, .unset, .unset, .unset, .unset, .unset] [(.int (12 : Int32)), (.int i4), (.long (i2 &&& (9223372036854775807 : Int64)))]))
  refine hG _ _ (fun t k => XS.iushr X0.here hx rfl (hb hby at_39) rfl k) ?_
  show G (s₁.setTop (mkF m 40 #[.val (.long i0), .second, .val (.long i1), .second, .val (.long i2), .second, .val (.long i3), .second, .val (.int i4), .val (.long y9_1), .second, .val (.long y11_2), .second, .unset, .unset, .unset, .unset, .unset, .unset, .unset, .unset, .unset, .unset, .unset, .unset, .unset, .unset, .unset, .unset] [(.int ((i4.toUInt32 >>> ((12 : Int32) &&& 31).toUInt32).toInt32)), (.long (i2 &&& (9223372036854775807 : Int64)))]))
  refine hG _ _ (fun t k => XS.bipush X0.here hx rfl (hb hby at_40) k) ?_
  show G (s₁.setTop (mkF m 42 #[.val (.long i0), .second, .val (.long i1), .second, .val (.long i2), .second, .val (.long i3), .second, .val (.int i4), .val (.long y9_1), .second, .val (.long y11_2), .second, .unset, .unset, .unset, .unset, .unset, .unset, .unset, .unset, .unset, .unset, .unset, .unset, .unset, .unset, .unset, .unset] [(.int (63 : Int32)), (.int ((i4.toUInt32 >>> ((12 : Int32) &&& 31).toUInt32).toInt32)), (.long (i2 &&& (9223372036854775807 : Int64)))]))
  refine hG _ _ (fun t k => XS.iand X0.here hx rfl (hb hby at_42) rfl k) ?_
  show G (s₁.setTop (mkF m 43 #[.val (.long i0), .second, .val (.long i1), .second, .val (.long i2), .second, .val (.long i3), .second, .val (.int i4), .val (.long y9_1), .second, .val (.long y11_2), .second, .unset, .unset, .unset, .unset, .unset, .unset, .unset, .unset, .unset, .unset, .unset, .unset, .unset, .unset, .unset, .unset] [(.int (((i4.toUInt32 >>> ((12 : Int32) &&& 31).toUInt32).toInt32) &&& (63 : Int32))), (.long (i2 &&& (9223372036854775807 : Int64)))]))
  refine hG _ _ (fun t k => XS.lushr X0.here hx rfl (hb hby at_43) rfl k) ?_
  show G (s₁.setTop (mkF m 44 #[.val (.long i0), .second, .val (.long i1), .second, .val (.long i2), .second, .val (.long i3), .second, .val (.int i4), .val (.long y9_1), .second, .val (.long y11_2), .second, .unset, .unset, .unset, .unset, .unset, .unset, .unset, .unset, .unset, .unset, .unset, .unset, .unset, .unset, .unset, .unset] [(.long (((i2 &&& (9223372036854775807 : Int64)).toUInt64 >>> ((((i4.toUInt32 >>> ((12 : Int32) &&& 31).toUInt32).toInt32) &&& (63 : Int32)) &&& 0x3f).toInt64.toUInt64).toInt64))]))
  refine hG _ _ (fun t k => XS.lstore X0.here hx rfl (hb hby at_44) rfl (l' := #[.val (.long i0), .second, .val (.long i1), .second, .val (.long i2), .second, .val (.long i3), .second, .val (.int i4), .val (.long y9_1), .second, .val (.long y11_2), .second, .val (.long (((i2 &&& (9223372036854775807 : Int64)).toUInt64 >>> ((((i4.toUInt32 >>> ((12 : Int32) &&& 31).toUInt32).toInt32) &&& (63 : Int32)) &&& 0x3f).toInt64.toUInt64).toInt64)), .second, .unset, .unset, .unset, .unset, .unset, .unset, .unset, .unset, .unset, .unset, .unset, .unset, .unset, .unset]) rfl k) ?_
  show G (s₁.setTop (mkF m 46 #[.val (.long i0), .second, .val (.long i1), .second, .val (.long i2), .second, .val (.long i3), .second, .val (.int i4), .val (.long y9_1), .second, .val (.long y11_2), .second, .val (.long (((i2 &&& (9223372036854775807 : Int64)).toUInt64 >>> ((((i4.toUInt32 >>> ((12 : Int32) &&& 31).toUInt32).toInt32) &&& (63 : Int32)) &&& 0x3f).toInt64.toUInt64).toInt64)), .second, .unset, .unset, .unset, .unset, .unset, .unset, .unset, .unset, .unset, .unset, .unset, .unset, .unset, .unset] []))
  generalize hn_y13_3 : (((i2 &&& (9223372036854775807 : Int64)).toUInt64 >>> ((((i4.toUInt32 >>> ((12 : Int32) &&& 31).toUInt32).toInt32) &&& (63 : Int32)) &&& 0x3f).toInt64.toUInt64).toInt64) = y13_3
  refine hG _ _ (fun t k => XS.lload X0.here hx rfl (hb hby at_46) rfl k) ?_
  show G (s₁.setTop (mkF m 48 #[.val (.long i0), .second, .val (.long i1), .second, .val (.long i2), .second, .val (.long i3), .second, .val (.int i4), .val (.long y9_1), .second, .val (.long y11_2), .second, .val (.long y13_3), .second, .unset, .unset, .unset, .unset, .unset, .unset, .unset, .unset, .unset, .unset, .unset, .unset, .unset, .unset] [(.long i3)]))
  refine hG _ _ (X0.ldc2Long hx hown (mvT hZ (hw _ (List.mem_of_getElem? (i := 0) rfl))) (g := (mkF m 48 #[.val (.long i0), .second, .val (.long i1), .second, .val (.long i2), .second, .val (.long i3), .second, .val (.int i4), .val (.long y9_1), .second, .val (.long y11_2), .second, .val (.long y13_3), .second, .unset, .unset, .unset, .unset, .unset, .unset, .unset, .unset, .unset, .unset, .unset, .unset, .unset, .unset] [(.long i3)])) rfl (hb hby at_48)) ?_
  show G (s₁.setTop (mkF m 51 #[.val (.long i0), .second, .val (.long i1), .second, .val (.long i2), .second, .val (.long i3), .second, .val (.int i4), .val (.long y9_1), .second, .val (.long y11_2), .second, .val (.long y13_3), .second, .unset, .unset, .unset, .unset, .unset, .unset, .unset, .unset, .unset, .unset, .unset, .unset, .unset, .unset] [(.long (9223372036854775807 : Int64)), (.long i3)]))
  refine hG _ _ (fun t k => XS.land X0.here hx rfl (hb hby at_51) rfl k) ?_
  show G (s₁.setTop (mkF m 52 #[.val (.long i0), .second, .val (.long i1), .second, .val (.long i2), .second, .val (.long i3), .second, .val (.int i4), .val (.long y9_1), .second, .val (.long y11_2), .second, .val (.long y13_3), .second, .unset, .unset, .unset, .unset, .unset, .unset, .unset, .unset, .unset, .unset, .unset, .unset, .unset, .unset] [(.long (i3 &&& (9223372036854775807 : Int64)))]))
  refine hG _ _ (fun t k => XS.iload X0.here hx rfl (hb hby at_52) rfl k) ?_
  show G (s₁.setTop (mkF m 54 #[.val (.long i0), .second, .val (.long i1), .second, .val (.long i2), .second, .val (.long i3), .second, .val (.int i4), .val (.long y9_1), .second, .val (.long y11_2), .second, .val (.long y13_3), .second, .unset, .unset, .unset, .unset, .unset, .unset, .unset, .unset, .unset, .unset, .unset, .unset, .unset, .unset] [(.int i4), (.long (i3 &&& (9223372036854775807 : Int64)))]))
  refine hG _ _ (fun t k => XS.bipush X0.here hx rfl (hb hby at_54) k) ?_
  show G (s₁.setTop (mkF m 56 #[.val (.long i0), .second, .val (.long i1), .second, .val (.long i2), .second, .val (.long i3), .second, .val (.int i4), .val (.long y9_1), .second, .val (.long y11_2), .second, .val (.long y13_3), .second, .unset, .unset, .unset, .unset, .unset, .unset, .unset, .unset, .unset, .unset, .unset, .unset, .unset, .unset] [(.int (18 : Int32)), (.int i4), (.long (i3 &&& (9223372036854775807 : Int64)))]))
  refine hG _ _ (fun t k => XS.iushr X0.here hx rfl (hb hby at_56) rfl k) ?_
  show G (s₁.setTop (mkF m 57 #[.val (.long i0), .second, .val (.long i1), .second, .val (.long i2), .second, .val (.long i3), .second, .val (.int i4), .val (.long y9_1), .second, .val (.long y11_2), .second, .val (.long y13_3), .second, .unset, .unset, .unset, .unset, .unset, .unset, .unset, .unset, .unset, .unset, .unset, .unset, .unset, .unset] [(.int ((i4.toUInt32 >>> ((18 : Int32) &&& 31).toUInt32).toInt32)), (.long (i3 &&& (9223372036854775807 : Int64)))]))
  refine hG _ _ (fun t k => XS.bipush X0.here hx rfl (hb hby at_57) k) ?_
  show G (s₁.setTop (mkF m 59 #[.val (.long i0), .second, .val (.long i1), .second, .val (.long i2), .second, .val (.long i3), .second, .val (.int i4), .val (.long y9_1), .second, .val (.long y11_2), .second, .val (.long y13_3), .second, .unset, .unset, .unset, .unset, .unset, .unset, .unset, .unset, .unset, .unset, .unset, .unset, .unset, .unset] [(.int (63 : Int32)), (.int ((i4.toUInt32 >>> ((18 : Int32) &&& 31).toUInt32).toInt32)), (.long (i3 &&& (9223372036854775807 : Int64)))]))
  refine hG _ _ (fun t k => XS.iand X0.here hx rfl (hb hby at_59) rfl k) ?_
  show G (s₁.setTop (mkF m 60 #[.val (.long i0), .second, .val (.long i1), .second, .val (.long i2), .second, .val (.long i3), .second, .val (.int i4), .val (.long y9_1), .second, .val (.long y11_2), .second, .val (.long y13_3), .second, .unset, .unset, .unset, .unset, .unset, .unset, .unset, .unset, .unset, .unset, .unset, .unset, .unset, .unset] [(.int (((i4.toUInt32 >>> ((18 : Int32) &&& 31).toUInt32).toInt32) &&& (63 : Int32))), (.long (i3 &&& (9223372036854775807 : Int64)))]))
  refine hG _ _ (fun t k => XS.lushr X0.here hx rfl (hb hby at_60) rfl k) ?_
  show G (s₁.setTop (mkF m 61 #[.val (.long i0), .second, .val (.long i1), .second, .val (.long i2), .second, .val (.long i3), .second, .val (.int i4), .val (.long y9_1), .second, .val (.long y11_2), .second, .val (.long y13_3), .second, .unset, .unset, .unset, .unset, .unset, .unset, .unset, .unset, .unset, .unset, .unset, .unset, .unset, .unset] [(.long (((i3 &&& (9223372036854775807 : Int64)).toUInt64 >>> ((((i4.toUInt32 >>> ((18 : Int32) &&& 31).toUInt32).toInt32) &&& (63 : Int32)) &&& 0x3f).toInt64.toUInt64).toInt64))]))
  refine hG _ _ (fun t k => XS.lstore X0.here hx rfl (hb hby at_61) rfl (l' := #[.val (.long i0), .second, .val (.long i1), .second, .val (.long i2), .second, .val (.long i3), .second, .val (.int i4), .val (.long y9_1), .second, .val (.long y11_2), .second, .val (.long y13_3), .second, .val (.long (((i3 &&& (9223372036854775807 : Int64)).toUInt64 >>> ((((i4.toUInt32 >>> ((18 : Int32) &&& 31).toUInt32).toInt32) &&& (63 : Int32)) &&& 0x3f).toInt64.toUInt64).toInt64)), .second, .unset, .unset, .unset, .unset, .unset, .unset, .unset, .unset, .unset, .unset, .unset, .unset]) rfl k) ?_
  show G (s₁.setTop (mkF m 63 #[.val (.long i0), .second, .val (.long i1), .second, .val (.long i2), .second, .val (.long i3), .second, .val (.int i4), .val (.long y9_1), .second, .val (.long y11_2), .second, .val (.long y13_3), .second, .val (.long (((i3 &&& (9223372036854775807 : Int64)).toUInt64 >>> ((((i4.toUInt32 >>> ((18 : Int32) &&& 31).toUInt32).toInt32) &&& (63 : Int32)) &&& 0x3f).toInt64.toUInt64).toInt64)), .second, .unset, .unset, .unset, .unset, .unset, .unset, .unset, .unset, .unset, .unset, .unset, .unset] []))
  generalize hn_y15_4 : (((i3 &&& (9223372036854775807 : Int64)).toUInt64 >>> ((((i4.toUInt32 >>> ((18 : Int32) &&& 31).toUInt32).toInt32) &&& (63 : Int32)) &&& 0x3f).toInt64.toUInt64).toInt64) = y15_4
  have p9 : 0 ≤ y9_1.toInt := by rw [← hn_y9_1]; exact own_ushr_nn _ (own_posmask _)
  have p11 : 0 ≤ y11_2.toInt := by rw [← hn_y11_2]; exact own_ushr_nn _ (own_posmask _)
  have p13 : 0 ≤ y13_3.toInt := by rw [← hn_y13_3]; exact own_ushr_nn _ (own_posmask _)
  have p15 : 0 ≤ y15_4.toInt := by rw [← hn_y15_4]; exact own_ushr_nn _ (own_posmask _)
  show G (s₁.setTop (mkF m 63 #[.val (.long i0), .second, .val (.long i1), .second, .val (.long i2), .second, .val (.long i3), .second, .val (.int i4), .val (.long y9_1), .second, .val (.long y11_2), .second, .val (.long y13_3), .second, .val (.long y15_4), .second, .unset, .unset, .unset, .unset, .unset, .unset, .unset, .unset, .unset, .unset, .unset, .unset] []))
  refine hG _ _ (fun t k => XS.lload X0.here hx rfl (hb hby at_63) rfl k) ?_
  show G (s₁.setTop (mkF m 65 #[.val (.long i0), .second, .val (.long i1), .second, .val (.long i2), .second, .val (.long i3), .second, .val (.int i4), .val (.long y9_1), .second, .val (.long y11_2), .second, .val (.long y13_3), .second, .val (.long y15_4), .second, .unset, .unset, .unset, .unset, .unset, .unset, .unset, .unset, .unset, .unset, .unset, .unset] [(.long y15_4)]))
  refine hG _ _ (fun t k => XS.lconst X0.here hx rfl (hb hby at_65) k) ?_
  show G (s₁.setTop (mkF m 66 #[.val (.long i0), .second, .val (.long i1), .second, .val (.long i2), .second, .val (.long i3), .second, .val (.int i4), .val (.long y9_1), .second, .val (.long y11_2), .second, .val (.long y13_3), .second, .val (.long y15_4), .second, .unset, .unset, .unset, .unset, .unset, .unset, .unset, .unset, .unset, .unset, .unset, .unset] [(.long (0 : Int64)), (.long y15_4)]))
  refine hG _ _ (fun t k => XS.lcmp X0.here hx rfl (hb hby at_66) rfl k) ?_
  show G (s₁.setTop (mkF m 67 #[.val (.long i0), .second, .val (.long i1), .second, .val (.long i2), .second, .val (.long i3), .second, .val (.int i4), .val (.long y9_1), .second, .val (.long y11_2), .second, .val (.long y13_3), .second, .val (.long y15_4), .second, .unset, .unset, .unset, .unset, .unset, .unset, .unset, .unset, .unset, .unset, .unset, .unset] [(.int (lcmpW y15_4 (0 : Int64)))]))
  by_cases hc67_5 : y15_4 = (0 : Int64)
  · skip
    refine hG _ _ (fun t k => XS.ifNo X0.here hx rfl (hb hby at_67) rfl ((if0 _ _).trans (teq ((lw_eq _ _).mpr hc67_5)).2) k) ?_
    show G (s₁.setTop (mkF m 70 #[.val (.long i0), .second, .val (.long i1), .second, .val (.long i2), .second, .val (.long i3), .second, .val (.int i4), .val (.long y9_1), .second, .val (.long y11_2), .second, .val (.long y13_3), .second, .val (.long y15_4), .second, .unset, .unset, .unset, .unset, .unset, .unset, .unset, .unset, .unset, .unset, .unset, .unset] []))
    refine hG _ _ (fun t k => XS.lconst X0.here hx rfl (hb hby at_70) k) ?_
    show G (s₁.setTop (mkF m 71 #[.val (.long i0), .second, .val (.long i1), .second, .val (.long i2), .second, .val (.long i3), .second, .val (.int i4), .val (.long y9_1), .second, .val (.long y11_2), .second, .val (.long y13_3), .second, .val (.long y15_4), .second, .unset, .unset, .unset, .unset, .unset, .unset, .unset, .unset, .unset, .unset, .unset, .unset] [(.long (1 : Int64))]))
    refine hG _ _ (fun t k => XS.lstore X0.here hx rfl (hb hby at_71) rfl (l' := #[.val (.long i0), .second, .val (.long i1), .second, .val (.long i2), .second, .val (.long i3), .second, .val (.int i4), .val (.long y9_1), .second, .val (.long y11_2), .second, .val (.long y13_3), .second, .val (.long (1 : Int64)), .second, .unset, .unset, .unset, .unset, .unset, .unset, .unset, .unset, .unset, .unset, .unset, .unset]) rfl k) ?_
    show G (s₁.setTop (mkF m 73 #[.val (.long i0), .second, .val (.long i1), .second, .val (.long i2), .second, .val (.long i3), .second, .val (.int i4), .val (.long y9_1), .second, .val (.long y11_2), .second, .val (.long y13_3), .second, .val (.long (1 : Int64)), .second, .unset, .unset, .unset, .unset, .unset, .unset, .unset, .unset, .unset, .unset, .unset, .unset] []))
    generalize hn_y15_6 : (1 : Int64) = y15_6
    have q15 : 0 < y15_6.toInt := by rw [← hn_y15_6]; decide
    show G (s₁.setTop (mkF m 73 #[.val (.long i0), .second, .val (.long i1), .second, .val (.long i2), .second, .val (.long i3), .second, .val (.int i4), .val (.long y9_1), .second, .val (.long y11_2), .second, .val (.long y13_3), .second, .val (.long y15_6), .second, .unset, .unset, .unset, .unset, .unset, .unset, .unset, .unset, .unset, .unset, .unset, .unset] []))
    refine hG _ _ (fun t k => XS.lload X0.here hx rfl (hb hby at_73) rfl k) ?_
    show G (s₁.setTop (mkF m 75 #[.val (.long i0), .second, .val (.long i1), .second, .val (.long i2), .second, .val (.long i3), .second, .val (.int i4), .val (.long y9_1), .second, .val (.long y11_2), .second, .val (.long y13_3), .second, .val (.long y15_6), .second, .unset, .unset, .unset, .unset, .unset, .unset, .unset, .unset, .unset, .unset, .unset, .unset] [(.long y9_1)]))
    refine hG _ _ (fun t k => XS.lload X0.here hx rfl (hb hby at_75) rfl k) ?_
    show G (s₁.setTop (mkF m 77 #[.val (.long i0), .second, .val (.long i1), .second, .val (.long i2), .second, .val (.long i3), .second, .val (.int i4), .val (.long y9_1), .second, .val (.long y11_2), .second, .val (.long y13_3), .second, .val (.long y15_6), .second, .unset, .unset, .unset, .unset, .unset, .unset, .unset, .unset, .unset, .unset, .unset, .unset] [(.long y11_2), (.long y9_1)]))
    refine hG _ _ (fun t k => XS.lload X0.here hx rfl (hb hby at_77) rfl k) ?_
    show G (s₁.setTop (mkF m 79 #[.val (.long i0), .second, .val (.long i1), .second, .val (.long i2), .second, .val (.long i3), .second, .val (.int i4), .val (.long y9_1), .second, .val (.long y11_2), .second, .val (.long y13_3), .second, .val (.long y15_6), .second, .unset, .unset, .unset, .unset, .unset, .unset, .unset, .unset, .unset, .unset, .unset, .unset] [(.long y13_3), (.long y11_2), (.long y9_1)]))
    refine hG _ _ (fun t k => XS.lload X0.here hx rfl (hb hby at_79) rfl k) ?_
    show G (s₁.setTop (mkF m 81 #[.val (.long i0), .second, .val (.long i1), .second, .val (.long i2), .second, .val (.long i3), .second, .val (.int i4), .val (.long y9_1), .second, .val (.long y11_2), .second, .val (.long y13_3), .second, .val (.long y15_6), .second, .unset, .unset, .unset, .unset, .unset, .unset, .unset, .unset, .unset, .unset, .unset, .unset] [(.long y15_6), (.long y13_3), (.long y11_2), (.long y9_1)]))
    refine own_callS X0 hx hZ hG hown (hw _ (List.mem_of_getElem? (i := 1) rfl)) (hw _ (List.mem_of_getElem? (i := 2) rfl)) (hw _ (List.mem_of_getElem? (i := 3) rfl)) (hw _ (List.mem_of_getElem? (i := 4) rfl)) (by decide) 0 (own_ceil l Z a0 hw y9_1 y11_2 y13_3 y15_6 h0 O0 p9 p11 p13 q15) (by decide) (by decide) e0 (by rw [hml]; rfl) (lenOf own_pd3 rfl) (argsL := [(.long y9_1), (.long y11_2), (.long y13_3), (.long y15_6)]) (rest := []) rfl rfl (Nat.le_of_eq rfl) (hb hby at_81) (by decide) (by decide) ?_
    intro T7 h7 v7 L7 X7 e7 q7
    obtain ⟨r_7, rfl, M7, rfl, r7_0⟩ := q7
    have N7 := Fr.app N0 M7
    show G (T7.setTop (mkF m 84 #[.val (.long i0), .second, .val (.long i1), .second, .val (.long i2), .second, .val (.long i3), .second, .val (.int i4), .val (.long y9_1), .second, .val (.long y11_2), .second, .val (.long y13_3), .second, .val (.long y15_6), .second, .unset, .unset, .unset, .unset, .unset, .unset, .unset, .unset, .unset, .unset, .unset, .unset] [(.long r_7)]))
    refine hG _ _ (fun t k => XS.lstore X7.here hx rfl (hb hby at_84) rfl (l' := #[.val (.long i0), .second, .val (.long i1), .second, .val (.long i2), .second, .val (.long i3), .second, .val (.int i4), .val (.long y9_1), .second, .val (.long y11_2), .second, .val (.long y13_3), .second, .val (.long y15_6), .second, .val (.long r_7), .second, .unset, .unset, .unset, .unset, .unset, .unset, .unset, .unset, .unset, .unset]) rfl k) ?_
    show G (T7.setTop (mkF m 86 #[.val (.long i0), .second, .val (.long i1), .second, .val (.long i2), .second, .val (.long i3), .second, .val (.int i4), .val (.long y9_1), .second, .val (.long y11_2), .second, .val (.long y13_3), .second, .val (.long y15_6), .second, .val (.long r_7), .second, .unset, .unset, .unset, .unset, .unset, .unset, .unset, .unset, .unset, .unset] []))
    refine hG _ _ (fun t k => XS.lload X7.here hx rfl (hb hby at_86) rfl k) ?_
    show G (T7.setTop (mkF m 88 #[.val (.long i0), .second, .val (.long i1), .second, .val (.long i2), .second, .val (.long i3), .second, .val (.int i4), .val (.long y9_1), .second, .val (.long y11_2), .second, .val (.long y13_3), .second, .val (.long y15_6), .second, .val (.long r_7), .second, .unset, .unset, .unset, .unset, .unset, .unset, .unset, .unset, .unset, .unset] [(.long y9_1)]))
    refine hG _ _ (fun t k => XS.lload X7.here hx rfl (hb hby at_88) rfl k) ?_
    show G (T7.setTop (mkF m 90 #[.val (.long i0), .second, .val (.long i1), .second, .val (.long i2), .second, .val (.long i3), .second, .val (.int i4), .val (.long y9_1), .second, .val (.long y11_2), .second, .val (.long y13_3), .second, .val (.long y15_6), .second, .val (.long r_7), .second, .unset, .unset, .unset, .unset, .unset, .unset, .unset, .unset, .unset, .unset] [(.long y11_2), (.long y9_1)]))
    refine hG _ _ (fun t k => XS.lmul X7.here hx rfl (hb hby at_90) rfl k) ?_
    show G (T7.setTop (mkF m 91 #[.val (.long i0), .second, .val (.long i1), .second, .val (.long i2), .second, .val (.long i3), .second, .val (.int i4), .val (.long y9_1), .second, .val (.long y11_2), .second, .val (.long y13_3), .second, .val (.long y15_6), .second, .val (.long r_7), .second, .unset, .unset, .unset, .unset, .unset, .unset, .unset, .unset, .unset, .unset] [(.long (y9_1 * y11_2))]))
    refine hG _ _ (fun t k => XS.lstore X7.here hx rfl (hb hby at_91) rfl (l' := #[.val (.long i0), .second, .val (.long i1), .second, .val (.long i2), .second, .val (.long i3), .second, .val (.int i4), .val (.long y9_1), .second, .val (.long y11_2), .second, .val (.long y13_3), .second, .val (.long y15_6), .second, .val (.long r_7), .second, .val (.long (y9_1 * y11_2)), .second, .unset, .unset, .unset, .unset, .unset, .unset, .unset, .unset]) rfl k) ?_
    show G (T7.setTop (mkF m 93 #[.val (.long i0), .second, .val (.long i1), .second, .val (.long i2), .second, .val (.long i3), .second, .val (.int i4), .val (.long y9_1), .second, .val (.long y11_2), .second, .val (.long y13_3), .second, .val (.long y15_6), .second, .val (.long r_7), .second, .val (.long (y9_1 * y11_2)), .second, .unset, .unset, .unset, .unset, .unset, .unset, .unset, .unset] []))
    generalize hn_y19_8 : (y9_1 * y11_2) = y19_8
    refine hG _ _ (fun t k => XS.lload X7.here hx rfl (hb hby at_93) rfl k) ?_
    show G (T7.setTop (mkF m 95 #[.val (.long i0), .second, .val (.long i1), .second, .val (.long i2), .second, .val (.long i3), .second, .val (.int i4), .val (.long y9_1), .second, .val (.long y11_2), .second, .val (.long y13_3), .second, .val (.long y15_6), .second, .val (.long r_7), .second, .val (.long y19_8), .second, .unset, .unset, .unset, .unset, .unset, .unset, .unset, .unset] [(.long y19_8)]))
    refine hG _ _ (fun t k => XS.lload X7.here hx rfl (hb hby at_95) rfl k) ?_
    show G (T7.setTop (mkF m 97 #[.val (.long i0), .second, .val (.long i1), .second, .val (.long i2), .second, .val (.long i3), .second, .val (.int i4), .val (.long y9_1), .second, .val (.long y11_2), .second, .val (.long y13_3), .second, .val (.long y15_6), .second, .val (.long r_7), .second, .val (.long y19_8), .second, .unset, .unset, .unset, .unset, .unset, .unset, .unset, .unset] [(.long y13_3), (.long y19_8)]))
    refine hG _ _ (fun t k => XS.ladd X7.here hx rfl (hb hby at_97) rfl k) ?_
    show G (T7.setTop (mkF m 98 #[.val (.long i0), .second, .val (.long i1), .second, .val (.long i2), .second, .val (.long i3), .second, .val (.int i4), .val (.long y9_1), .second, .val (.long y11_2), .second, .val (.long y13_3), .second, .val (.long y15_6), .second, .val (.long r_7), .second, .val (.long y19_8), .second, .unset, .unset, .unset, .unset, .unset, .unset, .unset, .unset] [(.long (y19_8 + y13_3))]))
    refine hG _ _ (fun t k => XS.lstore X7.here hx rfl (hb hby at_98) rfl (l' := #[.val (.long i0), .second, .val (.long i1), .second, .val (.long i2), .second, .val (.long i3), .second, .val (.int i4), .val (.long y9_1), .second, .val (.long y11_2), .second, .val (.long y13_3), .second, .val (.long y15_6), .second, .val (.long r_7), .second, .val (.long y19_8), .second, .val (.long (y19_8 + y13_3)), .second, .unset, .unset, .unset, .unset, .unset, .unset]) rfl k) ?_
    show G (T7.setTop (mkF m 100 #[.val (.long i0), .second, .val (.long i1), .second, .val (.long i2), .second, .val (.long i3), .second, .val (.int i4), .val (.long y9_1), .second, .val (.long y11_2), .second, .val (.long y13_3), .second, .val (.long y15_6), .second, .val (.long r_7), .second, .val (.long y19_8), .second, .val (.long (y19_8 + y13_3)), .second, .unset, .unset, .unset, .unset, .unset, .unset] []))
    generalize hn_y21_9 : (y19_8 + y13_3) = y21_9
    refine hG _ _ (fun t k => XS.lload X7.here hx rfl (hb hby at_100) rfl k) ?_
    show G (T7.setTop (mkF m 102 #[.val (.long i0), .second, .val (.long i1), .second, .val (.long i2), .second, .val (.long i3), .second, .val (.int i4), .val (.long y9_1), .second, .val (.long y11_2), .second, .val (.long y13_3), .second, .val (.long y15_6), .second, .val (.long r_7), .second, .val (.long y19_8), .second, .val (.long y21_9), .second, .unset, .unset, .unset, .unset, .unset, .unset] [(.long y9_1)]))
    refine hG _ _ (fun t k => XS.lload X7.here hx rfl (hb hby at_102) rfl k) ?_
    show G (T7.setTop (mkF m 104 #[.val (.long i0), .second, .val (.long i1), .second, .val (.long i2), .second, .val (.long i3), .second, .val (.int i4), .val (.long y9_1), .second, .val (.long y11_2), .second, .val (.long y13_3), .second, .val (.long y15_6), .second, .val (.long r_7), .second, .val (.long y19_8), .second, .val (.long y21_9), .second, .unset, .unset, .unset, .unset, .unset, .unset] [(.long y11_2), (.long y9_1)]))
    refine own_callS X7 hx hZ hG hown (hw _ (List.mem_of_getElem? (i := 25) rfl)) (hw _ (List.mem_of_getElem? (i := 26) rfl)) (hw _ (List.mem_of_getElem? (i := 27) rfl)) (hw _ (List.mem_of_getElem? (i := 28) rfl)) (by decide) 0 (own_mulhi l Z a0 hw y9_1 y11_2 h0 O0 p9 p11) (by decide) (by decide) e7 (by rw [hml]; rfl) (lenOf own_pd1 rfl) (argsL := [(.long y9_1), (.long y11_2)]) (rest := []) rfl rfl (Nat.le_of_eq rfl) (hb hby at_104) (by decide) (by decide) ?_
    intro T10 h10 v10 L10 X10 e10 q10
    obtain ⟨r_10, rfl, M10, rfl, r10_0⟩ := q10
    have N10 := Fr.app N7 M10
    show G (T10.setTop (mkF m 107 #[.val (.long i0), .second, .val (.long i1), .second, .val (.long i2), .second, .val (.long i3), .second, .val (.int i4), .val (.long y9_1), .second, .val (.long y11_2), .second, .val (.long y13_3), .second, .val (.long y15_6), .second, .val (.long r_7), .second, .val (.long y19_8), .second, .val (.long y21_9), .second, .unset, .unset, .unset, .unset, .unset, .unset] [(.long r_10)]))
    refine hG _ _ (fun t k => XS.lload X10.here hx rfl (hb hby at_107) rfl k) ?_
    show G (T10.setTop (mkF m 109 #[.val (.long i0), .second, .val (.long i1), .second, .val (.long i2), .second, .val (.long i3), .second, .val (.int i4), .val (.long y9_1), .second, .val (.long y11_2), .second, .val (.long y13_3), .second, .val (.long y15_6), .second, .val (.long r_7), .second, .val (.long y19_8), .second, .val (.long y21_9), .second, .unset, .unset, .unset, .unset, .unset, .unset] [(.long y21_9), (.long r_10)]))
    refine hG _ _ (fun t k => XS.lload X10.here hx rfl (hb hby at_109) rfl k) ?_
    show G (T10.setTop (mkF m 111 #[.val (.long i0), .second, .val (.long i1), .second, .val (.long i2), .second, .val (.long i3), .second, .val (.int i4), .val (.long y9_1), .second, .val (.long y11_2), .second, .val (.long y13_3), .second, .val (.long y15_6), .second, .val (.long r_7), .second, .val (.long y19_8), .second, .val (.long y21_9), .second, .unset, .unset, .unset, .unset, .unset, .unset] [(.long y19_8), (.long y21_9), (.long r_10)]))
    refine own_callS X10 hx hZ hG hown (hw _ (List.mem_of_getElem? (i := 30) rfl)) (hw _ (List.mem_of_getElem? (i := 31) rfl)) (hw _ (List.mem_of_getElem? (i := 27) rfl)) (hw _ (List.mem_of_getElem? (i := 32) rfl)) (by decide) 2 (own_ult l Z a0 hw y21_9 y19_8 h0 O0) (by decide) (by decide) e10 (by rw [hml]; rfl) (lenOf own_pd4 rfl) (argsL := [(.long y21_9), (.long y19_8)]) (rest := [(.long r_10)]) rfl rfl (Nat.le_of_eq rfl) (hb hby at_111) (by decide) (by decide) ?_
    intro T11 h11 v11 L11 X11 e11 q11
    obtain ⟨r_11, rfl, M11, rfl, r11_0⟩ := q11
    have N11 := Fr.app N10 M11
    show G (T11.setTop (mkF m 114 #[.val (.long i0), .second, .val (.long i1), .second, .val (.long i2), .second, .val (.long i3), .second, .val (.int i4), .val (.long y9_1), .second, .val (.long y11_2), .second, .val (.long y13_3), .second, .val (.long y15_6), .second, .val (.long r_7), .second, .val (.long y19_8), .second, .val (.long y21_9), .second, .unset, .unset, .unset, .unset, .unset, .unset] [(.int r_11), (.long r_10)]))
    by_cases hc114_12 : r_11 = (0 : Int32)
    · skip
      refine hG _ _ (fun t k => XS.ifYes X11.here hx rfl (pc0 := 114) (pc' := 121) rfl (hb hby at_114) rfl ((if0 _ _).trans (teq hc114_12).1) (by decide) (by decide) k) ?_
      show G (T11.setTop (mkF m 121 #[.val (.long i0), .second, .val (.long i1), .second, .val (.long i2), .second, .val (.long i3), .second, .val (.int i4), .val (.long y9_1), .second, .val (.long y11_2), .second, .val (.long y13_3), .second, .val (.long y15_6), .second, .val (.long r_7), .second, .val (.long y19_8), .second, .val (.long y21_9), .second, .unset, .unset, .unset, .unset, .unset, .unset] [(.long r_10)]))
      refine hG _ _ (fun t k => XS.lconst X11.here hx rfl (hb hby at_121) k) ?_
      show G (T11.setTop (mkF m 122 #[.val (.long i0), .second, .val (.long i1), .second, .val (.long i2), .second, .val (.long i3), .second, .val (.int i4), .val (.long y9_1), .second, .val (.long y11_2), .second, .val (.long y13_3), .second, .val (.long y15_6), .second, .val (.long r_7), .second, .val (.long y19_8), .second, .val (.long y21_9), .second, .unset, .unset, .unset, .unset, .unset, .unset] [(.long (0 : Int64)), (.long r_10)]))
      refine hG _ _ (fun t k => XS.ladd X11.here hx rfl (hb hby at_122) rfl k) ?_
      show G (T11.setTop (mkF m 123 #[.val (.long i0), .second, .val (.long i1), .second, .val (.long i2), .second, .val (.long i3), .second, .val (.int i4), .val (.long y9_1), .second, .val (.long y11_2), .second, .val (.long y13_3), .second, .val (.long y15_6), .second, .val (.long r_7), .second, .val (.long y19_8), .second, .val (.long y21_9), .second, .unset, .unset, .unset, .unset, .unset, .unset] [(.long (r_10 + (0 : Int64)))]))
      refine hG _ _ (fun t k => XS.lstore X11.here hx rfl (hb hby at_123) rfl (l' := #[.val (.long i0), .second, .val (.long i1), .second, .val (.long i2), .second, .val (.long i3), .second, .val (.int i4), .val (.long y9_1), .second, .val (.long y11_2), .second, .val (.long y13_3), .second, .val (.long y15_6), .second, .val (.long r_7), .second, .val (.long y19_8), .second, .val (.long y21_9), .second, .val (.long (r_10 + (0 : Int64))), .second, .unset, .unset, .unset, .unset]) rfl k) ?_
      show G (T11.setTop (mkF m 125 #[.val (.long i0), .second, .val (.long i1), .second, .val (.long i2), .second, .val (.long i3), .second, .val (.int i4), .val (.long y9_1), .second, .val (.long y11_2), .second, .val (.long y13_3), .second, .val (.long y15_6), .second, .val (.long r_7), .second, .val (.long y19_8), .second, .val (.long y21_9), .second, .val (.long (r_10 + (0 : Int64))), .second, .unset, .unset, .unset, .unset] []))
      generalize hn_y23_13 : (r_10 + (0 : Int64)) = y23_13
      have ww14 := own_wide p9 p11 p13 r10_0 hn_y19_8 hn_y21_9
      have hX14 : y9_1.toInt * y11_2.toInt + y13_3.toInt = y23_13.toInt * 18446744073709551616 + own_U y21_9 := by rw [own_add0 hn_y23_13]; exact ww14.2.1 (r11_0.mp hc114_12)
      have hH14 : 0 ≤ y23_13.toInt := by rw [own_add0 hn_y23_13]; exact ww14.2.2.1
      show G (T11.setTop (mkF m 125 #[.val (.long i0), .second, .val (.long i1), .second, .val (.long i2), .second, .val (.long i3), .second, .val (.int i4), .val (.long y9_1), .second, .val (.long y11_2), .second, .val (.long y13_3), .second, .val (.long y15_6), .second, .val (.long r_7), .second, .val (.long y19_8), .second, .val (.long y21_9), .second, .val (.long y23_13), .second, .unset, .unset, .unset, .unset] []))
      refine hG _ _ (fun t k => XS.lload X11.here hx rfl (hb hby at_125) rfl k) ?_
      show G (T11.setTop (mkF m 127 #[.val (.long i0), .second, .val (.long i1), .second, .val (.long i2), .second, .val (.long i3), .second, .val (.int i4), .val (.long y9_1), .second, .val (.long y11_2), .second, .val (.long y13_3), .second, .val (.long y15_6), .second, .val (.long r_7), .second, .val (.long y19_8), .second, .val (.long y21_9), .second, .val (.long y23_13), .second, .unset, .unset, .unset, .unset] [(.long r_7)]))
      refine hG _ _ (fun t k => XS.lconst X11.here hx rfl (hb hby at_127) k) ?_
      show G (T11.setTop (mkF m 128 #[.val (.long i0), .second, .val (.long i1), .second, .val (.long i2), .second, .val (.long i3), .second, .val (.int i4), .val (.long y9_1), .second, .val (.long y11_2), .second, .val (.long y13_3), .second, .val (.long y15_6), .second, .val (.long r_7), .second, .val (.long y19_8), .second, .val (.long y21_9), .second, .val (.long y23_13), .second, .unset, .unset, .unset, .unset] [(.long (0 : Int64)), (.long r_7)]))
      refine hG _ _ (fun t k => XS.lcmp X11.here hx rfl (hb hby at_128) rfl k) ?_
      show G (T11.setTop (mkF m 129 #[.val (.long i0), .second, .val (.long i1), .second, .val (.long i2), .second, .val (.long i3), .second, .val (.int i4), .val (.long y9_1), .second, .val (.long y11_2), .second, .val (.long y13_3), .second, .val (.long y15_6), .second, .val (.long r_7), .second, .val (.long y19_8), .second, .val (.long y21_9), .second, .val (.long y23_13), .second, .unset, .unset, .unset, .unset] [(.int (lcmpW r_7 (0 : Int64)))]))
      refine hG _ _ (fun t k => XS.ifYes X11.here hx rfl (pc0 := 129) (pc' := 134) rfl (hb hby at_129) rfl ((if0 _ _).trans (flt (fun q => (fun z => absurd (own_lt0.mp z) (by have q := r7_0.1; omega)) ((lw_lt _ _).mp q))).2.1) (by decide) (by decide) k) ?_
      show G (T11.setTop (mkF m 134 #[.val (.long i0), .second, .val (.long i1), .second, .val (.long i2), .second, .val (.long i3), .second, .val (.int i4), .val (.long y9_1), .second, .val (.long y11_2), .second, .val (.long y13_3), .second, .val (.long y15_6), .second, .val (.long r_7), .second, .val (.long y19_8), .second, .val (.long y21_9), .second, .val (.long y23_13), .second, .unset, .unset, .unset, .unset] []))
      refine hG _ _ (fun t k => XS.lload X11.here hx rfl (hb hby at_134) rfl k) ?_
      show G (T11.setTop (mkF m 136 #[.val (.long i0), .second, .val (.long i1), .second, .val (.long i2), .second, .val (.long i3), .second, .val (.int i4), .val (.long y9_1), .second, .val (.long y11_2), .second, .val (.long y13_3), .second, .val (.long y15_6), .second, .val (.long r_7), .second, .val (.long y19_8), .second, .val (.long y21_9), .second, .val (.long y23_13), .second, .unset, .unset, .unset, .unset] [(.long r_7)]))
      refine hG _ _ (X11.ldc2Long hx hown (mvT hZ (hw _ (List.mem_of_getElem? (i := 0) rfl))) (g := (mkF m 136 #[.val (.long i0), .second, .val (.long i1), .second, .val (.long i2), .second, .val (.long i3), .second, .val (.int i4), .val (.long y9_1), .second, .val (.long y11_2), .second, .val (.long y13_3), .second, .val (.long y15_6), .second, .val (.long r_7), .second, .val (.long y19_8), .second, .val (.long y21_9), .second, .val (.long y23_13), .second, .unset, .unset, .unset, .unset] [(.long r_7)])) rfl (hb hby at_136)) ?_
      show G (T11.setTop (mkF m 139 #[.val (.long i0), .second, .val (.long i1), .second, .val (.long i2), .second, .val (.long i3), .second, .val (.int i4), .val (.long y9_1), .second, .val (.long y11_2), .second, .val (.long y13_3), .second, .val (.long y15_6), .second, .val (.long r_7), .second, .val (.long y19_8), .second, .val (.long y21_9), .second, .val (.long y23_13), .second, .unset, .unset, .unset, .unset] [(.long (9223372036854775807 : Int64)), (.long r_7)]))
      refine hG _ _ (fun t k => XS.lcmp X11.here hx rfl (hb hby at_139) rfl k) ?_
      show G (T11.setTop (mkF m 140 #[.val (.long i0), .second, .val (.long i1), .second, .val (.long i2), .second, .val (.long i3), .second, .val (.int i4), .val (.long y9_1), .second, .val (.long y11_2), .second, .val (.long y13_3), .second, .val (.long y15_6), .second, .val (.long r_7), .second, .val (.long y19_8), .second, .val (.long y21_9), .second, .val (.long y23_13), .second, .unset, .unset, .unset, .unset] [(.int (lcmpW r_7 (9223372036854775807 : Int64)))]))
      by_cases hc140_15 : r_7 = (9223372036854775807 : Int64)
      · skip
        refine hG _ _ (fun t k => XS.ifNo X11.here hx rfl (hb hby at_140) rfl ((if0 _ _).trans (teq ((lw_eq _ _).mpr hc140_15)).2) k) ?_
        show G (T11.setTop (mkF m 143 #[.val (.long i0), .second, .val (.long i1), .second, .val (.long i2), .second, .val (.long i3), .second, .val (.int i4), .val (.long y9_1), .second, .val (.long y11_2), .second, .val (.long y13_3), .second, .val (.long y15_6), .second, .val (.long r_7), .second, .val (.long y19_8), .second, .val (.long y21_9), .second, .val (.long y23_13), .second, .unset, .unset, .unset, .unset] []))
        refine hG _ _ (X11.ldc2Long hx hown (mvT hZ (hw _ (List.mem_of_getElem? (i := 40) rfl))) (g := (mkF m 143 #[.val (.long i0), .second, .val (.long i1), .second, .val (.long i2), .second, .val (.long i3), .second, .val (.int i4), .val (.long y9_1), .second, .val (.long y11_2), .second, .val (.long y13_3), .second, .val (.long y15_6), .second, .val (.long r_7), .second, .val (.long y19_8), .second, .val (.long y21_9), .second, .val (.long y23_13), .second, .unset, .unset, .unset, .unset] [])) rfl (hb hby at_143)) ?_
        show G (T11.setTop (mkF m 146 #[.val (.long i0), .second, .val (.long i1), .second, .val (.long i2), .second, .val (.long i3), .second, .val (.int i4), .val (.long y9_1), .second, .val (.long y11_2), .second, .val (.long y13_3), .second, .val (.long y15_6), .second, .val (.long r_7), .second, .val (.long y19_8), .second, .val (.long y21_9), .second, .val (.long y23_13), .second, .unset, .unset, .unset, .unset] [(.long (9223372036854775806 : Int64))]))
        refine hG _ _ (fun t k => XS.lstore X11.here hx rfl (hb hby at_146) rfl (l' := #[.val (.long i0), .second, .val (.long i1), .second, .val (.long i2), .second, .val (.long i3), .second, .val (.int i4), .val (.long y9_1), .second, .val (.long y11_2), .second, .val (.long y13_3), .second, .val (.long y15_6), .second, .val (.long r_7), .second, .val (.long y19_8), .second, .val (.long y21_9), .second, .val (.long y23_13), .second, .val (.long (9223372036854775806 : Int64)), .second, .unset, .unset]) rfl k) ?_
        show G (T11.setTop (mkF m 148 #[.val (.long i0), .second, .val (.long i1), .second, .val (.long i2), .second, .val (.long i3), .second, .val (.int i4), .val (.long y9_1), .second, .val (.long y11_2), .second, .val (.long y13_3), .second, .val (.long y15_6), .second, .val (.long r_7), .second, .val (.long y19_8), .second, .val (.long y21_9), .second, .val (.long y23_13), .second, .val (.long (9223372036854775806 : Int64)), .second, .unset, .unset] []))
        generalize hn_y25_16 : (9223372036854775806 : Int64) = y25_16
        have hE25 : y25_16.toInt = 9223372036854775806 := by rw [← hn_y25_16]; decide
        show G (T11.setTop (mkF m 148 #[.val (.long i0), .second, .val (.long i1), .second, .val (.long i2), .second, .val (.long i3), .second, .val (.int i4), .val (.long y9_1), .second, .val (.long y11_2), .second, .val (.long y13_3), .second, .val (.long y15_6), .second, .val (.long r_7), .second, .val (.long y19_8), .second, .val (.long y21_9), .second, .val (.long y23_13), .second, .val (.long y25_16), .second, .unset, .unset] []))
        refine hG _ _ (fun t k => XS.lload X11.here hx rfl (hb hby at_148) rfl k) ?_
        show G (T11.setTop (mkF m 150 #[.val (.long i0), .second, .val (.long i1), .second, .val (.long i2), .second, .val (.long i3), .second, .val (.int i4), .val (.long y9_1), .second, .val (.long y11_2), .second, .val (.long y13_3), .second, .val (.long y15_6), .second, .val (.long r_7), .second, .val (.long y19_8), .second, .val (.long y21_9), .second, .val (.long y23_13), .second, .val (.long y25_16), .second, .unset, .unset] [(.long y25_16)]))
        refine hG _ _ (fun t k => XS.lload X11.here hx rfl (hb hby at_150) rfl k) ?_
        show G (T11.setTop (mkF m 152 #[.val (.long i0), .second, .val (.long i1), .second, .val (.long i2), .second, .val (.long i3), .second, .val (.int i4), .val (.long y9_1), .second, .val (.long y11_2), .second, .val (.long y13_3), .second, .val (.long y15_6), .second, .val (.long r_7), .second, .val (.long y19_8), .second, .val (.long y21_9), .second, .val (.long y23_13), .second, .val (.long y25_16), .second, .unset, .unset] [(.long y15_6), (.long y25_16)]))
        refine own_callS X11 hx hZ hG hown (hw _ (List.mem_of_getElem? (i := 25) rfl)) (hw _ (List.mem_of_getElem? (i := 26) rfl)) (hw _ (List.mem_of_getElem? (i := 27) rfl)) (hw _ (List.mem_of_getElem? (i := 28) rfl)) (by decide) 0 (own_mulhi l Z a0 hw y25_16 y15_6 h0 O0 (by rw [hE25]; decide) (Int.le_of_lt q15)) (by decide) (by decide) e11 (by rw [hml]; rfl) (lenOf own_pd1 rfl) (argsL := [(.long y25_16), (.long y15_6)]) (rest := []) rfl rfl (Nat.le_of_eq rfl) (hb hby at_152) (by decide) (by decide) ?_
        intro T17 h17 v17 L17 X17 e17 q17
        obtain ⟨r_17, rfl, M17, rfl, r17_0⟩ := q17
        have N17 := Fr.app N11 M17
        show G (T17.setTop (mkF m 155 #[.val (.long i0), .second, .val (.long i1), .second, .val (.long i2), .second, .val (.long i3), .second, .val (.int i4), .val (.long y9_1), .second, .val (.long y11_2), .second, .val (.long y13_3), .second, .val (.long y15_6), .second, .val (.long r_7), .second, .val (.long y19_8), .second, .val (.long y21_9), .second, .val (.long y23_13), .second, .val (.long y25_16), .second, .unset, .unset] [(.long r_17)]))
        refine hG _ _ (fun t k => XS.lload X17.here hx rfl (hb hby at_155) rfl k) ?_
        show G (T17.setTop (mkF m 157 #[.val (.long i0), .second, .val (.long i1), .second, .val (.long i2), .second, .val (.long i3), .second, .val (.int i4), .val (.long y9_1), .second, .val (.long y11_2), .second, .val (.long y13_3), .second, .val (.long y15_6), .second, .val (.long r_7), .second, .val (.long y19_8), .second, .val (.long y21_9), .second, .val (.long y23_13), .second, .val (.long y25_16), .second, .unset, .unset] [(.long y25_16), (.long r_17)]))
        refine hG _ _ (fun t k => XS.lload X17.here hx rfl (hb hby at_157) rfl k) ?_
        show G (T17.setTop (mkF m 159 #[.val (.long i0), .second, .val (.long i1), .second, .val (.long i2), .second, .val (.long i3), .second, .val (.int i4), .val (.long y9_1), .second, .val (.long y11_2), .second, .val (.long y13_3), .second, .val (.long y15_6), .second, .val (.long r_7), .second, .val (.long y19_8), .second, .val (.long y21_9), .second, .val (.long y23_13), .second, .val (.long y25_16), .second, .unset, .unset] [(.long y15_6), (.long y25_16), (.long r_17)]))
        refine hG _ _ (fun t k => XS.lmul X17.here hx rfl (hb hby at_159) rfl k) ?_
        show G (T17.setTop (mkF m 160 #[.val (.long i0), .second, .val (.long i1), .second, .val (.long i2), .second, .val (.long i3), .second, .val (.int i4), .val (.long y9_1), .second, .val (.long y11_2), .second, .val (.long y13_3), .second, .val (.long y15_6), .second, .val (.long r_7), .second, .val (.long y19_8), .second, .val (.long y21_9), .second, .val (.long y23_13), .second, .val (.long y25_16), .second, .unset, .unset] [(.long (y25_16 * y15_6)), (.long r_17)]))
        refine hG _ _ (fun t k => XS.lload X17.here hx rfl (hb hby at_160) rfl k) ?_
        show G (T17.setTop (mkF m 162 #[.val (.long i0), .second, .val (.long i1), .second, .val (.long i2), .second, .val (.long i3), .second, .val (.int i4), .val (.long y9_1), .second, .val (.long y11_2), .second, .val (.long y13_3), .second, .val (.long y15_6), .second, .val (.long r_7), .second, .val (.long y19_8), .second, .val (.long y21_9), .second, .val (.long y23_13), .second, .val (.long y25_16), .second, .unset, .unset] [(.long y23_13), (.long (y25_16 * y15_6)), (.long r_17)]))
        refine hG _ _ (fun t k => XS.lload X17.here hx rfl (hb hby at_162) rfl k) ?_
        show G (T17.setTop (mkF m 164 #[.val (.long i0), .second, .val (.long i1), .second, .val (.long i2), .second, .val (.long i3), .second, .val (.int i4), .val (.long y9_1), .second, .val (.long y11_2), .second, .val (.long y13_3), .second, .val (.long y15_6), .second, .val (.long r_7), .second, .val (.long y19_8), .second, .val (.long y21_9), .second, .val (.long y23_13), .second, .val (.long y25_16), .second, .unset, .unset] [(.long y21_9), (.long y23_13), (.long (y25_16 * y15_6)), (.long r_17)]))
        have hM18 := own_wide0 (by rw [hE25]; decide) (Int.le_of_lt q15) r17_0 (rfl : (y25_16 * y15_6) = _)
        have hp18 : r_17.toInt * 18446744073709551616 + own_U (y25_16 * y15_6) < y23_13.toInt * 18446744073709551616 + own_U y21_9 := by rw [← hM18, ← hX14]; exact (by rw [hE25]; exact r7_0.2.1 (own_eq64.mp hc140_15))
        refine own_callS X17 hx hZ hG hown (hw _ (List.mem_of_getElem? (i := 34) rfl)) (hw _ (List.mem_of_getElem? (i := 35) rfl)) (hw _ (List.mem_of_getElem? (i := 27) rfl)) (hw _ (List.mem_of_getElem? (i := 36) rfl)) (by decide) 0 (own_lt2 l Z a0 hw r_17 (y25_16 * y15_6) y23_13 y21_9 h0 O0 hp18) (by decide) (by decide) e17 (by rw [hml]; rfl) (lenOf own_pd5 rfl) (argsL := [(.long r_17), (.long (y25_16 * y15_6)), (.long y23_13), (.long y21_9)]) (rest := []) rfl rfl (Nat.le_of_eq rfl) (hb hby at_164) (by decide) (by decide) ?_
        intro T19 h19 v19 L19 X19 e19 q19
        obtain ⟨rfl, M19, rfl⟩ := q19
        have N19 := Fr.app N17 M19
        show G (T19.setTop (mkF m 167 #[.val (.long i0), .second, .val (.long i1), .second, .val (.long i2), .second, .val (.long i3), .second, .val (.int i4), .val (.long y9_1), .second, .val (.long y11_2), .second, .val (.long y13_3), .second, .val (.long y15_6), .second, .val (.long r_7), .second, .val (.long y19_8), .second, .val (.long y21_9), .second, .val (.long y23_13), .second, .val (.long y25_16), .second, .unset, .unset] [(.int (1 : Int32))]))
        exact own_retN hR hret (by simp) X19 hx (hb hby at_167) (by decide) (by decide) (by rw [e19]; exact ⟨rfl, N19, (Keep.refl h0 [])⟩)
      · skip
        refine hG _ _ (fun t k => XS.ifYes X11.here hx rfl (pc0 := 140) (pc' := 168) rfl (hb hby at_140) rfl ((if0 _ _).trans (feq (fun q => hc140_15 ((lw_eq _ _).mp q))).2) (by decide) (by decide) k) ?_
        show G (T11.setTop (mkF m 168 #[.val (.long i0), .second, .val (.long i1), .second, .val (.long i2), .second, .val (.long i3), .second, .val (.int i4), .val (.long y9_1), .second, .val (.long y11_2), .second, .val (.long y13_3), .second, .val (.long y15_6), .second, .val (.long r_7), .second, .val (.long y19_8), .second, .val (.long y21_9), .second, .val (.long y23_13), .second, .unset, .unset, .unset, .unset] []))
        refine hG _ _ (fun t k => XS.lload X11.here hx rfl (hb hby at_168) rfl k) ?_
        show G (T11.setTop (mkF m 170 #[.val (.long i0), .second, .val (.long i1), .second, .val (.long i2), .second, .val (.long i3), .second, .val (.int i4), .val (.long y9_1), .second, .val (.long y11_2), .second, .val (.long y13_3), .second, .val (.long y15_6), .second, .val (.long r_7), .second, .val (.long y19_8), .second, .val (.long y21_9), .second, .val (.long y23_13), .second, .unset, .unset, .unset, .unset] [(.long r_7)]))
        refine hG _ _ (fun t k => XS.lconst X11.here hx rfl (hb hby at_170) k) ?_
        show G (T11.setTop (mkF m 171 #[.val (.long i0), .second, .val (.long i1), .second, .val (.long i2), .second, .val (.long i3), .second, .val (.int i4), .val (.long y9_1), .second, .val (.long y11_2), .second, .val (.long y13_3), .second, .val (.long y15_6), .second, .val (.long r_7), .second, .val (.long y19_8), .second, .val (.long y21_9), .second, .val (.long y23_13), .second, .unset, .unset, .unset, .unset] [(.long (0 : Int64)), (.long r_7)]))
        refine hG _ _ (fun t k => XS.lcmp X11.here hx rfl (hb hby at_171) rfl k) ?_
        show G (T11.setTop (mkF m 172 #[.val (.long i0), .second, .val (.long i1), .second, .val (.long i2), .second, .val (.long i3), .second, .val (.int i4), .val (.long y9_1), .second, .val (.long y11_2), .second, .val (.long y13_3), .second, .val (.long y15_6), .second, .val (.long r_7), .second, .val (.long y19_8), .second, .val (.long y21_9), .second, .val (.long y23_13), .second, .unset, .unset, .unset, .unset] [(.int (lcmpW r_7 (0 : Int64)))]))
        by_cases hc172_20 : r_7 = (0 : Int64)
        · skip
          refine hG _ _ (fun t k => XS.ifNo X11.here hx rfl (hb hby at_172) rfl ((if0 _ _).trans (teq ((lw_eq _ _).mpr hc172_20)).2) k) ?_
          show G (T11.setTop (mkF m 175 #[.val (.long i0), .second, .val (.long i1), .second, .val (.long i2), .second, .val (.long i3), .second, .val (.int i4), .val (.long y9_1), .second, .val (.long y11_2), .second, .val (.long y13_3), .second, .val (.long y15_6), .second, .val (.long r_7), .second, .val (.long y19_8), .second, .val (.long y21_9), .second, .val (.long y23_13), .second, .unset, .unset, .unset, .unset] []))
          refine hG _ _ (fun t k => XS.lload X11.here hx rfl (hb hby at_175) rfl k) ?_
          show G (T11.setTop (mkF m 177 #[.val (.long i0), .second, .val (.long i1), .second, .val (.long i2), .second, .val (.long i3), .second, .val (.int i4), .val (.long y9_1), .second, .val (.long y11_2), .second, .val (.long y13_3), .second, .val (.long y15_6), .second, .val (.long r_7), .second, .val (.long y19_8), .second, .val (.long y21_9), .second, .val (.long y23_13), .second, .unset, .unset, .unset, .unset] [(.long y23_13)]))
          refine hG _ _ (fun t k => XS.lconst X11.here hx rfl (hb hby at_177) k) ?_
          show G (T11.setTop (mkF m 178 #[.val (.long i0), .second, .val (.long i1), .second, .val (.long i2), .second, .val (.long i3), .second, .val (.int i4), .val (.long y9_1), .second, .val (.long y11_2), .second, .val (.long y13_3), .second, .val (.long y15_6), .second, .val (.long r_7), .second, .val (.long y19_8), .second, .val (.long y21_9), .second, .val (.long y23_13), .second, .unset, .unset, .unset, .unset] [(.long (0 : Int64)), (.long y23_13)]))
          refine hG _ _ (fun t k => XS.lcmp X11.here hx rfl (hb hby at_178) rfl k) ?_
          show G (T11.setTop (mkF m 179 #[.val (.long i0), .second, .val (.long i1), .second, .val (.long i2), .second, .val (.long i3), .second, .val (.int i4), .val (.long y9_1), .second, .val (.long y11_2), .second, .val (.long y13_3), .second, .val (.long y15_6), .second, .val (.long r_7), .second, .val (.long y19_8), .second, .val (.long y21_9), .second, .val (.long y23_13), .second, .unset, .unset, .unset, .unset] [(.int (lcmpW y23_13 (0 : Int64)))]))
          refine hG _ _ (fun t k => XS.ifNo X11.here hx rfl (hb hby at_179) rfl ((if0 _ _).trans (teq ((lw_eq _ _).mpr (own_eq0.mpr (by have e0 := r7_0.2.2.1 (own_eq0.mp hc172_20); have e1 := hX14; have u := own_U_rng y21_9; have e2 := hH14; omega)))).2) k) ?_
          show G (T11.setTop (mkF m 182 #[.val (.long i0), .second, .val (.long i1), .second, .val (.long i2), .second, .val (.long i3), .second, .val (.int i4), .val (.long y9_1), .second, .val (.long y11_2), .second, .val (.long y13_3), .second, .val (.long y15_6), .second, .val (.long r_7), .second, .val (.long y19_8), .second, .val (.long y21_9), .second, .val (.long y23_13), .second, .unset, .unset, .unset, .unset] []))
          refine hG _ _ (fun t k => XS.lload X11.here hx rfl (hb hby at_182) rfl k) ?_
          show G (T11.setTop (mkF m 184 #[.val (.long i0), .second, .val (.long i1), .second, .val (.long i2), .second, .val (.long i3), .second, .val (.int i4), .val (.long y9_1), .second, .val (.long y11_2), .second, .val (.long y13_3), .second, .val (.long y15_6), .second, .val (.long r_7), .second, .val (.long y19_8), .second, .val (.long y21_9), .second, .val (.long y23_13), .second, .unset, .unset, .unset, .unset] [(.long y21_9)]))
          refine hG _ _ (fun t k => XS.lconst X11.here hx rfl (hb hby at_184) k) ?_
          show G (T11.setTop (mkF m 185 #[.val (.long i0), .second, .val (.long i1), .second, .val (.long i2), .second, .val (.long i3), .second, .val (.int i4), .val (.long y9_1), .second, .val (.long y11_2), .second, .val (.long y13_3), .second, .val (.long y15_6), .second, .val (.long r_7), .second, .val (.long y19_8), .second, .val (.long y21_9), .second, .val (.long y23_13), .second, .unset, .unset, .unset, .unset] [(.long (0 : Int64)), (.long y21_9)]))
          refine hG _ _ (fun t k => XS.lcmp X11.here hx rfl (hb hby at_185) rfl k) ?_
          show G (T11.setTop (mkF m 186 #[.val (.long i0), .second, .val (.long i1), .second, .val (.long i2), .second, .val (.long i3), .second, .val (.int i4), .val (.long y9_1), .second, .val (.long y11_2), .second, .val (.long y13_3), .second, .val (.long y15_6), .second, .val (.long r_7), .second, .val (.long y19_8), .second, .val (.long y21_9), .second, .val (.long y23_13), .second, .unset, .unset, .unset, .unset] [(.int (lcmpW y21_9 (0 : Int64)))]))
          refine hG _ _ (fun t k => XS.ifNo X11.here hx rfl (hb hby at_186) rfl ((if0 _ _).trans (teq ((lw_eq _ _).mpr (own_eq0.mpr (by have e0 := r7_0.2.2.1 (own_eq0.mp hc172_20); have e1 := hX14; have u := own_U_rng y21_9; have e2 := hH14; have uc := own_Ucase y21_9; have rr := rng64 y21_9; omega)))).2) k) ?_
          show G (T11.setTop (mkF m 189 #[.val (.long i0), .second, .val (.long i1), .second, .val (.long i2), .second, .val (.long i3), .second, .val (.int i4), .val (.long y9_1), .second, .val (.long y11_2), .second, .val (.long y13_3), .second, .val (.long y15_6), .second, .val (.long r_7), .second, .val (.long y19_8), .second, .val (.long y21_9), .second, .val (.long y23_13), .second, .unset, .unset, .unset, .unset] []))
          refine hG _ _ (fun t k => XS.iconst X11.here hx rfl (hb hby at_189) k) ?_
          show G (T11.setTop (mkF m 190 #[.val (.long i0), .second, .val (.long i1), .second, .val (.long i2), .second, .val (.long i3), .second, .val (.int i4), .val (.long y9_1), .second, .val (.long y11_2), .second, .val (.long y13_3), .second, .val (.long y15_6), .second, .val (.long r_7), .second, .val (.long y19_8), .second, .val (.long y21_9), .second, .val (.long y23_13), .second, .unset, .unset, .unset, .unset] [(.int (1 : Int32))]))
          refine hG _ _ (fun t k => XS.goto X11.here hx rfl (pc0 := 190) (pc' := 194) rfl (hb hby at_190) (by decide) (by decide) k) ?_
          show G (T11.setTop (mkF m 194 #[.val (.long i0), .second, .val (.long i1), .second, .val (.long i2), .second, .val (.long i3), .second, .val (.int i4), .val (.long y9_1), .second, .val (.long y11_2), .second, .val (.long y13_3), .second, .val (.long y15_6), .second, .val (.long r_7), .second, .val (.long y19_8), .second, .val (.long y21_9), .second, .val (.long y23_13), .second, .unset, .unset, .unset, .unset] [(.int (1 : Int32))]))
          exact own_retN hR hret (by simp) X11 hx (hb hby at_194) (by decide) (by decide) (by rw [e11]; exact ⟨rfl, N11, (Keep.refl h0 [])⟩)
        · skip
          refine hG _ _ (fun t k => XS.ifYes X11.here hx rfl (pc0 := 172) (pc' := 195) rfl (hb hby at_172) rfl ((if0 _ _).trans (feq (fun q => hc172_20 ((lw_eq _ _).mp q))).2) (by decide) (by decide) k) ?_
          show G (T11.setTop (mkF m 195 #[.val (.long i0), .second, .val (.long i1), .second, .val (.long i2), .second, .val (.long i3), .second, .val (.int i4), .val (.long y9_1), .second, .val (.long y11_2), .second, .val (.long y13_3), .second, .val (.long y15_6), .second, .val (.long r_7), .second, .val (.long y19_8), .second, .val (.long y21_9), .second, .val (.long y23_13), .second, .unset, .unset, .unset, .unset] []))
          refine hG _ _ (fun t k => XS.lload X11.here hx rfl (hb hby at_195) rfl k) ?_
          show G (T11.setTop (mkF m 197 #[.val (.long i0), .second, .val (.long i1), .second, .val (.long i2), .second, .val (.long i3), .second, .val (.int i4), .val (.long y9_1), .second, .val (.long y11_2), .second, .val (.long y13_3), .second, .val (.long y15_6), .second, .val (.long r_7), .second, .val (.long y19_8), .second, .val (.long y21_9), .second, .val (.long y23_13), .second, .unset, .unset, .unset, .unset] [(.long r_7)]))
          refine hG _ _ (fun t k => XS.lconst X11.here hx rfl (hb hby at_197) k) ?_
          show G (T11.setTop (mkF m 198 #[.val (.long i0), .second, .val (.long i1), .second, .val (.long i2), .second, .val (.long i3), .second, .val (.int i4), .val (.long y9_1), .second, .val (.long y11_2), .second, .val (.long y13_3), .second, .val (.long y15_6), .second, .val (.long r_7), .second, .val (.long y19_8), .second, .val (.long y21_9), .second, .val (.long y23_13), .second, .unset, .unset, .unset, .unset] [(.long (1 : Int64)), (.long r_7)]))
          refine hG _ _ (fun t k => XS.lsub X11.here hx rfl (hb hby at_198) rfl k) ?_
          show G (T11.setTop (mkF m 199 #[.val (.long i0), .second, .val (.long i1), .second, .val (.long i2), .second, .val (.long i3), .second, .val (.int i4), .val (.long y9_1), .second, .val (.long y11_2), .second, .val (.long y13_3), .second, .val (.long y15_6), .second, .val (.long r_7), .second, .val (.long y19_8), .second, .val (.long y21_9), .second, .val (.long y23_13), .second, .unset, .unset, .unset, .unset] [(.long (r_7 - (1 : Int64)))]))
          refine hG _ _ (fun t k => XS.lstore X11.here hx rfl (hb hby at_199) rfl (l' := #[.val (.long i0), .second, .val (.long i1), .second, .val (.long i2), .second, .val (.long i3), .second, .val (.int i4), .val (.long y9_1), .second, .val (.long y11_2), .second, .val (.long y13_3), .second, .val (.long y15_6), .second, .val (.long r_7), .second, .val (.long y19_8), .second, .val (.long y21_9), .second, .val (.long y23_13), .second, .val (.long (r_7 - (1 : Int64))), .second, .unset, .unset]) rfl k) ?_
          show G (T11.setTop (mkF m 201 #[.val (.long i0), .second, .val (.long i1), .second, .val (.long i2), .second, .val (.long i3), .second, .val (.int i4), .val (.long y9_1), .second, .val (.long y11_2), .second, .val (.long y13_3), .second, .val (.long y15_6), .second, .val (.long r_7), .second, .val (.long y19_8), .second, .val (.long y21_9), .second, .val (.long y23_13), .second, .val (.long (r_7 - (1 : Int64))), .second, .unset, .unset] []))
          generalize hn_y25_21 : (r_7 - (1 : Int64)) = y25_21
          have hC4 := r7_0.2.2.2 (fun z => hc140_15 (own_eq64.mpr z)) (fun z => hc172_20 (own_eq0.mpr z))
          have qn := r7_0.1
          have hE25 : y25_21.toInt = r_7.toInt - 1 := by rw [← hn_y25_21]; have e := c_lsub r_7 1; have e1 : (1 : Int64).toInt = 1 := (by decide); have r1 := rng64 (r_7 - 1); have r2 := rng64 r_7; have q0 := mt own_eq0.mpr hc172_20; omega
          have hP25 : 0 ≤ y25_21.toInt := by have q0 := mt own_eq0.mpr hc172_20; omega
          show G (T11.setTop (mkF m 201 #[.val (.long i0), .second, .val (.long i1), .second, .val (.long i2), .second, .val (.long i3), .second, .val (.int i4), .val (.long y9_1), .second, .val (.long y11_2), .second, .val (.long y13_3), .second, .val (.long y15_6), .second, .val (.long r_7), .second, .val (.long y19_8), .second, .val (.long y21_9), .second, .val (.long y23_13), .second, .val (.long y25_21), .second, .unset, .unset] []))
          refine hG _ _ (fun t k => XS.lload X11.here hx rfl (hb hby at_201) rfl k) ?_
          show G (T11.setTop (mkF m 203 #[.val (.long i0), .second, .val (.long i1), .second, .val (.long i2), .second, .val (.long i3), .second, .val (.int i4), .val (.long y9_1), .second, .val (.long y11_2), .second, .val (.long y13_3), .second, .val (.long y15_6), .second, .val (.long r_7), .second, .val (.long y19_8), .second, .val (.long y21_9), .second, .val (.long y23_13), .second, .val (.long y25_21), .second, .unset, .unset] [(.long r_7)]))
          refine hG _ _ (fun t k => XS.lload X11.here hx rfl (hb hby at_203) rfl k) ?_
          show G (T11.setTop (mkF m 205 #[.val (.long i0), .second, .val (.long i1), .second, .val (.long i2), .second, .val (.long i3), .second, .val (.int i4), .val (.long y9_1), .second, .val (.long y11_2), .second, .val (.long y13_3), .second, .val (.long y15_6), .second, .val (.long r_7), .second, .val (.long y19_8), .second, .val (.long y21_9), .second, .val (.long y23_13), .second, .val (.long y25_21), .second, .unset, .unset] [(.long y15_6), (.long r_7)]))
          refine own_callS X11 hx hZ hG hown (hw _ (List.mem_of_getElem? (i := 25) rfl)) (hw _ (List.mem_of_getElem? (i := 26) rfl)) (hw _ (List.mem_of_getElem? (i := 27) rfl)) (hw _ (List.mem_of_getElem? (i := 28) rfl)) (by decide) 0 (own_mulhi l Z a0 hw r_7 y15_6 h0 O0 qn (Int.le_of_lt q15)) (by decide) (by decide) e11 (by rw [hml]; rfl) (lenOf own_pd1 rfl) (argsL := [(.long r_7), (.long y15_6)]) (rest := []) rfl rfl (Nat.le_of_eq rfl) (hb hby at_205) (by decide) (by decide) ?_
          intro T22 h22 v22 L22 X22 e22 q22
          obtain ⟨r_22, rfl, M22, rfl, r22_0⟩ := q22
          have N22 := Fr.app N11 M22
          show G (T22.setTop (mkF m 208 #[.val (.long i0), .second, .val (.long i1), .second, .val (.long i2), .second, .val (.long i3), .second, .val (.int i4), .val (.long y9_1), .second, .val (.long y11_2), .second, .val (.long y13_3), .second, .val (.long y15_6), .second, .val (.long r_7), .second, .val (.long y19_8), .second, .val (.long y21_9), .second, .val (.long y23_13), .second, .val (.long y25_21), .second, .unset, .unset] [(.long r_22)]))
          refine hG _ _ (fun t k => XS.lload X22.here hx rfl (hb hby at_208) rfl k) ?_
          show G (T22.setTop (mkF m 210 #[.val (.long i0), .second, .val (.long i1), .second, .val (.long i2), .second, .val (.long i3), .second, .val (.int i4), .val (.long y9_1), .second, .val (.long y11_2), .second, .val (.long y13_3), .second, .val (.long y15_6), .second, .val (.long r_7), .second, .val (.long y19_8), .second, .val (.long y21_9), .second, .val (.long y23_13), .second, .val (.long y25_21), .second, .unset, .unset] [(.long r_7), (.long r_22)]))
          refine hG _ _ (fun t k => XS.lload X22.here hx rfl (hb hby at_210) rfl k) ?_
          show G (T22.setTop (mkF m 212 #[.val (.long i0), .second, .val (.long i1), .second, .val (.long i2), .second, .val (.long i3), .second, .val (.int i4), .val (.long y9_1), .second, .val (.long y11_2), .second, .val (.long y13_3), .second, .val (.long y15_6), .second, .val (.long r_7), .second, .val (.long y19_8), .second, .val (.long y21_9), .second, .val (.long y23_13), .second, .val (.long y25_21), .second, .unset, .unset] [(.long y15_6), (.long r_7), (.long r_22)]))
          refine hG _ _ (fun t k => XS.lmul X22.here hx rfl (hb hby at_212) rfl k) ?_
          show G (T22.setTop (mkF m 213 #[.val (.long i0), .second, .val (.long i1), .second, .val (.long i2), .second, .val (.long i3), .second, .val (.int i4), .val (.long y9_1), .second, .val (.long y11_2), .second, .val (.long y13_3), .second, .val (.long y15_6), .second, .val (.long r_7), .second, .val (.long y19_8), .second, .val (.long y21_9), .second, .val (.long y23_13), .second, .val (.long y25_21), .second, .unset, .unset] [(.long (r_7 * y15_6)), (.long r_22)]))
          refine hG _ _ (fun t k => XS.lload X22.here hx rfl (hb hby at_213) rfl k) ?_
          show G (T22.setTop (mkF m 215 #[.val (.long i0), .second, .val (.long i1), .second, .val (.long i2), .second, .val (.long i3), .second, .val (.int i4), .val (.long y9_1), .second, .val (.long y11_2), .second, .val (.long y13_3), .second, .val (.long y15_6), .second, .val (.long r_7), .second, .val (.long y19_8), .second, .val (.long y21_9), .second, .val (.long y23_13), .second, .val (.long y25_21), .second, .unset, .unset] [(.long y23_13), (.long (r_7 * y15_6)), (.long r_22)]))
          refine hG _ _ (fun t k => XS.lload X22.here hx rfl (hb hby at_215) rfl k) ?_
          show G (T22.setTop (mkF m 217 #[.val (.long i0), .second, .val (.long i1), .second, .val (.long i2), .second, .val (.long i3), .second, .val (.int i4), .val (.long y9_1), .second, .val (.long y11_2), .second, .val (.long y13_3), .second, .val (.long y15_6), .second, .val (.long r_7), .second, .val (.long y19_8), .second, .val (.long y21_9), .second, .val (.long y23_13), .second, .val (.long y25_21), .second, .unset, .unset] [(.long y21_9), (.long y23_13), (.long (r_7 * y15_6)), (.long r_22)]))
          have hM23 := own_wide0 qn (Int.le_of_lt q15) r22_0 (rfl : (r_7 * y15_6) = _)
          have hp23 : y23_13.toInt * 18446744073709551616 + own_U y21_9 ≤ r_22.toInt * 18446744073709551616 + own_U (r_7 * y15_6) := by rw [← hM23, ← hX14]; exact hC4.1
          refine own_callS X22 hx hZ hG hown (hw _ (List.mem_of_getElem? (i := 34) rfl)) (hw _ (List.mem_of_getElem? (i := 35) rfl)) (hw _ (List.mem_of_getElem? (i := 27) rfl)) (hw _ (List.mem_of_getElem? (i := 36) rfl)) (by decide) 0 (own_ltF l Z a0 hw r_22 (r_7 * y15_6) y23_13 y21_9 h0 O0 hp23) (by decide) (by decide) e22 (by rw [hml]; rfl) (lenOf own_pd5 rfl) (argsL := [(.long r_22), (.long (r_7 * y15_6)), (.long y23_13), (.long y21_9)]) (rest := []) rfl rfl (Nat.le_of_eq rfl) (hb hby at_217) (by decide) (by decide) ?_
          intro T24 h24 v24 L24 X24 e24 q24
          obtain ⟨rfl, M24, rfl⟩ := q24
          have N24 := Fr.app N22 M24
          show G (T24.setTop (mkF m 220 #[.val (.long i0), .second, .val (.long i1), .second, .val (.long i2), .second, .val (.long i3), .second, .val (.int i4), .val (.long y9_1), .second, .val (.long y11_2), .second, .val (.long y13_3), .second, .val (.long y15_6), .second, .val (.long r_7), .second, .val (.long y19_8), .second, .val (.long y21_9), .second, .val (.long y23_13), .second, .val (.long y25_21), .second, .unset, .unset] [(.int (0 : Int32))]))
          refine hG _ _ (fun t k => XS.ifNo X24.here hx rfl (hb hby at_220) rfl ((if0 _ _).trans (teq (by decide)).2) k) ?_
          show G (T24.setTop (mkF m 223 #[.val (.long i0), .second, .val (.long i1), .second, .val (.long i2), .second, .val (.long i3), .second, .val (.int i4), .val (.long y9_1), .second, .val (.long y11_2), .second, .val (.long y13_3), .second, .val (.long y15_6), .second, .val (.long r_7), .second, .val (.long y19_8), .second, .val (.long y21_9), .second, .val (.long y23_13), .second, .val (.long y25_21), .second, .unset, .unset] []))
          refine hG _ _ (fun t k => XS.iconst X24.here hx rfl (hb hby at_223) k) ?_
          show G (T24.setTop (mkF m 224 #[.val (.long i0), .second, .val (.long i1), .second, .val (.long i2), .second, .val (.long i3), .second, .val (.int i4), .val (.long y9_1), .second, .val (.long y11_2), .second, .val (.long y13_3), .second, .val (.long y15_6), .second, .val (.long r_7), .second, .val (.long y19_8), .second, .val (.long y21_9), .second, .val (.long y23_13), .second, .val (.long y25_21), .second, .unset, .unset] [(.int (1 : Int32))]))
          refine hG _ _ (fun t k => XS.goto X24.here hx rfl (pc0 := 224) (pc' := 228) rfl (hb hby at_224) (by decide) (by decide) k) ?_
          show G (T24.setTop (mkF m 228 #[.val (.long i0), .second, .val (.long i1), .second, .val (.long i2), .second, .val (.long i3), .second, .val (.int i4), .val (.long y9_1), .second, .val (.long y11_2), .second, .val (.long y13_3), .second, .val (.long y15_6), .second, .val (.long r_7), .second, .val (.long y19_8), .second, .val (.long y21_9), .second, .val (.long y23_13), .second, .val (.long y25_21), .second, .unset, .unset] [(.int (1 : Int32))]))
          refine hG _ _ (fun t k => XS.istore X24.here hx rfl (hb hby at_228) rfl (l' := #[.val (.long i0), .second, .val (.long i1), .second, .val (.long i2), .second, .val (.long i3), .second, .val (.int i4), .val (.long y9_1), .second, .val (.long y11_2), .second, .val (.long y13_3), .second, .val (.long y15_6), .second, .val (.long r_7), .second, .val (.long y19_8), .second, .val (.long y21_9), .second, .val (.long y23_13), .second, .val (.long y25_21), .second, .val (.int (1 : Int32)), .unset]) rfl k) ?_
          show G (T24.setTop (mkF m 230 #[.val (.long i0), .second, .val (.long i1), .second, .val (.long i2), .second, .val (.long i3), .second, .val (.int i4), .val (.long y9_1), .second, .val (.long y11_2), .second, .val (.long y13_3), .second, .val (.long y15_6), .second, .val (.long r_7), .second, .val (.long y19_8), .second, .val (.long y21_9), .second, .val (.long y23_13), .second, .val (.long y25_21), .second, .val (.int (1 : Int32)), .unset] []))
          refine hG _ _ (fun t k => XS.lload X24.here hx rfl (hb hby at_230) rfl k) ?_
          show G (T24.setTop (mkF m 232 #[.val (.long i0), .second, .val (.long i1), .second, .val (.long i2), .second, .val (.long i3), .second, .val (.int i4), .val (.long y9_1), .second, .val (.long y11_2), .second, .val (.long y13_3), .second, .val (.long y15_6), .second, .val (.long r_7), .second, .val (.long y19_8), .second, .val (.long y21_9), .second, .val (.long y23_13), .second, .val (.long y25_21), .second, .val (.int (1 : Int32)), .unset] [(.long y25_21)]))
          refine hG _ _ (fun t k => XS.lload X24.here hx rfl (hb hby at_232) rfl k) ?_
          show G (T24.setTop (mkF m 234 #[.val (.long i0), .second, .val (.long i1), .second, .val (.long i2), .second, .val (.long i3), .second, .val (.int i4), .val (.long y9_1), .second, .val (.long y11_2), .second, .val (.long y13_3), .second, .val (.long y15_6), .second, .val (.long r_7), .second, .val (.long y19_8), .second, .val (.long y21_9), .second, .val (.long y23_13), .second, .val (.long y25_21), .second, .val (.int (1 : Int32)), .unset] [(.long y15_6), (.long y25_21)]))
          refine own_callS X24 hx hZ hG hown (hw _ (List.mem_of_getElem? (i := 25) rfl)) (hw _ (List.mem_of_getElem? (i := 26) rfl)) (hw _ (List.mem_of_getElem? (i := 27) rfl)) (hw _ (List.mem_of_getElem? (i := 28) rfl)) (by decide) 0 (own_mulhi l Z a0 hw y25_21 y15_6 h0 O0 hP25 (Int.le_of_lt q15)) (by decide) (by decide) e24 (by rw [hml]; rfl) (lenOf own_pd1 rfl) (argsL := [(.long y25_21), (.long y15_6)]) (rest := []) rfl rfl (Nat.le_of_eq rfl) (hb hby at_234) (by decide) (by decide) ?_
          intro T25 h25 v25 L25 X25 e25 q25
          obtain ⟨r_25, rfl, M25, rfl, r25_0⟩ := q25
          have N25 := Fr.app N24 M25
          show G (T25.setTop (mkF m 237 #[.val (.long i0), .second, .val (.long i1), .second, .val (.long i2), .second, .val (.long i3), .second, .val (.int i4), .val (.long y9_1), .second, .val (.long y11_2), .second, .val (.long y13_3), .second, .val (.long y15_6), .second, .val (.long r_7), .second, .val (.long y19_8), .second, .val (.long y21_9), .second, .val (.long y23_13), .second, .val (.long y25_21), .second, .val (.int (1 : Int32)), .unset] [(.long r_25)]))
          refine hG _ _ (fun t k => XS.lload X25.here hx rfl (hb hby at_237) rfl k) ?_
          show G (T25.setTop (mkF m 239 #[.val (.long i0), .second, .val (.long i1), .second, .val (.long i2), .second, .val (.long i3), .second, .val (.int i4), .val (.long y9_1), .second, .val (.long y11_2), .second, .val (.long y13_3), .second, .val (.long y15_6), .second, .val (.long r_7), .second, .val (.long y19_8), .second, .val (.long y21_9), .second, .val (.long y23_13), .second, .val (.long y25_21), .second, .val (.int (1 : Int32)), .unset] [(.long y25_21), (.long r_25)]))
          refine hG _ _ (fun t k => XS.lload X25.here hx rfl (hb hby at_239) rfl k) ?_
          show G (T25.setTop (mkF m 241 #[.val (.long i0), .second, .val (.long i1), .second, .val (.long i2), .second, .val (.long i3), .second, .val (.int i4), .val (.long y9_1), .second, .val (.long y11_2), .second, .val (.long y13_3), .second, .val (.long y15_6), .second, .val (.long r_7), .second, .val (.long y19_8), .second, .val (.long y21_9), .second, .val (.long y23_13), .second, .val (.long y25_21), .second, .val (.int (1 : Int32)), .unset] [(.long y15_6), (.long y25_21), (.long r_25)]))
          refine hG _ _ (fun t k => XS.lmul X25.here hx rfl (hb hby at_241) rfl k) ?_
          show G (T25.setTop (mkF m 242 #[.val (.long i0), .second, .val (.long i1), .second, .val (.long i2), .second, .val (.long i3), .second, .val (.int i4), .val (.long y9_1), .second, .val (.long y11_2), .second, .val (.long y13_3), .second, .val (.long y15_6), .second, .val (.long r_7), .second, .val (.long y19_8), .second, .val (.long y21_9), .second, .val (.long y23_13), .second, .val (.long y25_21), .second, .val (.int (1 : Int32)), .unset] [(.long (y25_21 * y15_6)), (.long r_25)]))
          refine hG _ _ (fun t k => XS.lload X25.here hx rfl (hb hby at_242) rfl k) ?_
          show G (T25.setTop (mkF m 244 #[.val (.long i0), .second, .val (.long i1), .second, .val (.long i2), .second, .val (.long i3), .second, .val (.int i4), .val (.long y9_1), .second, .val (.long y11_2), .second, .val (.long y13_3), .second, .val (.long y15_6), .second, .val (.long r_7), .second, .val (.long y19_8), .second, .val (.long y21_9), .second, .val (.long y23_13), .second, .val (.long y25_21), .second, .val (.int (1 : Int32)), .unset] [(.long y23_13), (.long (y25_21 * y15_6)), (.long r_25)]))
          refine hG _ _ (fun t k => XS.lload X25.here hx rfl (hb hby at_244) rfl k) ?_
          show G (T25.setTop (mkF m 246 #[.val (.long i0), .second, .val (.long i1), .second, .val (.long i2), .second, .val (.long i3), .second, .val (.int i4), .val (.long y9_1), .second, .val (.long y11_2), .second, .val (.long y13_3), .second, .val (.long y15_6), .second, .val (.long r_7), .second, .val (.long y19_8), .second, .val (.long y21_9), .second, .val (.long y23_13), .second, .val (.long y25_21), .second, .val (.int (1 : Int32)), .unset] [(.long y21_9), (.long y23_13), (.long (y25_21 * y15_6)), (.long r_25)]))
          have hM26 := own_wide0 hP25 (Int.le_of_lt q15) r25_0 (rfl : (y25_21 * y15_6) = _)
          have hp26 : r_25.toInt * 18446744073709551616 + own_U (y25_21 * y15_6) < y23_13.toInt * 18446744073709551616 + own_U y21_9 := by rw [← hM26, ← hX14]; exact (by rw [hE25]; exact hC4.2)
          refine own_callS X25 hx hZ hG hown (hw _ (List.mem_of_getElem? (i := 34) rfl)) (hw _ (List.mem_of_getElem? (i := 35) rfl)) (hw _ (List.mem_of_getElem? (i := 27) rfl)) (hw _ (List.mem_of_getElem? (i := 36) rfl)) (by decide) 0 (own_lt2 l Z a0 hw r_25 (y25_21 * y15_6) y23_13 y21_9 h0 O0 hp26) (by decide) (by decide) e25 (by rw [hml]; rfl) (lenOf own_pd5 rfl) (argsL := [(.long r_25), (.long (y25_21 * y15_6)), (.long y23_13), (.long y21_9)]) (rest := []) rfl rfl (Nat.le_of_eq rfl) (hb hby at_246) (by decide) (by decide) ?_
          intro T27 h27 v27 L27 X27 e27 q27
          obtain ⟨rfl, M27, rfl⟩ := q27
          have N27 := Fr.app N25 M27
          show G (T27.setTop (mkF m 249 #[.val (.long i0), .second, .val (.long i1), .second, .val (.long i2), .second, .val (.long i3), .second, .val (.int i4), .val (.long y9_1), .second, .val (.long y11_2), .second, .val (.long y13_3), .second, .val (.long y15_6), .second, .val (.long r_7), .second, .val (.long y19_8), .second, .val (.long y21_9), .second, .val (.long y23_13), .second, .val (.long y25_21), .second, .val (.int (1 : Int32)), .unset] [(.int (1 : Int32))]))
          refine hG _ _ (fun t k => XS.istore X27.here hx rfl (hb hby at_249) rfl (l' := #[.val (.long i0), .second, .val (.long i1), .second, .val (.long i2), .second, .val (.long i3), .second, .val (.int i4), .val (.long y9_1), .second, .val (.long y11_2), .second, .val (.long y13_3), .second, .val (.long y15_6), .second, .val (.long r_7), .second, .val (.long y19_8), .second, .val (.long y21_9), .second, .val (.long y23_13), .second, .val (.long y25_21), .second, .val (.int (1 : Int32)), .val (.int (1 : Int32))]) rfl k) ?_
          show G (T27.setTop (mkF m 251 #[.val (.long i0), .second, .val (.long i1), .second, .val (.long i2), .second, .val (.long i3), .second, .val (.int i4), .val (.long y9_1), .second, .val (.long y11_2), .second, .val (.long y13_3), .second, .val (.long y15_6), .second, .val (.long r_7), .second, .val (.long y19_8), .second, .val (.long y21_9), .second, .val (.long y23_13), .second, .val (.long y25_21), .second, .val (.int (1 : Int32)), .val (.int (1 : Int32))] []))
          refine hG _ _ (fun t k => XS.iload X27.here hx rfl (hb hby at_251) rfl k) ?_
          show G (T27.setTop (mkF m 253 #[.val (.long i0), .second, .val (.long i1), .second, .val (.long i2), .second, .val (.long i3), .second, .val (.int i4), .val (.long y9_1), .second, .val (.long y11_2), .second, .val (.long y13_3), .second, .val (.long y15_6), .second, .val (.long r_7), .second, .val (.long y19_8), .second, .val (.long y21_9), .second, .val (.long y23_13), .second, .val (.long y25_21), .second, .val (.int (1 : Int32)), .val (.int (1 : Int32))] [(.int (1 : Int32))]))
          refine hG _ _ (fun t k => XS.ifNo X27.here hx rfl (hb hby at_253) rfl ((if0 _ _).trans (feq (by decide)).1) k) ?_
          show G (T27.setTop (mkF m 256 #[.val (.long i0), .second, .val (.long i1), .second, .val (.long i2), .second, .val (.long i3), .second, .val (.int i4), .val (.long y9_1), .second, .val (.long y11_2), .second, .val (.long y13_3), .second, .val (.long y15_6), .second, .val (.long r_7), .second, .val (.long y19_8), .second, .val (.long y21_9), .second, .val (.long y23_13), .second, .val (.long y25_21), .second, .val (.int (1 : Int32)), .val (.int (1 : Int32))] []))
          refine hG _ _ (fun t k => XS.iload X27.here hx rfl (hb hby at_256) rfl k) ?_
          show G (T27.setTop (mkF m 258 #[.val (.long i0), .second, .val (.long i1), .second, .val (.long i2), .second, .val (.long i3), .second, .val (.int i4), .val (.long y9_1), .second, .val (.long y11_2), .second, .val (.long y13_3), .second, .val (.long y15_6), .second, .val (.long r_7), .second, .val (.long y19_8), .second, .val (.long y21_9), .second, .val (.long y23_13), .second, .val (.long y25_21), .second, .val (.int (1 : Int32)), .val (.int (1 : Int32))] [(.int (1 : Int32))]))
          refine hG _ _ (fun t k => XS.ifNo X27.here hx rfl (hb hby at_258) rfl ((if0 _ _).trans (feq (by decide)).1) k) ?_
          show G (T27.setTop (mkF m 261 #[.val (.long i0), .second, .val (.long i1), .second, .val (.long i2), .second, .val (.long i3), .second, .val (.int i4), .val (.long y9_1), .second, .val (.long y11_2), .second, .val (.long y13_3), .second, .val (.long y15_6), .second, .val (.long r_7), .second, .val (.long y19_8), .second, .val (.long y21_9), .second, .val (.long y23_13), .second, .val (.long y25_21), .second, .val (.int (1 : Int32)), .val (.int (1 : Int32))] []))
          refine hG _ _ (fun t k => XS.iconst X27.here hx rfl (hb hby at_261) k) ?_
          show G (T27.setTop (mkF m 262 #[.val (.long i0), .second, .val (.long i1), .second, .val (.long i2), .second, .val (.long i3), .second, .val (.int i4), .val (.long y9_1), .second, .val (.long y11_2), .second, .val (.long y13_3), .second, .val (.long y15_6), .second, .val (.long r_7), .second, .val (.long y19_8), .second, .val (.long y21_9), .second, .val (.long y23_13), .second, .val (.long y25_21), .second, .val (.int (1 : Int32)), .val (.int (1 : Int32))] [(.int (1 : Int32))]))
          refine hG _ _ (fun t k => XS.goto X27.here hx rfl (pc0 := 262) (pc' := 266) rfl (hb hby at_262) (by decide) (by decide) k) ?_
          show G (T27.setTop (mkF m 266 #[.val (.long i0), .second, .val (.long i1), .second, .val (.long i2), .second, .val (.long i3), .second, .val (.int i4), .val (.long y9_1), .second, .val (.long y11_2), .second, .val (.long y13_3), .second, .val (.long y15_6), .second, .val (.long r_7), .second, .val (.long y19_8), .second, .val (.long y21_9), .second, .val (.long y23_13), .second, .val (.long y25_21), .second, .val (.int (1 : Int32)), .val (.int (1 : Int32))] [(.int (1 : Int32))]))
          exact own_retN hR hret (by simp) X27 hx (hb hby at_266) (by decide) (by decide) (by rw [e27]; exact ⟨rfl, N27, (Keep.refl h0 [])⟩)
    · skip
      refine hG _ _ (fun t k => XS.ifNo X11.here hx rfl (hb hby at_114) rfl ((if0 _ _).trans (feq hc114_12).1) k) ?_
      show G (T11.setTop (mkF m 117 #[.val (.long i0), .second, .val (.long i1), .second, .val (.long i2), .second, .val (.long i3), .second, .val (.int i4), .val (.long y9_1), .second, .val (.long y11_2), .second, .val (.long y13_3), .second, .val (.long y15_6), .second, .val (.long r_7), .second, .val (.long y19_8), .second, .val (.long y21_9), .second, .unset, .unset, .unset, .unset, .unset, .unset] [(.long r_10)]))
      refine hG _ _ (fun t k => XS.lconst X11.here hx rfl (hb hby at_117) k) ?_
      show G (T11.setTop (mkF m 118 #[.val (.long i0), .second, .val (.long i1), .second, .val (.long i2), .second, .val (.long i3), .second, .val (.int i4), .val (.long y9_1), .second, .val (.long y11_2), .second, .val (.long y13_3), .second, .val (.long y15_6), .second, .val (.long r_7), .second, .val (.long y19_8), .second, .val (.long y21_9), .second, .unset, .unset, .unset, .unset, .unset, .unset] [(.long (1 : Int64)), (.long r_10)]))
      refine hG _ _ (fun t k => XS.goto X11.here hx rfl (pc0 := 118) (pc' := 122) rfl (hb hby at_118) (by decide) (by decide) k) ?_
      show G (T11.setTop (mkF m 122 #[.val (.long i0), .second, .val (.long i1), .second, .val (.long i2), .second, .val (.long i3), .second, .val (.int i4), .val (.long y9_1), .second, .val (.long y11_2), .second, .val (.long y13_3), .second, .val (.long y15_6), .second, .val (.long r_7), .second, .val (.long y19_8), .second, .val (.long y21_9), .second, .unset, .unset, .unset, .unset, .unset, .unset] [(.long (1 : Int64)), (.long r_10)]))
      refine hG _ _ (fun t k => XS.ladd X11.here hx rfl (hb hby at_122) rfl k) ?_
      show G (T11.setTop (mkF m 123 #[.val (.long i0), .second, .val (.long i1), .second, .val (.long i2), .second, .val (.long i3), .second, .val (.int i4), .val (.long y9_1), .second, .val (.long y11_2), .second, .val (.long y13_3), .second, .val (.long y15_6), .second, .val (.long r_7), .second, .val (.long y19_8), .second, .val (.long y21_9), .second, .unset, .unset, .unset, .unset, .unset, .unset] [(.long (r_10 + (1 : Int64)))]))
      refine hG _ _ (fun t k => XS.lstore X11.here hx rfl (hb hby at_123) rfl (l' := #[.val (.long i0), .second, .val (.long i1), .second, .val (.long i2), .second, .val (.long i3), .second, .val (.int i4), .val (.long y9_1), .second, .val (.long y11_2), .second, .val (.long y13_3), .second, .val (.long y15_6), .second, .val (.long r_7), .second, .val (.long y19_8), .second, .val (.long y21_9), .second, .val (.long (r_10 + (1 : Int64))), .second, .unset, .unset, .unset, .unset]) rfl k) ?_
      show G (T11.setTop (mkF m 125 #[.val (.long i0), .second, .val (.long i1), .second, .val (.long i2), .second, .val (.long i3), .second, .val (.int i4), .val (.long y9_1), .second, .val (.long y11_2), .second, .val (.long y13_3), .second, .val (.long y15_6), .second, .val (.long r_7), .second, .val (.long y19_8), .second, .val (.long y21_9), .second, .val (.long (r_10 + (1 : Int64))), .second, .unset, .unset, .unset, .unset] []))
      generalize hn_y23_28 : (r_10 + (1 : Int64)) = y23_28
      have ww29 := own_wide p9 p11 p13 r10_0 hn_y19_8 hn_y21_9
      have hX29 : y9_1.toInt * y11_2.toInt + y13_3.toInt = y23_28.toInt * 18446744073709551616 + own_U y21_9 := by rw [own_inc64 hn_y23_28 ww29.2.2.1 ww29.2.2.2]; exact ww29.1 (Decidable.not_not.mp (fun q => hc114_12 (r11_0.mpr q)))
      have hH29 : 0 ≤ y23_28.toInt := by rw [own_inc64 hn_y23_28 ww29.2.2.1 ww29.2.2.2]; have := ww29.2.2.1; omega
      show G (T11.setTop (mkF m 125 #[.val (.long i0), .second, .val (.long i1), .second, .val (.long i2), .second, .val (.long i3), .second, .val (.int i4), .val (.long y9_1), .second, .val (.long y11_2), .second, .val (.long y13_3), .second, .val (.long y15_6), .second, .val (.long r_7), .second, .val (.long y19_8), .second, .val (.long y21_9), .second, .val (.long y23_28), .second, .unset, .unset, .unset, .unset] []))
      refine hG _ _ (fun t k => XS.lload X11.here hx rfl (hb hby at_125) rfl k) ?_
      show G (T11.setTop (mkF m 127 #[.val (.long i0), .second, .val (.long i1), .second, .val (.long i2), .second, .val (.long i3), .second, .val (.int i4), .val (.long y9_1), .second, .val (.long y11_2), .second, .val (.long y13_3), .second, .val (.long y15_6), .second, .val (.long r_7), .second, .val (.long y19_8), .second, .val (.long y21_9), .second, .val (.long y23_28), .second, .unset, .unset, .unset, .unset] [(.long r_7)]))
      refine hG _ _ (fun t k => XS.lconst X11.here hx rfl (hb hby at_127) k) ?_
      show G (T11.setTop (mkF m 128 #[.val (.long i0), .second, .val (.long i1), .second, .val (.long i2), .second, .val (.long i3), .second, .val (.int i4), .val (.long y9_1), .second, .val (.long y11_2), .second, .val (.long y13_3), .second, .val (.long y15_6), .second, .val (.long r_7), .second, .val (.long y19_8), .second, .val (.long y21_9), .second, .val (.long y23_28), .second, .unset, .unset, .unset, .unset] [(.long (0 : Int64)), (.long r_7)]))
      refine hG _ _ (fun t k => XS.lcmp X11.here hx rfl (hb hby at_128) rfl k) ?_
      show G (T11.setTop (mkF m 129 #[.val (.long i0), .second, .val (.long i1), .second, .val (.long i2), .second, .val (.long i3), .second, .val (.int i4), .val (.long y9_1), .second, .val (.long y11_2), .second, .val (.long y13_3), .second, .val (.long y15_6), .second, .val (.long r_7), .second, .val (.long y19_8), .second, .val (.long y21_9), .second, .val (.long y23_28), .second, .unset, .unset, .unset, .unset] [(.int (lcmpW r_7 (0 : Int64)))]))
      refine hG _ _ (fun t k => XS.ifYes X11.here hx rfl (pc0 := 129) (pc' := 134) rfl (hb hby at_129) rfl ((if0 _ _).trans (flt (fun q => (fun z => absurd (own_lt0.mp z) (by have q := r7_0.1; omega)) ((lw_lt _ _).mp q))).2.1) (by decide) (by decide) k) ?_
      show G (T11.setTop (mkF m 134 #[.val (.long i0), .second, .val (.long i1), .second, .val (.long i2), .second, .val (.long i3), .second, .val (.int i4), .val (.long y9_1), .second, .val (.long y11_2), .second, .val (.long y13_3), .second, .val (.long y15_6), .second, .val (.long r_7), .second, .val (.long y19_8), .second, .val (.long y21_9), .second, .val (.long y23_28), .second, .unset, .unset, .unset, .unset] []))
      refine hG _ _ (fun t k => XS.lload X11.here hx rfl (hb hby at_134) rfl k) ?_
      show G (T11.setTop (mkF m 136 #[.val (.long i0), .second, .val (.long i1), .second, .val (.long i2), .second, .val (.long i3), .second, .val (.int i4), .val (.long y9_1), .second, .val (.long y11_2), .second, .val (.long y13_3), .second, .val (.long y15_6), .second, .val (.long r_7), .second, .val (.long y19_8), .second, .val (.long y21_9), .second, .val (.long y23_28), .second, .unset, .unset, .unset, .unset] [(.long r_7)]))
      refine hG _ _ (X11.ldc2Long hx hown (mvT hZ (hw _ (List.mem_of_getElem? (i := 0) rfl))) (g := (mkF m 136 #[.val (.long i0), .second, .val (.long i1), .second, .val (.long i2), .second, .val (.long i3), .second, .val (.int i4), .val (.long y9_1), .second, .val (.long y11_2), .second, .val (.long y13_3), .second, .val (.long y15_6), .second, .val (.long r_7), .second, .val (.long y19_8), .second, .val (.long y21_9), .second, .val (.long y23_28), .second, .unset, .unset, .unset, .unset] [(.long r_7)])) rfl (hb hby at_136)) ?_
      show G (T11.setTop (mkF m 139 #[.val (.long i0), .second, .val (.long i1), .second, .val (.long i2), .second, .val (.long i3), .second, .val (.int i4), .val (.long y9_1), .second, .val (.long y11_2), .second, .val (.long y13_3), .second, .val (.long y15_6), .second, .val (.long r_7), .second, .val (.long y19_8), .second, .val (.long y21_9), .second, .val (.long y23_28), .second, .unset, .unset, .unset, .unset] [(.long (9223372036854775807 : Int64)), (.long r_7)]))
      refine hG _ _ (fun t k => XS.lcmp X11.here hx rfl (hb hby at_139) rfl k) ?_
      show G (T11.setTop (mkF m 140 #[.val (.long i0), .second, .val (.long i1), .second, .val (.long i2), .second, .val (.long i3), .second, .val (.int i4), .val (.long y9_1), .second, .val (.long y11_2), .second, .val (.long y13_3), .second, .val (.long y15_6), .second, .val (.long r_7), .second, .val (.long y19_8), .second, .val (.long y21_9), .second, .val (.long y23_28), .second, .unset, .unset, .unset, .unset] [(.int (lcmpW r_7 (9223372036854775807 : Int64)))]))
      by_cases hc140_30 : r_7 = (9223372036854775807 : Int64)
      · skip
        refine hG _ _ (fun t k => XS.ifNo X11.here hx rfl (hb hby at_140) rfl ((if0 _ _).trans (teq ((lw_eq _ _).mpr hc140_30)).2) k) ?_
        show G (T11.setTop (mkF m 143 #[.val (.long i0), .second, .val (.long i1), .second, .val (.long i2), .second, .val (.long i3), .second, .val (.int i4), .val (.long y9_1), .second, .val (.long y11_2), .second, .val (.long y13_3), .second, .val (.long y15_6), .second, .val (.long r_7), .second, .val (.long y19_8), .second, .val (.long y21_9), .second, .val (.long y23_28), .second, .unset, .unset, .unset, .unset] []))
        refine hG _ _ (X11.ldc2Long hx hown (mvT hZ (hw _ (List.mem_of_getElem? (i := 40) rfl))) (g := (mkF m 143 #[.val (.long i0), .second, .val (.long i1), .second, .val (.long i2), .second, .val (.long i3), .second, .val (.int i4), .val (.long y9_1), .second, .val (.long y11_2), .second, .val (.long y13_3), .second, .val (.long y15_6), .second, .val (.long r_7), .second, .val (.long y19_8), .second, .val (.long y21_9), .second, .val (.long y23_28), .second, .unset, .unset, .unset, .unset] [])) rfl (hb hby at_143)) ?_
        show G (T11.setTop (mkF m 146 #[.val (.long i0), .second, .val (.long i1), .second, .val (.long i2), .second, .val (.long i3), .second, .val (.int i4), .val (.long y9_1), .second, .val (.long y11_2), .second, .val (.long y13_3), .second, .val (.long y15_6), .second, .val (.long r_7), .second, .val (.long y19_8), .second, .val (.long y21_9), .second, .val (.long y23_28), .second, .unset, .unset, .unset, .unset] [(.long (9223372036854775806 : Int64))]))
        refine hG _ _ (fun t k => XS.lstore X11.here hx rfl (hb hby at_146) rfl (l' := #[.val (.long i0), .second, .val (.long i1), .second, .val (.long i2), .second, .val (.long i3), .second, .val (.int i4), .val (.long y9_1), .second, .val (.long y11_2), .second, .val (.long y13_3), .second, .val (.long y15_6), .second, .val (.long r_7), .second, .val (.long y19_8), .second, .val (.long y21_9), .second, .val (.long y23_28), .second, .val (.long (9223372036854775806 : Int64)), .second, .unset, .unset]) rfl k) ?_
        show G (T11.setTop (mkF m 148 #[.val (.long i0), .second, .val (.long i1), .second, .val (.long i2), .second, .val (.long i3), .second, .val (.int i4), .val (.long y9_1), .second, .val (.long y11_2), .second, .val (.long y13_3), .second, .val (.long y15_6), .second, .val (.long r_7), .second, .val (.long y19_8), .second, .val (.long y21_9), .second, .val (.long y23_28), .second, .val (.long (9223372036854775806 : Int64)), .second, .unset, .unset] []))
        generalize hn_y25_31 : (9223372036854775806 : Int64) = y25_31
        have hE25 : y25_31.toInt = 9223372036854775806 := by rw [← hn_y25_31]; decide
        show G (T11.setTop (mkF m 148 #[.val (.long i0), .second, .val (.long i1), .second, .val (.long i2), .second, .val (.long i3), .second, .val (.int i4), .val (.long y9_1), .second, .val (.long y11_2), .second, .val (.long y13_3), .second, .val (.long y15_6), .second, .val (.long r_7), .second, .val (.long y19_8), .second, .val (.long y21_9), .second, .val (.long y23_28), .second, .val (.long y25_31), .second, .unset, .unset] []))
        refine hG _ _ (fun t k => XS.lload X11.here hx rfl (hb hby at_148) rfl k) ?_
        show G (T11.setTop (mkF m 150 #[.val (.long i0), .second, .val (.long i1), .second, .val (.long i2), .second, .val (.long i3), .second, .val (.int i4), .val (.long y9_1), .second, .val (.long y11_2), .second, .val (.long y13_3), .second, .val (.long y15_6), .second, .val (.long r_7), .second, .val (.long y19_8), .second, .val (.long y21_9), .second, .val (.long y23_28), .second, .val (.long y25_31), .second, .unset, .unset] [(.long y25_31)]))
        refine hG _ _ (fun t k => XS.lload X11.here hx rfl (hb hby at_150) rfl k) ?_
        show G (T11.setTop (mkF m 152 #[.val (.long i0), .second, .val (.long i1), .second, .val (.long i2), .second, .val (.long i3), .second, .val (.int i4), .val (.long y9_1), .second, .val (.long y11_2), .second, .val (.long y13_3), .second, .val (.long y15_6), .second, .val (.long r_7), .second, .val (.long y19_8), .second, .val (.long y21_9), .second, .val (.long y23_28), .second, .val (.long y25_31), .second, .unset, .unset] [(.long y15_6), (.long y25_31)]))
        refine own_callS X11 hx hZ hG hown (hw _ (List.mem_of_getElem? (i := 25) rfl)) (hw _ (List.mem_of_getElem? (i := 26) rfl)) (hw _ (List.mem_of_getElem? (i := 27) rfl)) (hw _ (List.mem_of_getElem? (i := 28) rfl)) (by decide) 0 (own_mulhi l Z a0 hw y25_31 y15_6 h0 O0 (by rw [hE25]; decide) (Int.le_of_lt q15)) (by decide) (by decide) e11 (by rw [hml]; rfl) (lenOf own_pd1 rfl) (argsL := [(.long y25_31), (.long y15_6)]) (rest := []) rfl rfl (Nat.le_of_eq rfl) (hb hby at_152) (by decide) (by decide) ?_
        intro T32 h32 v32 L32 X32 e32 q32
        obtain ⟨r_32, rfl, M32, rfl, r32_0⟩ := q32
        have N32 := Fr.app N11 M32
        show G (T32.setTop (mkF m 155 #[.val (.long i0), .second, .val (.long i1), .second, .val (.long i2), .second, .val (.long i3), .second, .val (.int i4), .val (.long y9_1), .second, .val (.long y11_2), .second, .val (.long y13_3), .second, .val (.long y15_6), .second, .val (.long r_7), .second, .val (.long y19_8), .second, .val (.long y21_9), .second, .val (.long y23_28), .second, .val (.long y25_31), .second, .unset, .unset] [(.long r_32)]))
        refine hG _ _ (fun t k => XS.lload X32.here hx rfl (hb hby at_155) rfl k) ?_
        show G (T32.setTop (mkF m 157 #[.val (.long i0), .second, .val (.long i1), .second, .val (.long i2), .second, .val (.long i3), .second, .val (.int i4), .val (.long y9_1), .second, .val (.long y11_2), .second, .val (.long y13_3), .second, .val (.long y15_6), .second, .val (.long r_7), .second, .val (.long y19_8), .second, .val (.long y21_9), .second, .val (.long y23_28), .second, .val (.long y25_31), .second, .unset, .unset] [(.long y25_31), (.long r_32)]))
        refine hG _ _ (fun t k => XS.lload X32.here hx rfl (hb hby at_157) rfl k) ?_
        show G (T32.setTop (mkF m 159 #[.val (.long i0), .second, .val (.long i1), .second, .val (.long i2), .second, .val (.long i3), .second, .val (.int i4), .val (.long y9_1), .second, .val (.long y11_2), .second, .val (.long y13_3), .second, .val (.long y15_6), .second, .val (.long r_7), .second, .val (.long y19_8), .second, .val (.long y21_9), .second, .val (.long y23_28), .second, .val (.long y25_31), .second, .unset, .unset] [(.long y15_6), (.long y25_31), (.long r_32)]))
        refine hG _ _ (fun t k => XS.lmul X32.here hx rfl (hb hby at_159) rfl k) ?_
        show G (T32.setTop (mkF m 160 #[.val (.long i0), .second, .val (.long i1), .second, .val (.long i2), .second, .val (.long i3), .second, .val (.int i4), .val (.long y9_1), .second, .val (.long y11_2), .second, .val (.long y13_3), .second, .val (.long y15_6), .second, .val (.long r_7), .second, .val (.long y19_8), .second, .val (.long y21_9), .second, .val (.long y23_28), .second, .val (.long y25_31), .second, .unset, .unset] [(.long (y25_31 * y15_6)), (.long r_32)]))
        refine hG _ _ (fun t k => XS.lload X32.here hx rfl (hb hby at_160) rfl k) ?_
        show G (T32.setTop (mkF m 162 #[.val (.long i0), .second, .val (.long i1), .second, .val (.long i2), .second, .val (.long i3), .second, .val (.int i4), .val (.long y9_1), .second, .val (.long y11_2), .second, .val (.long y13_3), .second, .val (.long y15_6), .second, .val (.long r_7), .second, .val (.long y19_8), .second, .val (.long y21_9), .second, .val (.long y23_28), .second, .val (.long y25_31), .second, .unset, .unset] [(.long y23_28), (.long (y25_31 * y15_6)), (.long r_32)]))
        refine hG _ _ (fun t k => XS.lload X32.here hx rfl (hb hby at_162) rfl k) ?_
        show G (T32.setTop (mkF m 164 #[.val (.long i0), .second, .val (.long i1), .second, .val (.long i2), .second, .val (.long i3), .second, .val (.int i4), .val (.long y9_1), .second, .val (.long y11_2), .second, .val (.long y13_3), .second, .val (.long y15_6), .second, .val (.long r_7), .second, .val (.long y19_8), .second, .val (.long y21_9), .second, .val (.long y23_28), .second, .val (.long y25_31), .second, .unset, .unset] [(.long y21_9), (.long y23_28), (.long (y25_31 * y15_6)), (.long r_32)]))
        have hM33 := own_wide0 (by rw [hE25]; decide) (Int.le_of_lt q15) r32_0 (rfl : (y25_31 * y15_6) = _)
        have hp33 : r_32.toInt * 18446744073709551616 + own_U (y25_31 * y15_6) < y23_28.toInt * 18446744073709551616 + own_U y21_9 := by rw [← hM33, ← hX29]; exact (by rw [hE25]; exact r7_0.2.1 (own_eq64.mp hc140_30))
        refine own_callS X32 hx hZ hG hown (hw _ (List.mem_of_getElem? (i := 34) rfl)) (hw _ (List.mem_of_getElem? (i := 35) rfl)) (hw _ (List.mem_of_getElem? (i := 27) rfl)) (hw _ (List.mem_of_getElem? (i := 36) rfl)) (by decide) 0 (own_lt2 l Z a0 hw r_32 (y25_31 * y15_6) y23_28 y21_9 h0 O0 hp33) (by decide) (by decide) e32 (by rw [hml]; rfl) (lenOf own_pd5 rfl) (argsL := [(.long r_32), (.long (y25_31 * y15_6)), (.long y23_28), (.long y21_9)]) (rest := []) rfl rfl (Nat.le_of_eq rfl) (hb hby at_164) (by decide) (by decide) ?_
        intro T34 h34 v34 L34 X34 e34 q34
        obtain ⟨rfl, M34, rfl⟩ := q34
        have N34 := Fr.app N32 M34
        show G (T34.setTop (mkF m 167 #[.val (.long i0), .second, .val (.long i1), .second, .val (.long i2), .second, .val (.long i3), .second, .val (.int i4), .val (.long y9_1), .second, .val (.long y11_2), .second, .val (.long y13_3), .second, .val (.long y15_6), .second, .val (.long r_7), .second, .val (.long y19_8), .second, .val (.long y21_9), .second, .val (.long y23_28), .second, .val (.long y25_31), .second, .unset, .unset] [(.int (1 : Int32))]))
        exact own_retN hR hret (by simp) X34 hx (hb hby at_167) (by decide) (by decide) (by rw [e34]; exact ⟨rfl, N34, (Keep.refl h0 [])⟩)
      · skip
        refine hG _ _ (fun t k => XS.ifYes X11.here hx rfl (pc0 := 140) (pc' := 168) rfl (hb hby at_140) rfl ((if0 _ _).trans (feq (fun q => hc140_30 ((lw_eq _ _).mp q))).2) (by decide) (by decide) k) ?_
        show G (T11.setTop (mkF m 168 #[.val (.long i0), .second, .val (.long i1), .second, .val (.long i2), .second, .val (.long i3), .second, .val (.int i4), .val (.long y9_1), .second, .val (.long y11_2), .second, .val (.long y13_3), .second, .val (.long y15_6), .second, .val (.long r_7), .second, .val (.long y19_8), .second, .val (.long y21_9), .second, .val (.long y23_28), .second, .unset, .unset, .unset, .unset] []))
        refine hG _ _ (fun t k => XS.lload X11.here hx rfl (hb hby at_168) rfl k) ?_
        show G (T11.setTop (mkF m 170 #[.val (.long i0), .second, .val (.long i1), .second, .val (.long i2), .second, .val (.long i3), .second, .val (.int i4), .val (.long y9_1), .second, .val (.long y11_2), .second, .val (.long y13_3), .second, .val (.long y15_6), .second, .val (.long r_7), .second, .val (.long y19_8), .second, .val (.long y21_9), .second, .val (.long y23_28), .second, .unset, .unset, .unset, .unset] [(.long r_7)]))
        refine hG _ _ (fun t k => XS.lconst X11.here hx rfl (hb hby at_170) k) ?_
        show G (T11.setTop (mkF m 171 #[.val (.long i0), .second, .val (.long i1), .second, .val (.long i2), .second, .val (.long i3), .second, .val (.int i4), .val (.long y9_1), .second, .val (.long y11_2), .second, .val (.long y13_3), .second, .val (.long y15_6), .second, .val (.long r_7), .second, .val (.long y19_8), .second, .val (.long y21_9), .second, .val (.long y23_28), .second, .unset, .unset, .unset, .unset] [(.long (0 : Int64)), (.long r_7)]))
        refine hG _ _ (fun t k => XS.lcmp X11.here hx rfl (hb hby at_171) rfl k) ?_
        show G (T11.setTop (mkF m 172 #[.val (.long i0), .second, .val (.long i1), .second, .val (.long i2), .second, .val (.long i3), .second, .val (.int i4), .val (.long y9_1), .second, .val (.long y11_2), .second, .val (.long y13_3), .second, .val (.long y15_6), .second, .val (.long r_7), .second, .val (.long y19_8), .second, .val (.long y21_9), .second, .val (.long y23_28), .second, .unset, .unset, .unset, .unset] [(.int (lcmpW r_7 (0 : Int64)))]))
        by_cases hc172_35 : r_7 = (0 : Int64)
        · skip
          refine hG _ _ (fun t k => XS.ifNo X11.here hx rfl (hb hby at_172) rfl ((if0 _ _).trans (teq ((lw_eq _ _).mpr hc172_35)).2) k) ?_
          show G (T11.setTop (mkF m 175 #[.val (.long i0), .second, .val (.long i1), .second, .val (.long i2), .second, .val (.long i3), .second, .val (.int i4), .val (.long y9_1), .second, .val (.long y11_2), .second, .val (.long y13_3), .second, .val (.long y15_6), .second, .val (.long r_7), .second, .val (.long y19_8), .second, .val (.long y21_9), .second, .val (.long y23_28), .second, .unset, .unset, .unset, .unset] []))
          refine hG _ _ (fun t k => XS.lload X11.here hx rfl (hb hby at_175) rfl k) ?_
          show G (T11.setTop (mkF m 177 #[.val (.long i0), .second, .val (.long i1), .second, .val (.long i2), .second, .val (.long i3), .second, .val (.int i4), .val (.long y9_1), .second, .val (.long y11_2), .second, .val (.long y13_3), .second, .val (.long y15_6), .second, .val (.long r_7), .second, .val (.long y19_8), .second, .val (.long y21_9), .second, .val (.long y23_28), .second, .unset, .unset, .unset, .unset] [(.long y23_28)]))
          refine hG _ _ (fun t k => XS.lconst X11.here hx rfl (hb hby at_177) k) ?_
          show G (T11.setTop (mkF m 178 #[.val (.long i0), .second, .val (.long i1), .second, .val (.long i2), .second, .val (.long i3), .second, .val (.int i4), .val (.long y9_1), .second, .val (.long y11_2), .second, .val (.long y13_3), .second, .val (.long y15_6), .second, .val (.long r_7), .second, .val (.long y19_8), .second, .val (.long y21_9), .second, .val (.long y23_28), .second, .unset, .unset, .unset, .unset] [(.long (0 : Int64)), (.long y23_28)]))
          refine hG _ _ (fun t k => XS.lcmp X11.here hx rfl (hb hby at_178) rfl k) ?_
          show G (T11.setTop (mkF m 179 #[.val (.long i0), .second, .val (.long i1), .second, .val (.long i2), .second, .val (.long i3), .second, .val (.int i4), .val (.long y9_1), .second, .val (.long y11_2), .second, .val (.long y13_3), .second, .val (.long y15_6), .second, .val (.long r_7), .second, .val (.long y19_8), .second, .val (.long y21_9), .second, .val (.long y23_28), .second, .unset, .unset, .unset, .unset] [(.int (lcmpW y23_28 (0 : Int64)))]))
          refine hG _ _ (fun t k => XS.ifNo X11.here hx rfl (hb hby at_179) rfl ((if0 _ _).trans (teq ((lw_eq _ _).mpr (own_eq0.mpr (by have e0 := r7_0.2.2.1 (own_eq0.mp hc172_35); have e1 := hX29; have u := own_U_rng y21_9; have e2 := hH29; omega)))).2) k) ?_
          show G (T11.setTop (mkF m 182 #[.val (.long i0), .second, .val (.long i1), .second, .val (.long i2), .second, .val (.long i3), .second, .val (.int i4), .val (.long y9_1), .second, .val (.long y11_2), .second, .val (.long y13_3), .second, .val (.long y15_6), .second, .val (.long r_7), .second, .val (.long y19_8), .second, .val (.long y21_9), .second, .val (.long y23_28), .second, .unset, .unset, .unset, .unset] []))
          refine hG _ _ (fun t k => XS.lload X11.here hx rfl (hb hby at_182) rfl k) ?_
          show G (T11.setTop (mkF m 184 #[.val (.long i0), .second, .val (.long i1), .second, .val (.long i2), .second, .val (.long i3), .second, .val (.int i4), .val (.long y9_1), .second, .val (.long y11_2), .second, .val (.long y13_3), .second, .val (.long y15_6), .second, .val (.long r_7), .second, .val (.long y19_8), .second, .val (.long y21_9), .second, .val (.long y23_28), .second, .unset, .unset, .unset, .unset] [(.long y21_9)]))
          refine hG _ _ (fun t k => XS.lconst X11.here hx rfl (hb hby at_184) k) ?_
          show G (T11.setTop (mkF m 185 #[.val (.long i0), .second, .val (.long i1), .second, .val (.long i2), .second, .val (.long i3), .second, .val (.int i4), .val (.long y9_1), .second, .val (.long y11_2), .second, .val (.long y13_3), .second, .val (.long y15_6), .second, .val (.long r_7), .second, .val (.long y19_8), .second, .val (.long y21_9), .second, .val (.long y23_28), .second, .unset, .unset, .unset, .unset] [(.long (0 : Int64)), (.long y21_9)]))
          refine hG _ _ (fun t k => XS.lcmp X11.here hx rfl (hb hby at_185) rfl k) ?_
          show G (T11.setTop (mkF m 186 #[.val (.long i0), .second, .val (.long i1), .second, .val (.long i2), .second, .val (.long i3), .second, .val (.int i4), .val (.long y9_1), .second, .val (.long y11_2), .second, .val (.long y13_3), .second, .val (.long y15_6), .second, .val (.long r_7), .second, .val (.long y19_8), .second, .val (.long y21_9), .second, .val (.long y23_28), .second, .unset, .unset, .unset, .unset] [(.int (lcmpW y21_9 (0 : Int64)))]))
          refine hG _ _ (fun t k => XS.ifNo X11.here hx rfl (hb hby at_186) rfl ((if0 _ _).trans (teq ((lw_eq _ _).mpr (own_eq0.mpr (by have e0 := r7_0.2.2.1 (own_eq0.mp hc172_35); have e1 := hX29; have u := own_U_rng y21_9; have e2 := hH29; have uc := own_Ucase y21_9; have rr := rng64 y21_9; omega)))).2) k) ?_
          show G (T11.setTop (mkF m 189 #[.val (.long i0), .second, .val (.long i1), .second, .val (.long i2), .second, .val (.long i3), .second, .val (.int i4), .val (.long y9_1), .second, .val (.long y11_2), .second, .val (.long y13_3), .second, .val (.long y15_6), .second, .val (.long r_7), .second, .val (.long y19_8), .second, .val (.long y21_9), .second, .val (.long y23_28), .second, .unset, .unset, .unset, .unset] []))
          refine hG _ _ (fun t k => XS.iconst X11.here hx rfl (hb hby at_189) k) ?_
          show G (T11.setTop (mkF m 190 #[.val (.long i0), .second, .val (.long i1), .second, .val (.long i2), .second, .val (.long i3), .second, .val (.int i4), .val (.long y9_1), .second, .val (.long y11_2), .second, .val (.long y13_3), .second, .val (.long y15_6), .second, .val (.long r_7), .second, .val (.long y19_8), .second, .val (.long y21_9), .second, .val (.long y23_28), .second, .unset, .unset, .unset, .unset] [(.int (1 : Int32))]))
          refine hG _ _ (fun t k => XS.goto X11.here hx rfl (pc0 := 190) (pc' := 194) rfl (hb hby at_190) (by decide) (by decide) k) ?_
          show G (T11.setTop (mkF m 194 #[.val (.long i0), .second, .val (.long i1), .second, .val (.long i2), .second, .val (.long i3), .second, .val (.int i4), .val (.long y9_1), .second, .val (.long y11_2), .second, .val (.long y13_3), .second, .val (.long y15_6), .second, .val (.long r_7), .second, .val (.long y19_8), .second, .val (.long y21_9), .second, .val (.long y23_28), .second, .unset, .unset, .unset, .unset] [(.int (1 : Int32))]))
          exact own_retN hR hret (by simp) X11 hx (hb hby at_194) (by decide) (by decide) (by rw [e11]; exact ⟨rfl, N11, (Keep.refl h0 [])⟩)
        · skip
          refine hG _ _ (fun t k => XS.ifYes X11.here hx rfl (pc0 := 172) (pc' := 195) rfl (hb hby at_172) rfl ((if0 _ _).trans (feq (fun q => hc172_35 ((lw_eq _ _).mp q))).2) (by decide) (by decide) k) ?_
          show G (T11.setTop (mkF m 195 #[.val (.long i0), .second, .val (.long i1), .second, .val (.long i2), .second, .val (.long i3), .second, .val (.int i4), .val (.long y9_1), .second, .val (.long y11_2), .second, .val (.long y13_3), .second, .val (.long y15_6), .second, .val (.long r_7), .second, .val (.long y19_8), .second, .val (.long y21_9), .second, .val (.long y23_28), .second, .unset, .unset, .unset, .unset] []))
          refine hG _ _ (fun t k => XS.lload X11.here hx rfl (hb hby at_195) rfl k) ?_
          show G (T11.setTop (mkF m 197 #[.val (.long i0), .second, .val (.long i1), .second, .val (.long i2), .second, .val (.long i3), .second, .val (.int i4), .val (.long y9_1), .second, .val (.long y11_2), .second, .val (.long y13_3), .second, .val (.long y15_6), .second, .val (.long r_7), .second, .val (.long y19_8), .second, .val (.long y21_9), .second, .val (.long y23_28), .second, .unset, .unset, .unset, .unset] [(.long r_7)]))
          refine hG _ _ (fun t k => XS.lconst X11.here hx rfl (hb hby at_197) k) ?_
          show G (T11.setTop (mkF m 198 #[.val (.long i0), .second, .val (.long i1), .second, .val (.long i2), .second, .val (.long i3), .second, .val (.int i4), .val (.long y9_1), .second, .val (.long y11_2), .second, .val (.long y13_3), .second, .val (.long y15_6), .second, .val (.long r_7), .second, .val (.long y19_8), .second, .val (.long y21_9), .second, .val (.long y23_28), .second, .unset, .unset, .unset, .unset] [(.long (1 : Int64)), (.long r_7)]))
          refine hG _ _ (fun t k => XS.lsub X11.here hx rfl (hb hby at_198) rfl k) ?_
          show G (T11.setTop (mkF m 199 #[.val (.long i0), .second, .val (.long i1), .second, .val (.long i2), .second, .val (.long i3), .second, .val (.int i4), .val (.long y9_1), .second, .val (.long y11_2), .second, .val (.long y13_3), .second, .val (.long y15_6), .second, .val (.long r_7), .second, .val (.long y19_8), .second, .val (.long y21_9), .second, .val (.long y23_28), .second, .unset, .unset, .unset, .unset] [(.long (r_7 - (1 : Int64)))]))
          refine hG _ _ (fun t k => XS.lstore X11.here hx rfl (hb hby at_199) rfl (l' := #[.val (.long i0), .second, .val (.long i1), .second, .val (.long i2), .second, .val (.long i3), .second, .val (.int i4), .val (.long y9_1), .second, .val (.long y11_2), .second, .val (.long y13_3), .second, .val (.long y15_6), .second, .val (.long r_7), .second, .val (.long y19_8), .second, .val (.long y21_9), .second, .val (.long y23_28), .second, .val (.long (r_7 - (1 : Int64))), .second, .unset, .unset]) rfl k) ?_
          show G (T11.setTop (mkF m 201 #[.val (.long i0), .second, .val (.long i1), .second, .val (.long i2), .second, .val (.long i3), .second, .val (.int i4), .val (.long y9_1), .second, .val (.long y11_2), .second, .val (.long y13_3), .second, .val (.long y15_6), .second, .val (.long r_7), .second, .val (.long y19_8), .second, .val (.long y21_9), .second, .val (.long y23_28), .second, .val (.long (r_7 - (1 : Int64))), .second, .unset, .unset] []))
          generalize hn_y25_36 : (r_7 - (1 : Int64)) = y25_36
          have hC4 := r7_0.2.2.2 (fun z => hc140_30 (own_eq64.mpr z)) (fun z => hc172_35 (own_eq0.mpr z))
          have qn := r7_0.1
          have hE25 : y25_36.toInt = r_7.toInt - 1 := by rw [← hn_y25_36]; have e := c_lsub r_7 1; have e1 : (1 : Int64).toInt = 1 := (by decide); have r1 := rng64 (r_7 - 1); have r2 := rng64 r_7; have q0 := mt own_eq0.mpr hc172_35; omega
          have hP25 : 0 ≤ y25_36.toInt := by have q0 := mt own_eq0.mpr hc172_35; omega
          show G (T11.setTop (mkF m 201 #[.val (.long i0), .second, .val (.long i1), .second, .val (.long i2), .second, .val (.long i3), .second, .val (.int i4), .val (.long y9_1), .second, .val (.long y11_2), .second, .val (.long y13_3), .second, .val (.long y15_6), .second, .val (.long r_7), .second, .val (.long y19_8), .second, .val (.long y21_9), .second, .val (.long y23_28), .second, .val (.long y25_36), .second, .unset, .unset] []))
          refine hG _ _ (fun t k => XS.lload X11.here hx rfl (hb hby at_201) rfl k) ?_
          show G (T11.setTop (mkF m 203 #[.val (.long i0), .second, .val (.long i1), .second, .val (.long i2), .second, .val (.long i3), .second, .val (.int i4), .val (.long y9_1), .second, .val (.long y11_2), .second, .val (.long y13_3), .second, .val (.long y15_6), .second, .val (.long r_7), .second, .val (.long y19_8), .second, .val (.long y21_9), .second, .val (.long y23_28), .second, .val (.long y25_36), .second, .unset, .unset] [(.long r_7)]))
          refine hG _ _ (fun t k => XS.lload X11.here hx rfl (hb hby at_203) rfl k) ?_
          show G (T11.setTop (mkF m 205 #[.val (.long i0), .second, .val (.long i1), .second, .val (.long i2), .second, .val (.long i3), .second, .val (.int i4), .val (.long y9_1), .second, .val (.long y11_2), .second, .val (.long y13_3), .second, .val (.long y15_6), .second, .val (.long r_7), .second, .val (.long y19_8), .second, .val (.long y21_9), .second, .val (.long y23_28), .second, .val (.long y25_36), .second, .unset, .unset] [(.long y15_6), (.long r_7)]))
          refine own_callS X11 hx hZ hG hown (hw _ (List.mem_of_getElem? (i := 25) rfl)) (hw _ (List.mem_of_getElem? (i := 26) rfl)) (hw _ (List.mem_of_getElem? (i := 27) rfl)) (hw _ (List.mem_of_getElem? (i := 28) rfl)) (by decide) 0 (own_mulhi l Z a0 hw r_7 y15_6 h0 O0 qn (Int.le_of_lt q15)) (by decide) (by decide) e11 (by rw [hml]; rfl) (lenOf own_pd1 rfl) (argsL := [(.long r_7), (.long y15_6)]) (rest := []) rfl rfl (Nat.le_of_eq rfl) (hb hby at_205) (by decide) (by decide) ?_
          intro T37 h37 v37 L37 X37 e37 q37
          obtain ⟨r_37, rfl, M37, rfl, r37_0⟩ := q37
          have N37 := Fr.app N11 M37
          show G (T37.setTop (mkF m 208 #[.val (.long i0), .second, .val (.long i1), .second, .val (.long i2), .second, .val (.long i3), .second, .val (.int i4), .val (.long y9_1), .second, .val (.long y11_2), .second, .val (.long y13_3), .second, .val (.long y15_6), .second, .val (.long r_7), .second, .val (.long y19_8), .second, .val (.long y21_9), .second, .val (.long y23_28), .second, .val (.long y25_36), .second, .unset, .unset] [(.long r_37)]))
          refine hG _ _ (fun t k => XS.lload X37.here hx rfl (hb hby at_208) rfl k) ?_
          show G (T37.setTop (mkF m 210 #[.val (.long i0), .second, .val (.long i1), .second, .val (.long i2), .second, .val (.long i3), .second, .val (.int i4), .val (.long y9_1), .second, .val (.long y11_2), .second, .val (.long y13_3), .second, .val (.long y15_6), .second, .val (.long r_7), .second, .val (.long y19_8), .second, .val (.long y21_9), .second, .val (.long y23_28), .second, .val (.long y25_36), .second, .unset, .unset] [(.long r_7), (.long r_37)]))
          refine hG _ _ (fun t k => XS.lload X37.here hx rfl (hb hby at_210) rfl k) ?_
          show G (T37.setTop (mkF m 212 #[.val (.long i0), .second, .val (.long i1), .second, .val (.long i2), .second, .val (.long i3), .second, .val (.int i4), .val (.long y9_1), .second, .val (.long y11_2), .second, .val (.long y13_3), .second, .val (.long y15_6), .second, .val (.long r_7), .second, .val (.long y19_8), .second, .val (.long y21_9), .second, .val (.long y23_28), .second, .val (.long y25_36), .second, .unset, .unset] [(.long y15_6), (.long r_7), (.long r_37)]))
          refine hG _ _ (fun t k => XS.lmul X37.here hx rfl (hb hby at_212) rfl k) ?_
          show G (T37.setTop (mkF m 213 #[.val (.long i0), .second, .val (.long i1), .second, .val (.long i2), .second, .val (.long i3), .second, .val (.int i4), .val (.long y9_1), .second, .val (.long y11_2), .second, .val (.long y13_3), .second, .val (.long y15_6), .second, .val (.long r_7), .second, .val (.long y19_8), .second, .val (.long y21_9), .second, .val (.long y23_28), .second, .val (.long y25_36), .second, .unset, .unset] [(.long (r_7 * y15_6)), (.long r_37)]))
          refine hG _ _ (fun t k => XS.lload X37.here hx rfl (hb hby at_213) rfl k) ?_
          show G (T37.setTop (mkF m 215 #[.val (.long i0), .second, .val (.long i1), .second, .val (.long i2), .second, .val (.long i3), .second, .val (.int i4), .val (.long y9_1), .second, .val (.long y11_2), .second, .val (.long y13_3), .second, .val (.long y15_6), .second, .val (.long r_7), .second, .val (.long y19_8), .second, .val (.long y21_9), .second, .val (.long y23_28), .second, .val (.long y25_36), .second, .unset, .unset] [(.long y23_28), (.long (r_7 * y15_6)), (.long r_37)]))
          refine hG _ _ (fun t k => XS.lload X37.here hx rfl (hb hby at_215) rfl k) ?_
          show G (T37.setTop (mkF m 217 #[.val (.long i0), .second, .val (.long i1), .second, .val (.long i2), .second, .val (.long i3), .second, .val (.int i4), .val (.long y9_1), .second, .val (.long y11_2), .second, .val (.long y13_3), .second, .val (.long y15_6), .second, .val (.long r_7), .second, .val (.long y19_8), .second, .val (.long y21_9), .second, .val (.long y23_28), .second, .val (.long y25_36), .second, .unset, .unset] [(.long y21_9), (.long y23_28), (.long (r_7 * y15_6)), (.long r_37)]))
          have hM38 := own_wide0 qn (Int.le_of_lt q15) r37_0 (rfl : (r_7 * y15_6) = _)
          have hp38 : y23_28.toInt * 18446744073709551616 + own_U y21_9 ≤ r_37.toInt * 18446744073709551616 + own_U (r_7 * y15_6) := by rw [← hM38, ← hX29]; exact hC4.1
          refine own_callS X37 hx hZ hG hown (hw _ (List.mem_of_getElem? (i := 34) rfl)) (hw _ (List.mem_of_getElem? (i := 35) rfl)) (hw _ (List.mem_of_getElem? (i := 27) rfl)) (hw _ (List.mem_of_getElem? (i := 36) rfl)) (by decide) 0 (own_ltF l Z a0 hw r_37 (r_7 * y15_6) y23_28 y21_9 h0 O0 hp38) (by decide) (by decide) e37 (by rw [hml]; rfl) (lenOf own_pd5 rfl) (argsL := [(.long r_37), (.long (r_7 * y15_6)), (.long y23_28), (.long y21_9)]) (rest := []) rfl rfl (Nat.le_of_eq rfl) (hb hby at_217) (by decide) (by decide) ?_
          intro T39 h39 v39 L39 X39 e39 q39
          obtain ⟨rfl, M39, rfl⟩ := q39
          have N39 := Fr.app N37 M39
          show G (T39.setTop (mkF m 220 #[.val (.long i0), .second, .val (.long i1), .second, .val (.long i2), .second, .val (.long i3), .second, .val (.int i4), .val (.long y9_1), .second, .val (.long y11_2), .second, .val (.long y13_3), .second, .val (.long y15_6), .second, .val (.long r_7), .second, .val (.long y19_8), .second, .val (.long y21_9), .second, .val (.long y23_28), .second, .val (.long y25_36), .second, .unset, .unset] [(.int (0 : Int32))]))
          refine hG _ _ (fun t k => XS.ifNo X39.here hx rfl (hb hby at_220) rfl ((if0 _ _).trans (teq (by decide)).2) k) ?_
          show G (T39.setTop (mkF m 223 #[.val (.long i0), .second, .val (.long i1), .second, .val (.long i2), .second, .val (.long i3), .second, .val (.int i4), .val (.long y9_1), .second, .val (.long y11_2), .second, .val (.long y13_3), .second, .val (.long y15_6), .second, .val (.long r_7), .second, .val (.long y19_8), .second, .val (.long y21_9), .second, .val (.long y23_28), .second, .val (.long y25_36), .second, .unset, .unset] []))
          refine hG _ _ (fun t k => XS.iconst X39.here hx rfl (hb hby at_223) k) ?_
          show G (T39.setTop (mkF m 224 #[.val (.long i0), .second, .val (.long i1), .second, .val (.long i2), .second, .val (.long i3), .second, .val (.int i4), .val (.long y9_1), .second, .val (.long y11_2), .second, .val (.long y13_3), .second, .val (.long y15_6), .second, .val (.long r_7), .second, .val (.long y19_8), .second, .val (.long y21_9), .second, .val (.long y23_28), .second, .val (.long y25_36), .second, .unset, .unset] [(.int (1 : Int32))]))
          refine hG _ _ (fun t k => XS.goto X39.here hx rfl (pc0 := 224) (pc' := 228) rfl (hb hby at_224) (by decide) (by decide) k) ?_
          show G (T39.setTop (mkF m 228 #[.val (.long i0), .second, .val (.long i1), .second, .val (.long i2), .second, .val (.long i3), .second, .val (.int i4), .val (.long y9_1), .second, .val (.long y11_2), .second, .val (.long y13_3), .second, .val (.long y15_6), .second, .val (.long r_7), .second, .val (.long y19_8), .second, .val (.long y21_9), .second, .val (.long y23_28), .second, .val (.long y25_36), .second, .unset, .unset] [(.int (1 : Int32))]))
          refine hG _ _ (fun t k => XS.istore X39.here hx rfl (hb hby at_228) rfl (l' := #[.val (.long i0), .second, .val (.long i1), .second, .val (.long i2), .second, .val (.long i3), .second, .val (.int i4), .val (.long y9_1), .second, .val (.long y11_2), .second, .val (.long y13_3), .second, .val (.long y15_6), .second, .val (.long r_7), .second, .val (.long y19_8), .second, .val (.long y21_9), .second, .val (.long y23_28), .second, .val (.long y25_36), .second, .val (.int (1 : Int32)), .unset]) rfl k) ?_
          show G (T39.setTop (mkF m 230 #[.val (.long i0), .second, .val (.long i1), .second, .val (.long i2), .second, .val (.long i3), .second, .val (.int i4), .val (.long y9_1), .second, .val (.long y11_2), .second, .val (.long y13_3), .second, .val (.long y15_6), .second, .val (.long r_7), .second, .val (.long y19_8), .second, .val (.long y21_9), .second, .val (.long y23_28), .second, .val (.long y25_36), .second, .val (.int (1 : Int32)), .unset] []))
          refine hG _ _ (fun t k => XS.lload X39.here hx rfl (hb hby at_230) rfl k) ?_
          show G (T39.setTop (mkF m 232 #[.val (.long i0), .second, .val (.long i1), .second, .val (.long i2), .second, .val (.long i3), .second, .val (.int i4), .val (.long y9_1), .second, .val (.long y11_2), .second, .val (.long y13_3), .second, .val (.long y15_6), .second, .val (.long r_7), .second, .val (.long y19_8), .second, .val (.long y21_9), .second, .val (.long y23_28), .second, .val (.long y25_36), .second, .val (.int (1 : Int32)), .unset] [(.long y25_36)]))
          refine hG _ _ (fun t k => XS.lload X39.here hx rfl (hb hby at_232) rfl k) ?_
          show G (T39.setTop (mkF m 234 #[.val (.long i0), .second, .val (.long i1), .second, .val (.long i2), .second, .val (.long i3), .second, .val (.int i4), .val (.long y9_1), .second, .val (.long y11_2), .second, .val (.long y13_3), .second, .val (.long y15_6), .second, .val (.long r_7), .second, .val (.long y19_8), .second, .val (.long y21_9), .second, .val (.long y23_28), .second, .val (.long y25_36), .second, .val (.int (1 : Int32)), .unset] [(.long y15_6), (.long y25_36)]))
          refine own_callS X39 hx hZ hG hown (hw _ (List.mem_of_getElem? (i := 25) rfl)) (hw _ (List.mem_of_getElem? (i := 26) rfl)) (hw _ (List.mem_of_getElem? (i := 27) rfl)) (hw _ (List.mem_of_getElem? (i := 28) rfl)) (by decide) 0 (own_mulhi l Z a0 hw y25_36 y15_6 h0 O0 hP25 (Int.le_of_lt q15)) (by decide) (by decide) e39 (by rw [hml]; rfl) (lenOf own_pd1 rfl) (argsL := [(.long y25_36), (.long y15_6)]) (rest := []) rfl rfl (Nat.le_of_eq rfl) (hb hby at_234) (by decide) (by decide) ?_
          intro T40 h40 v40 L40 X40 e40 q40
          obtain ⟨r_40, rfl, M40, rfl, r40_0⟩ := q40
          have N40 := Fr.app N39 M40
          show G (T40.setTop (mkF m 237 #[.val (.long i0), .second, .val (.long i1), .second, .val (.long i2), .second, .val (.long i3), .second, .val (.int i4), .val (.long y9_1), .second, .val (.long y11_2), .second, .val (.long y13_3), .second, .val (.long y15_6), .second, .val (.long r_7), .second, .val (.long y19_8), .second, .val (.long y21_9), .second, .val (.long y23_28), .second, .val (.long y25_36), .second, .val (.int (1 : Int32)), .unset] [(.long r_40)]))
          refine hG _ _ (fun t k => XS.lload X40.here hx rfl (hb hby at_237) rfl k) ?_
          show G (T40.setTop (mkF m 239 #[.val (.long i0), .second, .val (.long i1), .second, .val (.long i2), .second, .val (.long i3), .second, .val (.int i4), .val (.long y9_1), .second, .val (.long y11_2), .second, .val (.long y13_3), .second, .val (.long y15_6), .second, .val (.long r_7), .second, .val (.long y19_8), .second, .val (.long y21_9), .second, .val (.long y23_28), .second, .val (.long y25_36), .second, .val (.int (1 : Int32)), .unset] [(.long y25_36), (.long r_40)]))
          refine hG _ _ (fun t k => XS.lload X40.here hx rfl (hb hby at_239) rfl k) ?_
          show G (T40.setTop (mkF m 241 #[.val (.long i0), .second, .val (.long i1), .second, .val (.long i2), .second, .val (.long i3), .second, .val (.int i4), .val (.long y9_1), .second, .val (.long y11_2), .second, .val (.long y13_3), .second, .val (.long y15_6), .second, .val (.long r_7), .second, .val (.long y19_8), .second, .val (.long y21_9), .second, .val (.long y23_28), .second, .val (.long y25_36), .second, .val (.int (1 : Int32)), .unset] [(.long y15_6), (.long y25_36), (.long r_40)]))
          refine hG _ _ (fun t k => XS.lmul X40.here hx rfl (hb hby at_241) rfl k) ?_
          show G (T40.setTop (mkF m 242 #[.val (.long i0), .second, .val (.long i1), .second, .val (.long i2), .second, .val (.long i3), .second, .val (.int i4), .val (.long y9_1), .second, .val (.long y11_2), .second, .val (.long y13_3), .second, .val (.long y15_6), .second, .val (.long r_7), .second, .val (.long y19_8), .second, .val (.long y21_9), .second, .val (.long y23_28), .second, .val (.long y25_36), .second, .val (.int (1 : Int32)), .unset] [(.long (y25_36 * y15_6)), (.long r_40)]))
          refine hG _ _ (fun t k => XS.lload X40.here hx rfl (hb hby at_242) rfl k) ?_
          show G (T40.setTop (mkF m 244 #[.val (.long i0), .second, .val (.long i1), .second, .val (.long i2), .second, .val (.long i3), .second, .val (.int i4), .val (.long y9_1), .second, .val (.long y11_2), .second, .val (.long y13_3), .second, .val (.long y15_6), .second, .val (.long r_7), .second, .val (.long y19_8), .second, .val (.long y21_9), .second, .val (.long y23_28), .second, .val (.long y25_36), .second, .val (.int (1 : Int32)), .unset] [(.long y23_28), (.long (y25_36 * y15_6)), (.long r_40)]))
          refine hG _ _ (fun t k => XS.lload X40.here hx rfl (hb hby at_244) rfl k) ?_
          show G (T40.setTop (mkF m 246 #[.val (.long i0), .second, .val (.long i1), .second, .val (.long i2), .second, .val (.long i3), .second, .val (.int i4), .val (.long y9_1), .second, .val (.long y11_2), .second, .val (.long y13_3), .second, .val (.long y15_6), .second, .val (.long r_7), .second, .val (.long y19_8), .second, .val (.long y21_9), .second, .val (.long y23_28), .second, .val (.long y25_36), .second, .val (.int (1 : Int32)), .unset] [(.long y21_9), (.long y23_28), (.long (y25_36 * y15_6)), (.long r_40)]))
          have hM41 := own_wide0 hP25 (Int.le_of_lt q15) r40_0 (rfl : (y25_36 * y15_6) = _)
          have hp41 : r_40.toInt * 18446744073709551616 + own_U (y25_36 * y15_6) < y23_28.toInt * 18446744073709551616 + own_U y21_9 := by rw [← hM41, ← hX29]; exact (by rw [hE25]; exact hC4.2)
          refine own_callS X40 hx hZ hG hown (hw _ (List.mem_of_getElem? (i := 34) rfl)) (hw _ (List.mem_of_getElem? (i := 35) rfl)) (hw _ (List.mem_of_getElem? (i := 27) rfl)) (hw _ (List.mem_of_getElem? (i := 36) rfl)) (by decide) 0 (own_lt2 l Z a0 hw r_40 (y25_36 * y15_6) y23_28 y21_9 h0 O0 hp41) (by decide) (by decide) e40 (by rw [hml]; rfl) (lenOf own_pd5 rfl) (argsL := [(.long r_40), (.long (y25_36 * y15_6)), (.long y23_28), (.long y21_9)]) (rest := []) rfl rfl (Nat.le_of_eq rfl) (hb hby at_246) (by decide) (by decide) ?_
          intro T42 h42 v42 L42 X42 e42 q42
          obtain ⟨rfl, M42, rfl⟩ := q42
          have N42 := Fr.app N40 M42
          show G (T42.setTop (mkF m 249 #[.val (.long i0), .second, .val (.long i1), .second, .val (.long i2), .second, .val (.long i3), .second, .val (.int i4), .val (.long y9_1), .second, .val (.long y11_2), .second, .val (.long y13_3), .second, .val (.long y15_6), .second, .val (.long r_7), .second, .val (.long y19_8), .second, .val (.long y21_9), .second, .val (.long y23_28), .second, .val (.long y25_36), .second, .val (.int (1 : Int32)), .unset] [(.int (1 : Int32))]))
          refine hG _ _ (fun t k => XS.istore X42.here hx rfl (hb hby at_249) rfl (l' := #[.val (.long i0), .second, .val (.long i1), .second, .val (.long i2), .second, .val (.long i3), .second, .val (.int i4), .val (.long y9_1), .second, .val (.long y11_2), .second, .val (.long y13_3), .second, .val (.long y15_6), .second, .val (.long r_7), .second, .val (.long y19_8), .second, .val (.long y21_9), .second, .val (.long y23_28), .second, .val (.long y25_36), .second, .val (.int (1 : Int32)), .val (.int (1 : Int32))]) rfl k) ?_
          show G (T42.setTop (mkF m 251 #[.val (.long i0), .second, .val (.long i1), .second, .val (.long i2), .second, .val (.long i3), .second, .val (.int i4), .val (.long y9_1), .second, .val (.long y11_2), .second, .val (.long y13_3), .second, .val (.long y15_6), .second, .val (.long r_7), .second, .val (.long y19_8), .second, .val (.long y21_9), .second, .val (.long y23_28), .second, .val (.long y25_36), .second, .val (.int (1 : Int32)), .val (.int (1 : Int32))] []))
          refine hG _ _ (fun t k => XS.iload X42.here hx rfl (hb hby at_251) rfl k) ?_
          show G (T42.setTop (mkF m 253 #[.val (.long i0), .second, .val (.long i1), .second, .val (.long i2), .second, .val (.long i3), .second, .val (.int i4), .val (.long y9_1), .second, .val (.long y11_2), .second, .val (.long y13_3), .second, .val (.long y15_6), .second, .val (.long r_7), .second, .val (.long y19_8), .second, .val (.long y21_9), .second, .val (.long y23_28), .second, .val (.long y25_36), .second, .val (.int (1 : Int32)), .val (.int (1 : Int32))] [(.int (1 : Int32))]))
          refine hG _ _ (fun t k => XS.ifNo X42.here hx rfl (hb hby at_253) rfl ((if0 _ _).trans (feq (by decide)).1) k) ?_
          show G (T42.setTop (mkF m 256 #[.val (.long i0), .second, .val (.long i1), .second, .val (.long i2), .second, .val (.long i3), .second, .val (.int i4), .val (.long y9_1), .second, .val (.long y11_2), .second, .val (.long y13_3), .second, .val (.long y15_6), .second, .val (.long r_7), .second, .val (.long y19_8), .second, .val (.long y21_9), .second, .val (.long y23_28), .second, .val (.long y25_36), .second, .val (.int (1 : Int32)), .val (.int (1 : Int32))] []))
          refine hG _ _ (fun t k => XS.iload X42.here hx rfl (hb hby at_256) rfl k) ?_
          show G (T42.setTop (mkF m 258 #[.val (.long i0), .second, .val (.long i1), .second, .val (.long i2), .second, .val (.long i3), .second, .val (.int i4), .val (.long y9_1), .second, .val (.long y11_2), .second, .val (.long y13_3), .second, .val (.long y15_6), .second, .val (.long r_7), .second, .val (.long y19_8), .second, .val (.long y21_9), .second, .val (.long y23_28), .second, .val (.long y25_36), .second, .val (.int (1 : Int32)), .val (.int (1 : Int32))] [(.int (1 : Int32))]))
          refine hG _ _ (fun t k => XS.ifNo X42.here hx rfl (hb hby at_258) rfl ((if0 _ _).trans (feq (by decide)).1) k) ?_
          show G (T42.setTop (mkF m 261 #[.val (.long i0), .second, .val (.long i1), .second, .val (.long i2), .second, .val (.long i3), .second, .val (.int i4), .val (.long y9_1), .second, .val (.long y11_2), .second, .val (.long y13_3), .second, .val (.long y15_6), .second, .val (.long r_7), .second, .val (.long y19_8), .second, .val (.long y21_9), .second, .val (.long y23_28), .second, .val (.long y25_36), .second, .val (.int (1 : Int32)), .val (.int (1 : Int32))] []))
          refine hG _ _ (fun t k => XS.iconst X42.here hx rfl (hb hby at_261) k) ?_
          show G (T42.setTop (mkF m 262 #[.val (.long i0), .second, .val (.long i1), .second, .val (.long i2), .second, .val (.long i3), .second, .val (.int i4), .val (.long y9_1), .second, .val (.long y11_2), .second, .val (.long y13_3), .second, .val (.long y15_6), .second, .val (.long r_7), .second, .val (.long y19_8), .second, .val (.long y21_9), .second, .val (.long y23_28), .second, .val (.long y25_36), .second, .val (.int (1 : Int32)), .val (.int (1 : Int32))] [(.int (1 : Int32))]))
          refine hG _ _ (fun t k => XS.goto X42.here hx rfl (pc0 := 262) (pc' := 266) rfl (hb hby at_262) (by decide) (by decide) k) ?_
          show G (T42.setTop (mkF m 266 #[.val (.long i0), .second, .val (.long i1), .second, .val (.long i2), .second, .val (.long i3), .second, .val (.int i4), .val (.long y9_1), .second, .val (.long y11_2), .second, .val (.long y13_3), .second, .val (.long y15_6), .second, .val (.long r_7), .second, .val (.long y19_8), .second, .val (.long y21_9), .second, .val (.long y23_28), .second, .val (.long y25_36), .second, .val (.int (1 : Int32)), .val (.int (1 : Int32))] [(.int (1 : Int32))]))
          exact own_retN hR hret (by simp) X42 hx (hb hby at_266) (by decide) (by decide) (by rw [e42]; exact ⟨rfl, N42, (Keep.refl h0 [])⟩)
  · skip
    refine hG _ _ (fun t k => XS.ifYes X0.here hx rfl (pc0 := 67) (pc' := 73) rfl (hb hby at_67) rfl ((if0 _ _).trans (feq (fun q => hc67_5 ((lw_eq _ _).mp q))).2) (by decide) (by decide) k) ?_
    show G (s₁.setTop (mkF m 73 #[.val (.long i0), .second, .val (.long i1), .second, .val (.long i2), .second, .val (.long i3), .second, .val (.int i4), .val (.long y9_1), .second, .val (.long y11_2), .second, .val (.long y13_3), .second, .val (.long y15_4), .second, .unset, .unset, .unset, .unset, .unset, .unset, .unset, .unset, .unset, .unset, .unset, .unset] []))
    have q15 : 0 < y15_4.toInt := by have q := mt own_eq0.mpr hc67_5; have := p15; omega
    show G (s₁.setTop (mkF m 73 #[.val (.long i0), .second, .val (.long i1), .second, .val (.long i2), .second, .val (.long i3), .second, .val (.int i4), .val (.long y9_1), .second, .val (.long y11_2), .second, .val (.long y13_3), .second, .val (.long y15_4), .second, .unset, .unset, .unset, .unset, .unset, .unset, .unset, .unset, .unset, .unset, .unset, .unset] []))
    refine hG _ _ (fun t k => XS.lload X0.here hx rfl (hb hby at_73) rfl k) ?_
    show G (s₁.setTop (mkF m 75 #[.val (.long i0), .second, .val (.long i1), .second, .val (.long i2), .second, .val (.long i3), .second, .val (.int i4), .val (.long y9_1), .second, .val (.long y11_2), .second, .val (.long y13_3), .second, .val (.long y15_4), .second, .unset, .unset, .unset, .unset, .unset, .unset, .unset, .unset, .unset, .unset, .unset, .unset] [(.long y9_1)]))
    refine hG _ _ (fun t k => XS.lload X0.here hx rfl (hb hby at_75) rfl k) ?_
    show G (s₁.setTop (mkF m 77 #[.val (.long i0), .second, .val (.long i1), .second, .val (.long i2), .second, .val (.long i3), .second, .val (.int i4), .val (.long y9_1), .second, .val (.long y11_2), .second, .val (.long y13_3), .second, .val (.long y15_4), .second, .unset, .unset, .unset, .unset, .unset, .unset, .unset, .unset, .unset, .unset, .unset, .unset] [(.long y11_2), (.long y9_1)]))
    refine hG _ _ (fun t k => XS.lload X0.here hx rfl (hb hby at_77) rfl k) ?_
    show G (s₁.setTop (mkF m 79 #[.val (.long i0), .second, .val (.long i1), .second, .val (.long i2), .second, .val (.long i3), .second, .val (.int i4), .val (.long y9_1), .second, .val (.long y11_2), .second, .val (.long y13_3), .second, .val (.long y15_4), .second, .unset, .unset, .unset, .unset, .unset, .unset, .unset, .unset, .unset, .unset, .unset, .unset] [(.long y13_3), (.long y11_2), (.long y9_1)]))
    refine hG _ _ (fun t k => XS.lload X0.here hx rfl (hb hby at_79) rfl k) ?_
    show G (s₁.setTop (mkF m 81 #[.val (.long i0), .second, .val (.long i1), .second, .val (.long i2), .second, .val (.long i3), .second, .val (.int i4), .val (.long y9_1), .second, .val (.long y11_2), .second, .val (.long y13_3), .second, .val (.long y15_4), .second, .unset, .unset, .unset, .unset, .unset, .unset, .unset, .unset, .unset, .unset, .unset, .unset] [(.long y15_4), (.long y13_3), (.long y11_2), (.long y9_1)]))
    refine own_callS X0 hx hZ hG hown (hw _ (List.mem_of_getElem? (i := 1) rfl)) (hw _ (List.mem_of_getElem? (i := 2) rfl)) (hw _ (List.mem_of_getElem? (i := 3) rfl)) (hw _ (List.mem_of_getElem? (i := 4) rfl)) (by decide) 0 (own_ceil l Z a0 hw y9_1 y11_2 y13_3 y15_4 h0 O0 p9 p11 p13 q15) (by decide) (by decide) e0 (by rw [hml]; rfl) (lenOf own_pd3 rfl) (argsL := [(.long y9_1), (.long y11_2), (.long y13_3), (.long y15_4)]) (rest := []) rfl rfl (Nat.le_of_eq rfl) (hb hby at_81) (by decide) (by decide) ?_
    intro T43 h43 v43 L43 X43 e43 q43
    obtain ⟨r_43, rfl, M43, rfl, r43_0⟩ := q43
    have N43 := Fr.app N0 M43
    show G (T43.setTop (mkF m 84 #[.val (.long i0), .second, .val (.long i1), .second, .val (.long i2), .second, .val (.long i3), .second, .val (.int i4), .val (.long y9_1), .second, .val (.long y11_2), .second, .val (.long y13_3), .second, .val (.long y15_4), .second, .unset, .unset, .unset, .unset, .unset, .unset, .unset, .unset, .unset, .unset, .unset, .unset] [(.long r_43)]))
    refine hG _ _ (fun t k => XS.lstore X43.here hx rfl (hb hby at_84) rfl (l' := #[.val (.long i0), .second, .val (.long i1), .second, .val (.long i2), .second, .val (.long i3), .second, .val (.int i4), .val (.long y9_1), .second, .val (.long y11_2), .second, .val (.long y13_3), .second, .val (.long y15_4), .second, .val (.long r_43), .second, .unset, .unset, .unset, .unset, .unset, .unset, .unset, .unset, .unset, .unset]) rfl k) ?_
    show G (T43.setTop (mkF m 86 #[.val (.long i0), .second, .val (.long i1), .second, .val (.long i2), .second, .val (.long i3), .second, .val (.int i4), .val (.long y9_1), .second, .val (.long y11_2), .second, .val (.long y13_3), .second, .val (.long y15_4), .second, .val (.long r_43), .second, .unset, .unset, .unset, .unset, .unset, .unset, .unset, .unset, .unset, .unset] []))
    refine hG _ _ (fun t k => XS.lload X43.here hx rfl (hb hby at_86) rfl k) ?_
    show G (T43.setTop (mkF m 88 #[.val (.long i0), .second, .val (.long i1), .second, .val (.long i2), .second, .val (.long i3), .second, .val (.int i4), .val (.long y9_1), .second, .val (.long y11_2), .second, .val (.long y13_3), .second, .val (.long y15_4), .second, .val (.long r_43), .second, .unset, .unset, .unset, .unset, .unset, .unset, .unset, .unset, .unset, .unset] [(.long y9_1)]))
    refine hG _ _ (fun t k => XS.lload X43.here hx rfl (hb hby at_88) rfl k) ?_
    show G (T43.setTop (mkF m 90 #[.val (.long i0), .second, .val (.long i1), .second, .val (.long i2), .second, .val (.long i3), .second, .val (.int i4), .val (.long y9_1), .second, .val (.long y11_2), .second, .val (.long y13_3), .second, .val (.long y15_4), .second, .val (.long r_43), .second, .unset, .unset, .unset, .unset, .unset, .unset, .unset, .unset, .unset, .unset] [(.long y11_2), (.long y9_1)]))
    refine hG _ _ (fun t k => XS.lmul X43.here hx rfl (hb hby at_90) rfl k) ?_
    show G (T43.setTop (mkF m 91 #[.val (.long i0), .second, .val (.long i1), .second, .val (.long i2), .second, .val (.long i3), .second, .val (.int i4), .val (.long y9_1), .second, .val (.long y11_2), .second, .val (.long y13_3), .second, .val (.long y15_4), .second, .val (.long r_43), .second, .unset, .unset, .unset, .unset, .unset, .unset, .unset, .unset, .unset, .unset] [(.long (y9_1 * y11_2))]))
    refine hG _ _ (fun t k => XS.lstore X43.here hx rfl (hb hby at_91) rfl (l' := #[.val (.long i0), .second, .val (.long i1), .second, .val (.long i2), .second, .val (.long i3), .second, .val (.int i4), .val (.long y9_1), .second, .val (.long y11_2), .second, .val (.long y13_3), .second, .val (.long y15_4), .second, .val (.long r_43), .second, .val (.long (y9_1 * y11_2)), .second, .unset, .unset, .unset, .unset, .unset, .unset, .unset, .unset]) rfl k) ?_
    show G (T43.setTop (mkF m 93 #[.val (.long i0), .second, .val (.long i1), .second, .val (.long i2), .second, .val (.long i3), .second, .val (.int i4), .val (.long y9_1), .second, .val (.long y11_2), .second, .val (.long y13_3), .second, .val (.long y15_4), .second, .val (.long r_43), .second, .val (.long (y9_1 * y11_2)), .second, .unset, .unset, .unset, .unset, .unset, .unset, .unset, .unset] []))
    generalize hn_y19_44 : (y9_1 * y11_2) = y19_44
    refine hG _ _ (fun t k => XS.lload X43.here hx rfl (hb hby at_93) rfl k) ?_
    show G (T43.setTop (mkF m 95 #[.val (.long i0), .second, .val (.long i1), .second, .val (.long i2), .second, .val (.long i3), .second, .val (.int i4), .val (.long y9_1), .second, .val (.long y11_2), .second, .val (.long y13_3), .second, .val (.long y15_4), .second, .val (.long r_43), .second, .val (.long y19_44), .second, .unset, .unset, .unset, .unset, .unset, .unset, .unset, .unset] [(.long y19_44)]))
    refine hG _ _ (fun t k => XS.lload X43.here hx rfl (hb hby at_95) rfl k) ?_
    show G (T43.setTop (mkF m 97 #[.val (.long i0), .second, .val (.long i1), .second, .val (.long i2), .second, .val (.long i3), .second, .val (.int i4), .val (.long y9_1), .second, .val (.long y11_2), .second, .val (.long y13_3), .second, .val (.long y15_4), .second, .val (.long r_43), .second, .val (.long y19_44), .second, .unset, .unset, .unset, .unset, .unset, .unset, .unset, .unset] [(.long y13_3), (.long y19_44)]))
    refine hG _ _ (fun t k => XS.ladd X43.here hx rfl (hb hby at_97) rfl k) ?_
    show G (T43.setTop (mkF m 98 #[.val (.long i0), .second, .val (.long i1), .second, .val (.long i2), .second, .val (.long i3), .second, .val (.int i4), .val (.long y9_1), .second, .val (.long y11_2), .second, .val (.long y13_3), .second, .val (.long y15_4), .second, .val (.long r_43), .second, .val (.long y19_44), .second, .unset, .unset, .unset, .unset, .unset, .unset, .unset, .unset] [(.long (y19_44 + y13_3))]))
    refine hG _ _ (fun t k => XS.lstore X43.here hx rfl (hb hby at_98) rfl (l' := #[.val (.long i0), .second, .val (.long i1), .second, .val (.long i2), .second, .val (.long i3), .second, .val (.int i4), .val (.long y9_1), .second, .val (.long y11_2), .second, .val (.long y13_3), .second, .val (.long y15_4), .second, .val (.long r_43), .second, .val (.long y19_44), .second, .val (.long (y19_44 + y13_3)), .second, .unset, .unset, .unset, .unset, .unset, .unset]) rfl k) ?_
    show G (T43.setTop (mkF m 100 #[.val (.long i0), .second, .val (.long i1), .second, .val (.long i2), .second, .val (.long i3), .second, .val (.int i4), .val (.long y9_1), .second, .val (.long y11_2), .second, .val (.long y13_3), .second, .val (.long y15_4), .second, .val (.long r_43), .second, .val (.long y19_44), .second, .val (.long (y19_44 + y13_3)), .second, .unset, .unset, .unset, .unset, .unset, .unset] []))
    generalize hn_y21_45 : (y19_44 + y13_3) = y21_45
    refine hG _ _ (fun t k => XS.lload X43.here hx rfl (hb hby at_100) rfl k) ?_
    show G (T43.setTop (mkF m 102 #[.val (.long i0), .second, .val (.long i1), .second, .val (.long i2), .second, .val (.long i3), .second, .val (.int i4), .val (.long y9_1), .second, .val (.long y11_2), .second, .val (.long y13_3), .second, .val (.long y15_4), .second, .val (.long r_43), .second, .val (.long y19_44), .second, .val (.long y21_45), .second, .unset, .unset, .unset, .unset, .unset, .unset] [(.long y9_1)]))
    refine hG _ _ (fun t k => XS.lload X43.here hx rfl (hb hby at_102) rfl k) ?_
    show G (T43.setTop (mkF m 104 #[.val (.long i0), .second, .val (.long i1), .second, .val (.long i2), .second, .val (.long i3), .second, .val (.int i4), .val (.long y9_1), .second, .val (.long y11_2), .second, .val (.long y13_3), .second, .val (.long y15_4), .second, .val (.long r_43), .second, .val (.long y19_44), .second, .val (.long y21_45), .second, .unset, .unset, .unset, .unset, .unset, .unset] [(.long y11_2), (.long y9_1)]))
    refine own_callS X43 hx hZ hG hown (hw _ (List.mem_of_getElem? (i := 25) rfl)) (hw _ (List.mem_of_getElem? (i := 26) rfl)) (hw _ (List.mem_of_getElem? (i := 27) rfl)) (hw _ (List.mem_of_getElem? (i := 28) rfl)) (by decide) 0 (own_mulhi l Z a0 hw y9_1 y11_2 h0 O0 p9 p11) (by decide) (by decide) e43 (by rw [hml]; rfl) (lenOf own_pd1 rfl) (argsL := [(.long y9_1), (.long y11_2)]) (rest := []) rfl rfl (Nat.le_of_eq rfl) (hb hby at_104) (by decide) (by decide) ?_
    intro T46 h46 v46 L46 X46 e46 q46
    obtain ⟨r_46, rfl, M46, rfl, r46_0⟩ := q46
    have N46 := Fr.app N43 M46
    show G (T46.setTop (mkF m 107 #[.val (.long i0), .second, .val (.long i1), .second, .val (.long i2), .second, .val (.long i3), .second, .val (.int i4), .val (.long y9_1), .second, .val (.long y11_2), .second, .val (.long y13_3), .second, .val (.long y15_4), .second, .val (.long r_43), .second, .val (.long y19_44), .second, .val (.long y21_45), .second, .unset, .unset, .unset, .unset, .unset, .unset] [(.long r_46)]))
    refine hG _ _ (fun t k => XS.lload X46.here hx rfl (hb hby at_107) rfl k) ?_
    show G (T46.setTop (mkF m 109 #[.val (.long i0), .second, .val (.long i1), .second, .val (.long i2), .second, .val (.long i3), .second, .val (.int i4), .val (.long y9_1), .second, .val (.long y11_2), .second, .val (.long y13_3), .second, .val (.long y15_4), .second, .val (.long r_43), .second, .val (.long y19_44), .second, .val (.long y21_45), .second, .unset, .unset, .unset, .unset, .unset, .unset] [(.long y21_45), (.long r_46)]))
    refine hG _ _ (fun t k => XS.lload X46.here hx rfl (hb hby at_109) rfl k) ?_
    show G (T46.setTop (mkF m 111 #[.val (.long i0), .second, .val (.long i1), .second, .val (.long i2), .second, .val (.long i3), .second, .val (.int i4), .val (.long y9_1), .second, .val (.long y11_2), .second, .val (.long y13_3), .second, .val (.long y15_4), .second, .val (.long r_43), .second, .val (.long y19_44), .second, .val (.long y21_45), .second, .unset, .unset, .unset, .unset, .unset, .unset] [(.long y19_44), (.long y21_45), (.long r_46)]))
    refine own_callS X46 hx hZ hG hown (hw _ (List.mem_of_getElem? (i := 30) rfl)) (hw _ (List.mem_of_getElem? (i := 31) rfl)) (hw _ (List.mem_of_getElem? (i := 27) rfl)) (hw _ (List.mem_of_getElem? (i := 32) rfl)) (by decide) 2 (own_ult l Z a0 hw y21_45 y19_44 h0 O0) (by decide) (by decide) e46 (by rw [hml]; rfl) (lenOf own_pd4 rfl) (argsL := [(.long y21_45), (.long y19_44)]) (rest := [(.long r_46)]) rfl rfl (Nat.le_of_eq rfl) (hb hby at_111) (by decide) (by decide) ?_
    intro T47 h47 v47 L47 X47 e47 q47
    obtain ⟨r_47, rfl, M47, rfl, r47_0⟩ := q47
    have N47 := Fr.app N46 M47
    show G (T47.setTop (mkF m 114 #[.val (.long i0), .second, .val (.long i1), .second, .val (.long i2), .second, .val (.long i3), .second, .val (.int i4), .val (.long y9_1), .second, .val (.long y11_2), .second, .val (.long y13_3), .second, .val (.long y15_4), .second, .val (.long r_43), .second, .val (.long y19_44), .second, .val (.long y21_45), .second, .unset, .unset, .unset, .unset, .unset, .unset] [(.int r_47), (.long r_46)]))
    by_cases hc114_48 : r_47 = (0 : Int32)
    · skip
      refine hG _ _ (fun t k => XS.ifYes X47.here hx rfl (pc0 := 114) (pc' := 121) rfl (hb hby at_114) rfl ((if0 _ _).trans (teq hc114_48).1) (by decide) (by decide) k) ?_
      show G (T47.setTop (mkF m 121 #[.val (.long i0), .second, .val (.long i1), .second, .val (.long i2), .second, .val (.long i3), .second, .val (.int i4), .val (.long y9_1), .second, .val (.long y11_2), .second, .val (.long y13_3), .second, .val (.long y15_4), .second, .val (.long r_43), .second, .val (.long y19_44), .second, .val (.long y21_45), .second, .unset, .unset, .unset, .unset, .unset, .unset] [(.long r_46)]))
      refine hG _ _ (fun t k => XS.lconst X47.here hx rfl (hb hby at_121) k) ?_
      show G (T47.setTop (mkF m 122 #[.val (.long i0), .second, .val (.long i1), .second, .val (.long i2), .second, .val (.long i3), .second, .val (.int i4), .val (.long y9_1), .second, .val (.long y11_2), .second, .val (.long y13_3), .second, .val (.long y15_4), .second, .val (.long r_43), .second, .val (.long y19_44), .second, .val (.long y21_45), .second, .unset, .unset, .unset, .unset, .unset, .unset] [(.long (0 : Int64)), (.long r_46)]))
      refine hG _ _ (fun t k => XS.ladd X47.here hx rfl (hb hby at_122) rfl k) ?_
      show G (T47.setTop (mkF m 123 #[.val (.long i0), .second, .val (.long i1), .second, .val (.long i2), .second, .val (.long i3), .second, .val (.int i4), .val (.long y9_1), .second, .val (.long y11_2), .second, .val (.long y13_3), .second, .val (.long y15_4), .second, .val (.long r_43), .second, .val (.long y19_44), .second, .val (.long y21_45), .second, .unset, .unset, .unset, .unset, .unset, .unset] [(.long (r_46 + (0 : Int64)))]))
      refine hG _ _ (fun t k => XS.lstore X47.here hx rfl (hb hby at_123) rfl (l' := #[.val (.long i0), .second, .val (.long i1), .second, .val (.long i2), .second, .val (.long i3), .second, .val (.int i4), .val (.long y9_1), .second, .val (.long y11_2), .second, .val (.long y13_3), .second, .val (.long y15_4), .second, .val (.long r_43), .second, .val (.long y19_44), .second, .val (.long y21_45), .second, .val (.long (r_46 + (0 : Int64))), .second, .unset, .unset, .unset, .unset]) rfl k) ?_
      show G (T47.setTop (mkF m 125 #[.val (.long i0), .second, .val (.long i1), .second, .val (.long i2), .second, .val (.long i3), .second, .val (.int i4), .val (.long y9_1), .second, .val (.long y11_2), .second, .val (.long y13_3), .second, .val (.long y15_4), .second, .val (.long r_43), .second, .val (.long y19_44), .second, .val (.long y21_45), .second, .val (.long (r_46 + (0 : Int64))), .second, .unset, .unset, .unset, .unset] []))
      generalize hn_y23_49 : (r_46 + (0 : Int64)) = y23_49
      have ww50 := own_wide p9 p11 p13 r46_0 hn_y19_44 hn_y21_45
      have hX50 : y9_1.toInt * y11_2.toInt + y13_3.toInt = y23_49.toInt * 18446744073709551616 + own_U y21_45 := by rw [own_add0 hn_y23_49]; exact ww50.2.1 (r47_0.mp hc114_48)
      have hH50 : 0 ≤ y23_49.toInt := by rw [own_add0 hn_y23_49]; exact ww50.2.2.1
      show G (T47.setTop (mkF m 125 #[.val (.long i0), .second, .val (.long i1), .second, .val (.long i2), .second, .val (.long i3), .second, .val (.int i4), .val (.long y9_1), .second, .val (.long y11_2), .second, .val (.long y13_3), .second, .val (.long y15_4), .second, .val (.long r_43), .second, .val (.long y19_44), .second, .val (.long y21_45), .second, .val (.long y23_49), .second, .unset, .unset, .unset, .unset] []))
      refine hG _ _ (fun t k => XS.lload X47.here hx rfl (hb hby at_125) rfl k) ?_
      show G (T47.setTop (mkF m 127 #[.val (.long i0), .second, .val (.long i1), .second, .val (.long i2), .second, .val (.long i3), .second, .val (.int i4), .val (.long y9_1), .second, .val (.long y11_2), .second, .val (.long y13_3), .second, .val (.long y15_4), .second, .val (.long r_43), .second, .val (.long y19_44), .second, .val (.long y21_45), .second, .val (.long y23_49), .second, .unset, .unset, .unset, .unset] [(.long r_43)]))
      refine hG _ _ (fun t k => XS.lconst X47.here hx rfl (hb hby at_127) k) ?_
      show G (T47.setTop (mkF m 128 #[.val (.long i0), .second, .val (.long i1), .second, .val (.long i2), .second, .val (.long i3), .second, .val (.int i4), .val (.long y9_1), .second, .val (.long y11_2), .second, .val (.long y13_3), .second, .val (.long y15_4), .second, .val (.long r_43), .second, .val (.long y19_44), .second, .val (.long y21_45), .second, .val (.long y23_49), .second, .unset, .unset, .unset, .unset] [(.long (0 : Int64)), (.long r_43)]))
      refine hG _ _ (fun t k => XS.lcmp X47.here hx rfl (hb hby at_128) rfl k) ?_
      show G (T47.setTop (mkF m 129 #[.val (.long i0), .second, .val (.long i1), .second, .val (.long i2), .second, .val (.long i3), .second, .val (.int i4), .val (.long y9_1), .second, .val (.long y11_2), .second, .val (.long y13_3), .second, .val (.long y15_4), .second, .val (.long r_43), .second, .val (.long y19_44), .second, .val (.long y21_45), .second, .val (.long y23_49), .second, .unset, .unset, .unset, .unset] [(.int (lcmpW r_43 (0 : Int64)))]))
      refine hG _ _ (fun t k => XS.ifYes X47.here hx rfl (pc0 := 129) (pc' := 134) rfl (hb hby at_129) rfl ((if0 _ _).trans (flt (fun q => (fun z => absurd (own_lt0.mp z) (by have q := r43_0.1; omega)) ((lw_lt _ _).mp q))).2.1) (by decide) (by decide) k) ?_
      show G (T47.setTop (mkF m 134 #[.val (.long i0), .second, .val (.long i1), .second, .val (.long i2), .second, .val (.long i3), .second, .val (.int i4), .val (.long y9_1), .second, .val (.long y11_2), .second, .val (.long y13_3), .second, .val (.long y15_4), .second, .val (.long r_43), .second, .val (.long y19_44), .second, .val (.long y21_45), .second, .val (.long y23_49), .second, .unset, .unset, .unset, .unset] []))
      refine hG _ _ (fun t k => XS.lload X47.here hx rfl (hb hby at_134) rfl k) ?_
      show G (T47.setTop (mkF m 136 #[.val (.long i0), .second, .val (.long i1), .second, .val (.long i2), .second, .val (.long i3), .second, .val (.int i4), .val (.long y9_1), .second, .val (.long y11_2), .second, .val (.long y13_3), .second, .val (.long y15_4), .second, .val (.long r_43), .second, .val (.long y19_44), .second, .val (.long y21_45), .second, .val (.long y23_49), .second, .unset, .unset, .unset, .unset] [(.long r_43)]))
      refine hG _ _ (X47.ldc2Long hx hown (mvT hZ (hw _ (List.mem_of_getElem? (i := 0) rfl))) (g := (mkF m 136 #[.val (.long i0), .second, .val (.long i1), .second, .val (.long i2), .second, .val (.long i3), .second, .val (.int i4), .val (.long y9_1), .second, .val (.long y11_2), .second, .val (.long y13_3), .second, .val (.long y15_4), .second, .val (.long r_43), .second, .val (.long y19_44), .second, .val (.long y21_45), .second, .val (.long y23_49), .second, .unset, .unset, .unset, .unset] [(.long r_43)])) rfl (hb hby at_136)) ?_
      show G (T47.setTop (mkF m 139 #[.val (.long i0), .second, .val (.long i1), .second, .val (.long i2), .second, .val (.long i3), .second, .val (.int i4), .val (.long y9_1), .second, .val (.long y11_2), .second, .val (.long y13_3), .second, .val (.long y15_4), .second, .val (.long r_43), .second, .val (.long y19_44), .second, .val (.long y21_45), .second, .val (.long y23_49), .second, .unset, .unset, .unset, .unset] [(.long (9223372036854775807 : Int64)), (.long r_43)]))
      refine hG _ _ (fun t k => XS.lcmp X47.here hx rfl (hb hby at_139) rfl k) ?_
      show G (T47.setTop (mkF m 140 #[.val (.long i0), .second, .val (.long i1), .second, .val (.long i2), .second, .val (.long i3), .second, .val (.int i4), .val (.long y9_1), .second, .val (.long y11_2), .second, .val (.long y13_3), .second, .val (.long y15_4), .second, .val (.long r_43), .second, .val (.long y19_44), .second, .val (.long y21_45), .second, .val (.long y23_49), .second, .unset, .unset, .unset, .unset] [(.int (lcmpW r_43 (9223372036854775807 : Int64)))]))
      by_cases hc140_51 : r_43 = (9223372036854775807 : Int64)
      · skip
        refine hG _ _ (fun t k => XS.ifNo X47.here hx rfl (hb hby at_140) rfl ((if0 _ _).trans (teq ((lw_eq _ _).mpr hc140_51)).2) k) ?_
        show G (T47.setTop (mkF m 143 #[.val (.long i0), .second, .val (.long i1), .second, .val (.long i2), .second, .val (.long i3), .second, .val (.int i4), .val (.long y9_1), .second, .val (.long y11_2), .second, .val (.long y13_3), .second, .val (.long y15_4), .second, .val (.long r_43), .second, .val (.long y19_44), .second, .val (.long y21_45), .second, .val (.long y23_49), .second, .unset, .unset, .unset, .unset] []))
        refine hG _ _ (X47.ldc2Long hx hown (mvT hZ (hw _ (List.mem_of_getElem? (i := 40) rfl))) (g := (mkF m 143 #[.val (.long i0), .second, .val (.long i1), .second, .val (.long i2), .second, .val (.long i3), .second, .val (.int i4), .val (.long y9_1), .second, .val (.long y11_2), .second, .val (.long y13_3), .second, .val (.long y15_4), .second, .val (.long r_43), .second, .val (.long y19_44), .second, .val (.long y21_45), .second, .val (.long y23_49), .second, .unset, .unset, .unset, .unset] [])) rfl (hb hby at_143)) ?_
        show G (T47.setTop (mkF m 146 #[.val (.long i0), .second, .val (.long i1), .second, .val (.long i2), .second, .val (.long i3), .second, .val (.int i4), .val (.long y9_1), .second, .val (.long y11_2), .second, .val (.long y13_3), .second, .val (.long y15_4), .second, .val (.long r_43), .second, .val (.long y19_44), .second, .val (.long y21_45), .second, .val (.long y23_49), .second, .unset, .unset, .unset, .unset] [(.long (9223372036854775806 : Int64))]))
        refine hG _ _ (fun t k => XS.lstore X47.here hx rfl (hb hby at_146) rfl (l' := #[.val (.long i0), .second, .val (.long i1), .second, .val (.long i2), .second, .val (.long i3), .second, .val (.int i4), .val (.long y9_1), .second, .val (.long y11_2), .second, .val (.long y13_3), .second, .val (.long y15_4), .second, .val (.long r_43), .second, .val (.long y19_44), .second, .val (.long y21_45), .second, .val (.long y23_49), .second, .val (.long (9223372036854775806 : Int64)), .second, .unset, .unset]) rfl k) ?_
        show G (T47.setTop (mkF m 148 #[.val (.long i0), .second, .val (.long i1), .second, .val (.long i2), .second, .val (.long i3), .second, .val (.int i4), .val (.long y9_1), .second, .val (.long y11_2), .second, .val (.long y13_3), .second, .val (.long y15_4), .second, .val (.long r_43), .second, .val (.long y19_44), .second, .val (.long y21_45), .second, .val (.long y23_49), .second, .val (.long (9223372036854775806 : Int64)), .second, .unset, .unset] []))
        generalize hn_y25_52 : (9223372036854775806 : Int64) = y25_52
        have hE25 : y25_52.toInt = 9223372036854775806 := by rw [← hn_y25_52]; decide
        show G (T47.setTop (mkF m 148 #[.val (.long i0), .second, .val (.long i1), .second, .val (.long i2), .second, .val (.long i3), .second, .val (.int i4), .val (.long y9_1), .second, .val (.long y11_2), .second, .val (.long y13_3), .second, .val (.long y15_4), .second, .val (.long r_43), .second, .val (.long y19_44), .second, .val (.long y21_45), .second, .val (.long y23_49), .second, .val (.long y25_52), .second, .unset, .unset] []))
        refine hG _ _ (fun t k => XS.lload X47.here hx rfl (hb hby at_148) rfl k) ?_
        show G (T47.setTop (mkF m 150 #[.val (.long i0), .second, .val (.long i1), .second, .val (.long i2), .second, .val (.long i3), .second, .val (.int i4), .val (.long y9_1), .second, .val (.long y11_2), .second, .val (.long y13_3), .second, .val (.long y15_4), .second, .val (.long r_43), .second, .val (.long y19_44), .second, .val (.long y21_45), .second, .val (.long y23_49), .second, .val (.long y25_52), .second, .unset, .unset] [(.long y25_52)]))
        refine hG _ _ (fun t k => XS.lload X47.here hx rfl (hb hby at_150) rfl k) ?_
        show G (T47.setTop (mkF m 152 #[.val (.long i0), .second, .val (.long i1), .second, .val (.long i2), .second, .val (.long i3), .second, .val (.int i4), .val (.long y9_1), .second, .val (.long y11_2), .second, .val (.long y13_3), .second, .val (.long y15_4), .second, .val (.long r_43), .second, .val (.long y19_44), .second, .val (.long y21_45), .second, .val (.long y23_49), .second, .val (.long y25_52), .second, .unset, .unset] [(.long y15_4), (.long y25_52)]))
        refine own_callS X47 hx hZ hG hown (hw _ (List.mem_of_getElem? (i := 25) rfl)) (hw _ (List.mem_of_getElem? (i := 26) rfl)) (hw _ (List.mem_of_getElem? (i := 27) rfl)) (hw _ (List.mem_of_getElem? (i := 28) rfl)) (by decide) 0 (own_mulhi l Z a0 hw y25_52 y15_4 h0 O0 (by rw [hE25]; decide) (Int.le_of_lt q15)) (by decide) (by decide) e47 (by rw [hml]; rfl) (lenOf own_pd1 rfl) (argsL := [(.long y25_52), (.long y15_4)]) (rest := []) rfl rfl (Nat.le_of_eq rfl) (hb hby at_152) (by decide) (by decide) ?_
        intro T53 h53 v53 L53 X53 e53 q53
        obtain ⟨r_53, rfl, M53, rfl, r53_0⟩ := q53
        have N53 := Fr.app N47 M53
        show G (T53.setTop (mkF m 155 #[.val (.long i0), .second, .val (.long i1), .second, .val (.long i2), .second, .val (.long i3), .second, .val (.int i4), .val (.long y9_1), .second, .val (.long y11_2), .second, .val (.long y13_3), .second, .val (.long y15_4), .second, .val (.long r_43), .second, .val (.long y19_44), .second, .val (.long y21_45), .second, .val (.long y23_49), .second, .val (.long y25_52), .second, .unset, .unset] [(.long r_53)]))
        refine hG _ _ (fun t k => XS.lload X53.here hx rfl (hb hby at_155) rfl k) ?_
        show G (T53.setTop (mkF m 157 #[.val (.long i0), .second, .val (.long i1), .second, .val (.long i2), .second, .val (.long i3), .second, .val (.int i4), .val (.long y9_1), .second, .val (.long y11_2), .second, .val (.long y13_3), .second, .val (.long y15_4), .second, .val (.long r_43), .second, .val (.long y19_44), .second, .val (.long y21_45), .second, .val (.long y23_49), .second, .val (.long y25_52), .second, .unset, .unset] [(.long y25_52), (.long r_53)]))
        refine hG _ _ (fun t k => XS.lload X53.here hx rfl (hb hby at_157) rfl k) ?_
        show G (T53.setTop (mkF m 159 #[.val (.long i0), .second, .val (.long i1), .second, .val (.long i2), .second, .val (.long i3), .second, .val (.int i4), .val (.long y9_1), .second, .val (.long y11_2), .second, .val (.long y13_3), .second, .val (.long y15_4), .second, .val (.long r_43), .second, .val (.long y19_44), .second, .val (.long y21_45), .second, .val (.long y23_49), .second, .val (.long y25_52), .second, .unset, .unset] [(.long y15_4), (.long y25_52), (.long r_53)]))
        refine hG _ _ (fun t k => XS.lmul X53.here hx rfl (hb hby at_159) rfl k) ?_
        show G (T53.setTop (mkF m 160 #[.val (.long i0), .second, .val (.long i1), .second, .val (.long i2), .second, .val (.long i3), .second, .val (.int i4), .val (.long y9_1), .second, .val (.long y11_2), .second, .val (.long y13_3), .second, .val (.long y15_4), .second, .val (.long r_43), .second, .val (.long y19_44), .second, .val (.long y21_45), .second, .val (.long y23_49), .second, .val (.long y25_52), .second, .unset, .unset] [(.long (y25_52 * y15_4)), (.long r_53)]))
        refine hG _ _ (fun t k => XS.lload X53.here hx rfl (hb hby at_160) rfl k) ?_
        show G (T53.setTop (mkF m 162 #[.val (.long i0), .second, .val (.long i1), .second, .val (.long i2), .second, .val (.long i3), .second, .val (.int i4), .val (.long y9_1), .second, .val (.long y11_2), .second, .val (.long y13_3), .second, .val (.long y15_4), .second, .val (.long r_43), .second, .val (.long y19_44), .second, .val (.long y21_45), .second, .val (.long y23_49), .second, .val (.long y25_52), .second, .unset, .unset] [(.long y23_49), (.long (y25_52 * y15_4)), (.long r_53)]))
        refine hG _ _ (fun t k => XS.lload X53.here hx rfl (hb hby at_162) rfl k) ?_
        show G (T53.setTop (mkF m 164 #[.val (.long i0), .second, .val (.long i1), .second, .val (.long i2), .second, .val (.long i3), .second, .val (.int i4), .val (.long y9_1), .second, .val (.long y11_2), .second, .val (.long y13_3), .second, .val (.long y15_4), .second, .val (.long r_43), .second, .val (.long y19_44), .second, .val (.long y21_45), .second, .val (.long y23_49), .second, .val (.long y25_52), .second, .unset, .unset] [(.long y21_45), (.long y23_49), (.long (y25_52 * y15_4)), (.long r_53)]))
        have hM54 := own_wide0 (by rw [hE25]; decide) (Int.le_of_lt q15) r53_0 (rfl : (y25_52 * y15_4) = _)
        have hp54 : r_53.toInt * 18446744073709551616 + own_U (y25_52 * y15_4) < y23_49.toInt * 18446744073709551616 + own_U y21_45 := by rw [← hM54, ← hX50]; exact (by rw [hE25]; exact r43_0.2.1 (own_eq64.mp hc140_51))
        refine own_callS X53 hx hZ hG hown (hw _ (List.mem_of_getElem? (i := 34) rfl)) (hw _ (List.mem_of_getElem? (i := 35) rfl)) (hw _ (List.mem_of_getElem? (i := 27) rfl)) (hw _ (List.mem_of_getElem? (i := 36) rfl)) (by decide) 0 (own_lt2 l Z a0 hw r_53 (y25_52 * y15_4) y23_49 y21_45 h0 O0 hp54) (by decide) (by decide) e53 (by rw [hml]; rfl) (lenOf own_pd5 rfl) (argsL := [(.long r_53), (.long (y25_52 * y15_4)), (.long y23_49), (.long y21_45)]) (rest := []) rfl rfl (Nat.le_of_eq rfl) (hb hby at_164) (by decide) (by decide) ?_
        intro T55 h55 v55 L55 X55 e55 q55
        obtain ⟨rfl, M55, rfl⟩ := q55
        have N55 := Fr.app N53 M55
        show G (T55.setTop (mkF m 167 #[.val (.long i0), .second, .val (.long i1), .second, .val (.long i2), .second, .val (.long i3), .second, .val (.int i4), .val (.long y9_1), .second, .val (.long y11_2), .second, .val (.long y13_3), .second, .val (.long y15_4), .second, .val (.long r_43), .second, .val (.long y19_44), .second, .val (.long y21_45), .second, .val (.long y23_49), .second, .val (.long y25_52), .second, .unset, .unset] [(.int (1 : Int32))]))
        exact own_retN hR hret (by simp) X55 hx (hb hby at_167) (by decide) (by decide) (by rw [e55]; exact ⟨rfl, N55, (Keep.refl h0 [])⟩)
      · skip
        refine hG _ _ (fun t k => XS.ifYes X47.here hx rfl (pc0 := 140) (pc' := 168) rfl (hb hby at_140) rfl ((if0 _ _).trans (feq (fun q => hc140_51 ((lw_eq _ _).mp q))).2) (by decide) (by decide) k) ?_
        show G (T47.setTop (mkF m 168 #[.val (.long i0), .second, .val (.long i1), .second, .val (.long i2), .second, .val (.long i3), .second, .val (.int i4), .val (.long y9_1), .second, .val (.long y11_2), .second, .val (.long y13_3), .second, .val (.long y15_4), .second, .val (.long r_43), .second, .val (.long y19_44), .second, .val (.long y21_45), .second, .val (.long y23_49), .second, .unset, .unset, .unset, .unset] []))
        refine hG _ _ (fun t k => XS.lload X47.here hx rfl (hb hby at_168) rfl k) ?_
        show G (T47.setTop (mkF m 170 #[.val (.long i0), .second, .val (.long i1), .second, .val (.long i2), .second, .val (.long i3), .second, .val (.int i4), .val (.long y9_1), .second, .val (.long y11_2), .second, .val (.long y13_3), .second, .val (.long y15_4), .second, .val (.long r_43), .second, .val (.long y19_44), .second, .val (.long y21_45), .second, .val (.long y23_49), .second, .unset, .unset, .unset, .unset] [(.long r_43)]))
        refine hG _ _ (fun t k => XS.lconst X47.here hx rfl (hb hby at_170) k) ?_
        show G (T47.setTop (mkF m 171 #[.val (.long i0), .second, .val (.long i1), .second, .val (.long i2), .second, .val (.long i3), .second, .val (.int i4), .val (.long y9_1), .second, .val (.long y11_2), .second, .val (.long y13_3), .second, .val (.long y15_4), .second, .val (.long r_43), .second, .val (.long y19_44), .second, .val (.long y21_45), .second, .val (.long y23_49), .second, .unset, .unset, .unset, .unset] [(.long (0 : Int64)), (.long r_43)]))
        refine hG _ _ (fun t k => XS.lcmp X47.here hx rfl (hb hby at_171) rfl k) ?_
        show G (T47.setTop (mkF m 172 #[.val (.long i0), .second, .val (.long i1), .second, .val (.long i2), .second, .val (.long i3), .second, .val (.int i4), .val (.long y9_1), .second, .val (.long y11_2), .second, .val (.long y13_3), .second, .val (.long y15_4), .second, .val (.long r_43), .second, .val (.long y19_44), .second, .val (.long y21_45), .second, .val (.long y23_49), .second, .unset, .unset, .unset, .unset] [(.int (lcmpW r_43 (0 : Int64)))]))
        by_cases hc172_56 : r_43 = (0 : Int64)
        · skip
          refine hG _ _ (fun t k => XS.ifNo X47.here hx rfl (hb hby at_172) rfl ((if0 _ _).trans (teq ((lw_eq _ _).mpr hc172_56)).2) k) ?_
          show G (T47.setTop (mkF m 175 #[.val (.long i0), .second, .val (.long i1), .second, .val (.long i2), .second, .val (.long i3), .second, .val (.int i4), .val (.long y9_1), .second, .val (.long y11_2), .second, .val (.long y13_3), .second, .val (.long y15_4), .second, .val (.long r_43), .second, .val (.long y19_44), .second, .val (.long y21_45), .second, .val (.long y23_49), .second, .unset, .unset, .unset, .unset] []))
          refine hG _ _ (fun t k => XS.lload X47.here hx rfl (hb hby at_175) rfl k) ?_
          show G (T47.setTop (mkF m 177 #[.val (.long i0), .second, .val (.long i1), .second, .val (.long i2), .second, .val (.long i3), .second, .val (.int i4), .val (.long y9_1), .second, .val (.long y11_2), .second, .val (.long y13_3), .second, .val (.long y15_4), .second, .val (.long r_43), .second, .val (.long y19_44), .second, .val (.long y21_45), .second, .val (.long y23_49), .second, .unset, .unset, .unset, .unset] [(.long y23_49)]))
          refine hG _ _ (fun t k => XS.lconst X47.here hx rfl (hb hby at_177) k) ?_
          show G (T47.setTop (mkF m 178 #[.val (.long i0), .second, .val (.long i1), .second, .val (.long i2), .second, .val (.long i3), .second, .val (.int i4), .val (.long y9_1), .second, .val (.long y11_2), .second, .val (.long y13_3), .second, .val (.long y15_4), .second, .val (.long r_43), .second, .val (.long y19_44), .second, .val (.long y21_45), .second, .val (.long y23_49), .second, .unset, .unset, .unset, .unset] [(.long (0 : Int64)), (.long y23_49)]))
          refine hG _ _ (fun t k => XS.lcmp X47.here hx rfl (hb hby at_178) rfl k) ?_
          show G (T47.setTop (mkF m 179 #[.val (.long i0), .second, .val (.long i1), .second, .val (.long i2), .second, .val (.long i3), .second, .val (.int i4), .val (.long y9_1), .second, .val (.long y11_2), .second, .val (.long y13_3), .second, .val (.long y15_4), .second, .val (.long r_43), .second, .val (.long y19_44), .second, .val (.long y21_45), .second, .val (.long y23_49), .second, .unset, .unset, .unset, .unset] [(.int (lcmpW y23_49 (0 : Int64)))]))
          refine hG _ _ (fun t k => XS.ifNo X47.here hx rfl (hb hby at_179) rfl ((if0 _ _).trans (teq ((lw_eq _ _).mpr (own_eq0.mpr (by have e0 := r43_0.2.2.1 (own_eq0.mp hc172_56); have e1 := hX50; have u := own_U_rng y21_45; have e2 := hH50; omega)))).2) k) ?_
          show G (T47.setTop (mkF m 182 #[.val (.long i0), .second, .val (.long i1), .second, .val (.long i2), .second, .val (.long i3), .second, .val (.int i4), .val (.long y9_1), .second, .val (.long y11_2), .second, .val (.long y13_3), .second, .val (.long y15_4), .second, .val (.long r_43), .second, .val (.long y19_44), .second, .val (.long y21_45), .second, .val (.long y23_49), .second, .unset, .unset, .unset, .unset] []))
          refine hG _ _ (fun t k => XS.lload X47.here hx rfl (hb hby at_182) rfl k) ?_
          show G (T47.setTop (mkF m 184 #[.val (.long i0), .second, .val (.long i1), .second, .val (.long i2), .second, .val (.long i3), .second, .val (.int i4), .val (.long y9_1), .second, .val (.long y11_2), .second, .val (.long y13_3), .second, .val (.long y15_4), .second, .val (.long r_43), .second, .val (.long y19_44), .second, .val (.long y21_45), .second, .val (.long y23_49), .second, .unset, .unset, .unset, .unset] [(.long y21_45)]))
          refine hG _ _ (fun t k => XS.lconst X47.here hx rfl (hb hby at_184) k) ?_
          show G (T47.setTop (mkF m 185 #[.val (.long i0), .second, .val (.long i1), .second, .val (.long i2), .second, .val (.long i3), .second, .val (.int i4), .val (.long y9_1), .second, .val (.long y11_2), .second, .val (.long y13_3), .second, .val (.long y15_4), .second, .val (.long r_43), .second, .val (.long y19_44), .second, .val (.long y21_45), .second, .val (.long y23_49), .second, .unset, .unset, .unset, .unset] [(.long (0 : Int64)), (.long y21_45)]))
          refine hG _ _ (fun t k => XS.lcmp X47.here hx rfl (hb hby at_185) rfl k) ?_
          show G (T47.setTop (mkF m 186 #[.val (.long i0), .second, .val (.long i1), .second, .val (.long i2), .second, .val (.long i3), .second, .val (.int i4), .val (.long y9_1), .second, .val (.long y11_2), .second, .val (.long y13_3), .second, .val (.long y15_4), .second, .val (.long r_43), .second, .val (.long y19_44), .second, .val (.long y21_45), .second, .val (.long y23_49), .second, .unset, .unset, .unset, .unset] [(.int (lcmpW y21_45 (0 : Int64)))]))
          refine hG _ _ (fun t k => XS.ifNo X47.here hx rfl (hb hby at_186) rfl ((if0 _ _).trans (teq ((lw_eq _ _).mpr (own_eq0.mpr (by have e0 := r43_0.2.2.1 (own_eq0.mp hc172_56); have e1 := hX50; have u := own_U_rng y21_45; have e2 := hH50; have uc := own_Ucase y21_45; have rr := rng64 y21_45; omega)))).2) k) ?_
          show G (T47.setTop (mkF m 189 #[.val (.long i0), .second, .val (.long i1), .second, .val (.long i2), .second, .val (.long i3), .second, .val (.int i4), .val (.long y9_1), .second, .val (.long y11_2), .second, .val (.long y13_3), .second, .val (.long y15_4), .second, .val (.long r_43), .second, .val (.long y19_44), .second, .val (.long y21_45), .second, .val (.long y23_49), .second, .unset, .unset, .unset, .unset] []))
          refine hG _ _ (fun t k => XS.iconst X47.here hx rfl (hb hby at_189) k) ?_
          show G (T47.setTop (mkF m 190 #[.val (.long i0), .second, .val (.long i1), .second, .val (.long i2), .second, .val (.long i3), .second, .val (.int i4), .val (.long y9_1), .second, .val (.long y11_2), .second, .val (.long y13_3), .second, .val (.long y15_4), .second, .val (.long r_43), .second, .val (.long y19_44), .second, .val (.long y21_45), .second, .val (.long y23_49), .second, .unset, .unset, .unset, .unset] [(.int (1 : Int32))]))
          refine hG _ _ (fun t k => XS.goto X47.here hx rfl (pc0 := 190) (pc' := 194) rfl (hb hby at_190) (by decide) (by decide) k) ?_
          show G (T47.setTop (mkF m 194 #[.val (.long i0), .second, .val (.long i1), .second, .val (.long i2), .second, .val (.long i3), .second, .val (.int i4), .val (.long y9_1), .second, .val (.long y11_2), .second, .val (.long y13_3), .second, .val (.long y15_4), .second, .val (.long r_43), .second, .val (.long y19_44), .second, .val (.long y21_45), .second, .val (.long y23_49), .second, .unset, .unset, .unset, .unset] [(.int (1 : Int32))]))
          exact own_retN hR hret (by simp) X47 hx (hb hby at_194) (by decide) (by decide) (by rw [e47]; exact ⟨rfl, N47, (Keep.refl h0 [])⟩)
        · skip
          refine hG _ _ (fun t k => XS.ifYes X47.here hx rfl (pc0 := 172) (pc' := 195) rfl (hb hby at_172) rfl ((if0 _ _).trans (feq (fun q => hc172_56 ((lw_eq _ _).mp q))).2) (by decide) (by decide) k) ?_
          show G (T47.setTop (mkF m 195 #[.val (.long i0), .second, .val (.long i1), .second, .val (.long i2), .second, .val (.long i3), .second, .val (.int i4), .val (.long y9_1), .second, .val (.long y11_2), .second, .val (.long y13_3), .second, .val (.long y15_4), .second, .val (.long r_43), .second, .val (.long y19_44), .second, .val (.long y21_45), .second, .val (.long y23_49), .second, .unset, .unset, .unset, .unset] []))
          refine hG _ _ (fun t k => XS.lload X47.here hx rfl (hb hby at_195) rfl k) ?_
          show G (T47.setTop (mkF m 197 #[.val (.long i0), .second, .val (.long i1), .second, .val (.long i2), .second, .val (.long i3), .second, .val (.int i4), .val (.long y9_1), .second, .val (.long y11_2), .second, .val (.long y13_3), .second, .val (.long y15_4), .second, .val (.long r_43), .second, .val (.long y19_44), .second, .val (.long y21_45), .second, .val (.long y23_49), .second, .unset, .unset, .unset, .unset] [(.long r_43)]))
          refine hG _ _ (fun t k => XS.lconst X47.here hx rfl (hb hby at_197) k) ?_
          show G (T47.setTop (mkF m 198 #[.val (.long i0), .second, .val (.long i1), .second, .val (.long i2), .second, .val (.long i3), .second, .val (.int i4), .val (.long y9_1), .second, .val (.long y11_2), .second, .val (.long y13_3), .second, .val (.long y15_4), .second, .val (.long r_43), .second, .val (.long y19_44), .second, .val (.long y21_45), .second, .val (.long y23_49), .second, .unset, .unset, .unset, .unset] [(.long (1 : Int64)), (.long r_43)]))
          refine hG _ _ (fun t k => XS.lsub X47.here hx rfl (hb hby at_198) rfl k) ?_
          show G (T47.setTop (mkF m 199 #[.val (.long i0), .second, .val (.long i1), .second, .val (.long i2), .second, .val (.long i3), .second, .val (.int i4), .val (.long y9_1), .second, .val (.long y11_2), .second, .val (.long y13_3), .second, .val (.long y15_4), .second, .val (.long r_43), .second, .val (.long y19_44), .second, .val (.long y21_45), .second, .val (.long y23_49), .second, .unset, .unset, .unset, .unset] [(.long (r_43 - (1 : Int64)))]))
          refine hG _ _ (fun t k => XS.lstore X47.here hx rfl (hb hby at_199) rfl (l' := #[.val (.long i0), .second, .val (.long i1), .second, .val (.long i2), .second, .val (.long i3), .second, .val (.int i4), .val (.long y9_1), .second, .val (.long y11_2), .second, .val (.long y13_3), .second, .val (.long y15_4), .second, .val (.long r_43), .second, .val (.long y19_44), .second, .val (.long y21_45), .second, .val (.long y23_49), .second, .val (.long (r_43 - (1 : Int64))), .second, .unset, .unset]) rfl k) ?_
          show G (T47.setTop (mkF m 201 #[.val (.long i0), .second, .val (.long i1), .second, .val (.long i2), .second, .val (.long i3), .second, .val (.int i4), .val (.long y9_1), .second, .val (.long y11_2), .second, .val (.long y13_3), .second, .val (.long y15_4), .second, .val (.long r_43), .second, .val (.long y19_44), .second, .val (.long y21_45), .second, .val (.long y23_49), .second, .val (.long (r_43 - (1 : Int64))), .second, .unset, .unset] []))
          generalize hn_y25_57 : (r_43 - (1 : Int64)) = y25_57
          have hC4 := r43_0.2.2.2 (fun z => hc140_51 (own_eq64.mpr z)) (fun z => hc172_56 (own_eq0.mpr z))
          have qn := r43_0.1
          have hE25 : y25_57.toInt = r_43.toInt - 1 := by rw [← hn_y25_57]; have e := c_lsub r_43 1; have e1 : (1 : Int64).toInt = 1 := (by decide); have r1 := rng64 (r_43 - 1); have r2 := rng64 r_43; have q0 := mt own_eq0.mpr hc172_56; omega
          have hP25 : 0 ≤ y25_57.toInt := by have q0 := mt own_eq0.mpr hc172_56; omega
          show G (T47.setTop (mkF m 201 #[.val (.long i0), .second, .val (.long i1), .second, .val (.long i2), .second, .val (.long i3), .second, .val (.int i4), .val (.long y9_1), .second, .val (.long y11_2), .second, .val (.long y13_3), .second, .val (.long y15_4), .second, .val (.long r_43), .second, .val (.long y19_44), .second, .val (.long y21_45), .second, .val (.long y23_49), .second, .val (.long y25_57), .second, .unset, .unset] []))
          refine hG _ _ (fun t k => XS.lload X47.here hx rfl (hb hby at_201) rfl k) ?_
          show G (T47.setTop (mkF m 203 #[.val (.long i0), .second, .val (.long i1), .second, .val (.long i2), .second, .val (.long i3), .second, .val (.int i4), .val (.long y9_1), .second, .val (.long y11_2), .second, .val (.long y13_3), .second, .val (.long y15_4), .second, .val (.long r_43), .second, .val (.long y19_44), .second, .val (.long y21_45), .second, .val (.long y23_49), .second, .val (.long y25_57), .second, .unset, .unset] [(.long r_43)]))
          refine hG _ _ (fun t k => XS.lload X47.here hx rfl (hb hby at_203) rfl k) ?_
          show G (T47.setTop (mkF m 205 #[.val (.long i0), .second, .val (.long i1), .second, .val (.long i2), .second, .val (.long i3), .second, .val (.int i4), .val (.long y9_1), .second, .val (.long y11_2), .second, .val (.long y13_3), .second, .val (.long y15_4), .second, .val (.long r_43), .second, .val (.long y19_44), .second, .val (.long y21_45), .second, .val (.long y23_49), .second, .val (.long y25_57), .second, .unset, .unset] [(.long y15_4), (.long r_43)]))
          refine own_callS X47 hx hZ hG hown (hw _ (List.mem_of_getElem? (i := 25) rfl)) (hw _ (List.mem_of_getElem? (i := 26) rfl)) (hw _ (List.mem_of_getElem? (i := 27) rfl)) (hw _ (List.mem_of_getElem? (i := 28) rfl)) (by decide) 0 (own_mulhi l Z a0 hw r_43 y15_4 h0 O0 qn (Int.le_of_lt q15)) (by decide) (by decide) e47 (by rw [hml]; rfl) (lenOf own_pd1 rfl) (argsL := [(.long r_43), (.long y15_4)]) (rest := []) rfl rfl (Nat.le_of_eq rfl) (hb hby at_205) (by decide) (by decide) ?_
          intro T58 h58 v58 L58 X58 e58 q58
          obtain ⟨r_58, rfl, M58, rfl, r58_0⟩ := q58
          have N58 := Fr.app N47 M58
          show G (T58.setTop (mkF m 208 #[.val (.long i0), .second, .val (.long i1), .second, .val (.long i2), .second, .val (.long i3), .second, .val (.int i4), .val (.long y9_1), .second, .val (.long y11_2), .second, .val (.long y13_3), .second, .val (.long y15_4), .second, .val (.long r_43), .second, .val (.long y19_44), .second, .val (.long y21_45), .second, .val (.long y23_49), .second, .val (.long y25_57), .second, .unset, .unset] [(.long r_58)]))
          refine hG _ _ (fun t k => XS.lload X58.here hx rfl (hb hby at_208) rfl k) ?_
          show G (T58.setTop (mkF m 210 #[.val (.long i0), .second, .val (.long i1), .second, .val (.long i2), .second, .val (.long i3), .second, .val (.int i4), .val (.long y9_1), .second, .val (.long y11_2), .second, .val (.long y13_3), .second, .val (.long y15_4), .second, .val (.long r_43), .second, .val (.long y19_44), .second, .val (.long y21_45), .second, .val (.long y23_49), .second, .val (.long y25_57), .second, .unset, .unset] [(.long r_43), (.long r_58)]))
          refine hG _ _ (fun t k => XS.lload X58.here hx rfl (hb hby at_210) rfl k) ?_
          show G (T58.setTop (mkF m 212 #[.val (.long i0), .second, .val (.long i1), .second, .val (.long i2), .second, .val (.long i3), .second, .val (.int i4), .val (.long y9_1), .second, .val (.long y11_2), .second, .val (.long y13_3), .second, .val (.long y15_4), .second, .val (.long r_43), .second, .val (.long y19_44), .second, .val (.long y21_45), .second, .val (.long y23_49), .second, .val (.long y25_57), .second, .unset, .unset] [(.long y15_4), (.long r_43), (.long r_58)]))
          refine hG _ _ (fun t k => XS.lmul X58.here hx rfl (hb hby at_212) rfl k) ?_
          show G (T58.setTop (mkF m 213 #[.val (.long i0), .second, .val (.long i1), .second, .val (.long i2), .second, .val (.long i3), .second, .val (.int i4), .val (.long y9_1), .second, .val (.long y11_2), .second, .val (.long y13_3), .second, .val (.long y15_4), .second, .val (.long r_43), .second, .val (.long y19_44), .second, .val (.long y21_45), .second, .val (.long y23_49), .second, .val (.long y25_57), .second, .unset, .unset] [(.long (r_43 * y15_4)), (.long r_58)]))
          refine hG _ _ (fun t k => XS.lload X58.here hx rfl (hb hby at_213) rfl k) ?_
          show G (T58.setTop (mkF m 215 #[.val (.long i0), .second, .val (.long i1), .second, .val (.long i2), .second, .val (.long i3), .second, .val (.int i4), .val (.long y9_1), .second, .val (.long y11_2), .second, .val (.long y13_3), .second, .val (.long y15_4), .second, .val (.long r_43), .second, .val (.long y19_44), .second, .val (.long y21_45), .second, .val (.long y23_49), .second, .val (.long y25_57), .second, .unset, .unset] [(.long y23_49), (.long (r_43 * y15_4)), (.long r_58)]))
          refine hG _ _ (fun t k => XS.lload X58.here hx rfl (hb hby at_215) rfl k) ?_
          show G (T58.setTop (mkF m 217 #[.val (.long i0), .second, .val (.long i1), .second, .val (.long i2), .second, .val (.long i3), .second, .val (.int i4), .val (.long y9_1), .second, .val (.long y11_2), .second, .val (.long y13_3), .second, .val (.long y15_4), .second, .val (.long r_43), .second, .val (.long y19_44), .second, .val (.long y21_45), .second, .val (.long y23_49), .second, .val (.long y25_57), .second, .unset, .unset] [(.long y21_45), (.long y23_49), (.long (r_43 * y15_4)), (.long r_58)]))
          have hM59 := own_wide0 qn (Int.le_of_lt q15) r58_0 (rfl : (r_43 * y15_4) = _)
          have hp59 : y23_49.toInt * 18446744073709551616 + own_U y21_45 ≤ r_58.toInt * 18446744073709551616 + own_U (r_43 * y15_4) := by rw [← hM59, ← hX50]; exact hC4.1
          refine own_callS X58 hx hZ hG hown (hw _ (List.mem_of_getElem? (i := 34) rfl)) (hw _ (List.mem_of_getElem? (i := 35) rfl)) (hw _ (List.mem_of_getElem? (i := 27) rfl)) (hw _ (List.mem_of_getElem? (i := 36) rfl)) (by decide) 0 (own_ltF l Z a0 hw r_58 (r_43 * y15_4) y23_49 y21_45 h0 O0 hp59) (by decide) (by decide) e58 (by rw [hml]; rfl) (lenOf own_pd5 rfl) (argsL := [(.long r_58), (.long (r_43 * y15_4)), (.long y23_49), (.long y21_45)]) (rest := []) rfl rfl (Nat.le_of_eq rfl) (hb hby at_217) (by decide) (by decide) ?_
          intro T60 h60 v60 L60 X60 e60 q60
          obtain ⟨rfl, M60, rfl⟩ := q60
          have N60 := Fr.app N58 M60
          show G (T60.setTop (mkF m 220 #[.val (.long i0), .second, .val (.long i1), .second, .val (.long i2), .second, .val (.long i3), .second, .val (.int i4), .val (.long y9_1), .second, .val (.long y11_2), .second, .val (.long y13_3), .second, .val (.long y15_4), .second, .val (.long r_43), .second, .val (.long y19_44), .second, .val (.long y21_45), .second, .val (.long y23_49), .second, .val (.long y25_57), .second, .unset, .unset] [(.int (0 : Int32))]))
          refine hG _ _ (fun t k => XS.ifNo X60.here hx rfl (hb hby at_220) rfl ((if0 _ _).trans (teq (by decide)).2) k) ?_
          show G (T60.setTop (mkF m 223 #[.val (.long i0), .second, .val (.long i1), .second, .val (.long i2), .second, .val (.long i3), .second, .val (.int i4), .val (.long y9_1), .second, .val (.long y11_2), .second, .val (.long y13_3), .second, .val (.long y15_4), .second, .val (.long r_43), .second, .val (.long y19_44), .second, .val (.long y21_45), .second, .val (.long y23_49), .second, .val (.long y25_57), .second, .unset, .unset] []))
          refine hG _ _ (fun t k => XS.iconst X60.here hx rfl (hb hby at_223) k) ?_
          show G (T60.setTop (mkF m 224 #[.val (.long i0), .second, .val (.long i1), .second, .val (.long i2), .second, .val (.long i3), .second, .val (.int i4), .val (.long y9_1), .second, .val (.long y11_2), .second, .val (.long y13_3), .second, .val (.long y15_4), .second, .val (.long r_43), .second, .val (.long y19_44), .second, .val (.long y21_45), .second, .val (.long y23_49), .second, .val (.long y25_57), .second, .unset, .unset] [(.int (1 : Int32))]))
          refine hG _ _ (fun t k => XS.goto X60.here hx rfl (pc0 := 224) (pc' := 228) rfl (hb hby at_224) (by decide) (by decide) k) ?_
          show G (T60.setTop (mkF m 228 #[.val (.long i0), .second, .val (.long i1), .second, .val (.long i2), .second, .val (.long i3), .second, .val (.int i4), .val (.long y9_1), .second, .val (.long y11_2), .second, .val (.long y13_3), .second, .val (.long y15_4), .second, .val (.long r_43), .second, .val (.long y19_44), .second, .val (.long y21_45), .second, .val (.long y23_49), .second, .val (.long y25_57), .second, .unset, .unset] [(.int (1 : Int32))]))
          refine hG _ _ (fun t k => XS.istore X60.here hx rfl (hb hby at_228) rfl (l' := #[.val (.long i0), .second, .val (.long i1), .second, .val (.long i2), .second, .val (.long i3), .second, .val (.int i4), .val (.long y9_1), .second, .val (.long y11_2), .second, .val (.long y13_3), .second, .val (.long y15_4), .second, .val (.long r_43), .second, .val (.long y19_44), .second, .val (.long y21_45), .second, .val (.long y23_49), .second, .val (.long y25_57), .second, .val (.int (1 : Int32)), .unset]) rfl k) ?_
          show G (T60.setTop (mkF m 230 #[.val (.long i0), .second, .val (.long i1), .second, .val (.long i2), .second, .val (.long i3), .second, .val (.int i4), .val (.long y9_1), .second, .val (.long y11_2), .second, .val (.long y13_3), .second, .val (.long y15_4), .second, .val (.long r_43), .second, .val (.long y19_44), .second, .val (.long y21_45), .second, .val (.long y23_49), .second, .val (.long y25_57), .second, .val (.int (1 : Int32)), .unset] []))
          refine hG _ _ (fun t k => XS.lload X60.here hx rfl (hb hby at_230) rfl k) ?_
          show G (T60.setTop (mkF m 232 #[.val (.long i0), .second, .val (.long i1), .second, .val (.long i2), .second, .val (.long i3), .second, .val (.int i4), .val (.long y9_1), .second, .val (.long y11_2), .second, .val (.long y13_3), .second, .val (.long y15_4), .second, .val (.long r_43), .second, .val (.long y19_44), .second, .val (.long y21_45), .second, .val (.long y23_49), .second, .val (.long y25_57), .second, .val (.int (1 : Int32)), .unset] [(.long y25_57)]))
          refine hG _ _ (fun t k => XS.lload X60.here hx rfl (hb hby at_232) rfl k) ?_
          show G (T60.setTop (mkF m 234 #[.val (.long i0), .second, .val (.long i1), .second, .val (.long i2), .second, .val (.long i3), .second, .val (.int i4), .val (.long y9_1), .second, .val (.long y11_2), .second, .val (.long y13_3), .second, .val (.long y15_4), .second, .val (.long r_43), .second, .val (.long y19_44), .second, .val (.long y21_45), .second, .val (.long y23_49), .second, .val (.long y25_57), .second, .val (.int (1 : Int32)), .unset] [(.long y15_4), (.long y25_57)]))
          refine own_callS X60 hx hZ hG hown (hw _ (List.mem_of_getElem? (i := 25) rfl)) (hw _ (List.mem_of_getElem? (i := 26) rfl)) (hw _ (List.mem_of_getElem? (i := 27) rfl)) (hw _ (List.mem_of_getElem? (i := 28) rfl)) (by decide) 0 (own_mulhi l Z a0 hw y25_57 y15_4 h0 O0 hP25 (Int.le_of_lt q15)) (by decide) (by decide) e60 (by rw [hml]; rfl) (lenOf own_pd1 rfl) (argsL := [(.long y25_57), (.long y15_4)]) (rest := []) rfl rfl (Nat.le_of_eq rfl) (hb hby at_234) (by decide) (by decide) ?_
          intro T61 h61 v61 L61 X61 e61 q61
          obtain ⟨r_61, rfl, M61, rfl, r61_0⟩ := q61
          have N61 := Fr.app N60 M61
          show G (T61.setTop (mkF m 237 #[.val (.long i0), .second, .val (.long i1), .second, .val (.long i2), .second, .val (.long i3), .second, .val (.int i4), .val (.long y9_1), .second, .val (.long y11_2), .second, .val (.long y13_3), .second, .val (.long y15_4), .second, .val (.long r_43), .second, .val (.long y19_44), .second, .val (.long y21_45), .second, .val (.long y23_49), .second, .val (.long y25_57), .second, .val (.int (1 : Int32)), .unset] [(.long r_61)]))
          refine hG _ _ (fun t k => XS.lload X61.here hx rfl (hb hby at_237) rfl k) ?_
          show G (T61.setTop (mkF m 239 #[.val (.long i0), .second, .val (.long i1), .second, .val (.long i2), .second, .val (.long i3), .second, .val (.int i4), .val (.long y9_1), .second, .val (.long y11_2), .second, .val (.long y13_3), .second, .val (.long y15_4), .second, .val (.long r_43), .second, .val (.long y19_44), .second, .val (.long y21_45), .second, .val (.long y23_49), .second, .val (.long y25_57), .second, .val (.int (1 : Int32)), .unset] [(.long y25_57), (.long r_61)]))
          refine hG _ _ (fun t k => XS.lload X61.here hx rfl (hb hby at_239) rfl k) ?_
          show G (T61.setTop (mkF m 241 #[.val (.long i0), .second, .val (.long i1), .second, .val (.long i2), .second, .val (.long i3), .second, .val (.int i4), .val (.long y9_1), .second, .val (.long y11_2), .second, .val (.long y13_3), .second, .val (.long y15_4), .second, .val (.long r_43), .second, .val (.long y19_44), .second, .val (.long y21_45), .second, .val (.long y23_49), .second, .val (.long y25_57), .second, .val (.int (1 : Int32)), .unset] [(.long y15_4), (.long y25_57), (.long r_61)]))
          refine hG _ _ (fun t k => XS.lmul X61.here hx rfl (hb hby at_241) rfl k) ?_
          show G (T61.setTop (mkF m 242 #[.val (.long i0), .second, .val (.long i1), .second, .val (.long i2), .second, .val (.long i3), .second, .val (.int i4), .val (.long y9_1), .second, .val (.long y11_2), .second, .val (.long y13_3), .second, .val (.long y15_4), .second, .val (.long r_43), .second, .val (.long y19_44), .second, .val (.long y21_45), .second, .val (.long y23_49), .second, .val (.long y25_57), .second, .val (.int (1 : Int32)), .unset] [(.long (y25_57 * y15_4)), (.long r_61)]))
          refine hG _ _ (fun t k => XS.lload X61.here hx rfl (hb hby at_242) rfl k) ?_
          show G (T61.setTop (mkF m 244 #[.val (.long i0), .second, .val (.long i1), .second, .val (.long i2), .second, .val (.long i3), .second, .val (.int i4), .val (.long y9_1), .second, .val (.long y11_2), .second, .val (.long y13_3), .second, .val (.long y15_4), .second, .val (.long r_43), .second, .val (.long y19_44), .second, .val (.long y21_45), .second, .val (.long y23_49), .second, .val (.long y25_57), .second, .val (.int (1 : Int32)), .unset] [(.long y23_49), (.long (y25_57 * y15_4)), (.long r_61)]))
          refine hG _ _ (fun t k => XS.lload X61.here hx rfl (hb hby at_244) rfl k) ?_
          show G (T61.setTop (mkF m 246 #[.val (.long i0), .second, .val (.long i1), .second, .val (.long i2), .second, .val (.long i3), .second, .val (.int i4), .val (.long y9_1), .second, .val (.long y11_2), .second, .val (.long y13_3), .second, .val (.long y15_4), .second, .val (.long r_43), .second, .val (.long y19_44), .second, .val (.long y21_45), .second, .val (.long y23_49), .second, .val (.long y25_57), .second, .val (.int (1 : Int32)), .unset] [(.long y21_45), (.long y23_49), (.long (y25_57 * y15_4)), (.long r_61)]))
          have hM62 := own_wide0 hP25 (Int.le_of_lt q15) r61_0 (rfl : (y25_57 * y15_4) = _)
          have hp62 : r_61.toInt * 18446744073709551616 + own_U (y25_57 * y15_4) < y23_49.toInt * 18446744073709551616 + own_U y21_45 := by rw [← hM62, ← hX50]; exact (by rw [hE25]; exact hC4.2)
          refine own_callS X61 hx hZ hG hown (hw _ (List.mem_of_getElem? (i := 34) rfl)) (hw _ (List.mem_of_getElem? (i := 35) rfl)) (hw _ (List.mem_of_getElem? (i := 27) rfl)) (hw _ (List.mem_of_getElem? (i := 36) rfl)) (by decide) 0 (own_lt2 l Z a0 hw r_61 (y25_57 * y15_4) y23_49 y21_45 h0 O0 hp62) (by decide) (by decide) e61 (by rw [hml]; rfl) (lenOf own_pd5 rfl) (argsL := [(.long r_61), (.long (y25_57 * y15_4)), (.long y23_49), (.long y21_45)]) (rest := []) rfl rfl (Nat.le_of_eq rfl) (hb hby at_246) (by decide) (by decide) ?_
          intro T63 h63 v63 L63 X63 e63 q63
          obtain ⟨rfl, M63, rfl⟩ := q63
          have N63 := Fr.app N61 M63
          show G (T63.setTop (mkF m 249 #[.val (.long i0), .second, .val (.long i1), .second, .val (.long i2), .second, .val (.long i3), .second, .val (.int i4), .val (.long y9_1), .second, .val (.long y11_2), .second, .val (.long y13_3), .second, .val (.long y15_4), .second, .val (.long r_43), .second, .val (.long y19_44), .second, .val (.long y21_45), .second, .val (.long y23_49), .second, .val (.long y25_57), .second, .val (.int (1 : Int32)), .unset] [(.int (1 : Int32))]))
          refine hG _ _ (fun t k => XS.istore X63.here hx rfl (hb hby at_249) rfl (l' := #[.val (.long i0), .second, .val (.long i1), .second, .val (.long i2), .second, .val (.long i3), .second, .val (.int i4), .val (.long y9_1), .second, .val (.long y11_2), .second, .val (.long y13_3), .second, .val (.long y15_4), .second, .val (.long r_43), .second, .val (.long y19_44), .second, .val (.long y21_45), .second, .val (.long y23_49), .second, .val (.long y25_57), .second, .val (.int (1 : Int32)), .val (.int (1 : Int32))]) rfl k) ?_
          show G (T63.setTop (mkF m 251 #[.val (.long i0), .second, .val (.long i1), .second, .val (.long i2), .second, .val (.long i3), .second, .val (.int i4), .val (.long y9_1), .second, .val (.long y11_2), .second, .val (.long y13_3), .second, .val (.long y15_4), .second, .val (.long r_43), .second, .val (.long y19_44), .second, .val (.long y21_45), .second, .val (.long y23_49), .second, .val (.long y25_57), .second, .val (.int (1 : Int32)), .val (.int (1 : Int32))] []))
          refine hG _ _ (fun t k => XS.iload X63.here hx rfl (hb hby at_251) rfl k) ?_
          show G (T63.setTop (mkF m 253 #[.val (.long i0), .second, .val (.long i1), .second, .val (.long i2), .second, .val (.long i3), .second, .val (.int i4), .val (.long y9_1), .second, .val (.long y11_2), .second, .val (.long y13_3), .second, .val (.long y15_4), .second, .val (.long r_43), .second, .val (.long y19_44), .second, .val (.long y21_45), .second, .val (.long y23_49), .second, .val (.long y25_57), .second, .val (.int (1 : Int32)), .val (.int (1 : Int32))] [(.int (1 : Int32))]))
          refine hG _ _ (fun t k => XS.ifNo X63.here hx rfl (hb hby at_253) rfl ((if0 _ _).trans (feq (by decide)).1) k) ?_
          show G (T63.setTop (mkF m 256 #[.val (.long i0), .second, .val (.long i1), .second, .val (.long i2), .second, .val (.long i3), .second, .val (.int i4), .val (.long y9_1), .second, .val (.long y11_2), .second, .val (.long y13_3), .second, .val (.long y15_4), .second, .val (.long r_43), .second, .val (.long y19_44), .second, .val (.long y21_45), .second, .val (.long y23_49), .second, .val (.long y25_57), .second, .val (.int (1 : Int32)), .val (.int (1 : Int32))] []))
          refine hG _ _ (fun t k => XS.iload X63.here hx rfl (hb hby at_256) rfl k) ?_
          show G (T63.setTop (mkF m 258 #[.val (.long i0), .second, .val (.long i1), .second, .val (.long i2), .second, .val (.long i3), .second, .val (.int i4), .val (.long y9_1), .second, .val (.long y11_2), .second, .val (.long y13_3), .second, .val (.long y15_4), .second, .val (.long r_43), .second, .val (.long y19_44), .second, .val (.long y21_45), .second, .val (.long y23_49), .second, .val (.long y25_57), .second, .val (.int (1 : Int32)), .val (.int (1 : Int32))] [(.int (1 : Int32))]))
          refine hG _ _ (fun t k => XS.ifNo X63.here hx rfl (hb hby at_258) rfl ((if0 _ _).trans (feq (by decide)).1) k) ?_
          show G (T63.setTop (mkF m 261 #[.val (.long i0), .second, .val (.long i1), .second, .val (.long i2), .second, .val (.long i3), .second, .val (.int i4), .val (.long y9_1), .second, .val (.long y11_2), .second, .val (.long y13_3), .second, .val (.long y15_4), .second, .val (.long r_43), .second, .val (.long y19_44), .second, .val (.long y21_45), .second, .val (.long y23_49), .second, .val (.long y25_57), .second, .val (.int (1 : Int32)), .val (.int (1 : Int32))] []))
          refine hG _ _ (fun t k => XS.iconst X63.here hx rfl (hb hby at_261) k) ?_
          show G (T63.setTop (mkF m 262 #[.val (.long i0), .second, .val (.long i1), .second, .val (.long i2), .second, .val (.long i3), .second, .val (.int i4), .val (.long y9_1), .second, .val (.long y11_2), .second, .val (.long y13_3), .second, .val (.long y15_4), .second, .val (.long r_43), .second, .val (.long y19_44), .second, .val (.long y21_45), .second, .val (.long y23_49), .second, .val (.long y25_57), .second, .val (.int (1 : Int32)), .val (.int (1 : Int32))] [(.int (1 : Int32))]))
          refine hG _ _ (fun t k => XS.goto X63.here hx rfl (pc0 := 262) (pc' := 266) rfl (hb hby at_262) (by decide) (by decide) k) ?_
          show G (T63.setTop (mkF m 266 #[.val (.long i0), .second, .val (.long i1), .second, .val (.long i2), .second, .val (.long i3), .second, .val (.int i4), .val (.long y9_1), .second, .val (.long y11_2), .second, .val (.long y13_3), .second, .val (.long y15_4), .second, .val (.long r_43), .second, .val (.long y19_44), .second, .val (.long y21_45), .second, .val (.long y23_49), .second, .val (.long y25_57), .second, .val (.int (1 : Int32)), .val (.int (1 : Int32))] [(.int (1 : Int32))]))
          exact own_retN hR hret (by simp) X63 hx (hb hby at_266) (by decide) (by decide) (by rw [e63]; exact ⟨rfl, N63, (Keep.refl h0 [])⟩)
    · skip
      refine hG _ _ (fun t k => XS.ifNo X47.here hx rfl (hb hby at_114) rfl ((if0 _ _).trans (feq hc114_48).1) k) ?_
      show G (T47.setTop (mkF m 117 #[.val (.long i0), .second, .val (.long i1), .second, .val (.long i2), .second, .val (.long i3), .second, .val (.int i4), .val (.long y9_1), .second, .val (.long y11_2), .second, .val (.long y13_3), .second, .val (.long y15_4), .second, .val (.long r_43), .second, .val (.long y19_44), .second, .val (.long y21_45), .second, .unset, .unset, .unset, .unset, .unset, .unset] [(.long r_46)]))
      refine hG _ _ (fun t k => XS.lconst X47.here hx rfl (hb hby at_117) k) ?_
      show G (T47.setTop (mkF m 118 #[.val (.long i0), .second, .val (.long i1), .second, .val (.long i2), .second, .val (.long i3), .second, .val (.int i4), .val (.long y9_1), .second, .val (.long y11_2), .second, .val (.long y13_3), .second, .val (.long y15_4), .second, .val (.long r_43), .second, .val (.long y19_44), .second, .val (.long y21_45), .second, .unset, .unset, .unset, .unset, .unset, .unset] [(.long (1 : Int64)), (.long r_46)]))
      refine hG _ _ (fun t k => XS.goto X47.here hx rfl (pc0 := 118) (pc' := 122) rfl (hb hby at_118) (by decide) (by decide) k) ?_
      show G (T47.setTop (mkF m 122 #[.val (.long i0), .second, .val (.long i1), .second, .val (.long i2), .second, .val (.long i3), .second, .val (.int i4), .val (.long y9_1), .second, .val (.long y11_2), .second, .val (.long y13_3), .second, .val (.long y15_4), .second, .val (.long r_43), .second, .val (.long y19_44), .second, .val (.long y21_45), .second, .unset, .unset, .unset, .unset, .unset, .unset] [(.long (1 : Int64)), (.long r_46)]))
      refine hG _ _ (fun t k => XS.ladd X47.here hx rfl (hb hby at_122) rfl k) ?_
      show G (T47.setTop (mkF m 123 #[.val (.long i0), .second, .val (.long i1), .second, .val (.long i2), .second, .val (.long i3), .second, .val (.int i4), .val (.long y9_1), .second, .val (.long y11_2), .second, .val (.long y13_3), .second, .val (.long y15_4), .second, .val (.long r_43), .second, .val (.long y19_44), .second, .val (.long y21_45), .second, .unset, .unset, .unset, .unset, .unset, .unset] [(.long (r_46 + (1 : Int64)))]))
      refine hG _ _ (fun t k => XS.lstore X47.here hx rfl (hb hby at_123) rfl (l' := #[.val (.long i0), .second, .val (.long i1), .second, .val (.long i2), .second, .val (.long i3), .second, .val (.int i4), .val (.long y9_1), .second, .val (.long y11_2), .second, .val (.long y13_3), .second, .val (.long y15_4), .second, .val (.long r_43), .second, .val (.long y19_44), .second, .val (.long y21_45), .second, .val (.long (r_46 + (1 : Int64))), .second, .unset, .unset, .unset, .unset]) rfl k) ?_
      show G (T47.setTop (mkF m 125 #[.val (.long i0), .second, .val (.long i1), .second, .val (.long i2), .second, .val (.long i3), .second, .val (.int i4), .val (.long y9_1), .second, .val (.long y11_2), .second, .val (.long y13_3), .second, .val (.long y15_4), .second, .val (.long r_43), .second, .val (.long y19_44), .second, .val (.long y21_45), .second, .val (.long (r_46 + (1 : Int64))), .second, .unset, .unset, .unset, .unset] []))
      generalize hn_y23_64 : (r_46 + (1 : Int64)) = y23_64
      have ww65 := own_wide p9 p11 p13 r46_0 hn_y19_44 hn_y21_45
      have hX65 : y9_1.toInt * y11_2.toInt + y13_3.toInt = y23_64.toInt * 18446744073709551616 + own_U y21_45 := by rw [own_inc64 hn_y23_64 ww65.2.2.1 ww65.2.2.2]; exact ww65.1 (Decidable.not_not.mp (fun q => hc114_48 (r47_0.mpr q)))
      have hH65 : 0 ≤ y23_64.toInt := by rw [own_inc64 hn_y23_64 ww65.2.2.1 ww65.2.2.2]; have := ww65.2.2.1; omega
      show G (T47.setTop (mkF m 125 #[.val (.long i0), .second, .val (.long i1), .second, .val (.long i2), .second, .val (.long i3), .second, .val (.int i4), .val (.long y9_1), .second, .val (.long y11_2), .second, .val (.long y13_3), .second, .val (.long y15_4), .second, .val (.long r_43), .second, .val (.long y19_44), .second, .val (.long y21_45), .second, .val (.long y23_64), .second, .unset, .unset, .unset, .unset] []))
      refine hG _ _ (fun t k => XS.lload X47.here hx rfl (hb hby at_125) rfl k) ?_
      show G (T47.setTop (mkF m 127 #[.val (.long i0), .second, .val (.long i1), .second, .val (.long i2), .second, .val (.long i3), .second, .val (.int i4), .val (.long y9_1), .second, .val (.long y11_2), .second, .val (.long y13_3), .second, .val (.long y15_4), .second, .val (.long r_43), .second, .val (.long y19_44), .second, .val (.long y21_45), .second, .val (.long y23_64), .second, .unset, .unset, .unset, .unset] [(.long r_43)]))
      refine hG _ _ (fun t k => XS.lconst X47.here hx rfl (hb hby at_127) k) ?_
      show G (T47.setTop (mkF m 128 #[.val (.long i0), .second, .val (.long i1), .second, .val (.long i2), .second, .val (.long i3), .second, .val (.int i4), .val (.long y9_1), .second, .val (.long y11_2), .second, .val (.long y13_3), .second, .val (.long y15_4), .second, .val (.long r_43), .second, .val (.long y19_44), .second, .val (.long y21_45), .second, .val (.long y23_64), .second, .unset, .unset, .unset, .unset] [(.long (0 : Int64)), (.long r_43)]))
      refine hG _ _ (fun t k => XS.lcmp X47.here hx rfl (hb hby at_128) rfl k) ?_
      show G (T47.setTop (mkF m 129 #[.val (.long i0), .second, .val (.long i1), .second, .val (.long i2), .second, .val (.long i3), .second, .val (.int i4), .val (.long y9_1), .second, .val (.long y11_2), .second, .val (.long y13_3), .second, .val (.long y15_4), .second, .val (.long r_43), .second, .val (.long y19_44), .second, .val (.long y21_45), .second, .val (.long y23_64), .second, .unset, .unset, .unset, .unset] [(.int (lcmpW r_43 (0 : Int64)))]))
      refine hG _ _ (fun t k => XS.ifYes X47.here hx rfl (pc0 := 129) (pc' := 134) rfl (hb hby at_129) rfl ((if0 _ _).trans (flt (fun q => (fun z => absurd (own_lt0.mp z) (by have q := r43_0.1; omega)) ((lw_lt _ _).mp q))).2.1) (by decide) (by decide) k) ?_
      show G (T47.setTop (mkF m 134 #[.val (.long i0), .second, .val (.long i1), .second, .val (.long i2), .second, .val (.long i3), .second, .val (.int i4), .val (.long y9_1), .second, .val (.long y11_2), .second, .val (.long y13_3), .second, .val (.long y15_4), .second, .val (.long r_43), .second, .val (.long y19_44), .second, .val (.long y21_45), .second, .val (.long y23_64), .second, .unset, .unset, .unset, .unset] []))
      refine hG _ _ (fun t k => XS.lload X47.here hx rfl (hb hby at_134) rfl k) ?_
      show G (T47.setTop (mkF m 136 #[.val (.long i0), .second, .val (.long i1), .second, .val (.long i2), .second, .val (.long i3), .second, .val (.int i4), .val (.long y9_1), .second, .val (.long y11_2), .second, .val (.long y13_3), .second, .val (.long y15_4), .second, .val (.long r_43), .second, .val (.long y19_44), .second, .val (.long y21_45), .second, .val (.long y23_64), .second, .unset, .unset, .unset, .unset] [(.long r_43)]))
      refine hG _ _ (X47.ldc2Long hx hown (mvT hZ (hw _ (List.mem_of_getElem? (i := 0) rfl))) (g := (mkF m 136 #[.val (.long i0), .second, .val (.long i1), .second, .val (.long i2), .second, .val (.long i3), .second, .val (.int i4), .val (.long y9_1), .second, .val (.long y11_2), .second, .val (.long y13_3), .second, .val (.long y15_4), .second, .val (.long r_43), .second, .val (.long y19_44), .second, .val (.long y21_45), .second, .val (.long y23_64), .second, .unset, .unset, .unset, .unset] [(.long r_43)])) rfl (hb hby at_136)) ?_
      show G (T47.setTop (mkF m 139 #[.val (.long i0), .second, .val (.long i1), .second, .val (.long i2), .second, .val (.long i3), .second, .val (.int i4), .val (.long y9_1), .second, .val (.long y11_2), .second, .val (.long y13_3), .second, .val (.long y15_4), .second, .val (.long r_43), .second, .val (.long y19_44), .second, .val (.long y21_45), .second, .val (.long y23_64), .second, .unset, .unset, .unset, .unset] [(.long (9223372036854775807 : Int64)), (.long r_43)]))
      refine hG _ _ (fun t k => XS.lcmp X47.here hx rfl (hb hby at_139) rfl k) ?_
      show G (T47.setTop (mkF m 140 #[.val (.long i0), .second, .val (.long i1), .second, .val (.long i2), .second, .val (.long i3), .second, .val (.int i4), .val (.long y9_1), .second, .val (.long y11_2), .second, .val (.long y13_3), .second, .val (.long y15_4), .second, .val (.long r_43), .second, .val (.long y19_44), .second, .val (.long y21_45), .second, .val (.long y23_64), .second, .unset, .unset, .unset, .unset] [(.int (lcmpW r_43 (9223372036854775807 : Int64)))]))
      by_cases hc140_66 : r_43 = (9223372036854775807 : Int64)
      · skip
        refine hG _ _ (fun t k => XS.ifNo X47.here hx rfl (hb hby at_140) rfl ((if0 _ _).trans (teq ((lw_eq _ _).mpr hc140_66)).2) k) ?_
        show G (T47.setTop (mkF m 143 #[.val (.long i0), .second, .val (.long i1), .second, .val (.long i2), .second, .val (.long i3), .second, .val (.int i4), .val (.long y9_1), .second, .val (.long y11_2), .second, .val (.long y13_3), .second, .val (.long y15_4), .second, .val (.long r_43), .second, .val (.long y19_44), .second, .val (.long y21_45), .second, .val (.long y23_64), .second, .unset, .unset, .unset, .unset] []))
        refine hG _ _ (X47.ldc2Long hx hown (mvT hZ (hw _ (List.mem_of_getElem? (i := 40) rfl))) (g := (mkF m 143 #[.val (.long i0), .second, .val (.long i1), .second, .val (.long i2), .second, .val (.long i3), .second, .val (.int i4), .val (.long y9_1), .second, .val (.long y11_2), .second, .val (.long y13_3), .second, .val (.long y15_4), .second, .val (.long r_43), .second, .val (.long y19_44), .second, .val (.long y21_45), .second, .val (.long y23_64), .second, .unset, .unset, .unset, .unset] [])) rfl (hb hby at_143)) ?_
        show G (T47.setTop (mkF m 146 #[.val (.long i0), .second, .val (.long i1), .second, .val (.long i2), .second, .val (.long i3), .second, .val (.int i4), .val (.long y9_1), .second, .val (.long y11_2), .second, .val (.long y13_3), .second, .val (.long y15_4), .second, .val (.long r_43), .second, .val (.long y19_44), .second, .val (.long y21_45), .second, .val (.long y23_64), .second, .unset, .unset, .unset, .unset] [(.long (9223372036854775806 : Int64))]))
        refine hG _ _ (fun t k => XS.lstore X47.here hx rfl (hb hby at_146) rfl (l' := #[.val (.long i0), .second, .val (.long i1), .second, .val (.long i2), .second, .val (.long i3), .second, .val (.int i4), .val (.long y9_1), .second, .val (.long y11_2), .second, .val (.long y13_3), .second, .val (.long y15_4), .second, .val (.long r_43), .second, .val (.long y19_44), .second, .val (.long y21_45), .second, .val (.long y23_64), .second, .val (.long (9223372036854775806 : Int64)), .second, .unset, .unset]) rfl k) ?_
        show G (T47.setTop (mkF m 148 #[.val (.long i0), .second, .val (.long i1), .second, .val (.long i2), .second, .val (.long i3), .second, .val (.int i4), .val (.long y9_1), .second, .val (.long y11_2), .second, .val (.long y13_3), .second, .val (.long y15_4), .second, .val (.long r_43), .second, .val (.long y19_44), .second, .val (.long y21_45), .second, .val (.long y23_64), .second, .val (.long (9223372036854775806 : Int64)), .second, .unset, .unset] []))
        generalize hn_y25_67 : (9223372036854775806 : Int64) = y25_67
        have hE25 : y25_67.toInt = 9223372036854775806 := by rw [← hn_y25_67]; decide
        show G (T47.setTop (mkF m 148 #[.val (.long i0), .second, .val (.long i1), .second, .val (.long i2), .second, .val (.long i3), .second, .val (.int i4), .val (.long y9_1), .second, .val (.long y11_2), .second, .val (.long y13_3), .second, .val (.long y15_4), .second, .val (.long r_43), .second, .val (.long y19_44), .second, .val (.long y21_45), .second, .val (.long y23_64), .second, .val (.long y25_67), .second, .unset, .unset] []))
        refine hG _ _ (fun t k => XS.lload X47.here hx rfl (hb hby at_148) rfl k) ?_
        show G (T47.setTop (mkF m 150 #[.val (.long i0), .second, .val (.long i1), .second, .val (.long i2), .second, .val (.long i3), .second, .val (.int i4), .val (.long y9_1), .second, .val (.long y11_2), .second, .val (.long y13_3), .second, .val (.long y15_4), .second, .val (.long r_43), .second, .val (.long y19_44), .second, .val (.long y21_45), .second, .val (.long y23_64), .second, .val (.long y25_67), .second, .unset, .unset] [(.long y25_67)]))
        refine hG _ _ (fun t k => XS.lload X47.here hx rfl (hb hby at_150) rfl k) ?_
        show G (T47.setTop (mkF m 152 #[.val (.long i0), .second, .val (.long i1), .second, .val (.long i2), .second, .val (.long i3), .second, .val (.int i4), .val (.long y9_1), .second, .val (.long y11_2), .second, .val (.long y13_3), .second, .val (.long y15_4), .second, .val (.long r_43), .second, .val (.long y19_44), .second, .val (.long y21_45), .second, .val (.long y23_64), .second, .val (.long y25_67), .second, .unset, .unset] [(.long y15_4), (.long y25_67)]))
        refine own_callS X47 hx hZ hG hown (hw _ (List.mem_of_getElem? (i := 25) rfl)) (hw _ (List.mem_of_getElem? (i := 26) rfl)) (hw _ (List.mem_of_getElem? (i := 27) rfl)) (hw _ (List.mem_of_getElem? (i := 28) rfl)) (by decide) 0 (own_mulhi l Z a0 hw y25_67 y15_4 h0 O0 (by rw [hE25]; decide) (Int.le_of_lt q15)) (by decide) (by decide) e47 (by rw [hml]; rfl) (lenOf own_pd1 rfl) (argsL := [(.long y25_67), (.long y15_4)]) (rest := []) rfl rfl (Nat.le_of_eq rfl) (hb hby at_152) (by decide) (by decide) ?_
        intro T68 h68 v68 L68 X68 e68 q68
        obtain ⟨r_68, rfl, M68, rfl, r68_0⟩ := q68
        have N68 := Fr.app N47 M68
        show G (T68.setTop (mkF m 155 #[.val (.long i0), .second, .val (.long i1), .second, .val (.long i2), .second, .val (.long i3), .second, .val (.int i4), .val (.long y9_1), .second, .val (.long y11_2), .second, .val (.long y13_3), .second, .val (.long y15_4), .second, .val (.long r_43), .second, .val (.long y19_44), .second, .val (.long y21_45), .second, .val (.long y23_64), .second, .val (.long y25_67), .second, .unset, .unset] [(.long r_68)]))
        refine hG _ _ (fun t k => XS.lload X68.here hx rfl (hb hby at_155) rfl k) ?_
        show G (T68.setTop (mkF m 157 #[.val (.long i0), .second, .val (.long i1), .second, .val (.long i2), .second, .val (.long i3), .second, .val (.int i4), .val (.long y9_1), .second, .val (.long y11_2), .second, .val (.long y13_3), .second, .val (.long y15_4), .second, .val (.long r_43), .second, .val (.long y19_44), .second, .val (.long y21_45), .second, .val (.long y23_64), .second, .val (.long y25_67), .second, .unset, .unset] [(.long y25_67), (.long r_68)]))
        refine hG _ _ (fun t k => XS.lload X68.here hx rfl (hb hby at_157) rfl k) ?_
        show G (T68.setTop (mkF m 159 #[.val (.long i0), .second, .val (.long i1), .second, .val (.long i2), .second, .val (.long i3), .second, .val (.int i4), .val (.long y9_1), .second, .val (.long y11_2), .second, .val (.long y13_3), .second, .val (.long y15_4), .second, .val (.long r_43), .second, .val (.long y19_44), .second, .val (.long y21_45), .second, .val (.long y23_64), .second, .val (.long y25_67), .second, .unset, .unset] [(.long y15_4), (.long y25_67), (.long r_68)]))
        refine hG _ _ (fun t k => XS.lmul X68.here hx rfl (hb hby at_159) rfl k) ?_
        show G (T68.setTop (mkF m 160 #[.val (.long i0), .second, .val (.long i1), .second, .val (.long i2), .second, .val (.long i3), .second, .val (.int i4), .val (.long y9_1), .second, .val (.long y11_2), .second, .val (.long y13_3), .second, .val (.long y15_4), .second, .val (.long r_43), .second, .val (.long y19_44), .second, .val (.long y21_45), .second, .val (.long y23_64), .second, .val (.long y25_67), .second, .unset, .unset] [(.long (y25_67 * y15_4)), (.long r_68)]))
        refine hG _ _ (fun t k => XS.lload X68.here hx rfl (hb hby at_160) rfl k) ?_
        show G (T68.setTop (mkF m 162 #[.val (.long i0), .second, .val (.long i1), .second, .val (.long i2), .second, .val (.long i3), .second, .val (.int i4), .val (.long y9_1), .second, .val (.long y11_2), .second, .val (.long y13_3), .second, .val (.long y15_4), .second, .val (.long r_43), .second, .val (.long y19_44), .second, .val (.long y21_45), .second, .val (.long y23_64), .second, .val (.long y25_67), .second, .unset, .unset] [(.long y23_64), (.long (y25_67 * y15_4)), (.long r_68)]))
        refine hG _ _ (fun t k => XS.lload X68.here hx rfl (hb hby at_162) rfl k) ?_
        show G (T68.setTop (mkF m 164 #[.val (.long i0), .second, .val (.long i1), .second, .val (.long i2), .second, .val (.long i3), .second, .val (.int i4), .val (.long y9_1), .second, .val (.long y11_2), .second, .val (.long y13_3), .second, .val (.long y15_4), .second, .val (.long r_43), .second, .val (.long y19_44), .second, .val (.long y21_45), .second, .val (.long y23_64), .second, .val (.long y25_67), .second, .unset, .unset] [(.long y21_45), (.long y23_64), (.long (y25_67 * y15_4)), (.long r_68)]))
        have hM69 := own_wide0 (by rw [hE25]; decide) (Int.le_of_lt q15) r68_0 (rfl : (y25_67 * y15_4) = _)
        have hp69 : r_68.toInt * 18446744073709551616 + own_U (y25_67 * y15_4) < y23_64.toInt * 18446744073709551616 + own_U y21_45 := by rw [← hM69, ← hX65]; exact (by rw [hE25]; exact r43_0.2.1 (own_eq64.mp hc140_66))
        refine own_callS X68 hx hZ hG hown (hw _ (List.mem_of_getElem? (i := 34) rfl)) (hw _ (List.mem_of_getElem? (i := 35) rfl)) (hw _ (List.mem_of_getElem? (i := 27) rfl)) (hw _ (List.mem_of_getElem? (i := 36) rfl)) (by decide) 0 (own_lt2 l Z a0 hw r_68 (y25_67 * y15_4) y23_64 y21_45 h0 O0 hp69) (by decide) (by decide) e68 (by rw [hml]; rfl) (lenOf own_pd5 rfl) (argsL := [(.long r_68), (.long (y25_67 * y15_4)), (.long y23_64), (.long y21_45)]) (rest := []) rfl rfl (Nat.le_of_eq rfl) (hb hby at_164) (by decide) (by decide) ?_
        intro T70 h70 v70 L70 X70 e70 q70
        obtain ⟨rfl, M70, rfl⟩ := q70
        have N70 := Fr.app N68 M70
        show G (T70.setTop (mkF m 167 #[.val (.long i0), .second, .val (.long i1), .second, .val (.long i2), .second, .val (.long i3), .second, .val (.int i4), .val (.long y9_1), .second, .val (.long y11_2), .second, .val (.long y13_3), .second, .val (.long y15_4), .second, .val (.long r_43), .second, .val (.long y19_44), .second, .val (.long y21_45), .second, .val (.long y23_64), .second, .val (.long y25_67), .second, .unset, .unset] [(.int (1 : Int32))]))
        exact own_retN hR hret (by simp) X70 hx (hb hby at_167) (by decide) (by decide) (by rw [e70]; exact ⟨rfl, N70, (Keep.refl h0 [])⟩)
      · skip
        refine hG _ _ (fun t k => XS.ifYes X47.here hx rfl (pc0 := 140) (pc' := 168) rfl (hb hby at_140) rfl ((if0 _ _).trans (feq (fun q => hc140_66 ((lw_eq _ _).mp q))).2) (by decide) (by decide) k) ?_
        show G (T47.setTop (mkF m 168 #[.val (.long i0), .second, .val (.long i1), .second, .val (.long i2), .second, .val (.long i3), .second, .val (.int i4), .val (.long y9_1), .second, .val (.long y11_2), .second, .val (.long y13_3), .second, .val (.long y15_4), .second, .val (.long r_43), .second, .val (.long y19_44), .second, .val (.long y21_45), .second, .val (.long y23_64), .second, .unset, .unset, .unset, .unset] []))
        refine hG _ _ (fun t k => XS.lload X47.here hx rfl (hb hby at_168) rfl k) ?_
        show G (T47.setTop (mkF m 170 #[.val (.long i0), .second, .val (.long i1), .second, .val (.long i2), .second, .val (.long i3), .second, .val (.int i4), .val (.long y9_1), .second, .val (.long y11_2), .second, .val (.long y13_3), .second, .val (.long y15_4), .second, .val (.long r_43), .second, .val (.long y19_44), .second, .val (.long y21_45), .second, .val (.long y23_64), .second, .unset, .unset, .unset, .unset] [(.long r_43)]))
        refine hG _ _ (fun t k => XS.lconst X47.here hx rfl (hb hby at_170) k) ?_
        show G (T47.setTop (mkF m 171 #[.val (.long i0), .second, .val (.long i1), .second, .val (.long i2), .second, .val (.long i3), .second, .val (.int i4), .val (.long y9_1), .second, .val (.long y11_2), .second, .val (.long y13_3), .second, .val (.long y15_4), .second, .val (.long r_43), .second, .val (.long y19_44), .second, .val (.long y21_45), .second, .val (.long y23_64), .second, .unset, .unset, .unset, .unset] [(.long (0 : Int64)), (.long r_43)]))
        refine hG _ _ (fun t k => XS.lcmp X47.here hx rfl (hb hby at_171) rfl k) ?_
        show G (T47.setTop (mkF m 172 #[.val (.long i0), .second, .val (.long i1), .second, .val (.long i2), .second, .val (.long i3), .second, .val (.int i4), .val (.long y9_1), .second, .val (.long y11_2), .second, .val (.long y13_3), .second, .val (.long y15_4), .second, .val (.long r_43), .second, .val (.long y19_44), .second, .val (.long y21_45), .second, .val (.long y23_64), .second, .unset, .unset, .unset, .unset] [(.int (lcmpW r_43 (0 : Int64)))]))
        by_cases hc172_71 : r_43 = (0 : Int64)
        · skip
          refine hG _ _ (fun t k => XS.ifNo X47.here hx rfl (hb hby at_172) rfl ((if0 _ _).trans (teq ((lw_eq _ _).mpr hc172_71)).2) k) ?_
          show G (T47.setTop (mkF m 175 #[.val (.long i0), .second, .val (.long i1), .second, .val (.long i2), .second, .val (.long i3), .second, .val (.int i4), .val (.long y9_1), .second, .val (.long y11_2), .second, .val (.long y13_3), .second, .val (.long y15_4), .second, .val (.long r_43), .second, .val (.long y19_44), .second, .val (.long y21_45), .second, .val (.long y23_64), .second, .unset, .unset, .unset, .unset] []))
          refine hG _ _ (fun t k => XS.lload X47.here hx rfl (hb hby at_175) rfl k) ?_
          show G (T47.setTop (mkF m 177 #[.val (.long i0), .second, .val (.long i1), .second, .val (.long i2), .second, .val (.long i3), .second, .val (.int i4), .val (.long y9_1), .second, .val (.long y11_2), .second, .val (.long y13_3), .second, .val (.long y15_4), .second, .val (.long r_43), .second, .val (.long y19_44), .second, .val (.long y21_45), .second, .val (.long y23_64), .second, .unset, .unset, .unset, .unset] [(.long y23_64)]))
          refine hG _ _ (fun t k => XS.lconst X47.here hx rfl (hb hby at_177) k) ?_
          show G (T47.setTop (mkF m 178 #[.val (.long i0), .second, .val (.long i1), .second, .val (.long i2), .second, .val (.long i3), .second, .val (.int i4), .val (.long y9_1), .second, .val (.long y11_2), .second, .val (.long y13_3), .second, .val (.long y15_4), .second, .val (.long r_43), .second, .val (.long y19_44), .second, .val (.long y21_45), .second, .val (.long y23_64), .second, .unset, .unset, .unset, .unset] [(.long (0 : Int64)), (.long y23_64)]))
          refine hG _ _ (fun t k => XS.lcmp X47.here hx rfl (hb hby at_178) rfl k) ?_
          show G (T47.setTop (mkF m 179 #[.val (.long i0), .second, .val (.long i1), .second, .val (.long i2), .second, .val (.long i3), .second, .val (.int i4), .val (.long y9_1), .second, .val (.long y11_2), .second, .val (.long y13_3), .second, .val (.long y15_4), .second, .val (.long r_43), .second, .val (.long y19_44), .second, .val (.long y21_45), .second, .val (.long y23_64), .second, .unset, .unset, .unset, .unset] [(.int (lcmpW y23_64 (0 : Int64)))]))
          refine hG _ _ (fun t k => XS.ifNo X47.here hx rfl (hb hby at_179) rfl ((if0 _ _).trans (teq ((lw_eq _ _).mpr (own_eq0.mpr (by have e0 := r43_0.2.2.1 (own_eq0.mp hc172_71); have e1 := hX65; have u := own_U_rng y21_45; have e2 := hH65; omega)))).2) k) ?_
          show G (T47.setTop (mkF m 182 #[.val (.long i0), .second, .val (.long i1), .second, .val (.long i2), .second, .val (.long i3), .second, .val (.int i4), .val (.long y9_1), .second, .val (.long y11_2), .second, .val (.long y13_3), .second, .val (.long y15_4), .second, .val (.long r_43), .second, .val (.long y19_44), .second, .val (.long y21_45), .second, .val (.long y23_64), .second, .unset, .unset, .unset, .unset] []))
          refine hG _ _ (fun t k => XS.lload X47.here hx rfl (hb hby at_182) rfl k) ?_
          show G (T47.setTop (mkF m 184 #[.val (.long i0), .second, .val (.long i1), .second, .val (.long i2), .second, .val (.long i3), .second, .val (.int i4), .val (.long y9_1), .second, .val (.long y11_2), .second, .val (.long y13_3), .second, .val (.long y15_4), .second, .val (.long r_43), .second, .val (.long y19_44), .second, .val (.long y21_45), .second, .val (.long y23_64), .second, .unset, .unset, .unset, .unset] [(.long y21_45)]))
          refine hG _ _ (fun t k => XS.lconst X47.here hx rfl (hb hby at_184) k) ?_
          show G (T47.setTop (mkF m 185 #[.val (.long i0), .second, .val (.long i1), .second, .val (.long i2), .second, .val (.long i3), .second, .val (.int i4), .val (.long y9_1), .second, .val (.long y11_2), .second, .val (.long y13_3), .second, .val (.long y15_4), .second, .val (.long r_43), .second, .val (.long y19_44), .second, .val (.long y21_45), .second, .val (.long y23_64), .second, .unset, .unset, .unset, .unset] [(.long (0 : Int64)), (.long y21_45)]))
          refine hG _ _ (fun t k => XS.lcmp X47.here hx rfl (hb hby at_185) rfl k) ?_
          show G (T47.setTop (mkF m 186 #[.val (.long i0), .second, .val (.long i1), .second, .val (.long i2), .second, .val (.long i3), .second, .val (.int i4), .val (.long y9_1), .second, .val (.long y11_2), .second, .val (.long y13_3), .second, .val (.long y15_4), .second, .val (.long r_43), .second, .val (.long y19_44), .second, .val (.long y21_45), .second, .val (.long y23_64), .second, .unset, .unset, .unset, .unset] [(.int (lcmpW y21_45 (0 : Int64)))]))
          refine hG _ _ (fun t k => XS.ifNo X47.here hx rfl (hb hby at_186) rfl ((if0 _ _).trans (teq ((lw_eq _ _).mpr (own_eq0.mpr (by have e0 := r43_0.2.2.1 (own_eq0.mp hc172_71); have e1 := hX65; have u := own_U_rng y21_45; have e2 := hH65; have uc := own_Ucase y21_45; have rr := rng64 y21_45; omega)))).2) k) ?_
          show G (T47.setTop (mkF m 189 #[.val (.long i0), .second, .val (.long i1), .second, .val (.long i2), .second, .val (.long i3), .second, .val (.int i4), .val (.long y9_1), .second, .val (.long y11_2), .second, .val (.long y13_3), .second, .val (.long y15_4), .second, .val (.long r_43), .second, .val (.long y19_44), .second, .val (.long y21_45), .second, .val (.long y23_64), .second, .unset, .unset, .unset, .unset] []))
          refine hG _ _ (fun t k => XS.iconst X47.here hx rfl (hb hby at_189) k) ?_
          show G (T47.setTop (mkF m 190 #[.val (.long i0), .second, .val (.long i1), .second, .val (.long i2), .second, .val (.long i3), .second, .val (.int i4), .val (.long y9_1), .second, .val (.long y11_2), .second, .val (.long y13_3), .second, .val (.long y15_4), .second, .val (.long r_43), .second, .val (.long y19_44), .second, .val (.long y21_45), .second, .val (.long y23_64), .second, .unset, .unset, .unset, .unset] [(.int (1 : Int32))]))
          refine hG _ _ (fun t k => XS.goto X47.here hx rfl (pc0 := 190) (pc' := 194) rfl (hb hby at_190) (by decide) (by decide) k) ?_
          show G (T47.setTop (mkF m 194 #[.val (.long i0), .second, .val (.long i1), .second, .val (.long i2), .second, .val (.long i3), .second, .val (.int i4), .val (.long y9_1), .second, .val (.long y11_2), .second, .val (.long y13_3), .second, .val (.long y15_4), .second, .val (.long r_43), .second, .val (.long y19_44), .second, .val (.long y21_45), .second, .val (.long y23_64), .second, .unset, .unset, .unset, .unset] [(.int (1 : Int32))]))
          exact own_retN hR hret (by simp) X47 hx (hb hby at_194) (by decide) (by decide) (by rw [e47]; exact ⟨rfl, N47, (Keep.refl h0 [])⟩)
        · skip
          refine hG _ _ (fun t k => XS.ifYes X47.here hx rfl (pc0 := 172) (pc' := 195) rfl (hb hby at_172) rfl ((if0 _ _).trans (feq (fun q => hc172_71 ((lw_eq _ _).mp q))).2) (by decide) (by decide) k) ?_
          show G (T47.setTop (mkF m 195 #[.val (.long i0), .second, .val (.long i1), .second, .val (.long i2), .second, .val (.long i3), .second, .val (.int i4), .val (.long y9_1), .second, .val (.long y11_2), .second, .val (.long y13_3), .second, .val (.long y15_4), .second, .val (.long r_43), .second, .val (.long y19_44), .second, .val (.long y21_45), .second, .val (.long y23_64), .second, .unset, .unset, .unset, .unset] []))
          refine hG _ _ (fun t k => XS.lload X47.here hx rfl (hb hby at_195) rfl k) ?_
          show G (T47.setTop (mkF m 197 #[.val (.long i0), .second, .val (.long i1), .second, .val (.long i2), .second, .val (.long i3), .second, .val (.int i4), .val (.long y9_1), .second, .val (.long y11_2), .second, .val (.long y13_3), .second, .val (.long y15_4), .second, .val (.long r_43), .second, .val (.long y19_44), .second, .val (.long y21_45), .second, .val (.long y23_64), .second, .unset, .unset, .unset, .unset] [(.long r_43)]))
          refine hG _ _ (fun t k => XS.lconst X47.here hx rfl (hb hby at_197) k) ?_
          show G (T47.setTop (mkF m 198 #[.val (.long i0), .second, .val (.long i1), .second, .val (.long i2), .second, .val (.long i3), .second, .val (.int i4), .val (.long y9_1), .second, .val (.long y11_2), .second, .val (.long y13_3), .second, .val (.long y15_4), .second, .val (.long r_43), .second, .val (.long y19_44), .second, .val (.long y21_45), .second, .val (.long y23_64), .second, .unset, .unset, .unset, .unset] [(.long (1 : Int64)), (.long r_43)]))
          refine hG _ _ (fun t k => XS.lsub X47.here hx rfl (hb hby at_198) rfl k) ?_
          show G (T47.setTop (mkF m 199 #[.val (.long i0), .second, .val (.long i1), .second, .val (.long i2), .second, .val (.long i3), .second, .val (.int i4), .val (.long y9_1), .second, .val (.long y11_2), .second, .val (.long y13_3), .second, .val (.long y15_4), .second, .val (.long r_43), .second, .val (.long y19_44), .second, .val (.long y21_45), .second, .val (.long y23_64), .second, .unset, .unset, .unset, .unset] [(.long (r_43 - (1 : Int64)))]))
          refine hG _ _ (fun t k => XS.lstore X47.here hx rfl (hb hby at_199) rfl (l' := #[.val (.long i0), .second, .val (.long i1), .second, .val (.long i2), .second, .val (.long i3), .second, .val (.int i4), .val (.long y9_1), .second, .val (.long y11_2), .second, .val (.long y13_3), .second, .val (.long y15_4), .second, .val (.long r_43), .second, .val (.long y19_44), .second, .val (.long y21_45), .second, .val (.long y23_64), .second, .val (.long (r_43 - (1 : Int64))), .second, .unset, .unset]) rfl k) ?_
          show G (T47.setTop (mkF m 201 #[.val (.long i0), .second, .val (.long i1), .second, .val (.long i2), .second, .val (.long i3), .second, .val (.int i4), .val (.long y9_1), .second, .val (.long y11_2), .second, .val (.long y13_3), .second, .val (.long y15_4), .second, .val (.long r_43), .second, .val (.long y19_44), .second, .val (.long y21_45), .second, .val (.long y23_64), .second, .val (.long (r_43 - (1 : Int64))), .second, .unset, .unset] []))
          generalize hn_y25_72 : (r_43 - (1 : Int64)) = y25_72
          have hC4 := r43_0.2.2.2 (fun z => hc140_66 (own_eq64.mpr z)) (fun z => hc172_71 (own_eq0.mpr z))
          have qn := r43_0.1
          have hE25 : y25_72.toInt = r_43.toInt - 1 := by rw [← hn_y25_72]; have e := c_lsub r_43 1; have e1 : (1 : Int64).toInt = 1 := (by decide); have r1 := rng64 (r_43 - 1); have r2 := rng64 r_43; have q0 := mt own_eq0.mpr hc172_71; omega
          have hP25 : 0 ≤ y25_72.toInt := by have q0 := mt own_eq0.mpr hc172_71; omega
          show G (T47.setTop (mkF m 201 #[.val (.long i0), .second, .val (.long i1), .second, .val (.long i2), .second, .val (.long i3), .second, .val (.int i4), .val (.long y9_1), .second, .val (.long y11_2), .second, .val (.long y13_3), .second, .val (.long y15_4), .second, .val (.long r_43), .second, .val (.long y19_44), .second, .val (.long y21_45), .second, .val (.long y23_64), .second, .val (.long y25_72), .second, .unset, .unset] []))
          refine hG _ _ (fun t k => XS.lload X47.here hx rfl (hb hby at_201) rfl k) ?_
          show G (T47.setTop (mkF m 203 #[.val (.long i0), .second, .val (.long i1), .second, .val (.long i2), .second, .val (.long i3), .second, .val (.int i4), .val (.long y9_1), .second, .val (.long y11_2), .second, .val (.long y13_3), .second, .val (.long y15_4), .second, .val (.long r_43), .second, .val (.long y19_44), .second, .val (.long y21_45), .second, .val (.long y23_64), .second, .val (.long y25_72), .second, .unset, .unset] [(.long r_43)]))
          refine hG _ _ (fun t k => XS.lload X47.here hx rfl (hb hby at_203) rfl k) ?_
          show G (T47.setTop (mkF m 205 #[.val (.long i0), .second, .val (.long i1), .second, .val (.long i2), .second, .val (.long i3), .second, .val (.int i4), .val (.long y9_1), .second, .val (.long y11_2), .second, .val (.long y13_3), .second, .val (.long y15_4), .second, .val (.long r_43), .second, .val (.long y19_44), .second, .val (.long y21_45), .second, .val (.long y23_64), .second, .val (.long y25_72), .second, .unset, .unset] [(.long y15_4), (.long r_43)]))
          refine own_callS X47 hx hZ hG hown (hw _ (List.mem_of_getElem? (i := 25) rfl)) (hw _ (List.mem_of_getElem? (i := 26) rfl)) (hw _ (List.mem_of_getElem? (i := 27) rfl)) (hw _ (List.mem_of_getElem? (i := 28) rfl)) (by decide) 0 (own_mulhi l Z a0 hw r_43 y15_4 h0 O0 qn (Int.le_of_lt q15)) (by decide) (by decide) e47 (by rw [hml]; rfl) (lenOf own_pd1 rfl) (argsL := [(.long r_43), (.long y15_4)]) (rest := []) rfl rfl (Nat.le_of_eq rfl) (hb hby at_205) (by decide) (by decide) ?_
          intro T73 h73 v73 L73 X73 e73 q73
          obtain ⟨r_73, rfl, M73, rfl, r73_0⟩ := q73
          have N73 := Fr.app N47 M73
          show G (T73.setTop (mkF m 208 #[.val (.long i0), .second, .val (.long i1), .second, .val (.long i2), .second, .val (.long i3), .second, .val (.int i4), .val (.long y9_1), .second, .val (.long y11_2), .second, .val (.long y13_3), .second, .val (.long y15_4), .second, .val (.long r_43), .second, .val (.long y19_44), .second, .val (.long y21_45), .second, .val (.long y23_64), .second, .val (.long y25_72), .second, .unset, .unset] [(.long r_73)]))
          refine hG _ _ (fun t k => XS.lload X73.here hx rfl (hb hby at_208) rfl k) ?_
          show G (T73.setTop (mkF m 210 #[.val (.long i0), .second, .val (.long i1), .second, .val (.long i2), .second, .val (.long i3), .second, .val (.int i4), .val (.long y9_1), .second, .val (.long y11_2), .second, .val (.long y13_3), .second, .val (.long y15_4), .second, .val (.long r_43), .second, .val (.long y19_44), .second, .val (.long y21_45), .second, .val (.long y23_64), .second, .val (.long y25_72), .second, .unset, .unset] [(.long r_43), (.long r_73)]))
          refine hG _ _ (fun t k => XS.lload X73.here hx rfl (hb hby at_210) rfl k) ?_
          show G (T73.setTop (mkF m 212 #[.val (.long i0), .second, .val (.long i1), .second, .val (.long i2), .second, .val (.long i3), .second, .val (.int i4), .val (.long y9_1), .second, .val (.long y11_2), .second, .val (.long y13_3), .second, .val (.long y15_4), .second, .val (.long r_43), .second, .val (.long y19_44), .second, .val (.long y21_45), .second, .val (.long y23_64), .second, .val (.long y25_72), .second, .unset, .unset] [(.long y15_4), (.long r_43), (.long r_73)]))
          refine hG _ _ (fun t k => XS.lmul X73.here hx rfl (hb hby at_212) rfl k) ?_
          show G (T73.setTop (mkF m 213 #[.val (.long i0), .second, .val (.long i1), .second, .val (.long i2), .second, .val (.long i3), .second, .val (.int i4), .val (.long y9_1), .second, .val (.long y11_2), .second, .val (.long y13_3), .second, .val (.long y15_4), .second, .val (.long r_43), .second, .val (.long y19_44), .second, .val (.long y21_45), .second, .val (.long y23_64), .second, .val (.long y25_72), .second, .unset, .unset] [(.long (r_43 * y15_4)), (.long r_73)]))
          refine hG _ _ (fun t k => XS.lload X73.here hx rfl (hb hby at_213) rfl k) ?_
          show G (T73.setTop (mkF m 215 #[.val (.long i0), .second, .val (.long i1), .second, .val (.long i2), .second, .val (.long i3), .second, .val (.int i4), .val (.long y9_1), .second, .val (.long y11_2), .second, .val (.long y13_3), .second, .val (.long y15_4), .second, .val (.long r_43), .second, .val (.long y19_44), .second, .val (.long y21_45), .second, .val (.long y23_64), .second, .val (.long y25_72), .second, .unset, .unset] [(.long y23_64), (.long (r_43 * y15_4)), (.long r_73)]))
          refine hG _ _ (fun t k => XS.lload X73.here hx rfl (hb hby at_215) rfl k) ?_
          show G (T73.setTop (mkF m 217 #[.val (.long i0), .second, .val (.long i1), .second, .val (.long i2), .second, .val (.long i3), .second, .val (.int i4), .val (.long y9_1), .second, .val (.long y11_2), .second, .val (.long y13_3), .second, .val (.long y15_4), .second, .val (.long r_43), .second, .val (.long y19_44), .second, .val (.long y21_45), .second, .val (.long y23_64), .second, .val (.long y25_72), .second, .unset, .unset] [(.long y21_45), (.long y23_64), (.long (r_43 * y15_4)), (.long r_73)]))
          have hM74 := own_wide0 qn (Int.le_of_lt q15) r73_0 (rfl : (r_43 * y15_4) = _)
          have hp74 : y23_64.toInt * 18446744073709551616 + own_U y21_45 ≤ r_73.toInt * 18446744073709551616 + own_U (r_43 * y15_4) := by rw [← hM74, ← hX65]; exact hC4.1
          refine own_callS X73 hx hZ hG hown (hw _ (List.mem_of_getElem? (i := 34) rfl)) (hw _ (List.mem_of_getElem? (i := 35) rfl)) (hw _ (List.mem_of_getElem? (i := 27) rfl)) (hw _ (List.mem_of_getElem? (i := 36) rfl)) (by decide) 0 (own_ltF l Z a0 hw r_73 (r_43 * y15_4) y23_64 y21_45 h0 O0 hp74) (by decide) (by decide) e73 (by rw [hml]; rfl) (lenOf own_pd5 rfl) (argsL := [(.long r_73), (.long (r_43 * y15_4)), (.long y23_64), (.long y21_45)]) (rest := []) rfl rfl (Nat.le_of_eq rfl) (hb hby at_217) (by decide) (by decide) ?_
          intro T75 h75 v75 L75 X75 e75 q75
          obtain ⟨rfl, M75, rfl⟩ := q75
          have N75 := Fr.app N73 M75
          show G (T75.setTop (mkF m 220 #[.val (.long i0), .second, .val (.long i1), .second, .val (.long i2), .second, .val (.long i3), .second, .val (.int i4), .val (.long y9_1), .second, .val (.long y11_2), .second, .val (.long y13_3), .second, .val (.long y15_4), .second, .val (.long r_43), .second, .val (.long y19_44), .second, .val (.long y21_45), .second, .val (.long y23_64), .second, .val (.long y25_72), .second, .unset, .unset] [(.int (0 : Int32))]))
          refine hG _ _ (fun t k => XS.ifNo X75.here hx rfl (hb hby at_220) rfl ((if0 _ _).trans (teq (by decide)).2) k) ?_
          show G (T75.setTop (mkF m 223 #[.val (.long i0), .second, .val (.long i1), .second, .val (.long i2), .second, .val (.long i3), .second, .val (.int i4), .val (.long y9_1), .second, .val (.long y11_2), .second, .val (.long y13_3), .second, .val (.long y15_4), .second, .val (.long r_43), .second, .val (.long y19_44), .second, .val (.long y21_45), .second, .val (.long y23_64), .second, .val (.long y25_72), .second, .unset, .unset] []))
          refine hG _ _ (fun t k => XS.iconst X75.here hx rfl (hb hby at_223) k) ?_
          show G (T75.setTop (mkF m 224 #[.val (.long i0), .second, .val (.long i1), .second, .val (.long i2), .second, .val (.long i3), .second, .val (.int i4), .val (.long y9_1), .second, .val (.long y11_2), .second, .val (.long y13_3), .second, .val (.long y15_4), .second, .val (.long r_43), .second, .val (.long y19_44), .second, .val (.long y21_45), .second, .val (.long y23_64), .second, .val (.long y25_72), .second, .unset, .unset] [(.int (1 : Int32))]))
          refine hG _ _ (fun t k => XS.goto X75.here hx rfl (pc0 := 224) (pc' := 228) rfl (hb hby at_224) (by decide) (by decide) k) ?_
          show G (T75.setTop (mkF m 228 #[.val (.long i0), .second, .val (.long i1), .second, .val (.long i2), .second, .val (.long i3), .second, .val (.int i4), .val (.long y9_1), .second, .val (.long y11_2), .second, .val (.long y13_3), .second, .val (.long y15_4), .second, .val (.long r_43), .second, .val (.long y19_44), .second, .val (.long y21_45), .second, .val (.long y23_64), .second, .val (.long y25_72), .second, .unset, .unset] [(.int (1 : Int32))]))
          refine hG _ _ (fun t k => XS.istore X75.here hx rfl (hb hby at_228) rfl (l' := #[.val (.long i0), .second, .val (.long i1), .second, .val (.long i2), .second, .val (.long i3), .second, .val (.int i4), .val (.long y9_1), .second, .val (.long y11_2), .second, .val (.long y13_3), .second, .val (.long y15_4), .second, .val (.long r_43), .second, .val (.long y19_44), .second, .val (.long y21_45), .second, .val (.long y23_64), .second, .val (.long y25_72), .second, .val (.int (1 : Int32)), .unset]) rfl k) ?_
          show G (T75.setTop (mkF m 230 #[.val (.long i0), .second, .val (.long i1), .second, .val (.long i2), .second, .val (.long i3), .second, .val (.int i4), .val (.long y9_1), .second, .val (.long y11_2), .second, .val (.long y13_3), .second, .val (.long y15_4), .second, .val (.long r_43), .second, .val (.long y19_44), .second, .val (.long y21_45), .second, .val (.long y23_64), .second, .val (.long y25_72), .second, .val (.int (1 : Int32)), .unset] []))
          refine hG _ _ (fun t k => XS.lload X75.here hx rfl (hb hby at_230) rfl k) ?_
          show G (T75.setTop (mkF m 232 #[.val (.long i0), .second, .val (.long i1), .second, .val (.long i2), .second, .val (.long i3), .second, .val (.int i4), .val (.long y9_1), .second, .val (.long y11_2), .second, .val (.long y13_3), .second, .val (.long y15_4), .second, .val (.long r_43), .second, .val (.long y19_44), .second, .val (.long y21_45), .second, .val (.long y23_64), .second, .val (.long y25_72), .second, .val (.int (1 : Int32)), .unset] [(.long y25_72)]))
          refine hG _ _ (fun t k => XS.lload X75.here hx rfl (hb hby at_232) rfl k) ?_
          show G (T75.setTop (mkF m 234 #[.val (.long i0), .second, .val (.long i1), .second, .val (.long i2), .second, .val (.long i3), .second, .val (.int i4), .val (.long y9_1), .second, .val (.long y11_2), .second, .val (.long y13_3), .second, .val (.long y15_4), .second, .val (.long r_43), .second, .val (.long y19_44), .second, .val (.long y21_45), .second, .val (.long y23_64), .second, .val (.long y25_72), .second, .val (.int (1 : Int32)), .unset] [(.long y15_4), (.long y25_72)]))
          refine own_callS X75 hx hZ hG hown (hw _ (List.mem_of_getElem? (i := 25) rfl)) (hw _ (List.mem_of_getElem? (i := 26) rfl)) (hw _ (List.mem_of_getElem? (i := 27) rfl)) (hw _ (List.mem_of_getElem? (i := 28) rfl)) (by decide) 0 (own_mulhi l Z a0 hw y25_72 y15_4 h0 O0 hP25 (Int.le_of_lt q15)) (by decide) (by decide) e75 (by rw [hml]; rfl) (lenOf own_pd1 rfl) (argsL := [(.long y25_72), (.long y15_4)]) (rest := []) rfl rfl (Nat.le_of_eq rfl) (hb hby at_234) (by decide) (by decide) ?_
          intro T76 h76 v76 L76 X76 e76 q76
          obtain ⟨r_76, rfl, M76, rfl, r76_0⟩ := q76
          have N76 := Fr.app N75 M76
          show G (T76.setTop (mkF m 237 #[.val (.long i0), .second, .val (.long i1), .second, .val (.long i2), .second, .val (.long i3), .second, .val (.int i4), .val (.long y9_1), .second, .val (.long y11_2), .second, .val (.long y13_3), .second, .val (.long y15_4), .second, .val (.long r_43), .second, .val (.long y19_44), .second, .val (.long y21_45), .second, .val (.long y23_64), .second, .val (.long y25_72), .second, .val (.int (1 : Int32)), .unset] [(.long r_76)]))
          refine hG _ _ (fun t k => XS.lload X76.here hx rfl (hb hby at_237) rfl k) ?_
          show G (T76.setTop (mkF m 239 #[.val (.long i0), .second, .val (.long i1), .second, .val (.long i2), .second, .val (.long i3), .second, .val (.int i4), .val (.long y9_1), .second, .val (.long y11_2), .second, .val (.long y13_3), .second, .val (.long y15_4), .second, .val (.long r_43), .second, .val (.long y19_44), .second, .val (.long y21_45), .second, .val (.long y23_64), .second, .val (.long y25_72), .second, .val (.int (1 : Int32)), .unset] [(.long y25_72), (.long r_76)]))
          refine hG _ _ (fun t k => XS.lload X76.here hx rfl (hb hby at_239) rfl k) ?_
          show G (T76.setTop (mkF m 241 #[.val (.long i0), .second, .val (.long i1), .second, .val (.long i2), .second, .val (.long i3), .second, .val (.int i4), .val (.long y9_1), .second, .val (.long y11_2), .second, .val (.long y13_3), .second, .val (.long y15_4), .second, .val (.long r_43), .second, .val (.long y19_44), .second, .val (.long y21_45), .second, .val (.long y23_64), .second, .val (.long y25_72), .second, .val (.int (1 : Int32)), .unset] [(.long y15_4), (.long y25_72), (.long r_76)]))
          refine hG _ _ (fun t k => XS.lmul X76.here hx rfl (hb hby at_241) rfl k) ?_
          show G (T76.setTop (mkF m 242 #[.val (.long i0), .second, .val (.long i1), .second, .val (.long i2), .second, .val (.long i3), .second, .val (.int i4), .val (.long y9_1), .second, .val (.long y11_2), .second, .val (.long y13_3), .second, .val (.long y15_4), .second, .val (.long r_43), .second, .val (.long y19_44), .second, .val (.long y21_45), .second, .val (.long y23_64), .second, .val (.long y25_72), .second, .val (.int (1 : Int32)), .unset] [(.long (y25_72 * y15_4)), (.long r_76)]))
          refine hG _ _ (fun t k => XS.lload X76.here hx rfl (hb hby at_242) rfl k) ?_
          show G (T76.setTop (mkF m 244 #[.val (.long i0), .second, .val (.long i1), .second, .val (.long i2), .second, .val (.long i3), .second, .val (.int i4), .val (.long y9_1), .second, .val (.long y11_2), .second, .val (.long y13_3), .second, .val (.long y15_4), .second, .val (.long r_43), .second, .val (.long y19_44), .second, .val (.long y21_45), .second, .val (.long y23_64), .second, .val (.long y25_72), .second, .val (.int (1 : Int32)), .unset] [(.long y23_64), (.long (y25_72 * y15_4)), (.long r_76)]))
          refine hG _ _ (fun t k => XS.lload X76.here hx rfl (hb hby at_244) rfl k) ?_
          show G (T76.setTop (mkF m 246 #[.val (.long i0), .second, .val (.long i1), .second, .val (.long i2), .second, .val (.long i3), .second, .val (.int i4), .val (.long y9_1), .second, .val (.long y11_2), .second, .val (.long y13_3), .second, .val (.long y15_4), .second, .val (.long r_43), .second, .val (.long y19_44), .second, .val (.long y21_45), .second, .val (.long y23_64), .second, .val (.long y25_72), .second, .val (.int (1 : Int32)), .unset] [(.long y21_45), (.long y23_64), (.long (y25_72 * y15_4)), (.long r_76)]))
          have hM77 := own_wide0 hP25 (Int.le_of_lt q15) r76_0 (rfl : (y25_72 * y15_4) = _)
          have hp77 : r_76.toInt * 18446744073709551616 + own_U (y25_72 * y15_4) < y23_64.toInt * 18446744073709551616 + own_U y21_45 := by rw [← hM77, ← hX65]; exact (by rw [hE25]; exact hC4.2)
          refine own_callS X76 hx hZ hG hown (hw _ (List.mem_of_getElem? (i := 34) rfl)) (hw _ (List.mem_of_getElem? (i := 35) rfl)) (hw _ (List.mem_of_getElem? (i := 27) rfl)) (hw _ (List.mem_of_getElem? (i := 36) rfl)) (by decide) 0 (own_lt2 l Z a0 hw r_76 (y25_72 * y15_4) y23_64 y21_45 h0 O0 hp77) (by decide) (by decide) e76 (by rw [hml]; rfl) (lenOf own_pd5 rfl) (argsL := [(.long r_76), (.long (y25_72 * y15_4)), (.long y23_64), (.long y21_45)]) (rest := []) rfl rfl (Nat.le_of_eq rfl) (hb hby at_246) (by decide) (by decide) ?_
          intro T78 h78 v78 L78 X78 e78 q78
          obtain ⟨rfl, M78, rfl⟩ := q78
          have N78 := Fr.app N76 M78
          show G (T78.setTop (mkF m 249 #[.val (.long i0), .second, .val (.long i1), .second, .val (.long i2), .second, .val (.long i3), .second, .val (.int i4), .val (.long y9_1), .second, .val (.long y11_2), .second, .val (.long y13_3), .second, .val (.long y15_4), .second, .val (.long r_43), .second, .val (.long y19_44), .second, .val (.long y21_45), .second, .val (.long y23_64), .second, .val (.long y25_72), .second, .val (.int (1 : Int32)), .unset] [(.int (1 : Int32))]))
          refine hG _ _ (fun t k => XS.istore X78.here hx rfl (hb hby at_249) rfl (l' := #[.val (.long i0), .second, .val (.long i1), .second, .val (.long i2), .second, .val (.long i3), .second, .val (.int i4), .val (.long y9_1), .second, .val (.long y11_2), .second, .val (.long y13_3), .second, .val (.long y15_4), .second, .val (.long r_43), .second, .val (.long y19_44), .second, .val (.long y21_45), .second, .val (.long y23_64), .second, .val (.long y25_72), .second, .val (.int (1 : Int32)), .val (.int (1 : Int32))]) rfl k) ?_
          show G (T78.setTop (mkF m 251 #[.val (.long i0), .second, .val (.long i1), .second, .val (.long i2), .second, .val (.long i3), .second, .val (.int i4), .val (.long y9_1), .second, .val (.long y11_2), .second, .val (.long y13_3), .second, .val (.long y15_4), .second, .val (.long r_43), .second, .val (.long y19_44), .second, .val (.long y21_45), .second, .val (.long y23_64), .second, .val (.long y25_72), .second, .val (.int (1 : Int32)), .val (.int (1 : Int32))] []))
          refine hG _ _ (fun t k => XS.iload X78.here hx rfl (hb hby at_251) rfl k) ?_
          show G (T78.setTop (mkF m 253 #[.val (.long i0), .second, .val (.long i1), .second, .val (.long i2), .second, .val (.long i3), .second, .val (.int i4), .val (.long y9_1), .second, .val (.long y11_2), .second, .val (.long y13_3), .second, .val (.long y15_4), .second, .val (.long r_43), .second, .val (.long y19_44), .second, .val (.long y21_45), .second, .val (.long y23_64), .second, .val (.long y25_72), .second, .val (.int (1 : Int32)), .val (.int (1 : Int32))] [(.int (1 : Int32))]))
          refine hG _ _ (fun t k => XS.ifNo X78.here hx rfl (hb hby at_253) rfl ((if0 _ _).trans (feq (by decide)).1) k) ?_
          show G (T78.setTop (mkF m 256 #[.val (.long i0), .second, .val (.long i1), .second, .val (.long i2), .second, .val (.long i3), .second, .val (.int i4), .val (.long y9_1), .second, .val (.long y11_2), .second, .val (.long y13_3), .second, .val (.long y15_4), .second, .val (.long r_43), .second, .val (.long y19_44), .second, .val (.long y21_45), .second, .val (.long y23_64), .second, .val (.long y25_72), .second, .val (.int (1 : Int32)), .val (.int (1 : Int32))] []))
          refine hG _ _ (fun t k => XS.iload X78.here hx rfl (hb hby at_256) rfl k) ?_
          show G (T78.setTop (mkF m 258 #[.val (.long i0), .second, .val (.long i1), .second, .val (.long i2), .second, .val (.long i3), .second, .val (.int i4), .val (.long y9_1), .second, .val (.long y11_2), .second, .val (.long y13_3), .second, .val (.long y15_4), .second, .val (.long r_43), .second, .val (.long y19_44), .second, .val (.long y21_45), .second, .val (.long y23_64), .second, .val (.long y25_72), .second, .val (.int (1 : Int32)), .val (.int (1 : Int32))] [(.int (1 : Int32))]))
          refine hG _ _ (fun t k => XS.ifNo X78.here hx rfl (hb hby at_258) rfl ((if0 _ _).trans (feq (by decide)).1) k) ?_
          show G (T78.setTop (mkF m 261 #[.val (.long i0), .second, .val (.long i1), .second, .val (.long i2), .second, .val (.long i3), .second, .val (.int i4), .val (.long y9_1), .second, .val (.long y11_2), .second, .val (.long y13_3), .second, .val (.long y15_4), .second, .val (.long r_43), .second, .val (.long y19_44), .second, .val (.long y21_45), .second, .val (.long y23_64), .second, .val (.long y25_72), .second, .val (.int (1 : Int32)), .val (.int (1 : Int32))] []))
          refine hG _ _ (fun t k => XS.iconst X78.here hx rfl (hb hby at_261) k) ?_
          show G (T78.setTop (mkF m 262 #[.val (.long i0), .second, .val (.long i1), .second, .val (.long i2), .second, .val (.long i3), .second, .val (.int i4), .val (.long y9_1), .second, .val (.long y11_2), .second, .val (.long y13_3), .second, .val (.long y15_4), .second, .val (.long r_43), .second, .val (.long y19_44), .second, .val (.long y21_45), .second, .val (.long y23_64), .second, .val (.long y25_72), .second, .val (.int (1 : Int32)), .val (.int (1 : Int32))] [(.int (1 : Int32))]))
          refine hG _ _ (fun t k => XS.goto X78.here hx rfl (pc0 := 262) (pc' := 266) rfl (hb hby at_262) (by decide) (by decide) k) ?_
          show G (T78.setTop (mkF m 266 #[.val (.long i0), .second, .val (.long i1), .second, .val (.long i2), .second, .val (.long i3), .second, .val (.int i4), .val (.long y9_1), .second, .val (.long y11_2), .second, .val (.long y13_3), .second, .val (.long y15_4), .second, .val (.long r_43), .second, .val (.long y19_44), .second, .val (.long y21_45), .second, .val (.long y23_64), .second, .val (.long y25_72), .second, .val (.int (1 : Int32)), .val (.int (1 : Int32))] [(.int (1 : Int32))]))
          exact own_retN hR hret (by simp) X78 hx (hb hby at_266) (by decide) (by decide) (by rw [e78]; exact ⟨rfl, N78, (Keep.refl h0 [])⟩)
set_option maxRecDepth 65536 in
set_option maxHeartbeats 40000000 in
theorem own_comes {Post : Tables → Env → Array Value → State → Outcome → State → Prop} (hpost : ∀ tb e args s v u, (limb_1_1.after args s (.returned v) u = true ∧ limb_1_2.after args s (.returned v) u = true ∧ True) → FrameEnd s (.returned v) u (Jvm.fieldLocs frame_1_writes args s ++ Jvm.arrayLocs frame_1_arrays args s ++ Jvm.staticLocs frame_1_statics s) 0 0 → Post tb e args s (.returned v) u) :
    ArmFor flags0 classFile x code maxLocals ret World_1 tables_1 room_1 Calls_1 rest_1 Pre_1 Post := by
  intro l hfl _ _ p e ha hc hk s m args below hf hA hF happ hP
  obtain ⟨hcalls, hrest, hpre⟩ := hP
  obtain ⟨-, -, -, hnamed, -, -, -, hat⟩ := (Spec.applies_iff hf).mp happ
  obtain ⟨hg, hn⟩ := and_e (Cond.before_iff.mp (show (Jvm.Cond.and given_1 narrow_1).before args s = true from hpre))
  obtain ⟨hcnt, hg⟩ := and_e hg
  obtain ⟨g0, hg⟩ := and_e hg
  obtain ⟨g1, hg⟩ := and_e hg
  obtain ⟨g2, hg⟩ := and_e hg
  obtain ⟨g3, hg⟩ := and_e hg
  have g4 := hg
  obtain ⟨w0, w1, w2, w3, w4, rfl⟩ : ∃ w0 w1 w2 w3 w4 : Value, args = #[w0, w1, w2, w3, w4] := by
    have hs : args.size = 5 := by simpa [Cond.value, given_1] using hcnt
    obtain ⟨L⟩ := args
    match L, hs with
    | [w0, w1, w2, w3, w4], _ => exact ⟨w0, w1, w2, w3, w4, rfl⟩
  have hw := fun d (hd : d ∈ tables_1) => atoms_spec (ws := Jvm.Cond.code x code maxLocals ret :: tables_1) hat d (List.mem_cons_of_mem _ hd)
  have hfit : Fit s := fun {y c} hc i hi => by
    obtain ⟨ha, rfl⟩ := Array.getElem?_eq_some_iff.mp hc
    have q := List.all_eq_true.mp ((Array.all_eq_true_iff_forall_mem.mp hF) _ (Array.getElem_mem ha)) i (List.mem_range.mpr hi)
    simpa [Array.getElem?_eq_getElem hi] using q
  obtain ⟨i0, ei0⟩ := isL_v g0
  obtain rfl : w0 = (.long i0) := Option.some.inj ei0
  obtain ⟨i1, ei1⟩ := isL_v g1
  obtain rfl : w1 = (.long i1) := Option.some.inj ei1
  obtain ⟨i2, ei2⟩ := isL_v g2
  obtain rfl : w2 = (.long i2) := Option.some.inj ei2
  obtain ⟨i3, ei3⟩ := isL_v g3
  obtain rfl : w3 = (.long i3) := Option.some.inj ei3
  obtain ⟨i4, ei4⟩ := is_v g4
  obtain rfl : w4 = (.int i4) := Option.some.inj ei4
  obtain ⟨n, o, h1, h2, h3, _, L, rfl, ⟨rfl, N, K⟩, hq⟩ := own_law l s _ hw tables_1 i0 i1 i2 i3 i4 s.heap (Old.start s)  p e ha hc hk s m _ below hf ((Spec.applies_iff_loose hf).mp happ).1 ⟨rfl, State.Warmed39.refl s, rfl⟩ trivial
  refine ⟨n, _, h1, h2, h3, hpost _ _ _ _ _ _ ⟨Cond.after_iff.mpr rfl, Cond.after_iff.mpr (eq_i res_at (Term.int_eval (1)) rfl), trivial⟩ ⟨hq.1, hq.2.1, (hq.2.2.sift fun y hy => Or.inr (N y hy)).mono (by decide) (by decide)⟩⟩
theorem main_1_1 : Claimed_1_1 := own_comes fun _ _ _ _ _ _ h hF => ⟨h.1, hF⟩
theorem main_1_2 : Claimed_1_2 := own_comes fun _ _ _ _ _ _ h hF => ⟨h.2.1, hF⟩
end Jvm.Pilot.@@N@@
namespace Jvm.Pilot.@@N@@
open Jvm Jvm.ClassFile Sem Op Lib Jvm.Free Jvm.Stand Jvm.Pilot.@@N@@.Jvm.D
/-! MADE BY PROGRAM (witnessworld.py) out of the Statement's table words and the real class files: 15 classes; the members and pool entries that the words name. The judged class is class 1, her method 1. -/
namespace start1
open Jvm.ClassFile
def u (s : String) : CpInfo := .utf8 (stringToUtf16 s)
/-- a pool by its gaps: so many unusable entries, then the entry; so many at the end -/
def gap : Nat → List CpInfo → List CpInfo
  | 0, r => r
  | n + 1, r => .unusable :: gap n r
def poolList (es : List (Nat × CpInfo)) (last : Nat) : List CpInfo := es.foldr (fun e r => gap e.1 (e.2 :: r)) (gap last [])
def pool (es : List (Nat × CpInfo)) (last : Nat) : Array CpInfo := ⟨poolList es last⟩
def fileOf (pool : Array CpInfo) (this : Nat) (attrs : Array Attribute := #[]) (ms : Array MethodInfo := #[]) (fl : Nat := 33) (sup : Nat := 0) (ifs : Array Nat := #[]) (fds : Array FieldInfo := #[]) : ClassFile where
  minorVersion := 0
  majorVersion := 65
  constantPool := pool
  accessFlags := fl
  thisClass := this
  superClass := sup
  interfaces := ifs
  fields := fds
  methods := ms
  attributes := attrs
def plain (name : String) (sup : Option ClassId) : Class where
  name := name
  kind := .ordinary
  loader := none
  accessFlags := 33
  super := sup
  interfaces := #[]
  cf := none
  fields := #[]
  methods := #[]
  instanceTypes := #[]
  staticTypes := #[]
  resolved := #[]
  callSites := []
  init := .initialized
  statics := none
  mirror := none

def pool0 : Array CpInfo := pool [(5, u "<init>"), (0, u "()V"), (1, .class_ 10), (1, u "java/lang/Object")] 113

def k0m0 : Method := { name := "<init>", desc := "()V", sig := { parameters := [], returnType := none }, accessFlags := 1, code := none }
/-- java/lang/Object -/
def k0 : Class := { plain "java/lang/Object" none with
  accessFlags := 33
  interfaces := #[]
  cf := some (fileOf pool0 8 #[] #[{ accessFlags := 1, nameIndex := 5, descriptorIndex := 6, attributes := #[] }] 33 0 #[] #[])
  fields := #[]
  methods := #[k0m0]
  instanceTypes := #[]
  staticTypes := #[]
  resolved := Array.replicate 124 none
  statics := none }

def pool1 : Array CpInfo := pool [(2, .class_ 4), (1, u "java/lang/Object"), (0, u "<init>"), (0, u "()V"), (2, .long 9223372036854775807), (1, .methodref 12 13), (0, .class_ 14), (0, .nameAndType 15 16), (0, u "com/example/danaid/danaid/MulDiv"), (0, u "ceil"), (0, u "(JJJJ)J"), (0, .methodref 18 19), (0, .class_ 20), (0, .nameAndType 21 22), (0, u "com/example/danaid/danaid/MulDivCeilPinLaw"), (0, u "mulHigh"), (0, u "(JJ)J"), (0, .methodref 18 24), (0, .nameAndType 25 26), (0, u "ult"), (0, u "(JJ)Z"), (0, .long 9223372036854775806), (1, .methodref 18 30), (0, .nameAndType 31 32), (0, u "lt"), (0, u "(JJJJ)Z"), (0, .long 9223372036854775808), (1, .long 4294967295), (3, u "law"), (0, u "(JJJJI)Z")] 3

def k1m0 : Method := { name := "<init>", desc := "()V", sig := { parameters := [], returnType := none }, accessFlags := 2, code := none }
def k1c1 : Code := { maxStack := 8, maxLocals := 29, code := code, exceptionTable := #[], attributes := #[] }
def k1m1 : Method := { name := "law", desc := "(JJJJI)Z", sig := { parameters := [.long, .long, .long, .long, .int], returnType := some .boolean }, accessFlags := 9, code := some k1c1 }
def k1c2 : Code := { maxStack := 6, maxLocals := 4, code := method_3_code, exceptionTable := #[], attributes := #[] }
def k1m2 : Method := { name := "ult", desc := "(JJ)Z", sig := { parameters := [.long, .long], returnType := some .boolean }, accessFlags := 10, code := some k1c2 }
def k1c3 : Code := { maxStack := 4, maxLocals := 8, code := method_4_code, exceptionTable := #[], attributes := #[] }
def k1m3 : Method := { name := "lt", desc := "(JJJJ)Z", sig := { parameters := [.long, .long, .long, .long], returnType := some .boolean }, accessFlags := 10, code := some k1c3 }
def k1c4 : Code := { maxStack := 6, maxLocals := 22, code := method_5_code, exceptionTable := #[], attributes := #[] }
def k1m4 : Method := { name := "mulHigh", desc := "(JJ)J", sig := { parameters := [.long, .long], returnType := some .long }, accessFlags := 10, code := some k1c4 }
/-- com/example/danaid/danaid/MulDivCeilPinLaw -/
def k1 : Class := { plain "com/example/danaid/danaid/MulDivCeilPinLaw" (some 0) with
  accessFlags := 49
  interfaces := #[]
  cf := some (fileOf pool1 18 #[] #[{ accessFlags := 2, nameIndex := 5, descriptorIndex := 6, attributes := #[] }, { accessFlags := 9, nameIndex := 39, descriptorIndex := 40, attributes := #[] }, { accessFlags := 10, nameIndex := 25, descriptorIndex := 26, attributes := #[] }, { accessFlags := 10, nameIndex := 31, descriptorIndex := 32, attributes := #[] }, { accessFlags := 10, nameIndex := 21, descriptorIndex := 22, attributes := #[] }] 49 2 #[] #[])
  fields := #[]
  methods := #[k1m0, k1m1, k1m2, k1m3, k1m4]
  instanceTypes := #[]
  staticTypes := #[]
  resolved := Array.replicate 44 none
  statics := none }

def pool2 : Array CpInfo := pool [(2, .class_ 4), (1, u "java/lang/Object"), (0, u "<init>"), (0, u "()V"), (0, .methodref 8 9), (0, .class_ 10), (0, .nameAndType 11 12), (0, u "java/lang/Math"), (0, u "multiplyHigh"), (0, u "(JJ)J"), (0, .methodref 14 15), (0, .class_ 16), (0, .nameAndType 17 18), (0, u "java/lang/Long"), (0, u "compareUnsigned"), (0, u "(JJ)I"), (0, .long 9223372036854775807), (1, .methodref 22 23), (0, .class_ 24), (0, .nameAndType 25 26), (0, u "com/example/danaid/danaid/MulDiv"), (0, u "divide"), (0, u "(JJJ)J"), (0, .methodref 22 28), (0, .nameAndType 29 30), (0, u "floor"), (0, u "(JJJJ)J"), (0, .methodref 22 32), (0, .nameAndType 33 34), (0, u "mod"), (0, u "(JJJJJ)J"), (3, u "ceil")] 2

def k2m0 : Method := { name := "<init>", desc := "()V", sig := { parameters := [], returnType := none }, accessFlags := 2, code := none }
def k2c1 : Code := { maxStack := 6, maxLocals := 18, code := prog_7_method_2_code, exceptionTable := #[], attributes := #[] }
def k2m1 : Method := { name := "floor", desc := "(JJJJ)J", sig := { parameters := [.long, .long, .long, .long], returnType := some .long }, accessFlags := 8, code := some k2c1 }
def k2c2 : Code := { maxStack := 10, maxLocals := 10, code := prog_7_method_3_code, exceptionTable := #[], attributes := #[] }
def k2m2 : Method := { name := "ceil", desc := "(JJJJ)J", sig := { parameters := [.long, .long, .long, .long], returnType := some .long }, accessFlags := 8, code := some k2c2 }
def k2c3 : Code := { maxStack := 6, maxLocals := 10, code := prog_7_method_5_code, exceptionTable := #[], attributes := #[] }
def k2m3 : Method := { name := "mod", desc := "(JJJJJ)J", sig := { parameters := [.long, .long, .long, .long, .long], returnType := some .long }, accessFlags := 10, code := some k2c3 }
def k2c4 : Code := { maxStack := 6, maxLocals := 11, code := prog_7_method_6_code, exceptionTable := #[], attributes := #[] }
def k2m4 : Method := { name := "divide", desc := "(JJJ)J", sig := { parameters := [.long, .long, .long], returnType := some .long }, accessFlags := 10, code := some k2c4 }
/-- com/example/danaid/danaid/MulDiv -/
def k2 : Class := { plain "com/example/danaid/danaid/MulDiv" (some 0) with
  accessFlags := 32
  interfaces := #[]
  cf := some (fileOf pool2 22 #[] #[{ accessFlags := 2, nameIndex := 5, descriptorIndex := 6, attributes := #[] }, { accessFlags := 8, nameIndex := 29, descriptorIndex := 30, attributes := #[] }, { accessFlags := 8, nameIndex := 38, descriptorIndex := 30, attributes := #[] }, { accessFlags := 10, nameIndex := 33, descriptorIndex := 34, attributes := #[] }, { accessFlags := 10, nameIndex := 25, descriptorIndex := 26, attributes := #[] }] 32 2 #[] #[])
  fields := #[]
  methods := #[k2m0, k2m1, k2m2, k2m3, k2m4]
  instanceTypes := #[]
  staticTypes := #[]
  resolved := Array.replicate 41 none
  statics := none }

def pool3 : Array CpInfo := pool [(1, .class_ 2), (0, u "java/lang/Math"), (1, .class_ 6), (1, u "java/lang/Object"), (0, u "<init>"), (0, u "()V"), (89, .class_ 100), (1, u "java/lang/Math$RandomNumberGeneratorHolder"), (20, u "(JJ)J"), (16, .long 4294967295), (3, u "multiplyHigh"), (29, u "negativeZeroFloatBits"), (0, u "J"), (2, u "negativeZeroDoubleBits"), (68, u "$assertionsDisabled"), (0, u "Z"), (91, u "twoToTheDoubleScaleDown"), (0, u "D"), (4, u "twoToTheDoubleScaleUp"), (9, u "E"), (3, u "PI"), (2, u "TAU"), (2, u "DEGREES_TO_RADIANS"), (0, u "RADIANS_TO_DEGREES")] 94

def k3m0 : Method := { name := "<init>", desc := "()V", sig := { parameters := [], returnType := none }, accessFlags := 2, code := none }
def k3c1 : Code := { maxStack := 6, maxLocals := 20, code := jdk_29_method_45_code, exceptionTable := #[], attributes := #[] }
def k3m1 : Method := { name := "multiplyHigh", desc := "(JJ)J", sig := { parameters := [.long, .long], returnType := some .long }, accessFlags := 9, code := some k3c1 }
/-- java/lang/Math -/
def k3 : Class := { plain "java/lang/Math" (some 0) with
  accessFlags := 49
  interfaces := #[]
  cf := some (fileOf pool3 1 #[.nestMembers #[98]] #[{ accessFlags := 2, nameIndex := 7, descriptorIndex := 8, attributes := #[] }, { accessFlags := 9, nameIndex := 142, descriptorIndex := 121, attributes := #[] }] 49 4 #[] #[{ accessFlags := 25, nameIndex := 354, descriptorIndex := 339, attributes := #[] }, { accessFlags := 25, nameIndex := 358, descriptorIndex := 339, attributes := #[] }, { accessFlags := 25, nameIndex := 361, descriptorIndex := 339, attributes := #[] }, { accessFlags := 26, nameIndex := 364, descriptorIndex := 339, attributes := #[] }, { accessFlags := 26, nameIndex := 365, descriptorIndex := 339, attributes := #[] }, { accessFlags := 26, nameIndex := 172, descriptorIndex := 173, attributes := #[] }, { accessFlags := 26, nameIndex := 176, descriptorIndex := 173, attributes := #[] }, { accessFlags := 8, nameIndex := 344, descriptorIndex := 339, attributes := #[] }, { accessFlags := 8, nameIndex := 338, descriptorIndex := 339, attributes := #[] }, { accessFlags := 4120, nameIndex := 245, descriptorIndex := 246, attributes := #[] }])
  fields := #[{ name := "E", type := .double, accessFlags := 25, slot := 0, constantValue := 0 }, { name := "PI", type := .double, accessFlags := 25, slot := 1, constantValue := 0 }, { name := "TAU", type := .double, accessFlags := 25, slot := 2, constantValue := 0 }, { name := "DEGREES_TO_RADIANS", type := .double, accessFlags := 26, slot := 3, constantValue := 0 }, { name := "RADIANS_TO_DEGREES", type := .double, accessFlags := 26, slot := 4, constantValue := 0 }, { name := "negativeZeroFloatBits", type := .long, accessFlags := 26, slot := 5, constantValue := 0 }, { name := "negativeZeroDoubleBits", type := .long, accessFlags := 26, slot := 6, constantValue := 0 }, { name := "twoToTheDoubleScaleUp", type := .double, accessFlags := 8, slot := 7, constantValue := 0 }, { name := "twoToTheDoubleScaleDown", type := .double, accessFlags := 8, slot := 8, constantValue := 0 }, { name := "$assertionsDisabled", type := .boolean, accessFlags := 4120, slot := 9, constantValue := 0 }]
  methods := #[k3m0, k3m1]
  instanceTypes := #[]
  staticTypes := #[.double, .double, .double, .double, .double, .long, .long, .double, .double, .boolean]
  resolved := Array.replicate 460 none
  statics := none }

def pool4 : Array CpInfo := pool [(1, .class_ 2), (0, u "java/io/Serializable"), (0, .class_ 4), (0, u "java/lang/Object")] 2

/-- java/io/Serializable -/
def k4 : Class := { plain "java/io/Serializable" (some 0) with
  accessFlags := 1537
  interfaces := #[]
  cf := some (fileOf pool4 1 #[] #[] 1537 3 #[] #[])
  fields := #[]
  methods := #[]
  instanceTypes := #[]
  staticTypes := #[]
  resolved := Array.replicate 7 none
  statics := none }

def pool5 : Array CpInfo := pool [(2, .class_ 4), (1, u "java/lang/Object"), (0, u "<init>"), (0, u "()V"), (1, .class_ 10), (1, u "java/lang/Number"), (2, .class_ 14), (0, u "java/io/Serializable"), (0, u "serialVersionUID"), (0, u "J")] 20

def k5m0 : Method := { name := "<init>", desc := "()V", sig := { parameters := [], returnType := none }, accessFlags := 1, code := none }
/-- java/lang/Number -/
def k5 : Class := { plain "java/lang/Number" (some 0) with
  accessFlags := 1057
  interfaces := #[4]
  cf := some (fileOf pool5 8 #[] #[{ accessFlags := 1, nameIndex := 5, descriptorIndex := 6, attributes := #[] }] 1057 2 #[13] #[{ accessFlags := 26, nameIndex := 15, descriptorIndex := 16, attributes := #[] }])
  fields := #[{ name := "serialVersionUID", type := .long, accessFlags := 26, slot := 0, constantValue := 0 }]
  methods := #[k5m0]
  instanceTypes := #[]
  staticTypes := #[.long]
  resolved := Array.replicate 37 none
  statics := none }

def pool6 : Array CpInfo := pool [(1, .class_ 2), (0, u "java/lang/Comparable"), (0, .class_ 4), (0, u "java/lang/Object")] 7

/-- java/lang/Comparable -/
def k6 : Class := { plain "java/lang/Comparable" (some 0) with
  accessFlags := 1537
  interfaces := #[]
  cf := some (fileOf pool6 1 #[] #[] 1537 3 #[] #[])
  fields := #[]
  methods := #[]
  instanceTypes := #[]
  staticTypes := #[]
  resolved := Array.replicate 12 none
  statics := none }

def pool7 : Array CpInfo := pool [(1, .class_ 2), (0, u "java/lang/constant/Constable"), (0, .class_ 4), (0, u "java/lang/Object")] 6

/-- java/lang/constant/Constable -/
def k7 : Class := { plain "java/lang/constant/Constable" (some 0) with
  accessFlags := 1537
  interfaces := #[]
  cf := some (fileOf pool7 1 #[] #[] 1537 3 #[] #[])
  fields := #[]
  methods := #[]
  instanceTypes := #[]
  staticTypes := #[]
  resolved := Array.replicate 11 none
  statics := none }

def pool8 : Array CpInfo := pool [(1, .class_ 2), (0, u "java/lang/constant/ConstantDesc"), (0, .class_ 4), (0, u "java/lang/Object")] 32

/-- java/lang/constant/ConstantDesc -/
def k8 : Class := { plain "java/lang/constant/ConstantDesc" (some 0) with
  accessFlags := 1537
  interfaces := #[]
  cf := some (fileOf pool8 1 #[] #[] 1537 3 #[] #[])
  fields := #[]
  methods := #[]
  instanceTypes := #[]
  staticTypes := #[]
  resolved := Array.replicate 37 none
  statics := none }

def pool9 : Array CpInfo := pool [(1, .class_ 2), (0, u "java/lang/Long"), (165, .long 9223372036854775808), (66, .class_ 237), (1, u "java/lang/Long$LongCache"), (33, .class_ 272), (0, u "java/lang/Number"), (2, u "value"), (0, u "J"), (25, .methodref 1 303), (0, .nameAndType 304 305), (0, u "compare"), (0, u "(JJ)I"), (55, u "TYPE"), (0, u "Ljava/lang/Class;"), (0, .class_ 364), (0, u "java/lang/Comparable"), (0, .class_ 366), (0, u "java/lang/constant/Constable"), (0, .class_ 368), (0, u "java/lang/constant/ConstantDesc"), (0, u "MIN_VALUE"), (1, u "MAX_VALUE"), (4, u "SIZE"), (0, u "I"), (1, u "BYTES"), (1, u "serialVersionUID"), (87, u "compareUnsigned")] 54

def k9c0 : Code := { maxStack := 4, maxLocals := 4, code := jdk_35_method_42_code, exceptionTable := #[], attributes := #[] }
def k9m0 : Method := { name := "compare", desc := "(JJ)I", sig := { parameters := [.long, .long], returnType := some .int }, accessFlags := 9, code := some k9c0 }
def k9c1 : Code := { maxStack := 6, maxLocals := 4, code := jdk_35_method_43_code, exceptionTable := #[], attributes := #[] }
def k9m1 : Method := { name := "compareUnsigned", desc := "(JJ)I", sig := { parameters := [.long, .long], returnType := some .int }, accessFlags := 9, code := some k9c1 }
/-- java/lang/Long -/
def k9 : Class := { plain "java/lang/Long" (some 5) with
  accessFlags := 49
  interfaces := #[6, 7, 8]
  cf := some (fileOf pool9 1 #[.nestMembers #[235]] #[{ accessFlags := 9, nameIndex := 304, descriptorIndex := 305, attributes := #[] }, { accessFlags := 9, nameIndex := 469, descriptorIndex := 305, attributes := #[] }] 49 271 #[363, 365, 367] #[{ accessFlags := 25, nameIndex := 369, descriptorIndex := 276, attributes := #[] }, { accessFlags := 25, nameIndex := 371, descriptorIndex := 276, attributes := #[] }, { accessFlags := 25, nameIndex := 361, descriptorIndex := 362, attributes := #[] }, { accessFlags := 18, nameIndex := 275, descriptorIndex := 276, attributes := #[] }, { accessFlags := 25, nameIndex := 376, descriptorIndex := 377, attributes := #[] }, { accessFlags := 25, nameIndex := 379, descriptorIndex := 377, attributes := #[] }, { accessFlags := 26, nameIndex := 381, descriptorIndex := 276, attributes := #[] }])
  fields := #[{ name := "MIN_VALUE", type := .long, accessFlags := 25, slot := 0, constantValue := 0 }, { name := "MAX_VALUE", type := .long, accessFlags := 25, slot := 1, constantValue := 0 }, { name := "TYPE", type := (.object "java/lang/Class"), accessFlags := 25, slot := 2, constantValue := 0 }, { name := "value", type := .long, accessFlags := 18, slot := 0, constantValue := 0 }, { name := "SIZE", type := .int, accessFlags := 25, slot := 3, constantValue := 0 }, { name := "BYTES", type := .int, accessFlags := 25, slot := 4, constantValue := 0 }, { name := "serialVersionUID", type := .long, accessFlags := 26, slot := 5, constantValue := 0 }]
  methods := #[k9m0, k9m1]
  instanceTypes := #[.long]
  staticTypes := #[.long, .long, (.object "java/lang/Class"), .int, .int, .long]
  resolved := Array.replicate 524 none
  statics := none }

def pool10 : Array CpInfo := pool [(1, u "java/lang/Cloneable"), (0, .class_ 1), (0, u "java/lang/Object"), (0, .class_ 3)] 3

/-- java/lang/Cloneable -/
def k10 : Class := { plain "java/lang/Cloneable" (some 0) with
  accessFlags := 1537
  interfaces := #[]
  cf := some (fileOf pool10 2 #[] #[] 1537 4 #[] #[])
  fields := #[]
  methods := #[]
  instanceTypes := #[]
  staticTypes := #[]
  resolved := Array.replicate 8 none
  statics := none }

/-- the primitive byte -/
def k11 : Class := { plain "byte" none with kind := .primitive 'B', accessFlags := 0x411 }
/-- [B -/
def k12 : Class := { plain "[B" (some 0) with kind := .array 11 .byte, interfaces := #[10, 4], accessFlags := 1041 }

/-- the primitive int -/
def k13 : Class := { plain "int" none with kind := .primitive 'I', accessFlags := 0x411 }
/-- [I -/
def k14 : Class := { plain "[I" (some 0) with kind := .array 13 .int, interfaces := #[10, 4], accessFlags := 1041 }

def heap : Heap := #[]
def classes : Array Class := #[k0, k1, k2, k3, k4, k5, k6, k7, k8, k9, k10, k11, k12, k13, k14]
def interned : List (Array UInt16 × Addr) := []
def slotsUsed : Nat := 0
def theMethod : MethodId := ⟨1, 1⟩
def args0 : Array Value := #[.long 5, .long 6, .long 7, .long 8, .int 3]
def aboutOver (below : List Frame) : State where
  vm := { classes := classes, interned := interned.toArray }
  heap := heap
  slotsUsed := slotsUsed
  threads := #[{ frames := .invoking theMethod args0 :: below }]
def below0 : List Frame := [.native { method := ⟨0, 0⟩, args := #[] }]
def about1 : State := aboutOver below0
def p0 : Program := .bare "" "" ""
def e0 : Env := launch0.env 0 0 0
theorem w_frames : about1.frames = Frame.invoking theMethod args0 :: below0 := rfl
set_option maxRecDepth 65536 in
theorem w_args : argsFit about1.vm theMethod args0 = true := by decide +kernel
set_option maxRecDepth 65536 in
theorem w_heap : heapFits about1 = true := by decide +kernel
set_option maxRecDepth 65536 in
theorem w_runnable : about1.curStatus? = some .runnable := by decide +kernel
set_option maxRecDepth 65536 in
theorem w_alone : about1.alone = true := by decide +kernel
set_option maxRecDepth 65536 in
theorem w_named : about1.methodNamed? x = some theMethod := by decide +kernel
set_option maxRecDepth 65536 in
theorem w_hears : about1.hears theMethod below0 = true := by decide +kernel
set_option maxRecDepth 65536 in
theorem w_ripe : about1.ripe theMethod args0 below0 = true := by decide +kernel
theorem w_running : about1.status = .running := rfl
set_option maxRecDepth 65536 in
theorem w_room : about1.hasRoom e0.platform room_1 = true :=
  launch0.hasRoom_least _ room_1 (by decide +kernel) (by decide +kernel) (by decide +kernel) (by decide +kernel) (by decide +kernel) (by decide +kernel)
theorem allAtoms_all (ts : List Jvm.Cond) (a : Array Jvm.Value) (st : Jvm.State) : (allAtoms ts).before a st = ts.all (fun c => c.before a st) := by
  induction ts with
  | nil => rfl
  | cons c t ih =>
    show (Jvm.Cond.and c (allAtoms t)).before a st = _
    rw [Jvm.Cond.before_and, ih, List.all_cons]
def words1 : List Jvm.Cond := Jvm.Cond.code x code maxLocals ret :: tables_1
/-- a 'code' word, met by the world's own term for the bytes: nothing is compared byte by byte -/
theorem code_word {y : MethodName} {bytes : ByteArray} {mx : Nat} {rt : Option FieldType} {a : Array Value} {s : State} {m : MethodId} {meth : Method} {c : Code} (h1 : s.methodNamed? y = some m) (h2 : s.vm.method? m = some meth) (h3 : meth.code = some c) (h4 : c.code = bytes)
    (h5 : (c.maxLocals == mx && c.exceptionTable.isEmpty && decide (c.maxStack ≤ mostOperands) && decide (meth.sig.returnType = rt) && !meth.locks && decide (parseMethodDescriptor y.desc = some meth.sig)) = true) : (Jvm.Cond.code y bytes mx rt).before a s = true := by
  simp only [Bool.and_eq_true, beq_iff_eq, Bool.not_eq_true', decide_eq_true_eq] at h5
  obtain ⟨⟨⟨⟨⟨g1, g2⟩, g3⟩, g4⟩, g5⟩, g6⟩ := h5
  simp [Cond.before, Cond.holds, Cond.value, h1, h2, h3, h4, g1, g2, g3, g4, g5, g6]
def isCode : Jvm.Cond → Bool
  | .code _ _ _ _ => true
  | _ => false
theorem all_split {L : List Jvm.Cond} {P : Jvm.Cond → Bool} (h1 : L.all (fun c => isCode c || P c) = true) (h2 : ∀ c ∈ L.filter isCode, P c = true) : L.all P = true := by
  refine List.all_eq_true.mpr fun c hc => ?_
  have h := List.all_eq_true.mp h1 c hc
  rcases Bool.eq_false_or_eq_true (isCode c) with hi | hi
  · exact h2 c (List.mem_filter.mpr ⟨hc, hi⟩)
  · simpa [hi] using h
set_option maxRecDepth 65536 in
theorem w_c0 : (Jvm.Cond.code x code maxLocals ret).before args0 about1 = true := code_word (m := ⟨1, 1⟩) (meth := k1m1) (c := k1c1) (by decide +kernel) rfl rfl rfl (by decide +kernel)
set_option maxRecDepth 65536 in
theorem w_c1 : (Jvm.Cond.code ({ cls := "com/example/danaid/danaid/MulDiv", name := "ceil", desc := "(JJJJ)J" } : Jvm.MethodName) prog_7_method_3_code (10 : Nat) (Option.some Jvm.ClassFile.FieldType.long)).before args0 about1 = true := code_word (m := ⟨2, 2⟩) (meth := k2m2) (c := k2c2) (by decide +kernel) rfl rfl rfl (by decide +kernel)
set_option maxRecDepth 65536 in
theorem w_c2 : (Jvm.Cond.code ({ cls := "com/example/danaid/danaid/MulDiv", name := "floor", desc := "(JJJJ)J" } : Jvm.MethodName) prog_7_method_2_code (18 : Nat) (Option.some Jvm.ClassFile.FieldType.long)).before args0 about1 = true := code_word (m := ⟨2, 1⟩) (meth := k2m1) (c := k2c1) (by decide +kernel) rfl rfl rfl (by decide +kernel)
set_option maxRecDepth 65536 in
theorem w_c3 : (Jvm.Cond.code ({ cls := "java/lang/Math", name := "multiplyHigh", desc := "(JJ)J" } : Jvm.MethodName) jdk_29_method_45_code (20 : Nat) (Option.some Jvm.ClassFile.FieldType.long)).before args0 about1 = true := code_word (m := ⟨3, 1⟩) (meth := k3m1) (c := k3c1) (by decide +kernel) rfl rfl rfl (by decide +kernel)
set_option maxRecDepth 65536 in
theorem w_c4 : (Jvm.Cond.code ({ cls := "java/lang/Long", name := "compareUnsigned", desc := "(JJ)I" } : Jvm.MethodName) jdk_35_method_43_code (4 : Nat) (Option.some Jvm.ClassFile.FieldType.int)).before args0 about1 = true := code_word (m := ⟨9, 1⟩) (meth := k9m1) (c := k9c1) (by decide +kernel) rfl rfl rfl (by decide +kernel)
set_option maxRecDepth 65536 in
theorem w_c5 : (Jvm.Cond.code ({ cls := "java/lang/Long", name := "compare", desc := "(JJ)I" } : Jvm.MethodName) jdk_35_method_42_code (4 : Nat) (Option.some Jvm.ClassFile.FieldType.int)).before args0 about1 = true := code_word (m := ⟨9, 0⟩) (meth := k9m0) (c := k9c0) (by decide +kernel) rfl rfl rfl (by decide +kernel)
set_option maxRecDepth 65536 in
theorem w_c6 : (Jvm.Cond.code ({ cls := "com/example/danaid/danaid/MulDiv", name := "mod", desc := "(JJJJJ)J" } : Jvm.MethodName) prog_7_method_5_code (10 : Nat) (Option.some Jvm.ClassFile.FieldType.long)).before args0 about1 = true := code_word (m := ⟨2, 3⟩) (meth := k2m3) (c := k2c3) (by decide +kernel) rfl rfl rfl (by decide +kernel)
set_option maxRecDepth 65536 in
theorem w_c7 : (Jvm.Cond.code ({ cls := "com/example/danaid/danaid/MulDivCeilPinLaw", name := "mulHigh", desc := "(JJ)J" } : Jvm.MethodName) method_5_code (22 : Nat) (Option.some Jvm.ClassFile.FieldType.long)).before args0 about1 = true := code_word (m := ⟨1, 4⟩) (meth := k1m4) (c := k1c4) (by decide +kernel) rfl rfl rfl (by decide +kernel)
set_option maxRecDepth 65536 in
theorem w_c8 : (Jvm.Cond.code ({ cls := "com/example/danaid/danaid/MulDivCeilPinLaw", name := "ult", desc := "(JJ)Z" } : Jvm.MethodName) method_3_code (4 : Nat) (Option.some Jvm.ClassFile.FieldType.boolean)).before args0 about1 = true := code_word (m := ⟨1, 2⟩) (meth := k1m2) (c := k1c2) (by decide +kernel) rfl rfl rfl (by decide +kernel)
set_option maxRecDepth 65536 in
theorem w_c9 : (Jvm.Cond.code ({ cls := "com/example/danaid/danaid/MulDivCeilPinLaw", name := "lt", desc := "(JJJJ)Z" } : Jvm.MethodName) method_4_code (8 : Nat) (Option.some Jvm.ClassFile.FieldType.boolean)).before args0 about1 = true := code_word (m := ⟨1, 3⟩) (meth := k1m3) (c := k1c3) (by decide +kernel) rfl rfl rfl (by decide +kernel)
set_option maxRecDepth 65536 in
theorem w_c10 : (Jvm.Cond.code ({ cls := "com/example/danaid/danaid/MulDiv", name := "divide", desc := "(JJJ)J" } : Jvm.MethodName) prog_7_method_6_code (11 : Nat) (Option.some Jvm.ClassFile.FieldType.long)).before args0 about1 = true := code_word (m := ⟨2, 4⟩) (meth := k2m4) (c := k2c4) (by decide +kernel) rfl rfl rfl (by decide +kernel)
def codes1 : List Jvm.Cond := [Jvm.Cond.code x code maxLocals ret, Jvm.Cond.code ({ cls := "com/example/danaid/danaid/MulDiv", name := "ceil", desc := "(JJJJ)J" } : Jvm.MethodName) prog_7_method_3_code (10 : Nat) (Option.some Jvm.ClassFile.FieldType.long), Jvm.Cond.code ({ cls := "com/example/danaid/danaid/MulDiv", name := "floor", desc := "(JJJJ)J" } : Jvm.MethodName) prog_7_method_2_code (18 : Nat) (Option.some Jvm.ClassFile.FieldType.long), Jvm.Cond.code ({ cls := "java/lang/Math", name := "multiplyHigh", desc := "(JJ)J" } : Jvm.MethodName) jdk_29_method_45_code (20 : Nat) (Option.some Jvm.ClassFile.FieldType.long), Jvm.Cond.code ({ cls := "java/lang/Long", name := "compareUnsigned", desc := "(JJ)I" } : Jvm.MethodName) jdk_35_method_43_code (4 : Nat) (Option.some Jvm.ClassFile.FieldType.int), Jvm.Cond.code ({ cls := "java/lang/Long", name := "compare", desc := "(JJ)I" } : Jvm.MethodName) jdk_35_method_42_code (4 : Nat) (Option.some Jvm.ClassFile.FieldType.int), Jvm.Cond.code ({ cls := "com/example/danaid/danaid/MulDiv", name := "mod", desc := "(JJJJJ)J" } : Jvm.MethodName) prog_7_method_5_code (10 : Nat) (Option.some Jvm.ClassFile.FieldType.long), Jvm.Cond.code ({ cls := "com/example/danaid/danaid/MulDivCeilPinLaw", name := "mulHigh", desc := "(JJ)J" } : Jvm.MethodName) method_5_code (22 : Nat) (Option.some Jvm.ClassFile.FieldType.long), Jvm.Cond.code ({ cls := "com/example/danaid/danaid/MulDivCeilPinLaw", name := "ult", desc := "(JJ)Z" } : Jvm.MethodName) method_3_code (4 : Nat) (Option.some Jvm.ClassFile.FieldType.boolean), Jvm.Cond.code ({ cls := "com/example/danaid/danaid/MulDivCeilPinLaw", name := "lt", desc := "(JJJJ)Z" } : Jvm.MethodName) method_4_code (8 : Nat) (Option.some Jvm.ClassFile.FieldType.boolean), Jvm.Cond.code ({ cls := "com/example/danaid/danaid/MulDiv", name := "divide", desc := "(JJJ)J" } : Jvm.MethodName) prog_7_method_6_code (11 : Nat) (Option.some Jvm.ClassFile.FieldType.long)]
set_option maxRecDepth 65536 in
theorem codes_eq : words1.filter isCode = codes1 := rfl
theorem w_codes : ∀ c ∈ words1.filter isCode, c.before args0 about1 = true := by
  rw [codes_eq]
  intro c hc
  simp only [codes1, List.mem_cons, List.not_mem_nil, or_false] at hc
  rcases hc with rfl | rfl | rfl | rfl | rfl | rfl | rfl | rfl | rfl | rfl | rfl
  · exact w_c0
  · exact w_c1
  · exact w_c2
  · exact w_c3
  · exact w_c4
  · exact w_c5
  · exact w_c6
  · exact w_c7
  · exact w_c8
  · exact w_c9
  · exact w_c10
set_option maxRecDepth 65536 in
theorem w_t1 : (words1.take 24).all (fun c => isCode c || c.before args0 about1) = true := by decide +kernel
set_option maxRecDepth 65536 in
theorem w_t2 : (words1.drop 24).all (fun c => isCode c || c.before args0 about1) = true := by decide +kernel
theorem w_tables : (allAtoms (Jvm.Cond.code x code maxLocals ret :: tables_1)).before args0 about1 = true := by
  rw [allAtoms_all]
  show words1.all (fun c => c.before args0 about1) = true
  refine all_split ?_ w_codes
  rw [← List.take_append_drop 24 words1, List.all_append, w_t1, w_t2]
  rfl
set_option maxRecDepth 65536 in
theorem w_case : (Jvm.Cond.and given_1 narrow_1).before args0 about1 = true := by decide +kernel
theorem w_applies : (headSpec (Jvm.Cond.code x code maxLocals ret :: tables_1) room_1).applies x e0.platform about1 = true :=
  (Spec.applies_iff w_frames).mpr ⟨w_running, w_runnable, w_alone, w_named, w_hears, w_ripe, w_room, w_tables⟩
theorem atStart : AtStart classFile x code maxLocals ret World_1 tables_1 room_1 Calls_1 rest_1 Pre_1 launch0 p0 e0 about1 theMethod args0 below0 :=
  ⟨lists_1, trivial, launch0.admits_env _ _ _, launch0.least_env, fairChoices_fair.cas, fairChoices_fair.clock, w_frames, w_args, w_heap, w_applies, trivial, trivial, w_case⟩
end start1
theorem witness_1 : WitnessClaimed_1 := ⟨start1.p0, start1.e0, start1.about1, start1.theMethod, start1.args0, start1.below0, start1.atStart⟩
end Jvm.Pilot.@@N@@
