import JvmDerived
import JvmDerived.Pilot.@@N@@Statement
import JvmDerived.Pilot.@@N@@Code
set_option linter.unusedVariables false
set_option linter.unusedSimpArgs false
namespace Jvm.Pilot.@@N@@
open Jvm Jvm.ClassFile Sem Op Lib Jvm.Free Jvm.Stand Jvm.LawKit Jvm.RoadKit Bundle Jvm.Pilot.@@N@@.Jvm.D
section OwnKit
variable {p : Program} {l : Launch} {e : Env} {R : Room} {s : State} {m : MethodId} {args : Array Value} {below : List Frame} {meth : Method} {c : Code} {T : State} {locs : List Loc} {cells slots : Nat}
/-- the contract of a body at given arguments and a given heap -/
def own_Con (l : Launch) (Z : State) (y : MethodName) (bytes : ByteArray) (maxL : Nat) (ret : Option FieldType) (ws : List Jvm.Cond) (rm : Room) (as' : Array Value) (h0 : Heap) (Q : Option Value → Heap → List Loc → Prop) : Prop :=
  MetFree l y (head1 (Jvm.Cond.code y bytes maxL ret :: ws) rm) (fun a U => a = as' ∧ Z.Warmed39 U.vm ∧ U.heap = h0) (fun _ _ _ _ _ => True) (fun _ U o U' => ∃ v L, o = .returned v ∧ Q v U'.heap L ∧ FrameEnd U o U' L rm.cells rm.slots)
/-- G holds of a state where the walk is owed; it goes backwards over steps -/
def own_Bk (p : Program) (e : Env) (below : List Frame) (G : State → Prop) : Prop := ∀ S S', (∀ t, Steps p.tables e below S' t → Steps p.tables e below S t) → G S' → G S
/-- a walk may end where its body returns -/
def own_Rt (p : Program) (l : Launch) (e : Env) (rm : Room) (s : State) (m : MethodId) (as' : Array Value) (below : List Frame) (meth : Method) (c : Code) (ret : Option FieldType) (Q : Option Value → Heap → List Loc → Prop) (G : State → Prop) : Prop :=
  ∀ T locs cells slots v S, Stand p l e rm s m as' below meth c T locs cells slots → cells ≤ rm.cells → slots ≤ rm.slots → (ret = none → v = none) → Q v T.heap locs →
    (∀ fs, (∀ (f : JFrame) (acts : List Action), f.method = m → f.locked = none → f.entered = [] → (doReturn e (T.setTop f) acts v).1 = T.setFrames fs) → Steps p.tables e below S (T.setFrames fs)) → G S
theorem own_intro {Z : State} {y : MethodName} {bytes : ByteArray} {maxL : Nat} {ret : Option FieldType} {ws : List Jvm.Cond} {rm : Room} {as' : Array Value} {h0 : Heap} {Q : Option Value → Heap → List Loc → Prop} (hpn : plainFor y = true)
    (H : ∀ (p : Program) (e : Env) (s : State) (m : MethodId) (below : List Frame) (meth : Method) (c : Code) (s₁ : State) (G : State → Prop), p.tables.exec = Jvm.exec → c.code = bytes → c.maxLocals = maxL → s.vm.findClass y.cls = some m.cls → meth.name = y.name → meth.sig.returnType = ret → Z.Warmed39 s.vm →
      Stand p l e rm s m as' below meth c s₁ [] 0 0 → s₁.heap = h0 → own_Bk p e below G → own_Rt p l e rm s m as' below meth c ret Q G → G (s₁.setTop (entryFrame m as' maxL))) : own_Con l Z y bytes maxL ret ws rm as' h0 Q := by
  refine MetFree.of_bodySF hpn hisR ?_
  intro p e s m args below meth c s₁ Bd hml hP hK
  obtain ⟨rfl, hZ, hh⟩ := hP
  refine H p e s m below meth c s₁ (fun S => ∃ s₂ o, Steps p.tables e below S s₂ ∧ s₂.status = .running ∧ Ended s₂ below o ∧ ∃ v L, o = .returned v ∧ Q v s₂.heap L ∧ FrameEnd s o s₂ L rm.cells rm.slots) Bd.exec Bd.bytes hml (findClass_of_methodNamed Bd.named) (name_of_methodNamed Bd.named Bd.method).1 Bd.returns hZ (Stand.of_body Bd) (by rw [← hh, Bd.state]; rfl) ?_ ?_
  · rintro S S' st ⟨s₂, o, h1, h2⟩
    exact ⟨s₂, o, st _ h1, h2⟩
  · intro T locs cells slots v S X hc hs hv hQ hst
    obtain ⟨fs, hr, hrun, hended, hW, hsame⟩ := X.leave (v := v) (fun h => hv (Bd.returns ▸ h))
    exact ⟨_, _, hst fs hr, hrun, hended, v, locs, rfl, hQ, ⟨_, rfl⟩, hW, hsame.mono hc hs⟩
section Rets
variable {Q : Option Value → Heap → List Loc → Prop} {G : State → Prop} {ret : Option FieldType} {pc : Nat} {Ls : Array Slot} {rest : List Value}
theorem own_retV (hR : own_Rt p l e R s m args below meth c none Q G) (hret : meth.sig.returnType = none) (X : Stand p l e R s m args below meth c T locs cells slots) (hx : p.tables.exec = Jvm.exec) (hd : decode c.code pc = .ok (.return_, 1)) (hc : cells ≤ R.cells) (hs : slots ≤ R.slots) (hQ : Q none T.heap locs) : G (T.setTop (mkF m pc Ls [])) :=
  hR T locs cells slots none _ X hc hs (fun _ => rfl) hQ fun fs hr => X.returnOut hx hret hd hr
theorem own_retA {t : FieldType} {v : Value} (hR : own_Rt p l e R s m args below meth c (some t) Q G) (hret : meth.sig.returnType = some t) (ht : t.isReference = true) (hv : v.isRef = true) (X : Stand p l e R s m args below meth c T locs cells slots) (hx : p.tables.exec = Jvm.exec) (hd : decode c.code pc = .ok (.areturn, 1)) (hc : cells ≤ R.cells) (hs : slots ≤ R.slots) (hQ : Q (some v) T.heap locs) : G (T.setTop (mkF m pc Ls (v :: rest))) :=
  hR T locs cells slots (some v) _ X hc hs (fun h => nomatch h) hQ fun fs hr => retOut X hx hret (by cases t <;> simp_all [FieldType.isReference, narrow]) (Or.inr (Or.inr (Or.inr (Or.inr ⟨rfl, ht, hv⟩)))) hd hr
theorem own_retI {z : Int32} (hR : own_Rt p l e R s m args below meth c (some .int) Q G) (hret : meth.sig.returnType = some .int) (X : Stand p l e R s m args below meth c T locs cells slots) (hx : p.tables.exec = Jvm.exec) (hd : decode c.code pc = .ok (.ireturn, 1)) (hc : cells ≤ R.cells) (hs : slots ≤ R.slots) (hQ : Q (some (.int z)) T.heap locs) : G (T.setTop (mkF m pc Ls (.int z :: rest))) :=
  hR T locs cells slots (some (.int z)) _ X hc hs (fun h => nomatch h) hQ fun fs hr => retOut X hx hret rfl (Or.inl ⟨rfl, Or.inl rfl, z, rfl⟩) hd hr
theorem own_retL {z : Int64} (hR : own_Rt p l e R s m args below meth c (some .long) Q G) (hret : meth.sig.returnType = some .long) (X : Stand p l e R s m args below meth c T locs cells slots) (hx : p.tables.exec = Jvm.exec) (hd : decode c.code pc = .ok (.lreturn, 1)) (hc : cells ≤ R.cells) (hs : slots ≤ R.slots) (hQ : Q (some (.long z)) T.heap locs) : G (T.setTop (mkF m pc Ls (.long z :: rest))) :=
  hR T locs cells slots (some (.long z)) _ X hc hs (fun h => nomatch h) hQ fun fs hr => retOut X hx hret rfl (Or.inr (Or.inl ⟨rfl, rfl, z, rfl⟩)) hd hr
theorem own_retN {z : Int32} {t : FieldType} (hR : own_Rt p l e R s m args below meth c (some t) Q G) (hret : meth.sig.returnType = some t) (ht : t = .boolean ∨ t = .byte ∨ t = .char ∨ t = .short) (X : Stand p l e R s m args below meth c T locs cells slots) (hx : p.tables.exec = Jvm.exec) (hd : decode c.code pc = .ok (.ireturn, 1)) (hc : cells ≤ R.cells) (hs : slots ≤ R.slots) (hQ : Q (some (.int (nar t z))) T.heap locs) : G (T.setTop (mkF m pc Ls (.int z :: rest))) :=
  hR T locs cells slots (some (.int (nar t z))) _ X hc hs (fun h => nomatch h) hQ fun fs hr => retN X hx hret ht hd hr
end Rets
section Calls
variable {Z : State} {a0 : Array Value} {own : String} {index : Nat} {y z : MethodName} {bytes : ByteArray} {maxL : Nat} {ret : Option FieldType} {rm : Room} {as' : Array Value} {h : Heap} {Q : Option Value → Heap → List Loc → Prop} {G : State → Prop} {pc : Nat} {Ls : Array Slot} {stk argsL rest : List Value}
theorem own_callS (X : Stand p l e R s m args below meth c T locs cells slots) (hx : p.tables.exec = Jvm.exec) (hZ : Z.Warmed39 s.vm) (hG : own_Bk p e below G) (hown : s.vm.findClass own = some m.cls)
    (w1 : (Jvm.Cond.methodLink own index y).before a0 Z = true) (w2 : (Jvm.Cond.static y).before a0 Z = true) (w3 : (Jvm.Cond.initialized y.cls).before a0 Z = true) (w4 : (Jvm.Cond.code y bytes maxL ret).before a0 Z = true)
    (hy : y.cls ≠ "java/lang/invoke/MethodHandle" ∧ y.cls ≠ "java/lang/invoke/VarHandle") (W : Nat) (hM : own_Con l Z y bytes maxL ret [] rm as' h Q) (hf : rm.frames + 1 ≤ R.frames) (hlo : W + (maxL + 11) + rm.locals ≤ R.locals) (eT : T.heap = h)
    (hsize : Ls.size = c.maxLocals) (hlen : ∀ sig, parseMethodDescriptor y.desc = some sig → argsL.length = sig.parameters.length) (has : argsL.toArray = as') (hst : stk = argsL.reverse ++ rest) (hW : (rest.map fun v => v.category).sum ≤ W)
    (hd : decode c.code pc = .ok (.invokestatic index, 3)) (hc : cells + rm.cells ≤ R.cells) (hs : slots + rm.slots ≤ R.slots)
    (k : ∀ T' h' v L, Stand p l e R s m args below meth c T' (locs ++ L) (cells + rm.cells) (slots + rm.slots) → T'.heap = h' → Q v h' L → G (T'.setTop (mkF m (pc + 3) Ls (v.toList ++ rest)))) : G (T.setTop (mkF m pc Ls stk)) := by
  obtain ⟨v, _, ⟨T1, L1, k1, n1⟩, -, X1, ⟨L, hQ, rfl, rfl, rfl⟩, st⟩ := Jvm.LawKit.callS X hx (y := y) hown (mvT hZ w1) (mvT hZ w2) (mvT hZ w3) (mvT hZ w4) hy (backOf (W := W) hM hZ w4 w3 hf hlo) (g := mkF m pc Ls stk) rfl hsize (argsL := argsL) (rest := rest) hlen hst (by show 2 * 0 + _ ≤ _; rw [Nat.mul_zero, Nat.zero_add]; exact hW) hd (fun _ _ => ⟨has, eT, hc, hs⟩)
  exact hG _ _ st (k T1 _ v L X1 rfl hQ)
theorem own_callI (X : Stand p l e R s m args below meth c T locs cells slots) (hx : p.tables.exec = Jvm.exec) (hZ : Z.Warmed39 s.vm) (hG : own_Bk p e below G) (hown : s.vm.findClass own = some m.cls) (hy1 : y.name = "<init>")
    (w1 : (Jvm.Cond.methodLink own index y).before a0 Z = true) (w2 : (Jvm.Cond.instanceMethod y).before a0 Z = true) (w3 : (Jvm.Cond.initialized y.cls).before a0 Z = true) (w4 : (Jvm.Cond.code y bytes maxL none).before a0 Z = true)
    (hy : y.cls ≠ "java/lang/invoke/MethodHandle" ∧ y.cls ≠ "java/lang/invoke/VarHandle") (W : Nat) (hM : own_Con l Z y bytes maxL none [] rm as' h Q) (hf : rm.frames + 1 ≤ R.frames) (hlo : W + (maxL + 11) + rm.locals ≤ R.locals) (eT : T.heap = h)
    (hsize : Ls.size = c.maxLocals) (hlen : ∀ sig, parseMethodDescriptor y.desc = some sig → argsL.length = sig.parameters.length) {a : Addr} (has : (.ref a :: argsL).toArray = as') (hst : stk = argsL.reverse ++ .ref a :: rest) (hW : (rest.map fun v => v.category).sum ≤ W)
    (hd : decode c.code pc = .ok (.invokespecial index, 3)) (hc : cells + rm.cells ≤ R.cells) (hs : slots + rm.slots ≤ R.slots)
    (k : ∀ T' h' v L, Stand p l e R s m args below meth c T' (locs ++ L) (cells + rm.cells) (slots + rm.slots) → T'.heap = h' → Q v h' L → G (T'.setTop (mkF m (pc + 3) Ls (v.toList ++ rest)))) : G (T.setTop (mkF m pc Ls stk)) := by
  obtain ⟨v, _, ⟨T1, L1, k1, n1⟩, -, X1, ⟨L, hQ, rfl, rfl, rfl⟩, st⟩ := X.specialBack hx (y := y) hy1 hown (mvT hZ w1) (mvT hZ w2) (mvT hZ w4) hy (backOf (W := W) hM hZ w4 w3 hf hlo) (g := mkF m pc Ls stk) rfl hsize (Steps.refl _) (a := a) (argsL := argsL) (rest := rest) hlen hst (by show 2 * 0 + _ ≤ _; rw [Nat.mul_zero, Nat.zero_add]; exact hW) hd (fun _ _ => ⟨has, eT, hc, hs⟩)
  exact hG _ _ (fun t kk => st.trans kk) (k T1 _ v L X1 rfl hQ)
theorem own_callV {C : String} (X : Stand p l e R s m args below meth c T locs cells slots) (hx : p.tables.exec = Jvm.exec) (hZ : Z.Warmed39 s.vm) (hG : own_Bk p e below G) (hown : s.vm.findClass own = some m.cls)
    (w1 : (Jvm.Cond.methodLink own index y).before a0 Z = true) (w2 : (Jvm.Cond.declares y).before a0 Z = true) (w3 : (Jvm.Cond.selects C y y).before a0 Z = true) (w4 : (Jvm.Cond.instanceMethod y).before a0 Z = true) (w5 : (Jvm.Cond.initialized y.cls).before a0 Z = true) (w6 : (Jvm.Cond.code y bytes maxL ret).before a0 Z = true)
    (hy : y.cls ≠ "java/lang/invoke/MethodHandle" ∧ y.cls ≠ "java/lang/invoke/VarHandle") (W : Nat) (hM : own_Con l Z y bytes maxL ret [] rm as' h Q) (hf : rm.frames + 1 ≤ R.frames) (hlo : W + (maxL + 11) + rm.locals ≤ R.locals) (eT : T.heap = h) {b : Addr} (E : Exa Z h b C)
    (hsize : Ls.size = c.maxLocals) (hlen : ∀ sig, parseMethodDescriptor y.desc = some sig → argsL.length = sig.parameters.length) (has : (.ref b :: argsL).toArray = as') (hst : stk = argsL.reverse ++ .ref b :: rest) (hW : (rest.map fun v => v.category).sum ≤ W)
    (hd : decode c.code pc = .ok (.invokevirtual index, 3)) (hc : cells + rm.cells ≤ R.cells) (hs : slots + rm.slots ≤ R.slots)
    (k : ∀ T' h' v L, Stand p l e R s m args below meth c T' (locs ++ L) (cells + rm.cells) (slots + rm.slots) → T'.heap = h' → Q v h' L → G (T'.setTop (mkF m (pc + 3) Ls (v.toList ++ rest)))) : G (T.setTop (mkF m pc Ls stk)) := by
  obtain ⟨cq, kq, qa, qb, qc⟩ := isOf hZ eT E
  obtain ⟨v, _, ⟨T1, L1, k1, n1⟩, -, X1, ⟨L, hQ, rfl, rfl, rfl⟩, st⟩ := X.virtualBack hx (y := y) (z := y) hown (mvT hZ w1) (mvT hZ w2) (notFace_of_selects (args := #[]) (mvT hZ w3)) (mvT hZ w3) (mvT hZ w4) hy (backOf (W := W) hM hZ w6 w5 hf hlo) qa qc (g := mkF m pc Ls stk) rfl hsize (Steps.refl _) (argsL := argsL) (rest := rest) hlen hst (by show 2 * 0 + _ ≤ _; rw [Nat.mul_zero, Nat.zero_add]; exact hW) hd (fun _ _ => ⟨has, eT, hc, hs⟩)
  exact hG _ _ (fun t kk => st.trans kk) (k T1 _ v L X1 rfl hQ)
theorem own_callP (X : Stand p l e R s m args below meth c T locs cells slots) (hx : p.tables.exec = Jvm.exec) (hZ : Z.Warmed39 s.vm) (hG : own_Bk p e below G) (hown : s.vm.findClass own = some m.cls)
    (w1 : (Jvm.Cond.methodLink own index y).before a0 Z = true) (w2 : (Jvm.Cond.instanceMethod y).before a0 Z = true) (w3 : (Jvm.Cond.selects y.cls y y).before a0 Z = true) (wp : (Jvm.Cond.privateMethod y).before a0 Z = true) (w5 : (Jvm.Cond.initialized y.cls).before a0 Z = true) (w6 : (Jvm.Cond.code y bytes maxL ret).before a0 Z = true)
    (hy : y.cls ≠ "java/lang/invoke/MethodHandle" ∧ y.cls ≠ "java/lang/invoke/VarHandle") (W : Nat) (hM : own_Con l Z y bytes maxL ret [] rm as' h Q) (hf : rm.frames + 1 ≤ R.frames) (hlo : W + (maxL + 11) + rm.locals ≤ R.locals) (eT : T.heap = h) {b : Addr} {C : String} (E : Exa Z h b C)
    (hsize : Ls.size = c.maxLocals) (hlen : ∀ sig, parseMethodDescriptor y.desc = some sig → argsL.length = sig.parameters.length) (has : (.ref b :: argsL).toArray = as') (hst : stk = argsL.reverse ++ .ref b :: rest) (hW : (rest.map fun v => v.category).sum ≤ W)
    (hd : decode c.code pc = .ok (.invokevirtual index, 3)) (hc : cells + rm.cells ≤ R.cells) (hs : slots + rm.slots ≤ R.slots)
    (k : ∀ T' h' v L, Stand p l e R s m args below meth c T' (locs ++ L) (cells + rm.cells) (slots + rm.slots) → T'.heap = h' → Q v h' L → G (T'.setTop (mkF m (pc + 3) Ls (v.toList ++ rest)))) : G (T.setTop (mkF m pc Ls stk)) := by
  obtain ⟨cell, hc1, hc2⟩ := (Ins.self E).cell
  obtain ⟨v, _, ⟨T1, L1, k1, n1⟩, -, X1, ⟨L, hQ, rfl, rfl, rfl⟩, st⟩ := X.privateBack hx (y := y) hown (mvT hZ w1) (mvT hZ w2) (mvT hZ w3) (Cond.privateMethod_at (mvP hZ wp (args := #[]))) (mvT hZ w6) hy (backOf (W := W) hM hZ w6 w5 hf hlo) (g := mkF m pc Ls stk) rfl hsize (Steps.refl _) (a := b) (by rw [eT]; exact hc1) hc2 (argsL := argsL) (rest := rest) hlen hst (by show 2 * 0 + _ ≤ _; rw [Nat.mul_zero, Nat.zero_add]; exact hW) hd (fun _ _ => ⟨has, eT, hc, hs⟩)
  exact hG _ _ (fun t kk => st.trans kk) (k T1 _ v L X1 rfl hQ)
theorem own_callF {C : String} {count : Nat} (X : Stand p l e R s m args below meth c T locs cells slots) (hx : p.tables.exec = Jvm.exec) (hZ : Z.Warmed39 s.vm) (hG : own_Bk p e below G) (hown : s.vm.findClass own = some m.cls)
    (w1 : (Jvm.Cond.methodLink own index z).before a0 Z = true) (w2 : (Jvm.Cond.declares z).before a0 Z = true) (wf : ∀ s' : State, Z.Warmed39 s'.vm → (Jvm.Cond.interfaceMethod z.cls z.cls z.name z.desc).before args s' = true) (w3 : (Jvm.Cond.selects C z y).before a0 Z = true) (w4 : (Jvm.Cond.instanceMethod y).before a0 Z = true) (wp : (Jvm.Cond.publicMethod y).before a0 Z = true) (wu : (Jvm.Cond.unhidden C z.name z.desc).before a0 Z = true) (wc : (Jvm.Cond.castable C z.cls).before a0 Z = true) (w5 : (Jvm.Cond.initialized y.cls).before a0 Z = true) (w6 : (Jvm.Cond.code y bytes maxL ret).before a0 Z = true)
    (hy : z.cls ≠ "java/lang/invoke/MethodHandle" ∧ z.cls ≠ "java/lang/invoke/VarHandle") (W : Nat) (hM : own_Con l Z y bytes maxL ret [] rm as' h Q) (hf : rm.frames + 1 ≤ R.frames) (hlo : W + (maxL + 11) + rm.locals ≤ R.locals) (eT : T.heap = h) {b : Addr} (E : Exa Z h b C)
    (hsize : Ls.size = c.maxLocals) (hlen : ∀ sig, parseMethodDescriptor z.desc = some sig → argsL.length = sig.parameters.length) (has : (.ref b :: argsL).toArray = as') (hst : stk = argsL.reverse ++ .ref b :: rest) (hW : (rest.map fun v => v.category).sum ≤ W)
    (hd : decode c.code pc = .ok (.invokeinterface index count, 5)) (hc : cells + rm.cells ≤ R.cells) (hs : slots + rm.slots ≤ R.slots)
    (k : ∀ T' h' v L, Stand p l e R s m args below meth c T' (locs ++ L) (cells + rm.cells) (slots + rm.slots) → T'.heap = h' → Q v h' L → G (T'.setTop (mkF m (pc + 5) Ls (v.toList ++ rest)))) : G (T.setTop (mkF m pc Ls stk)) := by
  obtain ⟨cq, kq, qa, qb, qc⟩ := isOf hZ eT E
  obtain ⟨v, _, ⟨T1, L1, k1, n1⟩, -, X1, ⟨L, hQ, rfl, rfl, rfl⟩, st⟩ := X.interfaceBack hx (xi := z) (y := y) hown (mvT hZ w1) (mvT hZ w2) (wf s hZ) (mvT hZ w3) (mvT hZ w4) (mvT hZ wp) (mvT hZ wu) (mvT hZ wc) hy (backOf (W := W) hM hZ w6 w5 hf hlo) qa qb qc (g := mkF m pc Ls stk) rfl hsize (Steps.refl _) (argsL := argsL) (rest := rest) hlen hst (by show 2 * 0 + _ ≤ _; rw [Nat.mul_zero, Nat.zero_add]; exact hW) hd (fun _ _ => ⟨has, eT, hc, hs⟩)
  exact hG _ _ (fun t kk => st.trans kk) (k T1 _ v L X1 rfl hQ)
end Calls
theorem own_entry {G : State → Prop} {n : Nat} {Ls : Array Slot} (q : entryFrame m args n = mkF m 0 Ls []) (k : G (T.setTop (mkF m 0 Ls []))) : G (T.setTop (entryFrame m args n)) := q ▸ k
abbrev own_Old (Z : State) (h : Heap) : Prop := Old Z Z.heap.size h
abbrev own_Fr (Z : State) (L : List Loc) : Prop := Fr Z.heap.size L
theorem own_ge {Z : State} {h : Heap} (O : own_Old Z h) {b : Addr} (q : h.size ≤ b) : Z.heap.size ≤ b := Nat.le_trans O.2.1 q
theorem own_sta {Z : State} {h : Heap} {C n d : String} {v : Value} (S : Sta Z Z.heap C n d v) (O : own_Old Z h) : Sta Z h C n d v := S.ext O.2
theorem own_ne {h : Heap} {a b : Addr} (q : a < h.size) (r : h.size ≤ b) : a ≠ b := Nat.ne_of_lt (Nat.lt_of_lt_of_le q r)
end OwnKit
theorem own_toInt {i : Nat} (h : i < 2147483648) : (Int32.ofNat i).toInt = i := Int32.toInt_ofNat_of_lt (by omega)
theorem own_clamp {i : Nat} (h : i < 2147483648) : (Int32.ofNat i).toNatClampNeg = i := by
  show ((Int32.ofNat i).toInt).toNat = i
  rw [own_toInt h]; rfl
theorem own_inc (i : Nat) : Int32.ofNat i + 1 = Int32.ofNat (i + 1) := (Int32.ofNat_add i 1).symm
theorem own_nn {i : Nat} (h : i < 2147483648) : ¬ Int32.ofNat i < 0 := by
  rw [Int32.lt_iff_toInt_lt, own_toInt h]; simp
theorem own_lt {i n : Nat} (h : i < n) (hn : n < 2147483648) : Int32.ofNat i < Int32.ofNat n := by
  rw [Int32.lt_iff_toInt_lt, own_toInt (by omega), own_toInt hn]; omega
theorem own_nlt {i n : Nat} (h : n ≤ i) (hi : i < 2147483648) : ¬ Int32.ofNat i < Int32.ofNat n := by
  rw [Int32.lt_iff_toInt_lt, own_toInt hi, own_toInt (by omega)]; omega
theorem own_ofNat_inj {i n : Nat} (hi : i < 2147483648) (hn : n < 2147483648) (h : Int32.ofNat i = Int32.ofNat n) : i = n := by
  have := congrArg Int32.toInt h
  rw [own_toInt hi, own_toInt hn] at this; omega
theorem own_getD_set {α : Type} (vs : List α) (i j : Nat) (x d : α) (h : i < vs.length) : (vs.set i x).getD j d = if j = i then x else vs.getD j d := by
  simp only [List.getD_eq_getElem?_getD, List.getElem?_set]
  by_cases e : i = j
  · subst e; simp [h]
  · simp [e, Ne.symm e]
theorem own_getD_map {α β : Type} (f : α → β) (cs : List α) (j : Nat) (d : β) (e : α) (h : j < cs.length) : (cs.map f).getD j d = f (cs.getD j e) := by
  simp [List.getD_eq_getElem?_getD, List.getElem?_map, h]
theorem own_mapEq {α β : Type} (f : α → β) (cs : List α) (vs : List β) (d : β) (e : α) (hl : vs.length = cs.length) (h : ∀ j, j < cs.length → vs.getD j d = f (cs.getD j e)) : vs = cs.map f := by
  apply List.ext_getElem (by simpa using hl)
  intro j h1 h2
  have q := h j (by simpa using h2)
  have h3 : j < cs.length := by simpa using h2
  simp [List.getD_eq_getElem?_getD, h1, h3] at q
  simpa using q
theorem own_narR {t : FieldType} {v : Value} (ht : t.isReference = true) (hv : v.isRef = true) : narrow t v = v := by cases t <;> simp_all [FieldType.isReference, narrow]
theorem own_nb (x : Int32) : nar .byte x.toInt8.toInt32 = x.toInt8.toInt32 := by
  show x.toInt8.toInt32.toInt8.toInt32 = _
  rw [Int8.toInt8_toInt32]
theorem own_nc (x : Int32) : nar .char x.toUInt32.toUInt16.toUInt32.toInt32 = x.toUInt32.toUInt16.toUInt32.toInt32 := by
  simp only [nar, UInt32.toUInt32_toInt32, UInt16.toUInt16_toUInt32]
theorem own_getD_mem {α : Type} (cs : List α) (i : Nat) (d : α) (h : i < cs.length) : cs.getD i d ∈ cs := by
  rw [List.getD_eq_getElem?_getD, List.getElem?_eq_getElem h]; exact List.getElem_mem h
theorem own_alln {α : Type} {P : α → Prop} : ∀ c ∈ ([] : List α), P c := fun _ q => nomatch q
theorem own_allc {α : Type} {P : α → Prop} {x : α} {L : List α} (q : P x) (r : ∀ c ∈ L, P c) : ∀ c ∈ x :: L, P c := fun c z => (List.mem_cons.mp z).elim (fun u => u ▸ q) (r c)
theorem own_and255 (x : Int32) : 0 ≤ (x &&& 255).toInt ∧ (x &&& 255).toInt ≤ 255 := by
  rw [c_mask x 255 8 (by decide) (by decide)]
  have h1 := Int.emod_nonneg x.toInt (show ((2 ^ 8 : Nat) : Int) ≠ 0 by decide)
  have h2 := Int.emod_lt_of_pos x.toInt (show (0 : Int) < ((2 ^ 8 : Nat) : Int) by decide)
  omega
theorem own_mask8 {x c : Int32} (h : (x &&& 255).toUInt32.toUInt16.toUInt32.toInt32 = c) : 0 ≤ c.toInt ∧ c.toInt ≤ 255 := by
  rw [i2c_mask] at h; subst h; exact own_and255 x
theorem own_narC {c : Int32} (h : 0 ≤ c.toInt ∧ c.toInt ≤ 65535) : nar .char c = c := by
  apply Int32.toInt_inj.mp
  have q := c_i2c c
  show c.toUInt32.toUInt16.toUInt32.toInt32.toInt = c.toInt
  omega
theorem own_le255 {c : Int32} (h : 0 ≤ c.toInt ∧ c.toInt ≤ 255) : ¬ ((255 : Int32) < c) := by
  rw [Int32.lt_iff_toInt_lt]
  have : (255 : Int32).toInt = 255 := by decide
  omega
theorem own_nar8 {c : Int32} (h : 0 ≤ c.toInt ∧ c.toInt ≤ 255) : ¬ ((255 : Int32) < nar .char c) := by
  rw [own_narC ⟨h.1, by omega⟩]; exact own_le255 h
theorem own_setNext {vs : List Value} {cs : List Int32} {i : Nat} (f : Int32 → Value) (d x : Value) (hi : i < vs.length) (hx : x = f (cs.getD i 0)) (hv : ∀ j, j < i → vs.getD j d = f (cs.getD j 0)) : ∀ j, j < i + 1 → (vs.set i x).getD j d = f (cs.getD j 0) := by
  intro j hj
  rw [own_getD_set _ _ _ _ _ hi]
  by_cases e : j = i
  · subst e; rw [if_pos rfl]; exact hx
  · rw [if_neg e]; exact hv j (by omega)
theorem own_fitR {t : FieldType} {v : Value} (ht : t.isReference = true) (hv : v.isRef = true) : fits t v = true := by
  rcases ref_cases hv with rfl | ⟨a, rfl⟩ <;> cases t <;> simp_all [FieldType.isReference, fits]
theorem own_fitC {c : Int32} (h : 0 ≤ c.toInt ∧ c.toInt ≤ 65535) : fits .char (.int c) = true := by
  have q := fits_nar_char c
  rw [own_narC h] at q; exact q
section OwnKitW
variable {p : Program} {l : Launch} {e : Env} {R : Room} {s : State} {m : MethodId} {args : Array Value} {below : List Frame} {meth : Method} {c : Code} {T : State} {locs : List Loc} {cells slots : Nat} {EL : List (String × Nat)} {Z : State} {a0 : Array Value}
/-- the contract of a body that may load String constants -/
def own_ConW (l : Launch) (Z : State) (EL : List (String × Nat)) (y : MethodName) (bytes : ByteArray) (maxL : Nat) (ret : Option FieldType) (ws : List Jvm.Cond) (rm : Room) (as' : Array Value) (h0 : Heap) (Q : Option Value → Heap → List Loc → Prop) : Prop :=
  MetFree l y (head1 (Jvm.Cond.code y bytes maxL ret :: ws) rm) (fun a U => a = as' ∧ Z.Warmed39 U.vm ∧ U.heap = h0 ∧ CHv Z EL U.vm h0) (fun _ _ _ _ _ => True) (fun _ U o U' => ∃ v L, o = .returned v ∧ Q v U'.heap L ∧ CHr Z EL U.vm U.heap U'.vm U'.heap ∧ ReturnedEndW U o U' L rm.cells rm.slots)
def own_RtW (p : Program) (l : Launch) (e : Env) (Z : State) (EL : List (String × Nat)) (rm : Room) (s : State) (m : MethodId) (as' : Array Value) (below : List Frame) (meth : Method) (c : Code) (ret : Option FieldType) (h0 : Heap) (Q : Option Value → Heap → List Loc → Prop) (G : State → Prop) : Prop :=
  ∀ T locs cells slots v S vm0 k0, Stand p l e rm (s.setVm vm0) m as' below meth c T locs cells slots → s.Since vm0 k0 → k0 ≤ T.heap.size → Z.Warmed39 vm0 → CHr Z EL s.vm h0 vm0 T.heap → cells ≤ rm.cells → slots ≤ rm.slots → (ret = none → v = none) → Q v T.heap locs →
    (∀ fs, (∀ (f : JFrame) (acts : List Action), f.method = m → f.locked = none → f.entered = [] → (doReturn e (T.setTop f) acts v).1 = T.setFrames fs) → Steps p.tables e below S (T.setFrames fs)) → G S
theorem own_introW {y : MethodName} {bytes : ByteArray} {maxL : Nat} {ret : Option FieldType} {ws : List Jvm.Cond} {rm : Room} {as' : Array Value} {h0 : Heap} {Q : Option Value → Heap → List Loc → Prop} (hEL : EW Z a0 EL) (hpn : plainFor y = true)
    (H : ∀ (p : Program) (e : Env) (s : State) (m : MethodId) (below : List Frame) (meth : Method) (c : Code) (s₁ : State) (G : State → Prop), p.tables.exec = Jvm.exec → c.code = bytes → c.maxLocals = maxL → (s.setVm s.vm).vm.findClass y.cls = some m.cls → meth.name = y.name → meth.sig.returnType = ret → Z.Warmed39 (s.setVm s.vm).vm →
      Stand p l e rm (s.setVm s.vm) m as' below meth c s₁ [] 0 0 → s₁.heap = h0 → CHv Z EL s.vm h0 → s.Since s.vm h0.size → own_Bk p e below G → own_RtW p l e Z EL rm s m as' below meth c ret h0 Q G → G (s₁.setTop (entryFrame m as' maxL))) : own_ConW l Z EL y bytes maxL ret ws rm as' h0 Q := by
  refine MetFree.of_bodySF hpn hisR ?_
  intro p e s m args below meth c s₁ Bd hml hP hK
  obtain ⟨rfl, hZ, hh, hC⟩ := hP
  refine H p e s m below meth c s₁ (fun S => ∃ s₂ o, Steps p.tables e below S s₂ ∧ s₂.status = .running ∧ Ended s₂ below o ∧ ∃ v L, o = .returned v ∧ Q v s₂.heap L ∧ CHr Z EL s.vm s.heap s₂.vm s₂.heap ∧ ReturnedEndW s o s₂ L rm.cells rm.slots) Bd.exec Bd.bytes hml (findClass_of_methodNamed Bd.named) (name_of_methodNamed Bd.named Bd.method).1 Bd.returns hZ (Stand.of_body Bd) (by rw [← hh, Bd.state]; rfl) hC ((State.WarmedH.refl s).since _) ?_ ?_
  · rintro S S' st ⟨s₂, o, h1, h2⟩
    exact ⟨s₂, o, st _ h1, h2⟩
  · intro T locs cells slots v S vm0 k0 X hS hk hZ0 hC0 hc hs hv hQ hst
    obtain ⟨fs, hr, hrun, hended, hW, hsame⟩ := X.leave (v := v) (fun h => hv (Bd.returns ▸ h)) Bd.notSynchronized
    obtain ⟨q1, q2, q3⟩ := hS.ended (U := T.setFrames fs) hW hk hsame
    have hA : CHr Z EL vm0 T.heap T.vm T.heap := CHv.at X hZ0 hEL hC0.1
    refine ⟨_, _, hst fs hr, hrun, hended, v, locs, rfl, hQ, ?_, ⟨_, rfl⟩, q1, q2, q3.mono hc hs⟩
    rw [hh]
    exact hC0.trans hA
section Rets
variable {Q : Option Value → Heap → List Loc → Prop} {G : State → Prop} {pc : Nat} {Ls : Array Slot} {rest : List Value} {h0 h : Heap} {vm0 : Vm} {k0 : Nat}
theorem own_retVW (hR : own_RtW p l e Z EL R s m args below meth c none h0 Q G) (hret : meth.sig.returnType = none) (X : Stand p l e R (s.setVm vm0) m args below meth c T locs cells slots) (hx : p.tables.exec = Jvm.exec) (hd : decode c.code pc = .ok (.return_, 1)) (eT : T.heap = h) (hS : s.Since vm0 k0) (hk : k0 ≤ h.size) (hZ : Z.Warmed39 (s.setVm vm0).vm) (hC : CHr Z EL s.vm h0 vm0 h) (hc : cells ≤ R.cells) (hs : slots ≤ R.slots) (hQ : Q none h locs) : G (T.setTop (mkF m pc Ls [])) :=
  hR T locs cells slots none _ vm0 k0 X hS (by rw [eT]; exact hk) hZ (by rw [eT]; exact hC) hc hs (fun _ => rfl) (by rw [eT]; exact hQ) fun fs hr => X.returnOut hx hret hd hr
theorem own_retAW {t : FieldType} {v : Value} (hR : own_RtW p l e Z EL R s m args below meth c (some t) h0 Q G) (hret : meth.sig.returnType = some t) (ht : t.isReference = true) (hv : v.isRef = true) (X : Stand p l e R (s.setVm vm0) m args below meth c T locs cells slots) (hx : p.tables.exec = Jvm.exec) (hd : decode c.code pc = .ok (.areturn, 1)) (eT : T.heap = h) (hS : s.Since vm0 k0) (hk : k0 ≤ h.size) (hZ : Z.Warmed39 (s.setVm vm0).vm) (hC : CHr Z EL s.vm h0 vm0 h) (hc : cells ≤ R.cells) (hs : slots ≤ R.slots) (hQ : Q (some v) h locs) : G (T.setTop (mkF m pc Ls (v :: rest))) :=
  hR T locs cells slots (some v) _ vm0 k0 X hS (by rw [eT]; exact hk) hZ (by rw [eT]; exact hC) hc hs (fun h => nomatch h) (by rw [eT]; exact hQ) fun fs hr => retOut X hx hret (by cases t <;> simp_all [FieldType.isReference, narrow]) (Or.inr (Or.inr (Or.inr (Or.inr ⟨rfl, ht, hv⟩)))) hd hr
theorem own_retNW {z : Int32} {t : FieldType} (hR : own_RtW p l e Z EL R s m args below meth c (some t) h0 Q G) (hret : meth.sig.returnType = some t) (ht : t = .boolean ∨ t = .byte ∨ t = .char ∨ t = .short) (X : Stand p l e R (s.setVm vm0) m args below meth c T locs cells slots) (hx : p.tables.exec = Jvm.exec) (hd : decode c.code pc = .ok (.ireturn, 1)) (eT : T.heap = h) (hS : s.Since vm0 k0) (hk : k0 ≤ h.size) (hZ : Z.Warmed39 (s.setVm vm0).vm) (hC : CHr Z EL s.vm h0 vm0 h) (hc : cells ≤ R.cells) (hs : slots ≤ R.slots) (hQ : Q (some (.int (nar t z))) h locs) : G (T.setTop (mkF m pc Ls (.int z :: rest))) :=
  hR T locs cells slots (some (.int (nar t z))) _ vm0 k0 X hS (by rw [eT]; exact hk) hZ (by rw [eT]; exact hC) hc hs (fun h => nomatch h) (by rw [eT]; exact hQ) fun fs hr => retN X hx hret ht hd hr
end Rets
section Calls
variable {own : String} {index : Nat} {y : MethodName} {bytes : ByteArray} {maxL : Nat} {ret : Option FieldType} {rm : Room} {as' : Array Value} {h : Heap} {Q : Option Value → Heap → List Loc → Prop} {G : State → Prop} {pc : Nat} {Ls : Array Slot} {stk argsL rest : List Value} {vm0 : Vm} {k0 : Nat}
theorem own_callSW (X : Stand p l e R (s.setVm vm0) m args below meth c T locs cells slots) (hx : p.tables.exec = Jvm.exec) (hZ : Z.Warmed39 (s.setVm vm0).vm) (hG : own_Bk p e below G) (hown : (s.setVm vm0).vm.findClass own = some m.cls)
    (w1 : (Jvm.Cond.methodLink own index y).before a0 Z = true) (w2 : (Jvm.Cond.static y).before a0 Z = true) (w3 : (Jvm.Cond.initialized y.cls).before a0 Z = true) (w4 : (Jvm.Cond.code y bytes maxL ret).before a0 Z = true)
    (hy : y.cls ≠ "java/lang/invoke/MethodHandle" ∧ y.cls ≠ "java/lang/invoke/VarHandle") (W : Nat) (hM : own_ConW l Z EL y bytes maxL ret [] rm as' h Q) (hf : rm.frames + 1 ≤ R.frames) (hlo : W + (maxL + 11) + rm.locals ≤ R.locals) (eT : T.heap = h)
    (hS : s.Since vm0 k0) (hk : k0 ≤ h.size) (hEL : EW Z a0 EL) (H : CHv Z EL vm0 h)
    (hsize : Ls.size = c.maxLocals) (hlen : ∀ sig, parseMethodDescriptor y.desc = some sig → argsL.length = sig.parameters.length) (has : argsL.toArray = as') (hst : stk = argsL.reverse ++ rest) (hW : (rest.map fun v => v.category).sum ≤ W)
    (hd : decode c.code pc = .ok (.invokestatic index, 3)) (hc : cells + rm.cells ≤ R.cells) (hs : slots + rm.slots ≤ R.slots)
    (k : ∀ T' h' v L, Stand p l e R (s.setVm T'.vm) m args below meth c T' (locs ++ L) (cells + rm.cells) (slots + rm.slots) → T'.heap = h' → s.Since T'.vm h'.size → Z.Warmed39 (s.setVm T'.vm).vm → (s.setVm T'.vm).vm.findClass own = some m.cls → CHr Z EL vm0 h T'.vm h' → Q v h' L → G (T'.setTop (mkF m (pc + 3) Ls (v.toList ++ rest)))) : G (T.setTop (mkF m pc Ls stk)) := by
  obtain ⟨v, _, ⟨T1, L1, k1, n1⟩, -, X1, hS1, hg1, ⟨L, hQ, rfl, rfl, rfl, hC⟩, st⟩ := callSS X hx (y := y) hown (mvT hZ w1) (mvT hZ w2) (mvT hZ w3) (mvT hZ w4) hy (backOfSH (W := W) hM hZ w4 w3 hf hlo hEL H) (g := mkF m pc Ls stk) rfl hsize (argsL := argsL) (rest := rest) hlen hst (by show 2 * 0 + _ ≤ _; rw [Nat.mul_zero, Nat.zero_add]; exact hW) hd (fun _ _ => ⟨has, eT, hc, hs⟩)
  obtain ⟨X2, hS2, hZ2, hown2⟩ := rebS hS (by rw [eT]; exact hk) X1 hS1 hg1 hZ hown
  exact hG _ _ (fun t kk => st.trans kk) (k T1 _ v L X2 rfl hS2 hZ2 hown2 hC hQ)
theorem own_callIW (X : Stand p l e R (s.setVm vm0) m args below meth c T locs cells slots) (hx : p.tables.exec = Jvm.exec) (hZ : Z.Warmed39 (s.setVm vm0).vm) (hG : own_Bk p e below G) (hown : (s.setVm vm0).vm.findClass own = some m.cls) (hy1 : y.name = "<init>")
    (w1 : (Jvm.Cond.methodLink own index y).before a0 Z = true) (w2 : (Jvm.Cond.instanceMethod y).before a0 Z = true) (w3 : (Jvm.Cond.initialized y.cls).before a0 Z = true) (w4 : (Jvm.Cond.code y bytes maxL none).before a0 Z = true)
    (hy : y.cls ≠ "java/lang/invoke/MethodHandle" ∧ y.cls ≠ "java/lang/invoke/VarHandle") (W : Nat) (hM : own_ConW l Z EL y bytes maxL none [] rm as' h Q) (hf : rm.frames + 1 ≤ R.frames) (hlo : W + (maxL + 11) + rm.locals ≤ R.locals) (eT : T.heap = h)
    (hS : s.Since vm0 k0) (hk : k0 ≤ h.size) (hEL : EW Z a0 EL) (H : CHv Z EL vm0 h)
    (hsize : Ls.size = c.maxLocals) (hlen : ∀ sig, parseMethodDescriptor y.desc = some sig → argsL.length = sig.parameters.length) {a : Addr} (has : (.ref a :: argsL).toArray = as') (hst : stk = argsL.reverse ++ .ref a :: rest) (hW : (rest.map fun v => v.category).sum ≤ W)
    (hd : decode c.code pc = .ok (.invokespecial index, 3)) (hc : cells + rm.cells ≤ R.cells) (hs : slots + rm.slots ≤ R.slots)
    (k : ∀ T' h' v L, Stand p l e R (s.setVm T'.vm) m args below meth c T' (locs ++ L) (cells + rm.cells) (slots + rm.slots) → T'.heap = h' → s.Since T'.vm h'.size → Z.Warmed39 (s.setVm T'.vm).vm → (s.setVm T'.vm).vm.findClass own = some m.cls → CHr Z EL vm0 h T'.vm h' → Q v h' L → G (T'.setTop (mkF m (pc + 3) Ls (v.toList ++ rest)))) : G (T.setTop (mkF m pc Ls stk)) := by
  obtain ⟨v, _, ⟨T1, L1, k1, n1⟩, -, X1, hS1, hg1, ⟨L, hQ, rfl, rfl, rfl, hC⟩, st⟩ := X.specialBackS hx (y := y) hy1 hown (mvT hZ w1) (mvT hZ w2) (mvT hZ w4) hy (backOfSH (W := W) hM hZ w4 w3 hf hlo hEL H) (g := mkF m pc Ls stk) rfl hsize (Steps.refl _) (a := a) (argsL := argsL) (rest := rest) hlen hst (by show 2 * 0 + _ ≤ _; rw [Nat.mul_zero, Nat.zero_add]; exact hW) hd (fun _ _ => ⟨has, eT, hc, hs⟩)
  obtain ⟨X2, hS2, hZ2, hown2⟩ := rebS hS (by rw [eT]; exact hk) X1 hS1 hg1 hZ hown
  exact hG _ _ (fun t kk => st.trans kk) (k T1 _ v L X2 rfl hS2 hZ2 hown2 hC hQ)
theorem own_callVW {C : String} (X : Stand p l e R (s.setVm vm0) m args below meth c T locs cells slots) (hx : p.tables.exec = Jvm.exec) (hZ : Z.Warmed39 (s.setVm vm0).vm) (hG : own_Bk p e below G) (hown : (s.setVm vm0).vm.findClass own = some m.cls)
    (w1 : (Jvm.Cond.methodLink own index y).before a0 Z = true) (w2 : (Jvm.Cond.declares y).before a0 Z = true) (w3 : (Jvm.Cond.selects C y y).before a0 Z = true) (w4 : (Jvm.Cond.instanceMethod y).before a0 Z = true) (w5 : (Jvm.Cond.initialized y.cls).before a0 Z = true) (w6 : (Jvm.Cond.code y bytes maxL ret).before a0 Z = true)
    (hy : y.cls ≠ "java/lang/invoke/MethodHandle" ∧ y.cls ≠ "java/lang/invoke/VarHandle") (W : Nat) (hM : own_ConW l Z EL y bytes maxL ret [] rm as' h Q) (hf : rm.frames + 1 ≤ R.frames) (hlo : W + (maxL + 11) + rm.locals ≤ R.locals) (eT : T.heap = h)
    (hS : s.Since vm0 k0) (hk : k0 ≤ h.size) (hEL : EW Z a0 EL) (H : CHv Z EL vm0 h) {b : Addr} (E : Exa Z h b C)
    (hsize : Ls.size = c.maxLocals) (hlen : ∀ sig, parseMethodDescriptor y.desc = some sig → argsL.length = sig.parameters.length) (has : (.ref b :: argsL).toArray = as') (hst : stk = argsL.reverse ++ .ref b :: rest) (hW : (rest.map fun v => v.category).sum ≤ W)
    (hd : decode c.code pc = .ok (.invokevirtual index, 3)) (hc : cells + rm.cells ≤ R.cells) (hs : slots + rm.slots ≤ R.slots)
    (k : ∀ T' h' v L, Stand p l e R (s.setVm T'.vm) m args below meth c T' (locs ++ L) (cells + rm.cells) (slots + rm.slots) → T'.heap = h' → s.Since T'.vm h'.size → Z.Warmed39 (s.setVm T'.vm).vm → (s.setVm T'.vm).vm.findClass own = some m.cls → CHr Z EL vm0 h T'.vm h' → Q v h' L → G (T'.setTop (mkF m (pc + 3) Ls (v.toList ++ rest)))) : G (T.setTop (mkF m pc Ls stk)) := by
  obtain ⟨cq, kq, qa, qb, qc⟩ := isOf hZ eT E
  obtain ⟨v, _, ⟨T1, L1, k1, n1⟩, -, X1, hS1, hg1, ⟨L, hQ, rfl, rfl, rfl, hC⟩, st⟩ := X.virtualBackS hx (y := y) (z := y) hown (mvT hZ w1) (mvT hZ w2) (notFace_of_selects (args := #[]) (mvT hZ w3)) (mvT hZ w3) (mvT hZ w4) hy (backOfSH (W := W) hM hZ w6 w5 hf hlo hEL H) qa qc (g := mkF m pc Ls stk) rfl hsize (Steps.refl _) (argsL := argsL) (rest := rest) hlen hst (by show 2 * 0 + _ ≤ _; rw [Nat.mul_zero, Nat.zero_add]; exact hW) hd (fun _ _ => ⟨has, eT, hc, hs⟩)
  obtain ⟨X2, hS2, hZ2, hown2⟩ := rebS hS (by rw [eT]; exact hk) X1 hS1 hg1 hZ hown
  exact hG _ _ (fun t kk => st.trans kk) (k T1 _ v L X2 rfl hS2 hZ2 hown2 hC hQ)
end Calls
/-- a String whose value is still null is none that the JVM holds for a constant -/
theorem own_safeStr {vm : Vm} {h : Heap} {a : Addr} (hal : Z.vm.Alike vm) (E : Exa Z h a "java/lang/String") (F : Fld Z h a "java/lang/String" "value" "[B" .null) : Safe Z EL vm h a := fun B => by
  obtain ⟨p0, hp0, u, a', hb, q, hqa, S, hy⟩ := B
  obtain ⟨cS, ⟨⟨s1, s2, s3, ⟨cv, kv, iv, s4, s4'⟩, ⟨cc, kc, ic, s5, s5'⟩, s6, s7, s8, s9, s10, -⟩, hfS, hcS⟩, -, hB, -⟩ := S
  obtain ⟨kv', z4⟩ := ff_back (U := Wst Z vm h) hal s4
  rcases hy with rfl | rfl
  · have G : Fld Z h q.sa "java/lang/String" "value" "[B" (.ref q.sd) := ⟨q.sC, cv, kv', iv, q.fSV, s1, z4, s6, s2, s3, by rw [← hal.assignable]; exact s4', s8⟩
    exact Fld.ne F G (by simp) rfl
  · obtain ⟨cell, k, e1, e2, -⟩ := E
    have s10' : h[q.sd]? = some q.SA := s10
    cases s10'.symm.trans e1
    have hB' : vm.findClass "[B" = some q.SA.cls := hB
    have hBZ : Z.vm.findClass "[B" = some q.SA.cls := by rw [← hal.findClass]; exact hB'
    obtain ⟨k1, x1, x2⟩ := Vm.findClass_spec e2
    obtain ⟨k2, y1, y2⟩ := Vm.findClass_spec hBZ
    cases x1.symm.trans y1
    exact absurd (x2.symm.trans y2) (by decide)
theorem own_safeArv {vm : Vm} {h : Heap} {a : Addr} {k : ClassId} {ty : FieldType} {z : Int32} {vs : List Value} {d : Value} (hal : Z.vm.Alike vm) (A : Arv Z h a k ty z vs d) (ht : ty ≠ .byte) : Safe Z EL vm h a := by
  obtain ⟨cl, Ar, -⟩ := A
  exact Safe.arr hal Ar ht
end OwnKitW

def own_lo (ch : Int32) : Int32 := nar .byte ((ch >>> ((0 : Int32) &&& 31)).toInt8.toInt32)
def own_hi (ch : Int32) : Int32 := nar .byte ((ch >>> ((8 : Int32) &&& 31)).toInt8.toInt32)
def own_join (x y : Int32) : Int32 := nar .char ((((x &&& (255 : Int32)) <<< ((0 : Int32) &&& 31)) ||| ((y &&& (255 : Int32)) <<< ((8 : Int32) &&& 31))).toUInt32.toUInt16.toUInt32.toInt32)
def own_is16 (cs : List Int32) (vs : List Value) : Prop := vs.length = 2 * cs.length ∧ ∀ j, j < cs.length → vs.getD (2 * j) (.int (0 : Int32)) = .int (own_lo (cs.getD j 0)) ∧ vs.getD (2 * j + 1) (.int (0 : Int32)) = .int (own_hi (cs.getD j 0))
/-- the bytes of a String of these chars -/
def own_enc (cs : List Int32) (cd nb : Int32) (vs : List Value) : Prop :=
  ((∀ c ∈ cs, ¬ ((255 : Int32) < c)) ∧ cd = 0 ∧ nb = Int32.ofNat cs.length ∧ vs = (cs.map fun c => Value.int c.toInt8.toInt32)) ∨
    ((∃ k, k < cs.length ∧ (255 : Int32) < cs.getD k 0) ∧ cd = 1 ∧ nb = Int32.ofNat (2 * cs.length) ∧ own_is16 cs vs)
theorem own_shl1 (i : Nat) : Int32.ofNat i <<< ((1 : Int32) &&& 31) = Int32.ofNat (2 * i) := by
  rw [shlm (x := Int32.ofNat i) (k := 1) (m := 2) (by decide), Nat.mul_comm, Int32.ofNat_mul]; rfl
theorem own_lo_rng (ch : Int32) : (own_lo ch).toInt % 256 = ch.toInt % 256 := by
  have h0 : (ch >>> ((0 : Int32) &&& 31)).toInt = ch.toInt / (2 ^ 0 : Nat) := c_ishr ch 0 0 (by decide)
  have h1 := c_i2b (ch >>> ((0 : Int32) &&& 31))
  show (nar .byte _).toInt % 256 = _
  rw [own_nb]
  omega
theorem own_hi_rng (ch : Int32) : (own_hi ch).toInt % 256 = (ch.toInt / 256) % 256 := by
  have h0 : (ch >>> ((8 : Int32) &&& 31)).toInt = ch.toInt / (2 ^ 8 : Nat) := c_ishr ch 8 8 (by decide)
  have h1 := c_i2b (ch >>> ((8 : Int32) &&& 31))
  show (nar .byte _).toInt % 256 = _
  rw [own_nb]
  omega
theorem own_join_eq {ch : Int32} (h : 0 ≤ ch.toInt ∧ ch.toInt ≤ 65535) : own_join (own_lo ch) (own_hi ch) = ch := by
  have l := own_lo_rng ch; have g := own_hi_rng ch
  unfold own_join
  rw [own_nc]
  generalize own_lo ch = x at *
  generalize own_hi ch = y at *
  have m1 : (x &&& (255 : Int32)).toInt = x.toInt % 256 := c_mask x 255 8 (by decide) (by decide)
  have m2 : (y &&& (255 : Int32)).toInt = y.toInt % 256 := c_mask y 255 8 (by decide) (by decide)
  have s1 : ((x &&& (255 : Int32)) <<< ((0 : Int32) &&& 31)) = (x &&& (255 : Int32)) := by
    rw [shlm (m := 1) (by decide)]; simp
  have s2 := c_ishl (y &&& (255 : Int32)) 8 8 (by decide)
  rw [s1]
  generalize (x &&& (255 : Int32)) = X at *
  generalize ((y &&& (255 : Int32)) <<< ((8 : Int32) &&& 31)) = Y at *
  have rY := rng32 Y
  have eY : Y.toInt = (y.toInt % 256) * 256 := by omega
  have o := c_or' X Y 8 (by decide) 256 rfl (by omega) (by omega) (by omega)
  have rO := rng32 (X ||| Y)
  have c2 := c_i2c (X ||| Y)
  apply Int32.toInt_inj.mp
  omega
theorem own_coder0 (n : Int32) : nar .byte ((((n - n).toUInt32 >>> ((31 : Int32) &&& 31).toUInt32).toInt32).toInt8.toInt32) = 0 := by rw [Int32.sub_self]; rfl
theorem own_coder1 {n : Nat} (h0 : 0 < n) (h : n < 536870912) : nar .byte ((((Int32.ofNat n - Int32.ofNat (2 * n)).toUInt32 >>> ((31 : Int32) &&& 31).toUInt32).toInt32).toInt8.toInt32) = 1 := by
  have e := c_isub (Int32.ofNat n) (Int32.ofNat (2 * n))
  rw [own_toInt (by omega), own_toInt (by omega)] at e
  have r := rng32 (Int32.ofNat n - Int32.ofNat (2 * n))
  have s := c_iushr (Int32.ofNat n - Int32.ofNat (2 * n)) 31 31 (by decide) (by decide)
  generalize Int32.ofNat n - Int32.ofNat (2 * n) = D at *
  generalize ((D.toUInt32 >>> ((31 : Int32) &&& 31).toUInt32).toInt32) = S at *
  have hS : S.toInt = 1 := by rw [s]; omega
  have : S = 1 := Int32.toInt_inj.mp (by rw [hS]; rfl)
  rw [this]; rfl
theorem own_mask16 {x c : Int32} (h : (x &&& 65535).toUInt32.toUInt16.toUInt32.toInt32 = c) : 0 ≤ c.toInt ∧ c.toInt ≤ 65535 := by
  have q := c_i2c (x &&& 65535); rw [h] at q; omega
theorem own_i2c16 {x c : Int32} (h : x.toUInt32.toUInt16.toUInt32.toInt32 = c) : 0 ≤ c.toInt ∧ c.toInt ≤ 65535 := by
  have q := c_i2c x; rw [h] at q; omega
theorem own_nar16 {c : Int32} (h : 0 ≤ c.toInt ∧ c.toInt ≤ 65535) : 0 ≤ (nar .char c).toInt ∧ (nar .char c).toInt ≤ 65535 := by rw [own_narC h]; exact h
theorem own_ltK {n : Nat} (h : n < 1073741823) : Int32.ofNat n < (1073741823 : Int32) := by
  rw [Int32.lt_iff_toInt_lt, own_toInt (by omega)]
  have : (1073741823 : Int32).toInt = 1073741823 := by decide
  omega
theorem own_ofNat_ne {i n : Nat} (h : i < n) (hn : n < 2147483648) : ¬ (Int32.ofNat i = Int32.ofNat n) := fun e => by
  have := own_ofNat_inj (by omega) hn e; omega
theorem own_set16 {cs : List Int32} {vs : List Value} {i : Nat} (hl : vs.length = 2 * cs.length) (hi : i < cs.length)
    (hv : ∀ j, j < i → vs.getD (2 * j) (.int (0 : Int32)) = .int (own_lo (cs.getD j 0)) ∧ vs.getD (2 * j + 1) (.int (0 : Int32)) = .int (own_hi (cs.getD j 0))) :
    ∀ j, j < i + 1 → ((vs.set (2 * i) (.int (own_lo (cs.getD i 0)))).set (2 * i + 1) (.int (own_hi (cs.getD i 0)))).getD (2 * j) (.int (0 : Int32)) = .int (own_lo (cs.getD j 0)) ∧ ((vs.set (2 * i) (.int (own_lo (cs.getD i 0)))).set (2 * i + 1) (.int (own_hi (cs.getD i 0)))).getD (2 * j + 1) (.int (0 : Int32)) = .int (own_hi (cs.getD j 0)) := by
  intro j hj
  have h1 : 2 * i + 1 < (vs.set (2 * i) (Value.int (own_lo (cs.getD i 0)))).length := by rw [List.length_set]; omega
  have h2 : 2 * i < vs.length := by omega
  rw [own_getD_set _ _ _ _ _ h1, own_getD_set _ _ _ _ _ h2, own_getD_set _ _ _ _ _ h1, own_getD_set _ _ _ _ _ h2]
  by_cases e : j = i
  · subst e
    rw [if_neg (by omega), if_pos rfl, if_pos rfl]; exact ⟨rfl, rfl⟩
  · rw [if_neg (by omega), if_neg (by omega), if_neg (by omega), if_neg (by omega)]; exact hv j (by omega)
theorem own_allD {α : Type} {P : α → Prop} (cs : List α) (d : α) (h : ∀ j, j < cs.length → P (cs.getD j d)) : ∀ c ∈ cs, P c := by
  intro c hc
  obtain ⟨j, hj, rfl⟩ := List.getElem_of_mem hc
  have q := h j hj
  rw [List.getD_eq_getElem?_getD, List.getElem?_eq_getElem hj] at q
  exact q
theorem own_nextD {P : Int32 → Prop} {cs : List Int32} {i : Nat} (h : ∀ j, j < i → P (cs.getD j 0)) (q : P (cs.getD i 0)) : ∀ j, j < i + 1 → P (cs.getD j 0) := by
  intro j hj
  by_cases e : j = i
  · subst e; exact q
  · exact h j (by omega)
theorem own_is16_1 (ch : Int32) : own_is16 [ch] [.int (own_lo ch), .int (own_hi ch)] := ⟨rfl, fun j hj => by
  have e : j = 0 := by simpa using hj
  subst e; exact ⟨rfl, rfl⟩⟩
theorem own_enc_lat1 {ch : Int32} (h : ¬ ((255 : Int32) < ch)) : own_enc [ch] 0 (1 : Int32) [.int (nar .byte (ch.toInt8.toInt32))] :=
  Or.inl ⟨own_allc h own_alln, rfl, rfl, by rw [own_nb]; rfl⟩
theorem own_enc_u1 {ch : Int32} (h : (255 : Int32) < ch) : own_enc [ch] 1 (2 : Int32) [.int (own_lo ch), .int (own_hi ch)] :=
  Or.inr ⟨⟨0, Nat.zero_lt_one, h⟩, rfl, rfl, own_is16_1 ch⟩
theorem own_enc_nil : own_enc [] 0 (0 : Int32) [] := Or.inl ⟨own_alln, rfl, rfl, rfl⟩
theorem own_8to16 {c : Int32} (h : 0 ≤ c.toInt ∧ c.toInt ≤ 255) : 0 ≤ c.toInt ∧ c.toInt ≤ 65535 := ⟨h.1, by omega⟩
theorem own_narrng (x : Int32) : 0 ≤ (nar .char x).toInt ∧ (nar .char x).toInt ≤ 65535 := by
  have q := c_i2c x
  show 0 ≤ x.toUInt32.toUInt16.toUInt32.toInt32.toInt ∧ x.toUInt32.toUInt16.toUInt32.toInt32.toInt ≤ 65535
  omega
theorem own_shr0 (x : Int32) : x >>> ((0 : Int32) &&& 31) = x := Int32.toInt_inj.mp (by rw [c_ishr x 0 0 (by decide)]; simp)
theorem own_shr1 {n : Nat} (h : n < 1073741824) : Int32.ofNat (2 * n) >>> ((1 : Int32) &&& 31) = Int32.ofNat n := by
  apply Int32.toInt_inj.mp
  rw [c_ishr _ 1 1 (by decide), own_toInt (by omega), own_toInt (by omega)]
  omega
theorem own_byteEq {c d : Int32} (hc : 0 ≤ c.toInt ∧ c.toInt ≤ 255) (hd : 0 ≤ d.toInt ∧ d.toInt ≤ 255) : c.toInt8.toInt32 = d.toInt8.toInt32 ↔ c = d := by
  constructor
  · intro h
    have h1 := c_i2b c; have h2 := c_i2b d
    rw [h] at h1
    exact Int32.toInt_inj.mp (by omega)
  · intro h; rw [h]
theorem own_lat_rng {cs : List Int32} (hall : ∀ c ∈ cs, ¬ ((255 : Int32) < c)) (h16 : ∀ c ∈ cs, 0 ≤ c.toInt ∧ c.toInt ≤ 65535) : ∀ c ∈ cs, 0 ≤ c.toInt ∧ c.toInt ≤ 255 := fun c hc => by
  have q := hall c hc; have r := h16 c hc
  rw [Int32.lt_iff_toInt_lt] at q
  have : (255 : Int32).toInt = 255 := by decide
  omega
theorem own_m1 {P : Int32 → Prop} {cs : List Int32} (h : cs.length = 0) : (-1 : Int32) < (0 : Int32) ↔ ∀ c ∈ cs, P c :=
  ⟨fun _ => by rw [List.eq_nil_of_length_eq_zero h]; exact own_alln, fun _ => by decide⟩
theorem own_pos0 {n : Nat} (h : ¬ (0 : Int32) < Int32.ofNat n) (hn : n < 2147483648) : n = 0 := by
  rcases Nat.eq_zero_or_pos n with e | e
  · exact e
  · exact absurd (own_lt (i := 0) e hn) h
theorem own_n3 {x n : Int32} (h : (x &&& (3 : Int32)) = n) (h0 : ¬ (n = (0 : Int32))) (h1 : ¬ (n = (1 : Int32))) (h2 : ¬ (n = (2 : Int32))) : n = (3 : Int32) := by
  have q : (x &&& (3 : Int32)).toInt = x.toInt % (2 ^ 2 : Nat) := c_mask x 3 2 (by decide) (by decide)
  rw [h] at q
  have a0 := mt Int32.toInt_inj.mp h0; have a1 := mt Int32.toInt_inj.mp h1; have a2 := mt Int32.toInt_inj.mp h2
  have e0 : (0 : Int32).toInt = 0 := by decide
  have e1 : (1 : Int32).toInt = 1 := by decide
  have e2 : (2 : Int32).toInt = 2 := by decide
  have e3 : (3 : Int32).toInt = 3 := by decide
  apply Int32.toInt_inj.mp
  omega

theorem own_d1_0 : decode method_2_code 0 = .ok (.iload_n 0, 1) := by decide +kernel
theorem own_d1_1 : decode method_2_code 1 = .ok (.bipush 16, 2) := by decide +kernel
theorem own_d1_3 : decode method_2_code 3 = .ok (.iushr, 1) := by decide +kernel
theorem own_d1_4 : decode method_2_code 4 = .ok (.iconst 1, 1) := by decide +kernel
theorem own_d1_5 : decode method_2_code 5 = .ok (.iand, 1) := by decide +kernel
theorem own_d1_6 : decode method_2_code 6 = .ok (.ifCond .eq 6, 3) := by decide +kernel
theorem own_d1_9 : decode method_2_code 9 = .ok (.bipush 58, 2) := by decide +kernel
theorem own_d1_11 : decode method_2_code 11 = .ok (.ireturn, 1) := by decide +kernel
theorem own_d1_12 : decode method_2_code 12 = .ok (.iload_n 0, 1) := by decide +kernel
theorem own_d1_13 : decode method_2_code 13 = .ok (.ldc 7, 2) := by decide +kernel
theorem own_d1_15 : decode method_2_code 15 = .ok (.iand, 1) := by decide +kernel
theorem own_d1_16 : decode method_2_code 16 = .ok (.i2c, 1) := by decide +kernel
theorem own_d1_17 : decode method_2_code 17 = .ok (.ireturn, 1) := by decide +kernel
theorem own_d2_0 : decode jdk_42_method_3_code 0 = .ok (.aload_n 0, 1) := by decide +kernel
theorem own_d2_1 : decode jdk_42_method_3_code 1 = .ok (.aload_n 1, 1) := by decide +kernel
theorem own_d2_2 : decode jdk_42_method_3_code 2 = .ok (.iconst 0, 1) := by decide +kernel
theorem own_d2_3 : decode jdk_42_method_3_code 3 = .ok (.aload_n 1, 1) := by decide +kernel
theorem own_d2_4 : decode jdk_42_method_3_code 4 = .ok (.arraylength, 1) := by decide +kernel
theorem own_d2_5 : decode jdk_42_method_3_code 5 = .ok (.aconst_null, 1) := by decide +kernel
theorem own_d2_6 : decode jdk_42_method_3_code 6 = .ok (.invokespecial 27, 3) := by decide +kernel
theorem own_d2_9 : decode jdk_42_method_3_code 9 = .ok (.return_, 1) := by decide +kernel
theorem own_d3_0 : decode jdk_42_method_149_code 0 = .ok (.aload_n 0, 1) := by decide +kernel
theorem own_d3_1 : decode jdk_42_method_149_code 1 = .ok (.invokespecial 1, 3) := by decide +kernel
theorem own_d3_4 : decode jdk_42_method_149_code 4 = .ok (.iload_n 3, 1) := by decide +kernel
theorem own_d3_5 : decode jdk_42_method_149_code 5 = .ok (.ifCond .ne 22, 3) := by decide +kernel
theorem own_d3_8 : decode jdk_42_method_149_code 8 = .ok (.aload_n 0, 1) := by decide +kernel
theorem own_d3_9 : decode jdk_42_method_149_code 9 = .ok (.ldc 7, 2) := by decide +kernel
theorem own_d3_11 : decode jdk_42_method_149_code 11 = .ok (.getfield 9, 3) := by decide +kernel
theorem own_d3_14 : decode jdk_42_method_149_code 14 = .ok (.putfield 9, 3) := by decide +kernel
theorem own_d3_17 : decode jdk_42_method_149_code 17 = .ok (.aload_n 0, 1) := by decide +kernel
theorem own_d3_18 : decode jdk_42_method_149_code 18 = .ok (.ldc 7, 2) := by decide +kernel
theorem own_d3_20 : decode jdk_42_method_149_code 20 = .ok (.getfield 15, 3) := by decide +kernel
theorem own_d3_23 : decode jdk_42_method_149_code 23 = .ok (.putfield 15, 3) := by decide +kernel
theorem own_d3_26 : decode jdk_42_method_149_code 26 = .ok (.return_, 1) := by decide +kernel
theorem own_d3_27 : decode jdk_42_method_149_code 27 = .ok (.getstatic 38, 3) := by decide +kernel
theorem own_d3_30 : decode jdk_42_method_149_code 30 = .ok (.ifCond .eq 28, 3) := by decide +kernel
theorem own_d3_33 : decode jdk_42_method_149_code 33 = .ok (.aload_n 1, 1) := by decide +kernel
theorem own_d3_34 : decode jdk_42_method_149_code 34 = .ok (.iload_n 2, 1) := by decide +kernel
theorem own_d3_35 : decode jdk_42_method_149_code 35 = .ok (.iload_n 3, 1) := by decide +kernel
theorem own_d3_36 : decode jdk_42_method_149_code 36 = .ok (.invokestatic 177, 3) := by decide +kernel
theorem own_d3_39 : decode jdk_42_method_149_code 39 = .ok (.astore 5, 2) := by decide +kernel
theorem own_d3_41 : decode jdk_42_method_149_code 41 = .ok (.aload_n 0, 1) := by decide +kernel
theorem own_d3_42 : decode jdk_42_method_149_code 42 = .ok (.aload 5, 2) := by decide +kernel
theorem own_d3_44 : decode jdk_42_method_149_code 44 = .ok (.iload_n 3, 1) := by decide +kernel
theorem own_d3_45 : decode jdk_42_method_149_code 45 = .ok (.invokestatic 47, 3) := by decide +kernel
theorem own_d3_48 : decode jdk_42_method_149_code 48 = .ok (.putfield 15, 3) := by decide +kernel
theorem own_d3_51 : decode jdk_42_method_149_code 51 = .ok (.aload_n 0, 1) := by decide +kernel
theorem own_d3_52 : decode jdk_42_method_149_code 52 = .ok (.aload 5, 2) := by decide +kernel
theorem own_d3_54 : decode jdk_42_method_149_code 54 = .ok (.putfield 9, 3) := by decide +kernel
theorem own_d3_57 : decode jdk_42_method_149_code 57 = .ok (.return_, 1) := by decide +kernel
theorem own_d5_0 : decode prog_1_method_3_code 0 = .ok (.aload_n 0, 1) := by decide +kernel
theorem own_d5_1 : decode prog_1_method_3_code 1 = .ok (.bipush 58, 2) := by decide +kernel
theorem own_d5_3 : decode prog_1_method_3_code 3 = .ok (.invokevirtual 87, 3) := by decide +kernel
theorem own_d5_6 : decode prog_1_method_3_code 6 = .ok (.ifCond .ge 7, 3) := by decide +kernel
theorem own_d5_9 : decode prog_1_method_3_code 9 = .ok (.iconst 1, 1) := by decide +kernel
theorem own_d5_10 : decode prog_1_method_3_code 10 = .ok (.goto 4, 3) := by decide +kernel
theorem own_d5_13 : decode prog_1_method_3_code 13 = .ok (.iconst 0, 1) := by decide +kernel
theorem own_d5_14 : decode prog_1_method_3_code 14 = .ok (.ireturn, 1) := by decide +kernel
theorem own_d6_0 : decode jdk_42_method_79_code 0 = .ok (.aload_n 0, 1) := by decide +kernel
theorem own_d6_1 : decode jdk_42_method_79_code 1 = .ok (.iload_n 1, 1) := by decide +kernel
theorem own_d6_2 : decode jdk_42_method_79_code 2 = .ok (.iconst 0, 1) := by decide +kernel
theorem own_d6_3 : decode jdk_42_method_79_code 3 = .ok (.invokevirtual 633, 3) := by decide +kernel
theorem own_d6_6 : decode jdk_42_method_79_code 6 = .ok (.ireturn, 1) := by decide +kernel
theorem own_d7_0 : decode jdk_42_method_80_code 0 = .ok (.aload_n 0, 1) := by decide +kernel
theorem own_d7_1 : decode jdk_42_method_80_code 1 = .ok (.invokevirtual 492, 3) := by decide +kernel
theorem own_d7_4 : decode jdk_42_method_80_code 4 = .ok (.ifCond .eq 19, 3) := by decide +kernel
theorem own_d7_7 : decode jdk_42_method_80_code 7 = .ok (.aload_n 0, 1) := by decide +kernel
theorem own_d7_8 : decode jdk_42_method_80_code 8 = .ok (.getfield 9, 3) := by decide +kernel
theorem own_d7_11 : decode jdk_42_method_80_code 11 = .ok (.iload_n 1, 1) := by decide +kernel
theorem own_d7_12 : decode jdk_42_method_80_code 12 = .ok (.iload_n 2, 1) := by decide +kernel
theorem own_d7_13 : decode jdk_42_method_80_code 13 = .ok (.aload_n 0, 1) := by decide +kernel
theorem own_d7_14 : decode jdk_42_method_80_code 14 = .ok (.invokevirtual 505, 3) := by decide +kernel
theorem own_d7_17 : decode jdk_42_method_80_code 17 = .ok (.invokestatic 637, 3) := by decide +kernel
theorem own_d7_20 : decode jdk_42_method_80_code 20 = .ok (.goto 16, 3) := by decide +kernel
theorem own_d7_23 : decode jdk_42_method_80_code 23 = .ok (.aload_n 0, 1) := by decide +kernel
theorem own_d7_24 : decode jdk_42_method_80_code 24 = .ok (.getfield 9, 3) := by decide +kernel
theorem own_d7_27 : decode jdk_42_method_80_code 27 = .ok (.iload_n 1, 1) := by decide +kernel
theorem own_d7_28 : decode jdk_42_method_80_code 28 = .ok (.iload_n 2, 1) := by decide +kernel
theorem own_d7_29 : decode jdk_42_method_80_code 29 = .ok (.aload_n 0, 1) := by decide +kernel
theorem own_d7_30 : decode jdk_42_method_80_code 30 = .ok (.invokevirtual 505, 3) := by decide +kernel
theorem own_d7_33 : decode jdk_42_method_80_code 33 = .ok (.invokestatic 640, 3) := by decide +kernel
theorem own_d7_36 : decode jdk_42_method_80_code 36 = .ok (.ireturn, 1) := by decide +kernel
theorem own_d8_0 : decode jdk_42_method_154_code 0 = .ok (.getstatic 38, 3) := by decide +kernel
theorem own_d8_3 : decode jdk_42_method_154_code 3 = .ok (.ifCond .eq 14, 3) := by decide +kernel
theorem own_d8_6 : decode jdk_42_method_154_code 6 = .ok (.aload_n 0, 1) := by decide +kernel
theorem own_d8_7 : decode jdk_42_method_154_code 7 = .ok (.getfield 15, 3) := by decide +kernel
theorem own_d8_10 : decode jdk_42_method_154_code 10 = .ok (.ifCond .ne 7, 3) := by decide +kernel
theorem own_d8_13 : decode jdk_42_method_154_code 13 = .ok (.iconst 1, 1) := by decide +kernel
theorem own_d8_14 : decode jdk_42_method_154_code 14 = .ok (.goto 4, 3) := by decide +kernel
theorem own_d8_17 : decode jdk_42_method_154_code 17 = .ok (.iconst 0, 1) := by decide +kernel
theorem own_d8_18 : decode jdk_42_method_154_code 18 = .ok (.ireturn, 1) := by decide +kernel
theorem own_d9_0 : decode jdk_42_method_54_code 0 = .ok (.aload_n 0, 1) := by decide +kernel
theorem own_d9_1 : decode jdk_42_method_54_code 1 = .ok (.getfield 9, 3) := by decide +kernel
theorem own_d9_4 : decode jdk_42_method_54_code 4 = .ok (.arraylength, 1) := by decide +kernel
theorem own_d9_5 : decode jdk_42_method_54_code 5 = .ok (.aload_n 0, 1) := by decide +kernel
theorem own_d9_6 : decode jdk_42_method_54_code 6 = .ok (.invokevirtual 335, 3) := by decide +kernel
theorem own_d9_9 : decode jdk_42_method_54_code 9 = .ok (.ishr, 1) := by decide +kernel
theorem own_d9_10 : decode jdk_42_method_54_code 10 = .ok (.ireturn, 1) := by decide +kernel
theorem own_d10_0 : decode jdk_42_method_152_code 0 = .ok (.getstatic 38, 3) := by decide +kernel
theorem own_d10_3 : decode jdk_42_method_152_code 3 = .ok (.ifCond .eq 10, 3) := by decide +kernel
theorem own_d10_6 : decode jdk_42_method_152_code 6 = .ok (.aload_n 0, 1) := by decide +kernel
theorem own_d10_7 : decode jdk_42_method_152_code 7 = .ok (.getfield 15, 3) := by decide +kernel
theorem own_d10_10 : decode jdk_42_method_152_code 10 = .ok (.goto 4, 3) := by decide +kernel
theorem own_d10_14 : decode jdk_42_method_152_code 14 = .ok (.ireturn, 1) := by decide +kernel
theorem own_d11_0 : decode jdk_43_method_22_code 0 = .ok (.iload_n 1, 1) := by decide +kernel
theorem own_d11_1 : decode jdk_43_method_22_code 1 = .ok (.invokestatic 88, 3) := by decide +kernel
theorem own_d11_4 : decode jdk_43_method_22_code 4 = .ok (.ifCond .ne 5, 3) := by decide +kernel
theorem own_d11_9 : decode jdk_43_method_22_code 9 = .ok (.iload_n 2, 1) := by decide +kernel
theorem own_d11_10 : decode jdk_43_method_22_code 10 = .ok (.iconst 0, 1) := by decide +kernel
theorem own_d11_11 : decode jdk_43_method_22_code 11 = .ok (.invokestatic 92, 3) := by decide +kernel
theorem own_d11_14 : decode jdk_43_method_22_code 14 = .ok (.istore_n 2, 1) := by decide +kernel
theorem own_d11_15 : decode jdk_43_method_22_code 15 = .ok (.iload_n 3, 1) := by decide +kernel
theorem own_d11_16 : decode jdk_43_method_22_code 16 = .ok (.aload_n 0, 1) := by decide +kernel
theorem own_d11_17 : decode jdk_43_method_22_code 17 = .ok (.arraylength, 1) := by decide +kernel
theorem own_d11_18 : decode jdk_43_method_22_code 18 = .ok (.invokestatic 38, 3) := by decide +kernel
theorem own_d11_21 : decode jdk_43_method_22_code 21 = .ok (.istore_n 3, 1) := by decide +kernel
theorem own_d11_22 : decode jdk_43_method_22_code 22 = .ok (.iload_n 2, 1) := by decide +kernel
theorem own_d11_23 : decode jdk_43_method_22_code 23 = .ok (.iload_n 3, 1) := by decide +kernel
theorem own_d11_24 : decode jdk_43_method_22_code 24 = .ok (.if_icmp .lt 5, 3) := by decide +kernel
theorem own_d11_27 : decode jdk_43_method_22_code 27 = .ok (.iconst (-1), 1) := by decide +kernel
theorem own_d11_28 : decode jdk_43_method_22_code 28 = .ok (.ireturn, 1) := by decide +kernel
theorem own_d11_29 : decode jdk_43_method_22_code 29 = .ok (.aload_n 0, 1) := by decide +kernel
theorem own_d11_30 : decode jdk_43_method_22_code 30 = .ok (.iload_n 1, 1) := by decide +kernel
theorem own_d11_31 : decode jdk_43_method_22_code 31 = .ok (.iload_n 2, 1) := by decide +kernel
theorem own_d11_32 : decode jdk_43_method_22_code 32 = .ok (.iload_n 3, 1) := by decide +kernel
theorem own_d11_33 : decode jdk_43_method_22_code 33 = .ok (.invokestatic 95, 3) := by decide +kernel
theorem own_d11_36 : decode jdk_43_method_22_code 36 = .ok (.ireturn, 1) := by decide +kernel
theorem own_d12_0 : decode jdk_43_method_4_code 0 = .ok (.iload_n 0, 1) := by decide +kernel
theorem own_d12_1 : decode jdk_43_method_4_code 1 = .ok (.ifCond .lt 14, 3) := by decide +kernel
theorem own_d12_4 : decode jdk_43_method_4_code 4 = .ok (.iload_n 0, 1) := by decide +kernel
theorem own_d12_5 : decode jdk_43_method_4_code 5 = .ok (.sipush 255, 3) := by decide +kernel
theorem own_d12_8 : decode jdk_43_method_4_code 8 = .ok (.if_icmp .gt 7, 3) := by decide +kernel
theorem own_d12_11 : decode jdk_43_method_4_code 11 = .ok (.iconst 1, 1) := by decide +kernel
theorem own_d12_12 : decode jdk_43_method_4_code 12 = .ok (.goto 4, 3) := by decide +kernel
theorem own_d12_16 : decode jdk_43_method_4_code 16 = .ok (.ireturn, 1) := by decide +kernel
theorem own_d13_0 : decode jdk_29_method_65_code 0 = .ok (.iload_n 0, 1) := by decide +kernel
theorem own_d13_1 : decode jdk_29_method_65_code 1 = .ok (.iload_n 1, 1) := by decide +kernel
theorem own_d13_2 : decode jdk_29_method_65_code 2 = .ok (.if_icmp .lt 7, 3) := by decide +kernel
theorem own_d13_5 : decode jdk_29_method_65_code 5 = .ok (.iload_n 0, 1) := by decide +kernel
theorem own_d13_6 : decode jdk_29_method_65_code 6 = .ok (.goto 4, 3) := by decide +kernel
theorem own_d13_10 : decode jdk_29_method_65_code 10 = .ok (.ireturn, 1) := by decide +kernel
theorem own_d14_0 : decode jdk_29_method_69_code 0 = .ok (.iload_n 0, 1) := by decide +kernel
theorem own_d14_1 : decode jdk_29_method_69_code 1 = .ok (.iload_n 1, 1) := by decide +kernel
theorem own_d14_2 : decode jdk_29_method_69_code 2 = .ok (.if_icmp .gt 7, 3) := by decide +kernel
theorem own_d14_5 : decode jdk_29_method_69_code 5 = .ok (.iload_n 0, 1) := by decide +kernel
theorem own_d14_6 : decode jdk_29_method_69_code 6 = .ok (.goto 4, 3) := by decide +kernel
theorem own_d14_10 : decode jdk_29_method_69_code 10 = .ok (.ireturn, 1) := by decide +kernel
theorem own_d15_0 : decode jdk_52_method_16_code 0 = .ok (.iload_n 2, 1) := by decide +kernel
theorem own_d15_1 : decode jdk_52_method_16_code 1 = .ok (.newarray .byte, 2) := by decide +kernel
theorem own_d15_3 : decode jdk_52_method_16_code 3 = .ok (.astore_n 3, 1) := by decide +kernel
theorem own_d15_4 : decode jdk_52_method_16_code 4 = .ok (.aload_n 0, 1) := by decide +kernel
theorem own_d15_5 : decode jdk_52_method_16_code 5 = .ok (.iload_n 1, 1) := by decide +kernel
theorem own_d15_6 : decode jdk_52_method_16_code 6 = .ok (.aload_n 3, 1) := by decide +kernel
theorem own_d15_7 : decode jdk_52_method_16_code 7 = .ok (.iconst 0, 1) := by decide +kernel
theorem own_d15_8 : decode jdk_52_method_16_code 8 = .ok (.iload_n 2, 1) := by decide +kernel
theorem own_d15_9 : decode jdk_52_method_16_code 9 = .ok (.invokestatic 115, 3) := by decide +kernel
theorem own_d15_12 : decode jdk_52_method_16_code 12 = .ok (.istore 4, 2) := by decide +kernel
theorem own_d15_14 : decode jdk_52_method_16_code 14 = .ok (.iload 4, 2) := by decide +kernel
theorem own_d15_16 : decode jdk_52_method_16_code 16 = .ok (.iload_n 2, 1) := by decide +kernel
theorem own_d15_17 : decode jdk_52_method_16_code 17 = .ok (.if_icmp .eq 40, 3) := by decide +kernel
theorem own_d15_20 : decode jdk_52_method_16_code 20 = .ok (.aload_n 0, 1) := by decide +kernel
theorem own_d15_21 : decode jdk_52_method_16_code 21 = .ok (.iload_n 1, 1) := by decide +kernel
theorem own_d15_22 : decode jdk_52_method_16_code 22 = .ok (.iload_n 2, 1) := by decide +kernel
theorem own_d15_23 : decode jdk_52_method_16_code 23 = .ok (.invokestatic 119, 3) := by decide +kernel
theorem own_d15_26 : decode jdk_52_method_16_code 26 = .ok (.astore 5, 2) := by decide +kernel
theorem own_d15_28 : decode jdk_52_method_16_code 28 = .ok (.aload 5, 2) := by decide +kernel
theorem own_d15_30 : decode jdk_52_method_16_code 30 = .ok (.iload 4, 2) := by decide +kernel
theorem own_d15_32 : decode jdk_52_method_16_code 32 = .ok (.invokestatic 71, 3) := by decide +kernel
theorem own_d15_35 : decode jdk_52_method_16_code 35 = .ok (.sipush 255, 3) := by decide +kernel
theorem own_d15_38 : decode jdk_52_method_16_code 38 = .ok (.if_icmp .gt 16, 3) := by decide +kernel
theorem own_d15_54 : decode jdk_52_method_16_code 54 = .ok (.aload 5, 2) := by decide +kernel
theorem own_d15_56 : decode jdk_52_method_16_code 56 = .ok (.areturn, 1) := by decide +kernel
theorem own_d15_57 : decode jdk_52_method_16_code 57 = .ok (.aload_n 3, 1) := by decide +kernel
theorem own_d15_58 : decode jdk_52_method_16_code 58 = .ok (.areturn, 1) := by decide +kernel
theorem own_d16_0 : decode jdk_52_method_21_code 0 = .ok (.iconst 0, 1) := by decide +kernel
theorem own_d16_1 : decode jdk_52_method_21_code 1 = .ok (.istore 5, 2) := by decide +kernel
theorem own_d16_3 : decode jdk_52_method_21_code 3 = .ok (.iload 5, 2) := by decide +kernel
theorem own_d16_5 : decode jdk_52_method_21_code 5 = .ok (.iload 4, 2) := by decide +kernel
theorem own_d16_7 : decode jdk_52_method_21_code 7 = .ok (.if_icmp .ge 37, 3) := by decide +kernel
theorem own_d16_10 : decode jdk_52_method_21_code 10 = .ok (.aload_n 0, 1) := by decide +kernel
theorem own_d16_11 : decode jdk_52_method_21_code 11 = .ok (.iload_n 1, 1) := by decide +kernel
theorem own_d16_12 : decode jdk_52_method_21_code 12 = .ok (.caload, 1) := by decide +kernel
theorem own_d16_13 : decode jdk_52_method_21_code 13 = .ok (.istore 6, 2) := by decide +kernel
theorem own_d16_15 : decode jdk_52_method_21_code 15 = .ok (.iload 6, 2) := by decide +kernel
theorem own_d16_17 : decode jdk_52_method_21_code 17 = .ok (.sipush 255, 3) := by decide +kernel
theorem own_d16_20 : decode jdk_52_method_21_code 20 = .ok (.if_icmp .le 6, 3) := by decide +kernel
theorem own_d16_23 : decode jdk_52_method_21_code 23 = .ok (.iload 5, 2) := by decide +kernel
theorem own_d16_25 : decode jdk_52_method_21_code 25 = .ok (.ireturn, 1) := by decide +kernel
theorem own_d16_26 : decode jdk_52_method_21_code 26 = .ok (.aload_n 2, 1) := by decide +kernel
theorem own_d16_27 : decode jdk_52_method_21_code 27 = .ok (.iload_n 3, 1) := by decide +kernel
theorem own_d16_28 : decode jdk_52_method_21_code 28 = .ok (.iload 6, 2) := by decide +kernel
theorem own_d16_30 : decode jdk_52_method_21_code 30 = .ok (.i2b, 1) := by decide +kernel
theorem own_d16_31 : decode jdk_52_method_21_code 31 = .ok (.bastore, 1) := by decide +kernel
theorem own_d16_32 : decode jdk_52_method_21_code 32 = .ok (.iinc 1 1, 3) := by decide +kernel
theorem own_d16_35 : decode jdk_52_method_21_code 35 = .ok (.iinc 3 1, 3) := by decide +kernel
theorem own_d16_38 : decode jdk_52_method_21_code 38 = .ok (.iinc 5 1, 3) := by decide +kernel
theorem own_d16_41 : decode jdk_52_method_21_code 41 = .ok (.goto (-38), 3) := by decide +kernel
theorem own_d16_44 : decode jdk_52_method_21_code 44 = .ok (.iload 4, 2) := by decide +kernel
theorem own_d16_46 : decode jdk_52_method_21_code 46 = .ok (.ireturn, 1) := by decide +kernel
theorem own_d17_0 : decode jdk_52_method_15_code 0 = .ok (.iload_n 1, 1) := by decide +kernel
theorem own_d17_1 : decode jdk_52_method_15_code 1 = .ok (.aload_n 0, 1) := by decide +kernel
theorem own_d17_2 : decode jdk_52_method_15_code 2 = .ok (.arraylength, 1) := by decide +kernel
theorem own_d17_3 : decode jdk_52_method_15_code 3 = .ok (.isub, 1) := by decide +kernel
theorem own_d17_4 : decode jdk_52_method_15_code 4 = .ok (.bipush 31, 2) := by decide +kernel
theorem own_d17_6 : decode jdk_52_method_15_code 6 = .ok (.iushr, 1) := by decide +kernel
theorem own_d17_7 : decode jdk_52_method_15_code 7 = .ok (.i2b, 1) := by decide +kernel
theorem own_d17_8 : decode jdk_52_method_15_code 8 = .ok (.ireturn, 1) := by decide +kernel
theorem own_d18_0 : decode jdk_43_method_23_code 0 = .ok (.iload_n 1, 1) := by decide +kernel
theorem own_d18_1 : decode jdk_43_method_23_code 1 = .ok (.i2b, 1) := by decide +kernel
theorem own_d18_2 : decode jdk_43_method_23_code 2 = .ok (.istore 4, 2) := by decide +kernel
theorem own_d18_4 : decode jdk_43_method_23_code 4 = .ok (.iload_n 2, 1) := by decide +kernel
theorem own_d18_5 : decode jdk_43_method_23_code 5 = .ok (.istore 5, 2) := by decide +kernel
theorem own_d18_7 : decode jdk_43_method_23_code 7 = .ok (.iload 5, 2) := by decide +kernel
theorem own_d18_9 : decode jdk_43_method_23_code 9 = .ok (.iload_n 3, 1) := by decide +kernel
theorem own_d18_10 : decode jdk_43_method_23_code 10 = .ok (.if_icmp .ge 21, 3) := by decide +kernel
theorem own_d18_13 : decode jdk_43_method_23_code 13 = .ok (.aload_n 0, 1) := by decide +kernel
theorem own_d18_14 : decode jdk_43_method_23_code 14 = .ok (.iload 5, 2) := by decide +kernel
theorem own_d18_16 : decode jdk_43_method_23_code 16 = .ok (.baload, 1) := by decide +kernel
theorem own_d18_17 : decode jdk_43_method_23_code 17 = .ok (.iload 4, 2) := by decide +kernel
theorem own_d18_19 : decode jdk_43_method_23_code 19 = .ok (.if_icmp .ne 6, 3) := by decide +kernel
theorem own_d18_22 : decode jdk_43_method_23_code 22 = .ok (.iload 5, 2) := by decide +kernel
theorem own_d18_24 : decode jdk_43_method_23_code 24 = .ok (.ireturn, 1) := by decide +kernel
theorem own_d18_25 : decode jdk_43_method_23_code 25 = .ok (.iinc 5 1, 3) := by decide +kernel
theorem own_d18_28 : decode jdk_43_method_23_code 28 = .ok (.goto (-21), 3) := by decide +kernel
theorem own_d18_31 : decode jdk_43_method_23_code 31 = .ok (.iconst (-1), 1) := by decide +kernel
theorem own_d18_32 : decode jdk_43_method_23_code 32 = .ok (.ireturn, 1) := by decide +kernel
theorem own_d19_0 : decode jdk_52_method_14_code 0 = .ok (.iload_n 2, 1) := by decide +kernel
theorem own_d19_1 : decode jdk_52_method_14_code 1 = .ok (.invokestatic 107, 3) := by decide +kernel
theorem own_d19_4 : decode jdk_52_method_14_code 4 = .ok (.astore_n 3, 1) := by decide +kernel
theorem own_d19_5 : decode jdk_52_method_14_code 5 = .ok (.iconst 0, 1) := by decide +kernel
theorem own_d19_6 : decode jdk_52_method_14_code 6 = .ok (.istore 4, 2) := by decide +kernel
theorem own_d19_8 : decode jdk_52_method_14_code 8 = .ok (.iload 4, 2) := by decide +kernel
theorem own_d19_10 : decode jdk_52_method_14_code 10 = .ok (.iload_n 2, 1) := by decide +kernel
theorem own_d19_11 : decode jdk_52_method_14_code 11 = .ok (.if_icmp .ge 21, 3) := by decide +kernel
theorem own_d19_14 : decode jdk_52_method_14_code 14 = .ok (.aload_n 3, 1) := by decide +kernel
theorem own_d19_15 : decode jdk_52_method_14_code 15 = .ok (.iload 4, 2) := by decide +kernel
theorem own_d19_17 : decode jdk_52_method_14_code 17 = .ok (.aload_n 0, 1) := by decide +kernel
theorem own_d19_18 : decode jdk_52_method_14_code 18 = .ok (.iload_n 1, 1) := by decide +kernel
theorem own_d19_19 : decode jdk_52_method_14_code 19 = .ok (.caload, 1) := by decide +kernel
theorem own_d19_20 : decode jdk_52_method_14_code 20 = .ok (.invokestatic 111, 3) := by decide +kernel
theorem own_d19_23 : decode jdk_52_method_14_code 23 = .ok (.iinc 1 1, 3) := by decide +kernel
theorem own_d19_26 : decode jdk_52_method_14_code 26 = .ok (.iinc 4 1, 3) := by decide +kernel
theorem own_d19_29 : decode jdk_52_method_14_code 29 = .ok (.goto (-21), 3) := by decide +kernel
theorem own_d19_32 : decode jdk_52_method_14_code 32 = .ok (.aload_n 3, 1) := by decide +kernel
theorem own_d19_33 : decode jdk_52_method_14_code 33 = .ok (.areturn, 1) := by decide +kernel
theorem own_d20_0 : decode jdk_52_method_2_code 0 = .ok (.iload_n 0, 1) := by decide +kernel
theorem own_d20_1 : decode jdk_52_method_2_code 1 = .ok (.invokestatic 11, 3) := by decide +kernel
theorem own_d20_4 : decode jdk_52_method_2_code 4 = .ok (.newarray .byte, 2) := by decide +kernel
theorem own_d20_6 : decode jdk_52_method_2_code 6 = .ok (.areturn, 1) := by decide +kernel
theorem own_d21_0 : decode jdk_52_method_3_code 0 = .ok (.iload_n 0, 1) := by decide +kernel
theorem own_d21_1 : decode jdk_52_method_3_code 1 = .ok (.ifCond .ge 11, 3) := by decide +kernel
theorem own_d21_12 : decode jdk_52_method_3_code 12 = .ok (.iload_n 0, 1) := by decide +kernel
theorem own_d21_13 : decode jdk_52_method_3_code 13 = .ok (.ldc 20, 2) := by decide +kernel
theorem own_d21_15 : decode jdk_52_method_3_code 15 = .ok (.if_icmp .lt 40, 3) := by decide +kernel
theorem own_d21_55 : decode jdk_52_method_3_code 55 = .ok (.iload_n 0, 1) := by decide +kernel
theorem own_d21_56 : decode jdk_52_method_3_code 56 = .ok (.iconst 1, 1) := by decide +kernel
theorem own_d21_57 : decode jdk_52_method_3_code 57 = .ok (.ishl, 1) := by decide +kernel
theorem own_d21_58 : decode jdk_52_method_3_code 58 = .ok (.ireturn, 1) := by decide +kernel
theorem own_d22_0 : decode jdk_52_method_4_code 0 = .ok (.getstatic 44, 3) := by decide +kernel
theorem own_d22_3 : decode jdk_52_method_4_code 3 = .ok (.ifCond .ne 25, 3) := by decide +kernel
theorem own_d22_28 : decode jdk_52_method_4_code 28 = .ok (.iload_n 1, 1) := by decide +kernel
theorem own_d22_29 : decode jdk_52_method_4_code 29 = .ok (.iconst 1, 1) := by decide +kernel
theorem own_d22_30 : decode jdk_52_method_4_code 30 = .ok (.ishl, 1) := by decide +kernel
theorem own_d22_31 : decode jdk_52_method_4_code 31 = .ok (.istore_n 1, 1) := by decide +kernel
theorem own_d22_32 : decode jdk_52_method_4_code 32 = .ok (.aload_n 0, 1) := by decide +kernel
theorem own_d22_33 : decode jdk_52_method_4_code 33 = .ok (.iload_n 1, 1) := by decide +kernel
theorem own_d22_34 : decode jdk_52_method_4_code 34 = .ok (.iinc 1 1, 3) := by decide +kernel
theorem own_d22_37 : decode jdk_52_method_4_code 37 = .ok (.iload_n 2, 1) := by decide +kernel
theorem own_d22_38 : decode jdk_52_method_4_code 38 = .ok (.getstatic 59, 3) := by decide +kernel
theorem own_d22_41 : decode jdk_52_method_4_code 41 = .ok (.ishr, 1) := by decide +kernel
theorem own_d22_42 : decode jdk_52_method_4_code 42 = .ok (.i2b, 1) := by decide +kernel
theorem own_d22_43 : decode jdk_52_method_4_code 43 = .ok (.bastore, 1) := by decide +kernel
theorem own_d22_44 : decode jdk_52_method_4_code 44 = .ok (.aload_n 0, 1) := by decide +kernel
theorem own_d22_45 : decode jdk_52_method_4_code 45 = .ok (.iload_n 1, 1) := by decide +kernel
theorem own_d22_46 : decode jdk_52_method_4_code 46 = .ok (.iload_n 2, 1) := by decide +kernel
theorem own_d22_47 : decode jdk_52_method_4_code 47 = .ok (.getstatic 63, 3) := by decide +kernel
theorem own_d22_50 : decode jdk_52_method_4_code 50 = .ok (.ishr, 1) := by decide +kernel
theorem own_d22_51 : decode jdk_52_method_4_code 51 = .ok (.i2b, 1) := by decide +kernel
theorem own_d22_52 : decode jdk_52_method_4_code 52 = .ok (.bastore, 1) := by decide +kernel
theorem own_d22_53 : decode jdk_52_method_4_code 53 = .ok (.return_, 1) := by decide +kernel
theorem own_d23_0 : decode jdk_52_method_5_code 0 = .ok (.getstatic 44, 3) := by decide +kernel
theorem own_d23_3 : decode jdk_52_method_5_code 3 = .ok (.ifCond .ne 25, 3) := by decide +kernel
theorem own_d23_28 : decode jdk_52_method_5_code 28 = .ok (.iload_n 1, 1) := by decide +kernel
theorem own_d23_29 : decode jdk_52_method_5_code 29 = .ok (.iconst 1, 1) := by decide +kernel
theorem own_d23_30 : decode jdk_52_method_5_code 30 = .ok (.ishl, 1) := by decide +kernel
theorem own_d23_31 : decode jdk_52_method_5_code 31 = .ok (.istore_n 1, 1) := by decide +kernel
theorem own_d23_32 : decode jdk_52_method_5_code 32 = .ok (.aload_n 0, 1) := by decide +kernel
theorem own_d23_33 : decode jdk_52_method_5_code 33 = .ok (.iload_n 1, 1) := by decide +kernel
theorem own_d23_34 : decode jdk_52_method_5_code 34 = .ok (.iinc 1 1, 3) := by decide +kernel
theorem own_d23_37 : decode jdk_52_method_5_code 37 = .ok (.baload, 1) := by decide +kernel
theorem own_d23_38 : decode jdk_52_method_5_code 38 = .ok (.sipush 255, 3) := by decide +kernel
theorem own_d23_41 : decode jdk_52_method_5_code 41 = .ok (.iand, 1) := by decide +kernel
theorem own_d23_42 : decode jdk_52_method_5_code 42 = .ok (.getstatic 59, 3) := by decide +kernel
theorem own_d23_45 : decode jdk_52_method_5_code 45 = .ok (.ishl, 1) := by decide +kernel
theorem own_d23_46 : decode jdk_52_method_5_code 46 = .ok (.aload_n 0, 1) := by decide +kernel
theorem own_d23_47 : decode jdk_52_method_5_code 47 = .ok (.iload_n 1, 1) := by decide +kernel
theorem own_d23_48 : decode jdk_52_method_5_code 48 = .ok (.baload, 1) := by decide +kernel
theorem own_d23_49 : decode jdk_52_method_5_code 49 = .ok (.sipush 255, 3) := by decide +kernel
theorem own_d23_52 : decode jdk_52_method_5_code 52 = .ok (.iand, 1) := by decide +kernel
theorem own_d23_53 : decode jdk_52_method_5_code 53 = .ok (.getstatic 63, 3) := by decide +kernel
theorem own_d23_56 : decode jdk_52_method_5_code 56 = .ok (.ishl, 1) := by decide +kernel
theorem own_d23_57 : decode jdk_52_method_5_code 57 = .ok (.ior, 1) := by decide +kernel
theorem own_d23_58 : decode jdk_52_method_5_code 58 = .ok (.i2c, 1) := by decide +kernel
theorem own_d23_59 : decode jdk_52_method_5_code 59 = .ok (.ireturn, 1) := by decide +kernel
theorem own_d24_0 : decode jdk_52_method_40_code 0 = .ok (.iload_n 2, 1) := by decide +kernel
theorem own_d24_1 : decode jdk_52_method_40_code 1 = .ok (.iconst 0, 1) := by decide +kernel
theorem own_d24_2 : decode jdk_52_method_40_code 2 = .ok (.invokestatic 224, 3) := by decide +kernel
theorem own_d24_5 : decode jdk_52_method_40_code 5 = .ok (.istore_n 2, 1) := by decide +kernel
theorem own_d24_6 : decode jdk_52_method_40_code 6 = .ok (.iload_n 3, 1) := by decide +kernel
theorem own_d24_7 : decode jdk_52_method_40_code 7 = .ok (.aload_n 0, 1) := by decide +kernel
theorem own_d24_8 : decode jdk_52_method_40_code 8 = .ok (.arraylength, 1) := by decide +kernel
theorem own_d24_9 : decode jdk_52_method_40_code 9 = .ok (.iconst 1, 1) := by decide +kernel
theorem own_d24_10 : decode jdk_52_method_40_code 10 = .ok (.ishr, 1) := by decide +kernel
theorem own_d24_11 : decode jdk_52_method_40_code 11 = .ok (.invokestatic 183, 3) := by decide +kernel
theorem own_d24_14 : decode jdk_52_method_40_code 14 = .ok (.istore_n 3, 1) := by decide +kernel
theorem own_d24_15 : decode jdk_52_method_40_code 15 = .ok (.iload_n 2, 1) := by decide +kernel
theorem own_d24_16 : decode jdk_52_method_40_code 16 = .ok (.iload_n 3, 1) := by decide +kernel
theorem own_d24_17 : decode jdk_52_method_40_code 17 = .ok (.if_icmp .lt 5, 3) := by decide +kernel
theorem own_d24_20 : decode jdk_52_method_40_code 20 = .ok (.iconst (-1), 1) := by decide +kernel
theorem own_d24_21 : decode jdk_52_method_40_code 21 = .ok (.ireturn, 1) := by decide +kernel
theorem own_d24_22 : decode jdk_52_method_40_code 22 = .ok (.iload_n 1, 1) := by decide +kernel
theorem own_d24_23 : decode jdk_52_method_40_code 23 = .ok (.ldc 227, 2) := by decide +kernel
theorem own_d24_25 : decode jdk_52_method_40_code 25 = .ok (.if_icmp .ge 11, 3) := by decide +kernel
theorem own_d24_28 : decode jdk_52_method_40_code 28 = .ok (.aload_n 0, 1) := by decide +kernel
theorem own_d24_29 : decode jdk_52_method_40_code 29 = .ok (.iload_n 1, 1) := by decide +kernel
theorem own_d24_30 : decode jdk_52_method_40_code 30 = .ok (.iload_n 2, 1) := by decide +kernel
theorem own_d24_31 : decode jdk_52_method_40_code 31 = .ok (.iload_n 3, 1) := by decide +kernel
theorem own_d24_32 : decode jdk_52_method_40_code 32 = .ok (.invokestatic 228, 3) := by decide +kernel
theorem own_d24_35 : decode jdk_52_method_40_code 35 = .ok (.ireturn, 1) := by decide +kernel
theorem own_d25_0 : decode jdk_52_method_47_code 0 = .ok (.iload_n 2, 1) := by decide +kernel
theorem own_d25_1 : decode jdk_52_method_47_code 1 = .ok (.iload_n 3, 1) := by decide +kernel
theorem own_d25_2 : decode jdk_52_method_47_code 2 = .ok (.aload_n 0, 1) := by decide +kernel
theorem own_d25_3 : decode jdk_52_method_47_code 3 = .ok (.invokestatic 96, 3) := by decide +kernel
theorem own_d25_6 : decode jdk_52_method_47_code 6 = .ok (.aload_n 0, 1) := by decide +kernel
theorem own_d25_7 : decode jdk_52_method_47_code 7 = .ok (.iload_n 1, 1) := by decide +kernel
theorem own_d25_8 : decode jdk_52_method_47_code 8 = .ok (.iload_n 2, 1) := by decide +kernel
theorem own_d25_9 : decode jdk_52_method_47_code 9 = .ok (.iload_n 3, 1) := by decide +kernel
theorem own_d25_10 : decode jdk_52_method_47_code 10 = .ok (.invokestatic 244, 3) := by decide +kernel
theorem own_d25_13 : decode jdk_52_method_47_code 13 = .ok (.ireturn, 1) := by decide +kernel
theorem own_d26_0 : decode jdk_52_method_93_code 0 = .ok (.iload_n 0, 1) := by decide +kernel
theorem own_d26_1 : decode jdk_52_method_93_code 1 = .ok (.iload_n 1, 1) := by decide +kernel
theorem own_d26_2 : decode jdk_52_method_93_code 2 = .ok (.aload_n 2, 1) := by decide +kernel
theorem own_d26_3 : decode jdk_52_method_93_code 3 = .ok (.invokestatic 48, 3) := by decide +kernel
theorem own_d26_6 : decode jdk_52_method_93_code 6 = .ok (.invokestatic 241, 3) := by decide +kernel
theorem own_d26_9 : decode jdk_52_method_93_code 9 = .ok (.return_, 1) := by decide +kernel
theorem own_d27_0 : decode jdk_52_method_6_code 0 = .ok (.aload_n 0, 1) := by decide +kernel
theorem own_d27_1 : decode jdk_52_method_6_code 1 = .ok (.arraylength, 1) := by decide +kernel
theorem own_d27_2 : decode jdk_52_method_6_code 2 = .ok (.iconst 1, 1) := by decide +kernel
theorem own_d27_3 : decode jdk_52_method_6_code 3 = .ok (.ishr, 1) := by decide +kernel
theorem own_d27_4 : decode jdk_52_method_6_code 4 = .ok (.ireturn, 1) := by decide +kernel
theorem own_d28_0 : decode jdk_42_method_158_code 0 = .ok (.iload_n 0, 1) := by decide +kernel
theorem own_d28_1 : decode jdk_42_method_158_code 1 = .ok (.iload_n 1, 1) := by decide +kernel
theorem own_d28_2 : decode jdk_42_method_158_code 2 = .ok (.iload_n 2, 1) := by decide +kernel
theorem own_d28_3 : decode jdk_42_method_158_code 3 = .ok (.getstatic 1053, 3) := by decide +kernel
theorem own_d28_6 : decode jdk_42_method_158_code 6 = .ok (.invokestatic 1062, 3) := by decide +kernel
theorem own_d28_9 : decode jdk_42_method_158_code 9 = .ok (.pop, 1) := by decide +kernel
theorem own_d28_10 : decode jdk_42_method_158_code 10 = .ok (.return_, 1) := by decide +kernel
theorem own_d29_0 : decode jdk_41_method_12_code 0 = .ok (.iload_n 0, 1) := by decide +kernel
theorem own_d29_1 : decode jdk_41_method_12_code 1 = .ok (.ifCond .lt 13, 3) := by decide +kernel
theorem own_d29_4 : decode jdk_41_method_12_code 4 = .ok (.iload_n 0, 1) := by decide +kernel
theorem own_d29_5 : decode jdk_41_method_12_code 5 = .ok (.iload_n 1, 1) := by decide +kernel
theorem own_d29_6 : decode jdk_41_method_12_code 6 = .ok (.if_icmp .gt 8, 3) := by decide +kernel
theorem own_d29_9 : decode jdk_41_method_12_code 9 = .ok (.iload_n 1, 1) := by decide +kernel
theorem own_d29_10 : decode jdk_41_method_12_code 10 = .ok (.iload_n 2, 1) := by decide +kernel
theorem own_d29_11 : decode jdk_41_method_12_code 11 = .ok (.if_icmp .le 11, 3) := by decide +kernel
theorem own_d29_22 : decode jdk_41_method_12_code 22 = .ok (.iload_n 0, 1) := by decide +kernel
theorem own_d29_23 : decode jdk_41_method_12_code 23 = .ok (.ireturn, 1) := by decide +kernel
theorem own_d30_0 : decode jdk_52_method_48_code 0 = .ok (.iload_n 2, 1) := by decide +kernel
theorem own_d30_1 : decode jdk_52_method_48_code 1 = .ok (.istore 4, 2) := by decide +kernel
theorem own_d30_3 : decode jdk_52_method_48_code 3 = .ok (.iload 4, 2) := by decide +kernel
theorem own_d30_5 : decode jdk_52_method_48_code 5 = .ok (.iload_n 3, 1) := by decide +kernel
theorem own_d30_6 : decode jdk_52_method_48_code 6 = .ok (.if_icmp .ge 22, 3) := by decide +kernel
theorem own_d30_9 : decode jdk_52_method_48_code 9 = .ok (.aload_n 0, 1) := by decide +kernel
theorem own_d30_10 : decode jdk_52_method_48_code 10 = .ok (.iload 4, 2) := by decide +kernel
theorem own_d30_12 : decode jdk_52_method_48_code 12 = .ok (.invokestatic 71, 3) := by decide +kernel
theorem own_d30_15 : decode jdk_52_method_48_code 15 = .ok (.iload_n 1, 1) := by decide +kernel
theorem own_d30_16 : decode jdk_52_method_48_code 16 = .ok (.if_icmp .ne 6, 3) := by decide +kernel
theorem own_d30_19 : decode jdk_52_method_48_code 19 = .ok (.iload 4, 2) := by decide +kernel
theorem own_d30_21 : decode jdk_52_method_48_code 21 = .ok (.ireturn, 1) := by decide +kernel
theorem own_d30_22 : decode jdk_52_method_48_code 22 = .ok (.iinc 4 1, 3) := by decide +kernel
theorem own_d30_25 : decode jdk_52_method_48_code 25 = .ok (.goto (-22), 3) := by decide +kernel
theorem own_d30_28 : decode jdk_52_method_48_code 28 = .ok (.iconst (-1), 1) := by decide +kernel
theorem own_d30_29 : decode jdk_52_method_48_code 29 = .ok (.ireturn, 1) := by decide +kernel
theorem own_wS {Z : State} {a0 : Array Value} (hw : ∀ d ∈ tables_1, d.before a0 Z = true) : ∀ a ∈ Bundle.stringAtoms, a.before a0 Z = true := by
  intro a ha
  simp only [Bundle.stringAtoms, List.mem_cons, List.not_mem_nil, or_false] at ha
  rcases ha with rfl | rfl | rfl | rfl | rfl | rfl | rfl
  · exact (hw _ (List.mem_of_getElem? (i := 7) rfl))
  · exact (hw _ (List.mem_of_getElem? (i := 6) rfl))
  · exact (hw _ (List.mem_of_getElem? (i := 20) rfl))
  · exact (hw _ (List.mem_of_getElem? (i := 21) rfl))
  · exact (hw _ (List.mem_of_getElem? (i := 22) rfl))
  · exact (hw _ (List.mem_of_getElem? (i := 23) rfl))
  · exact (hw _ (List.mem_of_getElem? (i := 24) rfl))
theorem own_pd0 : parseMethodDescriptor "([BII)V" = some ⟨[(.array .byte), .int, .int], none⟩ := by decide +kernel
set_option maxRecDepth 65536 in
set_option maxHeartbeats 40000000 in
theorem own_put (l : Launch) (Z : State) (a0 : Array Value) (hw : ∀ d ∈ tables_1, d.before a0 Z = true) (b : Addr) (kb : ClassId) (M : Nat) (vs : List Value) (i : Nat) (ch : Int32) (h0 : Heap) (O0 : own_Old Z h0) (g0_V : Arv Z h0 b kb .byte (Int32.ofNat M) vs (.int (0 : Int32))) (g1_G : Z.heap.size ≤ b) (g2_hM : M < 2147483648) (g3_hi : 2 * i + 1 < M) (g4_hl : vs.length = M) (g5_S : Sta Z Z.heap "java/lang/StringUTF16" "$assertionsDisabled" "Z" (.int (1 : Int32))) (g6_S : Sta Z Z.heap "java/lang/StringUTF16" "HI_BYTE_SHIFT" "I" (.int (0 : Int32))) (g7_S : Sta Z Z.heap "java/lang/StringUTF16" "LO_BYTE_SHIFT" "I" (.int (8 : Int32))) :
    own_Con l Z (⟨"java/lang/StringUTF16", "putChar", "([BII)V"⟩ : MethodName) jdk_52_method_4_code 3 none [] ({ frames := 0, cells := 0, slots := 0, locals := 0 } : Room) #[(.ref b), (.int (Int32.ofNat i)), (.int ch)] h0 (fun rv rh rL => rv = none ∧ own_Fr Z rL ∧ Keep h0 rh [b] ∧ (Arv Z rh b kb .byte (Int32.ofNat M) ((vs.set (2 * i) (.int (own_lo ch))).set (2 * i + 1) (.int (own_hi ch))) (.int (0 : Int32)))) := by
  refine own_intro (plainFor_of_name (by first | (simp [plainName, overriddenIn]; done) | decide +kernel)) ?_
  intro p e s m below meth c s₁ G hx hby hml hown hnm hret hZ X0 e0 hG hR
  have N0 := Fr.nil Z.heap.size
  refine own_entry (Ls := #[.val (.ref b), .val (.int (Int32.ofNat i)), .val (.int ch)]) (by first | (simp [entryFrame, mkF, argsToLocals, Value.category]; done) | rfl) ?_
  show G (s₁.setTop (mkF m 0 #[.val (.ref b), .val (.int (Int32.ofNat i)), .val (.int ch)] []))
  obtain ⟨T1, X1, e1, st1⟩ := getS2 X0 hx hZ hown (host := "") (Or.inl (hw _ (List.mem_of_getElem? (i := 97) rfl))) Via.refl e0 (own_sta g5_S O0) (g := (mkF m 0 #[.val (.ref b), .val (.int (Int32.ofNat i)), .val (.int ch)] [])) rfl (hb hby own_d22_0)
  refine hG _ _ st1 ?_
  show G (T1.setTop (mkF m 3 #[.val (.ref b), .val (.int (Int32.ofNat i)), .val (.int ch)] [(.int (1 : Int32))]))
  refine hG _ _ (fun t_ k_ => XS.ifYes X1.here hx rfl (pc0 := 3) (pc' := 28) rfl (hb hby own_d22_3) rfl ((if0 _ _).trans (feq (by decide)).2) (by decide) (by decide) k_) ?_
  show G (T1.setTop (mkF m 28 #[.val (.ref b), .val (.int (Int32.ofNat i)), .val (.int ch)] []))
  refine hG _ _ (fun t_ k_ => XS.iloadN X1.here hx rfl (hb hby own_d22_28) rfl k_) ?_
  show G (T1.setTop (mkF m 29 #[.val (.ref b), .val (.int (Int32.ofNat i)), .val (.int ch)] [(.int (Int32.ofNat i))]))
  refine hG _ _ (fun t_ k_ => XS.iconst X1.here hx rfl (hb hby own_d22_29) k_) ?_
  show G (T1.setTop (mkF m 30 #[.val (.ref b), .val (.int (Int32.ofNat i)), .val (.int ch)] [(.int (1 : Int32)), (.int (Int32.ofNat i))]))
  refine hG _ _ (fun t_ k_ => XS.ishl X1.here hx rfl (hb hby own_d22_30) rfl k_) ?_
  show G (T1.setTop (mkF m 31 #[.val (.ref b), .val (.int (Int32.ofNat i)), .val (.int ch)] [(.int ((Int32.ofNat i) <<< ((1 : Int32) &&& 31)))]))
  refine hG _ _ (fun t_ k_ => XS.istoreN X1.here hx rfl (hb hby own_d22_31) rfl (l' := #[.val (.ref b), .val (.int ((Int32.ofNat i) <<< ((1 : Int32) &&& 31))), .val (.int ch)]) rfl k_) ?_
  show G (T1.setTop (mkF m 32 #[.val (.ref b), .val (.int ((Int32.ofNat i) <<< ((1 : Int32) &&& 31))), .val (.int ch)] []))
  rw [own_shl1 i]
  show G (T1.setTop (mkF m 32 #[.val (.ref b), .val (.int (Int32.ofNat (2 * i))), .val (.int ch)] []))
  refine hG _ _ (fun t_ k_ => XS.aloadN X1.here hx rfl (hb hby own_d22_32) rfl rfl k_) ?_
  show G (T1.setTop (mkF m 33 #[.val (.ref b), .val (.int (Int32.ofNat (2 * i))), .val (.int ch)] [(.ref b)]))
  refine hG _ _ (fun t_ k_ => XS.iloadN X1.here hx rfl (hb hby own_d22_33) rfl k_) ?_
  show G (T1.setTop (mkF m 34 #[.val (.ref b), .val (.int (Int32.ofNat (2 * i))), .val (.int ch)] [(.int (Int32.ofNat (2 * i))), (.ref b)]))
  refine hG _ _ (fun t_ k_ => XS.iinc X1.here hx rfl (hb hby own_d22_34) rfl (l' := #[.val (.ref b), .val (.int ((Int32.ofNat (2 * i)) + (1 : Int32))), .val (.int ch)]) rfl k_) ?_
  show G (T1.setTop (mkF m 37 #[.val (.ref b), .val (.int ((Int32.ofNat (2 * i)) + (1 : Int32))), .val (.int ch)] [(.int (Int32.ofNat (2 * i))), (.ref b)]))
  rw [own_inc (2 * i)]
  show G (T1.setTop (mkF m 37 #[.val (.ref b), .val (.int (Int32.ofNat (2 * i + 1))), .val (.int ch)] [(.int (Int32.ofNat (2 * i))), (.ref b)]))
  refine hG _ _ (fun t_ k_ => XS.iloadN X1.here hx rfl (hb hby own_d22_37) rfl k_) ?_
  show G (T1.setTop (mkF m 38 #[.val (.ref b), .val (.int (Int32.ofNat (2 * i + 1))), .val (.int ch)] [(.int ch), (.int (Int32.ofNat (2 * i))), (.ref b)]))
  obtain ⟨T2, X2, e2, st2⟩ := getS2 X1 hx hZ hown (host := "") (Or.inl (hw _ (List.mem_of_getElem? (i := 98) rfl))) Via.refl e1 (own_sta g6_S O0) (g := (mkF m 38 #[.val (.ref b), .val (.int (Int32.ofNat (2 * i + 1))), .val (.int ch)] [(.int ch), (.int (Int32.ofNat (2 * i))), (.ref b)])) rfl (hb hby own_d22_38)
  refine hG _ _ st2 ?_
  show G (T2.setTop (mkF m 41 #[.val (.ref b), .val (.int (Int32.ofNat (2 * i + 1))), .val (.int ch)] [(.int (0 : Int32)), (.int ch), (.int (Int32.ofNat (2 * i))), (.ref b)]))
  refine hG _ _ (fun t_ k_ => XS.ishr X2.here hx rfl (hb hby own_d22_41) rfl k_) ?_
  show G (T2.setTop (mkF m 42 #[.val (.ref b), .val (.int (Int32.ofNat (2 * i + 1))), .val (.int ch)] [(.int (ch >>> ((0 : Int32) &&& 31))), (.int (Int32.ofNat (2 * i))), (.ref b)]))
  refine hG _ _ (fun t_ k_ => XS.i2b X2.here hx rfl (hb hby own_d22_42) rfl k_) ?_
  show G (T2.setTop (mkF m 43 #[.val (.ref b), .val (.int (Int32.ofNat (2 * i + 1))), .val (.int ch)] [(.int ((ch >>> ((0 : Int32) &&& 31)).toInt8.toInt32)), (.int (Int32.ofNat (2 * i))), (.ref b)]))
  obtain ⟨c3, Ar3, q3, S3, M3, H3, G3⟩ := id g0_V
  obtain ⟨T3, h3, X3, e3, W3, st3⟩ := stB X2 hx hZ e2 Ar3 (j := (Int32.ofNat (2 * i))) (inb_of S3 ⟨own_nn (by omega), own_lt (by omega) g2_hM⟩) (g := (mkF m 43 #[.val (.ref b), .val (.int (Int32.ofNat (2 * i + 1))), .val (.int ch)] [(.int ((ch >>> ((0 : Int32) &&& 31)).toInt8.toInt32)), (.int (Int32.ofNat (2 * i))), (.ref b)])) rfl rfl (hb hby own_d22_43)
  refine hG _ _ st3 ?_
  have K3 : Keep h0 h3 [b] := (Keep.refl h0 [b]).wr W3 (Or.inl (List.mem_of_getElem? (i := 0) rfl))
  have O3 : own_Old Z h3 := O0.wr W3 g1_G
  have V3 : Arv Z h3 b kb .byte (Int32.ofNat M) (vs.set (2 * i) (.int (nar .byte ((ch >>> ((0 : Int32) &&& 31)).toInt8.toInt32)))) (.int (0 : Int32)) := Arv.set Ar3 q3 S3 M3 H3 G3 (fits_nar_byte _) W3 (2 * i) (own_clamp (by omega)) (by omega)
  have N3 := Fr.snoc X3 N0 g1_G
  show G (T3.setTop (mkF m 44 #[.val (.ref b), .val (.int (Int32.ofNat (2 * i + 1))), .val (.int ch)] []))
  refine hG _ _ (fun t_ k_ => XS.aloadN X3.here hx rfl (hb hby own_d22_44) rfl rfl k_) ?_
  show G (T3.setTop (mkF m 45 #[.val (.ref b), .val (.int (Int32.ofNat (2 * i + 1))), .val (.int ch)] [(.ref b)]))
  refine hG _ _ (fun t_ k_ => XS.iloadN X3.here hx rfl (hb hby own_d22_45) rfl k_) ?_
  show G (T3.setTop (mkF m 46 #[.val (.ref b), .val (.int (Int32.ofNat (2 * i + 1))), .val (.int ch)] [(.int (Int32.ofNat (2 * i + 1))), (.ref b)]))
  refine hG _ _ (fun t_ k_ => XS.iloadN X3.here hx rfl (hb hby own_d22_46) rfl k_) ?_
  show G (T3.setTop (mkF m 47 #[.val (.ref b), .val (.int (Int32.ofNat (2 * i + 1))), .val (.int ch)] [(.int ch), (.int (Int32.ofNat (2 * i + 1))), (.ref b)]))
  obtain ⟨T4, X4, e4, st4⟩ := getS2 X3 hx hZ hown (host := "") (Or.inl (hw _ (List.mem_of_getElem? (i := 99) rfl))) Via.refl e3 (own_sta g7_S O3) (g := (mkF m 47 #[.val (.ref b), .val (.int (Int32.ofNat (2 * i + 1))), .val (.int ch)] [(.int ch), (.int (Int32.ofNat (2 * i + 1))), (.ref b)])) rfl (hb hby own_d22_47)
  refine hG _ _ st4 ?_
  show G (T4.setTop (mkF m 50 #[.val (.ref b), .val (.int (Int32.ofNat (2 * i + 1))), .val (.int ch)] [(.int (8 : Int32)), (.int ch), (.int (Int32.ofNat (2 * i + 1))), (.ref b)]))
  refine hG _ _ (fun t_ k_ => XS.ishr X4.here hx rfl (hb hby own_d22_50) rfl k_) ?_
  show G (T4.setTop (mkF m 51 #[.val (.ref b), .val (.int (Int32.ofNat (2 * i + 1))), .val (.int ch)] [(.int (ch >>> ((8 : Int32) &&& 31))), (.int (Int32.ofNat (2 * i + 1))), (.ref b)]))
  refine hG _ _ (fun t_ k_ => XS.i2b X4.here hx rfl (hb hby own_d22_51) rfl k_) ?_
  show G (T4.setTop (mkF m 52 #[.val (.ref b), .val (.int (Int32.ofNat (2 * i + 1))), .val (.int ch)] [(.int ((ch >>> ((8 : Int32) &&& 31)).toInt8.toInt32)), (.int (Int32.ofNat (2 * i + 1))), (.ref b)]))
  obtain ⟨c5, Ar5, q5, S5, M5, H5, G5⟩ := id V3
  obtain ⟨T5, h5, X5, e5, W5, st5⟩ := stB X4 hx hZ e4 Ar5 (j := (Int32.ofNat (2 * i + 1))) (inb_of S5 ⟨own_nn (by omega), own_lt (by omega) g2_hM⟩) (g := (mkF m 52 #[.val (.ref b), .val (.int (Int32.ofNat (2 * i + 1))), .val (.int ch)] [(.int ((ch >>> ((8 : Int32) &&& 31)).toInt8.toInt32)), (.int (Int32.ofNat (2 * i + 1))), (.ref b)])) rfl rfl (hb hby own_d22_52)
  refine hG _ _ st5 ?_
  have K5 : Keep h0 h5 [b] := K3.wr W5 (Or.inl (List.mem_of_getElem? (i := 0) rfl))
  have O5 : own_Old Z h5 := O3.wr W5 g1_G
  have V5 : Arv Z h5 b kb .byte (Int32.ofNat M) ((vs.set (2 * i) (.int (nar .byte ((ch >>> ((0 : Int32) &&& 31)).toInt8.toInt32)))).set (2 * i + 1) (.int (nar .byte ((ch >>> ((8 : Int32) &&& 31)).toInt8.toInt32)))) (.int (0 : Int32)) := Arv.set Ar5 q5 S5 M5 H5 G5 (fits_nar_byte _) W5 (2 * i + 1) (own_clamp (by omega)) (by rw [List.length_set]; omega)
  have N5 := Fr.snoc X5 N3 g1_G
  show G (T5.setTop (mkF m 53 #[.val (.ref b), .val (.int (Int32.ofNat (2 * i + 1))), .val (.int ch)] []))
  exact own_retV hR hret X5 hx (hb hby own_d22_53) (by decide) (by decide) (by rw [e5]; exact ⟨rfl, N5, K5, V5⟩)
theorem own_pd1 : parseMethodDescriptor "([BI)C" = some ⟨[(.array .byte), .int], some .char⟩ := by decide +kernel
set_option maxRecDepth 65536 in
set_option maxHeartbeats 40000000 in
theorem own_gch (l : Launch) (Z : State) (a0 : Array Value) (hw : ∀ d ∈ tables_1, d.before a0 Z = true) (b : Addr) (kb : ClassId) (M : Nat) (vs : List Value) (i : Nat) (x : Int32) (y : Int32) (h0 : Heap) (O0 : own_Old Z h0) (g0_V : Arv Z h0 b kb .byte (Int32.ofNat M) vs (.int (0 : Int32))) (g1_hM : M < 2147483648) (g2_hi : 2 * i + 1 < M) (g3_hx : vs.getD (2 * i) (.int (0 : Int32)) = .int x) (g4_hy : vs.getD (2 * i + 1) (.int (0 : Int32)) = .int y) (g5_S : Sta Z Z.heap "java/lang/StringUTF16" "$assertionsDisabled" "Z" (.int (1 : Int32))) (g6_S : Sta Z Z.heap "java/lang/StringUTF16" "HI_BYTE_SHIFT" "I" (.int (0 : Int32))) (g7_S : Sta Z Z.heap "java/lang/StringUTF16" "LO_BYTE_SHIFT" "I" (.int (8 : Int32))) :
    own_Con l Z (⟨"java/lang/StringUTF16", "getChar", "([BI)C"⟩ : MethodName) jdk_52_method_5_code 2 (some .char) [] ({ frames := 0, cells := 0, slots := 0, locals := 0 } : Room) #[(.ref b), (.int (Int32.ofNat i))] h0 (fun rv rh rL => rv = some (.int (own_join x y)) ∧ own_Fr Z rL ∧ h0 = rh) := by
  refine own_intro (plainFor_of_name (by first | (simp [plainName, overriddenIn]; done) | decide +kernel)) ?_
  intro p e s m below meth c s₁ G hx hby hml hown hnm hret hZ X0 e0 hG hR
  have N0 := Fr.nil Z.heap.size
  refine own_entry (Ls := #[.val (.ref b), .val (.int (Int32.ofNat i))]) (by first | (simp [entryFrame, mkF, argsToLocals, Value.category]; done) | rfl) ?_
  show G (s₁.setTop (mkF m 0 #[.val (.ref b), .val (.int (Int32.ofNat i))] []))
  obtain ⟨T1, X1, e1, st1⟩ := getS2 X0 hx hZ hown (host := "") (Or.inl (hw _ (List.mem_of_getElem? (i := 97) rfl))) Via.refl e0 (own_sta g5_S O0) (g := (mkF m 0 #[.val (.ref b), .val (.int (Int32.ofNat i))] [])) rfl (hb hby own_d23_0)
  refine hG _ _ st1 ?_
  show G (T1.setTop (mkF m 3 #[.val (.ref b), .val (.int (Int32.ofNat i))] [(.int (1 : Int32))]))
  refine hG _ _ (fun t_ k_ => XS.ifYes X1.here hx rfl (pc0 := 3) (pc' := 28) rfl (hb hby own_d23_3) rfl ((if0 _ _).trans (feq (by decide)).2) (by decide) (by decide) k_) ?_
  show G (T1.setTop (mkF m 28 #[.val (.ref b), .val (.int (Int32.ofNat i))] []))
  refine hG _ _ (fun t_ k_ => XS.iloadN X1.here hx rfl (hb hby own_d23_28) rfl k_) ?_
  show G (T1.setTop (mkF m 29 #[.val (.ref b), .val (.int (Int32.ofNat i))] [(.int (Int32.ofNat i))]))
  refine hG _ _ (fun t_ k_ => XS.iconst X1.here hx rfl (hb hby own_d23_29) k_) ?_
  show G (T1.setTop (mkF m 30 #[.val (.ref b), .val (.int (Int32.ofNat i))] [(.int (1 : Int32)), (.int (Int32.ofNat i))]))
  refine hG _ _ (fun t_ k_ => XS.ishl X1.here hx rfl (hb hby own_d23_30) rfl k_) ?_
  show G (T1.setTop (mkF m 31 #[.val (.ref b), .val (.int (Int32.ofNat i))] [(.int ((Int32.ofNat i) <<< ((1 : Int32) &&& 31)))]))
  refine hG _ _ (fun t_ k_ => XS.istoreN X1.here hx rfl (hb hby own_d23_31) rfl (l' := #[.val (.ref b), .val (.int ((Int32.ofNat i) <<< ((1 : Int32) &&& 31)))]) rfl k_) ?_
  show G (T1.setTop (mkF m 32 #[.val (.ref b), .val (.int ((Int32.ofNat i) <<< ((1 : Int32) &&& 31)))] []))
  rw [own_shl1 i]
  show G (T1.setTop (mkF m 32 #[.val (.ref b), .val (.int (Int32.ofNat (2 * i)))] []))
  refine hG _ _ (fun t_ k_ => XS.aloadN X1.here hx rfl (hb hby own_d23_32) rfl rfl k_) ?_
  show G (T1.setTop (mkF m 33 #[.val (.ref b), .val (.int (Int32.ofNat (2 * i)))] [(.ref b)]))
  refine hG _ _ (fun t_ k_ => XS.iloadN X1.here hx rfl (hb hby own_d23_33) rfl k_) ?_
  show G (T1.setTop (mkF m 34 #[.val (.ref b), .val (.int (Int32.ofNat (2 * i)))] [(.int (Int32.ofNat (2 * i))), (.ref b)]))
  refine hG _ _ (fun t_ k_ => XS.iinc X1.here hx rfl (hb hby own_d23_34) rfl (l' := #[.val (.ref b), .val (.int ((Int32.ofNat (2 * i)) + (1 : Int32)))]) rfl k_) ?_
  show G (T1.setTop (mkF m 37 #[.val (.ref b), .val (.int ((Int32.ofNat (2 * i)) + (1 : Int32)))] [(.int (Int32.ofNat (2 * i))), (.ref b)]))
  rw [own_inc (2 * i)]
  show G (T1.setTop (mkF m 37 #[.val (.ref b), .val (.int (Int32.ofNat (2 * i + 1)))] [(.int (Int32.ofNat (2 * i))), (.ref b)]))
  obtain ⟨c2, Ar2, q2, S2, M2, H2, G2⟩ := id g0_V
  have hin2 : ¬ ((Int32.ofNat (2 * i)) < 0 ∨ c2.slots.size ≤ (Int32.ofNat (2 * i)).toNatClampNeg) := inb_of S2 ⟨own_nn (by omega), own_lt (by omega) g1_hM⟩
  refine hG _ _ (X1.baloadBytes hx (j := (Int32.ofNat (2 * i))) (v := (.int x)) (by rw [e1]; exact Ar2.1) (State.isArrayOf_alike hZ.alike Ar2.2.1) Ar2.2.2 hin2 (Has.at H2 hin2 (by rw [own_clamp (by omega)]; exact g3_hx)) (g := (mkF m 37 #[.val (.ref b), .val (.int (Int32.ofNat (2 * i + 1)))] [(.int (Int32.ofNat (2 * i))), (.ref b)])) rfl rfl (hb hby own_d23_37)) ?_
  show G (T1.setTop (mkF m 38 #[.val (.ref b), .val (.int (Int32.ofNat (2 * i + 1)))] [(.int x)]))
  refine hG _ _ (fun t_ k_ => XS.sipush X1.here hx rfl (hb hby own_d23_38) k_) ?_
  show G (T1.setTop (mkF m 41 #[.val (.ref b), .val (.int (Int32.ofNat (2 * i + 1)))] [(.int (255 : Int32)), (.int x)]))
  refine hG _ _ (fun t_ k_ => XS.iand X1.here hx rfl (hb hby own_d23_41) rfl k_) ?_
  show G (T1.setTop (mkF m 42 #[.val (.ref b), .val (.int (Int32.ofNat (2 * i + 1)))] [(.int (x &&& (255 : Int32)))]))
  obtain ⟨T3, X3, e3, st3⟩ := getS2 X1 hx hZ hown (host := "") (Or.inl (hw _ (List.mem_of_getElem? (i := 98) rfl))) Via.refl e1 (own_sta g6_S O0) (g := (mkF m 42 #[.val (.ref b), .val (.int (Int32.ofNat (2 * i + 1)))] [(.int (x &&& (255 : Int32)))])) rfl (hb hby own_d23_42)
  refine hG _ _ st3 ?_
  show G (T3.setTop (mkF m 45 #[.val (.ref b), .val (.int (Int32.ofNat (2 * i + 1)))] [(.int (0 : Int32)), (.int (x &&& (255 : Int32)))]))
  refine hG _ _ (fun t_ k_ => XS.ishl X3.here hx rfl (hb hby own_d23_45) rfl k_) ?_
  show G (T3.setTop (mkF m 46 #[.val (.ref b), .val (.int (Int32.ofNat (2 * i + 1)))] [(.int ((x &&& (255 : Int32)) <<< ((0 : Int32) &&& 31)))]))
  refine hG _ _ (fun t_ k_ => XS.aloadN X3.here hx rfl (hb hby own_d23_46) rfl rfl k_) ?_
  show G (T3.setTop (mkF m 47 #[.val (.ref b), .val (.int (Int32.ofNat (2 * i + 1)))] [(.ref b), (.int ((x &&& (255 : Int32)) <<< ((0 : Int32) &&& 31)))]))
  refine hG _ _ (fun t_ k_ => XS.iloadN X3.here hx rfl (hb hby own_d23_47) rfl k_) ?_
  show G (T3.setTop (mkF m 48 #[.val (.ref b), .val (.int (Int32.ofNat (2 * i + 1)))] [(.int (Int32.ofNat (2 * i + 1))), (.ref b), (.int ((x &&& (255 : Int32)) <<< ((0 : Int32) &&& 31)))]))
  obtain ⟨c4, Ar4, q4, S4, M4, H4, G4⟩ := id g0_V
  have hin4 : ¬ ((Int32.ofNat (2 * i + 1)) < 0 ∨ c4.slots.size ≤ (Int32.ofNat (2 * i + 1)).toNatClampNeg) := inb_of S4 ⟨own_nn (by omega), own_lt (by omega) g1_hM⟩
  refine hG _ _ (X3.baloadBytes hx (j := (Int32.ofNat (2 * i + 1))) (v := (.int y)) (by rw [e3]; exact Ar4.1) (State.isArrayOf_alike hZ.alike Ar4.2.1) Ar4.2.2 hin4 (Has.at H4 hin4 (by rw [own_clamp (by omega)]; exact g4_hy)) (g := (mkF m 48 #[.val (.ref b), .val (.int (Int32.ofNat (2 * i + 1)))] [(.int (Int32.ofNat (2 * i + 1))), (.ref b), (.int ((x &&& (255 : Int32)) <<< ((0 : Int32) &&& 31)))])) rfl rfl (hb hby own_d23_48)) ?_
  show G (T3.setTop (mkF m 49 #[.val (.ref b), .val (.int (Int32.ofNat (2 * i + 1)))] [(.int y), (.int ((x &&& (255 : Int32)) <<< ((0 : Int32) &&& 31)))]))
  refine hG _ _ (fun t_ k_ => XS.sipush X3.here hx rfl (hb hby own_d23_49) k_) ?_
  show G (T3.setTop (mkF m 52 #[.val (.ref b), .val (.int (Int32.ofNat (2 * i + 1)))] [(.int (255 : Int32)), (.int y), (.int ((x &&& (255 : Int32)) <<< ((0 : Int32) &&& 31)))]))
  refine hG _ _ (fun t_ k_ => XS.iand X3.here hx rfl (hb hby own_d23_52) rfl k_) ?_
  show G (T3.setTop (mkF m 53 #[.val (.ref b), .val (.int (Int32.ofNat (2 * i + 1)))] [(.int (y &&& (255 : Int32))), (.int ((x &&& (255 : Int32)) <<< ((0 : Int32) &&& 31)))]))
  obtain ⟨T5, X5, e5, st5⟩ := getS2 X3 hx hZ hown (host := "") (Or.inl (hw _ (List.mem_of_getElem? (i := 99) rfl))) Via.refl e3 (own_sta g7_S O0) (g := (mkF m 53 #[.val (.ref b), .val (.int (Int32.ofNat (2 * i + 1)))] [(.int (y &&& (255 : Int32))), (.int ((x &&& (255 : Int32)) <<< ((0 : Int32) &&& 31)))])) rfl (hb hby own_d23_53)
  refine hG _ _ st5 ?_
  show G (T5.setTop (mkF m 56 #[.val (.ref b), .val (.int (Int32.ofNat (2 * i + 1)))] [(.int (8 : Int32)), (.int (y &&& (255 : Int32))), (.int ((x &&& (255 : Int32)) <<< ((0 : Int32) &&& 31)))]))
  refine hG _ _ (fun t_ k_ => XS.ishl X5.here hx rfl (hb hby own_d23_56) rfl k_) ?_
  show G (T5.setTop (mkF m 57 #[.val (.ref b), .val (.int (Int32.ofNat (2 * i + 1)))] [(.int ((y &&& (255 : Int32)) <<< ((8 : Int32) &&& 31))), (.int ((x &&& (255 : Int32)) <<< ((0 : Int32) &&& 31)))]))
  refine hG _ _ (fun t_ k_ => XS.ior X5.here hx rfl (hb hby own_d23_57) rfl k_) ?_
  show G (T5.setTop (mkF m 58 #[.val (.ref b), .val (.int (Int32.ofNat (2 * i + 1)))] [(.int (((x &&& (255 : Int32)) <<< ((0 : Int32) &&& 31)) ||| ((y &&& (255 : Int32)) <<< ((8 : Int32) &&& 31))))]))
  refine hG _ _ (fun t_ k_ => XS.i2c X5.here hx rfl (hb hby own_d23_58) rfl k_) ?_
  show G (T5.setTop (mkF m 59 #[.val (.ref b), .val (.int (Int32.ofNat (2 * i + 1)))] [(.int ((((x &&& (255 : Int32)) <<< ((0 : Int32) &&& 31)) ||| ((y &&& (255 : Int32)) <<< ((8 : Int32) &&& 31))).toUInt32.toUInt16.toUInt32.toInt32))]))
  exact own_retN hR hret (by simp) X5 hx (hb hby own_d23_59) (by decide) (by decide) (by rw [e5]; exact ⟨rfl, N0, rfl⟩)
theorem own_pd2 : parseMethodDescriptor "([CI[BII)I" = some ⟨[(.array .char), .int, (.array .byte), .int, .int], some .int⟩ := by decide +kernel
set_option maxRecDepth 65536 in
set_option maxHeartbeats 40000000 in
theorem own_gcmp5 (l : Launch) (Z : State) (a0 : Array Value) (hw : ∀ d ∈ tables_1, d.before a0 Z = true) (a : Addr) (b : Addr) (ka : ClassId) (kb : ClassId) (cs : List Int32) (h0 : Heap) (O0 : own_Old Z h0) (g0_V : Arv Z h0 a ka .char (Int32.ofNat cs.length) (cs.map Value.int) (.int (0 : Int32))) (g1_V : Arv Z h0 b kb .byte (Int32.ofNat cs.length) [] (.int (0 : Int32))) (g2_G : Z.heap.size ≤ b) (g3_hne : a ≠ b) (g4_hlen : cs.length < 2147483648) :
    own_Con l Z (⟨"java/lang/StringUTF16", "compress", "([CI[BII)I"⟩ : MethodName) jdk_52_method_21_code 7 (some .int) [] ({ frames := 0, cells := 0, slots := 0, locals := 0 } : Room) #[(.ref a), (.int (0 : Int32)), (.ref b), (.int (0 : Int32)), (.int (Int32.ofNat cs.length))] h0 (fun rv rh rL => ∃ (r : Int32) (vs : List Value), rv = some (.int r) ∧ own_Fr Z rL ∧ Keep h0 rh [b] ∧ (Arv Z rh b kb .byte (Int32.ofNat cs.length) vs (.int (0 : Int32))) ∧ ((r = (Int32.ofNat cs.length) ∧ (∀ c ∈ cs, ¬ ((255 : Int32) < c)) ∧ vs = (cs.map fun c => Value.int c.toInt8.toInt32)) ∨ (∃ k, k < cs.length ∧ r = Int32.ofNat k ∧ (255 : Int32) < cs.getD k 0))) := by
  refine own_intro (plainFor_of_name (by first | (simp [plainName, overriddenIn]; done) | decide +kernel)) ?_
  intro p e s m below meth c s₁ G hx hby hml hown hnm hret hZ X0 e0 hG hR
  have N0 := Fr.nil Z.heap.size
  refine own_entry (Ls := #[.val (.ref a), .val (.int (0 : Int32)), .val (.ref b), .val (.int (0 : Int32)), .val (.int (Int32.ofNat cs.length)), .unset, .unset]) (by first | (simp [entryFrame, mkF, argsToLocals, Value.category]; done) | rfl) ?_
  show G (s₁.setTop (mkF m 0 #[.val (.ref a), .val (.int (0 : Int32)), .val (.ref b), .val (.int (0 : Int32)), .val (.int (Int32.ofNat cs.length)), .unset, .unset] []))
  refine hG _ _ (fun t_ k_ => XS.iconst X0.here hx rfl (hb hby own_d16_0) k_) ?_
  show G (s₁.setTop (mkF m 1 #[.val (.ref a), .val (.int (0 : Int32)), .val (.ref b), .val (.int (0 : Int32)), .val (.int (Int32.ofNat cs.length)), .unset, .unset] [(.int (0 : Int32))]))
  refine hG _ _ (fun t_ k_ => XS.istore X0.here hx rfl (hb hby own_d16_1) rfl (l' := #[.val (.ref a), .val (.int (0 : Int32)), .val (.ref b), .val (.int (0 : Int32)), .val (.int (Int32.ofNat cs.length)), .val (.int (0 : Int32)), .unset]) rfl k_) ?_
  show G (s₁.setTop (mkF m 3 #[.val (.ref a), .val (.int (0 : Int32)), .val (.ref b), .val (.int (0 : Int32)), .val (.int (Int32.ofNat cs.length)), .val (.int (0 : Int32)), .unset] []))
  have loop : ∀ (r i : Nat) (T : State) (locs : List Loc) (hT : Heap) (vs : List Value) (ch : Slot), r + i = cs.length → Stand p l e ({ frames := 0, cells := 0, slots := 0, locals := 0 } : Room) s m #[(.ref a), (.int (0 : Int32)), (.ref b), (.int (0 : Int32)), (.int (Int32.ofNat cs.length))] below meth c T locs 0 0 → T.heap = hT → Keep h0 hT [b] → own_Old Z hT → own_Fr Z locs → Arv Z hT b kb .byte (Int32.ofNat cs.length) vs (.int (0 : Int32)) → vs.length = cs.length → (∀ j, j < i → vs.getD j (.int (0 : Int32)) = Value.int (cs.getD j 0).toInt8.toInt32) → (∀ j, j < i → ¬ ((255 : Int32) < cs.getD j 0)) → One ch → G (T.setTop (mkF m 3 #[.val (.ref a), .val (.int (Int32.ofNat i)), .val (.ref b), .val (.int (Int32.ofNat i)), .val (.int (Int32.ofNat cs.length)), .val (.int (Int32.ofNat i)), ch] [])) := by
    intro r
    induction r with
    | zero =>
      intro i T locs hT vs ch hri X eT K O N V hl hv hs hch
      have hi : i = cs.length := by omega
      subst hi
      have hvs := own_mapEq (fun c : Int32 => Value.int c.toInt8.toInt32) cs vs (.int (0 : Int32)) 0 hl hv
      refine hG _ _ (fun t_ k_ => XS.iload X.here hx rfl (hb hby own_d16_3) rfl k_) ?_
      show G (T.setTop (mkF m 5 #[.val (.ref a), .val (.int (Int32.ofNat cs.length)), .val (.ref b), .val (.int (Int32.ofNat cs.length)), .val (.int (Int32.ofNat cs.length)), .val (.int (Int32.ofNat cs.length)), ch] [(.int (Int32.ofNat cs.length))]))
      refine hG _ _ (fun t_ k_ => XS.iload X.here hx rfl (hb hby own_d16_5) rfl k_) ?_
      show G (T.setTop (mkF m 7 #[.val (.ref a), .val (.int (Int32.ofNat cs.length)), .val (.ref b), .val (.int (Int32.ofNat cs.length)), .val (.int (Int32.ofNat cs.length)), .val (.int (Int32.ofNat cs.length)), ch] [(.int (Int32.ofNat cs.length)), (.int (Int32.ofNat cs.length))]))
      refine hG _ _ (fun t_ k_ => XS.icmpYes X.here hx rfl (pc0 := 7) (pc' := 44) rfl (hb hby own_d16_7) rfl (flt (own_nlt (Nat.le_refl _) g4_hlen)).2.1 (by decide) (by decide) k_) ?_
      show G (T.setTop (mkF m 44 #[.val (.ref a), .val (.int (Int32.ofNat cs.length)), .val (.ref b), .val (.int (Int32.ofNat cs.length)), .val (.int (Int32.ofNat cs.length)), .val (.int (Int32.ofNat cs.length)), ch] []))
      refine hG _ _ (fun t_ k_ => XS.iload X.here hx rfl (hb hby own_d16_44) rfl k_) ?_
      show G (T.setTop (mkF m 46 #[.val (.ref a), .val (.int (Int32.ofNat cs.length)), .val (.ref b), .val (.int (Int32.ofNat cs.length)), .val (.int (Int32.ofNat cs.length)), .val (.int (Int32.ofNat cs.length)), ch] [(.int (Int32.ofNat cs.length))]))
      exact own_retI hR hret X hx (hb hby own_d16_46) (by decide) (by decide) (by rw [eT]; exact ⟨(Int32.ofNat cs.length), vs, rfl, N, K, V, (Or.inl ⟨rfl, own_allD cs 0 hs, hvs⟩)⟩)
    | succ r ih =>
      intro i T locs hT vs ch hri X eT K O N V hl hv hs hch
      have hi : i < cs.length := by omega
      refine hG _ _ (fun t_ k_ => XS.iload X.here hx rfl (hb hby own_d16_3) rfl k_) ?_
      show G (T.setTop (mkF m 5 #[.val (.ref a), .val (.int (Int32.ofNat i)), .val (.ref b), .val (.int (Int32.ofNat i)), .val (.int (Int32.ofNat cs.length)), .val (.int (Int32.ofNat i)), ch] [(.int (Int32.ofNat i))]))
      refine hG _ _ (fun t_ k_ => XS.iload X.here hx rfl (hb hby own_d16_5) rfl k_) ?_
      show G (T.setTop (mkF m 7 #[.val (.ref a), .val (.int (Int32.ofNat i)), .val (.ref b), .val (.int (Int32.ofNat i)), .val (.int (Int32.ofNat cs.length)), .val (.int (Int32.ofNat i)), ch] [(.int (Int32.ofNat cs.length)), (.int (Int32.ofNat i))]))
      refine hG _ _ (fun t_ k_ => XS.icmpNo X.here hx rfl (hb hby own_d16_7) rfl (tlt (own_lt hi g4_hlen)).2.1 k_) ?_
      show G (T.setTop (mkF m 10 #[.val (.ref a), .val (.int (Int32.ofNat i)), .val (.ref b), .val (.int (Int32.ofNat i)), .val (.int (Int32.ofNat cs.length)), .val (.int (Int32.ofNat i)), ch] []))
      refine hG _ _ (fun t_ k_ => XS.aloadN X.here hx rfl (hb hby own_d16_10) rfl rfl k_) ?_
      show G (T.setTop (mkF m 11 #[.val (.ref a), .val (.int (Int32.ofNat i)), .val (.ref b), .val (.int (Int32.ofNat i)), .val (.int (Int32.ofNat cs.length)), .val (.int (Int32.ofNat i)), ch] [(.ref a)]))
      refine hG _ _ (fun t_ k_ => XS.iloadN X.here hx rfl (hb hby own_d16_11) rfl k_) ?_
      show G (T.setTop (mkF m 12 #[.val (.ref a), .val (.int (Int32.ofNat i)), .val (.ref b), .val (.int (Int32.ofNat i)), .val (.int (Int32.ofNat cs.length)), .val (.int (Int32.ofNat i)), ch] [(.int (Int32.ofNat i)), (.ref a)]))
      obtain ⟨c1, Ar1, q1, S1, M1, H1, G1⟩ := id (g0_V.keep K (ninS g3_hne nin0))
      have hin1 : ¬ ((Int32.ofNat i) < 0 ∨ c1.slots.size ≤ (Int32.ofNat i).toNatClampNeg) := inb_of S1 ⟨own_nn (by omega), own_lt hi g4_hlen⟩
      refine hG _ _ (X.caload hx (j := (Int32.ofNat i)) (v := (.int (cs.getD i 0))) (by rw [eT]; exact Ar1.1) (State.isArrayOf_alike hZ.alike Ar1.2.1) Ar1.2.2 hin1 (Has.at H1 hin1 (by rw [own_clamp (by omega)]; exact own_getD_map Value.int cs i _ 0 hi)) (g := (mkF m 12 #[.val (.ref a), .val (.int (Int32.ofNat i)), .val (.ref b), .val (.int (Int32.ofNat i)), .val (.int (Int32.ofNat cs.length)), .val (.int (Int32.ofNat i)), ch] [(.int (Int32.ofNat i)), (.ref a)])) rfl rfl (hb hby own_d16_12)) ?_
      show G (T.setTop (mkF m 13 #[.val (.ref a), .val (.int (Int32.ofNat i)), .val (.ref b), .val (.int (Int32.ofNat i)), .val (.int (Int32.ofNat cs.length)), .val (.int (Int32.ofNat i)), ch] [(.int (cs.getD i 0))]))
      refine hG _ _ (fun t_ k_ => XS.istoreS X.here hx rfl (hb hby own_d16_13) rfl rfl hch k_) ?_
      show G (T.setTop (mkF m 15 #[.val (.ref a), .val (.int (Int32.ofNat i)), .val (.ref b), .val (.int (Int32.ofNat i)), .val (.int (Int32.ofNat cs.length)), .val (.int (Int32.ofNat i)), .val (.int (cs.getD i 0))] []))
      refine hG _ _ (fun t_ k_ => XS.iload X.here hx rfl (hb hby own_d16_15) rfl k_) ?_
      show G (T.setTop (mkF m 17 #[.val (.ref a), .val (.int (Int32.ofNat i)), .val (.ref b), .val (.int (Int32.ofNat i)), .val (.int (Int32.ofNat cs.length)), .val (.int (Int32.ofNat i)), .val (.int (cs.getD i 0))] [(.int (cs.getD i 0))]))
      refine hG _ _ (fun t_ k_ => XS.sipush X.here hx rfl (hb hby own_d16_17) k_) ?_
      show G (T.setTop (mkF m 20 #[.val (.ref a), .val (.int (Int32.ofNat i)), .val (.ref b), .val (.int (Int32.ofNat i)), .val (.int (Int32.ofNat cs.length)), .val (.int (Int32.ofNat i)), .val (.int (cs.getD i 0))] [(.int (255 : Int32)), (.int (cs.getD i 0))]))
      by_cases hc20_2 : (255 : Int32) < (cs.getD i 0)
      · skip
        refine hG _ _ (fun t_ k_ => XS.icmpNo X.here hx rfl (hb hby own_d16_20) rfl (tlt hc20_2).2.2.2 k_) ?_
        show G (T.setTop (mkF m 23 #[.val (.ref a), .val (.int (Int32.ofNat i)), .val (.ref b), .val (.int (Int32.ofNat i)), .val (.int (Int32.ofNat cs.length)), .val (.int (Int32.ofNat i)), .val (.int (cs.getD i 0))] []))
        refine hG _ _ (fun t_ k_ => XS.iload X.here hx rfl (hb hby own_d16_23) rfl k_) ?_
        show G (T.setTop (mkF m 25 #[.val (.ref a), .val (.int (Int32.ofNat i)), .val (.ref b), .val (.int (Int32.ofNat i)), .val (.int (Int32.ofNat cs.length)), .val (.int (Int32.ofNat i)), .val (.int (cs.getD i 0))] [(.int (Int32.ofNat i))]))
        exact own_retI hR hret X hx (hb hby own_d16_25) (by decide) (by decide) (by rw [eT]; exact ⟨(Int32.ofNat i), vs, rfl, N, K, V, (Or.inr ⟨i, hi, rfl, hc20_2⟩)⟩)
      · skip
        refine hG _ _ (fun t_ k_ => XS.icmpYes X.here hx rfl (pc0 := 20) (pc' := 26) rfl (hb hby own_d16_20) rfl (flt hc20_2).2.2.2 (by decide) (by decide) k_) ?_
        show G (T.setTop (mkF m 26 #[.val (.ref a), .val (.int (Int32.ofNat i)), .val (.ref b), .val (.int (Int32.ofNat i)), .val (.int (Int32.ofNat cs.length)), .val (.int (Int32.ofNat i)), .val (.int (cs.getD i 0))] []))
        refine hG _ _ (fun t_ k_ => XS.aloadN X.here hx rfl (hb hby own_d16_26) rfl rfl k_) ?_
        show G (T.setTop (mkF m 27 #[.val (.ref a), .val (.int (Int32.ofNat i)), .val (.ref b), .val (.int (Int32.ofNat i)), .val (.int (Int32.ofNat cs.length)), .val (.int (Int32.ofNat i)), .val (.int (cs.getD i 0))] [(.ref b)]))
        refine hG _ _ (fun t_ k_ => XS.iloadN X.here hx rfl (hb hby own_d16_27) rfl k_) ?_
        show G (T.setTop (mkF m 28 #[.val (.ref a), .val (.int (Int32.ofNat i)), .val (.ref b), .val (.int (Int32.ofNat i)), .val (.int (Int32.ofNat cs.length)), .val (.int (Int32.ofNat i)), .val (.int (cs.getD i 0))] [(.int (Int32.ofNat i)), (.ref b)]))
        refine hG _ _ (fun t_ k_ => XS.iload X.here hx rfl (hb hby own_d16_28) rfl k_) ?_
        show G (T.setTop (mkF m 30 #[.val (.ref a), .val (.int (Int32.ofNat i)), .val (.ref b), .val (.int (Int32.ofNat i)), .val (.int (Int32.ofNat cs.length)), .val (.int (Int32.ofNat i)), .val (.int (cs.getD i 0))] [(.int (cs.getD i 0)), (.int (Int32.ofNat i)), (.ref b)]))
        refine hG _ _ (fun t_ k_ => XS.i2b X.here hx rfl (hb hby own_d16_30) rfl k_) ?_
        show G (T.setTop (mkF m 31 #[.val (.ref a), .val (.int (Int32.ofNat i)), .val (.ref b), .val (.int (Int32.ofNat i)), .val (.int (Int32.ofNat cs.length)), .val (.int (Int32.ofNat i)), .val (.int (cs.getD i 0))] [(.int ((cs.getD i 0).toInt8.toInt32)), (.int (Int32.ofNat i)), (.ref b)]))
        obtain ⟨c3, Ar3, q3, S3, M3, H3, G3⟩ := id V
        obtain ⟨T3, h3, X3, e3, W3, st3⟩ := stB X hx hZ eT Ar3 (j := (Int32.ofNat i)) (inb_of S3 ⟨own_nn (by omega), own_lt hi g4_hlen⟩) (g := (mkF m 31 #[.val (.ref a), .val (.int (Int32.ofNat i)), .val (.ref b), .val (.int (Int32.ofNat i)), .val (.int (Int32.ofNat cs.length)), .val (.int (Int32.ofNat i)), .val (.int (cs.getD i 0))] [(.int ((cs.getD i 0).toInt8.toInt32)), (.int (Int32.ofNat i)), (.ref b)])) rfl rfl (hb hby own_d16_31)
        refine hG _ _ st3 ?_
        have K3 : Keep h0 h3 [b] := K.wr W3 (Or.inl (List.mem_of_getElem? (i := 0) rfl))
        have O3 : own_Old Z h3 := O.wr W3 g2_G
        have V3 : Arv Z h3 b kb .byte (Int32.ofNat cs.length) (vs.set i (.int (nar .byte ((cs.getD i 0).toInt8.toInt32)))) (.int (0 : Int32)) := Arv.set Ar3 q3 S3 M3 H3 G3 (fits_nar_byte _) W3 i (own_clamp (by omega)) (by omega)
        have N3 := Fr.snoc X3 N g2_G
        show G (T3.setTop (mkF m 32 #[.val (.ref a), .val (.int (Int32.ofNat i)), .val (.ref b), .val (.int (Int32.ofNat i)), .val (.int (Int32.ofNat cs.length)), .val (.int (Int32.ofNat i)), .val (.int (cs.getD i 0))] []))
        refine hG _ _ (fun t_ k_ => XS.iinc X3.here hx rfl (hb hby own_d16_32) rfl (l' := #[.val (.ref a), .val (.int ((Int32.ofNat i) + (1 : Int32))), .val (.ref b), .val (.int (Int32.ofNat i)), .val (.int (Int32.ofNat cs.length)), .val (.int (Int32.ofNat i)), .val (.int (cs.getD i 0))]) rfl k_) ?_
        show G (T3.setTop (mkF m 35 #[.val (.ref a), .val (.int ((Int32.ofNat i) + (1 : Int32))), .val (.ref b), .val (.int (Int32.ofNat i)), .val (.int (Int32.ofNat cs.length)), .val (.int (Int32.ofNat i)), .val (.int (cs.getD i 0))] []))
        refine hG _ _ (fun t_ k_ => XS.iinc X3.here hx rfl (hb hby own_d16_35) rfl (l' := #[.val (.ref a), .val (.int ((Int32.ofNat i) + (1 : Int32))), .val (.ref b), .val (.int ((Int32.ofNat i) + (1 : Int32))), .val (.int (Int32.ofNat cs.length)), .val (.int (Int32.ofNat i)), .val (.int (cs.getD i 0))]) rfl k_) ?_
        show G (T3.setTop (mkF m 38 #[.val (.ref a), .val (.int ((Int32.ofNat i) + (1 : Int32))), .val (.ref b), .val (.int ((Int32.ofNat i) + (1 : Int32))), .val (.int (Int32.ofNat cs.length)), .val (.int (Int32.ofNat i)), .val (.int (cs.getD i 0))] []))
        refine hG _ _ (fun t_ k_ => XS.iinc X3.here hx rfl (hb hby own_d16_38) rfl (l' := #[.val (.ref a), .val (.int ((Int32.ofNat i) + (1 : Int32))), .val (.ref b), .val (.int ((Int32.ofNat i) + (1 : Int32))), .val (.int (Int32.ofNat cs.length)), .val (.int ((Int32.ofNat i) + (1 : Int32))), .val (.int (cs.getD i 0))]) rfl k_) ?_
        show G (T3.setTop (mkF m 41 #[.val (.ref a), .val (.int ((Int32.ofNat i) + (1 : Int32))), .val (.ref b), .val (.int ((Int32.ofNat i) + (1 : Int32))), .val (.int (Int32.ofNat cs.length)), .val (.int ((Int32.ofNat i) + (1 : Int32))), .val (.int (cs.getD i 0))] []))
        refine hG _ _ (fun t_ k_ => XS.goto X3.here hx rfl (pc0 := 41) (pc' := 3) rfl (hb hby own_d16_41) (by decide) (by decide) k_) ?_
        show G (T3.setTop (mkF m 3 #[.val (.ref a), .val (.int ((Int32.ofNat i) + (1 : Int32))), .val (.ref b), .val (.int ((Int32.ofNat i) + (1 : Int32))), .val (.int (Int32.ofNat cs.length)), .val (.int ((Int32.ofNat i) + (1 : Int32))), .val (.int (cs.getD i 0))] []))
        rw [own_inc i]
        exact ih (i + 1) _ _ _ _ _ (by omega) X3 e3 K3 O3 N3 V3 (by rw [List.length_set]; exact hl) (own_setNext (fun c => Value.int c.toInt8.toInt32) _ _ (by omega) (by rw [own_nb]) hv) (own_nextD (P := fun c => ¬ ((255 : Int32) < c)) hs hc20_2) (One.val rfl)
  exact loop cs.length 0 _ _ _ _ _ rfl X0 e0 (Keep.refl h0 [b]) O0 N0 (g1_V.pad (pad_rep [] (.int (0 : Int32)) cs.length)) (by simp) (fun j hj => absurd hj (Nat.not_lt_zero j)) (fun j hj => absurd hj (Nat.not_lt_zero j)) One.u
theorem own_pd3 : parseMethodDescriptor "(I)I" = some ⟨[.int], some .int⟩ := by decide +kernel
set_option maxRecDepth 65536 in
set_option maxHeartbeats 40000000 in
theorem own_nbl (l : Launch) (Z : State) (a0 : Array Value) (hw : ∀ d ∈ tables_1, d.before a0 Z = true) (n : Nat) (h0 : Heap) (O0 : own_Old Z h0) (g0_hn : n < 1073741823) :
    own_Con l Z (⟨"java/lang/StringUTF16", "newBytesLength", "(I)I"⟩ : MethodName) jdk_52_method_3_code 1 (some .int) [] ({ frames := 0, cells := 0, slots := 0, locals := 0 } : Room) #[(.int (Int32.ofNat n))] h0 (fun rv rh rL => rv = some (.int (Int32.ofNat (2 * n))) ∧ own_Fr Z rL ∧ h0 = rh) := by
  refine own_intro (plainFor_of_name (by first | (simp [plainName, overriddenIn]; done) | decide +kernel)) ?_
  intro p e s m below meth c s₁ G hx hby hml hown hnm hret hZ X0 e0 hG hR
  have N0 := Fr.nil Z.heap.size
  refine own_entry (Ls := #[.val (.int (Int32.ofNat n))]) (by first | (simp [entryFrame, mkF, argsToLocals, Value.category]; done) | rfl) ?_
  show G (s₁.setTop (mkF m 0 #[.val (.int (Int32.ofNat n))] []))
  refine hG _ _ (fun t_ k_ => XS.iloadN X0.here hx rfl (hb hby own_d21_0) rfl k_) ?_
  show G (s₁.setTop (mkF m 1 #[.val (.int (Int32.ofNat n))] [(.int (Int32.ofNat n))]))
  refine hG _ _ (fun t_ k_ => XS.ifYes X0.here hx rfl (pc0 := 1) (pc' := 12) rfl (hb hby own_d21_1) rfl ((if0 _ _).trans (flt (own_nn (by omega))).2.1) (by decide) (by decide) k_) ?_
  show G (s₁.setTop (mkF m 12 #[.val (.int (Int32.ofNat n))] []))
  refine hG _ _ (fun t_ k_ => XS.iloadN X0.here hx rfl (hb hby own_d21_12) rfl k_) ?_
  show G (s₁.setTop (mkF m 13 #[.val (.int (Int32.ofNat n))] [(.int (Int32.ofNat n))]))
  refine hG _ _ (X0.ldcInt hx hown (mvT hZ (hw _ (List.mem_of_getElem? (i := 93) rfl))) (g := (mkF m 13 #[.val (.int (Int32.ofNat n))] [(.int (Int32.ofNat n))])) rfl (hb hby own_d21_13)) ?_
  show G (s₁.setTop (mkF m 15 #[.val (.int (Int32.ofNat n))] [(.int (1073741823 : Int32)), (.int (Int32.ofNat n))]))
  refine hG _ _ (fun t_ k_ => XS.icmpYes X0.here hx rfl (pc0 := 15) (pc' := 55) rfl (hb hby own_d21_15) rfl (tlt (own_ltK g0_hn)).1 (by decide) (by decide) k_) ?_
  show G (s₁.setTop (mkF m 55 #[.val (.int (Int32.ofNat n))] []))
  refine hG _ _ (fun t_ k_ => XS.iloadN X0.here hx rfl (hb hby own_d21_55) rfl k_) ?_
  show G (s₁.setTop (mkF m 56 #[.val (.int (Int32.ofNat n))] [(.int (Int32.ofNat n))]))
  refine hG _ _ (fun t_ k_ => XS.iconst X0.here hx rfl (hb hby own_d21_56) k_) ?_
  show G (s₁.setTop (mkF m 57 #[.val (.int (Int32.ofNat n))] [(.int (1 : Int32)), (.int (Int32.ofNat n))]))
  refine hG _ _ (fun t_ k_ => XS.ishl X0.here hx rfl (hb hby own_d21_57) rfl k_) ?_
  show G (s₁.setTop (mkF m 58 #[.val (.int (Int32.ofNat n))] [(.int ((Int32.ofNat n) <<< ((1 : Int32) &&& 31)))]))
  exact own_retI hR hret X0 hx (hb hby own_d21_58) (by decide) (by decide) (by rw [e0]; exact ⟨(by rw [own_shl1]), N0, rfl⟩)
theorem own_pd4 : parseMethodDescriptor "(I)[B" = some ⟨[.int], some (.array .byte)⟩ := by decide +kernel
set_option maxRecDepth 65536 in
set_option maxHeartbeats 40000000 in
theorem own_nbf (l : Launch) (Z : State) (a0 : Array Value) (hw : ∀ d ∈ tables_1, d.before a0 Z = true) (n : Nat) (h0 : Heap) (O0 : own_Old Z h0) (g0_hn : n ≤ 3) :
    own_Con l Z (⟨"java/lang/StringUTF16", "newBytesFor", "(I)[B"⟩ : MethodName) jdk_52_method_2_code 1 (some (.array .byte)) [] ({ frames := 1, cells := 1, slots := 6, locals := 12 } : Room) #[(.int (Int32.ofNat n))] h0 (fun rv rh rL => ∃ (t : Addr) (kt : ClassId), rv = some (.ref t) ∧ own_Fr Z rL ∧ Keep h0 rh [] ∧ h0.size ≤ t ∧ (Arv Z rh t kt .byte (Int32.ofNat (2 * n)) [] (.int (0 : Int32)))) := by
  refine own_intro (plainFor_of_name (by first | (simp [plainName, overriddenIn]; done) | decide +kernel)) ?_
  intro p e s m below meth c s₁ G hx hby hml hown hnm hret hZ X0 e0 hG hR
  have N0 := Fr.nil Z.heap.size
  refine own_entry (Ls := #[.val (.int (Int32.ofNat n))]) (by first | (simp [entryFrame, mkF, argsToLocals, Value.category]; done) | rfl) ?_
  show G (s₁.setTop (mkF m 0 #[.val (.int (Int32.ofNat n))] []))
  refine hG _ _ (fun t_ k_ => XS.iloadN X0.here hx rfl (hb hby own_d20_0) rfl k_) ?_
  show G (s₁.setTop (mkF m 1 #[.val (.int (Int32.ofNat n))] [(.int (Int32.ofNat n))]))
  refine own_callS X0 hx hZ hG hown (hw _ (List.mem_of_getElem? (i := 90) rfl)) (hw _ (List.mem_of_getElem? (i := 91) rfl)) (hw _ (List.mem_of_getElem? (i := 73) rfl)) (hw _ (List.mem_of_getElem? (i := 92) rfl)) (by decide) 0 (own_nbl l Z a0 hw n h0 O0 (by omega)) (by decide) (by decide) e0 (by rw [hml]; rfl) (lenOf own_pd3 rfl) (argsL := [(.int (Int32.ofNat n))]) (rest := []) rfl rfl (Nat.le_of_eq rfl) (hb hby own_d20_1) (by decide) (by decide) ?_
  intro T1 h1 v1 L1 X1 e1 q1
  obtain ⟨rfl, M1, rfl⟩ := q1
  have N1 := Fr.app N0 M1
  show G (T1.setTop (mkF m 4 #[.val (.int (Int32.ofNat n))] [(.int (Int32.ofNat (2 * n)))]))
  obtain ⟨T2, h2, k2, X2, e2, E2, A2, st2⟩ := newP X1 hx hZ (hw _ (List.mem_of_getElem? (i := 20) rfl)) e1 (g := (mkF m 4 #[.val (.int (Int32.ofNat n))] [(.int (Int32.ofNat (2 * n)))])) rfl (hb hby own_d20_4) rfl (own_nn (by omega)) (cap := 6) (by rw [own_clamp (by omega)]; omega) (by decide) (by decide) (by decide)
  obtain ⟨b2, z2⟩ : ∃ z, z = h0.size := ⟨_, rfl⟩
  rw [← z2] at A2 st2
  refine hG _ _ st2 ?_
  have K2 : Keep h0 h2 [] := (Keep.refl h0 []).ext E2
  have O2 : own_Old Z h2 := O0.ext E2
  have V2 : Arv Z h2 b2 k2 .byte (Int32.ofNat (2 * n)) [] (.int (0 : Int32)) := Arv.new A2 (own_nn (by omega))
  show G (T2.setTop (mkF m 6 #[.val (.int (Int32.ofNat n))] [(.ref b2)]))
  exact own_retA hR hret rfl rfl X2 hx (hb hby own_d20_6) (by decide) (by decide) (by rw [e2]; exact ⟨b2, k2, rfl, N1, K2, (Nat.le_trans (Keep.refl h0 []).1 (Nat.le_of_eq z2.symm)), V2⟩)
theorem own_pd5 : parseMethodDescriptor "([CII)[B" = some ⟨[(.array .char), .int, .int], some (.array .byte)⟩ := by decide +kernel
set_option maxRecDepth 65536 in
set_option maxHeartbeats 40000000 in
theorem own_tob (l : Launch) (Z : State) (a0 : Array Value) (hw : ∀ d ∈ tables_1, d.before a0 Z = true) (a : Addr) (ka : ClassId) (cs : List Int32) (h0 : Heap) (O0 : own_Old Z h0) (g0_V : Arv Z h0 a ka .char (Int32.ofNat cs.length) (cs.map Value.int) (.int (0 : Int32))) (g1_hcap : cs.length ≤ 3) (g2_S : Sta Z Z.heap "java/lang/StringUTF16" "$assertionsDisabled" "Z" (.int (1 : Int32))) (g3_S : Sta Z Z.heap "java/lang/StringUTF16" "HI_BYTE_SHIFT" "I" (.int (0 : Int32))) (g4_S : Sta Z Z.heap "java/lang/StringUTF16" "LO_BYTE_SHIFT" "I" (.int (8 : Int32))) :
    own_Con l Z (⟨"java/lang/StringUTF16", "toBytes", "([CII)[B"⟩ : MethodName) jdk_52_method_14_code 5 (some (.array .byte)) [] ({ frames := 2, cells := 1, slots := 6, locals := 24 } : Room) #[(.ref a), (.int (0 : Int32)), (.int (Int32.ofNat cs.length))] h0 (fun rv rh rL => ∃ (t : Addr) (kt : ClassId) (vs : List Value), rv = some (.ref t) ∧ own_Fr Z rL ∧ Keep h0 rh [] ∧ h0.size ≤ t ∧ (Arv Z rh t kt .byte (Int32.ofNat (2 * cs.length)) vs (.int (0 : Int32))) ∧ (own_is16 cs vs)) := by
  refine own_intro (plainFor_of_name (by first | (simp [plainName, overriddenIn]; done) | decide +kernel)) ?_
  intro p e s m below meth c s₁ G hx hby hml hown hnm hret hZ X0 e0 hG hR
  have N0 := Fr.nil Z.heap.size
  refine own_entry (Ls := #[.val (.ref a), .val (.int (0 : Int32)), .val (.int (Int32.ofNat cs.length)), .unset, .unset]) (by first | (simp [entryFrame, mkF, argsToLocals, Value.category]; done) | rfl) ?_
  show G (s₁.setTop (mkF m 0 #[.val (.ref a), .val (.int (0 : Int32)), .val (.int (Int32.ofNat cs.length)), .unset, .unset] []))
  refine hG _ _ (fun t_ k_ => XS.iloadN X0.here hx rfl (hb hby own_d19_0) rfl k_) ?_
  show G (s₁.setTop (mkF m 1 #[.val (.ref a), .val (.int (0 : Int32)), .val (.int (Int32.ofNat cs.length)), .unset, .unset] [(.int (Int32.ofNat cs.length))]))
  refine own_callS X0 hx hZ hG hown (hw _ (List.mem_of_getElem? (i := 87) rfl)) (hw _ (List.mem_of_getElem? (i := 88) rfl)) (hw _ (List.mem_of_getElem? (i := 73) rfl)) (hw _ (List.mem_of_getElem? (i := 89) rfl)) (by decide) 0 (own_nbf l Z a0 hw cs.length h0 O0 g1_hcap) (by decide) (by decide) e0 (by rw [hml]; rfl) (lenOf own_pd4 rfl) (argsL := [(.int (Int32.ofNat cs.length))]) (rest := []) rfl rfl (Nat.le_of_eq rfl) (hb hby own_d19_1) (by decide) (by decide) ?_
  intro T1 h1 v1 L1 X1 e1 q1
  obtain ⟨t_1, kt_1, rfl, M1, J1, y1_0, r1_0⟩ := q1
  have N1 := Fr.app N0 M1
  have K1 : Keep h0 h1 [] := (Keep.refl h0 []).trans J1 all0
  have O1 : own_Old Z h1 := O0.keep J1 all0
  show G (T1.setTop (mkF m 4 #[.val (.ref a), .val (.int (0 : Int32)), .val (.int (Int32.ofNat cs.length)), .unset, .unset] [(.ref t_1)]))
  refine hG _ _ (fun t_ k_ => XS.astoreN X1.here hx rfl (hb hby own_d19_4) rfl rfl (l' := #[.val (.ref a), .val (.int (0 : Int32)), .val (.int (Int32.ofNat cs.length)), .val (.ref t_1), .unset]) rfl k_) ?_
  show G (T1.setTop (mkF m 5 #[.val (.ref a), .val (.int (0 : Int32)), .val (.int (Int32.ofNat cs.length)), .val (.ref t_1), .unset] []))
  refine hG _ _ (fun t_ k_ => XS.iconst X1.here hx rfl (hb hby own_d19_5) k_) ?_
  show G (T1.setTop (mkF m 6 #[.val (.ref a), .val (.int (0 : Int32)), .val (.int (Int32.ofNat cs.length)), .val (.ref t_1), .unset] [(.int (0 : Int32))]))
  refine hG _ _ (fun t_ k_ => XS.istore X1.here hx rfl (hb hby own_d19_6) rfl (l' := #[.val (.ref a), .val (.int (0 : Int32)), .val (.int (Int32.ofNat cs.length)), .val (.ref t_1), .val (.int (0 : Int32))]) rfl k_) ?_
  show G (T1.setTop (mkF m 8 #[.val (.ref a), .val (.int (0 : Int32)), .val (.int (Int32.ofNat cs.length)), .val (.ref t_1), .val (.int (0 : Int32))] []))
  have loop : ∀ (r i : Nat) (T : State) (locs : List Loc) (hT : Heap) (vs : List Value), r + i = cs.length → Stand p l e ({ frames := 2, cells := 1, slots := 6, locals := 24 } : Room) s m #[(.ref a), (.int (0 : Int32)), (.int (Int32.ofNat cs.length))] below meth c T locs 1 6 → T.heap = hT → Keep h0 hT [] → own_Old Z hT → own_Fr Z locs → Arv Z hT t_1 kt_1 .byte (Int32.ofNat (2 * cs.length)) vs (.int (0 : Int32)) → vs.length = 2 * cs.length → (∀ j, j < i → vs.getD (2 * j) (.int (0 : Int32)) = .int (own_lo (cs.getD j 0)) ∧ vs.getD (2 * j + 1) (.int (0 : Int32)) = .int (own_hi (cs.getD j 0))) → G (T.setTop (mkF m 8 #[.val (.ref a), .val (.int (Int32.ofNat i)), .val (.int (Int32.ofNat cs.length)), .val (.ref t_1), .val (.int (Int32.ofNat i))] [])) := by
    intro r
    induction r with
    | zero =>
      intro i T locs hT vs hri X eT K O N V hl hv
      have hi : i = cs.length := by omega
      subst hi
      refine hG _ _ (fun t_ k_ => XS.iload X.here hx rfl (hb hby own_d19_8) rfl k_) ?_
      show G (T.setTop (mkF m 10 #[.val (.ref a), .val (.int (Int32.ofNat cs.length)), .val (.int (Int32.ofNat cs.length)), .val (.ref t_1), .val (.int (Int32.ofNat cs.length))] [(.int (Int32.ofNat cs.length))]))
      refine hG _ _ (fun t_ k_ => XS.iloadN X.here hx rfl (hb hby own_d19_10) rfl k_) ?_
      show G (T.setTop (mkF m 11 #[.val (.ref a), .val (.int (Int32.ofNat cs.length)), .val (.int (Int32.ofNat cs.length)), .val (.ref t_1), .val (.int (Int32.ofNat cs.length))] [(.int (Int32.ofNat cs.length)), (.int (Int32.ofNat cs.length))]))
      refine hG _ _ (fun t_ k_ => XS.icmpYes X.here hx rfl (pc0 := 11) (pc' := 32) rfl (hb hby own_d19_11) rfl (flt (own_nlt (Nat.le_refl _) (by omega))).2.1 (by decide) (by decide) k_) ?_
      show G (T.setTop (mkF m 32 #[.val (.ref a), .val (.int (Int32.ofNat cs.length)), .val (.int (Int32.ofNat cs.length)), .val (.ref t_1), .val (.int (Int32.ofNat cs.length))] []))
      refine hG _ _ (fun t_ k_ => XS.aloadN X.here hx rfl (hb hby own_d19_32) rfl rfl k_) ?_
      show G (T.setTop (mkF m 33 #[.val (.ref a), .val (.int (Int32.ofNat cs.length)), .val (.int (Int32.ofNat cs.length)), .val (.ref t_1), .val (.int (Int32.ofNat cs.length))] [(.ref t_1)]))
      exact own_retA hR hret rfl rfl X hx (hb hby own_d19_33) (by decide) (by decide) (by rw [eT]; exact ⟨t_1, kt_1, vs, rfl, N, K, (Nat.le_trans (Keep.refl h0 []).1 y1_0), V, ⟨hl, hv⟩⟩)
    | succ r ih =>
      intro i T locs hT vs hri X eT K O N V hl hv
      have hi : i < cs.length := by omega
      refine hG _ _ (fun t_ k_ => XS.iload X.here hx rfl (hb hby own_d19_8) rfl k_) ?_
      show G (T.setTop (mkF m 10 #[.val (.ref a), .val (.int (Int32.ofNat i)), .val (.int (Int32.ofNat cs.length)), .val (.ref t_1), .val (.int (Int32.ofNat i))] [(.int (Int32.ofNat i))]))
      refine hG _ _ (fun t_ k_ => XS.iloadN X.here hx rfl (hb hby own_d19_10) rfl k_) ?_
      show G (T.setTop (mkF m 11 #[.val (.ref a), .val (.int (Int32.ofNat i)), .val (.int (Int32.ofNat cs.length)), .val (.ref t_1), .val (.int (Int32.ofNat i))] [(.int (Int32.ofNat cs.length)), (.int (Int32.ofNat i))]))
      refine hG _ _ (fun t_ k_ => XS.icmpNo X.here hx rfl (hb hby own_d19_11) rfl (tlt (own_lt hi (by omega))).2.1 k_) ?_
      show G (T.setTop (mkF m 14 #[.val (.ref a), .val (.int (Int32.ofNat i)), .val (.int (Int32.ofNat cs.length)), .val (.ref t_1), .val (.int (Int32.ofNat i))] []))
      refine hG _ _ (fun t_ k_ => XS.aloadN X.here hx rfl (hb hby own_d19_14) rfl rfl k_) ?_
      show G (T.setTop (mkF m 15 #[.val (.ref a), .val (.int (Int32.ofNat i)), .val (.int (Int32.ofNat cs.length)), .val (.ref t_1), .val (.int (Int32.ofNat i))] [(.ref t_1)]))
      refine hG _ _ (fun t_ k_ => XS.iload X.here hx rfl (hb hby own_d19_15) rfl k_) ?_
      show G (T.setTop (mkF m 17 #[.val (.ref a), .val (.int (Int32.ofNat i)), .val (.int (Int32.ofNat cs.length)), .val (.ref t_1), .val (.int (Int32.ofNat i))] [(.int (Int32.ofNat i)), (.ref t_1)]))
      refine hG _ _ (fun t_ k_ => XS.aloadN X.here hx rfl (hb hby own_d19_17) rfl rfl k_) ?_
      show G (T.setTop (mkF m 18 #[.val (.ref a), .val (.int (Int32.ofNat i)), .val (.int (Int32.ofNat cs.length)), .val (.ref t_1), .val (.int (Int32.ofNat i))] [(.ref a), (.int (Int32.ofNat i)), (.ref t_1)]))
      refine hG _ _ (fun t_ k_ => XS.iloadN X.here hx rfl (hb hby own_d19_18) rfl k_) ?_
      show G (T.setTop (mkF m 19 #[.val (.ref a), .val (.int (Int32.ofNat i)), .val (.int (Int32.ofNat cs.length)), .val (.ref t_1), .val (.int (Int32.ofNat i))] [(.int (Int32.ofNat i)), (.ref a), (.int (Int32.ofNat i)), (.ref t_1)]))
      obtain ⟨c2, Ar2, q2, S2, M2, H2, G2⟩ := id (g0_V.keep K nin0)
      have hin2 : ¬ ((Int32.ofNat i) < 0 ∨ c2.slots.size ≤ (Int32.ofNat i).toNatClampNeg) := inb_of S2 ⟨own_nn (by omega), own_lt hi (by omega)⟩
      refine hG _ _ (X.caload hx (j := (Int32.ofNat i)) (v := (.int (cs.getD i 0))) (by rw [eT]; exact Ar2.1) (State.isArrayOf_alike hZ.alike Ar2.2.1) Ar2.2.2 hin2 (Has.at H2 hin2 (by rw [own_clamp (by omega)]; exact own_getD_map Value.int cs i _ 0 hi)) (g := (mkF m 19 #[.val (.ref a), .val (.int (Int32.ofNat i)), .val (.int (Int32.ofNat cs.length)), .val (.ref t_1), .val (.int (Int32.ofNat i))] [(.int (Int32.ofNat i)), (.ref a), (.int (Int32.ofNat i)), (.ref t_1)])) rfl rfl (hb hby own_d19_19)) ?_
      show G (T.setTop (mkF m 20 #[.val (.ref a), .val (.int (Int32.ofNat i)), .val (.int (Int32.ofNat cs.length)), .val (.ref t_1), .val (.int (Int32.ofNat i))] [(.int (cs.getD i 0)), (.int (Int32.ofNat i)), (.ref t_1)]))
      refine own_callS X hx hZ hG hown (hw _ (List.mem_of_getElem? (i := 94) rfl)) (hw _ (List.mem_of_getElem? (i := 95) rfl)) (hw _ (List.mem_of_getElem? (i := 73) rfl)) (hw _ (List.mem_of_getElem? (i := 96) rfl)) (by decide) 0 (own_put l Z a0 hw t_1 kt_1 (2 * cs.length) vs i (cs.getD i 0) hT O V (own_ge O0 y1_0) (by omega) (by omega) hl g2_S g3_S g4_S) (by decide) (by decide) eT (by rw [hml]; rfl) (lenOf own_pd0 rfl) (argsL := [(.ref t_1), (.int (Int32.ofNat i)), (.int (cs.getD i 0))]) (rest := []) rfl rfl (Nat.le_of_eq rfl) (hb hby own_d19_20) (by decide) (by decide) ?_
      intro T3 h3 v3 L3 X3 e3 q3
      obtain ⟨rfl, M3, J3, r3_0⟩ := q3
      have N3 := Fr.app N M3
      have K3 : Keep h0 h3 [] := K.trans J3 (allS (Or.inr (Nat.le_trans (Keep.refl h0 []).1 y1_0)) all0)
      have O3 : own_Old Z h3 := O.keep J3 (allS (own_ge O0 y1_0) all0)
      show G (T3.setTop (mkF m 23 #[.val (.ref a), .val (.int (Int32.ofNat i)), .val (.int (Int32.ofNat cs.length)), .val (.ref t_1), .val (.int (Int32.ofNat i))] []))
      refine hG _ _ (fun t_ k_ => XS.iinc X3.here hx rfl (hb hby own_d19_23) rfl (l' := #[.val (.ref a), .val (.int ((Int32.ofNat i) + (1 : Int32))), .val (.int (Int32.ofNat cs.length)), .val (.ref t_1), .val (.int (Int32.ofNat i))]) rfl k_) ?_
      show G (T3.setTop (mkF m 26 #[.val (.ref a), .val (.int ((Int32.ofNat i) + (1 : Int32))), .val (.int (Int32.ofNat cs.length)), .val (.ref t_1), .val (.int (Int32.ofNat i))] []))
      refine hG _ _ (fun t_ k_ => XS.iinc X3.here hx rfl (hb hby own_d19_26) rfl (l' := #[.val (.ref a), .val (.int ((Int32.ofNat i) + (1 : Int32))), .val (.int (Int32.ofNat cs.length)), .val (.ref t_1), .val (.int ((Int32.ofNat i) + (1 : Int32)))]) rfl k_) ?_
      show G (T3.setTop (mkF m 29 #[.val (.ref a), .val (.int ((Int32.ofNat i) + (1 : Int32))), .val (.int (Int32.ofNat cs.length)), .val (.ref t_1), .val (.int ((Int32.ofNat i) + (1 : Int32)))] []))
      refine hG _ _ (fun t_ k_ => XS.goto X3.here hx rfl (pc0 := 29) (pc' := 8) rfl (hb hby own_d19_29) (by decide) (by decide) k_) ?_
      show G (T3.setTop (mkF m 8 #[.val (.ref a), .val (.int ((Int32.ofNat i) + (1 : Int32))), .val (.int (Int32.ofNat cs.length)), .val (.ref t_1), .val (.int ((Int32.ofNat i) + (1 : Int32)))] []))
      rw [own_inc i]
      exact ih (i + 1) _ _ _ _ (by omega) X3 e3 K3 O3 N3 r3_0 (by rw [List.length_set, List.length_set]; exact hl) (own_set16 hl hi hv)
  exact loop cs.length 0 _ _ _ _ rfl X1 e1 K1 O1 N1 (r1_0.pad (pad_rep [] (.int (0 : Int32)) (2 * cs.length))) (by simp) (fun j hj => absurd hj (Nat.not_lt_zero j))
set_option maxRecDepth 65536 in
set_option maxHeartbeats 40000000 in
theorem own_gcmp3 (l : Launch) (Z : State) (a0 : Array Value) (hw : ∀ d ∈ tables_1, d.before a0 Z = true) (a : Addr) (ka : ClassId) (cs : List Int32) (h0 : Heap) (O0 : own_Old Z h0) (g0_V : Arv Z h0 a ka .char (Int32.ofNat cs.length) (cs.map Value.int) (.int (0 : Int32))) (g1_hcap : cs.length ≤ 3) (g2_h16 : ∀ c ∈ cs, 0 ≤ c.toInt ∧ c.toInt ≤ 65535) (g3_S : Sta Z Z.heap "java/lang/StringUTF16" "$assertionsDisabled" "Z" (.int (1 : Int32))) (g4_S : Sta Z Z.heap "java/lang/StringUTF16" "HI_BYTE_SHIFT" "I" (.int (0 : Int32))) (g5_S : Sta Z Z.heap "java/lang/StringUTF16" "LO_BYTE_SHIFT" "I" (.int (8 : Int32))) :
    own_Con l Z (⟨"java/lang/StringUTF16", "compress", "([CII)[B"⟩ : MethodName) jdk_52_method_16_code 6 (some (.array .byte)) [] ({ frames := 3, cells := 2, slots := 9, locals := 40 } : Room) #[(.ref a), (.int (0 : Int32)), (.int (Int32.ofNat cs.length))] h0 (fun rv rh rL => ∃ (t : Addr) (kt : ClassId) (nb : Int32) (vs : List Value), rv = some (.ref t) ∧ own_Fr Z rL ∧ Keep h0 rh [] ∧ h0.size ≤ t ∧ (Arv Z rh t kt .byte nb vs (.int (0 : Int32))) ∧ (((∀ c ∈ cs, ¬ ((255 : Int32) < c)) ∧ nb = (Int32.ofNat cs.length) ∧ vs = (cs.map fun c => Value.int c.toInt8.toInt32)) ∨ ((∃ k, k < cs.length ∧ (255 : Int32) < cs.getD k 0) ∧ nb = (Int32.ofNat (2 * cs.length)) ∧ own_is16 cs vs))) := by
  refine own_intro (plainFor_of_name (by first | (simp [plainName, overriddenIn]; done) | decide +kernel)) ?_
  intro p e s m below meth c s₁ G hx hby hml hown hnm hret hZ X0 e0 hG hR
  have N0 := Fr.nil Z.heap.size
  refine own_entry (Ls := #[.val (.ref a), .val (.int (0 : Int32)), .val (.int (Int32.ofNat cs.length)), .unset, .unset, .unset]) (by first | (simp [entryFrame, mkF, argsToLocals, Value.category]; done) | rfl) ?_
  show G (s₁.setTop (mkF m 0 #[.val (.ref a), .val (.int (0 : Int32)), .val (.int (Int32.ofNat cs.length)), .unset, .unset, .unset] []))
  refine hG _ _ (fun t_ k_ => XS.iloadN X0.here hx rfl (hb hby own_d15_0) rfl k_) ?_
  show G (s₁.setTop (mkF m 1 #[.val (.ref a), .val (.int (0 : Int32)), .val (.int (Int32.ofNat cs.length)), .unset, .unset, .unset] [(.int (Int32.ofNat cs.length))]))
  obtain ⟨T1, h1, k1, X1, e1, E1, A1, st1⟩ := newP X0 hx hZ (hw _ (List.mem_of_getElem? (i := 20) rfl)) e0 (g := (mkF m 1 #[.val (.ref a), .val (.int (0 : Int32)), .val (.int (Int32.ofNat cs.length)), .unset, .unset, .unset] [(.int (Int32.ofNat cs.length))])) rfl (hb hby own_d15_1) rfl (own_nn (by omega)) (cap := 3) (by rw [own_clamp (by omega)]; exact g1_hcap) (by decide) (by decide) (by decide)
  obtain ⟨b1, z1⟩ : ∃ z, z = h0.size := ⟨_, rfl⟩
  rw [← z1] at A1 st1
  refine hG _ _ st1 ?_
  have K1 : Keep h0 h1 [] := (Keep.refl h0 []).ext E1
  have O1 : own_Old Z h1 := O0.ext E1
  have V1 : Arv Z h1 b1 k1 .byte (Int32.ofNat cs.length) [] (.int (0 : Int32)) := Arv.new A1 (own_nn (by omega))
  show G (T1.setTop (mkF m 3 #[.val (.ref a), .val (.int (0 : Int32)), .val (.int (Int32.ofNat cs.length)), .unset, .unset, .unset] [(.ref b1)]))
  refine hG _ _ (fun t_ k_ => XS.astoreN X1.here hx rfl (hb hby own_d15_3) rfl rfl (l' := #[.val (.ref a), .val (.int (0 : Int32)), .val (.int (Int32.ofNat cs.length)), .val (.ref b1), .unset, .unset]) rfl k_) ?_
  show G (T1.setTop (mkF m 4 #[.val (.ref a), .val (.int (0 : Int32)), .val (.int (Int32.ofNat cs.length)), .val (.ref b1), .unset, .unset] []))
  refine hG _ _ (fun t_ k_ => XS.aloadN X1.here hx rfl (hb hby own_d15_4) rfl rfl k_) ?_
  show G (T1.setTop (mkF m 5 #[.val (.ref a), .val (.int (0 : Int32)), .val (.int (Int32.ofNat cs.length)), .val (.ref b1), .unset, .unset] [(.ref a)]))
  refine hG _ _ (fun t_ k_ => XS.iloadN X1.here hx rfl (hb hby own_d15_5) rfl k_) ?_
  show G (T1.setTop (mkF m 6 #[.val (.ref a), .val (.int (0 : Int32)), .val (.int (Int32.ofNat cs.length)), .val (.ref b1), .unset, .unset] [(.int (0 : Int32)), (.ref a)]))
  refine hG _ _ (fun t_ k_ => XS.aloadN X1.here hx rfl (hb hby own_d15_6) rfl rfl k_) ?_
  show G (T1.setTop (mkF m 7 #[.val (.ref a), .val (.int (0 : Int32)), .val (.int (Int32.ofNat cs.length)), .val (.ref b1), .unset, .unset] [(.ref b1), (.int (0 : Int32)), (.ref a)]))
  refine hG _ _ (fun t_ k_ => XS.iconst X1.here hx rfl (hb hby own_d15_7) k_) ?_
  show G (T1.setTop (mkF m 8 #[.val (.ref a), .val (.int (0 : Int32)), .val (.int (Int32.ofNat cs.length)), .val (.ref b1), .unset, .unset] [(.int (0 : Int32)), (.ref b1), (.int (0 : Int32)), (.ref a)]))
  refine hG _ _ (fun t_ k_ => XS.iloadN X1.here hx rfl (hb hby own_d15_8) rfl k_) ?_
  show G (T1.setTop (mkF m 9 #[.val (.ref a), .val (.int (0 : Int32)), .val (.int (Int32.ofNat cs.length)), .val (.ref b1), .unset, .unset] [(.int (Int32.ofNat cs.length)), (.int (0 : Int32)), (.ref b1), (.int (0 : Int32)), (.ref a)]))
  have f3 := (g0_V.ext E1)
  refine own_callS X1 hx hZ hG hown (hw _ (List.mem_of_getElem? (i := 75) rfl)) (hw _ (List.mem_of_getElem? (i := 76) rfl)) (hw _ (List.mem_of_getElem? (i := 73) rfl)) (hw _ (List.mem_of_getElem? (i := 77) rfl)) (by decide) 0 (own_gcmp5 l Z a0 hw a b1 ka k1 cs h1 O1 f3 V1 (own_ge O0 (Nat.le_of_eq z1.symm)) (own_ne g0_V.lt (Nat.le_of_eq z1.symm)) (by omega)) (by decide) (by decide) e1 (by rw [hml]; rfl) (lenOf own_pd2 rfl) (argsL := [(.ref a), (.int (0 : Int32)), (.ref b1), (.int (0 : Int32)), (.int (Int32.ofNat cs.length))]) (rest := []) rfl rfl (Nat.le_of_eq rfl) (hb hby own_d15_9) (by decide) (by decide) ?_
  intro T2 h2 v2 L2 X2 e2 q2
  obtain ⟨r_2, vs_2, rfl, M2, J2, r2_0, r2_1⟩ := q2
  have N2 := Fr.app N0 M2
  have K2 : Keep h0 h2 [] := K1.trans J2 (allS (Or.inr (Nat.le_trans (Keep.refl h0 []).1 (Nat.le_of_eq z1.symm))) all0)
  have O2 : own_Old Z h2 := O1.keep J2 (allS (own_ge O0 (Nat.le_of_eq z1.symm)) all0)
  show G (T2.setTop (mkF m 12 #[.val (.ref a), .val (.int (0 : Int32)), .val (.int (Int32.ofNat cs.length)), .val (.ref b1), .unset, .unset] [(.int r_2)]))
  rcases r2_1 with ⟨rfl, hall, rfl⟩ | ⟨kq, hkq, rfl, hbig⟩
  · skip
    show G (T2.setTop (mkF m 12 #[.val (.ref a), .val (.int (0 : Int32)), .val (.int (Int32.ofNat cs.length)), .val (.ref b1), .unset, .unset] [(.int (Int32.ofNat cs.length))]))
    refine hG _ _ (fun t_ k_ => XS.istore X2.here hx rfl (hb hby own_d15_12) rfl (l' := #[.val (.ref a), .val (.int (0 : Int32)), .val (.int (Int32.ofNat cs.length)), .val (.ref b1), .val (.int (Int32.ofNat cs.length)), .unset]) rfl k_) ?_
    show G (T2.setTop (mkF m 14 #[.val (.ref a), .val (.int (0 : Int32)), .val (.int (Int32.ofNat cs.length)), .val (.ref b1), .val (.int (Int32.ofNat cs.length)), .unset] []))
    refine hG _ _ (fun t_ k_ => XS.iload X2.here hx rfl (hb hby own_d15_14) rfl k_) ?_
    show G (T2.setTop (mkF m 16 #[.val (.ref a), .val (.int (0 : Int32)), .val (.int (Int32.ofNat cs.length)), .val (.ref b1), .val (.int (Int32.ofNat cs.length)), .unset] [(.int (Int32.ofNat cs.length))]))
    refine hG _ _ (fun t_ k_ => XS.iloadN X2.here hx rfl (hb hby own_d15_16) rfl k_) ?_
    show G (T2.setTop (mkF m 17 #[.val (.ref a), .val (.int (0 : Int32)), .val (.int (Int32.ofNat cs.length)), .val (.ref b1), .val (.int (Int32.ofNat cs.length)), .unset] [(.int (Int32.ofNat cs.length)), (.int (Int32.ofNat cs.length))]))
    refine hG _ _ (fun t_ k_ => XS.icmpYes X2.here hx rfl (pc0 := 17) (pc' := 57) rfl (hb hby own_d15_17) rfl (teq (rfl : (Int32.ofNat cs.length) = (Int32.ofNat cs.length))).1 (by decide) (by decide) k_) ?_
    show G (T2.setTop (mkF m 57 #[.val (.ref a), .val (.int (0 : Int32)), .val (.int (Int32.ofNat cs.length)), .val (.ref b1), .val (.int (Int32.ofNat cs.length)), .unset] []))
    refine hG _ _ (fun t_ k_ => XS.aloadN X2.here hx rfl (hb hby own_d15_57) rfl rfl k_) ?_
    show G (T2.setTop (mkF m 58 #[.val (.ref a), .val (.int (0 : Int32)), .val (.int (Int32.ofNat cs.length)), .val (.ref b1), .val (.int (Int32.ofNat cs.length)), .unset] [(.ref b1)]))
    exact own_retA hR hret rfl rfl X2 hx (hb hby own_d15_58) (by decide) (by decide) (by rw [e2]; exact ⟨b1, k1, (Int32.ofNat cs.length), (cs.map fun c => Value.int c.toInt8.toInt32), rfl, N2, K2, (Nat.le_trans (Keep.refl h0 []).1 (Nat.le_of_eq z1.symm)), r2_0, (Or.inl ⟨hall, rfl, rfl⟩)⟩)
  · skip
    show G (T2.setTop (mkF m 12 #[.val (.ref a), .val (.int (0 : Int32)), .val (.int (Int32.ofNat cs.length)), .val (.ref b1), .unset, .unset] [(.int (Int32.ofNat kq))]))
    refine hG _ _ (fun t_ k_ => XS.istore X2.here hx rfl (hb hby own_d15_12) rfl (l' := #[.val (.ref a), .val (.int (0 : Int32)), .val (.int (Int32.ofNat cs.length)), .val (.ref b1), .val (.int (Int32.ofNat kq)), .unset]) rfl k_) ?_
    show G (T2.setTop (mkF m 14 #[.val (.ref a), .val (.int (0 : Int32)), .val (.int (Int32.ofNat cs.length)), .val (.ref b1), .val (.int (Int32.ofNat kq)), .unset] []))
    refine hG _ _ (fun t_ k_ => XS.iload X2.here hx rfl (hb hby own_d15_14) rfl k_) ?_
    show G (T2.setTop (mkF m 16 #[.val (.ref a), .val (.int (0 : Int32)), .val (.int (Int32.ofNat cs.length)), .val (.ref b1), .val (.int (Int32.ofNat kq)), .unset] [(.int (Int32.ofNat kq))]))
    refine hG _ _ (fun t_ k_ => XS.iloadN X2.here hx rfl (hb hby own_d15_16) rfl k_) ?_
    show G (T2.setTop (mkF m 17 #[.val (.ref a), .val (.int (0 : Int32)), .val (.int (Int32.ofNat cs.length)), .val (.ref b1), .val (.int (Int32.ofNat kq)), .unset] [(.int (Int32.ofNat cs.length)), (.int (Int32.ofNat kq))]))
    refine hG _ _ (fun t_ k_ => XS.icmpNo X2.here hx rfl (hb hby own_d15_17) rfl (feq (own_ofNat_ne hkq (by omega))).1 k_) ?_
    show G (T2.setTop (mkF m 20 #[.val (.ref a), .val (.int (0 : Int32)), .val (.int (Int32.ofNat cs.length)), .val (.ref b1), .val (.int (Int32.ofNat kq)), .unset] []))
    refine hG _ _ (fun t_ k_ => XS.aloadN X2.here hx rfl (hb hby own_d15_20) rfl rfl k_) ?_
    show G (T2.setTop (mkF m 21 #[.val (.ref a), .val (.int (0 : Int32)), .val (.int (Int32.ofNat cs.length)), .val (.ref b1), .val (.int (Int32.ofNat kq)), .unset] [(.ref a)]))
    refine hG _ _ (fun t_ k_ => XS.iloadN X2.here hx rfl (hb hby own_d15_21) rfl k_) ?_
    show G (T2.setTop (mkF m 22 #[.val (.ref a), .val (.int (0 : Int32)), .val (.int (Int32.ofNat cs.length)), .val (.ref b1), .val (.int (Int32.ofNat kq)), .unset] [(.int (0 : Int32)), (.ref a)]))
    refine hG _ _ (fun t_ k_ => XS.iloadN X2.here hx rfl (hb hby own_d15_22) rfl k_) ?_
    show G (T2.setTop (mkF m 23 #[.val (.ref a), .val (.int (0 : Int32)), .val (.int (Int32.ofNat cs.length)), .val (.ref b1), .val (.int (Int32.ofNat kq)), .unset] [(.int (Int32.ofNat cs.length)), (.int (0 : Int32)), (.ref a)]))
    have f5 := (f3.keep J2 (ninS (own_ne g0_V.lt (Nat.le_of_eq z1.symm)) nin0))
    refine own_callS X2 hx hZ hG hown (hw _ (List.mem_of_getElem? (i := 84) rfl)) (hw _ (List.mem_of_getElem? (i := 85) rfl)) (hw _ (List.mem_of_getElem? (i := 73) rfl)) (hw _ (List.mem_of_getElem? (i := 86) rfl)) (by decide) 0 (own_tob l Z a0 hw a ka cs h2 O2 f5 g1_hcap g3_S g4_S g5_S) (by decide) (by decide) e2 (by rw [hml]; rfl) (lenOf own_pd5 rfl) (argsL := [(.ref a), (.int (0 : Int32)), (.int (Int32.ofNat cs.length))]) (rest := []) rfl rfl (Nat.le_of_eq rfl) (hb hby own_d15_23) (by decide) (by decide) ?_
    intro T4 h4 v4 L4 X4 e4 q4
    obtain ⟨t_4, kt_4, vs_4, rfl, M4, J4, y4_0, r4_0, r4_1⟩ := q4
    have N4 := Fr.app N2 M4
    have K4 : Keep h0 h4 [] := K2.trans J4 all0
    have O4 : own_Old Z h4 := O2.keep J4 all0
    show G (T4.setTop (mkF m 26 #[.val (.ref a), .val (.int (0 : Int32)), .val (.int (Int32.ofNat cs.length)), .val (.ref b1), .val (.int (Int32.ofNat kq)), .unset] [(.ref t_4)]))
    refine hG _ _ (fun t_ k_ => XS.astore X4.here hx rfl (hb hby own_d15_26) rfl rfl (l' := #[.val (.ref a), .val (.int (0 : Int32)), .val (.int (Int32.ofNat cs.length)), .val (.ref b1), .val (.int (Int32.ofNat kq)), .val (.ref t_4)]) rfl k_) ?_
    show G (T4.setTop (mkF m 28 #[.val (.ref a), .val (.int (0 : Int32)), .val (.int (Int32.ofNat cs.length)), .val (.ref b1), .val (.int (Int32.ofNat kq)), .val (.ref t_4)] []))
    refine hG _ _ (fun t_ k_ => XS.aload X4.here hx rfl (hb hby own_d15_28) rfl rfl k_) ?_
    show G (T4.setTop (mkF m 30 #[.val (.ref a), .val (.int (0 : Int32)), .val (.int (Int32.ofNat cs.length)), .val (.ref b1), .val (.int (Int32.ofNat kq)), .val (.ref t_4)] [(.ref t_4)]))
    refine hG _ _ (fun t_ k_ => XS.iload X4.here hx rfl (hb hby own_d15_30) rfl k_) ?_
    show G (T4.setTop (mkF m 32 #[.val (.ref a), .val (.int (0 : Int32)), .val (.int (Int32.ofNat cs.length)), .val (.ref b1), .val (.int (Int32.ofNat kq)), .val (.ref t_4)] [(.int (Int32.ofNat kq)), (.ref t_4)]))
    refine own_callS X4 hx hZ hG hown (hw _ (List.mem_of_getElem? (i := 100) rfl)) (hw _ (List.mem_of_getElem? (i := 101) rfl)) (hw _ (List.mem_of_getElem? (i := 73) rfl)) (hw _ (List.mem_of_getElem? (i := 102) rfl)) (by decide) 0 (own_gch l Z a0 hw t_4 kt_4 (2 * cs.length) vs_4 kq (own_lo (cs.getD kq 0)) (own_hi (cs.getD kq 0)) h4 O4 r4_0 (by omega) (by omega) (r4_1.2 kq hkq).1 (r4_1.2 kq hkq).2 g3_S g4_S g5_S) (by decide) (by decide) e4 (by rw [hml]; rfl) (lenOf own_pd1 rfl) (argsL := [(.ref t_4), (.int (Int32.ofNat kq))]) (rest := []) rfl rfl (Nat.le_of_eq rfl) (hb hby own_d15_32) (by decide) (by decide) ?_
    intro T6 h6 v6 L6 X6 e6 q6
    obtain ⟨rfl, M6, rfl⟩ := q6
    have N6 := Fr.app N4 M6
    show G (T6.setTop (mkF m 35 #[.val (.ref a), .val (.int (0 : Int32)), .val (.int (Int32.ofNat cs.length)), .val (.ref b1), .val (.int (Int32.ofNat kq)), .val (.ref t_4)] [(.int (own_join (own_lo (cs.getD kq 0)) (own_hi (cs.getD kq 0))))]))
    rw [own_join_eq (g2_h16 _ (own_getD_mem cs kq 0 hkq))]
    show G (T6.setTop (mkF m 35 #[.val (.ref a), .val (.int (0 : Int32)), .val (.int (Int32.ofNat cs.length)), .val (.ref b1), .val (.int (Int32.ofNat kq)), .val (.ref t_4)] [(.int (cs.getD kq 0))]))
    refine hG _ _ (fun t_ k_ => XS.sipush X6.here hx rfl (hb hby own_d15_35) k_) ?_
    show G (T6.setTop (mkF m 38 #[.val (.ref a), .val (.int (0 : Int32)), .val (.int (Int32.ofNat cs.length)), .val (.ref b1), .val (.int (Int32.ofNat kq)), .val (.ref t_4)] [(.int (255 : Int32)), (.int (cs.getD kq 0))]))
    refine hG _ _ (fun t_ k_ => XS.icmpYes X6.here hx rfl (pc0 := 38) (pc' := 54) rfl (hb hby own_d15_38) rfl (tlt hbig).2.2.1 (by decide) (by decide) k_) ?_
    show G (T6.setTop (mkF m 54 #[.val (.ref a), .val (.int (0 : Int32)), .val (.int (Int32.ofNat cs.length)), .val (.ref b1), .val (.int (Int32.ofNat kq)), .val (.ref t_4)] []))
    refine hG _ _ (fun t_ k_ => XS.aload X6.here hx rfl (hb hby own_d15_54) rfl rfl k_) ?_
    show G (T6.setTop (mkF m 56 #[.val (.ref a), .val (.int (0 : Int32)), .val (.int (Int32.ofNat cs.length)), .val (.ref b1), .val (.int (Int32.ofNat kq)), .val (.ref t_4)] [(.ref t_4)]))
    exact own_retA hR hret rfl rfl X6 hx (hb hby own_d15_56) (by decide) (by decide) (by rw [e6]; exact ⟨t_4, kt_4, (Int32.ofNat (2 * cs.length)), vs_4, rfl, N6, K4, (Nat.le_trans K2.1 y4_0), r4_0, (Or.inr ⟨⟨kq, hkq, hbig⟩, rfl, r4_1⟩)⟩)
theorem own_pd6 : parseMethodDescriptor "([BI)B" = some ⟨[(.array .byte), .int], some .byte⟩ := by decide +kernel
set_option maxRecDepth 65536 in
set_option maxHeartbeats 40000000 in
theorem own_coder (l : Launch) (Z : State) (a0 : Array Value) (hw : ∀ d ∈ tables_1, d.before a0 Z = true) (t : Addr) (n : Int32) (kt : ClassId) (n2 : Int32) (vs : List Value) (r : Int32) (h0 : Heap) (O0 : own_Old Z h0) (g0_V : Arv Z h0 t kt .byte n2 vs (.int (0 : Int32))) (g1_hr : nar .byte ((((n - n2).toUInt32 >>> ((31 : Int32) &&& 31).toUInt32).toInt32).toInt8.toInt32) = r) :
    own_Con l Z (⟨"java/lang/StringUTF16", "coderFromArrayLen", "([BI)B"⟩ : MethodName) jdk_52_method_15_code 2 (some .byte) [] ({ frames := 0, cells := 0, slots := 0, locals := 0 } : Room) #[(.ref t), (.int n)] h0 (fun rv rh rL => rv = some (.int r) ∧ own_Fr Z rL ∧ h0 = rh) := by
  refine own_intro (plainFor_of_name (by first | (simp [plainName, overriddenIn]; done) | decide +kernel)) ?_
  intro p e s m below meth c s₁ G hx hby hml hown hnm hret hZ X0 e0 hG hR
  have N0 := Fr.nil Z.heap.size
  refine own_entry (Ls := #[.val (.ref t), .val (.int n)]) (by first | (simp [entryFrame, mkF, argsToLocals, Value.category]; done) | rfl) ?_
  show G (s₁.setTop (mkF m 0 #[.val (.ref t), .val (.int n)] []))
  refine hG _ _ (fun t_ k_ => XS.iloadN X0.here hx rfl (hb hby own_d17_0) rfl k_) ?_
  show G (s₁.setTop (mkF m 1 #[.val (.ref t), .val (.int n)] [(.int n)]))
  refine hG _ _ (fun t_ k_ => XS.aloadN X0.here hx rfl (hb hby own_d17_1) rfl rfl k_) ?_
  show G (s₁.setTop (mkF m 2 #[.val (.ref t), .val (.int n)] [(.ref t), (.int n)]))
  obtain ⟨c1, Ar1, -, S1, M1, -, -⟩ := id g0_V
  refine hG _ _ (X0.arraylength hx (by rw [e0]; exact Ar1.1) (State.isArrayOf_alike hZ.alike Ar1.2.1) (g := (mkF m 2 #[.val (.ref t), .val (.int n)] [(.ref t), (.int n)])) rfl rfl (hb hby own_d17_2)) ?_
  rw [len_of S1 M1]
  show G (s₁.setTop (mkF m 3 #[.val (.ref t), .val (.int n)] [(.int n2), (.int n)]))
  refine hG _ _ (fun t_ k_ => XS.isub X0.here hx rfl (hb hby own_d17_3) rfl k_) ?_
  show G (s₁.setTop (mkF m 4 #[.val (.ref t), .val (.int n)] [(.int (n - n2))]))
  refine hG _ _ (fun t_ k_ => XS.bipush X0.here hx rfl (hb hby own_d17_4) k_) ?_
  show G (s₁.setTop (mkF m 6 #[.val (.ref t), .val (.int n)] [(.int (31 : Int32)), (.int (n - n2))]))
  refine hG _ _ (fun t_ k_ => XS.iushr X0.here hx rfl (hb hby own_d17_6) rfl k_) ?_
  show G (s₁.setTop (mkF m 7 #[.val (.ref t), .val (.int n)] [(.int (((n - n2).toUInt32 >>> ((31 : Int32) &&& 31).toUInt32).toInt32))]))
  refine hG _ _ (fun t_ k_ => XS.i2b X0.here hx rfl (hb hby own_d17_7) rfl k_) ?_
  show G (s₁.setTop (mkF m 8 #[.val (.ref t), .val (.int n)] [(.int ((((n - n2).toUInt32 >>> ((31 : Int32) &&& 31).toUInt32).toInt32).toInt8.toInt32))]))
  exact own_retN hR hret (by simp) X0 hx (hb hby own_d17_8) (by decide) (by decide) (by rw [e0]; exact ⟨(by rw [g1_hr]), N0, rfl⟩)
theorem own_pd7 : parseMethodDescriptor "([CIILjava/lang/Void;)V" = some ⟨[(.array .char), .int, .int, (.object "java/lang/Void")], none⟩ := by decide +kernel
set_option maxRecDepth 65536 in
set_option maxHeartbeats 40000000 in
theorem own_gstr4 (l : Launch) (Z : State) (a0 : Array Value) (hw : ∀ d ∈ tables_1, d.before a0 Z = true) (a : Addr) (u : Addr) (ku : ClassId) (cs : List Int32) (cpt : Int32) (v0 : Value) (v1 : Value) (h0 : Heap) (O0 : own_Old Z h0) (g0_E : Exa Z h0 a "java/lang/String") (g1_F : Fld Z h0 a "java/lang/String" "coder" "B" v0) (g2_F : Fld Z h0 a "java/lang/String" "value" "[B" v1) (g3_G : Z.heap.size ≤ a) (g4_V : Arv Z h0 u ku .char (Int32.ofNat cs.length) (cs.map Value.int) (.int (0 : Int32))) (g5_hpos : 0 < cs.length) (g6_hcap : cs.length ≤ 3) (g7_h16 : ∀ c ∈ cs, 0 ≤ c.toInt ∧ c.toInt ≤ 65535) (g8_S : Sta Z Z.heap "java/lang/String" "COMPACT_STRINGS" "Z" (.int cpt)) (g9_hcpt : ¬ (cpt = (0 : Int32))) (g10_S : Sta Z Z.heap "java/lang/StringUTF16" "$assertionsDisabled" "Z" (.int (1 : Int32))) (g11_S : Sta Z Z.heap "java/lang/StringUTF16" "HI_BYTE_SHIFT" "I" (.int (0 : Int32))) (g12_S : Sta Z Z.heap "java/lang/StringUTF16" "LO_BYTE_SHIFT" "I" (.int (8 : Int32))) :
    own_Con l Z (⟨"java/lang/String", "<init>", "([CIILjava/lang/Void;)V"⟩ : MethodName) jdk_42_method_149_code 6 none [] ({ frames := 4, cells := 2, slots := 9, locals := 57 } : Room) #[(.ref a), (.ref u), (.int (0 : Int32)), (.int (Int32.ofNat cs.length)), .null] h0 (fun rv rh rL => ∃ (t : Addr) (kt : ClassId) (cd : Int32) (nb : Int32) (vs : List Value), rv = none ∧ own_Fr Z rL ∧ Keep h0 rh [a] ∧ h0.size ≤ t ∧ (Exa Z rh a "java/lang/String") ∧ (Fld Z rh a "java/lang/String" "coder" "B" (.int cd)) ∧ (Fld Z rh a "java/lang/String" "value" "[B" (.ref t)) ∧ (Arv Z rh t kt .byte nb vs (.int (0 : Int32))) ∧ (own_enc cs cd nb vs)) := by
  refine own_intro (plainFor_of_name (by first | (simp [plainName, overriddenIn]; done) | decide +kernel)) ?_
  intro p e s m below meth c s₁ G hx hby hml hown hnm hret hZ X0 e0 hG hR
  have N0 := Fr.nil Z.heap.size
  refine own_entry (Ls := #[.val (.ref a), .val (.ref u), .val (.int (0 : Int32)), .val (.int (Int32.ofNat cs.length)), .val .null, .unset]) (by first | (simp [entryFrame, mkF, argsToLocals, Value.category]; done) | rfl) ?_
  show G (s₁.setTop (mkF m 0 #[.val (.ref a), .val (.ref u), .val (.int (0 : Int32)), .val (.int (Int32.ofNat cs.length)), .val .null, .unset] []))
  refine hG _ _ (fun t_ k_ => XS.aloadN X0.here hx rfl (hb hby own_d3_0) rfl rfl k_) ?_
  show G (s₁.setTop (mkF m 1 #[.val (.ref a), .val (.ref u), .val (.int (0 : Int32)), .val (.int (Int32.ofNat cs.length)), .val .null, .unset] [(.ref a)]))
  obtain ⟨T1, X1, e1, st1⟩ := initO X0 hx hZ hown (hw _ (List.mem_of_getElem? (i := 16) rfl)) (hw _ (List.mem_of_getElem? (i := 17) rfl)) (hw _ (List.mem_of_getElem? (i := 18) rfl)) e0 (g := (mkF m 1 #[.val (.ref a), .val (.ref u), .val (.int (0 : Int32)), .val (.int (Int32.ofNat cs.length)), .val .null, .unset] [(.ref a)])) rfl (by rw [hml]; rfl) rfl (hb hby own_d3_1) (by decide) (W := 0) (by show 2 * 0 + _ ≤ _; exact Nat.le_of_eq rfl) (by decide)
  refine hG _ _ st1 ?_
  show G (T1.setTop (mkF m 4 #[.val (.ref a), .val (.ref u), .val (.int (0 : Int32)), .val (.int (Int32.ofNat cs.length)), .val .null, .unset] []))
  refine hG _ _ (fun t_ k_ => XS.iloadN X1.here hx rfl (hb hby own_d3_4) rfl k_) ?_
  show G (T1.setTop (mkF m 5 #[.val (.ref a), .val (.ref u), .val (.int (0 : Int32)), .val (.int (Int32.ofNat cs.length)), .val .null, .unset] [(.int (Int32.ofNat cs.length))]))
  refine hG _ _ (fun t_ k_ => XS.ifYes X1.here hx rfl (pc0 := 5) (pc' := 27) rfl (hb hby own_d3_5) rfl ((if0 _ _).trans (feq (fun q => Nat.ne_of_gt g5_hpos (own_ofNat_inj (by omega) (by decide) q))).2) (by decide) (by decide) k_) ?_
  show G (T1.setTop (mkF m 27 #[.val (.ref a), .val (.ref u), .val (.int (0 : Int32)), .val (.int (Int32.ofNat cs.length)), .val .null, .unset] []))
  obtain ⟨T2, X2, e2, st2⟩ := getS2 X1 hx hZ hown (host := "") (Or.inl (hw _ (List.mem_of_getElem? (i := 46) rfl))) Via.refl e1 (own_sta g8_S O0) (g := (mkF m 27 #[.val (.ref a), .val (.ref u), .val (.int (0 : Int32)), .val (.int (Int32.ofNat cs.length)), .val .null, .unset] [])) rfl (hb hby own_d3_27)
  refine hG _ _ st2 ?_
  show G (T2.setTop (mkF m 30 #[.val (.ref a), .val (.ref u), .val (.int (0 : Int32)), .val (.int (Int32.ofNat cs.length)), .val .null, .unset] [(.int cpt)]))
  refine hG _ _ (fun t_ k_ => XS.ifNo X2.here hx rfl (hb hby own_d3_30) rfl ((if0 _ _).trans (feq g9_hcpt).1) k_) ?_
  show G (T2.setTop (mkF m 33 #[.val (.ref a), .val (.ref u), .val (.int (0 : Int32)), .val (.int (Int32.ofNat cs.length)), .val .null, .unset] []))
  refine hG _ _ (fun t_ k_ => XS.aloadN X2.here hx rfl (hb hby own_d3_33) rfl rfl k_) ?_
  show G (T2.setTop (mkF m 34 #[.val (.ref a), .val (.ref u), .val (.int (0 : Int32)), .val (.int (Int32.ofNat cs.length)), .val .null, .unset] [(.ref u)]))
  refine hG _ _ (fun t_ k_ => XS.iloadN X2.here hx rfl (hb hby own_d3_34) rfl k_) ?_
  show G (T2.setTop (mkF m 35 #[.val (.ref a), .val (.ref u), .val (.int (0 : Int32)), .val (.int (Int32.ofNat cs.length)), .val .null, .unset] [(.int (0 : Int32)), (.ref u)]))
  refine hG _ _ (fun t_ k_ => XS.iloadN X2.here hx rfl (hb hby own_d3_35) rfl k_) ?_
  show G (T2.setTop (mkF m 36 #[.val (.ref a), .val (.ref u), .val (.int (0 : Int32)), .val (.int (Int32.ofNat cs.length)), .val .null, .unset] [(.int (Int32.ofNat cs.length)), (.int (0 : Int32)), (.ref u)]))
  refine own_callS X2 hx hZ hG hown (hw _ (List.mem_of_getElem? (i := 71) rfl)) (hw _ (List.mem_of_getElem? (i := 72) rfl)) (hw _ (List.mem_of_getElem? (i := 73) rfl)) (hw _ (List.mem_of_getElem? (i := 74) rfl)) (by decide) 0 (own_gcmp3 l Z a0 hw u ku cs h0 O0 g4_V g6_hcap g7_h16 g10_S g11_S g12_S) (by decide) (by decide) e2 (by rw [hml]; rfl) (lenOf own_pd5 rfl) (argsL := [(.ref u), (.int (0 : Int32)), (.int (Int32.ofNat cs.length))]) (rest := []) rfl rfl (Nat.le_of_eq rfl) (hb hby own_d3_36) (by decide) (by decide) ?_
  intro T3 h3 v3 L3 X3 e3 q3
  obtain ⟨t_3, kt_3, nb_3, vs_3, rfl, M3, J3, y3_0, r3_0, r3_1⟩ := q3
  have N3 := Fr.app N0 M3
  have K3 : Keep h0 h3 [a] := (Keep.refl h0 [a]).trans J3 all0
  have O3 : own_Old Z h3 := O0.keep J3 all0
  show G (T3.setTop (mkF m 39 #[.val (.ref a), .val (.ref u), .val (.int (0 : Int32)), .val (.int (Int32.ofNat cs.length)), .val .null, .unset] [(.ref t_3)]))
  rcases r3_1 with ⟨hall, rfl, rfl⟩ | ⟨hbig, rfl, h16⟩
  · skip
    show G (T3.setTop (mkF m 39 #[.val (.ref a), .val (.ref u), .val (.int (0 : Int32)), .val (.int (Int32.ofNat cs.length)), .val .null, .unset] [(.ref t_3)]))
    refine hG _ _ (fun t_ k_ => XS.astore X3.here hx rfl (hb hby own_d3_39) rfl rfl (l' := #[.val (.ref a), .val (.ref u), .val (.int (0 : Int32)), .val (.int (Int32.ofNat cs.length)), .val .null, .val (.ref t_3)]) rfl k_) ?_
    show G (T3.setTop (mkF m 41 #[.val (.ref a), .val (.ref u), .val (.int (0 : Int32)), .val (.int (Int32.ofNat cs.length)), .val .null, .val (.ref t_3)] []))
    refine hG _ _ (fun t_ k_ => XS.aloadN X3.here hx rfl (hb hby own_d3_41) rfl rfl k_) ?_
    show G (T3.setTop (mkF m 42 #[.val (.ref a), .val (.ref u), .val (.int (0 : Int32)), .val (.int (Int32.ofNat cs.length)), .val .null, .val (.ref t_3)] [(.ref a)]))
    refine hG _ _ (fun t_ k_ => XS.aload X3.here hx rfl (hb hby own_d3_42) rfl rfl k_) ?_
    show G (T3.setTop (mkF m 44 #[.val (.ref a), .val (.ref u), .val (.int (0 : Int32)), .val (.int (Int32.ofNat cs.length)), .val .null, .val (.ref t_3)] [(.ref t_3), (.ref a)]))
    refine hG _ _ (fun t_ k_ => XS.iloadN X3.here hx rfl (hb hby own_d3_44) rfl k_) ?_
    show G (T3.setTop (mkF m 45 #[.val (.ref a), .val (.ref u), .val (.int (0 : Int32)), .val (.int (Int32.ofNat cs.length)), .val .null, .val (.ref t_3)] [(.int (Int32.ofNat cs.length)), (.ref t_3), (.ref a)]))
    refine own_callS X3 hx hZ hG hown (hw _ (List.mem_of_getElem? (i := 78) rfl)) (hw _ (List.mem_of_getElem? (i := 79) rfl)) (hw _ (List.mem_of_getElem? (i := 73) rfl)) (hw _ (List.mem_of_getElem? (i := 80) rfl)) (by decide) 1 (own_coder l Z a0 hw t_3 (Int32.ofNat cs.length) kt_3 (Int32.ofNat cs.length) (cs.map fun c => Value.int c.toInt8.toInt32) (0 : Int32) h3 O3 r3_0 (own_coder0 _)) (by decide) (by decide) e3 (by rw [hml]; rfl) (lenOf own_pd6 rfl) (argsL := [(.ref t_3), (.int (Int32.ofNat cs.length))]) (rest := [(.ref a)]) rfl rfl (Nat.le_of_eq rfl) (hb hby own_d3_45) (by decide) (by decide) ?_
    intro T4 h4 v4 L4 X4 e4 q4
    obtain ⟨rfl, M4, rfl⟩ := q4
    have N4 := Fr.app N3 M4
    show G (T4.setTop (mkF m 48 #[.val (.ref a), .val (.ref u), .val (.int (0 : Int32)), .val (.int (Int32.ofNat cs.length)), .val .null, .val (.ref t_3)] [(.int (0 : Int32)), (.ref a)]))
    have f6 := (g1_F.keep J3 nin0)
    have f7 := (g0_E.keep J3)
    obtain ⟨T5, h5, X5, e5, W5, st5⟩ := putFN X4 hx hZ hown (hw _ (List.mem_of_getElem? (i := 26) rfl)) Via.refl e4 f6 f7 (Or.inr ⟨(hw _ (List.mem_of_getElem? (i := 22) rfl)), rfl, hnm⟩) (hw _ (List.mem_of_getElem? (i := 6) rfl)) (ty := .byte) (v' := (.int (0 : Int32))) (by decide) rfl rfl (g := (mkF m 48 #[.val (.ref a), .val (.ref u), .val (.int (0 : Int32)), .val (.int (Int32.ofNat cs.length)), .val .null, .val (.ref t_3)] [(.int (0 : Int32)), (.ref a)])) rfl rfl (hb hby own_d3_48)
    refine hG _ _ st5 ?_
    have K5 : Keep h0 h5 [a] := K3.wr W5 (Or.inl (List.mem_of_getElem? (i := 0) rfl))
    have O5 : own_Old Z h5 := O3.wr W5 g3_G
    have N5 := Fr.snoc X5 N4 g3_G
    show G (T5.setTop (mkF m 51 #[.val (.ref a), .val (.ref u), .val (.int (0 : Int32)), .val (.int (Int32.ofNat cs.length)), .val .null, .val (.ref t_3)] []))
    refine hG _ _ (fun t_ k_ => XS.aloadN X5.here hx rfl (hb hby own_d3_51) rfl rfl k_) ?_
    show G (T5.setTop (mkF m 52 #[.val (.ref a), .val (.ref u), .val (.int (0 : Int32)), .val (.int (Int32.ofNat cs.length)), .val .null, .val (.ref t_3)] [(.ref a)]))
    refine hG _ _ (fun t_ k_ => XS.aload X5.here hx rfl (hb hby own_d3_52) rfl rfl k_) ?_
    show G (T5.setTop (mkF m 54 #[.val (.ref a), .val (.ref u), .val (.int (0 : Int32)), .val (.int (Int32.ofNat cs.length)), .val .null, .val (.ref t_3)] [(.ref t_3), (.ref a)]))
    have f9 := ((g2_F.keep J3 nin0).other W5 (Or.inr (slot_ne (Or.inr (hw _ (List.mem_of_getElem? (i := 21) rfl))) (Or.inr (hw _ (List.mem_of_getElem? (i := 22) rfl))) (by decide) (t := (.array .byte)) (t' := .byte) (by decide) (by decide))))
    have f10 := (f7.wr W5)
    obtain ⟨T8, h8, X8, e8, W8, st8⟩ := putF X5 hx hZ hown (host := "") (Or.inl (hw _ (List.mem_of_getElem? (i := 25) rfl))) Via.refl e5 f9 f10 (Or.inr ⟨(hw _ (List.mem_of_getElem? (i := 21) rfl)), rfl, hnm⟩) (hw _ (List.mem_of_getElem? (i := 6) rfl)) (ty := (.array .byte)) (by decide) rfl rfl (g := (mkF m 54 #[.val (.ref a), .val (.ref u), .val (.int (0 : Int32)), .val (.int (Int32.ofNat cs.length)), .val .null, .val (.ref t_3)] [(.ref t_3), (.ref a)])) rfl rfl (hb hby own_d3_54)
    refine hG _ _ st8 ?_
    have K8 : Keep h0 h8 [a] := K5.wr W8 (Or.inl (List.mem_of_getElem? (i := 0) rfl))
    have O8 : own_Old Z h8 := O5.wr W8 g3_G
    have N8 := Fr.snoc X8 N5 g3_G
    show G (T8.setTop (mkF m 57 #[.val (.ref a), .val (.ref u), .val (.int (0 : Int32)), .val (.int (Int32.ofNat cs.length)), .val .null, .val (.ref t_3)] []))
    have f11 := (f10.wr W8)
    have f12 := ((f6.same W5).other W8 (Or.inr (slot_ne (Or.inr (hw _ (List.mem_of_getElem? (i := 22) rfl))) (Or.inr (hw _ (List.mem_of_getElem? (i := 21) rfl))) (by decide) (t := .byte) (t' := (.array .byte)) (by decide) (by decide))))
    have f13 := ((r3_0.other W5 (Ne.symm (own_ne g0_E.lt y3_0))).other W8 (Ne.symm (own_ne g0_E.lt y3_0)))
    exact own_retV hR hret X8 hx (hb hby own_d3_57) (by decide) (by decide) (by rw [e8]; exact ⟨t_3, kt_3, (0 : Int32), (Int32.ofNat cs.length), (cs.map fun c => Value.int c.toInt8.toInt32), rfl, N8, K8, (Nat.le_trans (Keep.refl h0 [a]).1 y3_0), f11, f12, (f9.same W8), f13, (Or.inl ⟨hall, rfl, rfl, rfl⟩)⟩)
  · skip
    show G (T3.setTop (mkF m 39 #[.val (.ref a), .val (.ref u), .val (.int (0 : Int32)), .val (.int (Int32.ofNat cs.length)), .val .null, .unset] [(.ref t_3)]))
    refine hG _ _ (fun t_ k_ => XS.astore X3.here hx rfl (hb hby own_d3_39) rfl rfl (l' := #[.val (.ref a), .val (.ref u), .val (.int (0 : Int32)), .val (.int (Int32.ofNat cs.length)), .val .null, .val (.ref t_3)]) rfl k_) ?_
    show G (T3.setTop (mkF m 41 #[.val (.ref a), .val (.ref u), .val (.int (0 : Int32)), .val (.int (Int32.ofNat cs.length)), .val .null, .val (.ref t_3)] []))
    refine hG _ _ (fun t_ k_ => XS.aloadN X3.here hx rfl (hb hby own_d3_41) rfl rfl k_) ?_
    show G (T3.setTop (mkF m 42 #[.val (.ref a), .val (.ref u), .val (.int (0 : Int32)), .val (.int (Int32.ofNat cs.length)), .val .null, .val (.ref t_3)] [(.ref a)]))
    refine hG _ _ (fun t_ k_ => XS.aload X3.here hx rfl (hb hby own_d3_42) rfl rfl k_) ?_
    show G (T3.setTop (mkF m 44 #[.val (.ref a), .val (.ref u), .val (.int (0 : Int32)), .val (.int (Int32.ofNat cs.length)), .val .null, .val (.ref t_3)] [(.ref t_3), (.ref a)]))
    refine hG _ _ (fun t_ k_ => XS.iloadN X3.here hx rfl (hb hby own_d3_44) rfl k_) ?_
    show G (T3.setTop (mkF m 45 #[.val (.ref a), .val (.ref u), .val (.int (0 : Int32)), .val (.int (Int32.ofNat cs.length)), .val .null, .val (.ref t_3)] [(.int (Int32.ofNat cs.length)), (.ref t_3), (.ref a)]))
    refine own_callS X3 hx hZ hG hown (hw _ (List.mem_of_getElem? (i := 78) rfl)) (hw _ (List.mem_of_getElem? (i := 79) rfl)) (hw _ (List.mem_of_getElem? (i := 73) rfl)) (hw _ (List.mem_of_getElem? (i := 80) rfl)) (by decide) 1 (own_coder l Z a0 hw t_3 (Int32.ofNat cs.length) kt_3 (Int32.ofNat (2 * cs.length)) vs_3 (1 : Int32) h3 O3 r3_0 (own_coder1 g5_hpos (by omega))) (by decide) (by decide) e3 (by rw [hml]; rfl) (lenOf own_pd6 rfl) (argsL := [(.ref t_3), (.int (Int32.ofNat cs.length))]) (rest := [(.ref a)]) rfl rfl (Nat.le_of_eq rfl) (hb hby own_d3_45) (by decide) (by decide) ?_
    intro T14 h14 v14 L14 X14 e14 q14
    obtain ⟨rfl, M14, rfl⟩ := q14
    have N14 := Fr.app N3 M14
    show G (T14.setTop (mkF m 48 #[.val (.ref a), .val (.ref u), .val (.int (0 : Int32)), .val (.int (Int32.ofNat cs.length)), .val .null, .val (.ref t_3)] [(.int (1 : Int32)), (.ref a)]))
    have f16 := (g1_F.keep J3 nin0)
    have f17 := (g0_E.keep J3)
    obtain ⟨T15, h15, X15, e15, W15, st15⟩ := putFN X14 hx hZ hown (hw _ (List.mem_of_getElem? (i := 26) rfl)) Via.refl e14 f16 f17 (Or.inr ⟨(hw _ (List.mem_of_getElem? (i := 22) rfl)), rfl, hnm⟩) (hw _ (List.mem_of_getElem? (i := 6) rfl)) (ty := .byte) (v' := (.int (1 : Int32))) (by decide) rfl rfl (g := (mkF m 48 #[.val (.ref a), .val (.ref u), .val (.int (0 : Int32)), .val (.int (Int32.ofNat cs.length)), .val .null, .val (.ref t_3)] [(.int (1 : Int32)), (.ref a)])) rfl rfl (hb hby own_d3_48)
    refine hG _ _ st15 ?_
    have K15 : Keep h0 h15 [a] := K3.wr W15 (Or.inl (List.mem_of_getElem? (i := 0) rfl))
    have O15 : own_Old Z h15 := O3.wr W15 g3_G
    have N15 := Fr.snoc X15 N14 g3_G
    show G (T15.setTop (mkF m 51 #[.val (.ref a), .val (.ref u), .val (.int (0 : Int32)), .val (.int (Int32.ofNat cs.length)), .val .null, .val (.ref t_3)] []))
    refine hG _ _ (fun t_ k_ => XS.aloadN X15.here hx rfl (hb hby own_d3_51) rfl rfl k_) ?_
    show G (T15.setTop (mkF m 52 #[.val (.ref a), .val (.ref u), .val (.int (0 : Int32)), .val (.int (Int32.ofNat cs.length)), .val .null, .val (.ref t_3)] [(.ref a)]))
    refine hG _ _ (fun t_ k_ => XS.aload X15.here hx rfl (hb hby own_d3_52) rfl rfl k_) ?_
    show G (T15.setTop (mkF m 54 #[.val (.ref a), .val (.ref u), .val (.int (0 : Int32)), .val (.int (Int32.ofNat cs.length)), .val .null, .val (.ref t_3)] [(.ref t_3), (.ref a)]))
    have f19 := ((g2_F.keep J3 nin0).other W15 (Or.inr (slot_ne (Or.inr (hw _ (List.mem_of_getElem? (i := 21) rfl))) (Or.inr (hw _ (List.mem_of_getElem? (i := 22) rfl))) (by decide) (t := (.array .byte)) (t' := .byte) (by decide) (by decide))))
    have f20 := (f17.wr W15)
    obtain ⟨T18, h18, X18, e18, W18, st18⟩ := putF X15 hx hZ hown (host := "") (Or.inl (hw _ (List.mem_of_getElem? (i := 25) rfl))) Via.refl e15 f19 f20 (Or.inr ⟨(hw _ (List.mem_of_getElem? (i := 21) rfl)), rfl, hnm⟩) (hw _ (List.mem_of_getElem? (i := 6) rfl)) (ty := (.array .byte)) (by decide) rfl rfl (g := (mkF m 54 #[.val (.ref a), .val (.ref u), .val (.int (0 : Int32)), .val (.int (Int32.ofNat cs.length)), .val .null, .val (.ref t_3)] [(.ref t_3), (.ref a)])) rfl rfl (hb hby own_d3_54)
    refine hG _ _ st18 ?_
    have K18 : Keep h0 h18 [a] := K15.wr W18 (Or.inl (List.mem_of_getElem? (i := 0) rfl))
    have O18 : own_Old Z h18 := O15.wr W18 g3_G
    have N18 := Fr.snoc X18 N15 g3_G
    show G (T18.setTop (mkF m 57 #[.val (.ref a), .val (.ref u), .val (.int (0 : Int32)), .val (.int (Int32.ofNat cs.length)), .val .null, .val (.ref t_3)] []))
    have f21 := (f20.wr W18)
    have f22 := ((f16.same W15).other W18 (Or.inr (slot_ne (Or.inr (hw _ (List.mem_of_getElem? (i := 22) rfl))) (Or.inr (hw _ (List.mem_of_getElem? (i := 21) rfl))) (by decide) (t := .byte) (t' := (.array .byte)) (by decide) (by decide))))
    have f23 := ((r3_0.other W15 (Ne.symm (own_ne g0_E.lt y3_0))).other W18 (Ne.symm (own_ne g0_E.lt y3_0)))
    exact own_retV hR hret X18 hx (hb hby own_d3_57) (by decide) (by decide) (by rw [e18]; exact ⟨t_3, kt_3, (1 : Int32), (Int32.ofNat (2 * cs.length)), vs_3, rfl, N18, K18, (Nat.le_trans (Keep.refl h0 [a]).1 y3_0), f21, f22, (f19.same W18), f23, (Or.inr ⟨hbig, rfl, rfl, h16⟩)⟩)
theorem own_pd8 : parseMethodDescriptor "([C)V" = some ⟨[(.array .char)], none⟩ := by decide +kernel
set_option maxRecDepth 65536 in
set_option maxHeartbeats 40000000 in
theorem own_gstr1 (l : Launch) (Z : State) (a0 : Array Value) (hw : ∀ d ∈ tables_1, d.before a0 Z = true) (a : Addr) (u : Addr) (ku : ClassId) (cs : List Int32) (cpt : Int32) (v0 : Value) (v1 : Value) (h0 : Heap) (O0 : own_Old Z h0) (g0_E : Exa Z h0 a "java/lang/String") (g1_F : Fld Z h0 a "java/lang/String" "coder" "B" v0) (g2_F : Fld Z h0 a "java/lang/String" "value" "[B" v1) (g3_G : Z.heap.size ≤ a) (g4_V : Arv Z h0 u ku .char (Int32.ofNat cs.length) (cs.map Value.int) (.int (0 : Int32))) (g5_hpos : 0 < cs.length) (g6_hcap : cs.length ≤ 3) (g7_h16 : ∀ c ∈ cs, 0 ≤ c.toInt ∧ c.toInt ≤ 65535) (g8_S : Sta Z Z.heap "java/lang/String" "COMPACT_STRINGS" "Z" (.int cpt)) (g9_hcpt : ¬ (cpt = (0 : Int32))) (g10_S : Sta Z Z.heap "java/lang/StringUTF16" "$assertionsDisabled" "Z" (.int (1 : Int32))) (g11_S : Sta Z Z.heap "java/lang/StringUTF16" "HI_BYTE_SHIFT" "I" (.int (0 : Int32))) (g12_S : Sta Z Z.heap "java/lang/StringUTF16" "LO_BYTE_SHIFT" "I" (.int (8 : Int32))) :
    own_Con l Z (⟨"java/lang/String", "<init>", "([C)V"⟩ : MethodName) jdk_42_method_3_code 2 none [] ({ frames := 5, cells := 2, slots := 9, locals := 74 } : Room) #[(.ref a), (.ref u)] h0 (fun rv rh rL => ∃ (t : Addr) (kt : ClassId) (cd : Int32) (nb : Int32) (vs : List Value), rv = none ∧ own_Fr Z rL ∧ Keep h0 rh [a] ∧ h0.size ≤ t ∧ (Exa Z rh a "java/lang/String") ∧ (Fld Z rh a "java/lang/String" "coder" "B" (.int cd)) ∧ (Fld Z rh a "java/lang/String" "value" "[B" (.ref t)) ∧ (Arv Z rh t kt .byte nb vs (.int (0 : Int32))) ∧ (own_enc cs cd nb vs)) := by
  refine own_intro (plainFor_of_name (by first | (simp [plainName, overriddenIn]; done) | decide +kernel)) ?_
  intro p e s m below meth c s₁ G hx hby hml hown hnm hret hZ X0 e0 hG hR
  have N0 := Fr.nil Z.heap.size
  refine own_entry (Ls := #[.val (.ref a), .val (.ref u)]) (by first | (simp [entryFrame, mkF, argsToLocals, Value.category]; done) | rfl) ?_
  show G (s₁.setTop (mkF m 0 #[.val (.ref a), .val (.ref u)] []))
  refine hG _ _ (fun t_ k_ => XS.aloadN X0.here hx rfl (hb hby own_d2_0) rfl rfl k_) ?_
  show G (s₁.setTop (mkF m 1 #[.val (.ref a), .val (.ref u)] [(.ref a)]))
  refine hG _ _ (fun t_ k_ => XS.aloadN X0.here hx rfl (hb hby own_d2_1) rfl rfl k_) ?_
  show G (s₁.setTop (mkF m 2 #[.val (.ref a), .val (.ref u)] [(.ref u), (.ref a)]))
  refine hG _ _ (fun t_ k_ => XS.iconst X0.here hx rfl (hb hby own_d2_2) k_) ?_
  show G (s₁.setTop (mkF m 3 #[.val (.ref a), .val (.ref u)] [(.int (0 : Int32)), (.ref u), (.ref a)]))
  refine hG _ _ (fun t_ k_ => XS.aloadN X0.here hx rfl (hb hby own_d2_3) rfl rfl k_) ?_
  show G (s₁.setTop (mkF m 4 #[.val (.ref a), .val (.ref u)] [(.ref u), (.int (0 : Int32)), (.ref u), (.ref a)]))
  obtain ⟨c1, Ar1, -, S1, M1, -, -⟩ := id g4_V
  refine hG _ _ (X0.arraylength hx (by rw [e0]; exact Ar1.1) (State.isArrayOf_alike hZ.alike Ar1.2.1) (g := (mkF m 4 #[.val (.ref a), .val (.ref u)] [(.ref u), (.int (0 : Int32)), (.ref u), (.ref a)])) rfl rfl (hb hby own_d2_4)) ?_
  rw [len_of S1 M1]
  show G (s₁.setTop (mkF m 5 #[.val (.ref a), .val (.ref u)] [(.int (Int32.ofNat cs.length)), (.int (0 : Int32)), (.ref u), (.ref a)]))
  refine hG _ _ (fun t_ k_ => XS.aconstNull X0.here hx rfl (hb hby own_d2_5) k_) ?_
  show G (s₁.setTop (mkF m 6 #[.val (.ref a), .val (.ref u)] [.null, (.int (Int32.ofNat cs.length)), (.int (0 : Int32)), (.ref u), (.ref a)]))
  refine own_callI X0 hx hZ hG hown rfl (hw _ (List.mem_of_getElem? (i := 12) rfl)) (hw _ (List.mem_of_getElem? (i := 13) rfl)) (hw _ (List.mem_of_getElem? (i := 7) rfl)) (hw _ (List.mem_of_getElem? (i := 15) rfl)) (by decide) 0 (own_gstr4 l Z a0 hw a u ku cs cpt v0 v1 h0 O0 g0_E g1_F g2_F g3_G g4_V g5_hpos g6_hcap g7_h16 g8_S g9_hcpt g10_S g11_S g12_S) (by decide) (by decide) e0 (by rw [hml]; rfl) (lenOf own_pd7 rfl) (argsL := [(.ref u), (.int (0 : Int32)), (.int (Int32.ofNat cs.length)), .null]) (rest := []) rfl rfl (Nat.le_of_eq rfl) (hb hby own_d2_6) (by decide) (by decide) ?_
  intro T2 h2 v2 L2 X2 e2 q2
  obtain ⟨t_2, kt_2, cd_2, nb_2, vs_2, rfl, M2, J2, y2_0, r2_0, r2_1, r2_2, r2_3, r2_4⟩ := q2
  have N2 := Fr.app N0 M2
  have K2 : Keep h0 h2 [a] := (Keep.refl h0 [a]).trans J2 (allS (Or.inl (List.mem_of_getElem? (i := 0) rfl)) all0)
  have O2 : own_Old Z h2 := O0.keep J2 (allS g3_G all0)
  show G (T2.setTop (mkF m 9 #[.val (.ref a), .val (.ref u)] []))
  exact own_retV hR hret X2 hx (hb hby own_d2_9) (by decide) (by decide) (by rw [e2]; exact ⟨t_2, kt_2, cd_2, nb_2, vs_2, rfl, N2, K2, (Nat.le_trans (Keep.refl h0 [a]).1 y2_0), r2_0, r2_1, r2_2, r2_3, r2_4⟩)
set_option maxRecDepth 65536 in
set_option maxHeartbeats 40000000 in
theorem own_str4E (l : Launch) (Z : State) (a0 : Array Value) (hw : ∀ d ∈ tables_1, d.before a0 Z = true) (hEL : EW Z a0 consts_1) (a : Addr) (u : Addr) (v0 : Value) (h0 : Heap) (O0 : own_Old Z h0) (g0_E : Exa Z h0 a "java/lang/String") (g1_F : Fld Z h0 a "java/lang/String" "coder" "B" v0) (g2_F : Fld Z h0 a "java/lang/String" "value" "[B" .null) (g3_G : Z.heap.size ≤ a) :
    own_ConW l Z consts_1 (⟨"java/lang/String", "<init>", "([CIILjava/lang/Void;)V"⟩ : MethodName) jdk_42_method_149_code 6 none [] ({ frames := 1, cells := 4, slots := 8, locals := 12 } : Room) #[(.ref a), (.ref u), (.int (0 : Int32)), (.int (0 : Int32)), .null] h0 (fun rv rh rL => ∃ (t : Addr) (kt : ClassId), rv = none ∧ own_Fr Z rL ∧ Keep h0 rh [a] ∧ (Exa Z rh a "java/lang/String") ∧ (Fld Z rh a "java/lang/String" "coder" "B" (.int (0 : Int32))) ∧ (Fld Z rh a "java/lang/String" "value" "[B" (.ref t)) ∧ (Arv Z rh t kt .byte (0 : Int32) [] (.int (0 : Int32)))) := by
  refine own_introW hEL (plainFor_of_name (by first | (simp [plainName, overriddenIn]; done) | decide +kernel)) ?_
  intro p e s m below meth c s₁ G hx hby hml hown hnm hret hZ X0 e0 H0 SI0 hG hR
  have N0 := Fr.nil Z.heap.size
  refine own_entry (Ls := #[.val (.ref a), .val (.ref u), .val (.int (0 : Int32)), .val (.int (0 : Int32)), .val .null, .unset]) (by first | (simp [entryFrame, mkF, argsToLocals, Value.category]; done) | rfl) ?_
  show G (s₁.setTop (mkF m 0 #[.val (.ref a), .val (.ref u), .val (.int (0 : Int32)), .val (.int (0 : Int32)), .val .null, .unset] []))
  refine hG _ _ (fun t_ k_ => XS.aloadN X0.here hx rfl (hb hby own_d3_0) rfl rfl k_) ?_
  show G (s₁.setTop (mkF m 1 #[.val (.ref a), .val (.ref u), .val (.int (0 : Int32)), .val (.int (0 : Int32)), .val .null, .unset] [(.ref a)]))
  obtain ⟨T1, X1, e1, st1⟩ := initO X0 hx hZ hown (hw _ (List.mem_of_getElem? (i := 16) rfl)) (hw _ (List.mem_of_getElem? (i := 17) rfl)) (hw _ (List.mem_of_getElem? (i := 18) rfl)) e0 (g := (mkF m 1 #[.val (.ref a), .val (.ref u), .val (.int (0 : Int32)), .val (.int (0 : Int32)), .val .null, .unset] [(.ref a)])) rfl (by rw [hml]; rfl) rfl (hb hby own_d3_1) (by decide) (W := 0) (by show 2 * 0 + _ ≤ _; exact Nat.le_of_eq rfl) (by decide)
  refine hG _ _ st1 ?_
  show G (T1.setTop (mkF m 4 #[.val (.ref a), .val (.ref u), .val (.int (0 : Int32)), .val (.int (0 : Int32)), .val .null, .unset] []))
  refine hG _ _ (fun t_ k_ => XS.iloadN X1.here hx rfl (hb hby own_d3_4) rfl k_) ?_
  show G (T1.setTop (mkF m 5 #[.val (.ref a), .val (.ref u), .val (.int (0 : Int32)), .val (.int (0 : Int32)), .val .null, .unset] [(.int (0 : Int32))]))
  refine hG _ _ (fun t_ k_ => XS.ifNo X1.here hx rfl (hb hby own_d3_5) rfl ((if0 _ _).trans (teq (rfl : (0 : Int32) = (0 : Int32))).2) k_) ?_
  show G (T1.setTop (mkF m 8 #[.val (.ref a), .val (.ref u), .val (.int (0 : Int32)), .val (.int (0 : Int32)), .val .null, .unset] []))
  refine hG _ _ (fun t_ k_ => XS.aloadN X1.here hx rfl (hb hby own_d3_8) rfl rfl k_) ?_
  show G (T1.setTop (mkF m 9 #[.val (.ref a), .val (.ref u), .val (.int (0 : Int32)), .val (.int (0 : Int32)), .val .null, .unset] [(.ref a)]))
  obtain ⟨a2, T2, h2, k2, b2, kc2, X2, e2, E2, SI2, hk2, hZ2, hown2, Ea2, Fc2, Fv2, V2, la2, lb2, Y2, Li2, Nq2, st2⟩ := ldcCH X1 hx hZ hown (hw _ (List.mem_of_getElem? (i := 19) rfl)) (own_wS hw) e1 SI0 (Nat.le_refl _) hEL (List.mem_of_getElem? (i := 0) rfl) H0 (vs := []) (z := (0 : Int32)) ⟨by decide, by decide⟩ (by decide) rfl (g := (mkF m 9 #[.val (.ref a), .val (.ref u), .val (.int (0 : Int32)), .val (.int (0 : Int32)), .val .null, .unset] [(.ref a)])) rfl (hb hby own_d3_9) (n := 0) (by decide) (by decide) (by decide) (by decide)
  refine hG _ _ st2 ?_
  have R2 := Y2
  have C2 := (CHr.refl H0).trans R2
  have K2 : Keep h0 h2 [a] := (Keep.refl h0 [a]).ext E2
  have O2 : own_Old Z h2 := O0.ext E2
  show G (T2.setTop (mkF m 11 #[.val (.ref a), .val (.ref u), .val (.int (0 : Int32)), .val (.int (0 : Int32)), .val .null, .unset] [(.ref a2), (.ref a)]))
  obtain ⟨T3, X3, e3, st3⟩ := getF X2 hx hZ2 hown2 (host := "") (Or.inl (hw _ (List.mem_of_getElem? (i := 25) rfl))) Via.refl e2 Fv2 (g := (mkF m 11 #[.val (.ref a), .val (.ref u), .val (.int (0 : Int32)), .val (.int (0 : Int32)), .val .null, .unset] [(.ref a2), (.ref a)])) rfl rfl (hb hby own_d3_11)
  refine hG _ _ st3 ?_
  show G (T3.setTop (mkF m 14 #[.val (.ref a), .val (.ref u), .val (.int (0 : Int32)), .val (.int (0 : Int32)), .val .null, .unset] [(.ref b2), (.ref a)]))
  have f5 := (g2_F.ext E2)
  have f6 := (g0_E.ext E2)
  obtain ⟨T4, h4, X4, e4, W4, st4⟩ := putF X3 hx hZ2 hown2 (host := "") (Or.inl (hw _ (List.mem_of_getElem? (i := 25) rfl))) Via.refl e3 f5 f6 (Or.inr ⟨(hw _ (List.mem_of_getElem? (i := 21) rfl)), rfl, hnm⟩) (hw _ (List.mem_of_getElem? (i := 6) rfl)) (ty := (.array .byte)) (by decide) rfl rfl (g := (mkF m 14 #[.val (.ref a), .val (.ref u), .val (.int (0 : Int32)), .val (.int (0 : Int32)), .val .null, .unset] [(.ref b2), (.ref a)])) rfl rfl (hb hby own_d3_14)
  refine hG _ _ st4 ?_
  have sf7 : Safe Z consts_1 _ h2 a := (own_safeStr hZ2.alike f6 f5)
  have R4 := (CHr.wr W4 sf7 R2.1)
  have C4 := C2.trans R4
  have K4 : Keep h0 h4 [a] := K2.wr W4 (Or.inl (List.mem_of_getElem? (i := 0) rfl))
  have O4 : own_Old Z h4 := O2.wr W4 g3_G
  have N4 := Fr.snoc X4 N0 g3_G
  show G (T4.setTop (mkF m 17 #[.val (.ref a), .val (.ref u), .val (.int (0 : Int32)), .val (.int (0 : Int32)), .val .null, .unset] []))
  refine hG _ _ (fun t_ k_ => XS.aloadN X4.here hx rfl (hb hby own_d3_17) rfl rfl k_) ?_
  show G (T4.setTop (mkF m 18 #[.val (.ref a), .val (.ref u), .val (.int (0 : Int32)), .val (.int (0 : Int32)), .val .null, .unset] [(.ref a)]))
  obtain ⟨a8, T8, h8, k8, b8, kc8, X8, e8, E8, SI8, hk8, hZ8, hown8, Ea8, Fc8, Fv8, V8, la8, lb8, Y8, Li8, Nq8, st8⟩ := ldcCH X4 hx hZ2 hown2 (hw _ (List.mem_of_getElem? (i := 19) rfl)) (own_wS hw) e4 SI2 (Nat.le_trans hk2 R4.2.1) hEL (List.mem_of_getElem? (i := 0) rfl) R4.1 (vs := []) (z := (0 : Int32)) ⟨by decide, by decide⟩ (by decide) rfl (g := (mkF m 18 #[.val (.ref a), .val (.ref u), .val (.int (0 : Int32)), .val (.int (0 : Int32)), .val .null, .unset] [(.ref a)])) rfl (hb hby own_d3_18) (n := 0) (by decide) (by decide) (by decide) (by decide)
  refine hG _ _ st8 ?_
  have R8 := Y8
  have C8 := C4.trans R8
  have K8 : Keep h0 h8 [a] := K4.ext E8
  have O8 : own_Old Z h8 := O4.ext E8
  show G (T8.setTop (mkF m 20 #[.val (.ref a), .val (.ref u), .val (.int (0 : Int32)), .val (.int (0 : Int32)), .val .null, .unset] [(.ref a8), (.ref a)]))
  obtain ⟨T9, X9, e9, st9⟩ := getF X8 hx hZ8 hown8 (host := "") (Or.inl (hw _ (List.mem_of_getElem? (i := 26) rfl))) Via.refl e8 Fc8 (g := (mkF m 20 #[.val (.ref a), .val (.ref u), .val (.int (0 : Int32)), .val (.int (0 : Int32)), .val .null, .unset] [(.ref a8), (.ref a)])) rfl rfl (hb hby own_d3_20)
  refine hG _ _ st9 ?_
  show G (T9.setTop (mkF m 23 #[.val (.ref a), .val (.ref u), .val (.int (0 : Int32)), .val (.int (0 : Int32)), .val .null, .unset] [(.int (0 : Int32)), (.ref a)]))
  have f11 := (((g1_F.ext E2).other W4 (Or.inr (slot_ne (Or.inr (hw _ (List.mem_of_getElem? (i := 22) rfl))) (Or.inr (hw _ (List.mem_of_getElem? (i := 21) rfl))) (by decide) (t := .byte) (t' := (.array .byte)) (by decide) (by decide)))).ext E8)
  have f12 := ((f6.wr W4).ext E8)
  obtain ⟨T10, h10, X10, e10, W10, st10⟩ := putFN X9 hx hZ8 hown8 (hw _ (List.mem_of_getElem? (i := 26) rfl)) Via.refl e9 f11 f12 (Or.inr ⟨(hw _ (List.mem_of_getElem? (i := 22) rfl)), rfl, hnm⟩) (hw _ (List.mem_of_getElem? (i := 6) rfl)) (ty := .byte) (v' := (.int (0 : Int32))) (by decide) rfl rfl (g := (mkF m 23 #[.val (.ref a), .val (.ref u), .val (.int (0 : Int32)), .val (.int (0 : Int32)), .val .null, .unset] [(.int (0 : Int32)), (.ref a)])) rfl rfl (hb hby own_d3_23)
  refine hG _ _ st10 ?_
  have sf13 := (R8.safe (f5.same W4).lt (R4.safe f5.lt sf7))
  have R10 := (CHr.wr W10 sf13 R8.1)
  have C10 := C8.trans R10
  have K10 : Keep h0 h10 [a] := K8.wr W10 (Or.inl (List.mem_of_getElem? (i := 0) rfl))
  have O10 : own_Old Z h10 := O8.wr W10 g3_G
  have N10 := Fr.snoc X10 N4 g3_G
  show G (T10.setTop (mkF m 26 #[.val (.ref a), .val (.ref u), .val (.int (0 : Int32)), .val (.int (0 : Int32)), .val .null, .unset] []))
  have f14 := (f12.wr W10)
  have f15 := (((f5.same W4).ext E8).other W10 (Or.inr (slot_ne (Or.inr (hw _ (List.mem_of_getElem? (i := 21) rfl))) (Or.inr (hw _ (List.mem_of_getElem? (i := 22) rfl))) (by decide) (t := (.array .byte)) (t' := .byte) (by decide) (by decide))))
  have f16 := (((V2.other W4 (Ne.symm (Nq2 a sf7).2)).ext E8).other W10 (Ne.symm (Nq2 a sf7).2))
  exact own_retVW hR hret X10 hx (hb hby own_d3_26) e10 SI8 (Nat.le_trans hk8 R10.2.1) hZ8 C10 (by decide) (by decide) ⟨b2, kc2, rfl, N10, K10, f14, (f11.same W10), f15, f16⟩
set_option maxRecDepth 65536 in
set_option maxHeartbeats 40000000 in
theorem own_str1E (l : Launch) (Z : State) (a0 : Array Value) (hw : ∀ d ∈ tables_1, d.before a0 Z = true) (hEL : EW Z a0 consts_1) (a : Addr) (u : Addr) (v0 : Value) (ku : ClassId) (h0 : Heap) (O0 : own_Old Z h0) (g0_E : Exa Z h0 a "java/lang/String") (g1_F : Fld Z h0 a "java/lang/String" "coder" "B" v0) (g2_F : Fld Z h0 a "java/lang/String" "value" "[B" .null) (g3_G : Z.heap.size ≤ a) (g4_V : Arv Z h0 u ku .char (0 : Int32) [] (.int (0 : Int32))) :
    own_ConW l Z consts_1 (⟨"java/lang/String", "<init>", "([C)V"⟩ : MethodName) jdk_42_method_3_code 2 none [] ({ frames := 2, cells := 4, slots := 8, locals := 29 } : Room) #[(.ref a), (.ref u)] h0 (fun rv rh rL => ∃ (t : Addr) (kt : ClassId), rv = none ∧ own_Fr Z rL ∧ Keep h0 rh [a] ∧ (Exa Z rh a "java/lang/String") ∧ (Fld Z rh a "java/lang/String" "coder" "B" (.int (0 : Int32))) ∧ (Fld Z rh a "java/lang/String" "value" "[B" (.ref t)) ∧ (Arv Z rh t kt .byte (0 : Int32) [] (.int (0 : Int32)))) := by
  refine own_introW hEL (plainFor_of_name (by first | (simp [plainName, overriddenIn]; done) | decide +kernel)) ?_
  intro p e s m below meth c s₁ G hx hby hml hown hnm hret hZ X0 e0 H0 SI0 hG hR
  have N0 := Fr.nil Z.heap.size
  refine own_entry (Ls := #[.val (.ref a), .val (.ref u)]) (by first | (simp [entryFrame, mkF, argsToLocals, Value.category]; done) | rfl) ?_
  show G (s₁.setTop (mkF m 0 #[.val (.ref a), .val (.ref u)] []))
  refine hG _ _ (fun t_ k_ => XS.aloadN X0.here hx rfl (hb hby own_d2_0) rfl rfl k_) ?_
  show G (s₁.setTop (mkF m 1 #[.val (.ref a), .val (.ref u)] [(.ref a)]))
  refine hG _ _ (fun t_ k_ => XS.aloadN X0.here hx rfl (hb hby own_d2_1) rfl rfl k_) ?_
  show G (s₁.setTop (mkF m 2 #[.val (.ref a), .val (.ref u)] [(.ref u), (.ref a)]))
  refine hG _ _ (fun t_ k_ => XS.iconst X0.here hx rfl (hb hby own_d2_2) k_) ?_
  show G (s₁.setTop (mkF m 3 #[.val (.ref a), .val (.ref u)] [(.int (0 : Int32)), (.ref u), (.ref a)]))
  refine hG _ _ (fun t_ k_ => XS.aloadN X0.here hx rfl (hb hby own_d2_3) rfl rfl k_) ?_
  show G (s₁.setTop (mkF m 4 #[.val (.ref a), .val (.ref u)] [(.ref u), (.int (0 : Int32)), (.ref u), (.ref a)]))
  obtain ⟨c1, Ar1, -, S1, M1, -, -⟩ := id g4_V
  refine hG _ _ (X0.arraylength hx (by rw [e0]; exact Ar1.1) (State.isArrayOf_alike hZ.alike Ar1.2.1) (g := (mkF m 4 #[.val (.ref a), .val (.ref u)] [(.ref u), (.int (0 : Int32)), (.ref u), (.ref a)])) rfl rfl (hb hby own_d2_4)) ?_
  rw [len_of S1 M1]
  show G (s₁.setTop (mkF m 5 #[.val (.ref a), .val (.ref u)] [(.int (0 : Int32)), (.int (0 : Int32)), (.ref u), (.ref a)]))
  refine hG _ _ (fun t_ k_ => XS.aconstNull X0.here hx rfl (hb hby own_d2_5) k_) ?_
  show G (s₁.setTop (mkF m 6 #[.val (.ref a), .val (.ref u)] [.null, (.int (0 : Int32)), (.int (0 : Int32)), (.ref u), (.ref a)]))
  refine own_callIW X0 hx hZ hG hown rfl (hw _ (List.mem_of_getElem? (i := 12) rfl)) (hw _ (List.mem_of_getElem? (i := 13) rfl)) (hw _ (List.mem_of_getElem? (i := 7) rfl)) (hw _ (List.mem_of_getElem? (i := 15) rfl)) (by decide) 0 (own_str4E l Z a0 hw hEL a u v0 h0 O0 g0_E g1_F g2_F g3_G) (by decide) (by decide) e0 SI0 (Nat.le_refl _) hEL H0 (by rw [hml]; rfl) (lenOf own_pd7 rfl) (argsL := [(.ref u), (.int (0 : Int32)), (.int (0 : Int32)), .null]) (rest := []) rfl rfl (Nat.le_of_eq rfl) (hb hby own_d2_6) (by decide) (by decide) ?_
  intro T2 h2 v2 L2 X2 e2 SI2 hZ2 hown2 Y2 q2
  obtain ⟨t_2, kt_2, rfl, M2, J2, r2_0, r2_1, r2_2, r2_3⟩ := q2
  have N2 := Fr.app N0 M2
  have R2 := Y2
  have C2 := (CHr.refl H0).trans R2
  have K2 : Keep h0 h2 [a] := (Keep.refl h0 [a]).trans J2 (allS (Or.inl (List.mem_of_getElem? (i := 0) rfl)) all0)
  have O2 : own_Old Z h2 := O0.keep J2 (allS g3_G all0)
  show G (T2.setTop (mkF m 9 #[.val (.ref a), .val (.ref u)] []))
  exact own_retVW hR hret X2 hx (hb hby own_d2_9) e2 SI2 (Nat.le_refl _) hZ2 C2 (by decide) (by decide) ⟨t_2, kt_2, rfl, N2, K2, r2_0, r2_1, r2_2, r2_3⟩
theorem own_pd9 : parseMethodDescriptor "()Z" = some ⟨[], some .boolean⟩ := by decide +kernel
set_option maxRecDepth 65536 in
set_option maxHeartbeats 40000000 in
theorem own_isl0 (l : Launch) (Z : State) (a0 : Array Value) (hw : ∀ d ∈ tables_1, d.before a0 Z = true) (a : Addr) (cpt : Int32) (h0 : Heap) (O0 : own_Old Z h0) (g0_F : Fld Z h0 a "java/lang/String" "coder" "B" (.int (0 : Int32))) (g1_S : Sta Z Z.heap "java/lang/String" "COMPACT_STRINGS" "Z" (.int cpt)) (g2_hcpt : ¬ (cpt = (0 : Int32))) :
    own_Con l Z (⟨"java/lang/String", "isLatin1", "()Z"⟩ : MethodName) jdk_42_method_154_code 1 (some .boolean) [] ({ frames := 0, cells := 0, slots := 0, locals := 0 } : Room) #[(.ref a)] h0 (fun rv rh rL => rv = some (.int (1 : Int32)) ∧ own_Fr Z rL ∧ h0 = rh) := by
  refine own_intro (plainFor_of_name (by first | (simp [plainName, overriddenIn]; done) | decide +kernel)) ?_
  intro p e s m below meth c s₁ G hx hby hml hown hnm hret hZ X0 e0 hG hR
  have N0 := Fr.nil Z.heap.size
  refine own_entry (Ls := #[.val (.ref a)]) (by first | (simp [entryFrame, mkF, argsToLocals, Value.category]; done) | rfl) ?_
  show G (s₁.setTop (mkF m 0 #[.val (.ref a)] []))
  obtain ⟨T1, X1, e1, st1⟩ := getS2 X0 hx hZ hown (host := "") (Or.inl (hw _ (List.mem_of_getElem? (i := 46) rfl))) Via.refl e0 (own_sta g1_S O0) (g := (mkF m 0 #[.val (.ref a)] [])) rfl (hb hby own_d8_0)
  refine hG _ _ st1 ?_
  show G (T1.setTop (mkF m 3 #[.val (.ref a)] [(.int cpt)]))
  refine hG _ _ (fun t_ k_ => XS.ifNo X1.here hx rfl (hb hby own_d8_3) rfl ((if0 _ _).trans (feq g2_hcpt).1) k_) ?_
  show G (T1.setTop (mkF m 6 #[.val (.ref a)] []))
  refine hG _ _ (fun t_ k_ => XS.aloadN X1.here hx rfl (hb hby own_d8_6) rfl rfl k_) ?_
  show G (T1.setTop (mkF m 7 #[.val (.ref a)] [(.ref a)]))
  obtain ⟨T2, X2, e2, st2⟩ := getF X1 hx hZ hown (host := "") (Or.inl (hw _ (List.mem_of_getElem? (i := 26) rfl))) Via.refl e1 g0_F (g := (mkF m 7 #[.val (.ref a)] [(.ref a)])) rfl rfl (hb hby own_d8_7)
  refine hG _ _ st2 ?_
  show G (T2.setTop (mkF m 10 #[.val (.ref a)] [(.int (0 : Int32))]))
  refine hG _ _ (fun t_ k_ => XS.ifNo X2.here hx rfl (hb hby own_d8_10) rfl ((if0 _ _).trans (teq (by decide)).2) k_) ?_
  show G (T2.setTop (mkF m 13 #[.val (.ref a)] []))
  refine hG _ _ (fun t_ k_ => XS.iconst X2.here hx rfl (hb hby own_d8_13) k_) ?_
  show G (T2.setTop (mkF m 14 #[.val (.ref a)] [(.int (1 : Int32))]))
  refine hG _ _ (fun t_ k_ => XS.goto X2.here hx rfl (pc0 := 14) (pc' := 18) rfl (hb hby own_d8_14) (by decide) (by decide) k_) ?_
  show G (T2.setTop (mkF m 18 #[.val (.ref a)] [(.int (1 : Int32))]))
  exact own_retN hR hret (by simp) X2 hx (hb hby own_d8_18) (by decide) (by decide) (by rw [e2]; exact ⟨rfl, N0, rfl⟩)
set_option maxRecDepth 65536 in
set_option maxHeartbeats 40000000 in
theorem own_isl1 (l : Launch) (Z : State) (a0 : Array Value) (hw : ∀ d ∈ tables_1, d.before a0 Z = true) (a : Addr) (cpt : Int32) (h0 : Heap) (O0 : own_Old Z h0) (g0_F : Fld Z h0 a "java/lang/String" "coder" "B" (.int (1 : Int32))) (g1_S : Sta Z Z.heap "java/lang/String" "COMPACT_STRINGS" "Z" (.int cpt)) (g2_hcpt : ¬ (cpt = (0 : Int32))) :
    own_Con l Z (⟨"java/lang/String", "isLatin1", "()Z"⟩ : MethodName) jdk_42_method_154_code 1 (some .boolean) [] ({ frames := 0, cells := 0, slots := 0, locals := 0 } : Room) #[(.ref a)] h0 (fun rv rh rL => rv = some (.int (0 : Int32)) ∧ own_Fr Z rL ∧ h0 = rh) := by
  refine own_intro (plainFor_of_name (by first | (simp [plainName, overriddenIn]; done) | decide +kernel)) ?_
  intro p e s m below meth c s₁ G hx hby hml hown hnm hret hZ X0 e0 hG hR
  have N0 := Fr.nil Z.heap.size
  refine own_entry (Ls := #[.val (.ref a)]) (by first | (simp [entryFrame, mkF, argsToLocals, Value.category]; done) | rfl) ?_
  show G (s₁.setTop (mkF m 0 #[.val (.ref a)] []))
  obtain ⟨T1, X1, e1, st1⟩ := getS2 X0 hx hZ hown (host := "") (Or.inl (hw _ (List.mem_of_getElem? (i := 46) rfl))) Via.refl e0 (own_sta g1_S O0) (g := (mkF m 0 #[.val (.ref a)] [])) rfl (hb hby own_d8_0)
  refine hG _ _ st1 ?_
  show G (T1.setTop (mkF m 3 #[.val (.ref a)] [(.int cpt)]))
  refine hG _ _ (fun t_ k_ => XS.ifNo X1.here hx rfl (hb hby own_d8_3) rfl ((if0 _ _).trans (feq g2_hcpt).1) k_) ?_
  show G (T1.setTop (mkF m 6 #[.val (.ref a)] []))
  refine hG _ _ (fun t_ k_ => XS.aloadN X1.here hx rfl (hb hby own_d8_6) rfl rfl k_) ?_
  show G (T1.setTop (mkF m 7 #[.val (.ref a)] [(.ref a)]))
  obtain ⟨T2, X2, e2, st2⟩ := getF X1 hx hZ hown (host := "") (Or.inl (hw _ (List.mem_of_getElem? (i := 26) rfl))) Via.refl e1 g0_F (g := (mkF m 7 #[.val (.ref a)] [(.ref a)])) rfl rfl (hb hby own_d8_7)
  refine hG _ _ st2 ?_
  show G (T2.setTop (mkF m 10 #[.val (.ref a)] [(.int (1 : Int32))]))
  refine hG _ _ (fun t_ k_ => XS.ifYes X2.here hx rfl (pc0 := 10) (pc' := 17) rfl (hb hby own_d8_10) rfl ((if0 _ _).trans (feq (by decide)).2) (by decide) (by decide) k_) ?_
  show G (T2.setTop (mkF m 17 #[.val (.ref a)] []))
  refine hG _ _ (fun t_ k_ => XS.iconst X2.here hx rfl (hb hby own_d8_17) k_) ?_
  show G (T2.setTop (mkF m 18 #[.val (.ref a)] [(.int (0 : Int32))]))
  exact own_retN hR hret (by simp) X2 hx (hb hby own_d8_18) (by decide) (by decide) (by rw [e2]; exact ⟨rfl, N0, rfl⟩)
theorem own_pd10 : parseMethodDescriptor "()B" = some ⟨[], some .byte⟩ := by decide +kernel
set_option maxRecDepth 65536 in
set_option maxHeartbeats 40000000 in
theorem own_cod0 (l : Launch) (Z : State) (a0 : Array Value) (hw : ∀ d ∈ tables_1, d.before a0 Z = true) (a : Addr) (cpt : Int32) (h0 : Heap) (O0 : own_Old Z h0) (g0_F : Fld Z h0 a "java/lang/String" "coder" "B" (.int (0 : Int32))) (g1_S : Sta Z Z.heap "java/lang/String" "COMPACT_STRINGS" "Z" (.int cpt)) (g2_hcpt : ¬ (cpt = (0 : Int32))) :
    own_Con l Z (⟨"java/lang/String", "coder", "()B"⟩ : MethodName) jdk_42_method_152_code 1 (some .byte) [] ({ frames := 0, cells := 0, slots := 0, locals := 0 } : Room) #[(.ref a)] h0 (fun rv rh rL => rv = some (.int (0 : Int32)) ∧ own_Fr Z rL ∧ h0 = rh) := by
  refine own_intro (plainFor_of_name (by first | (simp [plainName, overriddenIn]; done) | decide +kernel)) ?_
  intro p e s m below meth c s₁ G hx hby hml hown hnm hret hZ X0 e0 hG hR
  have N0 := Fr.nil Z.heap.size
  refine own_entry (Ls := #[.val (.ref a)]) (by first | (simp [entryFrame, mkF, argsToLocals, Value.category]; done) | rfl) ?_
  show G (s₁.setTop (mkF m 0 #[.val (.ref a)] []))
  obtain ⟨T1, X1, e1, st1⟩ := getS2 X0 hx hZ hown (host := "") (Or.inl (hw _ (List.mem_of_getElem? (i := 46) rfl))) Via.refl e0 (own_sta g1_S O0) (g := (mkF m 0 #[.val (.ref a)] [])) rfl (hb hby own_d10_0)
  refine hG _ _ st1 ?_
  show G (T1.setTop (mkF m 3 #[.val (.ref a)] [(.int cpt)]))
  refine hG _ _ (fun t_ k_ => XS.ifNo X1.here hx rfl (hb hby own_d10_3) rfl ((if0 _ _).trans (feq g2_hcpt).1) k_) ?_
  show G (T1.setTop (mkF m 6 #[.val (.ref a)] []))
  refine hG _ _ (fun t_ k_ => XS.aloadN X1.here hx rfl (hb hby own_d10_6) rfl rfl k_) ?_
  show G (T1.setTop (mkF m 7 #[.val (.ref a)] [(.ref a)]))
  obtain ⟨T2, X2, e2, st2⟩ := getF X1 hx hZ hown (host := "") (Or.inl (hw _ (List.mem_of_getElem? (i := 26) rfl))) Via.refl e1 g0_F (g := (mkF m 7 #[.val (.ref a)] [(.ref a)])) rfl rfl (hb hby own_d10_7)
  refine hG _ _ st2 ?_
  show G (T2.setTop (mkF m 10 #[.val (.ref a)] [(.int (0 : Int32))]))
  refine hG _ _ (fun t_ k_ => XS.goto X2.here hx rfl (pc0 := 10) (pc' := 14) rfl (hb hby own_d10_10) (by decide) (by decide) k_) ?_
  show G (T2.setTop (mkF m 14 #[.val (.ref a)] [(.int (0 : Int32))]))
  exact own_retN hR hret (by simp) X2 hx (hb hby own_d10_14) (by decide) (by decide) (by rw [e2]; exact ⟨rfl, N0, rfl⟩)
set_option maxRecDepth 65536 in
set_option maxHeartbeats 40000000 in
theorem own_cod1 (l : Launch) (Z : State) (a0 : Array Value) (hw : ∀ d ∈ tables_1, d.before a0 Z = true) (a : Addr) (cpt : Int32) (h0 : Heap) (O0 : own_Old Z h0) (g0_F : Fld Z h0 a "java/lang/String" "coder" "B" (.int (1 : Int32))) (g1_S : Sta Z Z.heap "java/lang/String" "COMPACT_STRINGS" "Z" (.int cpt)) (g2_hcpt : ¬ (cpt = (0 : Int32))) :
    own_Con l Z (⟨"java/lang/String", "coder", "()B"⟩ : MethodName) jdk_42_method_152_code 1 (some .byte) [] ({ frames := 0, cells := 0, slots := 0, locals := 0 } : Room) #[(.ref a)] h0 (fun rv rh rL => rv = some (.int (1 : Int32)) ∧ own_Fr Z rL ∧ h0 = rh) := by
  refine own_intro (plainFor_of_name (by first | (simp [plainName, overriddenIn]; done) | decide +kernel)) ?_
  intro p e s m below meth c s₁ G hx hby hml hown hnm hret hZ X0 e0 hG hR
  have N0 := Fr.nil Z.heap.size
  refine own_entry (Ls := #[.val (.ref a)]) (by first | (simp [entryFrame, mkF, argsToLocals, Value.category]; done) | rfl) ?_
  show G (s₁.setTop (mkF m 0 #[.val (.ref a)] []))
  obtain ⟨T1, X1, e1, st1⟩ := getS2 X0 hx hZ hown (host := "") (Or.inl (hw _ (List.mem_of_getElem? (i := 46) rfl))) Via.refl e0 (own_sta g1_S O0) (g := (mkF m 0 #[.val (.ref a)] [])) rfl (hb hby own_d10_0)
  refine hG _ _ st1 ?_
  show G (T1.setTop (mkF m 3 #[.val (.ref a)] [(.int cpt)]))
  refine hG _ _ (fun t_ k_ => XS.ifNo X1.here hx rfl (hb hby own_d10_3) rfl ((if0 _ _).trans (feq g2_hcpt).1) k_) ?_
  show G (T1.setTop (mkF m 6 #[.val (.ref a)] []))
  refine hG _ _ (fun t_ k_ => XS.aloadN X1.here hx rfl (hb hby own_d10_6) rfl rfl k_) ?_
  show G (T1.setTop (mkF m 7 #[.val (.ref a)] [(.ref a)]))
  obtain ⟨T2, X2, e2, st2⟩ := getF X1 hx hZ hown (host := "") (Or.inl (hw _ (List.mem_of_getElem? (i := 26) rfl))) Via.refl e1 g0_F (g := (mkF m 7 #[.val (.ref a)] [(.ref a)])) rfl rfl (hb hby own_d10_7)
  refine hG _ _ st2 ?_
  show G (T2.setTop (mkF m 10 #[.val (.ref a)] [(.int (1 : Int32))]))
  refine hG _ _ (fun t_ k_ => XS.goto X2.here hx rfl (pc0 := 10) (pc' := 14) rfl (hb hby own_d10_10) (by decide) (by decide) k_) ?_
  show G (T2.setTop (mkF m 14 #[.val (.ref a)] [(.int (1 : Int32))]))
  exact own_retN hR hret (by simp) X2 hx (hb hby own_d10_14) (by decide) (by decide) (by rw [e2]; exact ⟨rfl, N0, rfl⟩)
theorem own_pd11 : parseMethodDescriptor "()I" = some ⟨[], some .int⟩ := by decide +kernel
set_option maxRecDepth 65536 in
set_option maxHeartbeats 40000000 in
theorem own_len (l : Launch) (Z : State) (a0 : Array Value) (hw : ∀ d ∈ tables_1, d.before a0 Z = true) (a : Addr) (t : Addr) (kt : ClassId) (cs : List Int32) (cd : Int32) (nb : Int32) (vs : List Value) (cpt : Int32) (h0 : Heap) (O0 : own_Old Z h0) (g0_E : Exa Z h0 a "java/lang/String") (g1_F : Fld Z h0 a "java/lang/String" "coder" "B" (.int cd)) (g2_F : Fld Z h0 a "java/lang/String" "value" "[B" (.ref t)) (g3_V : Arv Z h0 t kt .byte nb vs (.int (0 : Int32))) (g4_henc : own_enc cs cd nb vs) (g5_hcap : cs.length ≤ 3) (g6_h16 : ∀ c ∈ cs, 0 ≤ c.toInt ∧ c.toInt ≤ 65535) (g7_S : Sta Z Z.heap "java/lang/String" "COMPACT_STRINGS" "Z" (.int cpt)) (g8_hcpt : ¬ (cpt = (0 : Int32))) :
    own_Con l Z (⟨"java/lang/String", "length", "()I"⟩ : MethodName) jdk_42_method_54_code 1 (some .int) [] ({ frames := 1, cells := 0, slots := 0, locals := 13 } : Room) #[(.ref a)] h0 (fun rv rh rL => rv = some (.int (Int32.ofNat cs.length)) ∧ own_Fr Z rL ∧ h0 = rh) := by
  refine own_intro (plainFor_of_name (by first | (simp [plainName, overriddenIn]; done) | decide +kernel)) ?_
  intro p e s m below meth c s₁ G hx hby hml hown hnm hret hZ X0 e0 hG hR
  have N0 := Fr.nil Z.heap.size
  refine own_entry (Ls := #[.val (.ref a)]) (by first | (simp [entryFrame, mkF, argsToLocals, Value.category]; done) | rfl) ?_
  show G (s₁.setTop (mkF m 0 #[.val (.ref a)] []))
  rcases id g4_henc with ⟨hall, rfl, rfl, rfl⟩ | ⟨hbig, rfl, rfl, h16⟩
  · skip
    show G (s₁.setTop (mkF m 0 #[.val (.ref a)] []))
    refine hG _ _ (fun t_ k_ => XS.aloadN X0.here hx rfl (hb hby own_d9_0) rfl rfl k_) ?_
    show G (s₁.setTop (mkF m 1 #[.val (.ref a)] [(.ref a)]))
    obtain ⟨T1, X1, e1, st1⟩ := getF X0 hx hZ hown (host := "") (Or.inl (hw _ (List.mem_of_getElem? (i := 25) rfl))) Via.refl e0 g2_F (g := (mkF m 1 #[.val (.ref a)] [(.ref a)])) rfl rfl (hb hby own_d9_1)
    refine hG _ _ st1 ?_
    show G (T1.setTop (mkF m 4 #[.val (.ref a)] [(.ref t)]))
    obtain ⟨c2, Ar2, -, S2, M2, -, -⟩ := id g3_V
    refine hG _ _ (X1.arraylength hx (by rw [e1]; exact Ar2.1) (State.isArrayOf_alike hZ.alike Ar2.2.1) (g := (mkF m 4 #[.val (.ref a)] [(.ref t)])) rfl rfl (hb hby own_d9_4)) ?_
    rw [len_of S2 M2]
    show G (T1.setTop (mkF m 5 #[.val (.ref a)] [(.int (Int32.ofNat cs.length))]))
    refine hG _ _ (fun t_ k_ => XS.aloadN X1.here hx rfl (hb hby own_d9_5) rfl rfl k_) ?_
    show G (T1.setTop (mkF m 6 #[.val (.ref a)] [(.ref a), (.int (Int32.ofNat cs.length))]))
    refine own_callV (C := "java/lang/String") X1 hx hZ hG hown (hw _ (List.mem_of_getElem? (i := 52) rfl)) (hw _ (List.mem_of_getElem? (i := 53) rfl)) (hw _ (List.mem_of_getElem? (i := 55) rfl)) (hw _ (List.mem_of_getElem? (i := 54) rfl)) (hw _ (List.mem_of_getElem? (i := 7) rfl)) (hw _ (List.mem_of_getElem? (i := 56) rfl)) (by decide) 1 (own_cod0 l Z a0 hw a cpt h0 O0 g1_F g7_S g8_hcpt) (by decide) (by decide) e1 g0_E (by rw [hml]; rfl) (lenOf own_pd10 rfl) (argsL := []) (rest := [(.int (Int32.ofNat cs.length))]) rfl rfl (Nat.le_of_eq rfl) (hb hby own_d9_6) (by decide) (by decide) ?_
    intro T3 h3 v3 L3 X3 e3 q3
    obtain ⟨rfl, M3, rfl⟩ := q3
    have N3 := Fr.app N0 M3
    show G (T3.setTop (mkF m 9 #[.val (.ref a)] [(.int (0 : Int32)), (.int (Int32.ofNat cs.length))]))
    refine hG _ _ (fun t_ k_ => XS.ishr X3.here hx rfl (hb hby own_d9_9) rfl k_) ?_
    show G (T3.setTop (mkF m 10 #[.val (.ref a)] [(.int ((Int32.ofNat cs.length) >>> ((0 : Int32) &&& 31)))]))
    exact own_retI hR hret X3 hx (hb hby own_d9_10) (by decide) (by decide) (by rw [e3]; exact ⟨(by rw [own_shr0]), N3, rfl⟩)
  · skip
    show G (s₁.setTop (mkF m 0 #[.val (.ref a)] []))
    refine hG _ _ (fun t_ k_ => XS.aloadN X0.here hx rfl (hb hby own_d9_0) rfl rfl k_) ?_
    show G (s₁.setTop (mkF m 1 #[.val (.ref a)] [(.ref a)]))
    obtain ⟨T4, X4, e4, st4⟩ := getF X0 hx hZ hown (host := "") (Or.inl (hw _ (List.mem_of_getElem? (i := 25) rfl))) Via.refl e0 g2_F (g := (mkF m 1 #[.val (.ref a)] [(.ref a)])) rfl rfl (hb hby own_d9_1)
    refine hG _ _ st4 ?_
    show G (T4.setTop (mkF m 4 #[.val (.ref a)] [(.ref t)]))
    obtain ⟨c5, Ar5, -, S5, M5, -, -⟩ := id g3_V
    refine hG _ _ (X4.arraylength hx (by rw [e4]; exact Ar5.1) (State.isArrayOf_alike hZ.alike Ar5.2.1) (g := (mkF m 4 #[.val (.ref a)] [(.ref t)])) rfl rfl (hb hby own_d9_4)) ?_
    rw [len_of S5 M5]
    show G (T4.setTop (mkF m 5 #[.val (.ref a)] [(.int (Int32.ofNat (2 * cs.length)))]))
    refine hG _ _ (fun t_ k_ => XS.aloadN X4.here hx rfl (hb hby own_d9_5) rfl rfl k_) ?_
    show G (T4.setTop (mkF m 6 #[.val (.ref a)] [(.ref a), (.int (Int32.ofNat (2 * cs.length)))]))
    refine own_callV (C := "java/lang/String") X4 hx hZ hG hown (hw _ (List.mem_of_getElem? (i := 52) rfl)) (hw _ (List.mem_of_getElem? (i := 53) rfl)) (hw _ (List.mem_of_getElem? (i := 55) rfl)) (hw _ (List.mem_of_getElem? (i := 54) rfl)) (hw _ (List.mem_of_getElem? (i := 7) rfl)) (hw _ (List.mem_of_getElem? (i := 56) rfl)) (by decide) 1 (own_cod1 l Z a0 hw a cpt h0 O0 g1_F g7_S g8_hcpt) (by decide) (by decide) e4 g0_E (by rw [hml]; rfl) (lenOf own_pd10 rfl) (argsL := []) (rest := [(.int (Int32.ofNat (2 * cs.length)))]) rfl rfl (Nat.le_of_eq rfl) (hb hby own_d9_6) (by decide) (by decide) ?_
    intro T6 h6 v6 L6 X6 e6 q6
    obtain ⟨rfl, M6, rfl⟩ := q6
    have N6 := Fr.app N0 M6
    show G (T6.setTop (mkF m 9 #[.val (.ref a)] [(.int (1 : Int32)), (.int (Int32.ofNat (2 * cs.length)))]))
    refine hG _ _ (fun t_ k_ => XS.ishr X6.here hx rfl (hb hby own_d9_9) rfl k_) ?_
    show G (T6.setTop (mkF m 10 #[.val (.ref a)] [(.int ((Int32.ofNat (2 * cs.length)) >>> ((1 : Int32) &&& 31)))]))
    exact own_retI hR hret X6 hx (hb hby own_d9_10) (by decide) (by decide) (by rw [e6]; exact ⟨(by rw [own_shr1 (by omega)]), N6, rfl⟩)
theorem own_pd12 : parseMethodDescriptor "(II)I" = some ⟨[.int, .int], some .int⟩ := by decide +kernel
set_option maxRecDepth 65536 in
set_option maxHeartbeats 40000000 in
theorem own_max00 (l : Launch) (Z : State) (a0 : Array Value) (hw : ∀ d ∈ tables_1, d.before a0 Z = true) (h0 : Heap) (O0 : own_Old Z h0) :
    own_Con l Z (⟨"java/lang/Math", "max", "(II)I"⟩ : MethodName) jdk_29_method_65_code 2 (some .int) [] ({ frames := 0, cells := 0, slots := 0, locals := 0 } : Room) #[(.int (0 : Int32)), (.int (0 : Int32))] h0 (fun rv rh rL => rv = some (.int (0 : Int32)) ∧ own_Fr Z rL ∧ h0 = rh) := by
  refine own_intro (Jvm.Free.JP.mathPlain rfl (by decide +kernel)) ?_
  intro p e s m below meth c s₁ G hx hby hml hown hnm hret hZ X0 e0 hG hR
  have N0 := Fr.nil Z.heap.size
  refine own_entry (Ls := #[.val (.int (0 : Int32)), .val (.int (0 : Int32))]) (by first | (simp [entryFrame, mkF, argsToLocals, Value.category]; done) | rfl) ?_
  show G (s₁.setTop (mkF m 0 #[.val (.int (0 : Int32)), .val (.int (0 : Int32))] []))
  refine hG _ _ (fun t_ k_ => XS.iloadN X0.here hx rfl (hb hby own_d13_0) rfl k_) ?_
  show G (s₁.setTop (mkF m 1 #[.val (.int (0 : Int32)), .val (.int (0 : Int32))] [(.int (0 : Int32))]))
  refine hG _ _ (fun t_ k_ => XS.iloadN X0.here hx rfl (hb hby own_d13_1) rfl k_) ?_
  show G (s₁.setTop (mkF m 2 #[.val (.int (0 : Int32)), .val (.int (0 : Int32))] [(.int (0 : Int32)), (.int (0 : Int32))]))
  refine hG _ _ (fun t_ k_ => XS.icmpNo X0.here hx rfl (hb hby own_d13_2) rfl (flt (by decide)).1 k_) ?_
  show G (s₁.setTop (mkF m 5 #[.val (.int (0 : Int32)), .val (.int (0 : Int32))] []))
  refine hG _ _ (fun t_ k_ => XS.iloadN X0.here hx rfl (hb hby own_d13_5) rfl k_) ?_
  show G (s₁.setTop (mkF m 6 #[.val (.int (0 : Int32)), .val (.int (0 : Int32))] [(.int (0 : Int32))]))
  refine hG _ _ (fun t_ k_ => XS.goto X0.here hx rfl (pc0 := 6) (pc' := 10) rfl (hb hby own_d13_6) (by decide) (by decide) k_) ?_
  show G (s₁.setTop (mkF m 10 #[.val (.int (0 : Int32)), .val (.int (0 : Int32))] [(.int (0 : Int32))]))
  exact own_retI hR hret X0 hx (hb hby own_d13_10) (by decide) (by decide) (by rw [e0]; exact ⟨rfl, N0, rfl⟩)
set_option maxRecDepth 65536 in
set_option maxHeartbeats 40000000 in
theorem own_minnn (l : Launch) (Z : State) (a0 : Array Value) (hw : ∀ d ∈ tables_1, d.before a0 Z = true) (x : Int32) (h0 : Heap) (O0 : own_Old Z h0) :
    own_Con l Z (⟨"java/lang/Math", "min", "(II)I"⟩ : MethodName) jdk_29_method_69_code 2 (some .int) [] ({ frames := 0, cells := 0, slots := 0, locals := 0 } : Room) #[(.int x), (.int x)] h0 (fun rv rh rL => rv = some (.int x) ∧ own_Fr Z rL ∧ h0 = rh) := by
  refine own_intro (Jvm.Free.JP.mathPlain rfl (by decide +kernel)) ?_
  intro p e s m below meth c s₁ G hx hby hml hown hnm hret hZ X0 e0 hG hR
  have N0 := Fr.nil Z.heap.size
  refine own_entry (Ls := #[.val (.int x), .val (.int x)]) (by first | (simp [entryFrame, mkF, argsToLocals, Value.category]; done) | rfl) ?_
  show G (s₁.setTop (mkF m 0 #[.val (.int x), .val (.int x)] []))
  refine hG _ _ (fun t_ k_ => XS.iloadN X0.here hx rfl (hb hby own_d14_0) rfl k_) ?_
  show G (s₁.setTop (mkF m 1 #[.val (.int x), .val (.int x)] [(.int x)]))
  refine hG _ _ (fun t_ k_ => XS.iloadN X0.here hx rfl (hb hby own_d14_1) rfl k_) ?_
  show G (s₁.setTop (mkF m 2 #[.val (.int x), .val (.int x)] [(.int x), (.int x)]))
  refine hG _ _ (fun t_ k_ => XS.icmpNo X0.here hx rfl (hb hby own_d14_2) rfl (flt (fun q => Int32.lt_irrefl q)).2.2.1 k_) ?_
  show G (s₁.setTop (mkF m 5 #[.val (.int x), .val (.int x)] []))
  refine hG _ _ (fun t_ k_ => XS.iloadN X0.here hx rfl (hb hby own_d14_5) rfl k_) ?_
  show G (s₁.setTop (mkF m 6 #[.val (.int x), .val (.int x)] [(.int x)]))
  refine hG _ _ (fun t_ k_ => XS.goto X0.here hx rfl (pc0 := 6) (pc' := 10) rfl (hb hby own_d14_6) (by decide) (by decide) k_) ?_
  show G (s₁.setTop (mkF m 10 #[.val (.int x), .val (.int x)] [(.int x)]))
  exact own_retI hR hret X0 hx (hb hby own_d14_10) (by decide) (by decide) (by rw [e0]; exact ⟨rfl, N0, rfl⟩)
theorem own_pd13 : parseMethodDescriptor "(IIILjava/util/function/BiFunction;)I" = some ⟨[.int, .int, .int, (.object "java/util/function/BiFunction")], some .int⟩ := by decide +kernel
set_option maxRecDepth 65536 in
set_option maxHeartbeats 40000000 in
theorem own_cft (l : Launch) (Z : State) (a0 : Array Value) (hw : ∀ d ∈ tables_1, d.before a0 Z = true) (x : Int32) (y : Int32) (z : Int32) (fm : Value) (h0 : Heap) (O0 : own_Old Z h0) (g0_hfm : fm.isRef = true) (g1_h1 : ¬ (x < (0 : Int32))) (g2_h2 : ¬ (y < x)) (g3_h3 : ¬ (z < y)) :
    own_Con l Z (⟨"jdk/internal/util/Preconditions", "checkFromToIndex", "(IIILjava/util/function/BiFunction;)I"⟩ : MethodName) jdk_41_method_12_code 4 (some .int) [] ({ frames := 0, cells := 0, slots := 0, locals := 0 } : Room) #[(.int x), (.int y), (.int z), fm] h0 (fun rv rh rL => rv = some (.int x) ∧ own_Fr Z rL ∧ h0 = rh) := by
  refine own_intro (plainFor_of_name (by first | (simp [plainName, overriddenIn]; done) | decide +kernel)) ?_
  intro p e s m below meth c s₁ G hx hby hml hown hnm hret hZ X0 e0 hG hR
  have N0 := Fr.nil Z.heap.size
  refine own_entry (Ls := #[.val (.int x), .val (.int y), .val (.int z), .val fm]) (by rcases ref_cases g0_hfm with rfl | ⟨_, rfl⟩ <;> first | (simp [entryFrame, mkF, argsToLocals, Value.category]; done) | rfl) ?_
  show G (s₁.setTop (mkF m 0 #[.val (.int x), .val (.int y), .val (.int z), .val fm] []))
  refine hG _ _ (fun t_ k_ => XS.iloadN X0.here hx rfl (hb hby own_d29_0) rfl k_) ?_
  show G (s₁.setTop (mkF m 1 #[.val (.int x), .val (.int y), .val (.int z), .val fm] [(.int x)]))
  refine hG _ _ (fun t_ k_ => XS.ifNo X0.here hx rfl (hb hby own_d29_1) rfl ((if0 _ _).trans (flt g1_h1).1) k_) ?_
  show G (s₁.setTop (mkF m 4 #[.val (.int x), .val (.int y), .val (.int z), .val fm] []))
  refine hG _ _ (fun t_ k_ => XS.iloadN X0.here hx rfl (hb hby own_d29_4) rfl k_) ?_
  show G (s₁.setTop (mkF m 5 #[.val (.int x), .val (.int y), .val (.int z), .val fm] [(.int x)]))
  refine hG _ _ (fun t_ k_ => XS.iloadN X0.here hx rfl (hb hby own_d29_5) rfl k_) ?_
  show G (s₁.setTop (mkF m 6 #[.val (.int x), .val (.int y), .val (.int z), .val fm] [(.int y), (.int x)]))
  refine hG _ _ (fun t_ k_ => XS.icmpNo X0.here hx rfl (hb hby own_d29_6) rfl (flt g2_h2).2.2.1 k_) ?_
  show G (s₁.setTop (mkF m 9 #[.val (.int x), .val (.int y), .val (.int z), .val fm] []))
  refine hG _ _ (fun t_ k_ => XS.iloadN X0.here hx rfl (hb hby own_d29_9) rfl k_) ?_
  show G (s₁.setTop (mkF m 10 #[.val (.int x), .val (.int y), .val (.int z), .val fm] [(.int y)]))
  refine hG _ _ (fun t_ k_ => XS.iloadN X0.here hx rfl (hb hby own_d29_10) rfl k_) ?_
  show G (s₁.setTop (mkF m 11 #[.val (.int x), .val (.int y), .val (.int z), .val fm] [(.int z), (.int y)]))
  refine hG _ _ (fun t_ k_ => XS.icmpYes X0.here hx rfl (pc0 := 11) (pc' := 22) rfl (hb hby own_d29_11) rfl (flt g3_h3).2.2.2 (by decide) (by decide) k_) ?_
  show G (s₁.setTop (mkF m 22 #[.val (.int x), .val (.int y), .val (.int z), .val fm] []))
  refine hG _ _ (fun t_ k_ => XS.iloadN X0.here hx rfl (hb hby own_d29_22) rfl k_) ?_
  show G (s₁.setTop (mkF m 23 #[.val (.int x), .val (.int y), .val (.int z), .val fm] [(.int x)]))
  exact own_retI hR hret X0 hx (hb hby own_d29_23) (by decide) (by decide) (by rw [e0]; exact ⟨rfl, N0, rfl⟩)
theorem own_pd14 : parseMethodDescriptor "(III)V" = some ⟨[.int, .int, .int], none⟩ := by decide +kernel
set_option maxRecDepth 65536 in
set_option maxHeartbeats 40000000 in
theorem own_cbe (l : Launch) (Z : State) (a0 : Array Value) (hw : ∀ d ∈ tables_1, d.before a0 Z = true) (x : Int32) (y : Int32) (z : Int32) (fmt : Value) (h0 : Heap) (O0 : own_Old Z h0) (g0_h1 : ¬ (x < (0 : Int32))) (g1_h2 : ¬ (y < x)) (g2_h3 : ¬ (z < y)) (g3_hfmt : fmt.isRef = true) (g4_S : Sta Z Z.heap "jdk/internal/util/Preconditions" "SIOOBE_FORMATTER" "Ljava/util/function/BiFunction;" fmt) :
    own_Con l Z (⟨"java/lang/String", "checkBoundsBeginEnd", "(III)V"⟩ : MethodName) jdk_42_method_158_code 3 none [] ({ frames := 1, cells := 0, slots := 0, locals := 15 } : Room) #[(.int x), (.int y), (.int z)] h0 (fun rv rh rL => rv = none ∧ own_Fr Z rL ∧ h0 = rh) := by
  refine own_intro (plainFor_of_name (by first | (simp [plainName, overriddenIn]; done) | decide +kernel)) ?_
  intro p e s m below meth c s₁ G hx hby hml hown hnm hret hZ X0 e0 hG hR
  have N0 := Fr.nil Z.heap.size
  refine own_entry (Ls := #[.val (.int x), .val (.int y), .val (.int z)]) (by first | (simp [entryFrame, mkF, argsToLocals, Value.category]; done) | rfl) ?_
  show G (s₁.setTop (mkF m 0 #[.val (.int x), .val (.int y), .val (.int z)] []))
  refine hG _ _ (fun t_ k_ => XS.iloadN X0.here hx rfl (hb hby own_d28_0) rfl k_) ?_
  show G (s₁.setTop (mkF m 1 #[.val (.int x), .val (.int y), .val (.int z)] [(.int x)]))
  refine hG _ _ (fun t_ k_ => XS.iloadN X0.here hx rfl (hb hby own_d28_1) rfl k_) ?_
  show G (s₁.setTop (mkF m 2 #[.val (.int x), .val (.int y), .val (.int z)] [(.int y), (.int x)]))
  refine hG _ _ (fun t_ k_ => XS.iloadN X0.here hx rfl (hb hby own_d28_2) rfl k_) ?_
  show G (s₁.setTop (mkF m 3 #[.val (.int x), .val (.int y), .val (.int z)] [(.int z), (.int y), (.int x)]))
  obtain ⟨T1, X1, e1, st1⟩ := getS2 X0 hx hZ hown (host := "") (Or.inl (hw _ (List.mem_of_getElem? (i := 121) rfl))) Via.refl e0 (own_sta g4_S O0) (g := (mkF m 3 #[.val (.int x), .val (.int y), .val (.int z)] [(.int z), (.int y), (.int x)])) rfl (hb hby own_d28_3)
  refine hG _ _ st1 ?_
  show G (T1.setTop (mkF m 6 #[.val (.int x), .val (.int y), .val (.int z)] [fmt, (.int z), (.int y), (.int x)]))
  refine own_callS X1 hx hZ hG hown (hw _ (List.mem_of_getElem? (i := 123) rfl)) (hw _ (List.mem_of_getElem? (i := 124) rfl)) (hw _ (List.mem_of_getElem? (i := 122) rfl)) (hw _ (List.mem_of_getElem? (i := 125) rfl)) (by decide) 0 (own_cft l Z a0 hw x y z fmt h0 O0 g3_hfmt g0_h1 g1_h2 g2_h3) (by decide) (by decide) e1 (by rw [hml]; rfl) (lenOf own_pd13 rfl) (argsL := [(.int x), (.int y), (.int z), fmt]) (rest := []) rfl rfl (Nat.le_of_eq rfl) (hb hby own_d28_6) (by decide) (by decide) ?_
  intro T2 h2 v2 L2 X2 e2 q2
  obtain ⟨rfl, M2, rfl⟩ := q2
  have N2 := Fr.app N0 M2
  show G (T2.setTop (mkF m 9 #[.val (.int x), .val (.int y), .val (.int z)] [(.int x)]))
  refine hG _ _ (fun t_ k_ => XS.pop X2.here hx rfl (hb hby own_d28_9) rfl rfl k_) ?_
  show G (T2.setTop (mkF m 10 #[.val (.int x), .val (.int y), .val (.int z)] []))
  exact own_retV hR hret X2 hx (hb hby own_d28_10) (by decide) (by decide) (by rw [e2]; exact ⟨rfl, N2, rfl⟩)
theorem own_pd15 : parseMethodDescriptor "([B)I" = some ⟨[(.array .byte)], some .int⟩ := by decide +kernel
set_option maxRecDepth 65536 in
set_option maxHeartbeats 40000000 in
theorem own_l16 (l : Launch) (Z : State) (a0 : Array Value) (hw : ∀ d ∈ tables_1, d.before a0 Z = true) (t : Addr) (kt : ClassId) (n : Nat) (vs : List Value) (h0 : Heap) (O0 : own_Old Z h0) (g0_V : Arv Z h0 t kt .byte (Int32.ofNat (2 * n)) vs (.int (0 : Int32))) (g1_hn : n < 1073741824) :
    own_Con l Z (⟨"java/lang/StringUTF16", "length", "([B)I"⟩ : MethodName) jdk_52_method_6_code 1 (some .int) [] ({ frames := 0, cells := 0, slots := 0, locals := 0 } : Room) #[(.ref t)] h0 (fun rv rh rL => rv = some (.int (Int32.ofNat n)) ∧ own_Fr Z rL ∧ h0 = rh) := by
  refine own_intro (plainFor_of_name (by first | (simp [plainName, overriddenIn]; done) | decide +kernel)) ?_
  intro p e s m below meth c s₁ G hx hby hml hown hnm hret hZ X0 e0 hG hR
  have N0 := Fr.nil Z.heap.size
  refine own_entry (Ls := #[.val (.ref t)]) (by first | (simp [entryFrame, mkF, argsToLocals, Value.category]; done) | rfl) ?_
  show G (s₁.setTop (mkF m 0 #[.val (.ref t)] []))
  refine hG _ _ (fun t_ k_ => XS.aloadN X0.here hx rfl (hb hby own_d27_0) rfl rfl k_) ?_
  show G (s₁.setTop (mkF m 1 #[.val (.ref t)] [(.ref t)]))
  obtain ⟨c1, Ar1, -, S1, M1, -, -⟩ := id g0_V
  refine hG _ _ (X0.arraylength hx (by rw [e0]; exact Ar1.1) (State.isArrayOf_alike hZ.alike Ar1.2.1) (g := (mkF m 1 #[.val (.ref t)] [(.ref t)])) rfl rfl (hb hby own_d27_1)) ?_
  rw [len_of S1 M1]
  show G (s₁.setTop (mkF m 2 #[.val (.ref t)] [(.int (Int32.ofNat (2 * n)))]))
  refine hG _ _ (fun t_ k_ => XS.iconst X0.here hx rfl (hb hby own_d27_2) k_) ?_
  show G (s₁.setTop (mkF m 3 #[.val (.ref t)] [(.int (1 : Int32)), (.int (Int32.ofNat (2 * n)))]))
  refine hG _ _ (fun t_ k_ => XS.ishr X0.here hx rfl (hb hby own_d27_3) rfl k_) ?_
  show G (s₁.setTop (mkF m 4 #[.val (.ref t)] [(.int ((Int32.ofNat (2 * n)) >>> ((1 : Int32) &&& 31)))]))
  exact own_retI hR hret X0 hx (hb hby own_d27_4) (by decide) (by decide) (by rw [e0]; exact ⟨(by rw [own_shr1 g1_hn]), N0, rfl⟩)
theorem own_pd16 : parseMethodDescriptor "([BIII)I" = some ⟨[(.array .byte), .int, .int, .int], some .int⟩ := by decide +kernel
set_option maxRecDepth 65536 in
set_option maxHeartbeats 40000000 in
theorem own_ioc (l : Launch) (Z : State) (a0 : Array Value) (hw : ∀ d ∈ tables_1, d.before a0 Z = true) (t : Addr) (kt : ClassId) (cs : List Int32) (h0 : Heap) (O0 : own_Old Z h0) (g0_V : Arv Z h0 t kt .byte (Int32.ofNat cs.length) (cs.map fun c => Value.int c.toInt8.toInt32) (.int (0 : Int32))) (g1_hcap : cs.length ≤ 3) (g2_h8 : ∀ c ∈ cs, 0 ≤ c.toInt ∧ c.toInt ≤ 255) :
    own_Con l Z (⟨"java/lang/StringLatin1", "indexOfChar", "([BIII)I"⟩ : MethodName) jdk_43_method_23_code 6 (some .int) [] ({ frames := 0, cells := 0, slots := 0, locals := 0 } : Room) #[(.ref t), (.int (58 : Int32)), (.int (0 : Int32)), (.int (Int32.ofNat cs.length))] h0 (fun rv rh rL => ∃ (r : Int32), rv = some (.int r) ∧ own_Fr Z rL ∧ h0 = rh ∧ (r < (0 : Int32) ↔ ∀ c ∈ cs, ¬ (c = (58 : Int32)))) := by
  refine own_intro (plainFor_of_name (by first | (simp [plainName, overriddenIn]; done) | decide +kernel)) ?_
  intro p e s m below meth c s₁ G hx hby hml hown hnm hret hZ X0 e0 hG hR
  have N0 := Fr.nil Z.heap.size
  refine own_entry (Ls := #[.val (.ref t), .val (.int (58 : Int32)), .val (.int (0 : Int32)), .val (.int (Int32.ofNat cs.length)), .unset, .unset]) (by first | (simp [entryFrame, mkF, argsToLocals, Value.category]; done) | rfl) ?_
  show G (s₁.setTop (mkF m 0 #[.val (.ref t), .val (.int (58 : Int32)), .val (.int (0 : Int32)), .val (.int (Int32.ofNat cs.length)), .unset, .unset] []))
  refine hG _ _ (fun t_ k_ => XS.iloadN X0.here hx rfl (hb hby own_d18_0) rfl k_) ?_
  show G (s₁.setTop (mkF m 1 #[.val (.ref t), .val (.int (58 : Int32)), .val (.int (0 : Int32)), .val (.int (Int32.ofNat cs.length)), .unset, .unset] [(.int (58 : Int32))]))
  refine hG _ _ (fun t_ k_ => XS.i2b X0.here hx rfl (hb hby own_d18_1) rfl k_) ?_
  show G (s₁.setTop (mkF m 2 #[.val (.ref t), .val (.int (58 : Int32)), .val (.int (0 : Int32)), .val (.int (Int32.ofNat cs.length)), .unset, .unset] [(.int ((58 : Int32).toInt8.toInt32))]))
  refine hG _ _ (fun t_ k_ => XS.istore X0.here hx rfl (hb hby own_d18_2) rfl (l' := #[.val (.ref t), .val (.int (58 : Int32)), .val (.int (0 : Int32)), .val (.int (Int32.ofNat cs.length)), .val (.int ((58 : Int32).toInt8.toInt32)), .unset]) rfl k_) ?_
  show G (s₁.setTop (mkF m 4 #[.val (.ref t), .val (.int (58 : Int32)), .val (.int (0 : Int32)), .val (.int (Int32.ofNat cs.length)), .val (.int ((58 : Int32).toInt8.toInt32)), .unset] []))
  refine hG _ _ (fun t_ k_ => XS.iloadN X0.here hx rfl (hb hby own_d18_4) rfl k_) ?_
  show G (s₁.setTop (mkF m 5 #[.val (.ref t), .val (.int (58 : Int32)), .val (.int (0 : Int32)), .val (.int (Int32.ofNat cs.length)), .val (.int ((58 : Int32).toInt8.toInt32)), .unset] [(.int (0 : Int32))]))
  refine hG _ _ (fun t_ k_ => XS.istore X0.here hx rfl (hb hby own_d18_5) rfl (l' := #[.val (.ref t), .val (.int (58 : Int32)), .val (.int (0 : Int32)), .val (.int (Int32.ofNat cs.length)), .val (.int ((58 : Int32).toInt8.toInt32)), .val (.int (0 : Int32))]) rfl k_) ?_
  show G (s₁.setTop (mkF m 7 #[.val (.ref t), .val (.int (58 : Int32)), .val (.int (0 : Int32)), .val (.int (Int32.ofNat cs.length)), .val (.int ((58 : Int32).toInt8.toInt32)), .val (.int (0 : Int32))] []))
  have loop : ∀ (r i : Nat) (T : State) (locs : List Loc), r + i = cs.length → Stand p l e ({ frames := 0, cells := 0, slots := 0, locals := 0 } : Room) s m #[(.ref t), (.int (58 : Int32)), (.int (0 : Int32)), (.int (Int32.ofNat cs.length))] below meth c T locs 0 0 → T.heap = h0 → own_Fr Z locs → (∀ j, j < i → ¬ (cs.getD j 0 = (58 : Int32))) → G (T.setTop (mkF m 7 #[.val (.ref t), .val (.int (58 : Int32)), .val (.int (0 : Int32)), .val (.int (Int32.ofNat cs.length)), .val (.int ((58 : Int32).toInt8.toInt32)), .val (.int (Int32.ofNat i))] [])) := by
    intro r
    induction r with
    | zero =>
      intro i T locs hri X eT N hs
      have hi : i = cs.length := by omega
      subst hi
      refine hG _ _ (fun t_ k_ => XS.iload X.here hx rfl (hb hby own_d18_7) rfl k_) ?_
      show G (T.setTop (mkF m 9 #[.val (.ref t), .val (.int (58 : Int32)), .val (.int (0 : Int32)), .val (.int (Int32.ofNat cs.length)), .val (.int ((58 : Int32).toInt8.toInt32)), .val (.int (Int32.ofNat cs.length))] [(.int (Int32.ofNat cs.length))]))
      refine hG _ _ (fun t_ k_ => XS.iloadN X.here hx rfl (hb hby own_d18_9) rfl k_) ?_
      show G (T.setTop (mkF m 10 #[.val (.ref t), .val (.int (58 : Int32)), .val (.int (0 : Int32)), .val (.int (Int32.ofNat cs.length)), .val (.int ((58 : Int32).toInt8.toInt32)), .val (.int (Int32.ofNat cs.length))] [(.int (Int32.ofNat cs.length)), (.int (Int32.ofNat cs.length))]))
      refine hG _ _ (fun t_ k_ => XS.icmpYes X.here hx rfl (pc0 := 10) (pc' := 31) rfl (hb hby own_d18_10) rfl (flt (own_nlt (Nat.le_refl _) (by omega))).2.1 (by decide) (by decide) k_) ?_
      show G (T.setTop (mkF m 31 #[.val (.ref t), .val (.int (58 : Int32)), .val (.int (0 : Int32)), .val (.int (Int32.ofNat cs.length)), .val (.int ((58 : Int32).toInt8.toInt32)), .val (.int (Int32.ofNat cs.length))] []))
      refine hG _ _ (fun t_ k_ => XS.iconst X.here hx rfl (hb hby own_d18_31) k_) ?_
      show G (T.setTop (mkF m 32 #[.val (.ref t), .val (.int (58 : Int32)), .val (.int (0 : Int32)), .val (.int (Int32.ofNat cs.length)), .val (.int ((58 : Int32).toInt8.toInt32)), .val (.int (Int32.ofNat cs.length))] [(.int (-1 : Int32))]))
      exact own_retI hR hret X hx (hb hby own_d18_32) (by decide) (by decide) (by rw [eT]; exact ⟨(-1 : Int32), rfl, N, rfl, ⟨fun _ => own_allD cs 0 hs, fun _ => (by decide)⟩⟩)
    | succ r ih =>
      intro i T locs hri X eT N hs
      have hi : i < cs.length := by omega
      have h58 := own_byteEq (g2_h8 _ (own_getD_mem cs i 0 hi)) (show 0 ≤ (58 : Int32).toInt ∧ (58 : Int32).toInt ≤ 255 by decide)
      refine hG _ _ (fun t_ k_ => XS.iload X.here hx rfl (hb hby own_d18_7) rfl k_) ?_
      show G (T.setTop (mkF m 9 #[.val (.ref t), .val (.int (58 : Int32)), .val (.int (0 : Int32)), .val (.int (Int32.ofNat cs.length)), .val (.int ((58 : Int32).toInt8.toInt32)), .val (.int (Int32.ofNat i))] [(.int (Int32.ofNat i))]))
      refine hG _ _ (fun t_ k_ => XS.iloadN X.here hx rfl (hb hby own_d18_9) rfl k_) ?_
      show G (T.setTop (mkF m 10 #[.val (.ref t), .val (.int (58 : Int32)), .val (.int (0 : Int32)), .val (.int (Int32.ofNat cs.length)), .val (.int ((58 : Int32).toInt8.toInt32)), .val (.int (Int32.ofNat i))] [(.int (Int32.ofNat cs.length)), (.int (Int32.ofNat i))]))
      refine hG _ _ (fun t_ k_ => XS.icmpNo X.here hx rfl (hb hby own_d18_10) rfl (tlt (own_lt hi (by omega))).2.1 k_) ?_
      show G (T.setTop (mkF m 13 #[.val (.ref t), .val (.int (58 : Int32)), .val (.int (0 : Int32)), .val (.int (Int32.ofNat cs.length)), .val (.int ((58 : Int32).toInt8.toInt32)), .val (.int (Int32.ofNat i))] []))
      refine hG _ _ (fun t_ k_ => XS.aloadN X.here hx rfl (hb hby own_d18_13) rfl rfl k_) ?_
      show G (T.setTop (mkF m 14 #[.val (.ref t), .val (.int (58 : Int32)), .val (.int (0 : Int32)), .val (.int (Int32.ofNat cs.length)), .val (.int ((58 : Int32).toInt8.toInt32)), .val (.int (Int32.ofNat i))] [(.ref t)]))
      refine hG _ _ (fun t_ k_ => XS.iload X.here hx rfl (hb hby own_d18_14) rfl k_) ?_
      show G (T.setTop (mkF m 16 #[.val (.ref t), .val (.int (58 : Int32)), .val (.int (0 : Int32)), .val (.int (Int32.ofNat cs.length)), .val (.int ((58 : Int32).toInt8.toInt32)), .val (.int (Int32.ofNat i))] [(.int (Int32.ofNat i)), (.ref t)]))
      obtain ⟨c1, Ar1, q1, S1, M1, H1, G1⟩ := id g0_V
      have hin1 : ¬ ((Int32.ofNat i) < 0 ∨ c1.slots.size ≤ (Int32.ofNat i).toNatClampNeg) := inb_of S1 ⟨own_nn (by omega), own_lt hi (by omega)⟩
      refine hG _ _ (X.baloadBytes hx (j := (Int32.ofNat i)) (v := (.int ((cs.getD i 0).toInt8.toInt32))) (by rw [eT]; exact Ar1.1) (State.isArrayOf_alike hZ.alike Ar1.2.1) Ar1.2.2 hin1 (Has.at H1 hin1 (by rw [own_clamp (by omega)]; exact own_getD_map (fun c : Int32 => Value.int c.toInt8.toInt32) cs i _ 0 hi)) (g := (mkF m 16 #[.val (.ref t), .val (.int (58 : Int32)), .val (.int (0 : Int32)), .val (.int (Int32.ofNat cs.length)), .val (.int ((58 : Int32).toInt8.toInt32)), .val (.int (Int32.ofNat i))] [(.int (Int32.ofNat i)), (.ref t)])) rfl rfl (hb hby own_d18_16)) ?_
      show G (T.setTop (mkF m 17 #[.val (.ref t), .val (.int (58 : Int32)), .val (.int (0 : Int32)), .val (.int (Int32.ofNat cs.length)), .val (.int ((58 : Int32).toInt8.toInt32)), .val (.int (Int32.ofNat i))] [(.int ((cs.getD i 0).toInt8.toInt32))]))
      refine hG _ _ (fun t_ k_ => XS.iload X.here hx rfl (hb hby own_d18_17) rfl k_) ?_
      show G (T.setTop (mkF m 19 #[.val (.ref t), .val (.int (58 : Int32)), .val (.int (0 : Int32)), .val (.int (Int32.ofNat cs.length)), .val (.int ((58 : Int32).toInt8.toInt32)), .val (.int (Int32.ofNat i))] [(.int ((58 : Int32).toInt8.toInt32)), (.int ((cs.getD i 0).toInt8.toInt32))]))
      by_cases hc19_2 : ((cs.getD i 0).toInt8.toInt32) = ((58 : Int32).toInt8.toInt32)
      · skip
        refine hG _ _ (fun t_ k_ => XS.icmpNo X.here hx rfl (hb hby own_d18_19) rfl (teq hc19_2).2 k_) ?_
        show G (T.setTop (mkF m 22 #[.val (.ref t), .val (.int (58 : Int32)), .val (.int (0 : Int32)), .val (.int (Int32.ofNat cs.length)), .val (.int ((58 : Int32).toInt8.toInt32)), .val (.int (Int32.ofNat i))] []))
        refine hG _ _ (fun t_ k_ => XS.iload X.here hx rfl (hb hby own_d18_22) rfl k_) ?_
        show G (T.setTop (mkF m 24 #[.val (.ref t), .val (.int (58 : Int32)), .val (.int (0 : Int32)), .val (.int (Int32.ofNat cs.length)), .val (.int ((58 : Int32).toInt8.toInt32)), .val (.int (Int32.ofNat i))] [(.int (Int32.ofNat i))]))
        exact own_retI hR hret X hx (hb hby own_d18_24) (by decide) (by decide) (by rw [eT]; exact ⟨(Int32.ofNat i), rfl, N, rfl, ⟨fun q => absurd q (own_nn (by omega)), fun q => absurd (h58.mp hc19_2) (q _ (own_getD_mem cs i 0 hi))⟩⟩)
      · skip
        refine hG _ _ (fun t_ k_ => XS.icmpYes X.here hx rfl (pc0 := 19) (pc' := 25) rfl (hb hby own_d18_19) rfl (feq hc19_2).2 (by decide) (by decide) k_) ?_
        show G (T.setTop (mkF m 25 #[.val (.ref t), .val (.int (58 : Int32)), .val (.int (0 : Int32)), .val (.int (Int32.ofNat cs.length)), .val (.int ((58 : Int32).toInt8.toInt32)), .val (.int (Int32.ofNat i))] []))
        refine hG _ _ (fun t_ k_ => XS.iinc X.here hx rfl (hb hby own_d18_25) rfl (l' := #[.val (.ref t), .val (.int (58 : Int32)), .val (.int (0 : Int32)), .val (.int (Int32.ofNat cs.length)), .val (.int ((58 : Int32).toInt8.toInt32)), .val (.int ((Int32.ofNat i) + (1 : Int32)))]) rfl k_) ?_
        show G (T.setTop (mkF m 28 #[.val (.ref t), .val (.int (58 : Int32)), .val (.int (0 : Int32)), .val (.int (Int32.ofNat cs.length)), .val (.int ((58 : Int32).toInt8.toInt32)), .val (.int ((Int32.ofNat i) + (1 : Int32)))] []))
        refine hG _ _ (fun t_ k_ => XS.goto X.here hx rfl (pc0 := 28) (pc' := 7) rfl (hb hby own_d18_28) (by decide) (by decide) k_) ?_
        show G (T.setTop (mkF m 7 #[.val (.ref t), .val (.int (58 : Int32)), .val (.int (0 : Int32)), .val (.int (Int32.ofNat cs.length)), .val (.int ((58 : Int32).toInt8.toInt32)), .val (.int ((Int32.ofNat i) + (1 : Int32)))] []))
        rw [own_inc i]
        exact ih (i + 1) _ _ (by omega) X eT N (own_nextD (P := fun c => ¬ (c = (58 : Int32))) hs (fun q => hc19_2 (h58.mpr q)))
  exact loop cs.length 0 _ _ rfl X0 e0 N0 (fun j hj => absurd hj (Nat.not_lt_zero j))
theorem own_pd17 : parseMethodDescriptor "(I)Z" = some ⟨[.int], some .boolean⟩ := by decide +kernel
set_option maxRecDepth 65536 in
set_option maxHeartbeats 40000000 in
theorem own_canI (l : Launch) (Z : State) (a0 : Array Value) (hw : ∀ d ∈ tables_1, d.before a0 Z = true) (h0 : Heap) (O0 : own_Old Z h0) :
    own_Con l Z (⟨"java/lang/StringLatin1", "canEncode", "(I)Z"⟩ : MethodName) jdk_43_method_4_code 1 (some .boolean) [] ({ frames := 0, cells := 0, slots := 0, locals := 0 } : Room) #[(.int (58 : Int32))] h0 (fun rv rh rL => rv = some (.int (1 : Int32)) ∧ own_Fr Z rL ∧ h0 = rh) := by
  refine own_intro (plainFor_of_name (by first | (simp [plainName, overriddenIn]; done) | decide +kernel)) ?_
  intro p e s m below meth c s₁ G hx hby hml hown hnm hret hZ X0 e0 hG hR
  have N0 := Fr.nil Z.heap.size
  refine own_entry (Ls := #[.val (.int (58 : Int32))]) (by first | (simp [entryFrame, mkF, argsToLocals, Value.category]; done) | rfl) ?_
  show G (s₁.setTop (mkF m 0 #[.val (.int (58 : Int32))] []))
  refine hG _ _ (fun t_ k_ => XS.iloadN X0.here hx rfl (hb hby own_d12_0) rfl k_) ?_
  show G (s₁.setTop (mkF m 1 #[.val (.int (58 : Int32))] [(.int (58 : Int32))]))
  refine hG _ _ (fun t_ k_ => XS.ifNo X0.here hx rfl (hb hby own_d12_1) rfl ((if0 _ _).trans (flt (by decide)).1) k_) ?_
  show G (s₁.setTop (mkF m 4 #[.val (.int (58 : Int32))] []))
  refine hG _ _ (fun t_ k_ => XS.iloadN X0.here hx rfl (hb hby own_d12_4) rfl k_) ?_
  show G (s₁.setTop (mkF m 5 #[.val (.int (58 : Int32))] [(.int (58 : Int32))]))
  refine hG _ _ (fun t_ k_ => XS.sipush X0.here hx rfl (hb hby own_d12_5) k_) ?_
  show G (s₁.setTop (mkF m 8 #[.val (.int (58 : Int32))] [(.int (255 : Int32)), (.int (58 : Int32))]))
  refine hG _ _ (fun t_ k_ => XS.icmpNo X0.here hx rfl (hb hby own_d12_8) rfl (flt (by decide)).2.2.1 k_) ?_
  show G (s₁.setTop (mkF m 11 #[.val (.int (58 : Int32))] []))
  refine hG _ _ (fun t_ k_ => XS.iconst X0.here hx rfl (hb hby own_d12_11) k_) ?_
  show G (s₁.setTop (mkF m 12 #[.val (.int (58 : Int32))] [(.int (1 : Int32))]))
  refine hG _ _ (fun t_ k_ => XS.goto X0.here hx rfl (pc0 := 12) (pc' := 16) rfl (hb hby own_d12_12) (by decide) (by decide) k_) ?_
  show G (s₁.setTop (mkF m 16 #[.val (.int (58 : Int32))] [(.int (1 : Int32))]))
  exact own_retN hR hret (by simp) X0 hx (hb hby own_d12_16) (by decide) (by decide) (by rw [e0]; exact ⟨rfl, N0, rfl⟩)
set_option maxRecDepth 65536 in
set_option maxHeartbeats 40000000 in
theorem own_iol (l : Launch) (Z : State) (a0 : Array Value) (hw : ∀ d ∈ tables_1, d.before a0 Z = true) (t : Addr) (kt : ClassId) (cs : List Int32) (h0 : Heap) (O0 : own_Old Z h0) (g0_V : Arv Z h0 t kt .byte (Int32.ofNat cs.length) (cs.map fun c => Value.int c.toInt8.toInt32) (.int (0 : Int32))) (g1_hcap : cs.length ≤ 3) (g2_h8 : ∀ c ∈ cs, 0 ≤ c.toInt ∧ c.toInt ≤ 255) :
    own_Con l Z (⟨"java/lang/StringLatin1", "indexOf", "([BIII)I"⟩ : MethodName) jdk_43_method_22_code 4 (some .int) [] ({ frames := 1, cells := 0, slots := 0, locals := 17 } : Room) #[(.ref t), (.int (58 : Int32)), (.int (0 : Int32)), (.int (Int32.ofNat cs.length))] h0 (fun rv rh rL => ∃ (r : Int32), rv = some (.int r) ∧ own_Fr Z rL ∧ h0 = rh ∧ (r < (0 : Int32) ↔ ∀ c ∈ cs, ¬ (c = (58 : Int32)))) := by
  refine own_intro (plainFor_of_name (by first | (simp [plainName, overriddenIn]; done) | decide +kernel)) ?_
  intro p e s m below meth c s₁ G hx hby hml hown hnm hret hZ X0 e0 hG hR
  have N0 := Fr.nil Z.heap.size
  refine own_entry (Ls := #[.val (.ref t), .val (.int (58 : Int32)), .val (.int (0 : Int32)), .val (.int (Int32.ofNat cs.length))]) (by first | (simp [entryFrame, mkF, argsToLocals, Value.category]; done) | rfl) ?_
  show G (s₁.setTop (mkF m 0 #[.val (.ref t), .val (.int (58 : Int32)), .val (.int (0 : Int32)), .val (.int (Int32.ofNat cs.length))] []))
  refine hG _ _ (fun t_ k_ => XS.iloadN X0.here hx rfl (hb hby own_d11_0) rfl k_) ?_
  show G (s₁.setTop (mkF m 1 #[.val (.ref t), .val (.int (58 : Int32)), .val (.int (0 : Int32)), .val (.int (Int32.ofNat cs.length))] [(.int (58 : Int32))]))
  refine own_callS X0 hx hZ hG hown (hw _ (List.mem_of_getElem? (i := 61) rfl)) (hw _ (List.mem_of_getElem? (i := 62) rfl)) (hw _ (List.mem_of_getElem? (i := 59) rfl)) (hw _ (List.mem_of_getElem? (i := 63) rfl)) (by decide) 0 (own_canI l Z a0 hw h0 O0) (by decide) (by decide) e0 (by rw [hml]; rfl) (lenOf own_pd17 rfl) (argsL := [(.int (58 : Int32))]) (rest := []) rfl rfl (Nat.le_of_eq rfl) (hb hby own_d11_1) (by decide) (by decide) ?_
  intro T1 h1 v1 L1 X1 e1 q1
  obtain ⟨rfl, M1, rfl⟩ := q1
  have N1 := Fr.app N0 M1
  show G (T1.setTop (mkF m 4 #[.val (.ref t), .val (.int (58 : Int32)), .val (.int (0 : Int32)), .val (.int (Int32.ofNat cs.length))] [(.int (1 : Int32))]))
  refine hG _ _ (fun t_ k_ => XS.ifYes X1.here hx rfl (pc0 := 4) (pc' := 9) rfl (hb hby own_d11_4) rfl ((if0 _ _).trans (feq (by decide)).2) (by decide) (by decide) k_) ?_
  show G (T1.setTop (mkF m 9 #[.val (.ref t), .val (.int (58 : Int32)), .val (.int (0 : Int32)), .val (.int (Int32.ofNat cs.length))] []))
  refine hG _ _ (fun t_ k_ => XS.iloadN X1.here hx rfl (hb hby own_d11_9) rfl k_) ?_
  show G (T1.setTop (mkF m 10 #[.val (.ref t), .val (.int (58 : Int32)), .val (.int (0 : Int32)), .val (.int (Int32.ofNat cs.length))] [(.int (0 : Int32))]))
  refine hG _ _ (fun t_ k_ => XS.iconst X1.here hx rfl (hb hby own_d11_10) k_) ?_
  show G (T1.setTop (mkF m 11 #[.val (.ref t), .val (.int (58 : Int32)), .val (.int (0 : Int32)), .val (.int (Int32.ofNat cs.length))] [(.int (0 : Int32)), (.int (0 : Int32))]))
  refine own_callS X1 hx hZ hG hown (hw _ (List.mem_of_getElem? (i := 64) rfl)) (hw _ (List.mem_of_getElem? (i := 65) rfl)) (hw _ (List.mem_of_getElem? (i := 66) rfl)) (hw _ (List.mem_of_getElem? (i := 67) rfl)) (by decide) 0 (own_max00 l Z a0 hw h0 O0) (by decide) (by decide) e1 (by rw [hml]; rfl) (lenOf own_pd12 rfl) (argsL := [(.int (0 : Int32)), (.int (0 : Int32))]) (rest := []) rfl rfl (Nat.le_of_eq rfl) (hb hby own_d11_11) (by decide) (by decide) ?_
  intro T2 h2 v2 L2 X2 e2 q2
  obtain ⟨rfl, M2, rfl⟩ := q2
  have N2 := Fr.app N1 M2
  show G (T2.setTop (mkF m 14 #[.val (.ref t), .val (.int (58 : Int32)), .val (.int (0 : Int32)), .val (.int (Int32.ofNat cs.length))] [(.int (0 : Int32))]))
  refine hG _ _ (fun t_ k_ => XS.istoreN X2.here hx rfl (hb hby own_d11_14) rfl (l' := #[.val (.ref t), .val (.int (58 : Int32)), .val (.int (0 : Int32)), .val (.int (Int32.ofNat cs.length))]) rfl k_) ?_
  show G (T2.setTop (mkF m 15 #[.val (.ref t), .val (.int (58 : Int32)), .val (.int (0 : Int32)), .val (.int (Int32.ofNat cs.length))] []))
  refine hG _ _ (fun t_ k_ => XS.iloadN X2.here hx rfl (hb hby own_d11_15) rfl k_) ?_
  show G (T2.setTop (mkF m 16 #[.val (.ref t), .val (.int (58 : Int32)), .val (.int (0 : Int32)), .val (.int (Int32.ofNat cs.length))] [(.int (Int32.ofNat cs.length))]))
  refine hG _ _ (fun t_ k_ => XS.aloadN X2.here hx rfl (hb hby own_d11_16) rfl rfl k_) ?_
  show G (T2.setTop (mkF m 17 #[.val (.ref t), .val (.int (58 : Int32)), .val (.int (0 : Int32)), .val (.int (Int32.ofNat cs.length))] [(.ref t), (.int (Int32.ofNat cs.length))]))
  obtain ⟨c3, Ar3, -, S3, M3, -, -⟩ := id g0_V
  refine hG _ _ (X2.arraylength hx (by rw [e2]; exact Ar3.1) (State.isArrayOf_alike hZ.alike Ar3.2.1) (g := (mkF m 17 #[.val (.ref t), .val (.int (58 : Int32)), .val (.int (0 : Int32)), .val (.int (Int32.ofNat cs.length))] [(.ref t), (.int (Int32.ofNat cs.length))])) rfl rfl (hb hby own_d11_17)) ?_
  rw [len_of S3 M3]
  show G (T2.setTop (mkF m 18 #[.val (.ref t), .val (.int (58 : Int32)), .val (.int (0 : Int32)), .val (.int (Int32.ofNat cs.length))] [(.int (Int32.ofNat cs.length)), (.int (Int32.ofNat cs.length))]))
  refine own_callS X2 hx hZ hG hown (hw _ (List.mem_of_getElem? (i := 68) rfl)) (hw _ (List.mem_of_getElem? (i := 69) rfl)) (hw _ (List.mem_of_getElem? (i := 66) rfl)) (hw _ (List.mem_of_getElem? (i := 70) rfl)) (by decide) 0 (own_minnn l Z a0 hw (Int32.ofNat cs.length) h0 O0) (by decide) (by decide) e2 (by rw [hml]; rfl) (lenOf own_pd12 rfl) (argsL := [(.int (Int32.ofNat cs.length)), (.int (Int32.ofNat cs.length))]) (rest := []) rfl rfl (Nat.le_of_eq rfl) (hb hby own_d11_18) (by decide) (by decide) ?_
  intro T4 h4 v4 L4 X4 e4 q4
  obtain ⟨rfl, M4, rfl⟩ := q4
  have N4 := Fr.app N2 M4
  show G (T4.setTop (mkF m 21 #[.val (.ref t), .val (.int (58 : Int32)), .val (.int (0 : Int32)), .val (.int (Int32.ofNat cs.length))] [(.int (Int32.ofNat cs.length))]))
  refine hG _ _ (fun t_ k_ => XS.istoreN X4.here hx rfl (hb hby own_d11_21) rfl (l' := #[.val (.ref t), .val (.int (58 : Int32)), .val (.int (0 : Int32)), .val (.int (Int32.ofNat cs.length))]) rfl k_) ?_
  show G (T4.setTop (mkF m 22 #[.val (.ref t), .val (.int (58 : Int32)), .val (.int (0 : Int32)), .val (.int (Int32.ofNat cs.length))] []))
  refine hG _ _ (fun t_ k_ => XS.iloadN X4.here hx rfl (hb hby own_d11_22) rfl k_) ?_
  show G (T4.setTop (mkF m 23 #[.val (.ref t), .val (.int (58 : Int32)), .val (.int (0 : Int32)), .val (.int (Int32.ofNat cs.length))] [(.int (0 : Int32))]))
  refine hG _ _ (fun t_ k_ => XS.iloadN X4.here hx rfl (hb hby own_d11_23) rfl k_) ?_
  show G (T4.setTop (mkF m 24 #[.val (.ref t), .val (.int (58 : Int32)), .val (.int (0 : Int32)), .val (.int (Int32.ofNat cs.length))] [(.int (Int32.ofNat cs.length)), (.int (0 : Int32))]))
  by_cases hc24_5 : (0 : Int32) < (Int32.ofNat cs.length)
  · skip
    refine hG _ _ (fun t_ k_ => XS.icmpYes X4.here hx rfl (pc0 := 24) (pc' := 29) rfl (hb hby own_d11_24) rfl (tlt hc24_5).1 (by decide) (by decide) k_) ?_
    show G (T4.setTop (mkF m 29 #[.val (.ref t), .val (.int (58 : Int32)), .val (.int (0 : Int32)), .val (.int (Int32.ofNat cs.length))] []))
    refine hG _ _ (fun t_ k_ => XS.aloadN X4.here hx rfl (hb hby own_d11_29) rfl rfl k_) ?_
    show G (T4.setTop (mkF m 30 #[.val (.ref t), .val (.int (58 : Int32)), .val (.int (0 : Int32)), .val (.int (Int32.ofNat cs.length))] [(.ref t)]))
    refine hG _ _ (fun t_ k_ => XS.iloadN X4.here hx rfl (hb hby own_d11_30) rfl k_) ?_
    show G (T4.setTop (mkF m 31 #[.val (.ref t), .val (.int (58 : Int32)), .val (.int (0 : Int32)), .val (.int (Int32.ofNat cs.length))] [(.int (58 : Int32)), (.ref t)]))
    refine hG _ _ (fun t_ k_ => XS.iloadN X4.here hx rfl (hb hby own_d11_31) rfl k_) ?_
    show G (T4.setTop (mkF m 32 #[.val (.ref t), .val (.int (58 : Int32)), .val (.int (0 : Int32)), .val (.int (Int32.ofNat cs.length))] [(.int (0 : Int32)), (.int (58 : Int32)), (.ref t)]))
    refine hG _ _ (fun t_ k_ => XS.iloadN X4.here hx rfl (hb hby own_d11_32) rfl k_) ?_
    show G (T4.setTop (mkF m 33 #[.val (.ref t), .val (.int (58 : Int32)), .val (.int (0 : Int32)), .val (.int (Int32.ofNat cs.length))] [(.int (Int32.ofNat cs.length)), (.int (0 : Int32)), (.int (58 : Int32)), (.ref t)]))
    refine own_callS X4 hx hZ hG hown (hw _ (List.mem_of_getElem? (i := 81) rfl)) (hw _ (List.mem_of_getElem? (i := 82) rfl)) (hw _ (List.mem_of_getElem? (i := 59) rfl)) (hw _ (List.mem_of_getElem? (i := 83) rfl)) (by decide) 0 (own_ioc l Z a0 hw t kt cs h0 O0 g0_V g1_hcap g2_h8) (by decide) (by decide) e4 (by rw [hml]; rfl) (lenOf own_pd16 rfl) (argsL := [(.ref t), (.int (58 : Int32)), (.int (0 : Int32)), (.int (Int32.ofNat cs.length))]) (rest := []) rfl rfl (Nat.le_of_eq rfl) (hb hby own_d11_33) (by decide) (by decide) ?_
    intro T6 h6 v6 L6 X6 e6 q6
    obtain ⟨r_6, rfl, M6, rfl, r6_0⟩ := q6
    have N6 := Fr.app N4 M6
    show G (T6.setTop (mkF m 36 #[.val (.ref t), .val (.int (58 : Int32)), .val (.int (0 : Int32)), .val (.int (Int32.ofNat cs.length))] [(.int r_6)]))
    exact own_retI hR hret X6 hx (hb hby own_d11_36) (by decide) (by decide) (by rw [e6]; exact ⟨r_6, rfl, N6, rfl, r6_0⟩)
  · skip
    refine hG _ _ (fun t_ k_ => XS.icmpNo X4.here hx rfl (hb hby own_d11_24) rfl (flt hc24_5).1 k_) ?_
    show G (T4.setTop (mkF m 27 #[.val (.ref t), .val (.int (58 : Int32)), .val (.int (0 : Int32)), .val (.int (Int32.ofNat cs.length))] []))
    refine hG _ _ (fun t_ k_ => XS.iconst X4.here hx rfl (hb hby own_d11_27) k_) ?_
    show G (T4.setTop (mkF m 28 #[.val (.ref t), .val (.int (58 : Int32)), .val (.int (0 : Int32)), .val (.int (Int32.ofNat cs.length))] [(.int (-1 : Int32))]))
    exact own_retI hR hret X4 hx (hb hby own_d11_28) (by decide) (by decide) (by rw [e4]; exact ⟨(-1 : Int32), rfl, N4, rfl, (own_m1 (own_pos0 hc24_5 (by omega)))⟩)
set_option maxRecDepth 65536 in
set_option maxHeartbeats 40000000 in
theorem own_iou (l : Launch) (Z : State) (a0 : Array Value) (hw : ∀ d ∈ tables_1, d.before a0 Z = true) (t : Addr) (kt : ClassId) (vs : List Value) (cs : List Int32) (h0 : Heap) (O0 : own_Old Z h0) (g0_V : Arv Z h0 t kt .byte (Int32.ofNat (2 * cs.length)) vs (.int (0 : Int32))) (g1_hcap : cs.length ≤ 3) (g2_h16 : ∀ c ∈ cs, 0 ≤ c.toInt ∧ c.toInt ≤ 65535) (g3_hi16 : own_is16 cs vs) (g4_S : Sta Z Z.heap "java/lang/StringUTF16" "$assertionsDisabled" "Z" (.int (1 : Int32))) (g5_S : Sta Z Z.heap "java/lang/StringUTF16" "HI_BYTE_SHIFT" "I" (.int (0 : Int32))) (g6_S : Sta Z Z.heap "java/lang/StringUTF16" "LO_BYTE_SHIFT" "I" (.int (8 : Int32))) :
    own_Con l Z (⟨"java/lang/StringUTF16", "indexOfCharUnsafe", "([BIII)I"⟩ : MethodName) jdk_52_method_48_code 5 (some .int) [] ({ frames := 1, cells := 0, slots := 0, locals := 13 } : Room) #[(.ref t), (.int (58 : Int32)), (.int (0 : Int32)), (.int (Int32.ofNat cs.length))] h0 (fun rv rh rL => ∃ (r : Int32), rv = some (.int r) ∧ own_Fr Z rL ∧ h0 = rh ∧ (r < (0 : Int32) ↔ ∀ c ∈ cs, ¬ (c = (58 : Int32)))) := by
  refine own_intro (plainFor_of_name (by first | (simp [plainName, overriddenIn]; done) | decide +kernel)) ?_
  intro p e s m below meth c s₁ G hx hby hml hown hnm hret hZ X0 e0 hG hR
  have N0 := Fr.nil Z.heap.size
  refine own_entry (Ls := #[.val (.ref t), .val (.int (58 : Int32)), .val (.int (0 : Int32)), .val (.int (Int32.ofNat cs.length)), .unset]) (by first | (simp [entryFrame, mkF, argsToLocals, Value.category]; done) | rfl) ?_
  show G (s₁.setTop (mkF m 0 #[.val (.ref t), .val (.int (58 : Int32)), .val (.int (0 : Int32)), .val (.int (Int32.ofNat cs.length)), .unset] []))
  refine hG _ _ (fun t_ k_ => XS.iloadN X0.here hx rfl (hb hby own_d30_0) rfl k_) ?_
  show G (s₁.setTop (mkF m 1 #[.val (.ref t), .val (.int (58 : Int32)), .val (.int (0 : Int32)), .val (.int (Int32.ofNat cs.length)), .unset] [(.int (0 : Int32))]))
  refine hG _ _ (fun t_ k_ => XS.istore X0.here hx rfl (hb hby own_d30_1) rfl (l' := #[.val (.ref t), .val (.int (58 : Int32)), .val (.int (0 : Int32)), .val (.int (Int32.ofNat cs.length)), .val (.int (0 : Int32))]) rfl k_) ?_
  show G (s₁.setTop (mkF m 3 #[.val (.ref t), .val (.int (58 : Int32)), .val (.int (0 : Int32)), .val (.int (Int32.ofNat cs.length)), .val (.int (0 : Int32))] []))
  have loop : ∀ (r i : Nat) (T : State) (locs : List Loc), r + i = cs.length → Stand p l e ({ frames := 1, cells := 0, slots := 0, locals := 13 } : Room) s m #[(.ref t), (.int (58 : Int32)), (.int (0 : Int32)), (.int (Int32.ofNat cs.length))] below meth c T locs 0 0 → T.heap = h0 → own_Fr Z locs → (∀ j, j < i → ¬ (cs.getD j 0 = (58 : Int32))) → G (T.setTop (mkF m 3 #[.val (.ref t), .val (.int (58 : Int32)), .val (.int (0 : Int32)), .val (.int (Int32.ofNat cs.length)), .val (.int (Int32.ofNat i))] [])) := by
    intro r
    induction r with
    | zero =>
      intro i T locs hri X eT N hs
      have hi : i = cs.length := by omega
      subst hi
      refine hG _ _ (fun t_ k_ => XS.iload X.here hx rfl (hb hby own_d30_3) rfl k_) ?_
      show G (T.setTop (mkF m 5 #[.val (.ref t), .val (.int (58 : Int32)), .val (.int (0 : Int32)), .val (.int (Int32.ofNat cs.length)), .val (.int (Int32.ofNat cs.length))] [(.int (Int32.ofNat cs.length))]))
      refine hG _ _ (fun t_ k_ => XS.iloadN X.here hx rfl (hb hby own_d30_5) rfl k_) ?_
      show G (T.setTop (mkF m 6 #[.val (.ref t), .val (.int (58 : Int32)), .val (.int (0 : Int32)), .val (.int (Int32.ofNat cs.length)), .val (.int (Int32.ofNat cs.length))] [(.int (Int32.ofNat cs.length)), (.int (Int32.ofNat cs.length))]))
      refine hG _ _ (fun t_ k_ => XS.icmpYes X.here hx rfl (pc0 := 6) (pc' := 28) rfl (hb hby own_d30_6) rfl (flt (own_nlt (Nat.le_refl _) (by omega))).2.1 (by decide) (by decide) k_) ?_
      show G (T.setTop (mkF m 28 #[.val (.ref t), .val (.int (58 : Int32)), .val (.int (0 : Int32)), .val (.int (Int32.ofNat cs.length)), .val (.int (Int32.ofNat cs.length))] []))
      refine hG _ _ (fun t_ k_ => XS.iconst X.here hx rfl (hb hby own_d30_28) k_) ?_
      show G (T.setTop (mkF m 29 #[.val (.ref t), .val (.int (58 : Int32)), .val (.int (0 : Int32)), .val (.int (Int32.ofNat cs.length)), .val (.int (Int32.ofNat cs.length))] [(.int (-1 : Int32))]))
      exact own_retI hR hret X hx (hb hby own_d30_29) (by decide) (by decide) (by rw [eT]; exact ⟨(-1 : Int32), rfl, N, rfl, ⟨fun _ => own_allD cs 0 hs, fun _ => (by decide)⟩⟩)
    | succ r ih =>
      intro i T locs hri X eT N hs
      have hi : i < cs.length := by omega
      refine hG _ _ (fun t_ k_ => XS.iload X.here hx rfl (hb hby own_d30_3) rfl k_) ?_
      show G (T.setTop (mkF m 5 #[.val (.ref t), .val (.int (58 : Int32)), .val (.int (0 : Int32)), .val (.int (Int32.ofNat cs.length)), .val (.int (Int32.ofNat i))] [(.int (Int32.ofNat i))]))
      refine hG _ _ (fun t_ k_ => XS.iloadN X.here hx rfl (hb hby own_d30_5) rfl k_) ?_
      show G (T.setTop (mkF m 6 #[.val (.ref t), .val (.int (58 : Int32)), .val (.int (0 : Int32)), .val (.int (Int32.ofNat cs.length)), .val (.int (Int32.ofNat i))] [(.int (Int32.ofNat cs.length)), (.int (Int32.ofNat i))]))
      refine hG _ _ (fun t_ k_ => XS.icmpNo X.here hx rfl (hb hby own_d30_6) rfl (tlt (own_lt hi (by omega))).2.1 k_) ?_
      show G (T.setTop (mkF m 9 #[.val (.ref t), .val (.int (58 : Int32)), .val (.int (0 : Int32)), .val (.int (Int32.ofNat cs.length)), .val (.int (Int32.ofNat i))] []))
      refine hG _ _ (fun t_ k_ => XS.aloadN X.here hx rfl (hb hby own_d30_9) rfl rfl k_) ?_
      show G (T.setTop (mkF m 10 #[.val (.ref t), .val (.int (58 : Int32)), .val (.int (0 : Int32)), .val (.int (Int32.ofNat cs.length)), .val (.int (Int32.ofNat i))] [(.ref t)]))
      refine hG _ _ (fun t_ k_ => XS.iload X.here hx rfl (hb hby own_d30_10) rfl k_) ?_
      show G (T.setTop (mkF m 12 #[.val (.ref t), .val (.int (58 : Int32)), .val (.int (0 : Int32)), .val (.int (Int32.ofNat cs.length)), .val (.int (Int32.ofNat i))] [(.int (Int32.ofNat i)), (.ref t)]))
      refine own_callS X hx hZ hG hown (hw _ (List.mem_of_getElem? (i := 100) rfl)) (hw _ (List.mem_of_getElem? (i := 101) rfl)) (hw _ (List.mem_of_getElem? (i := 73) rfl)) (hw _ (List.mem_of_getElem? (i := 102) rfl)) (by decide) 0 (own_gch l Z a0 hw t kt (2 * cs.length) vs i (own_lo (cs.getD i 0)) (own_hi (cs.getD i 0)) h0 O0 g0_V (by omega) (by omega) (g3_hi16.2 i hi).1 (g3_hi16.2 i hi).2 g4_S g5_S g6_S) (by decide) (by decide) eT (by rw [hml]; rfl) (lenOf own_pd1 rfl) (argsL := [(.ref t), (.int (Int32.ofNat i))]) (rest := []) rfl rfl (Nat.le_of_eq rfl) (hb hby own_d30_12) (by decide) (by decide) ?_
      intro T1 h1 v1 L1 X1 e1 q1
      obtain ⟨rfl, M1, rfl⟩ := q1
      have N1 := Fr.app N M1
      show G (T1.setTop (mkF m 15 #[.val (.ref t), .val (.int (58 : Int32)), .val (.int (0 : Int32)), .val (.int (Int32.ofNat cs.length)), .val (.int (Int32.ofNat i))] [(.int (own_join (own_lo (cs.getD i 0)) (own_hi (cs.getD i 0))))]))
      rw [own_join_eq (g2_h16 _ (own_getD_mem cs i 0 hi))]
      show G (T1.setTop (mkF m 15 #[.val (.ref t), .val (.int (58 : Int32)), .val (.int (0 : Int32)), .val (.int (Int32.ofNat cs.length)), .val (.int (Int32.ofNat i))] [(.int (cs.getD i 0))]))
      refine hG _ _ (fun t_ k_ => XS.iloadN X1.here hx rfl (hb hby own_d30_15) rfl k_) ?_
      show G (T1.setTop (mkF m 16 #[.val (.ref t), .val (.int (58 : Int32)), .val (.int (0 : Int32)), .val (.int (Int32.ofNat cs.length)), .val (.int (Int32.ofNat i))] [(.int (58 : Int32)), (.int (cs.getD i 0))]))
      by_cases hc16_2 : (cs.getD i 0) = (58 : Int32)
      · skip
        refine hG _ _ (fun t_ k_ => XS.icmpNo X1.here hx rfl (hb hby own_d30_16) rfl (teq hc16_2).2 k_) ?_
        show G (T1.setTop (mkF m 19 #[.val (.ref t), .val (.int (58 : Int32)), .val (.int (0 : Int32)), .val (.int (Int32.ofNat cs.length)), .val (.int (Int32.ofNat i))] []))
        refine hG _ _ (fun t_ k_ => XS.iload X1.here hx rfl (hb hby own_d30_19) rfl k_) ?_
        show G (T1.setTop (mkF m 21 #[.val (.ref t), .val (.int (58 : Int32)), .val (.int (0 : Int32)), .val (.int (Int32.ofNat cs.length)), .val (.int (Int32.ofNat i))] [(.int (Int32.ofNat i))]))
        exact own_retI hR hret X1 hx (hb hby own_d30_21) (by decide) (by decide) (by rw [e1]; exact ⟨(Int32.ofNat i), rfl, N1, rfl, ⟨fun q => absurd q (own_nn (by omega)), fun q => absurd hc16_2 (q _ (own_getD_mem cs i 0 hi))⟩⟩)
      · skip
        refine hG _ _ (fun t_ k_ => XS.icmpYes X1.here hx rfl (pc0 := 16) (pc' := 22) rfl (hb hby own_d30_16) rfl (feq hc16_2).2 (by decide) (by decide) k_) ?_
        show G (T1.setTop (mkF m 22 #[.val (.ref t), .val (.int (58 : Int32)), .val (.int (0 : Int32)), .val (.int (Int32.ofNat cs.length)), .val (.int (Int32.ofNat i))] []))
        refine hG _ _ (fun t_ k_ => XS.iinc X1.here hx rfl (hb hby own_d30_22) rfl (l' := #[.val (.ref t), .val (.int (58 : Int32)), .val (.int (0 : Int32)), .val (.int (Int32.ofNat cs.length)), .val (.int ((Int32.ofNat i) + (1 : Int32)))]) rfl k_) ?_
        show G (T1.setTop (mkF m 25 #[.val (.ref t), .val (.int (58 : Int32)), .val (.int (0 : Int32)), .val (.int (Int32.ofNat cs.length)), .val (.int ((Int32.ofNat i) + (1 : Int32)))] []))
        refine hG _ _ (fun t_ k_ => XS.goto X1.here hx rfl (pc0 := 25) (pc' := 3) rfl (hb hby own_d30_25) (by decide) (by decide) k_) ?_
        show G (T1.setTop (mkF m 3 #[.val (.ref t), .val (.int (58 : Int32)), .val (.int (0 : Int32)), .val (.int (Int32.ofNat cs.length)), .val (.int ((Int32.ofNat i) + (1 : Int32)))] []))
        rw [own_inc i]
        exact ih (i + 1) _ _ (by omega) X1 e1 N1 (own_nextD (P := fun c => ¬ (c = (58 : Int32))) hs hc16_2)
  exact loop cs.length 0 _ _ rfl X0 e0 N0 (fun j hj => absurd hj (Nat.not_lt_zero j))
theorem own_pd18 : parseMethodDescriptor "(II[B)V" = some ⟨[.int, .int, (.array .byte)], none⟩ := by decide +kernel
set_option maxRecDepth 65536 in
set_option maxHeartbeats 40000000 in
theorem own_cb16 (l : Launch) (Z : State) (a0 : Array Value) (hw : ∀ d ∈ tables_1, d.before a0 Z = true) (t : Addr) (kt : ClassId) (vs : List Value) (cs : List Int32) (fmt : Value) (h0 : Heap) (O0 : own_Old Z h0) (g0_V : Arv Z h0 t kt .byte (Int32.ofNat (2 * cs.length)) vs (.int (0 : Int32))) (g1_hcap : cs.length ≤ 3) (g2_hfmt : fmt.isRef = true) (g3_S : Sta Z Z.heap "jdk/internal/util/Preconditions" "SIOOBE_FORMATTER" "Ljava/util/function/BiFunction;" fmt) :
    own_Con l Z (⟨"java/lang/StringUTF16", "checkBoundsBeginEnd", "(II[B)V"⟩ : MethodName) jdk_52_method_93_code 3 none [] ({ frames := 2, cells := 0, slots := 0, locals := 29 } : Room) #[(.int (0 : Int32)), (.int (Int32.ofNat cs.length)), (.ref t)] h0 (fun rv rh rL => rv = none ∧ own_Fr Z rL ∧ h0 = rh) := by
  refine own_intro (plainFor_of_name (by first | (simp [plainName, overriddenIn]; done) | decide +kernel)) ?_
  intro p e s m below meth c s₁ G hx hby hml hown hnm hret hZ X0 e0 hG hR
  have N0 := Fr.nil Z.heap.size
  refine own_entry (Ls := #[.val (.int (0 : Int32)), .val (.int (Int32.ofNat cs.length)), .val (.ref t)]) (by first | (simp [entryFrame, mkF, argsToLocals, Value.category]; done) | rfl) ?_
  show G (s₁.setTop (mkF m 0 #[.val (.int (0 : Int32)), .val (.int (Int32.ofNat cs.length)), .val (.ref t)] []))
  refine hG _ _ (fun t_ k_ => XS.iloadN X0.here hx rfl (hb hby own_d26_0) rfl k_) ?_
  show G (s₁.setTop (mkF m 1 #[.val (.int (0 : Int32)), .val (.int (Int32.ofNat cs.length)), .val (.ref t)] [(.int (0 : Int32))]))
  refine hG _ _ (fun t_ k_ => XS.iloadN X0.here hx rfl (hb hby own_d26_1) rfl k_) ?_
  show G (s₁.setTop (mkF m 2 #[.val (.int (0 : Int32)), .val (.int (Int32.ofNat cs.length)), .val (.ref t)] [(.int (Int32.ofNat cs.length)), (.int (0 : Int32))]))
  refine hG _ _ (fun t_ k_ => XS.aloadN X0.here hx rfl (hb hby own_d26_2) rfl rfl k_) ?_
  show G (s₁.setTop (mkF m 3 #[.val (.int (0 : Int32)), .val (.int (Int32.ofNat cs.length)), .val (.ref t)] [(.ref t), (.int (Int32.ofNat cs.length)), (.int (0 : Int32))]))
  refine own_callS X0 hx hZ hG hown (hw _ (List.mem_of_getElem? (i := 115) rfl)) (hw _ (List.mem_of_getElem? (i := 116) rfl)) (hw _ (List.mem_of_getElem? (i := 73) rfl)) (hw _ (List.mem_of_getElem? (i := 117) rfl)) (by decide) 2 (own_l16 l Z a0 hw t kt cs.length vs h0 O0 g0_V (by omega)) (by decide) (by decide) e0 (by rw [hml]; rfl) (lenOf own_pd15 rfl) (argsL := [(.ref t)]) (rest := [(.int (Int32.ofNat cs.length)), (.int (0 : Int32))]) rfl rfl (Nat.le_of_eq rfl) (hb hby own_d26_3) (by decide) (by decide) ?_
  intro T1 h1 v1 L1 X1 e1 q1
  obtain ⟨rfl, M1, rfl⟩ := q1
  have N1 := Fr.app N0 M1
  show G (T1.setTop (mkF m 6 #[.val (.int (0 : Int32)), .val (.int (Int32.ofNat cs.length)), .val (.ref t)] [(.int (Int32.ofNat cs.length)), (.int (Int32.ofNat cs.length)), (.int (0 : Int32))]))
  refine own_callS X1 hx hZ hG hown (hw _ (List.mem_of_getElem? (i := 118) rfl)) (hw _ (List.mem_of_getElem? (i := 119) rfl)) (hw _ (List.mem_of_getElem? (i := 7) rfl)) (hw _ (List.mem_of_getElem? (i := 120) rfl)) (by decide) 0 (own_cbe l Z a0 hw (0 : Int32) (Int32.ofNat cs.length) (Int32.ofNat cs.length) fmt h0 O0 (by decide) (own_nn (by omega)) (fun q => Int32.lt_irrefl q) g2_hfmt g3_S) (by decide) (by decide) e1 (by rw [hml]; rfl) (lenOf own_pd14 rfl) (argsL := [(.int (0 : Int32)), (.int (Int32.ofNat cs.length)), (.int (Int32.ofNat cs.length))]) (rest := []) rfl rfl (Nat.le_of_eq rfl) (hb hby own_d26_6) (by decide) (by decide) ?_
  intro T2 h2 v2 L2 X2 e2 q2
  obtain ⟨rfl, M2, rfl⟩ := q2
  have N2 := Fr.app N1 M2
  show G (T2.setTop (mkF m 9 #[.val (.int (0 : Int32)), .val (.int (Int32.ofNat cs.length)), .val (.ref t)] []))
  exact own_retV hR hret X2 hx (hb hby own_d26_9) (by decide) (by decide) (by rw [e2]; exact ⟨rfl, N2, rfl⟩)
set_option maxRecDepth 65536 in
set_option maxHeartbeats 40000000 in
theorem own_io16c (l : Launch) (Z : State) (a0 : Array Value) (hw : ∀ d ∈ tables_1, d.before a0 Z = true) (t : Addr) (kt : ClassId) (vs : List Value) (cs : List Int32) (fmt : Value) (h0 : Heap) (O0 : own_Old Z h0) (g0_V : Arv Z h0 t kt .byte (Int32.ofNat (2 * cs.length)) vs (.int (0 : Int32))) (g1_hcap : cs.length ≤ 3) (g2_h16 : ∀ c ∈ cs, 0 ≤ c.toInt ∧ c.toInt ≤ 65535) (g3_hi16 : own_is16 cs vs) (g4_S : Sta Z Z.heap "java/lang/StringUTF16" "$assertionsDisabled" "Z" (.int (1 : Int32))) (g5_S : Sta Z Z.heap "java/lang/StringUTF16" "HI_BYTE_SHIFT" "I" (.int (0 : Int32))) (g6_S : Sta Z Z.heap "java/lang/StringUTF16" "LO_BYTE_SHIFT" "I" (.int (8 : Int32))) (g7_hfmt : fmt.isRef = true) (g8_S : Sta Z Z.heap "jdk/internal/util/Preconditions" "SIOOBE_FORMATTER" "Ljava/util/function/BiFunction;" fmt) :
    own_Con l Z (⟨"java/lang/StringUTF16", "indexOfChar", "([BIII)I"⟩ : MethodName) jdk_52_method_47_code 4 (some .int) [] ({ frames := 3, cells := 0, slots := 0, locals := 43 } : Room) #[(.ref t), (.int (58 : Int32)), (.int (0 : Int32)), (.int (Int32.ofNat cs.length))] h0 (fun rv rh rL => ∃ (r : Int32), rv = some (.int r) ∧ own_Fr Z rL ∧ h0 = rh ∧ (r < (0 : Int32) ↔ ∀ c ∈ cs, ¬ (c = (58 : Int32)))) := by
  refine own_intro (plainFor_of_name (by first | (simp [plainName, overriddenIn]; done) | decide +kernel)) ?_
  intro p e s m below meth c s₁ G hx hby hml hown hnm hret hZ X0 e0 hG hR
  have N0 := Fr.nil Z.heap.size
  refine own_entry (Ls := #[.val (.ref t), .val (.int (58 : Int32)), .val (.int (0 : Int32)), .val (.int (Int32.ofNat cs.length))]) (by first | (simp [entryFrame, mkF, argsToLocals, Value.category]; done) | rfl) ?_
  show G (s₁.setTop (mkF m 0 #[.val (.ref t), .val (.int (58 : Int32)), .val (.int (0 : Int32)), .val (.int (Int32.ofNat cs.length))] []))
  refine hG _ _ (fun t_ k_ => XS.iloadN X0.here hx rfl (hb hby own_d25_0) rfl k_) ?_
  show G (s₁.setTop (mkF m 1 #[.val (.ref t), .val (.int (58 : Int32)), .val (.int (0 : Int32)), .val (.int (Int32.ofNat cs.length))] [(.int (0 : Int32))]))
  refine hG _ _ (fun t_ k_ => XS.iloadN X0.here hx rfl (hb hby own_d25_1) rfl k_) ?_
  show G (s₁.setTop (mkF m 2 #[.val (.ref t), .val (.int (58 : Int32)), .val (.int (0 : Int32)), .val (.int (Int32.ofNat cs.length))] [(.int (Int32.ofNat cs.length)), (.int (0 : Int32))]))
  refine hG _ _ (fun t_ k_ => XS.aloadN X0.here hx rfl (hb hby own_d25_2) rfl rfl k_) ?_
  show G (s₁.setTop (mkF m 3 #[.val (.ref t), .val (.int (58 : Int32)), .val (.int (0 : Int32)), .val (.int (Int32.ofNat cs.length))] [(.ref t), (.int (Int32.ofNat cs.length)), (.int (0 : Int32))]))
  refine own_callS X0 hx hZ hG hown (hw _ (List.mem_of_getElem? (i := 112) rfl)) (hw _ (List.mem_of_getElem? (i := 113) rfl)) (hw _ (List.mem_of_getElem? (i := 73) rfl)) (hw _ (List.mem_of_getElem? (i := 114) rfl)) (by decide) 0 (own_cb16 l Z a0 hw t kt vs cs fmt h0 O0 g0_V g1_hcap g7_hfmt g8_S) (by decide) (by decide) e0 (by rw [hml]; rfl) (lenOf own_pd18 rfl) (argsL := [(.int (0 : Int32)), (.int (Int32.ofNat cs.length)), (.ref t)]) (rest := []) rfl rfl (Nat.le_of_eq rfl) (hb hby own_d25_3) (by decide) (by decide) ?_
  intro T1 h1 v1 L1 X1 e1 q1
  obtain ⟨rfl, M1, rfl⟩ := q1
  have N1 := Fr.app N0 M1
  show G (T1.setTop (mkF m 6 #[.val (.ref t), .val (.int (58 : Int32)), .val (.int (0 : Int32)), .val (.int (Int32.ofNat cs.length))] []))
  refine hG _ _ (fun t_ k_ => XS.aloadN X1.here hx rfl (hb hby own_d25_6) rfl rfl k_) ?_
  show G (T1.setTop (mkF m 7 #[.val (.ref t), .val (.int (58 : Int32)), .val (.int (0 : Int32)), .val (.int (Int32.ofNat cs.length))] [(.ref t)]))
  refine hG _ _ (fun t_ k_ => XS.iloadN X1.here hx rfl (hb hby own_d25_7) rfl k_) ?_
  show G (T1.setTop (mkF m 8 #[.val (.ref t), .val (.int (58 : Int32)), .val (.int (0 : Int32)), .val (.int (Int32.ofNat cs.length))] [(.int (58 : Int32)), (.ref t)]))
  refine hG _ _ (fun t_ k_ => XS.iloadN X1.here hx rfl (hb hby own_d25_8) rfl k_) ?_
  show G (T1.setTop (mkF m 9 #[.val (.ref t), .val (.int (58 : Int32)), .val (.int (0 : Int32)), .val (.int (Int32.ofNat cs.length))] [(.int (0 : Int32)), (.int (58 : Int32)), (.ref t)]))
  refine hG _ _ (fun t_ k_ => XS.iloadN X1.here hx rfl (hb hby own_d25_9) rfl k_) ?_
  show G (T1.setTop (mkF m 10 #[.val (.ref t), .val (.int (58 : Int32)), .val (.int (0 : Int32)), .val (.int (Int32.ofNat cs.length))] [(.int (Int32.ofNat cs.length)), (.int (0 : Int32)), (.int (58 : Int32)), (.ref t)]))
  refine own_callS X1 hx hZ hG hown (hw _ (List.mem_of_getElem? (i := 126) rfl)) (hw _ (List.mem_of_getElem? (i := 127) rfl)) (hw _ (List.mem_of_getElem? (i := 73) rfl)) (hw _ (List.mem_of_getElem? (i := 128) rfl)) (by decide) 0 (own_iou l Z a0 hw t kt vs cs h0 O0 g0_V g1_hcap g2_h16 g3_hi16 g4_S g5_S g6_S) (by decide) (by decide) e1 (by rw [hml]; rfl) (lenOf own_pd16 rfl) (argsL := [(.ref t), (.int (58 : Int32)), (.int (0 : Int32)), (.int (Int32.ofNat cs.length))]) (rest := []) rfl rfl (Nat.le_of_eq rfl) (hb hby own_d25_10) (by decide) (by decide) ?_
  intro T2 h2 v2 L2 X2 e2 q2
  obtain ⟨r_2, rfl, M2, rfl, r2_0⟩ := q2
  have N2 := Fr.app N1 M2
  show G (T2.setTop (mkF m 13 #[.val (.ref t), .val (.int (58 : Int32)), .val (.int (0 : Int32)), .val (.int (Int32.ofNat cs.length))] [(.int r_2)]))
  exact own_retI hR hret X2 hx (hb hby own_d25_13) (by decide) (by decide) (by rw [e2]; exact ⟨r_2, rfl, N2, rfl, r2_0⟩)
set_option maxRecDepth 65536 in
set_option maxHeartbeats 40000000 in
theorem own_io16 (l : Launch) (Z : State) (a0 : Array Value) (hw : ∀ d ∈ tables_1, d.before a0 Z = true) (t : Addr) (kt : ClassId) (vs : List Value) (cs : List Int32) (fmt : Value) (h0 : Heap) (O0 : own_Old Z h0) (g0_V : Arv Z h0 t kt .byte (Int32.ofNat (2 * cs.length)) vs (.int (0 : Int32))) (g1_hcap : cs.length ≤ 3) (g2_h16 : ∀ c ∈ cs, 0 ≤ c.toInt ∧ c.toInt ≤ 65535) (g3_hi16 : own_is16 cs vs) (g4_S : Sta Z Z.heap "java/lang/StringUTF16" "$assertionsDisabled" "Z" (.int (1 : Int32))) (g5_S : Sta Z Z.heap "java/lang/StringUTF16" "HI_BYTE_SHIFT" "I" (.int (0 : Int32))) (g6_S : Sta Z Z.heap "java/lang/StringUTF16" "LO_BYTE_SHIFT" "I" (.int (8 : Int32))) (g7_hfmt : fmt.isRef = true) (g8_S : Sta Z Z.heap "jdk/internal/util/Preconditions" "SIOOBE_FORMATTER" "Ljava/util/function/BiFunction;" fmt) :
    own_Con l Z (⟨"java/lang/StringUTF16", "indexOf", "([BIII)I"⟩ : MethodName) jdk_52_method_40_code 4 (some .int) [] ({ frames := 4, cells := 0, slots := 0, locals := 58 } : Room) #[(.ref t), (.int (58 : Int32)), (.int (0 : Int32)), (.int (Int32.ofNat cs.length))] h0 (fun rv rh rL => ∃ (r : Int32), rv = some (.int r) ∧ own_Fr Z rL ∧ h0 = rh ∧ (r < (0 : Int32) ↔ ∀ c ∈ cs, ¬ (c = (58 : Int32)))) := by
  refine own_intro (plainFor_of_name (by first | (simp [plainName, overriddenIn]; done) | decide +kernel)) ?_
  intro p e s m below meth c s₁ G hx hby hml hown hnm hret hZ X0 e0 hG hR
  have N0 := Fr.nil Z.heap.size
  refine own_entry (Ls := #[.val (.ref t), .val (.int (58 : Int32)), .val (.int (0 : Int32)), .val (.int (Int32.ofNat cs.length))]) (by first | (simp [entryFrame, mkF, argsToLocals, Value.category]; done) | rfl) ?_
  show G (s₁.setTop (mkF m 0 #[.val (.ref t), .val (.int (58 : Int32)), .val (.int (0 : Int32)), .val (.int (Int32.ofNat cs.length))] []))
  refine hG _ _ (fun t_ k_ => XS.iloadN X0.here hx rfl (hb hby own_d24_0) rfl k_) ?_
  show G (s₁.setTop (mkF m 1 #[.val (.ref t), .val (.int (58 : Int32)), .val (.int (0 : Int32)), .val (.int (Int32.ofNat cs.length))] [(.int (0 : Int32))]))
  refine hG _ _ (fun t_ k_ => XS.iconst X0.here hx rfl (hb hby own_d24_1) k_) ?_
  show G (s₁.setTop (mkF m 2 #[.val (.ref t), .val (.int (58 : Int32)), .val (.int (0 : Int32)), .val (.int (Int32.ofNat cs.length))] [(.int (0 : Int32)), (.int (0 : Int32))]))
  refine own_callS X0 hx hZ hG hown (hw _ (List.mem_of_getElem? (i := 106) rfl)) (hw _ (List.mem_of_getElem? (i := 65) rfl)) (hw _ (List.mem_of_getElem? (i := 66) rfl)) (hw _ (List.mem_of_getElem? (i := 67) rfl)) (by decide) 0 (own_max00 l Z a0 hw h0 O0) (by decide) (by decide) e0 (by rw [hml]; rfl) (lenOf own_pd12 rfl) (argsL := [(.int (0 : Int32)), (.int (0 : Int32))]) (rest := []) rfl rfl (Nat.le_of_eq rfl) (hb hby own_d24_2) (by decide) (by decide) ?_
  intro T1 h1 v1 L1 X1 e1 q1
  obtain ⟨rfl, M1, rfl⟩ := q1
  have N1 := Fr.app N0 M1
  show G (T1.setTop (mkF m 5 #[.val (.ref t), .val (.int (58 : Int32)), .val (.int (0 : Int32)), .val (.int (Int32.ofNat cs.length))] [(.int (0 : Int32))]))
  refine hG _ _ (fun t_ k_ => XS.istoreN X1.here hx rfl (hb hby own_d24_5) rfl (l' := #[.val (.ref t), .val (.int (58 : Int32)), .val (.int (0 : Int32)), .val (.int (Int32.ofNat cs.length))]) rfl k_) ?_
  show G (T1.setTop (mkF m 6 #[.val (.ref t), .val (.int (58 : Int32)), .val (.int (0 : Int32)), .val (.int (Int32.ofNat cs.length))] []))
  refine hG _ _ (fun t_ k_ => XS.iloadN X1.here hx rfl (hb hby own_d24_6) rfl k_) ?_
  show G (T1.setTop (mkF m 7 #[.val (.ref t), .val (.int (58 : Int32)), .val (.int (0 : Int32)), .val (.int (Int32.ofNat cs.length))] [(.int (Int32.ofNat cs.length))]))
  refine hG _ _ (fun t_ k_ => XS.aloadN X1.here hx rfl (hb hby own_d24_7) rfl rfl k_) ?_
  show G (T1.setTop (mkF m 8 #[.val (.ref t), .val (.int (58 : Int32)), .val (.int (0 : Int32)), .val (.int (Int32.ofNat cs.length))] [(.ref t), (.int (Int32.ofNat cs.length))]))
  obtain ⟨c2, Ar2, -, S2, M2, -, -⟩ := id g0_V
  refine hG _ _ (X1.arraylength hx (by rw [e1]; exact Ar2.1) (State.isArrayOf_alike hZ.alike Ar2.2.1) (g := (mkF m 8 #[.val (.ref t), .val (.int (58 : Int32)), .val (.int (0 : Int32)), .val (.int (Int32.ofNat cs.length))] [(.ref t), (.int (Int32.ofNat cs.length))])) rfl rfl (hb hby own_d24_8)) ?_
  rw [len_of S2 M2]
  show G (T1.setTop (mkF m 9 #[.val (.ref t), .val (.int (58 : Int32)), .val (.int (0 : Int32)), .val (.int (Int32.ofNat cs.length))] [(.int (Int32.ofNat (2 * cs.length))), (.int (Int32.ofNat cs.length))]))
  refine hG _ _ (fun t_ k_ => XS.iconst X1.here hx rfl (hb hby own_d24_9) k_) ?_
  show G (T1.setTop (mkF m 10 #[.val (.ref t), .val (.int (58 : Int32)), .val (.int (0 : Int32)), .val (.int (Int32.ofNat cs.length))] [(.int (1 : Int32)), (.int (Int32.ofNat (2 * cs.length))), (.int (Int32.ofNat cs.length))]))
  refine hG _ _ (fun t_ k_ => XS.ishr X1.here hx rfl (hb hby own_d24_10) rfl k_) ?_
  show G (T1.setTop (mkF m 11 #[.val (.ref t), .val (.int (58 : Int32)), .val (.int (0 : Int32)), .val (.int (Int32.ofNat cs.length))] [(.int ((Int32.ofNat (2 * cs.length)) >>> ((1 : Int32) &&& 31))), (.int (Int32.ofNat cs.length))]))
  rw [own_shr1 (by omega)]
  show G (T1.setTop (mkF m 11 #[.val (.ref t), .val (.int (58 : Int32)), .val (.int (0 : Int32)), .val (.int (Int32.ofNat cs.length))] [(.int (Int32.ofNat cs.length)), (.int (Int32.ofNat cs.length))]))
  refine own_callS X1 hx hZ hG hown (hw _ (List.mem_of_getElem? (i := 107) rfl)) (hw _ (List.mem_of_getElem? (i := 69) rfl)) (hw _ (List.mem_of_getElem? (i := 66) rfl)) (hw _ (List.mem_of_getElem? (i := 70) rfl)) (by decide) 0 (own_minnn l Z a0 hw (Int32.ofNat cs.length) h0 O0) (by decide) (by decide) e1 (by rw [hml]; rfl) (lenOf own_pd12 rfl) (argsL := [(.int (Int32.ofNat cs.length)), (.int (Int32.ofNat cs.length))]) (rest := []) rfl rfl (Nat.le_of_eq rfl) (hb hby own_d24_11) (by decide) (by decide) ?_
  intro T3 h3 v3 L3 X3 e3 q3
  obtain ⟨rfl, M3, rfl⟩ := q3
  have N3 := Fr.app N1 M3
  show G (T3.setTop (mkF m 14 #[.val (.ref t), .val (.int (58 : Int32)), .val (.int (0 : Int32)), .val (.int (Int32.ofNat cs.length))] [(.int (Int32.ofNat cs.length))]))
  refine hG _ _ (fun t_ k_ => XS.istoreN X3.here hx rfl (hb hby own_d24_14) rfl (l' := #[.val (.ref t), .val (.int (58 : Int32)), .val (.int (0 : Int32)), .val (.int (Int32.ofNat cs.length))]) rfl k_) ?_
  show G (T3.setTop (mkF m 15 #[.val (.ref t), .val (.int (58 : Int32)), .val (.int (0 : Int32)), .val (.int (Int32.ofNat cs.length))] []))
  refine hG _ _ (fun t_ k_ => XS.iloadN X3.here hx rfl (hb hby own_d24_15) rfl k_) ?_
  show G (T3.setTop (mkF m 16 #[.val (.ref t), .val (.int (58 : Int32)), .val (.int (0 : Int32)), .val (.int (Int32.ofNat cs.length))] [(.int (0 : Int32))]))
  refine hG _ _ (fun t_ k_ => XS.iloadN X3.here hx rfl (hb hby own_d24_16) rfl k_) ?_
  show G (T3.setTop (mkF m 17 #[.val (.ref t), .val (.int (58 : Int32)), .val (.int (0 : Int32)), .val (.int (Int32.ofNat cs.length))] [(.int (Int32.ofNat cs.length)), (.int (0 : Int32))]))
  by_cases hc17_4 : (0 : Int32) < (Int32.ofNat cs.length)
  · skip
    refine hG _ _ (fun t_ k_ => XS.icmpYes X3.here hx rfl (pc0 := 17) (pc' := 22) rfl (hb hby own_d24_17) rfl (tlt hc17_4).1 (by decide) (by decide) k_) ?_
    show G (T3.setTop (mkF m 22 #[.val (.ref t), .val (.int (58 : Int32)), .val (.int (0 : Int32)), .val (.int (Int32.ofNat cs.length))] []))
    refine hG _ _ (fun t_ k_ => XS.iloadN X3.here hx rfl (hb hby own_d24_22) rfl k_) ?_
    show G (T3.setTop (mkF m 23 #[.val (.ref t), .val (.int (58 : Int32)), .val (.int (0 : Int32)), .val (.int (Int32.ofNat cs.length))] [(.int (58 : Int32))]))
    refine hG _ _ (X3.ldcInt hx hown (mvT hZ (hw _ (List.mem_of_getElem? (i := 108) rfl))) (g := (mkF m 23 #[.val (.ref t), .val (.int (58 : Int32)), .val (.int (0 : Int32)), .val (.int (Int32.ofNat cs.length))] [(.int (58 : Int32))])) rfl (hb hby own_d24_23)) ?_
    show G (T3.setTop (mkF m 25 #[.val (.ref t), .val (.int (58 : Int32)), .val (.int (0 : Int32)), .val (.int (Int32.ofNat cs.length))] [(.int (65536 : Int32)), (.int (58 : Int32))]))
    refine hG _ _ (fun t_ k_ => XS.icmpNo X3.here hx rfl (hb hby own_d24_25) rfl (tlt (by decide)).2.1 k_) ?_
    show G (T3.setTop (mkF m 28 #[.val (.ref t), .val (.int (58 : Int32)), .val (.int (0 : Int32)), .val (.int (Int32.ofNat cs.length))] []))
    refine hG _ _ (fun t_ k_ => XS.aloadN X3.here hx rfl (hb hby own_d24_28) rfl rfl k_) ?_
    show G (T3.setTop (mkF m 29 #[.val (.ref t), .val (.int (58 : Int32)), .val (.int (0 : Int32)), .val (.int (Int32.ofNat cs.length))] [(.ref t)]))
    refine hG _ _ (fun t_ k_ => XS.iloadN X3.here hx rfl (hb hby own_d24_29) rfl k_) ?_
    show G (T3.setTop (mkF m 30 #[.val (.ref t), .val (.int (58 : Int32)), .val (.int (0 : Int32)), .val (.int (Int32.ofNat cs.length))] [(.int (58 : Int32)), (.ref t)]))
    refine hG _ _ (fun t_ k_ => XS.iloadN X3.here hx rfl (hb hby own_d24_30) rfl k_) ?_
    show G (T3.setTop (mkF m 31 #[.val (.ref t), .val (.int (58 : Int32)), .val (.int (0 : Int32)), .val (.int (Int32.ofNat cs.length))] [(.int (0 : Int32)), (.int (58 : Int32)), (.ref t)]))
    refine hG _ _ (fun t_ k_ => XS.iloadN X3.here hx rfl (hb hby own_d24_31) rfl k_) ?_
    show G (T3.setTop (mkF m 32 #[.val (.ref t), .val (.int (58 : Int32)), .val (.int (0 : Int32)), .val (.int (Int32.ofNat cs.length))] [(.int (Int32.ofNat cs.length)), (.int (0 : Int32)), (.int (58 : Int32)), (.ref t)]))
    refine own_callS X3 hx hZ hG hown (hw _ (List.mem_of_getElem? (i := 109) rfl)) (hw _ (List.mem_of_getElem? (i := 110) rfl)) (hw _ (List.mem_of_getElem? (i := 73) rfl)) (hw _ (List.mem_of_getElem? (i := 111) rfl)) (by decide) 0 (own_io16c l Z a0 hw t kt vs cs fmt h0 O0 g0_V g1_hcap g2_h16 g3_hi16 g4_S g5_S g6_S g7_hfmt g8_S) (by decide) (by decide) e3 (by rw [hml]; rfl) (lenOf own_pd16 rfl) (argsL := [(.ref t), (.int (58 : Int32)), (.int (0 : Int32)), (.int (Int32.ofNat cs.length))]) (rest := []) rfl rfl (Nat.le_of_eq rfl) (hb hby own_d24_32) (by decide) (by decide) ?_
    intro T5 h5 v5 L5 X5 e5 q5
    obtain ⟨r_5, rfl, M5, rfl, r5_0⟩ := q5
    have N5 := Fr.app N3 M5
    show G (T5.setTop (mkF m 35 #[.val (.ref t), .val (.int (58 : Int32)), .val (.int (0 : Int32)), .val (.int (Int32.ofNat cs.length))] [(.int r_5)]))
    exact own_retI hR hret X5 hx (hb hby own_d24_35) (by decide) (by decide) (by rw [e5]; exact ⟨r_5, rfl, N5, rfl, r5_0⟩)
  · skip
    refine hG _ _ (fun t_ k_ => XS.icmpNo X3.here hx rfl (hb hby own_d24_17) rfl (flt hc17_4).1 k_) ?_
    show G (T3.setTop (mkF m 20 #[.val (.ref t), .val (.int (58 : Int32)), .val (.int (0 : Int32)), .val (.int (Int32.ofNat cs.length))] []))
    refine hG _ _ (fun t_ k_ => XS.iconst X3.here hx rfl (hb hby own_d24_20) k_) ?_
    show G (T3.setTop (mkF m 21 #[.val (.ref t), .val (.int (58 : Int32)), .val (.int (0 : Int32)), .val (.int (Int32.ofNat cs.length))] [(.int (-1 : Int32))]))
    exact own_retI hR hret X3 hx (hb hby own_d24_21) (by decide) (by decide) (by rw [e3]; exact ⟨(-1 : Int32), rfl, N3, rfl, (own_m1 (own_pos0 hc17_4 (by omega)))⟩)
set_option maxRecDepth 65536 in
set_option maxHeartbeats 40000000 in
theorem own_sio2 (l : Launch) (Z : State) (a0 : Array Value) (hw : ∀ d ∈ tables_1, d.before a0 Z = true) (a : Addr) (t : Addr) (kt : ClassId) (cs : List Int32) (cd : Int32) (nb : Int32) (vs : List Value) (cpt : Int32) (fmt : Value) (h0 : Heap) (O0 : own_Old Z h0) (g0_E : Exa Z h0 a "java/lang/String") (g1_F : Fld Z h0 a "java/lang/String" "coder" "B" (.int cd)) (g2_F : Fld Z h0 a "java/lang/String" "value" "[B" (.ref t)) (g3_V : Arv Z h0 t kt .byte nb vs (.int (0 : Int32))) (g4_henc : own_enc cs cd nb vs) (g5_hcap : cs.length ≤ 3) (g6_h16 : ∀ c ∈ cs, 0 ≤ c.toInt ∧ c.toInt ≤ 65535) (g7_S : Sta Z Z.heap "java/lang/String" "COMPACT_STRINGS" "Z" (.int cpt)) (g8_hcpt : ¬ (cpt = (0 : Int32))) (g9_S : Sta Z Z.heap "java/lang/StringUTF16" "$assertionsDisabled" "Z" (.int (1 : Int32))) (g10_S : Sta Z Z.heap "java/lang/StringUTF16" "HI_BYTE_SHIFT" "I" (.int (0 : Int32))) (g11_S : Sta Z Z.heap "java/lang/StringUTF16" "LO_BYTE_SHIFT" "I" (.int (8 : Int32))) (g12_hfmt : fmt.isRef = true) (g13_S : Sta Z Z.heap "jdk/internal/util/Preconditions" "SIOOBE_FORMATTER" "Ljava/util/function/BiFunction;" fmt) :
    own_Con l Z (⟨"java/lang/String", "indexOf", "(II)I"⟩ : MethodName) jdk_42_method_80_code 3 (some .int) [] ({ frames := 5, cells := 0, slots := 0, locals := 73 } : Room) #[(.ref a), (.int (58 : Int32)), (.int (0 : Int32))] h0 (fun rv rh rL => ∃ (r : Int32), rv = some (.int r) ∧ own_Fr Z rL ∧ h0 = rh ∧ (r < (0 : Int32) ↔ ∀ c ∈ cs, ¬ (c = (58 : Int32)))) := by
  refine own_intro (plainFor_of_name (by first | (simp [plainName, overriddenIn]; done) | decide +kernel)) ?_
  intro p e s m below meth c s₁ G hx hby hml hown hnm hret hZ X0 e0 hG hR
  have N0 := Fr.nil Z.heap.size
  refine own_entry (Ls := #[.val (.ref a), .val (.int (58 : Int32)), .val (.int (0 : Int32))]) (by first | (simp [entryFrame, mkF, argsToLocals, Value.category]; done) | rfl) ?_
  show G (s₁.setTop (mkF m 0 #[.val (.ref a), .val (.int (58 : Int32)), .val (.int (0 : Int32))] []))
  rcases id g4_henc with ⟨hall, rfl, rfl, rfl⟩ | ⟨hbig, rfl, rfl, h16⟩
  · skip
    show G (s₁.setTop (mkF m 0 #[.val (.ref a), .val (.int (58 : Int32)), .val (.int (0 : Int32))] []))
    refine hG _ _ (fun t_ k_ => XS.aloadN X0.here hx rfl (hb hby own_d7_0) rfl rfl k_) ?_
    show G (s₁.setTop (mkF m 1 #[.val (.ref a), .val (.int (58 : Int32)), .val (.int (0 : Int32))] [(.ref a)]))
    refine own_callV (C := "java/lang/String") X0 hx hZ hG hown (hw _ (List.mem_of_getElem? (i := 41) rfl)) (hw _ (List.mem_of_getElem? (i := 42) rfl)) (hw _ (List.mem_of_getElem? (i := 44) rfl)) (hw _ (List.mem_of_getElem? (i := 43) rfl)) (hw _ (List.mem_of_getElem? (i := 7) rfl)) (hw _ (List.mem_of_getElem? (i := 45) rfl)) (by decide) 0 (own_isl0 l Z a0 hw a cpt h0 O0 g1_F g7_S g8_hcpt) (by decide) (by decide) e0 g0_E (by rw [hml]; rfl) (lenOf own_pd9 rfl) (argsL := []) (rest := []) rfl rfl (Nat.le_of_eq rfl) (hb hby own_d7_1) (by decide) (by decide) ?_
    intro T1 h1 v1 L1 X1 e1 q1
    obtain ⟨rfl, M1, rfl⟩ := q1
    have N1 := Fr.app N0 M1
    show G (T1.setTop (mkF m 4 #[.val (.ref a), .val (.int (58 : Int32)), .val (.int (0 : Int32))] [(.int (1 : Int32))]))
    refine hG _ _ (fun t_ k_ => XS.ifNo X1.here hx rfl (hb hby own_d7_4) rfl ((if0 _ _).trans (feq (by decide)).1) k_) ?_
    show G (T1.setTop (mkF m 7 #[.val (.ref a), .val (.int (58 : Int32)), .val (.int (0 : Int32))] []))
    refine hG _ _ (fun t_ k_ => XS.aloadN X1.here hx rfl (hb hby own_d7_7) rfl rfl k_) ?_
    show G (T1.setTop (mkF m 8 #[.val (.ref a), .val (.int (58 : Int32)), .val (.int (0 : Int32))] [(.ref a)]))
    obtain ⟨T2, X2, e2, st2⟩ := getF X1 hx hZ hown (host := "") (Or.inl (hw _ (List.mem_of_getElem? (i := 25) rfl))) Via.refl e1 g2_F (g := (mkF m 8 #[.val (.ref a), .val (.int (58 : Int32)), .val (.int (0 : Int32))] [(.ref a)])) rfl rfl (hb hby own_d7_8)
    refine hG _ _ st2 ?_
    show G (T2.setTop (mkF m 11 #[.val (.ref a), .val (.int (58 : Int32)), .val (.int (0 : Int32))] [(.ref t)]))
    refine hG _ _ (fun t_ k_ => XS.iloadN X2.here hx rfl (hb hby own_d7_11) rfl k_) ?_
    show G (T2.setTop (mkF m 12 #[.val (.ref a), .val (.int (58 : Int32)), .val (.int (0 : Int32))] [(.int (58 : Int32)), (.ref t)]))
    refine hG _ _ (fun t_ k_ => XS.iloadN X2.here hx rfl (hb hby own_d7_12) rfl k_) ?_
    show G (T2.setTop (mkF m 13 #[.val (.ref a), .val (.int (58 : Int32)), .val (.int (0 : Int32))] [(.int (0 : Int32)), (.int (58 : Int32)), (.ref t)]))
    refine hG _ _ (fun t_ k_ => XS.aloadN X2.here hx rfl (hb hby own_d7_13) rfl rfl k_) ?_
    show G (T2.setTop (mkF m 14 #[.val (.ref a), .val (.int (58 : Int32)), .val (.int (0 : Int32))] [(.ref a), (.int (0 : Int32)), (.int (58 : Int32)), (.ref t)]))
    refine own_callV (C := "java/lang/String") X2 hx hZ hG hown (hw _ (List.mem_of_getElem? (i := 47) rfl)) (hw _ (List.mem_of_getElem? (i := 48) rfl)) (hw _ (List.mem_of_getElem? (i := 50) rfl)) (hw _ (List.mem_of_getElem? (i := 49) rfl)) (hw _ (List.mem_of_getElem? (i := 7) rfl)) (hw _ (List.mem_of_getElem? (i := 51) rfl)) (by decide) 3 (own_len l Z a0 hw a t kt cs (0 : Int32) (Int32.ofNat cs.length) (cs.map fun c => Value.int c.toInt8.toInt32) cpt h0 O0 g0_E g1_F g2_F g3_V (Or.inl ⟨hall, rfl, rfl, rfl⟩) g5_hcap g6_h16 g7_S g8_hcpt) (by decide) (by decide) e2 g0_E (by rw [hml]; rfl) (lenOf own_pd11 rfl) (argsL := []) (rest := [(.int (0 : Int32)), (.int (58 : Int32)), (.ref t)]) rfl rfl (Nat.le_of_eq rfl) (hb hby own_d7_14) (by decide) (by decide) ?_
    intro T3 h3 v3 L3 X3 e3 q3
    obtain ⟨rfl, M3, rfl⟩ := q3
    have N3 := Fr.app N1 M3
    show G (T3.setTop (mkF m 17 #[.val (.ref a), .val (.int (58 : Int32)), .val (.int (0 : Int32))] [(.int (Int32.ofNat cs.length)), (.int (0 : Int32)), (.int (58 : Int32)), (.ref t)]))
    refine own_callS X3 hx hZ hG hown (hw _ (List.mem_of_getElem? (i := 57) rfl)) (hw _ (List.mem_of_getElem? (i := 58) rfl)) (hw _ (List.mem_of_getElem? (i := 59) rfl)) (hw _ (List.mem_of_getElem? (i := 60) rfl)) (by decide) 0 (own_iol l Z a0 hw t kt cs h0 O0 g3_V g5_hcap (own_lat_rng hall g6_h16)) (by decide) (by decide) e3 (by rw [hml]; rfl) (lenOf own_pd16 rfl) (argsL := [(.ref t), (.int (58 : Int32)), (.int (0 : Int32)), (.int (Int32.ofNat cs.length))]) (rest := []) rfl rfl (Nat.le_of_eq rfl) (hb hby own_d7_17) (by decide) (by decide) ?_
    intro T4 h4 v4 L4 X4 e4 q4
    obtain ⟨r_4, rfl, M4, rfl, r4_0⟩ := q4
    have N4 := Fr.app N3 M4
    show G (T4.setTop (mkF m 20 #[.val (.ref a), .val (.int (58 : Int32)), .val (.int (0 : Int32))] [(.int r_4)]))
    refine hG _ _ (fun t_ k_ => XS.goto X4.here hx rfl (pc0 := 20) (pc' := 36) rfl (hb hby own_d7_20) (by decide) (by decide) k_) ?_
    show G (T4.setTop (mkF m 36 #[.val (.ref a), .val (.int (58 : Int32)), .val (.int (0 : Int32))] [(.int r_4)]))
    exact own_retI hR hret X4 hx (hb hby own_d7_36) (by decide) (by decide) (by rw [e4]; exact ⟨r_4, rfl, N4, rfl, r4_0⟩)
  · skip
    show G (s₁.setTop (mkF m 0 #[.val (.ref a), .val (.int (58 : Int32)), .val (.int (0 : Int32))] []))
    refine hG _ _ (fun t_ k_ => XS.aloadN X0.here hx rfl (hb hby own_d7_0) rfl rfl k_) ?_
    show G (s₁.setTop (mkF m 1 #[.val (.ref a), .val (.int (58 : Int32)), .val (.int (0 : Int32))] [(.ref a)]))
    refine own_callV (C := "java/lang/String") X0 hx hZ hG hown (hw _ (List.mem_of_getElem? (i := 41) rfl)) (hw _ (List.mem_of_getElem? (i := 42) rfl)) (hw _ (List.mem_of_getElem? (i := 44) rfl)) (hw _ (List.mem_of_getElem? (i := 43) rfl)) (hw _ (List.mem_of_getElem? (i := 7) rfl)) (hw _ (List.mem_of_getElem? (i := 45) rfl)) (by decide) 0 (own_isl1 l Z a0 hw a cpt h0 O0 g1_F g7_S g8_hcpt) (by decide) (by decide) e0 g0_E (by rw [hml]; rfl) (lenOf own_pd9 rfl) (argsL := []) (rest := []) rfl rfl (Nat.le_of_eq rfl) (hb hby own_d7_1) (by decide) (by decide) ?_
    intro T5 h5 v5 L5 X5 e5 q5
    obtain ⟨rfl, M5, rfl⟩ := q5
    have N5 := Fr.app N0 M5
    show G (T5.setTop (mkF m 4 #[.val (.ref a), .val (.int (58 : Int32)), .val (.int (0 : Int32))] [(.int (0 : Int32))]))
    refine hG _ _ (fun t_ k_ => XS.ifYes X5.here hx rfl (pc0 := 4) (pc' := 23) rfl (hb hby own_d7_4) rfl ((if0 _ _).trans (teq (by decide)).1) (by decide) (by decide) k_) ?_
    show G (T5.setTop (mkF m 23 #[.val (.ref a), .val (.int (58 : Int32)), .val (.int (0 : Int32))] []))
    refine hG _ _ (fun t_ k_ => XS.aloadN X5.here hx rfl (hb hby own_d7_23) rfl rfl k_) ?_
    show G (T5.setTop (mkF m 24 #[.val (.ref a), .val (.int (58 : Int32)), .val (.int (0 : Int32))] [(.ref a)]))
    obtain ⟨T6, X6, e6, st6⟩ := getF X5 hx hZ hown (host := "") (Or.inl (hw _ (List.mem_of_getElem? (i := 25) rfl))) Via.refl e5 g2_F (g := (mkF m 24 #[.val (.ref a), .val (.int (58 : Int32)), .val (.int (0 : Int32))] [(.ref a)])) rfl rfl (hb hby own_d7_24)
    refine hG _ _ st6 ?_
    show G (T6.setTop (mkF m 27 #[.val (.ref a), .val (.int (58 : Int32)), .val (.int (0 : Int32))] [(.ref t)]))
    refine hG _ _ (fun t_ k_ => XS.iloadN X6.here hx rfl (hb hby own_d7_27) rfl k_) ?_
    show G (T6.setTop (mkF m 28 #[.val (.ref a), .val (.int (58 : Int32)), .val (.int (0 : Int32))] [(.int (58 : Int32)), (.ref t)]))
    refine hG _ _ (fun t_ k_ => XS.iloadN X6.here hx rfl (hb hby own_d7_28) rfl k_) ?_
    show G (T6.setTop (mkF m 29 #[.val (.ref a), .val (.int (58 : Int32)), .val (.int (0 : Int32))] [(.int (0 : Int32)), (.int (58 : Int32)), (.ref t)]))
    refine hG _ _ (fun t_ k_ => XS.aloadN X6.here hx rfl (hb hby own_d7_29) rfl rfl k_) ?_
    show G (T6.setTop (mkF m 30 #[.val (.ref a), .val (.int (58 : Int32)), .val (.int (0 : Int32))] [(.ref a), (.int (0 : Int32)), (.int (58 : Int32)), (.ref t)]))
    refine own_callV (C := "java/lang/String") X6 hx hZ hG hown (hw _ (List.mem_of_getElem? (i := 47) rfl)) (hw _ (List.mem_of_getElem? (i := 48) rfl)) (hw _ (List.mem_of_getElem? (i := 50) rfl)) (hw _ (List.mem_of_getElem? (i := 49) rfl)) (hw _ (List.mem_of_getElem? (i := 7) rfl)) (hw _ (List.mem_of_getElem? (i := 51) rfl)) (by decide) 3 (own_len l Z a0 hw a t kt cs (1 : Int32) (Int32.ofNat (2 * cs.length)) vs cpt h0 O0 g0_E g1_F g2_F g3_V (Or.inr ⟨hbig, rfl, rfl, h16⟩) g5_hcap g6_h16 g7_S g8_hcpt) (by decide) (by decide) e6 g0_E (by rw [hml]; rfl) (lenOf own_pd11 rfl) (argsL := []) (rest := [(.int (0 : Int32)), (.int (58 : Int32)), (.ref t)]) rfl rfl (Nat.le_of_eq rfl) (hb hby own_d7_30) (by decide) (by decide) ?_
    intro T7 h7 v7 L7 X7 e7 q7
    obtain ⟨rfl, M7, rfl⟩ := q7
    have N7 := Fr.app N5 M7
    show G (T7.setTop (mkF m 33 #[.val (.ref a), .val (.int (58 : Int32)), .val (.int (0 : Int32))] [(.int (Int32.ofNat cs.length)), (.int (0 : Int32)), (.int (58 : Int32)), (.ref t)]))
    refine own_callS X7 hx hZ hG hown (hw _ (List.mem_of_getElem? (i := 103) rfl)) (hw _ (List.mem_of_getElem? (i := 104) rfl)) (hw _ (List.mem_of_getElem? (i := 73) rfl)) (hw _ (List.mem_of_getElem? (i := 105) rfl)) (by decide) 0 (own_io16 l Z a0 hw t kt vs cs fmt h0 O0 g3_V g5_hcap g6_h16 h16 g9_S g10_S g11_S g12_hfmt g13_S) (by decide) (by decide) e7 (by rw [hml]; rfl) (lenOf own_pd16 rfl) (argsL := [(.ref t), (.int (58 : Int32)), (.int (0 : Int32)), (.int (Int32.ofNat cs.length))]) (rest := []) rfl rfl (Nat.le_of_eq rfl) (hb hby own_d7_33) (by decide) (by decide) ?_
    intro T8 h8 v8 L8 X8 e8 q8
    obtain ⟨r_8, rfl, M8, rfl, r8_0⟩ := q8
    have N8 := Fr.app N7 M8
    show G (T8.setTop (mkF m 36 #[.val (.ref a), .val (.int (58 : Int32)), .val (.int (0 : Int32))] [(.int r_8)]))
    exact own_retI hR hret X8 hx (hb hby own_d7_36) (by decide) (by decide) (by rw [e8]; exact ⟨r_8, rfl, N8, rfl, r8_0⟩)
set_option maxRecDepth 65536 in
set_option maxHeartbeats 40000000 in
theorem own_sio1 (l : Launch) (Z : State) (a0 : Array Value) (hw : ∀ d ∈ tables_1, d.before a0 Z = true) (a : Addr) (t : Addr) (kt : ClassId) (cs : List Int32) (cd : Int32) (nb : Int32) (vs : List Value) (cpt : Int32) (fmt : Value) (h0 : Heap) (O0 : own_Old Z h0) (g0_E : Exa Z h0 a "java/lang/String") (g1_F : Fld Z h0 a "java/lang/String" "coder" "B" (.int cd)) (g2_F : Fld Z h0 a "java/lang/String" "value" "[B" (.ref t)) (g3_V : Arv Z h0 t kt .byte nb vs (.int (0 : Int32))) (g4_henc : own_enc cs cd nb vs) (g5_hcap : cs.length ≤ 3) (g6_h16 : ∀ c ∈ cs, 0 ≤ c.toInt ∧ c.toInt ≤ 65535) (g7_S : Sta Z Z.heap "java/lang/String" "COMPACT_STRINGS" "Z" (.int cpt)) (g8_hcpt : ¬ (cpt = (0 : Int32))) (g9_S : Sta Z Z.heap "java/lang/StringUTF16" "$assertionsDisabled" "Z" (.int (1 : Int32))) (g10_S : Sta Z Z.heap "java/lang/StringUTF16" "HI_BYTE_SHIFT" "I" (.int (0 : Int32))) (g11_S : Sta Z Z.heap "java/lang/StringUTF16" "LO_BYTE_SHIFT" "I" (.int (8 : Int32))) (g12_hfmt : fmt.isRef = true) (g13_S : Sta Z Z.heap "jdk/internal/util/Preconditions" "SIOOBE_FORMATTER" "Ljava/util/function/BiFunction;" fmt) :
    own_Con l Z (⟨"java/lang/String", "indexOf", "(I)I"⟩ : MethodName) jdk_42_method_79_code 2 (some .int) [] ({ frames := 6, cells := 0, slots := 0, locals := 87 } : Room) #[(.ref a), (.int (58 : Int32))] h0 (fun rv rh rL => ∃ (r : Int32), rv = some (.int r) ∧ own_Fr Z rL ∧ h0 = rh ∧ (r < (0 : Int32) ↔ ∀ c ∈ cs, ¬ (c = (58 : Int32)))) := by
  refine own_intro (plainFor_of_name (by first | (simp [plainName, overriddenIn]; done) | decide +kernel)) ?_
  intro p e s m below meth c s₁ G hx hby hml hown hnm hret hZ X0 e0 hG hR
  have N0 := Fr.nil Z.heap.size
  refine own_entry (Ls := #[.val (.ref a), .val (.int (58 : Int32))]) (by first | (simp [entryFrame, mkF, argsToLocals, Value.category]; done) | rfl) ?_
  show G (s₁.setTop (mkF m 0 #[.val (.ref a), .val (.int (58 : Int32))] []))
  refine hG _ _ (fun t_ k_ => XS.aloadN X0.here hx rfl (hb hby own_d6_0) rfl rfl k_) ?_
  show G (s₁.setTop (mkF m 1 #[.val (.ref a), .val (.int (58 : Int32))] [(.ref a)]))
  refine hG _ _ (fun t_ k_ => XS.iloadN X0.here hx rfl (hb hby own_d6_1) rfl k_) ?_
  show G (s₁.setTop (mkF m 2 #[.val (.ref a), .val (.int (58 : Int32))] [(.int (58 : Int32)), (.ref a)]))
  refine hG _ _ (fun t_ k_ => XS.iconst X0.here hx rfl (hb hby own_d6_2) k_) ?_
  show G (s₁.setTop (mkF m 3 #[.val (.ref a), .val (.int (58 : Int32))] [(.int (0 : Int32)), (.int (58 : Int32)), (.ref a)]))
  refine own_callV (C := "java/lang/String") X0 hx hZ hG hown (hw _ (List.mem_of_getElem? (i := 36) rfl)) (hw _ (List.mem_of_getElem? (i := 37) rfl)) (hw _ (List.mem_of_getElem? (i := 39) rfl)) (hw _ (List.mem_of_getElem? (i := 38) rfl)) (hw _ (List.mem_of_getElem? (i := 7) rfl)) (hw _ (List.mem_of_getElem? (i := 40) rfl)) (by decide) 0 (own_sio2 l Z a0 hw a t kt cs cd nb vs cpt fmt h0 O0 g0_E g1_F g2_F g3_V g4_henc g5_hcap g6_h16 g7_S g8_hcpt g9_S g10_S g11_S g12_hfmt g13_S) (by decide) (by decide) e0 g0_E (by rw [hml]; rfl) (lenOf own_pd12 rfl) (argsL := [(.int (58 : Int32)), (.int (0 : Int32))]) (rest := []) rfl rfl (Nat.le_of_eq rfl) (hb hby own_d6_3) (by decide) (by decide) ?_
  intro T1 h1 v1 L1 X1 e1 q1
  obtain ⟨r_1, rfl, M1, rfl, r1_0⟩ := q1
  have N1 := Fr.app N0 M1
  show G (T1.setTop (mkF m 6 #[.val (.ref a), .val (.int (58 : Int32))] [(.int r_1)]))
  exact own_retI hR hret X1 hx (hb hby own_d6_6) (by decide) (by decide) (by rw [e1]; exact ⟨r_1, rfl, N1, rfl, r1_0⟩)
theorem own_pd19 : parseMethodDescriptor "(Ljava/lang/String;)Z" = some ⟨[(.object "java/lang/String")], some .boolean⟩ := by decide +kernel
set_option maxRecDepth 65536 in
set_option maxHeartbeats 40000000 in
theorem own_ccT (l : Launch) (Z : State) (a0 : Array Value) (hw : ∀ d ∈ tables_1, d.before a0 Z = true) (a : Addr) (t : Addr) (kt : ClassId) (cs : List Int32) (cd : Int32) (nb : Int32) (vs : List Value) (cpt : Int32) (fmt : Value) (h0 : Heap) (O0 : own_Old Z h0) (g0_E : Exa Z h0 a "java/lang/String") (g1_F : Fld Z h0 a "java/lang/String" "coder" "B" (.int cd)) (g2_F : Fld Z h0 a "java/lang/String" "value" "[B" (.ref t)) (g3_V : Arv Z h0 t kt .byte nb vs (.int (0 : Int32))) (g4_henc : own_enc cs cd nb vs) (g5_hcap : cs.length ≤ 3) (g6_h16 : ∀ c ∈ cs, 0 ≤ c.toInt ∧ c.toInt ≤ 65535) (g7_S : Sta Z Z.heap "java/lang/String" "COMPACT_STRINGS" "Z" (.int cpt)) (g8_hcpt : ¬ (cpt = (0 : Int32))) (g9_S : Sta Z Z.heap "java/lang/StringUTF16" "$assertionsDisabled" "Z" (.int (1 : Int32))) (g10_S : Sta Z Z.heap "java/lang/StringUTF16" "HI_BYTE_SHIFT" "I" (.int (0 : Int32))) (g11_S : Sta Z Z.heap "java/lang/StringUTF16" "LO_BYTE_SHIFT" "I" (.int (8 : Int32))) (g12_hfmt : fmt.isRef = true) (g13_S : Sta Z Z.heap "jdk/internal/util/Preconditions" "SIOOBE_FORMATTER" "Ljava/util/function/BiFunction;" fmt) (g14_h58 : ∀ c ∈ cs, ¬ (c = (58 : Int32))) :
    own_Con l Z (⟨"com/example/vestibule/vestibule/BasicCredentials", "canCarry", "(Ljava/lang/String;)Z"⟩ : MethodName) prog_1_method_3_code 1 (some .boolean) [] ({ frames := 7, cells := 0, slots := 0, locals := 100 } : Room) #[(.ref a)] h0 (fun rv rh rL => rv = some (.int (1 : Int32)) ∧ own_Fr Z rL ∧ h0 = rh) := by
  refine own_intro (plainFor_of_name (by first | (simp [plainName, overriddenIn]; done) | decide +kernel)) ?_
  intro p e s m below meth c s₁ G hx hby hml hown hnm hret hZ X0 e0 hG hR
  have N0 := Fr.nil Z.heap.size
  refine own_entry (Ls := #[.val (.ref a)]) (by first | (simp [entryFrame, mkF, argsToLocals, Value.category]; done) | rfl) ?_
  show G (s₁.setTop (mkF m 0 #[.val (.ref a)] []))
  refine hG _ _ (fun t_ k_ => XS.aloadN X0.here hx rfl (hb hby own_d5_0) rfl rfl k_) ?_
  show G (s₁.setTop (mkF m 1 #[.val (.ref a)] [(.ref a)]))
  refine hG _ _ (fun t_ k_ => XS.bipush X0.here hx rfl (hb hby own_d5_1) k_) ?_
  show G (s₁.setTop (mkF m 3 #[.val (.ref a)] [(.int (58 : Int32)), (.ref a)]))
  refine own_callV (C := "java/lang/String") X0 hx hZ hG hown (hw _ (List.mem_of_getElem? (i := 31) rfl)) (hw _ (List.mem_of_getElem? (i := 32) rfl)) (hw _ (List.mem_of_getElem? (i := 34) rfl)) (hw _ (List.mem_of_getElem? (i := 33) rfl)) (hw _ (List.mem_of_getElem? (i := 7) rfl)) (hw _ (List.mem_of_getElem? (i := 35) rfl)) (by decide) 0 (own_sio1 l Z a0 hw a t kt cs cd nb vs cpt fmt h0 O0 g0_E g1_F g2_F g3_V g4_henc g5_hcap g6_h16 g7_S g8_hcpt g9_S g10_S g11_S g12_hfmt g13_S) (by decide) (by decide) e0 g0_E (by rw [hml]; rfl) (lenOf own_pd3 rfl) (argsL := [(.int (58 : Int32))]) (rest := []) rfl rfl (Nat.le_of_eq rfl) (hb hby own_d5_3) (by decide) (by decide) ?_
  intro T1 h1 v1 L1 X1 e1 q1
  obtain ⟨r_1, rfl, M1, rfl, r1_0⟩ := q1
  have N1 := Fr.app N0 M1
  show G (T1.setTop (mkF m 6 #[.val (.ref a)] [(.int r_1)]))
  refine hG _ _ (fun t_ k_ => XS.ifNo X1.here hx rfl (hb hby own_d5_6) rfl ((if0 _ _).trans (tlt (r1_0.mpr g14_h58)).2.1) k_) ?_
  show G (T1.setTop (mkF m 9 #[.val (.ref a)] []))
  refine hG _ _ (fun t_ k_ => XS.iconst X1.here hx rfl (hb hby own_d5_9) k_) ?_
  show G (T1.setTop (mkF m 10 #[.val (.ref a)] [(.int (1 : Int32))]))
  refine hG _ _ (fun t_ k_ => XS.goto X1.here hx rfl (pc0 := 10) (pc' := 14) rfl (hb hby own_d5_10) (by decide) (by decide) k_) ?_
  show G (T1.setTop (mkF m 14 #[.val (.ref a)] [(.int (1 : Int32))]))
  exact own_retN hR hret (by simp) X1 hx (hb hby own_d5_14) (by decide) (by decide) (by rw [e1]; exact ⟨rfl, N1, rfl⟩)
set_option maxRecDepth 65536 in
set_option maxHeartbeats 40000000 in
theorem own_ccF (l : Launch) (Z : State) (a0 : Array Value) (hw : ∀ d ∈ tables_1, d.before a0 Z = true) (a : Addr) (t : Addr) (kt : ClassId) (cs : List Int32) (cd : Int32) (nb : Int32) (vs : List Value) (cpt : Int32) (fmt : Value) (h0 : Heap) (O0 : own_Old Z h0) (g0_E : Exa Z h0 a "java/lang/String") (g1_F : Fld Z h0 a "java/lang/String" "coder" "B" (.int cd)) (g2_F : Fld Z h0 a "java/lang/String" "value" "[B" (.ref t)) (g3_V : Arv Z h0 t kt .byte nb vs (.int (0 : Int32))) (g4_henc : own_enc cs cd nb vs) (g5_hcap : cs.length ≤ 3) (g6_h16 : ∀ c ∈ cs, 0 ≤ c.toInt ∧ c.toInt ≤ 65535) (g7_S : Sta Z Z.heap "java/lang/String" "COMPACT_STRINGS" "Z" (.int cpt)) (g8_hcpt : ¬ (cpt = (0 : Int32))) (g9_S : Sta Z Z.heap "java/lang/StringUTF16" "$assertionsDisabled" "Z" (.int (1 : Int32))) (g10_S : Sta Z Z.heap "java/lang/StringUTF16" "HI_BYTE_SHIFT" "I" (.int (0 : Int32))) (g11_S : Sta Z Z.heap "java/lang/StringUTF16" "LO_BYTE_SHIFT" "I" (.int (8 : Int32))) (g12_hfmt : fmt.isRef = true) (g13_S : Sta Z Z.heap "jdk/internal/util/Preconditions" "SIOOBE_FORMATTER" "Ljava/util/function/BiFunction;" fmt) (g14_h58 : ∃ c ∈ cs, c = (58 : Int32)) :
    own_Con l Z (⟨"com/example/vestibule/vestibule/BasicCredentials", "canCarry", "(Ljava/lang/String;)Z"⟩ : MethodName) prog_1_method_3_code 1 (some .boolean) [] ({ frames := 7, cells := 0, slots := 0, locals := 100 } : Room) #[(.ref a)] h0 (fun rv rh rL => rv = some (.int (0 : Int32)) ∧ own_Fr Z rL ∧ h0 = rh) := by
  refine own_intro (plainFor_of_name (by first | (simp [plainName, overriddenIn]; done) | decide +kernel)) ?_
  intro p e s m below meth c s₁ G hx hby hml hown hnm hret hZ X0 e0 hG hR
  have N0 := Fr.nil Z.heap.size
  refine own_entry (Ls := #[.val (.ref a)]) (by first | (simp [entryFrame, mkF, argsToLocals, Value.category]; done) | rfl) ?_
  show G (s₁.setTop (mkF m 0 #[.val (.ref a)] []))
  refine hG _ _ (fun t_ k_ => XS.aloadN X0.here hx rfl (hb hby own_d5_0) rfl rfl k_) ?_
  show G (s₁.setTop (mkF m 1 #[.val (.ref a)] [(.ref a)]))
  refine hG _ _ (fun t_ k_ => XS.bipush X0.here hx rfl (hb hby own_d5_1) k_) ?_
  show G (s₁.setTop (mkF m 3 #[.val (.ref a)] [(.int (58 : Int32)), (.ref a)]))
  refine own_callV (C := "java/lang/String") X0 hx hZ hG hown (hw _ (List.mem_of_getElem? (i := 31) rfl)) (hw _ (List.mem_of_getElem? (i := 32) rfl)) (hw _ (List.mem_of_getElem? (i := 34) rfl)) (hw _ (List.mem_of_getElem? (i := 33) rfl)) (hw _ (List.mem_of_getElem? (i := 7) rfl)) (hw _ (List.mem_of_getElem? (i := 35) rfl)) (by decide) 0 (own_sio1 l Z a0 hw a t kt cs cd nb vs cpt fmt h0 O0 g0_E g1_F g2_F g3_V g4_henc g5_hcap g6_h16 g7_S g8_hcpt g9_S g10_S g11_S g12_hfmt g13_S) (by decide) (by decide) e0 g0_E (by rw [hml]; rfl) (lenOf own_pd3 rfl) (argsL := [(.int (58 : Int32))]) (rest := []) rfl rfl (Nat.le_of_eq rfl) (hb hby own_d5_3) (by decide) (by decide) ?_
  intro T1 h1 v1 L1 X1 e1 q1
  obtain ⟨r_1, rfl, M1, rfl, r1_0⟩ := q1
  have N1 := Fr.app N0 M1
  show G (T1.setTop (mkF m 6 #[.val (.ref a)] [(.int r_1)]))
  refine hG _ _ (fun t_ k_ => XS.ifYes X1.here hx rfl (pc0 := 6) (pc' := 13) rfl (hb hby own_d5_6) rfl ((if0 _ _).trans (flt (fun q => g14_h58.elim fun c h => (r1_0.mp q) c h.1 h.2)).2.1) (by decide) (by decide) k_) ?_
  show G (T1.setTop (mkF m 13 #[.val (.ref a)] []))
  refine hG _ _ (fun t_ k_ => XS.iconst X1.here hx rfl (hb hby own_d5_13) k_) ?_
  show G (T1.setTop (mkF m 14 #[.val (.ref a)] [(.int (0 : Int32))]))
  exact own_retN hR hret (by simp) X1 hx (hb hby own_d5_14) (by decide) (by decide) (by rw [e1]; exact ⟨rfl, N1, rfl⟩)
theorem own_pd20 : parseMethodDescriptor "(I)C" = some ⟨[.int], some .char⟩ := by decide +kernel
set_option maxRecDepth 65536 in
set_option maxHeartbeats 40000000 in
theorem own_pick (l : Launch) (Z : State) (a0 : Array Value) (hw : ∀ d ∈ tables_1, d.before a0 Z = true) (x : Int32) (h0 : Heap) (O0 : own_Old Z h0) :
    own_Con l Z (⟨"com/example/vestibule/vestibule/BasicCredentialsCanCarryPinLaw", "pick", "(I)C"⟩ : MethodName) method_2_code 1 (some .char) [] ({ frames := 0, cells := 0, slots := 0, locals := 0 } : Room) #[(.int x)] h0 (fun rv rh rL => ∃ (r : Int32), rv = some (.int r) ∧ own_Fr Z rL ∧ h0 = rh ∧ (0 ≤ r.toInt ∧ r.toInt ≤ 65535)) := by
  refine own_intro (plainFor_of_name (by first | (simp [plainName, overriddenIn]; done) | decide +kernel)) ?_
  intro p e s m below meth c s₁ G hx hby hml hown hnm hret hZ X0 e0 hG hR
  have N0 := Fr.nil Z.heap.size
  refine own_entry (Ls := #[.val (.int x)]) (by first | (simp [entryFrame, mkF, argsToLocals, Value.category]; done) | rfl) ?_
  show G (s₁.setTop (mkF m 0 #[.val (.int x)] []))
  refine hG _ _ (fun t_ k_ => XS.iloadN X0.here hx rfl (hb hby own_d1_0) rfl k_) ?_
  show G (s₁.setTop (mkF m 1 #[.val (.int x)] [(.int x)]))
  refine hG _ _ (fun t_ k_ => XS.bipush X0.here hx rfl (hb hby own_d1_1) k_) ?_
  show G (s₁.setTop (mkF m 3 #[.val (.int x)] [(.int (16 : Int32)), (.int x)]))
  refine hG _ _ (fun t_ k_ => XS.iushr X0.here hx rfl (hb hby own_d1_3) rfl k_) ?_
  show G (s₁.setTop (mkF m 4 #[.val (.int x)] [(.int ((x.toUInt32 >>> ((16 : Int32) &&& 31).toUInt32).toInt32))]))
  refine hG _ _ (fun t_ k_ => XS.iconst X0.here hx rfl (hb hby own_d1_4) k_) ?_
  show G (s₁.setTop (mkF m 5 #[.val (.int x)] [(.int (1 : Int32)), (.int ((x.toUInt32 >>> ((16 : Int32) &&& 31).toUInt32).toInt32))]))
  refine hG _ _ (fun t_ k_ => XS.iand X0.here hx rfl (hb hby own_d1_5) rfl k_) ?_
  show G (s₁.setTop (mkF m 6 #[.val (.int x)] [(.int (((x.toUInt32 >>> ((16 : Int32) &&& 31).toUInt32).toInt32) &&& (1 : Int32)))]))
  by_cases hc6_1 : (((x.toUInt32 >>> ((16 : Int32) &&& 31).toUInt32).toInt32) &&& (1 : Int32)) = (0 : Int32)
  · skip
    refine hG _ _ (fun t_ k_ => XS.ifYes X0.here hx rfl (pc0 := 6) (pc' := 12) rfl (hb hby own_d1_6) rfl ((if0 _ _).trans (teq hc6_1).1) (by decide) (by decide) k_) ?_
    show G (s₁.setTop (mkF m 12 #[.val (.int x)] []))
    refine hG _ _ (fun t_ k_ => XS.iloadN X0.here hx rfl (hb hby own_d1_12) rfl k_) ?_
    show G (s₁.setTop (mkF m 13 #[.val (.int x)] [(.int x)]))
    refine hG _ _ (X0.ldcInt hx hown (mvT hZ (hw _ (List.mem_of_getElem? (i := 4) rfl))) (g := (mkF m 13 #[.val (.int x)] [(.int x)])) rfl (hb hby own_d1_13)) ?_
    show G (s₁.setTop (mkF m 15 #[.val (.int x)] [(.int (65535 : Int32)), (.int x)]))
    refine hG _ _ (fun t_ k_ => XS.iand X0.here hx rfl (hb hby own_d1_15) rfl k_) ?_
    show G (s₁.setTop (mkF m 16 #[.val (.int x)] [(.int (x &&& (65535 : Int32)))]))
    refine hG _ _ (fun t_ k_ => XS.i2c X0.here hx rfl (hb hby own_d1_16) rfl k_) ?_
    show G (s₁.setTop (mkF m 17 #[.val (.int x)] [(.int ((x &&& (65535 : Int32)).toUInt32.toUInt16.toUInt32.toInt32))]))
    exact own_retN hR hret (by simp) X0 hx (hb hby own_d1_17) (by decide) (by decide) (by rw [e0]; exact ⟨(nar .char ((x &&& (65535 : Int32)).toUInt32.toUInt16.toUInt32.toInt32)), rfl, N0, rfl, (own_narrng _)⟩)
  · skip
    refine hG _ _ (fun t_ k_ => XS.ifNo X0.here hx rfl (hb hby own_d1_6) rfl ((if0 _ _).trans (feq hc6_1).1) k_) ?_
    show G (s₁.setTop (mkF m 9 #[.val (.int x)] []))
    refine hG _ _ (fun t_ k_ => XS.bipush X0.here hx rfl (hb hby own_d1_9) k_) ?_
    show G (s₁.setTop (mkF m 11 #[.val (.int x)] [(.int (58 : Int32))]))
    exact own_retN hR hret (by simp) X0 hx (hb hby own_d1_11) (by decide) (by decide) (by rw [e0]; exact ⟨(nar .char (58 : Int32)), rfl, N0, rfl, (own_narrng _)⟩)
theorem own_pd21 : parseMethodDescriptor "(IIII)Z" = some ⟨[.int, .int, .int, .int], some .boolean⟩ := by decide +kernel
set_option maxRecDepth 65536 in
set_option maxHeartbeats 40000000 in
theorem own_law (l : Launch) (Z : State) (a0 : Array Value) (hw : ∀ d ∈ tables_1, d.before a0 Z = true) (ws : List Jvm.Cond) (hEL : EW Z a0 consts_1) (i0 : Int32) (i1 : Int32) (i2 : Int32) (i3 : Int32) (cpt : Int32) (fmt : Value) (h0 : Heap) (O0 : own_Old Z h0) (g0_S : Sta Z Z.heap "java/lang/String" "COMPACT_STRINGS" "Z" (.int cpt)) (g1_hcpt : ¬ (cpt = (0 : Int32))) (g2_S : Sta Z Z.heap "java/lang/StringUTF16" "$assertionsDisabled" "Z" (.int (1 : Int32))) (g3_S : Sta Z Z.heap "java/lang/StringUTF16" "HI_BYTE_SHIFT" "I" (.int (0 : Int32))) (g4_S : Sta Z Z.heap "java/lang/StringUTF16" "LO_BYTE_SHIFT" "I" (.int (8 : Int32))) (g5_hfmt : fmt.isRef = true) (g6_S : Sta Z Z.heap "jdk/internal/util/Preconditions" "SIOOBE_FORMATTER" "Ljava/util/function/BiFunction;" fmt) :
    own_ConW l Z consts_1 x code maxLocals ret ws room_1 #[(.int i0), (.int i1), (.int i2), (.int i3)] h0 (fun rv rh rL => rv = some (.int (1 : Int32)) ∧ own_Fr Z rL ∧ Keep h0 rh []) := by
  refine own_introW hEL (plainFor_of_name (by first | (simp [plainName, overriddenIn]; done) | decide +kernel)) ?_
  intro p e s m below meth c s₁ G hx hby hml hown hnm hret hZ X0 e0 H0 SI0 hG hR
  have N0 := Fr.nil Z.heap.size
  refine own_entry (Ls := #[.val (.int i0), .val (.int i1), .val (.int i2), .val (.int i3), .unset, .unset, .unset, .unset, .unset, .unset, .unset, .unset, .unset]) (by first | (simp [entryFrame, mkF, argsToLocals, Value.category, maxLocals]; done) | rfl) ?_
  show G (s₁.setTop (mkF m 0 #[.val (.int i0), .val (.int i1), .val (.int i2), .val (.int i3), .unset, .unset, .unset, .unset, .unset, .unset, .unset, .unset, .unset] []))
  refine hG _ _ (fun t_ k_ => XS.iloadN X0.here hx rfl (hb hby at_0) rfl k_) ?_
  show G (s₁.setTop (mkF m 1 #[.val (.int i0), .val (.int i1), .val (.int i2), .val (.int i3), .unset, .unset, .unset, .unset, .unset, .unset, .unset, .unset, .unset] [(.int i0)]))
  refine hG _ _ (fun t_ k_ => XS.iconst X0.here hx rfl (hb hby at_1) k_) ?_
  show G (s₁.setTop (mkF m 2 #[.val (.int i0), .val (.int i1), .val (.int i2), .val (.int i3), .unset, .unset, .unset, .unset, .unset, .unset, .unset, .unset, .unset] [(.int (3 : Int32)), (.int i0)]))
  refine hG _ _ (fun t_ k_ => XS.iand X0.here hx rfl (hb hby at_2) rfl k_) ?_
  show G (s₁.setTop (mkF m 3 #[.val (.int i0), .val (.int i1), .val (.int i2), .val (.int i3), .unset, .unset, .unset, .unset, .unset, .unset, .unset, .unset, .unset] [(.int (i0 &&& (3 : Int32)))]))
  refine hG _ _ (fun t_ k_ => XS.istore X0.here hx rfl (hb hby at_3) rfl (l' := #[.val (.int i0), .val (.int i1), .val (.int i2), .val (.int i3), .val (.int (i0 &&& (3 : Int32))), .unset, .unset, .unset, .unset, .unset, .unset, .unset, .unset]) rfl k_) ?_
  show G (s₁.setTop (mkF m 5 #[.val (.int i0), .val (.int i1), .val (.int i2), .val (.int i3), .val (.int (i0 &&& (3 : Int32))), .unset, .unset, .unset, .unset, .unset, .unset, .unset, .unset] []))
  generalize hn_n1 : (i0 &&& (3 : Int32)) = n1
  show G (s₁.setTop (mkF m 5 #[.val (.int i0), .val (.int i1), .val (.int i2), .val (.int i3), .val (.int n1), .unset, .unset, .unset, .unset, .unset, .unset, .unset, .unset] []))
  refine hG _ _ (fun t_ k_ => XS.iloadN X0.here hx rfl (hb hby at_5) rfl k_) ?_
  show G (s₁.setTop (mkF m 6 #[.val (.int i0), .val (.int i1), .val (.int i2), .val (.int i3), .val (.int n1), .unset, .unset, .unset, .unset, .unset, .unset, .unset, .unset] [(.int i1)]))
  refine own_callS X0 hx hZ hG hown (hw _ (List.mem_of_getElem? (i := 0) rfl)) (hw _ (List.mem_of_getElem? (i := 1) rfl)) (hw _ (List.mem_of_getElem? (i := 2) rfl)) (hw _ (List.mem_of_getElem? (i := 3) rfl)) (by decide) 0 (own_pick l Z a0 hw i1 h0 O0) (by decide) (by decide) e0 (by rw [hml]; rfl) (lenOf own_pd20 rfl) (argsL := [(.int i1)]) (rest := []) rfl rfl (Nat.le_of_eq rfl) (hb hby at_6) (by decide) (by decide) ?_
  intro T2 h2 v2 L2 X2 e2 q2
  obtain ⟨r_2, rfl, M2, rfl, r2_0⟩ := q2
  have N2 := Fr.app N0 M2
  show G (T2.setTop (mkF m 9 #[.val (.int i0), .val (.int i1), .val (.int i2), .val (.int i3), .val (.int n1), .unset, .unset, .unset, .unset, .unset, .unset, .unset, .unset] [(.int r_2)]))
  refine hG _ _ (fun t_ k_ => XS.istore X2.here hx rfl (hb hby at_9) rfl (l' := #[.val (.int i0), .val (.int i1), .val (.int i2), .val (.int i3), .val (.int n1), .val (.int r_2), .unset, .unset, .unset, .unset, .unset, .unset, .unset]) rfl k_) ?_
  show G (T2.setTop (mkF m 11 #[.val (.int i0), .val (.int i1), .val (.int i2), .val (.int i3), .val (.int n1), .val (.int r_2), .unset, .unset, .unset, .unset, .unset, .unset, .unset] []))
  refine hG _ _ (fun t_ k_ => XS.iloadN X2.here hx rfl (hb hby at_11) rfl k_) ?_
  show G (T2.setTop (mkF m 12 #[.val (.int i0), .val (.int i1), .val (.int i2), .val (.int i3), .val (.int n1), .val (.int r_2), .unset, .unset, .unset, .unset, .unset, .unset, .unset] [(.int i2)]))
  refine own_callS X2 hx hZ hG hown (hw _ (List.mem_of_getElem? (i := 0) rfl)) (hw _ (List.mem_of_getElem? (i := 1) rfl)) (hw _ (List.mem_of_getElem? (i := 2) rfl)) (hw _ (List.mem_of_getElem? (i := 3) rfl)) (by decide) 0 (own_pick l Z a0 hw i2 h0 O0) (by decide) (by decide) e2 (by rw [hml]; rfl) (lenOf own_pd20 rfl) (argsL := [(.int i2)]) (rest := []) rfl rfl (Nat.le_of_eq rfl) (hb hby at_12) (by decide) (by decide) ?_
  intro T3 h3 v3 L3 X3 e3 q3
  obtain ⟨r_3, rfl, M3, rfl, r3_0⟩ := q3
  have N3 := Fr.app N2 M3
  show G (T3.setTop (mkF m 15 #[.val (.int i0), .val (.int i1), .val (.int i2), .val (.int i3), .val (.int n1), .val (.int r_2), .unset, .unset, .unset, .unset, .unset, .unset, .unset] [(.int r_3)]))
  refine hG _ _ (fun t_ k_ => XS.istore X3.here hx rfl (hb hby at_15) rfl (l' := #[.val (.int i0), .val (.int i1), .val (.int i2), .val (.int i3), .val (.int n1), .val (.int r_2), .val (.int r_3), .unset, .unset, .unset, .unset, .unset, .unset]) rfl k_) ?_
  show G (T3.setTop (mkF m 17 #[.val (.int i0), .val (.int i1), .val (.int i2), .val (.int i3), .val (.int n1), .val (.int r_2), .val (.int r_3), .unset, .unset, .unset, .unset, .unset, .unset] []))
  refine hG _ _ (fun t_ k_ => XS.iloadN X3.here hx rfl (hb hby at_17) rfl k_) ?_
  show G (T3.setTop (mkF m 18 #[.val (.int i0), .val (.int i1), .val (.int i2), .val (.int i3), .val (.int n1), .val (.int r_2), .val (.int r_3), .unset, .unset, .unset, .unset, .unset, .unset] [(.int i3)]))
  refine own_callS X3 hx hZ hG hown (hw _ (List.mem_of_getElem? (i := 0) rfl)) (hw _ (List.mem_of_getElem? (i := 1) rfl)) (hw _ (List.mem_of_getElem? (i := 2) rfl)) (hw _ (List.mem_of_getElem? (i := 3) rfl)) (by decide) 0 (own_pick l Z a0 hw i3 h0 O0) (by decide) (by decide) e3 (by rw [hml]; rfl) (lenOf own_pd20 rfl) (argsL := [(.int i3)]) (rest := []) rfl rfl (Nat.le_of_eq rfl) (hb hby at_18) (by decide) (by decide) ?_
  intro T4 h4 v4 L4 X4 e4 q4
  obtain ⟨r_4, rfl, M4, rfl, r4_0⟩ := q4
  have N4 := Fr.app N3 M4
  show G (T4.setTop (mkF m 21 #[.val (.int i0), .val (.int i1), .val (.int i2), .val (.int i3), .val (.int n1), .val (.int r_2), .val (.int r_3), .unset, .unset, .unset, .unset, .unset, .unset] [(.int r_4)]))
  refine hG _ _ (fun t_ k_ => XS.istore X4.here hx rfl (hb hby at_21) rfl (l' := #[.val (.int i0), .val (.int i1), .val (.int i2), .val (.int i3), .val (.int n1), .val (.int r_2), .val (.int r_3), .val (.int r_4), .unset, .unset, .unset, .unset, .unset]) rfl k_) ?_
  show G (T4.setTop (mkF m 23 #[.val (.int i0), .val (.int i1), .val (.int i2), .val (.int i3), .val (.int n1), .val (.int r_2), .val (.int r_3), .val (.int r_4), .unset, .unset, .unset, .unset, .unset] []))
  refine hG _ _ (fun t_ k_ => XS.iload X4.here hx rfl (hb hby at_23) rfl k_) ?_
  show G (T4.setTop (mkF m 25 #[.val (.int i0), .val (.int i1), .val (.int i2), .val (.int i3), .val (.int n1), .val (.int r_2), .val (.int r_3), .val (.int r_4), .unset, .unset, .unset, .unset, .unset] [(.int n1)]))
  by_cases hc25_5 : n1 = (0 : Int32)
  · skip
    refine hG _ _ (fun t_ k_ => XS.ifNo X4.here hx rfl (hb hby at_25) rfl ((if0 _ _).trans (teq hc25_5).2) k_) ?_
    show G (T4.setTop (mkF m 28 #[.val (.int i0), .val (.int i1), .val (.int i2), .val (.int i3), .val (.int n1), .val (.int r_2), .val (.int r_3), .val (.int r_4), .unset, .unset, .unset, .unset, .unset] []))
    obtain ⟨T6, h6, X6, e6, E6, A6, D6, -, st6⟩ := newO X4 hx hZ hown (hw _ (List.mem_of_getElem? (i := 5) rfl)) (hw _ (List.mem_of_getElem? (i := 6) rfl)) (hw _ (List.mem_of_getElem? (i := 7) rfl)) e4 (g := (mkF m 28 #[.val (.int i0), .val (.int i1), .val (.int i2), .val (.int i3), .val (.int n1), .val (.int r_2), .val (.int r_3), .val (.int r_4), .unset, .unset, .unset, .unset, .unset] [])) rfl (hb hby at_28) (by decide) (by decide)
    obtain ⟨b6, z6⟩ : ∃ z, z = h0.size := ⟨_, rfl⟩
    rw [← z6] at A6 D6 st6
    refine hG _ _ st6 ?_
    have R6 := (CHr.ext E6 H0)
    have C6 := (CHr.refl H0).trans R6
    have K6 : Keep h0 h6 [] := (Keep.refl h0 []).ext E6
    have O6 : own_Old Z h6 := O0.ext E6
    show G (T6.setTop (mkF m 31 #[.val (.int i0), .val (.int i1), .val (.int i2), .val (.int i3), .val (.int n1), .val (.int r_2), .val (.int r_3), .val (.int r_4), .unset, .unset, .unset, .unset, .unset] [(.ref b6)]))
    refine hG _ _ (fun t_ k_ => XS.dup X6.here hx rfl (hb hby at_31) rfl rfl k_) ?_
    show G (T6.setTop (mkF m 32 #[.val (.int i0), .val (.int i1), .val (.int i2), .val (.int i3), .val (.int n1), .val (.int r_2), .val (.int r_3), .val (.int r_4), .unset, .unset, .unset, .unset, .unset] [(.ref b6), (.ref b6)]))
    refine hG _ _ (fun t_ k_ => XS.iconst X6.here hx rfl (hb hby at_32) k_) ?_
    show G (T6.setTop (mkF m 33 #[.val (.int i0), .val (.int i1), .val (.int i2), .val (.int i3), .val (.int n1), .val (.int r_2), .val (.int r_3), .val (.int r_4), .unset, .unset, .unset, .unset, .unset] [(.int (0 : Int32)), (.ref b6), (.ref b6)]))
    obtain ⟨T7, h7, k7, X7, e7, E7, A7, st7⟩ := newP X6 hx hZ (hw _ (List.mem_of_getElem? (i := 8) rfl)) e6 (g := (mkF m 33 #[.val (.int i0), .val (.int i1), .val (.int i2), .val (.int i3), .val (.int n1), .val (.int r_2), .val (.int r_3), .val (.int r_4), .unset, .unset, .unset, .unset, .unset] [(.int (0 : Int32)), (.ref b6), (.ref b6)])) rfl (hb hby at_33) rfl (by decide) (cap := 0) (by decide) (by decide) (by decide) (by decide)
    obtain ⟨b7, z7⟩ : ∃ z, z = h6.size := ⟨_, rfl⟩
    rw [← z7] at A7 st7
    refine hG _ _ st7 ?_
    have R7 := (CHr.ext E7 R6.1)
    have C7 := C6.trans R7
    have K7 : Keep h0 h7 [] := K6.ext E7
    have O7 : own_Old Z h7 := O6.ext E7
    have V7 : Arv Z h7 b7 k7 .char (0 : Int32) [] (.int (0 : Int32)) := (Arv.new A7 (by decide)).pad (pad_rep [] (.int (0 : Int32)) 0)
    show G (T7.setTop (mkF m 35 #[.val (.int i0), .val (.int i1), .val (.int i2), .val (.int i3), .val (.int n1), .val (.int r_2), .val (.int r_3), .val (.int r_4), .unset, .unset, .unset, .unset, .unset] [(.ref b7), (.ref b6), (.ref b6)]))
    have f9 := (A6.ext E7)
    have f10 := ((D6 (Or.inr (hw _ (List.mem_of_getElem? (i := 22) rfl))) (ty := .byte) (by decide)).ext E7)
    have f11 := ((D6 (Or.inr (hw _ (List.mem_of_getElem? (i := 21) rfl))) (ty := (.array .byte)) (by decide)).ext E7)
    refine own_callIW X7 hx hZ hG hown rfl (hw _ (List.mem_of_getElem? (i := 9) rfl)) (hw _ (List.mem_of_getElem? (i := 10) rfl)) (hw _ (List.mem_of_getElem? (i := 7) rfl)) (hw _ (List.mem_of_getElem? (i := 11) rfl)) (by decide) 1 (own_str1E l Z a0 hw hEL b6 b7 (.int (0 : Int32)) k7 h7 O7 f9 f10 f11 (own_ge O0 (Nat.le_of_eq z6.symm)) V7) (by decide) (by decide) e7 SI0 (Nat.le_trans (Nat.le_trans (Nat.le_refl _) R6.2.1) R7.2.1) hEL R7.1 (by rw [hml]; rfl) (lenOf own_pd8 rfl) (argsL := [(.ref b7)]) (rest := [(.ref b6)]) rfl rfl (Nat.le_of_eq rfl) (hb hby at_35) (by decide) (by decide) ?_
    intro T8 h8 v8 L8 X8 e8 SI8 hZ8 hown8 Y8 q8
    obtain ⟨t_8, kt_8, rfl, M8, J8, r8_0, r8_1, r8_2, r8_3⟩ := q8
    have N8 := Fr.app N4 M8
    have R8 := Y8
    have C8 := C7.trans R8
    have K8 : Keep h0 h8 [] := K7.trans J8 (allS (Or.inr (Nat.le_trans (Keep.refl h0 []).1 (Nat.le_of_eq z6.symm))) all0)
    have O8 : own_Old Z h8 := O7.keep J8 (allS (own_ge O0 (Nat.le_of_eq z6.symm)) all0)
    show G (T8.setTop (mkF m 38 #[.val (.int i0), .val (.int i1), .val (.int i2), .val (.int i3), .val (.int n1), .val (.int r_2), .val (.int r_3), .val (.int r_4), .unset, .unset, .unset, .unset, .unset] [(.ref b6)]))
    refine hG _ _ (fun t_ k_ => XS.astore X8.here hx rfl (hb hby at_38) rfl rfl (l' := #[.val (.int i0), .val (.int i1), .val (.int i2), .val (.int i3), .val (.int n1), .val (.int r_2), .val (.int r_3), .val (.int r_4), .val (.ref b6), .unset, .unset, .unset, .unset]) rfl k_) ?_
    show G (T8.setTop (mkF m 40 #[.val (.int i0), .val (.int i1), .val (.int i2), .val (.int i3), .val (.int n1), .val (.int r_2), .val (.int r_3), .val (.int r_4), .val (.ref b6), .unset, .unset, .unset, .unset] []))
    refine hG _ _ (fun t_ k_ => XS.goto X8.here hx rfl (pc0 := 40) (pc' := 127) rfl (hb hby at_40) (by decide) (by decide) k_) ?_
    show G (T8.setTop (mkF m 127 #[.val (.int i0), .val (.int i1), .val (.int i2), .val (.int i3), .val (.int n1), .val (.int r_2), .val (.int r_3), .val (.int r_4), .val (.ref b6), .unset, .unset, .unset, .unset] []))
    have hnL : n1 = (0 : Int32) := hc25_5
    show G (T8.setTop (mkF m 127 #[.val (.int i0), .val (.int i1), .val (.int i2), .val (.int i3), .val (.int n1), .val (.int r_2), .val (.int r_3), .val (.int r_4), .val (.ref b6), .unset, .unset, .unset, .unset] []))
    refine hG _ _ (fun t_ k_ => XS.iload X8.here hx rfl (hb hby at_127) rfl k_) ?_
    show G (T8.setTop (mkF m 129 #[.val (.int i0), .val (.int i1), .val (.int i2), .val (.int i3), .val (.int n1), .val (.int r_2), .val (.int r_3), .val (.int r_4), .val (.ref b6), .unset, .unset, .unset, .unset] [(.int n1)]))
    refine hG _ _ (fun t_ k_ => XS.iconst X8.here hx rfl (hb hby at_129) k_) ?_
    show G (T8.setTop (mkF m 130 #[.val (.int i0), .val (.int i1), .val (.int i2), .val (.int i3), .val (.int n1), .val (.int r_2), .val (.int r_3), .val (.int r_4), .val (.ref b6), .unset, .unset, .unset, .unset] [(.int (1 : Int32)), (.int n1)]))
    refine hG _ _ (fun t_ k_ => XS.icmpYes X8.here hx rfl (pc0 := 130) (pc' := 144) rfl (hb hby at_130) rfl (tlt (by rw [hnL]; decide)).1 (by decide) (by decide) k_) ?_
    show G (T8.setTop (mkF m 144 #[.val (.int i0), .val (.int i1), .val (.int i2), .val (.int i3), .val (.int n1), .val (.int r_2), .val (.int r_3), .val (.int r_4), .val (.ref b6), .unset, .unset, .unset, .unset] []))
    refine hG _ _ (fun t_ k_ => XS.iconst X8.here hx rfl (hb hby at_144) k_) ?_
    show G (T8.setTop (mkF m 145 #[.val (.int i0), .val (.int i1), .val (.int i2), .val (.int i3), .val (.int n1), .val (.int r_2), .val (.int r_3), .val (.int r_4), .val (.ref b6), .unset, .unset, .unset, .unset] [(.int (0 : Int32))]))
    refine hG _ _ (fun t_ k_ => XS.istore X8.here hx rfl (hb hby at_145) rfl (l' := #[.val (.int i0), .val (.int i1), .val (.int i2), .val (.int i3), .val (.int n1), .val (.int r_2), .val (.int r_3), .val (.int r_4), .val (.ref b6), .val (.int (0 : Int32)), .unset, .unset, .unset]) rfl k_) ?_
    show G (T8.setTop (mkF m 147 #[.val (.int i0), .val (.int i1), .val (.int i2), .val (.int i3), .val (.int n1), .val (.int r_2), .val (.int r_3), .val (.int r_4), .val (.ref b6), .val (.int (0 : Int32)), .unset, .unset, .unset] []))
    refine hG _ _ (fun t_ k_ => XS.iload X8.here hx rfl (hb hby at_147) rfl k_) ?_
    show G (T8.setTop (mkF m 149 #[.val (.int i0), .val (.int i1), .val (.int i2), .val (.int i3), .val (.int n1), .val (.int r_2), .val (.int r_3), .val (.int r_4), .val (.ref b6), .val (.int (0 : Int32)), .unset, .unset, .unset] [(.int n1)]))
    refine hG _ _ (fun t_ k_ => XS.iconst X8.here hx rfl (hb hby at_149) k_) ?_
    show G (T8.setTop (mkF m 150 #[.val (.int i0), .val (.int i1), .val (.int i2), .val (.int i3), .val (.int n1), .val (.int r_2), .val (.int r_3), .val (.int r_4), .val (.ref b6), .val (.int (0 : Int32)), .unset, .unset, .unset] [(.int (2 : Int32)), (.int n1)]))
    refine hG _ _ (fun t_ k_ => XS.icmpYes X8.here hx rfl (pc0 := 150) (pc' := 164) rfl (hb hby at_150) rfl (tlt (by rw [hnL]; decide)).1 (by decide) (by decide) k_) ?_
    show G (T8.setTop (mkF m 164 #[.val (.int i0), .val (.int i1), .val (.int i2), .val (.int i3), .val (.int n1), .val (.int r_2), .val (.int r_3), .val (.int r_4), .val (.ref b6), .val (.int (0 : Int32)), .unset, .unset, .unset] []))
    refine hG _ _ (fun t_ k_ => XS.iconst X8.here hx rfl (hb hby at_164) k_) ?_
    show G (T8.setTop (mkF m 165 #[.val (.int i0), .val (.int i1), .val (.int i2), .val (.int i3), .val (.int n1), .val (.int r_2), .val (.int r_3), .val (.int r_4), .val (.ref b6), .val (.int (0 : Int32)), .unset, .unset, .unset] [(.int (0 : Int32))]))
    refine hG _ _ (fun t_ k_ => XS.istore X8.here hx rfl (hb hby at_165) rfl (l' := #[.val (.int i0), .val (.int i1), .val (.int i2), .val (.int i3), .val (.int n1), .val (.int r_2), .val (.int r_3), .val (.int r_4), .val (.ref b6), .val (.int (0 : Int32)), .val (.int (0 : Int32)), .unset, .unset]) rfl k_) ?_
    show G (T8.setTop (mkF m 167 #[.val (.int i0), .val (.int i1), .val (.int i2), .val (.int i3), .val (.int n1), .val (.int r_2), .val (.int r_3), .val (.int r_4), .val (.ref b6), .val (.int (0 : Int32)), .val (.int (0 : Int32)), .unset, .unset] []))
    refine hG _ _ (fun t_ k_ => XS.iload X8.here hx rfl (hb hby at_167) rfl k_) ?_
    show G (T8.setTop (mkF m 169 #[.val (.int i0), .val (.int i1), .val (.int i2), .val (.int i3), .val (.int n1), .val (.int r_2), .val (.int r_3), .val (.int r_4), .val (.ref b6), .val (.int (0 : Int32)), .val (.int (0 : Int32)), .unset, .unset] [(.int n1)]))
    refine hG _ _ (fun t_ k_ => XS.iconst X8.here hx rfl (hb hby at_169) k_) ?_
    show G (T8.setTop (mkF m 170 #[.val (.int i0), .val (.int i1), .val (.int i2), .val (.int i3), .val (.int n1), .val (.int r_2), .val (.int r_3), .val (.int r_4), .val (.ref b6), .val (.int (0 : Int32)), .val (.int (0 : Int32)), .unset, .unset] [(.int (3 : Int32)), (.int n1)]))
    refine hG _ _ (fun t_ k_ => XS.icmpYes X8.here hx rfl (pc0 := 170) (pc' := 184) rfl (hb hby at_170) rfl (tlt (by rw [hnL]; decide)).1 (by decide) (by decide) k_) ?_
    show G (T8.setTop (mkF m 184 #[.val (.int i0), .val (.int i1), .val (.int i2), .val (.int i3), .val (.int n1), .val (.int r_2), .val (.int r_3), .val (.int r_4), .val (.ref b6), .val (.int (0 : Int32)), .val (.int (0 : Int32)), .unset, .unset] []))
    refine hG _ _ (fun t_ k_ => XS.iconst X8.here hx rfl (hb hby at_184) k_) ?_
    show G (T8.setTop (mkF m 185 #[.val (.int i0), .val (.int i1), .val (.int i2), .val (.int i3), .val (.int n1), .val (.int r_2), .val (.int r_3), .val (.int r_4), .val (.ref b6), .val (.int (0 : Int32)), .val (.int (0 : Int32)), .unset, .unset] [(.int (0 : Int32))]))
    refine hG _ _ (fun t_ k_ => XS.istore X8.here hx rfl (hb hby at_185) rfl (l' := #[.val (.int i0), .val (.int i1), .val (.int i2), .val (.int i3), .val (.int n1), .val (.int r_2), .val (.int r_3), .val (.int r_4), .val (.ref b6), .val (.int (0 : Int32)), .val (.int (0 : Int32)), .val (.int (0 : Int32)), .unset]) rfl k_) ?_
    show G (T8.setTop (mkF m 187 #[.val (.int i0), .val (.int i1), .val (.int i2), .val (.int i3), .val (.int n1), .val (.int r_2), .val (.int r_3), .val (.int r_4), .val (.ref b6), .val (.int (0 : Int32)), .val (.int (0 : Int32)), .val (.int (0 : Int32)), .unset] []))
    refine hG _ _ (fun t_ k_ => XS.iload X8.here hx rfl (hb hby at_187) rfl k_) ?_
    show G (T8.setTop (mkF m 189 #[.val (.int i0), .val (.int i1), .val (.int i2), .val (.int i3), .val (.int n1), .val (.int r_2), .val (.int r_3), .val (.int r_4), .val (.ref b6), .val (.int (0 : Int32)), .val (.int (0 : Int32)), .val (.int (0 : Int32)), .unset] [(.int (0 : Int32))]))
    refine hG _ _ (fun t_ k_ => XS.ifNo X8.here hx rfl (hb hby at_189) rfl ((if0 _ _).trans (teq (by decide)).2) k_) ?_
    show G (T8.setTop (mkF m 192 #[.val (.int i0), .val (.int i1), .val (.int i2), .val (.int i3), .val (.int n1), .val (.int r_2), .val (.int r_3), .val (.int r_4), .val (.ref b6), .val (.int (0 : Int32)), .val (.int (0 : Int32)), .val (.int (0 : Int32)), .unset] []))
    refine hG _ _ (fun t_ k_ => XS.iload X8.here hx rfl (hb hby at_192) rfl k_) ?_
    show G (T8.setTop (mkF m 194 #[.val (.int i0), .val (.int i1), .val (.int i2), .val (.int i3), .val (.int n1), .val (.int r_2), .val (.int r_3), .val (.int r_4), .val (.ref b6), .val (.int (0 : Int32)), .val (.int (0 : Int32)), .val (.int (0 : Int32)), .unset] [(.int (0 : Int32))]))
    refine hG _ _ (fun t_ k_ => XS.ifNo X8.here hx rfl (hb hby at_194) rfl ((if0 _ _).trans (teq (by decide)).2) k_) ?_
    show G (T8.setTop (mkF m 197 #[.val (.int i0), .val (.int i1), .val (.int i2), .val (.int i3), .val (.int n1), .val (.int r_2), .val (.int r_3), .val (.int r_4), .val (.ref b6), .val (.int (0 : Int32)), .val (.int (0 : Int32)), .val (.int (0 : Int32)), .unset] []))
    refine hG _ _ (fun t_ k_ => XS.iload X8.here hx rfl (hb hby at_197) rfl k_) ?_
    show G (T8.setTop (mkF m 199 #[.val (.int i0), .val (.int i1), .val (.int i2), .val (.int i3), .val (.int n1), .val (.int r_2), .val (.int r_3), .val (.int r_4), .val (.ref b6), .val (.int (0 : Int32)), .val (.int (0 : Int32)), .val (.int (0 : Int32)), .unset] [(.int (0 : Int32))]))
    refine hG _ _ (fun t_ k_ => XS.ifNo X8.here hx rfl (hb hby at_199) rfl ((if0 _ _).trans (teq (by decide)).2) k_) ?_
    show G (T8.setTop (mkF m 202 #[.val (.int i0), .val (.int i1), .val (.int i2), .val (.int i3), .val (.int n1), .val (.int r_2), .val (.int r_3), .val (.int r_4), .val (.ref b6), .val (.int (0 : Int32)), .val (.int (0 : Int32)), .val (.int (0 : Int32)), .unset] []))
    refine hG _ _ (fun t_ k_ => XS.iconst X8.here hx rfl (hb hby at_202) k_) ?_
    show G (T8.setTop (mkF m 203 #[.val (.int i0), .val (.int i1), .val (.int i2), .val (.int i3), .val (.int n1), .val (.int r_2), .val (.int r_3), .val (.int r_4), .val (.ref b6), .val (.int (0 : Int32)), .val (.int (0 : Int32)), .val (.int (0 : Int32)), .unset] [(.int (1 : Int32))]))
    refine hG _ _ (fun t_ k_ => XS.goto X8.here hx rfl (pc0 := 203) (pc' := 207) rfl (hb hby at_203) (by decide) (by decide) k_) ?_
    show G (T8.setTop (mkF m 207 #[.val (.int i0), .val (.int i1), .val (.int i2), .val (.int i3), .val (.int n1), .val (.int r_2), .val (.int r_3), .val (.int r_4), .val (.ref b6), .val (.int (0 : Int32)), .val (.int (0 : Int32)), .val (.int (0 : Int32)), .unset] [(.int (1 : Int32))]))
    refine hG _ _ (fun t_ k_ => XS.istore X8.here hx rfl (hb hby at_207) rfl (l' := #[.val (.int i0), .val (.int i1), .val (.int i2), .val (.int i3), .val (.int n1), .val (.int r_2), .val (.int r_3), .val (.int r_4), .val (.ref b6), .val (.int (0 : Int32)), .val (.int (0 : Int32)), .val (.int (0 : Int32)), .val (.int (1 : Int32))]) rfl k_) ?_
    show G (T8.setTop (mkF m 209 #[.val (.int i0), .val (.int i1), .val (.int i2), .val (.int i3), .val (.int n1), .val (.int r_2), .val (.int r_3), .val (.int r_4), .val (.ref b6), .val (.int (0 : Int32)), .val (.int (0 : Int32)), .val (.int (0 : Int32)), .val (.int (1 : Int32))] []))
    refine hG _ _ (fun t_ k_ => XS.aload X8.here hx rfl (hb hby at_209) rfl rfl k_) ?_
    show G (T8.setTop (mkF m 211 #[.val (.int i0), .val (.int i1), .val (.int i2), .val (.int i3), .val (.int n1), .val (.int r_2), .val (.int r_3), .val (.int r_4), .val (.ref b6), .val (.int (0 : Int32)), .val (.int (0 : Int32)), .val (.int (0 : Int32)), .val (.int (1 : Int32))] [(.ref b6)]))
    refine own_callS X8 hx hZ8 hG hown8 (hw _ (List.mem_of_getElem? (i := 27) rfl)) (hw _ (List.mem_of_getElem? (i := 28) rfl)) (hw _ (List.mem_of_getElem? (i := 29) rfl)) (hw _ (List.mem_of_getElem? (i := 30) rfl)) (by decide) 0 (own_ccT l Z a0 hw b6 t_8 kt_8 [] (0 : Int32) (0 : Int32) [] cpt fmt h8 O8 r8_0 r8_1 r8_2 r8_3 own_enc_nil (Nat.zero_le _) own_alln g0_S g1_hcpt g2_S g3_S g4_S g5_hfmt g6_S own_alln) (by decide) (by decide) e8 (by rw [hml]; rfl) (lenOf own_pd19 rfl) (argsL := [(.ref b6)]) (rest := []) rfl rfl (Nat.le_of_eq rfl) (hb hby at_211) (by decide) (by decide) ?_
    intro T12 h12 v12 L12 X12 e12 q12
    obtain ⟨rfl, M12, rfl⟩ := q12
    have N12 := Fr.app N8 M12
    show G (T12.setTop (mkF m 214 #[.val (.int i0), .val (.int i1), .val (.int i2), .val (.int i3), .val (.int n1), .val (.int r_2), .val (.int r_3), .val (.int r_4), .val (.ref b6), .val (.int (0 : Int32)), .val (.int (0 : Int32)), .val (.int (0 : Int32)), .val (.int (1 : Int32))] [(.int (1 : Int32))]))
    refine hG _ _ (fun t_ k_ => XS.iload X12.here hx rfl (hb hby at_214) rfl k_) ?_
    show G (T12.setTop (mkF m 216 #[.val (.int i0), .val (.int i1), .val (.int i2), .val (.int i3), .val (.int n1), .val (.int r_2), .val (.int r_3), .val (.int r_4), .val (.ref b6), .val (.int (0 : Int32)), .val (.int (0 : Int32)), .val (.int (0 : Int32)), .val (.int (1 : Int32))] [(.int (1 : Int32)), (.int (1 : Int32))]))
    refine hG _ _ (fun t_ k_ => XS.icmpNo X12.here hx rfl (hb hby at_216) rfl (teq (by decide)).2 k_) ?_
    show G (T12.setTop (mkF m 219 #[.val (.int i0), .val (.int i1), .val (.int i2), .val (.int i3), .val (.int n1), .val (.int r_2), .val (.int r_3), .val (.int r_4), .val (.ref b6), .val (.int (0 : Int32)), .val (.int (0 : Int32)), .val (.int (0 : Int32)), .val (.int (1 : Int32))] []))
    refine hG _ _ (fun t_ k_ => XS.iconst X12.here hx rfl (hb hby at_219) k_) ?_
    show G (T12.setTop (mkF m 220 #[.val (.int i0), .val (.int i1), .val (.int i2), .val (.int i3), .val (.int n1), .val (.int r_2), .val (.int r_3), .val (.int r_4), .val (.ref b6), .val (.int (0 : Int32)), .val (.int (0 : Int32)), .val (.int (0 : Int32)), .val (.int (1 : Int32))] [(.int (1 : Int32))]))
    refine hG _ _ (fun t_ k_ => XS.goto X12.here hx rfl (pc0 := 220) (pc' := 224) rfl (hb hby at_220) (by decide) (by decide) k_) ?_
    show G (T12.setTop (mkF m 224 #[.val (.int i0), .val (.int i1), .val (.int i2), .val (.int i3), .val (.int n1), .val (.int r_2), .val (.int r_3), .val (.int r_4), .val (.ref b6), .val (.int (0 : Int32)), .val (.int (0 : Int32)), .val (.int (0 : Int32)), .val (.int (1 : Int32))] [(.int (1 : Int32))]))
    exact own_retNW hR hret (by simp) X12 hx (hb hby at_224) e12 SI8 (Nat.le_refl _) hZ8 C8 (by decide) (by decide) ⟨rfl, N12, K8⟩
  · skip
    refine hG _ _ (fun t_ k_ => XS.ifYes X4.here hx rfl (pc0 := 25) (pc' := 43) rfl (hb hby at_25) rfl ((if0 _ _).trans (feq hc25_5).2) (by decide) (by decide) k_) ?_
    show G (T4.setTop (mkF m 43 #[.val (.int i0), .val (.int i1), .val (.int i2), .val (.int i3), .val (.int n1), .val (.int r_2), .val (.int r_3), .val (.int r_4), .unset, .unset, .unset, .unset, .unset] []))
    refine hG _ _ (fun t_ k_ => XS.iload X4.here hx rfl (hb hby at_43) rfl k_) ?_
    show G (T4.setTop (mkF m 45 #[.val (.int i0), .val (.int i1), .val (.int i2), .val (.int i3), .val (.int n1), .val (.int r_2), .val (.int r_3), .val (.int r_4), .unset, .unset, .unset, .unset, .unset] [(.int n1)]))
    refine hG _ _ (fun t_ k_ => XS.iconst X4.here hx rfl (hb hby at_45) k_) ?_
    show G (T4.setTop (mkF m 46 #[.val (.int i0), .val (.int i1), .val (.int i2), .val (.int i3), .val (.int n1), .val (.int r_2), .val (.int r_3), .val (.int r_4), .unset, .unset, .unset, .unset, .unset] [(.int (1 : Int32)), (.int n1)]))
    by_cases hc46_13 : n1 = (1 : Int32)
    · skip
      refine hG _ _ (fun t_ k_ => XS.icmpNo X4.here hx rfl (hb hby at_46) rfl (teq hc46_13).2 k_) ?_
      show G (T4.setTop (mkF m 49 #[.val (.int i0), .val (.int i1), .val (.int i2), .val (.int i3), .val (.int n1), .val (.int r_2), .val (.int r_3), .val (.int r_4), .unset, .unset, .unset, .unset, .unset] []))
      obtain ⟨T14, h14, X14, e14, E14, A14, D14, -, st14⟩ := newO X4 hx hZ hown (hw _ (List.mem_of_getElem? (i := 5) rfl)) (hw _ (List.mem_of_getElem? (i := 6) rfl)) (hw _ (List.mem_of_getElem? (i := 7) rfl)) e4 (g := (mkF m 49 #[.val (.int i0), .val (.int i1), .val (.int i2), .val (.int i3), .val (.int n1), .val (.int r_2), .val (.int r_3), .val (.int r_4), .unset, .unset, .unset, .unset, .unset] [])) rfl (hb hby at_49) (by decide) (by decide)
      obtain ⟨b14, z14⟩ : ∃ z, z = h0.size := ⟨_, rfl⟩
      rw [← z14] at A14 D14 st14
      refine hG _ _ st14 ?_
      have R14 := (CHr.ext E14 H0)
      have C14 := (CHr.refl H0).trans R14
      have K14 : Keep h0 h14 [] := (Keep.refl h0 []).ext E14
      have O14 : own_Old Z h14 := O0.ext E14
      show G (T14.setTop (mkF m 52 #[.val (.int i0), .val (.int i1), .val (.int i2), .val (.int i3), .val (.int n1), .val (.int r_2), .val (.int r_3), .val (.int r_4), .unset, .unset, .unset, .unset, .unset] [(.ref b14)]))
      refine hG _ _ (fun t_ k_ => XS.dup X14.here hx rfl (hb hby at_52) rfl rfl k_) ?_
      show G (T14.setTop (mkF m 53 #[.val (.int i0), .val (.int i1), .val (.int i2), .val (.int i3), .val (.int n1), .val (.int r_2), .val (.int r_3), .val (.int r_4), .unset, .unset, .unset, .unset, .unset] [(.ref b14), (.ref b14)]))
      refine hG _ _ (fun t_ k_ => XS.iconst X14.here hx rfl (hb hby at_53) k_) ?_
      show G (T14.setTop (mkF m 54 #[.val (.int i0), .val (.int i1), .val (.int i2), .val (.int i3), .val (.int n1), .val (.int r_2), .val (.int r_3), .val (.int r_4), .unset, .unset, .unset, .unset, .unset] [(.int (1 : Int32)), (.ref b14), (.ref b14)]))
      obtain ⟨T15, h15, k15, X15, e15, E15, A15, st15⟩ := newP X14 hx hZ (hw _ (List.mem_of_getElem? (i := 8) rfl)) e14 (g := (mkF m 54 #[.val (.int i0), .val (.int i1), .val (.int i2), .val (.int i3), .val (.int n1), .val (.int r_2), .val (.int r_3), .val (.int r_4), .unset, .unset, .unset, .unset, .unset] [(.int (1 : Int32)), (.ref b14), (.ref b14)])) rfl (hb hby at_54) rfl (by decide) (cap := 1) (by decide) (by decide) (by decide) (by decide)
      obtain ⟨b15, z15⟩ : ∃ z, z = h14.size := ⟨_, rfl⟩
      rw [← z15] at A15 st15
      refine hG _ _ st15 ?_
      have R15 := (CHr.ext E15 R14.1)
      have C15 := C14.trans R15
      have K15 : Keep h0 h15 [] := K14.ext E15
      have O15 : own_Old Z h15 := O14.ext E15
      have V15 : Arv Z h15 b15 k15 .char (1 : Int32) [(.int (0 : Int32))] (.int (0 : Int32)) := (Arv.new A15 (by decide)).pad (pad_rep [] (.int (0 : Int32)) 1)
      show G (T15.setTop (mkF m 56 #[.val (.int i0), .val (.int i1), .val (.int i2), .val (.int i3), .val (.int n1), .val (.int r_2), .val (.int r_3), .val (.int r_4), .unset, .unset, .unset, .unset, .unset] [(.ref b15), (.ref b14), (.ref b14)]))
      refine hG _ _ (fun t_ k_ => XS.dup X15.here hx rfl (hb hby at_56) rfl rfl k_) ?_
      show G (T15.setTop (mkF m 57 #[.val (.int i0), .val (.int i1), .val (.int i2), .val (.int i3), .val (.int n1), .val (.int r_2), .val (.int r_3), .val (.int r_4), .unset, .unset, .unset, .unset, .unset] [(.ref b15), (.ref b15), (.ref b14), (.ref b14)]))
      refine hG _ _ (fun t_ k_ => XS.iconst X15.here hx rfl (hb hby at_57) k_) ?_
      show G (T15.setTop (mkF m 58 #[.val (.int i0), .val (.int i1), .val (.int i2), .val (.int i3), .val (.int n1), .val (.int r_2), .val (.int r_3), .val (.int r_4), .unset, .unset, .unset, .unset, .unset] [(.int (0 : Int32)), (.ref b15), (.ref b15), (.ref b14), (.ref b14)]))
      refine hG _ _ (fun t_ k_ => XS.iload X15.here hx rfl (hb hby at_58) rfl k_) ?_
      show G (T15.setTop (mkF m 60 #[.val (.int i0), .val (.int i1), .val (.int i2), .val (.int i3), .val (.int n1), .val (.int r_2), .val (.int r_3), .val (.int r_4), .unset, .unset, .unset, .unset, .unset] [(.int r_2), (.int (0 : Int32)), (.ref b15), (.ref b15), (.ref b14), (.ref b14)]))
      obtain ⟨c16, Ar16, q16, S16, M16, H16, G16⟩ := id V15
      obtain ⟨T16, h16, X16, e16, W16, st16⟩ := stC X15 hx hZ e15 Ar16 (j := (0 : Int32)) (inb_of S16 ⟨by decide, by decide⟩) (g := (mkF m 60 #[.val (.int i0), .val (.int i1), .val (.int i2), .val (.int i3), .val (.int n1), .val (.int r_2), .val (.int r_3), .val (.int r_4), .unset, .unset, .unset, .unset, .unset] [(.int r_2), (.int (0 : Int32)), (.ref b15), (.ref b15), (.ref b14), (.ref b14)])) rfl rfl (hb hby at_60)
      refine hG _ _ st16 ?_
      have sf17 : Safe Z consts_1 _ h15 b15 := (own_safeArv hZ.alike V15 (by decide))
      have R16 := (CHr.wr W16 sf17 R15.1)
      have C16 := C15.trans R16
      have K16 : Keep h0 h16 [] := K15.wr W16 (Or.inr (Nat.le_trans K14.1 (Nat.le_of_eq z15.symm)))
      have O16 : own_Old Z h16 := O15.wr W16 (own_ge O14 (Nat.le_of_eq z15.symm))
      rw [own_narC r2_0] at W16
      have V16 : Arv Z h16 b15 k15 .char (1 : Int32) [(.int r_2)] (.int (0 : Int32)) := Arv.set Ar16 q16 S16 M16 H16 G16 (own_fitC r2_0) W16 0 rfl (Nat.le_of_ble_eq_true rfl)
      have N16 := Fr.snoc X16 N4 (own_ge O14 (Nat.le_of_eq z15.symm))
      show G (T16.setTop (mkF m 61 #[.val (.int i0), .val (.int i1), .val (.int i2), .val (.int i3), .val (.int n1), .val (.int r_2), .val (.int r_3), .val (.int r_4), .unset, .unset, .unset, .unset, .unset] [(.ref b15), (.ref b14), (.ref b14)]))
      have f19 := ((A14.ext E15).wr W16)
      have f20 := (((D14 (Or.inr (hw _ (List.mem_of_getElem? (i := 22) rfl))) (ty := .byte) (by decide)).ext E15).other W16 (Or.inl (own_ne A14.lt (Nat.le_of_eq z15.symm))))
      have f21 := (((D14 (Or.inr (hw _ (List.mem_of_getElem? (i := 21) rfl))) (ty := (.array .byte)) (by decide)).ext E15).other W16 (Or.inl (own_ne A14.lt (Nat.le_of_eq z15.symm))))
      refine own_callI X16 hx hZ hG hown rfl (hw _ (List.mem_of_getElem? (i := 9) rfl)) (hw _ (List.mem_of_getElem? (i := 10) rfl)) (hw _ (List.mem_of_getElem? (i := 7) rfl)) (hw _ (List.mem_of_getElem? (i := 11) rfl)) (by decide) 1 (own_gstr1 l Z a0 hw b14 b15 k15 [r_2] cpt (.int (0 : Int32)) .null h16 O16 f19 f20 f21 (own_ge O0 (Nat.le_of_eq z14.symm)) V16 (Nat.le_of_ble_eq_true rfl) (Nat.le_of_ble_eq_true rfl) (own_allc r2_0 own_alln) g0_S g1_hcpt g2_S g3_S g4_S) (by decide) (by decide) e16 (by rw [hml]; rfl) (lenOf own_pd8 rfl) (argsL := [(.ref b15)]) (rest := [(.ref b14)]) rfl rfl (Nat.le_of_eq rfl) (hb hby at_61) (by decide) (by decide) ?_
      intro T18 h18 v18 L18 X18 e18 q18
      obtain ⟨t_18, kt_18, cd_18, nb_18, vs_18, rfl, M18, J18, y18_0, r18_0, r18_1, r18_2, r18_3, r18_4⟩ := q18
      have N18 := Fr.app N16 M18
      have sf22 : Safe Z consts_1 _ h16 b14 := (own_safeStr hZ.alike f19 f21)
      have R18 := (CHr.keep J18 (allS sf22 all0) R16.1)
      have C18 := C16.trans R18
      have K18 : Keep h0 h18 [] := K16.trans J18 (allS (Or.inr (Nat.le_trans (Keep.refl h0 []).1 (Nat.le_of_eq z14.symm))) all0)
      have O18 : own_Old Z h18 := O16.keep J18 (allS (own_ge O0 (Nat.le_of_eq z14.symm)) all0)
      show G (T18.setTop (mkF m 64 #[.val (.int i0), .val (.int i1), .val (.int i2), .val (.int i3), .val (.int n1), .val (.int r_2), .val (.int r_3), .val (.int r_4), .unset, .unset, .unset, .unset, .unset] [(.ref b14)]))
      refine hG _ _ (fun t_ k_ => XS.astore X18.here hx rfl (hb hby at_64) rfl rfl (l' := #[.val (.int i0), .val (.int i1), .val (.int i2), .val (.int i3), .val (.int n1), .val (.int r_2), .val (.int r_3), .val (.int r_4), .val (.ref b14), .unset, .unset, .unset, .unset]) rfl k_) ?_
      show G (T18.setTop (mkF m 66 #[.val (.int i0), .val (.int i1), .val (.int i2), .val (.int i3), .val (.int n1), .val (.int r_2), .val (.int r_3), .val (.int r_4), .val (.ref b14), .unset, .unset, .unset, .unset] []))
      refine hG _ _ (fun t_ k_ => XS.goto X18.here hx rfl (pc0 := 66) (pc' := 127) rfl (hb hby at_66) (by decide) (by decide) k_) ?_
      show G (T18.setTop (mkF m 127 #[.val (.int i0), .val (.int i1), .val (.int i2), .val (.int i3), .val (.int n1), .val (.int r_2), .val (.int r_3), .val (.int r_4), .val (.ref b14), .unset, .unset, .unset, .unset] []))
      have hnL : n1 = (1 : Int32) := hc46_13
      show G (T18.setTop (mkF m 127 #[.val (.int i0), .val (.int i1), .val (.int i2), .val (.int i3), .val (.int n1), .val (.int r_2), .val (.int r_3), .val (.int r_4), .val (.ref b14), .unset, .unset, .unset, .unset] []))
      refine hG _ _ (fun t_ k_ => XS.iload X18.here hx rfl (hb hby at_127) rfl k_) ?_
      show G (T18.setTop (mkF m 129 #[.val (.int i0), .val (.int i1), .val (.int i2), .val (.int i3), .val (.int n1), .val (.int r_2), .val (.int r_3), .val (.int r_4), .val (.ref b14), .unset, .unset, .unset, .unset] [(.int n1)]))
      refine hG _ _ (fun t_ k_ => XS.iconst X18.here hx rfl (hb hby at_129) k_) ?_
      show G (T18.setTop (mkF m 130 #[.val (.int i0), .val (.int i1), .val (.int i2), .val (.int i3), .val (.int n1), .val (.int r_2), .val (.int r_3), .val (.int r_4), .val (.ref b14), .unset, .unset, .unset, .unset] [(.int (1 : Int32)), (.int n1)]))
      refine hG _ _ (fun t_ k_ => XS.icmpNo X18.here hx rfl (hb hby at_130) rfl (flt (by rw [hnL]; decide)).1 k_) ?_
      show G (T18.setTop (mkF m 133 #[.val (.int i0), .val (.int i1), .val (.int i2), .val (.int i3), .val (.int n1), .val (.int r_2), .val (.int r_3), .val (.int r_4), .val (.ref b14), .unset, .unset, .unset, .unset] []))
      refine hG _ _ (fun t_ k_ => XS.iload X18.here hx rfl (hb hby at_133) rfl k_) ?_
      show G (T18.setTop (mkF m 135 #[.val (.int i0), .val (.int i1), .val (.int i2), .val (.int i3), .val (.int n1), .val (.int r_2), .val (.int r_3), .val (.int r_4), .val (.ref b14), .unset, .unset, .unset, .unset] [(.int r_2)]))
      refine hG _ _ (fun t_ k_ => XS.bipush X18.here hx rfl (hb hby at_135) k_) ?_
      show G (T18.setTop (mkF m 137 #[.val (.int i0), .val (.int i1), .val (.int i2), .val (.int i3), .val (.int n1), .val (.int r_2), .val (.int r_3), .val (.int r_4), .val (.ref b14), .unset, .unset, .unset, .unset] [(.int (58 : Int32)), (.int r_2)]))
      by_cases hc137_23 : r_2 = (58 : Int32)
      · skip
        refine hG _ _ (fun t_ k_ => XS.icmpNo X18.here hx rfl (hb hby at_137) rfl (teq hc137_23).2 k_) ?_
        show G (T18.setTop (mkF m 140 #[.val (.int i0), .val (.int i1), .val (.int i2), .val (.int i3), .val (.int n1), .val (.int r_2), .val (.int r_3), .val (.int r_4), .val (.ref b14), .unset, .unset, .unset, .unset] []))
        refine hG _ _ (fun t_ k_ => XS.iconst X18.here hx rfl (hb hby at_140) k_) ?_
        show G (T18.setTop (mkF m 141 #[.val (.int i0), .val (.int i1), .val (.int i2), .val (.int i3), .val (.int n1), .val (.int r_2), .val (.int r_3), .val (.int r_4), .val (.ref b14), .unset, .unset, .unset, .unset] [(.int (1 : Int32))]))
        refine hG _ _ (fun t_ k_ => XS.goto X18.here hx rfl (pc0 := 141) (pc' := 145) rfl (hb hby at_141) (by decide) (by decide) k_) ?_
        show G (T18.setTop (mkF m 145 #[.val (.int i0), .val (.int i1), .val (.int i2), .val (.int i3), .val (.int n1), .val (.int r_2), .val (.int r_3), .val (.int r_4), .val (.ref b14), .unset, .unset, .unset, .unset] [(.int (1 : Int32))]))
        refine hG _ _ (fun t_ k_ => XS.istore X18.here hx rfl (hb hby at_145) rfl (l' := #[.val (.int i0), .val (.int i1), .val (.int i2), .val (.int i3), .val (.int n1), .val (.int r_2), .val (.int r_3), .val (.int r_4), .val (.ref b14), .val (.int (1 : Int32)), .unset, .unset, .unset]) rfl k_) ?_
        show G (T18.setTop (mkF m 147 #[.val (.int i0), .val (.int i1), .val (.int i2), .val (.int i3), .val (.int n1), .val (.int r_2), .val (.int r_3), .val (.int r_4), .val (.ref b14), .val (.int (1 : Int32)), .unset, .unset, .unset] []))
        refine hG _ _ (fun t_ k_ => XS.iload X18.here hx rfl (hb hby at_147) rfl k_) ?_
        show G (T18.setTop (mkF m 149 #[.val (.int i0), .val (.int i1), .val (.int i2), .val (.int i3), .val (.int n1), .val (.int r_2), .val (.int r_3), .val (.int r_4), .val (.ref b14), .val (.int (1 : Int32)), .unset, .unset, .unset] [(.int n1)]))
        refine hG _ _ (fun t_ k_ => XS.iconst X18.here hx rfl (hb hby at_149) k_) ?_
        show G (T18.setTop (mkF m 150 #[.val (.int i0), .val (.int i1), .val (.int i2), .val (.int i3), .val (.int n1), .val (.int r_2), .val (.int r_3), .val (.int r_4), .val (.ref b14), .val (.int (1 : Int32)), .unset, .unset, .unset] [(.int (2 : Int32)), (.int n1)]))
        refine hG _ _ (fun t_ k_ => XS.icmpYes X18.here hx rfl (pc0 := 150) (pc' := 164) rfl (hb hby at_150) rfl (tlt (by rw [hnL]; decide)).1 (by decide) (by decide) k_) ?_
        show G (T18.setTop (mkF m 164 #[.val (.int i0), .val (.int i1), .val (.int i2), .val (.int i3), .val (.int n1), .val (.int r_2), .val (.int r_3), .val (.int r_4), .val (.ref b14), .val (.int (1 : Int32)), .unset, .unset, .unset] []))
        refine hG _ _ (fun t_ k_ => XS.iconst X18.here hx rfl (hb hby at_164) k_) ?_
        show G (T18.setTop (mkF m 165 #[.val (.int i0), .val (.int i1), .val (.int i2), .val (.int i3), .val (.int n1), .val (.int r_2), .val (.int r_3), .val (.int r_4), .val (.ref b14), .val (.int (1 : Int32)), .unset, .unset, .unset] [(.int (0 : Int32))]))
        refine hG _ _ (fun t_ k_ => XS.istore X18.here hx rfl (hb hby at_165) rfl (l' := #[.val (.int i0), .val (.int i1), .val (.int i2), .val (.int i3), .val (.int n1), .val (.int r_2), .val (.int r_3), .val (.int r_4), .val (.ref b14), .val (.int (1 : Int32)), .val (.int (0 : Int32)), .unset, .unset]) rfl k_) ?_
        show G (T18.setTop (mkF m 167 #[.val (.int i0), .val (.int i1), .val (.int i2), .val (.int i3), .val (.int n1), .val (.int r_2), .val (.int r_3), .val (.int r_4), .val (.ref b14), .val (.int (1 : Int32)), .val (.int (0 : Int32)), .unset, .unset] []))
        refine hG _ _ (fun t_ k_ => XS.iload X18.here hx rfl (hb hby at_167) rfl k_) ?_
        show G (T18.setTop (mkF m 169 #[.val (.int i0), .val (.int i1), .val (.int i2), .val (.int i3), .val (.int n1), .val (.int r_2), .val (.int r_3), .val (.int r_4), .val (.ref b14), .val (.int (1 : Int32)), .val (.int (0 : Int32)), .unset, .unset] [(.int n1)]))
        refine hG _ _ (fun t_ k_ => XS.iconst X18.here hx rfl (hb hby at_169) k_) ?_
        show G (T18.setTop (mkF m 170 #[.val (.int i0), .val (.int i1), .val (.int i2), .val (.int i3), .val (.int n1), .val (.int r_2), .val (.int r_3), .val (.int r_4), .val (.ref b14), .val (.int (1 : Int32)), .val (.int (0 : Int32)), .unset, .unset] [(.int (3 : Int32)), (.int n1)]))
        refine hG _ _ (fun t_ k_ => XS.icmpYes X18.here hx rfl (pc0 := 170) (pc' := 184) rfl (hb hby at_170) rfl (tlt (by rw [hnL]; decide)).1 (by decide) (by decide) k_) ?_
        show G (T18.setTop (mkF m 184 #[.val (.int i0), .val (.int i1), .val (.int i2), .val (.int i3), .val (.int n1), .val (.int r_2), .val (.int r_3), .val (.int r_4), .val (.ref b14), .val (.int (1 : Int32)), .val (.int (0 : Int32)), .unset, .unset] []))
        refine hG _ _ (fun t_ k_ => XS.iconst X18.here hx rfl (hb hby at_184) k_) ?_
        show G (T18.setTop (mkF m 185 #[.val (.int i0), .val (.int i1), .val (.int i2), .val (.int i3), .val (.int n1), .val (.int r_2), .val (.int r_3), .val (.int r_4), .val (.ref b14), .val (.int (1 : Int32)), .val (.int (0 : Int32)), .unset, .unset] [(.int (0 : Int32))]))
        refine hG _ _ (fun t_ k_ => XS.istore X18.here hx rfl (hb hby at_185) rfl (l' := #[.val (.int i0), .val (.int i1), .val (.int i2), .val (.int i3), .val (.int n1), .val (.int r_2), .val (.int r_3), .val (.int r_4), .val (.ref b14), .val (.int (1 : Int32)), .val (.int (0 : Int32)), .val (.int (0 : Int32)), .unset]) rfl k_) ?_
        show G (T18.setTop (mkF m 187 #[.val (.int i0), .val (.int i1), .val (.int i2), .val (.int i3), .val (.int n1), .val (.int r_2), .val (.int r_3), .val (.int r_4), .val (.ref b14), .val (.int (1 : Int32)), .val (.int (0 : Int32)), .val (.int (0 : Int32)), .unset] []))
        refine hG _ _ (fun t_ k_ => XS.iload X18.here hx rfl (hb hby at_187) rfl k_) ?_
        show G (T18.setTop (mkF m 189 #[.val (.int i0), .val (.int i1), .val (.int i2), .val (.int i3), .val (.int n1), .val (.int r_2), .val (.int r_3), .val (.int r_4), .val (.ref b14), .val (.int (1 : Int32)), .val (.int (0 : Int32)), .val (.int (0 : Int32)), .unset] [(.int (1 : Int32))]))
        refine hG _ _ (fun t_ k_ => XS.ifYes X18.here hx rfl (pc0 := 189) (pc' := 206) rfl (hb hby at_189) rfl ((if0 _ _).trans (feq (by decide)).2) (by decide) (by decide) k_) ?_
        show G (T18.setTop (mkF m 206 #[.val (.int i0), .val (.int i1), .val (.int i2), .val (.int i3), .val (.int n1), .val (.int r_2), .val (.int r_3), .val (.int r_4), .val (.ref b14), .val (.int (1 : Int32)), .val (.int (0 : Int32)), .val (.int (0 : Int32)), .unset] []))
        refine hG _ _ (fun t_ k_ => XS.iconst X18.here hx rfl (hb hby at_206) k_) ?_
        show G (T18.setTop (mkF m 207 #[.val (.int i0), .val (.int i1), .val (.int i2), .val (.int i3), .val (.int n1), .val (.int r_2), .val (.int r_3), .val (.int r_4), .val (.ref b14), .val (.int (1 : Int32)), .val (.int (0 : Int32)), .val (.int (0 : Int32)), .unset] [(.int (0 : Int32))]))
        refine hG _ _ (fun t_ k_ => XS.istore X18.here hx rfl (hb hby at_207) rfl (l' := #[.val (.int i0), .val (.int i1), .val (.int i2), .val (.int i3), .val (.int n1), .val (.int r_2), .val (.int r_3), .val (.int r_4), .val (.ref b14), .val (.int (1 : Int32)), .val (.int (0 : Int32)), .val (.int (0 : Int32)), .val (.int (0 : Int32))]) rfl k_) ?_
        show G (T18.setTop (mkF m 209 #[.val (.int i0), .val (.int i1), .val (.int i2), .val (.int i3), .val (.int n1), .val (.int r_2), .val (.int r_3), .val (.int r_4), .val (.ref b14), .val (.int (1 : Int32)), .val (.int (0 : Int32)), .val (.int (0 : Int32)), .val (.int (0 : Int32))] []))
        refine hG _ _ (fun t_ k_ => XS.aload X18.here hx rfl (hb hby at_209) rfl rfl k_) ?_
        show G (T18.setTop (mkF m 211 #[.val (.int i0), .val (.int i1), .val (.int i2), .val (.int i3), .val (.int n1), .val (.int r_2), .val (.int r_3), .val (.int r_4), .val (.ref b14), .val (.int (1 : Int32)), .val (.int (0 : Int32)), .val (.int (0 : Int32)), .val (.int (0 : Int32))] [(.ref b14)]))
        refine own_callS X18 hx hZ hG hown (hw _ (List.mem_of_getElem? (i := 27) rfl)) (hw _ (List.mem_of_getElem? (i := 28) rfl)) (hw _ (List.mem_of_getElem? (i := 29) rfl)) (hw _ (List.mem_of_getElem? (i := 30) rfl)) (by decide) 0 (own_ccF l Z a0 hw b14 t_18 kt_18 [r_2] cd_18 nb_18 vs_18 cpt fmt h18 O18 r18_0 r18_1 r18_2 r18_3 r18_4 (Nat.le_of_ble_eq_true rfl) (own_allc r2_0 own_alln) g0_S g1_hcpt g2_S g3_S g4_S g5_hfmt g6_S ⟨r_2, (List.mem_of_getElem? (i := 0) rfl), hc137_23⟩) (by decide) (by decide) e18 (by rw [hml]; rfl) (lenOf own_pd19 rfl) (argsL := [(.ref b14)]) (rest := []) rfl rfl (Nat.le_of_eq rfl) (hb hby at_211) (by decide) (by decide) ?_
        intro T24 h24 v24 L24 X24 e24 q24
        obtain ⟨rfl, M24, rfl⟩ := q24
        have N24 := Fr.app N18 M24
        show G (T24.setTop (mkF m 214 #[.val (.int i0), .val (.int i1), .val (.int i2), .val (.int i3), .val (.int n1), .val (.int r_2), .val (.int r_3), .val (.int r_4), .val (.ref b14), .val (.int (1 : Int32)), .val (.int (0 : Int32)), .val (.int (0 : Int32)), .val (.int (0 : Int32))] [(.int (0 : Int32))]))
        refine hG _ _ (fun t_ k_ => XS.iload X24.here hx rfl (hb hby at_214) rfl k_) ?_
        show G (T24.setTop (mkF m 216 #[.val (.int i0), .val (.int i1), .val (.int i2), .val (.int i3), .val (.int n1), .val (.int r_2), .val (.int r_3), .val (.int r_4), .val (.ref b14), .val (.int (1 : Int32)), .val (.int (0 : Int32)), .val (.int (0 : Int32)), .val (.int (0 : Int32))] [(.int (0 : Int32)), (.int (0 : Int32))]))
        refine hG _ _ (fun t_ k_ => XS.icmpNo X24.here hx rfl (hb hby at_216) rfl (teq (by decide)).2 k_) ?_
        show G (T24.setTop (mkF m 219 #[.val (.int i0), .val (.int i1), .val (.int i2), .val (.int i3), .val (.int n1), .val (.int r_2), .val (.int r_3), .val (.int r_4), .val (.ref b14), .val (.int (1 : Int32)), .val (.int (0 : Int32)), .val (.int (0 : Int32)), .val (.int (0 : Int32))] []))
        refine hG _ _ (fun t_ k_ => XS.iconst X24.here hx rfl (hb hby at_219) k_) ?_
        show G (T24.setTop (mkF m 220 #[.val (.int i0), .val (.int i1), .val (.int i2), .val (.int i3), .val (.int n1), .val (.int r_2), .val (.int r_3), .val (.int r_4), .val (.ref b14), .val (.int (1 : Int32)), .val (.int (0 : Int32)), .val (.int (0 : Int32)), .val (.int (0 : Int32))] [(.int (1 : Int32))]))
        refine hG _ _ (fun t_ k_ => XS.goto X24.here hx rfl (pc0 := 220) (pc' := 224) rfl (hb hby at_220) (by decide) (by decide) k_) ?_
        show G (T24.setTop (mkF m 224 #[.val (.int i0), .val (.int i1), .val (.int i2), .val (.int i3), .val (.int n1), .val (.int r_2), .val (.int r_3), .val (.int r_4), .val (.ref b14), .val (.int (1 : Int32)), .val (.int (0 : Int32)), .val (.int (0 : Int32)), .val (.int (0 : Int32))] [(.int (1 : Int32))]))
        exact own_retNW hR hret (by simp) X24 hx (hb hby at_224) e24 SI0 (Nat.le_trans (Nat.le_trans (Nat.le_trans (Nat.le_trans (Nat.le_refl _) R14.2.1) R15.2.1) R16.2.1) R18.2.1) hZ C18 (by decide) (by decide) ⟨rfl, N24, K18⟩
      · skip
        refine hG _ _ (fun t_ k_ => XS.icmpYes X18.here hx rfl (pc0 := 137) (pc' := 144) rfl (hb hby at_137) rfl (feq hc137_23).2 (by decide) (by decide) k_) ?_
        show G (T18.setTop (mkF m 144 #[.val (.int i0), .val (.int i1), .val (.int i2), .val (.int i3), .val (.int n1), .val (.int r_2), .val (.int r_3), .val (.int r_4), .val (.ref b14), .unset, .unset, .unset, .unset] []))
        refine hG _ _ (fun t_ k_ => XS.iconst X18.here hx rfl (hb hby at_144) k_) ?_
        show G (T18.setTop (mkF m 145 #[.val (.int i0), .val (.int i1), .val (.int i2), .val (.int i3), .val (.int n1), .val (.int r_2), .val (.int r_3), .val (.int r_4), .val (.ref b14), .unset, .unset, .unset, .unset] [(.int (0 : Int32))]))
        refine hG _ _ (fun t_ k_ => XS.istore X18.here hx rfl (hb hby at_145) rfl (l' := #[.val (.int i0), .val (.int i1), .val (.int i2), .val (.int i3), .val (.int n1), .val (.int r_2), .val (.int r_3), .val (.int r_4), .val (.ref b14), .val (.int (0 : Int32)), .unset, .unset, .unset]) rfl k_) ?_
        show G (T18.setTop (mkF m 147 #[.val (.int i0), .val (.int i1), .val (.int i2), .val (.int i3), .val (.int n1), .val (.int r_2), .val (.int r_3), .val (.int r_4), .val (.ref b14), .val (.int (0 : Int32)), .unset, .unset, .unset] []))
        refine hG _ _ (fun t_ k_ => XS.iload X18.here hx rfl (hb hby at_147) rfl k_) ?_
        show G (T18.setTop (mkF m 149 #[.val (.int i0), .val (.int i1), .val (.int i2), .val (.int i3), .val (.int n1), .val (.int r_2), .val (.int r_3), .val (.int r_4), .val (.ref b14), .val (.int (0 : Int32)), .unset, .unset, .unset] [(.int n1)]))
        refine hG _ _ (fun t_ k_ => XS.iconst X18.here hx rfl (hb hby at_149) k_) ?_
        show G (T18.setTop (mkF m 150 #[.val (.int i0), .val (.int i1), .val (.int i2), .val (.int i3), .val (.int n1), .val (.int r_2), .val (.int r_3), .val (.int r_4), .val (.ref b14), .val (.int (0 : Int32)), .unset, .unset, .unset] [(.int (2 : Int32)), (.int n1)]))
        refine hG _ _ (fun t_ k_ => XS.icmpYes X18.here hx rfl (pc0 := 150) (pc' := 164) rfl (hb hby at_150) rfl (tlt (by rw [hnL]; decide)).1 (by decide) (by decide) k_) ?_
        show G (T18.setTop (mkF m 164 #[.val (.int i0), .val (.int i1), .val (.int i2), .val (.int i3), .val (.int n1), .val (.int r_2), .val (.int r_3), .val (.int r_4), .val (.ref b14), .val (.int (0 : Int32)), .unset, .unset, .unset] []))
        refine hG _ _ (fun t_ k_ => XS.iconst X18.here hx rfl (hb hby at_164) k_) ?_
        show G (T18.setTop (mkF m 165 #[.val (.int i0), .val (.int i1), .val (.int i2), .val (.int i3), .val (.int n1), .val (.int r_2), .val (.int r_3), .val (.int r_4), .val (.ref b14), .val (.int (0 : Int32)), .unset, .unset, .unset] [(.int (0 : Int32))]))
        refine hG _ _ (fun t_ k_ => XS.istore X18.here hx rfl (hb hby at_165) rfl (l' := #[.val (.int i0), .val (.int i1), .val (.int i2), .val (.int i3), .val (.int n1), .val (.int r_2), .val (.int r_3), .val (.int r_4), .val (.ref b14), .val (.int (0 : Int32)), .val (.int (0 : Int32)), .unset, .unset]) rfl k_) ?_
        show G (T18.setTop (mkF m 167 #[.val (.int i0), .val (.int i1), .val (.int i2), .val (.int i3), .val (.int n1), .val (.int r_2), .val (.int r_3), .val (.int r_4), .val (.ref b14), .val (.int (0 : Int32)), .val (.int (0 : Int32)), .unset, .unset] []))
        refine hG _ _ (fun t_ k_ => XS.iload X18.here hx rfl (hb hby at_167) rfl k_) ?_
        show G (T18.setTop (mkF m 169 #[.val (.int i0), .val (.int i1), .val (.int i2), .val (.int i3), .val (.int n1), .val (.int r_2), .val (.int r_3), .val (.int r_4), .val (.ref b14), .val (.int (0 : Int32)), .val (.int (0 : Int32)), .unset, .unset] [(.int n1)]))
        refine hG _ _ (fun t_ k_ => XS.iconst X18.here hx rfl (hb hby at_169) k_) ?_
        show G (T18.setTop (mkF m 170 #[.val (.int i0), .val (.int i1), .val (.int i2), .val (.int i3), .val (.int n1), .val (.int r_2), .val (.int r_3), .val (.int r_4), .val (.ref b14), .val (.int (0 : Int32)), .val (.int (0 : Int32)), .unset, .unset] [(.int (3 : Int32)), (.int n1)]))
        refine hG _ _ (fun t_ k_ => XS.icmpYes X18.here hx rfl (pc0 := 170) (pc' := 184) rfl (hb hby at_170) rfl (tlt (by rw [hnL]; decide)).1 (by decide) (by decide) k_) ?_
        show G (T18.setTop (mkF m 184 #[.val (.int i0), .val (.int i1), .val (.int i2), .val (.int i3), .val (.int n1), .val (.int r_2), .val (.int r_3), .val (.int r_4), .val (.ref b14), .val (.int (0 : Int32)), .val (.int (0 : Int32)), .unset, .unset] []))
        refine hG _ _ (fun t_ k_ => XS.iconst X18.here hx rfl (hb hby at_184) k_) ?_
        show G (T18.setTop (mkF m 185 #[.val (.int i0), .val (.int i1), .val (.int i2), .val (.int i3), .val (.int n1), .val (.int r_2), .val (.int r_3), .val (.int r_4), .val (.ref b14), .val (.int (0 : Int32)), .val (.int (0 : Int32)), .unset, .unset] [(.int (0 : Int32))]))
        refine hG _ _ (fun t_ k_ => XS.istore X18.here hx rfl (hb hby at_185) rfl (l' := #[.val (.int i0), .val (.int i1), .val (.int i2), .val (.int i3), .val (.int n1), .val (.int r_2), .val (.int r_3), .val (.int r_4), .val (.ref b14), .val (.int (0 : Int32)), .val (.int (0 : Int32)), .val (.int (0 : Int32)), .unset]) rfl k_) ?_
        show G (T18.setTop (mkF m 187 #[.val (.int i0), .val (.int i1), .val (.int i2), .val (.int i3), .val (.int n1), .val (.int r_2), .val (.int r_3), .val (.int r_4), .val (.ref b14), .val (.int (0 : Int32)), .val (.int (0 : Int32)), .val (.int (0 : Int32)), .unset] []))
        refine hG _ _ (fun t_ k_ => XS.iload X18.here hx rfl (hb hby at_187) rfl k_) ?_
        show G (T18.setTop (mkF m 189 #[.val (.int i0), .val (.int i1), .val (.int i2), .val (.int i3), .val (.int n1), .val (.int r_2), .val (.int r_3), .val (.int r_4), .val (.ref b14), .val (.int (0 : Int32)), .val (.int (0 : Int32)), .val (.int (0 : Int32)), .unset] [(.int (0 : Int32))]))
        refine hG _ _ (fun t_ k_ => XS.ifNo X18.here hx rfl (hb hby at_189) rfl ((if0 _ _).trans (teq (by decide)).2) k_) ?_
        show G (T18.setTop (mkF m 192 #[.val (.int i0), .val (.int i1), .val (.int i2), .val (.int i3), .val (.int n1), .val (.int r_2), .val (.int r_3), .val (.int r_4), .val (.ref b14), .val (.int (0 : Int32)), .val (.int (0 : Int32)), .val (.int (0 : Int32)), .unset] []))
        refine hG _ _ (fun t_ k_ => XS.iload X18.here hx rfl (hb hby at_192) rfl k_) ?_
        show G (T18.setTop (mkF m 194 #[.val (.int i0), .val (.int i1), .val (.int i2), .val (.int i3), .val (.int n1), .val (.int r_2), .val (.int r_3), .val (.int r_4), .val (.ref b14), .val (.int (0 : Int32)), .val (.int (0 : Int32)), .val (.int (0 : Int32)), .unset] [(.int (0 : Int32))]))
        refine hG _ _ (fun t_ k_ => XS.ifNo X18.here hx rfl (hb hby at_194) rfl ((if0 _ _).trans (teq (by decide)).2) k_) ?_
        show G (T18.setTop (mkF m 197 #[.val (.int i0), .val (.int i1), .val (.int i2), .val (.int i3), .val (.int n1), .val (.int r_2), .val (.int r_3), .val (.int r_4), .val (.ref b14), .val (.int (0 : Int32)), .val (.int (0 : Int32)), .val (.int (0 : Int32)), .unset] []))
        refine hG _ _ (fun t_ k_ => XS.iload X18.here hx rfl (hb hby at_197) rfl k_) ?_
        show G (T18.setTop (mkF m 199 #[.val (.int i0), .val (.int i1), .val (.int i2), .val (.int i3), .val (.int n1), .val (.int r_2), .val (.int r_3), .val (.int r_4), .val (.ref b14), .val (.int (0 : Int32)), .val (.int (0 : Int32)), .val (.int (0 : Int32)), .unset] [(.int (0 : Int32))]))
        refine hG _ _ (fun t_ k_ => XS.ifNo X18.here hx rfl (hb hby at_199) rfl ((if0 _ _).trans (teq (by decide)).2) k_) ?_
        show G (T18.setTop (mkF m 202 #[.val (.int i0), .val (.int i1), .val (.int i2), .val (.int i3), .val (.int n1), .val (.int r_2), .val (.int r_3), .val (.int r_4), .val (.ref b14), .val (.int (0 : Int32)), .val (.int (0 : Int32)), .val (.int (0 : Int32)), .unset] []))
        refine hG _ _ (fun t_ k_ => XS.iconst X18.here hx rfl (hb hby at_202) k_) ?_
        show G (T18.setTop (mkF m 203 #[.val (.int i0), .val (.int i1), .val (.int i2), .val (.int i3), .val (.int n1), .val (.int r_2), .val (.int r_3), .val (.int r_4), .val (.ref b14), .val (.int (0 : Int32)), .val (.int (0 : Int32)), .val (.int (0 : Int32)), .unset] [(.int (1 : Int32))]))
        refine hG _ _ (fun t_ k_ => XS.goto X18.here hx rfl (pc0 := 203) (pc' := 207) rfl (hb hby at_203) (by decide) (by decide) k_) ?_
        show G (T18.setTop (mkF m 207 #[.val (.int i0), .val (.int i1), .val (.int i2), .val (.int i3), .val (.int n1), .val (.int r_2), .val (.int r_3), .val (.int r_4), .val (.ref b14), .val (.int (0 : Int32)), .val (.int (0 : Int32)), .val (.int (0 : Int32)), .unset] [(.int (1 : Int32))]))
        refine hG _ _ (fun t_ k_ => XS.istore X18.here hx rfl (hb hby at_207) rfl (l' := #[.val (.int i0), .val (.int i1), .val (.int i2), .val (.int i3), .val (.int n1), .val (.int r_2), .val (.int r_3), .val (.int r_4), .val (.ref b14), .val (.int (0 : Int32)), .val (.int (0 : Int32)), .val (.int (0 : Int32)), .val (.int (1 : Int32))]) rfl k_) ?_
        show G (T18.setTop (mkF m 209 #[.val (.int i0), .val (.int i1), .val (.int i2), .val (.int i3), .val (.int n1), .val (.int r_2), .val (.int r_3), .val (.int r_4), .val (.ref b14), .val (.int (0 : Int32)), .val (.int (0 : Int32)), .val (.int (0 : Int32)), .val (.int (1 : Int32))] []))
        refine hG _ _ (fun t_ k_ => XS.aload X18.here hx rfl (hb hby at_209) rfl rfl k_) ?_
        show G (T18.setTop (mkF m 211 #[.val (.int i0), .val (.int i1), .val (.int i2), .val (.int i3), .val (.int n1), .val (.int r_2), .val (.int r_3), .val (.int r_4), .val (.ref b14), .val (.int (0 : Int32)), .val (.int (0 : Int32)), .val (.int (0 : Int32)), .val (.int (1 : Int32))] [(.ref b14)]))
        refine own_callS X18 hx hZ hG hown (hw _ (List.mem_of_getElem? (i := 27) rfl)) (hw _ (List.mem_of_getElem? (i := 28) rfl)) (hw _ (List.mem_of_getElem? (i := 29) rfl)) (hw _ (List.mem_of_getElem? (i := 30) rfl)) (by decide) 0 (own_ccT l Z a0 hw b14 t_18 kt_18 [r_2] cd_18 nb_18 vs_18 cpt fmt h18 O18 r18_0 r18_1 r18_2 r18_3 r18_4 (Nat.le_of_ble_eq_true rfl) (own_allc r2_0 own_alln) g0_S g1_hcpt g2_S g3_S g4_S g5_hfmt g6_S (own_allc hc137_23 own_alln)) (by decide) (by decide) e18 (by rw [hml]; rfl) (lenOf own_pd19 rfl) (argsL := [(.ref b14)]) (rest := []) rfl rfl (Nat.le_of_eq rfl) (hb hby at_211) (by decide) (by decide) ?_
        intro T25 h25 v25 L25 X25 e25 q25
        obtain ⟨rfl, M25, rfl⟩ := q25
        have N25 := Fr.app N18 M25
        show G (T25.setTop (mkF m 214 #[.val (.int i0), .val (.int i1), .val (.int i2), .val (.int i3), .val (.int n1), .val (.int r_2), .val (.int r_3), .val (.int r_4), .val (.ref b14), .val (.int (0 : Int32)), .val (.int (0 : Int32)), .val (.int (0 : Int32)), .val (.int (1 : Int32))] [(.int (1 : Int32))]))
        refine hG _ _ (fun t_ k_ => XS.iload X25.here hx rfl (hb hby at_214) rfl k_) ?_
        show G (T25.setTop (mkF m 216 #[.val (.int i0), .val (.int i1), .val (.int i2), .val (.int i3), .val (.int n1), .val (.int r_2), .val (.int r_3), .val (.int r_4), .val (.ref b14), .val (.int (0 : Int32)), .val (.int (0 : Int32)), .val (.int (0 : Int32)), .val (.int (1 : Int32))] [(.int (1 : Int32)), (.int (1 : Int32))]))
        refine hG _ _ (fun t_ k_ => XS.icmpNo X25.here hx rfl (hb hby at_216) rfl (teq (by decide)).2 k_) ?_
        show G (T25.setTop (mkF m 219 #[.val (.int i0), .val (.int i1), .val (.int i2), .val (.int i3), .val (.int n1), .val (.int r_2), .val (.int r_3), .val (.int r_4), .val (.ref b14), .val (.int (0 : Int32)), .val (.int (0 : Int32)), .val (.int (0 : Int32)), .val (.int (1 : Int32))] []))
        refine hG _ _ (fun t_ k_ => XS.iconst X25.here hx rfl (hb hby at_219) k_) ?_
        show G (T25.setTop (mkF m 220 #[.val (.int i0), .val (.int i1), .val (.int i2), .val (.int i3), .val (.int n1), .val (.int r_2), .val (.int r_3), .val (.int r_4), .val (.ref b14), .val (.int (0 : Int32)), .val (.int (0 : Int32)), .val (.int (0 : Int32)), .val (.int (1 : Int32))] [(.int (1 : Int32))]))
        refine hG _ _ (fun t_ k_ => XS.goto X25.here hx rfl (pc0 := 220) (pc' := 224) rfl (hb hby at_220) (by decide) (by decide) k_) ?_
        show G (T25.setTop (mkF m 224 #[.val (.int i0), .val (.int i1), .val (.int i2), .val (.int i3), .val (.int n1), .val (.int r_2), .val (.int r_3), .val (.int r_4), .val (.ref b14), .val (.int (0 : Int32)), .val (.int (0 : Int32)), .val (.int (0 : Int32)), .val (.int (1 : Int32))] [(.int (1 : Int32))]))
        exact own_retNW hR hret (by simp) X25 hx (hb hby at_224) e25 SI0 (Nat.le_trans (Nat.le_trans (Nat.le_trans (Nat.le_trans (Nat.le_refl _) R14.2.1) R15.2.1) R16.2.1) R18.2.1) hZ C18 (by decide) (by decide) ⟨rfl, N25, K18⟩
    · skip
      refine hG _ _ (fun t_ k_ => XS.icmpYes X4.here hx rfl (pc0 := 46) (pc' := 69) rfl (hb hby at_46) rfl (feq hc46_13).2 (by decide) (by decide) k_) ?_
      show G (T4.setTop (mkF m 69 #[.val (.int i0), .val (.int i1), .val (.int i2), .val (.int i3), .val (.int n1), .val (.int r_2), .val (.int r_3), .val (.int r_4), .unset, .unset, .unset, .unset, .unset] []))
      refine hG _ _ (fun t_ k_ => XS.iload X4.here hx rfl (hb hby at_69) rfl k_) ?_
      show G (T4.setTop (mkF m 71 #[.val (.int i0), .val (.int i1), .val (.int i2), .val (.int i3), .val (.int n1), .val (.int r_2), .val (.int r_3), .val (.int r_4), .unset, .unset, .unset, .unset, .unset] [(.int n1)]))
      refine hG _ _ (fun t_ k_ => XS.iconst X4.here hx rfl (hb hby at_71) k_) ?_
      show G (T4.setTop (mkF m 72 #[.val (.int i0), .val (.int i1), .val (.int i2), .val (.int i3), .val (.int n1), .val (.int r_2), .val (.int r_3), .val (.int r_4), .unset, .unset, .unset, .unset, .unset] [(.int (2 : Int32)), (.int n1)]))
      by_cases hc72_26 : n1 = (2 : Int32)
      · skip
        refine hG _ _ (fun t_ k_ => XS.icmpNo X4.here hx rfl (hb hby at_72) rfl (teq hc72_26).2 k_) ?_
        show G (T4.setTop (mkF m 75 #[.val (.int i0), .val (.int i1), .val (.int i2), .val (.int i3), .val (.int n1), .val (.int r_2), .val (.int r_3), .val (.int r_4), .unset, .unset, .unset, .unset, .unset] []))
        obtain ⟨T27, h27, X27, e27, E27, A27, D27, -, st27⟩ := newO X4 hx hZ hown (hw _ (List.mem_of_getElem? (i := 5) rfl)) (hw _ (List.mem_of_getElem? (i := 6) rfl)) (hw _ (List.mem_of_getElem? (i := 7) rfl)) e4 (g := (mkF m 75 #[.val (.int i0), .val (.int i1), .val (.int i2), .val (.int i3), .val (.int n1), .val (.int r_2), .val (.int r_3), .val (.int r_4), .unset, .unset, .unset, .unset, .unset] [])) rfl (hb hby at_75) (by decide) (by decide)
        obtain ⟨b27, z27⟩ : ∃ z, z = h0.size := ⟨_, rfl⟩
        rw [← z27] at A27 D27 st27
        refine hG _ _ st27 ?_
        have R27 := (CHr.ext E27 H0)
        have C27 := (CHr.refl H0).trans R27
        have K27 : Keep h0 h27 [] := (Keep.refl h0 []).ext E27
        have O27 : own_Old Z h27 := O0.ext E27
        show G (T27.setTop (mkF m 78 #[.val (.int i0), .val (.int i1), .val (.int i2), .val (.int i3), .val (.int n1), .val (.int r_2), .val (.int r_3), .val (.int r_4), .unset, .unset, .unset, .unset, .unset] [(.ref b27)]))
        refine hG _ _ (fun t_ k_ => XS.dup X27.here hx rfl (hb hby at_78) rfl rfl k_) ?_
        show G (T27.setTop (mkF m 79 #[.val (.int i0), .val (.int i1), .val (.int i2), .val (.int i3), .val (.int n1), .val (.int r_2), .val (.int r_3), .val (.int r_4), .unset, .unset, .unset, .unset, .unset] [(.ref b27), (.ref b27)]))
        refine hG _ _ (fun t_ k_ => XS.iconst X27.here hx rfl (hb hby at_79) k_) ?_
        show G (T27.setTop (mkF m 80 #[.val (.int i0), .val (.int i1), .val (.int i2), .val (.int i3), .val (.int n1), .val (.int r_2), .val (.int r_3), .val (.int r_4), .unset, .unset, .unset, .unset, .unset] [(.int (2 : Int32)), (.ref b27), (.ref b27)]))
        obtain ⟨T28, h28, k28, X28, e28, E28, A28, st28⟩ := newP X27 hx hZ (hw _ (List.mem_of_getElem? (i := 8) rfl)) e27 (g := (mkF m 80 #[.val (.int i0), .val (.int i1), .val (.int i2), .val (.int i3), .val (.int n1), .val (.int r_2), .val (.int r_3), .val (.int r_4), .unset, .unset, .unset, .unset, .unset] [(.int (2 : Int32)), (.ref b27), (.ref b27)])) rfl (hb hby at_80) rfl (by decide) (cap := 2) (by decide) (by decide) (by decide) (by decide)
        obtain ⟨b28, z28⟩ : ∃ z, z = h27.size := ⟨_, rfl⟩
        rw [← z28] at A28 st28
        refine hG _ _ st28 ?_
        have R28 := (CHr.ext E28 R27.1)
        have C28 := C27.trans R28
        have K28 : Keep h0 h28 [] := K27.ext E28
        have O28 : own_Old Z h28 := O27.ext E28
        have V28 : Arv Z h28 b28 k28 .char (2 : Int32) [(.int (0 : Int32)), (.int (0 : Int32))] (.int (0 : Int32)) := (Arv.new A28 (by decide)).pad (pad_rep [] (.int (0 : Int32)) 2)
        show G (T28.setTop (mkF m 82 #[.val (.int i0), .val (.int i1), .val (.int i2), .val (.int i3), .val (.int n1), .val (.int r_2), .val (.int r_3), .val (.int r_4), .unset, .unset, .unset, .unset, .unset] [(.ref b28), (.ref b27), (.ref b27)]))
        refine hG _ _ (fun t_ k_ => XS.dup X28.here hx rfl (hb hby at_82) rfl rfl k_) ?_
        show G (T28.setTop (mkF m 83 #[.val (.int i0), .val (.int i1), .val (.int i2), .val (.int i3), .val (.int n1), .val (.int r_2), .val (.int r_3), .val (.int r_4), .unset, .unset, .unset, .unset, .unset] [(.ref b28), (.ref b28), (.ref b27), (.ref b27)]))
        refine hG _ _ (fun t_ k_ => XS.iconst X28.here hx rfl (hb hby at_83) k_) ?_
        show G (T28.setTop (mkF m 84 #[.val (.int i0), .val (.int i1), .val (.int i2), .val (.int i3), .val (.int n1), .val (.int r_2), .val (.int r_3), .val (.int r_4), .unset, .unset, .unset, .unset, .unset] [(.int (0 : Int32)), (.ref b28), (.ref b28), (.ref b27), (.ref b27)]))
        refine hG _ _ (fun t_ k_ => XS.iload X28.here hx rfl (hb hby at_84) rfl k_) ?_
        show G (T28.setTop (mkF m 86 #[.val (.int i0), .val (.int i1), .val (.int i2), .val (.int i3), .val (.int n1), .val (.int r_2), .val (.int r_3), .val (.int r_4), .unset, .unset, .unset, .unset, .unset] [(.int r_2), (.int (0 : Int32)), (.ref b28), (.ref b28), (.ref b27), (.ref b27)]))
        obtain ⟨c29, Ar29, q29, S29, M29, H29, G29⟩ := id V28
        obtain ⟨T29, h29, X29, e29, W29, st29⟩ := stC X28 hx hZ e28 Ar29 (j := (0 : Int32)) (inb_of S29 ⟨by decide, by decide⟩) (g := (mkF m 86 #[.val (.int i0), .val (.int i1), .val (.int i2), .val (.int i3), .val (.int n1), .val (.int r_2), .val (.int r_3), .val (.int r_4), .unset, .unset, .unset, .unset, .unset] [(.int r_2), (.int (0 : Int32)), (.ref b28), (.ref b28), (.ref b27), (.ref b27)])) rfl rfl (hb hby at_86)
        refine hG _ _ st29 ?_
        have sf30 : Safe Z consts_1 _ h28 b28 := (own_safeArv hZ.alike V28 (by decide))
        have R29 := (CHr.wr W29 sf30 R28.1)
        have C29 := C28.trans R29
        have K29 : Keep h0 h29 [] := K28.wr W29 (Or.inr (Nat.le_trans K27.1 (Nat.le_of_eq z28.symm)))
        have O29 : own_Old Z h29 := O28.wr W29 (own_ge O27 (Nat.le_of_eq z28.symm))
        rw [own_narC r2_0] at W29
        have V29 : Arv Z h29 b28 k28 .char (2 : Int32) [(.int r_2), (.int (0 : Int32))] (.int (0 : Int32)) := Arv.set Ar29 q29 S29 M29 H29 G29 (own_fitC r2_0) W29 0 rfl (Nat.le_of_ble_eq_true rfl)
        have N29 := Fr.snoc X29 N4 (own_ge O27 (Nat.le_of_eq z28.symm))
        show G (T29.setTop (mkF m 87 #[.val (.int i0), .val (.int i1), .val (.int i2), .val (.int i3), .val (.int n1), .val (.int r_2), .val (.int r_3), .val (.int r_4), .unset, .unset, .unset, .unset, .unset] [(.ref b28), (.ref b27), (.ref b27)]))
        refine hG _ _ (fun t_ k_ => XS.dup X29.here hx rfl (hb hby at_87) rfl rfl k_) ?_
        show G (T29.setTop (mkF m 88 #[.val (.int i0), .val (.int i1), .val (.int i2), .val (.int i3), .val (.int n1), .val (.int r_2), .val (.int r_3), .val (.int r_4), .unset, .unset, .unset, .unset, .unset] [(.ref b28), (.ref b28), (.ref b27), (.ref b27)]))
        refine hG _ _ (fun t_ k_ => XS.iconst X29.here hx rfl (hb hby at_88) k_) ?_
        show G (T29.setTop (mkF m 89 #[.val (.int i0), .val (.int i1), .val (.int i2), .val (.int i3), .val (.int n1), .val (.int r_2), .val (.int r_3), .val (.int r_4), .unset, .unset, .unset, .unset, .unset] [(.int (1 : Int32)), (.ref b28), (.ref b28), (.ref b27), (.ref b27)]))
        refine hG _ _ (fun t_ k_ => XS.iload X29.here hx rfl (hb hby at_89) rfl k_) ?_
        show G (T29.setTop (mkF m 91 #[.val (.int i0), .val (.int i1), .val (.int i2), .val (.int i3), .val (.int n1), .val (.int r_2), .val (.int r_3), .val (.int r_4), .unset, .unset, .unset, .unset, .unset] [(.int r_3), (.int (1 : Int32)), (.ref b28), (.ref b28), (.ref b27), (.ref b27)]))
        obtain ⟨c31, Ar31, q31, S31, M31, H31, G31⟩ := id V29
        obtain ⟨T31, h31, X31, e31, W31, st31⟩ := stC X29 hx hZ e29 Ar31 (j := (1 : Int32)) (inb_of S31 ⟨by decide, by decide⟩) (g := (mkF m 91 #[.val (.int i0), .val (.int i1), .val (.int i2), .val (.int i3), .val (.int n1), .val (.int r_2), .val (.int r_3), .val (.int r_4), .unset, .unset, .unset, .unset, .unset] [(.int r_3), (.int (1 : Int32)), (.ref b28), (.ref b28), (.ref b27), (.ref b27)])) rfl rfl (hb hby at_91)
        refine hG _ _ st31 ?_
        have sf32 := (R29.safe V28.lt sf30)
        have R31 := (CHr.wr W31 sf32 R29.1)
        have C31 := C29.trans R31
        have K31 : Keep h0 h31 [] := K29.wr W31 (Or.inr (Nat.le_trans K27.1 (Nat.le_of_eq z28.symm)))
        have O31 : own_Old Z h31 := O29.wr W31 (own_ge O27 (Nat.le_of_eq z28.symm))
        rw [own_narC r3_0] at W31
        have V31 : Arv Z h31 b28 k28 .char (2 : Int32) [(.int r_2), (.int r_3)] (.int (0 : Int32)) := Arv.set Ar31 q31 S31 M31 H31 G31 (own_fitC r3_0) W31 1 rfl (Nat.le_of_ble_eq_true rfl)
        have N31 := Fr.snoc X31 N29 (own_ge O27 (Nat.le_of_eq z28.symm))
        show G (T31.setTop (mkF m 92 #[.val (.int i0), .val (.int i1), .val (.int i2), .val (.int i3), .val (.int n1), .val (.int r_2), .val (.int r_3), .val (.int r_4), .unset, .unset, .unset, .unset, .unset] [(.ref b28), (.ref b27), (.ref b27)]))
        have f34 := (((A27.ext E28).wr W29).wr W31)
        have f35 := ((((D27 (Or.inr (hw _ (List.mem_of_getElem? (i := 22) rfl))) (ty := .byte) (by decide)).ext E28).other W29 (Or.inl (own_ne A27.lt (Nat.le_of_eq z28.symm)))).other W31 (Or.inl (own_ne A27.lt (Nat.le_of_eq z28.symm))))
        have f36 := ((((D27 (Or.inr (hw _ (List.mem_of_getElem? (i := 21) rfl))) (ty := (.array .byte)) (by decide)).ext E28).other W29 (Or.inl (own_ne A27.lt (Nat.le_of_eq z28.symm)))).other W31 (Or.inl (own_ne A27.lt (Nat.le_of_eq z28.symm))))
        refine own_callI X31 hx hZ hG hown rfl (hw _ (List.mem_of_getElem? (i := 9) rfl)) (hw _ (List.mem_of_getElem? (i := 10) rfl)) (hw _ (List.mem_of_getElem? (i := 7) rfl)) (hw _ (List.mem_of_getElem? (i := 11) rfl)) (by decide) 1 (own_gstr1 l Z a0 hw b27 b28 k28 [r_2, r_3] cpt (.int (0 : Int32)) .null h31 O31 f34 f35 f36 (own_ge O0 (Nat.le_of_eq z27.symm)) V31 (Nat.le_of_ble_eq_true rfl) (Nat.le_of_ble_eq_true rfl) (own_allc r2_0 (own_allc r3_0 own_alln)) g0_S g1_hcpt g2_S g3_S g4_S) (by decide) (by decide) e31 (by rw [hml]; rfl) (lenOf own_pd8 rfl) (argsL := [(.ref b28)]) (rest := [(.ref b27)]) rfl rfl (Nat.le_of_eq rfl) (hb hby at_92) (by decide) (by decide) ?_
        intro T33 h33 v33 L33 X33 e33 q33
        obtain ⟨t_33, kt_33, cd_33, nb_33, vs_33, rfl, M33, J33, y33_0, r33_0, r33_1, r33_2, r33_3, r33_4⟩ := q33
        have N33 := Fr.app N31 M33
        have sf37 : Safe Z consts_1 _ h31 b27 := (own_safeStr hZ.alike f34 f36)
        have R33 := (CHr.keep J33 (allS sf37 all0) R31.1)
        have C33 := C31.trans R33
        have K33 : Keep h0 h33 [] := K31.trans J33 (allS (Or.inr (Nat.le_trans (Keep.refl h0 []).1 (Nat.le_of_eq z27.symm))) all0)
        have O33 : own_Old Z h33 := O31.keep J33 (allS (own_ge O0 (Nat.le_of_eq z27.symm)) all0)
        show G (T33.setTop (mkF m 95 #[.val (.int i0), .val (.int i1), .val (.int i2), .val (.int i3), .val (.int n1), .val (.int r_2), .val (.int r_3), .val (.int r_4), .unset, .unset, .unset, .unset, .unset] [(.ref b27)]))
        refine hG _ _ (fun t_ k_ => XS.astore X33.here hx rfl (hb hby at_95) rfl rfl (l' := #[.val (.int i0), .val (.int i1), .val (.int i2), .val (.int i3), .val (.int n1), .val (.int r_2), .val (.int r_3), .val (.int r_4), .val (.ref b27), .unset, .unset, .unset, .unset]) rfl k_) ?_
        show G (T33.setTop (mkF m 97 #[.val (.int i0), .val (.int i1), .val (.int i2), .val (.int i3), .val (.int n1), .val (.int r_2), .val (.int r_3), .val (.int r_4), .val (.ref b27), .unset, .unset, .unset, .unset] []))
        refine hG _ _ (fun t_ k_ => XS.goto X33.here hx rfl (pc0 := 97) (pc' := 127) rfl (hb hby at_97) (by decide) (by decide) k_) ?_
        show G (T33.setTop (mkF m 127 #[.val (.int i0), .val (.int i1), .val (.int i2), .val (.int i3), .val (.int n1), .val (.int r_2), .val (.int r_3), .val (.int r_4), .val (.ref b27), .unset, .unset, .unset, .unset] []))
        have hnL : n1 = (2 : Int32) := hc72_26
        show G (T33.setTop (mkF m 127 #[.val (.int i0), .val (.int i1), .val (.int i2), .val (.int i3), .val (.int n1), .val (.int r_2), .val (.int r_3), .val (.int r_4), .val (.ref b27), .unset, .unset, .unset, .unset] []))
        refine hG _ _ (fun t_ k_ => XS.iload X33.here hx rfl (hb hby at_127) rfl k_) ?_
        show G (T33.setTop (mkF m 129 #[.val (.int i0), .val (.int i1), .val (.int i2), .val (.int i3), .val (.int n1), .val (.int r_2), .val (.int r_3), .val (.int r_4), .val (.ref b27), .unset, .unset, .unset, .unset] [(.int n1)]))
        refine hG _ _ (fun t_ k_ => XS.iconst X33.here hx rfl (hb hby at_129) k_) ?_
        show G (T33.setTop (mkF m 130 #[.val (.int i0), .val (.int i1), .val (.int i2), .val (.int i3), .val (.int n1), .val (.int r_2), .val (.int r_3), .val (.int r_4), .val (.ref b27), .unset, .unset, .unset, .unset] [(.int (1 : Int32)), (.int n1)]))
        refine hG _ _ (fun t_ k_ => XS.icmpNo X33.here hx rfl (hb hby at_130) rfl (flt (by rw [hnL]; decide)).1 k_) ?_
        show G (T33.setTop (mkF m 133 #[.val (.int i0), .val (.int i1), .val (.int i2), .val (.int i3), .val (.int n1), .val (.int r_2), .val (.int r_3), .val (.int r_4), .val (.ref b27), .unset, .unset, .unset, .unset] []))
        refine hG _ _ (fun t_ k_ => XS.iload X33.here hx rfl (hb hby at_133) rfl k_) ?_
        show G (T33.setTop (mkF m 135 #[.val (.int i0), .val (.int i1), .val (.int i2), .val (.int i3), .val (.int n1), .val (.int r_2), .val (.int r_3), .val (.int r_4), .val (.ref b27), .unset, .unset, .unset, .unset] [(.int r_2)]))
        refine hG _ _ (fun t_ k_ => XS.bipush X33.here hx rfl (hb hby at_135) k_) ?_
        show G (T33.setTop (mkF m 137 #[.val (.int i0), .val (.int i1), .val (.int i2), .val (.int i3), .val (.int n1), .val (.int r_2), .val (.int r_3), .val (.int r_4), .val (.ref b27), .unset, .unset, .unset, .unset] [(.int (58 : Int32)), (.int r_2)]))
        by_cases hc137_38 : r_2 = (58 : Int32)
        · skip
          refine hG _ _ (fun t_ k_ => XS.icmpNo X33.here hx rfl (hb hby at_137) rfl (teq hc137_38).2 k_) ?_
          show G (T33.setTop (mkF m 140 #[.val (.int i0), .val (.int i1), .val (.int i2), .val (.int i3), .val (.int n1), .val (.int r_2), .val (.int r_3), .val (.int r_4), .val (.ref b27), .unset, .unset, .unset, .unset] []))
          refine hG _ _ (fun t_ k_ => XS.iconst X33.here hx rfl (hb hby at_140) k_) ?_
          show G (T33.setTop (mkF m 141 #[.val (.int i0), .val (.int i1), .val (.int i2), .val (.int i3), .val (.int n1), .val (.int r_2), .val (.int r_3), .val (.int r_4), .val (.ref b27), .unset, .unset, .unset, .unset] [(.int (1 : Int32))]))
          refine hG _ _ (fun t_ k_ => XS.goto X33.here hx rfl (pc0 := 141) (pc' := 145) rfl (hb hby at_141) (by decide) (by decide) k_) ?_
          show G (T33.setTop (mkF m 145 #[.val (.int i0), .val (.int i1), .val (.int i2), .val (.int i3), .val (.int n1), .val (.int r_2), .val (.int r_3), .val (.int r_4), .val (.ref b27), .unset, .unset, .unset, .unset] [(.int (1 : Int32))]))
          refine hG _ _ (fun t_ k_ => XS.istore X33.here hx rfl (hb hby at_145) rfl (l' := #[.val (.int i0), .val (.int i1), .val (.int i2), .val (.int i3), .val (.int n1), .val (.int r_2), .val (.int r_3), .val (.int r_4), .val (.ref b27), .val (.int (1 : Int32)), .unset, .unset, .unset]) rfl k_) ?_
          show G (T33.setTop (mkF m 147 #[.val (.int i0), .val (.int i1), .val (.int i2), .val (.int i3), .val (.int n1), .val (.int r_2), .val (.int r_3), .val (.int r_4), .val (.ref b27), .val (.int (1 : Int32)), .unset, .unset, .unset] []))
          refine hG _ _ (fun t_ k_ => XS.iload X33.here hx rfl (hb hby at_147) rfl k_) ?_
          show G (T33.setTop (mkF m 149 #[.val (.int i0), .val (.int i1), .val (.int i2), .val (.int i3), .val (.int n1), .val (.int r_2), .val (.int r_3), .val (.int r_4), .val (.ref b27), .val (.int (1 : Int32)), .unset, .unset, .unset] [(.int n1)]))
          refine hG _ _ (fun t_ k_ => XS.iconst X33.here hx rfl (hb hby at_149) k_) ?_
          show G (T33.setTop (mkF m 150 #[.val (.int i0), .val (.int i1), .val (.int i2), .val (.int i3), .val (.int n1), .val (.int r_2), .val (.int r_3), .val (.int r_4), .val (.ref b27), .val (.int (1 : Int32)), .unset, .unset, .unset] [(.int (2 : Int32)), (.int n1)]))
          refine hG _ _ (fun t_ k_ => XS.icmpNo X33.here hx rfl (hb hby at_150) rfl (flt (by rw [hnL]; decide)).1 k_) ?_
          show G (T33.setTop (mkF m 153 #[.val (.int i0), .val (.int i1), .val (.int i2), .val (.int i3), .val (.int n1), .val (.int r_2), .val (.int r_3), .val (.int r_4), .val (.ref b27), .val (.int (1 : Int32)), .unset, .unset, .unset] []))
          refine hG _ _ (fun t_ k_ => XS.iload X33.here hx rfl (hb hby at_153) rfl k_) ?_
          show G (T33.setTop (mkF m 155 #[.val (.int i0), .val (.int i1), .val (.int i2), .val (.int i3), .val (.int n1), .val (.int r_2), .val (.int r_3), .val (.int r_4), .val (.ref b27), .val (.int (1 : Int32)), .unset, .unset, .unset] [(.int r_3)]))
          refine hG _ _ (fun t_ k_ => XS.bipush X33.here hx rfl (hb hby at_155) k_) ?_
          show G (T33.setTop (mkF m 157 #[.val (.int i0), .val (.int i1), .val (.int i2), .val (.int i3), .val (.int n1), .val (.int r_2), .val (.int r_3), .val (.int r_4), .val (.ref b27), .val (.int (1 : Int32)), .unset, .unset, .unset] [(.int (58 : Int32)), (.int r_3)]))
          by_cases hc157_39 : r_3 = (58 : Int32)
          · skip
            refine hG _ _ (fun t_ k_ => XS.icmpNo X33.here hx rfl (hb hby at_157) rfl (teq hc157_39).2 k_) ?_
            show G (T33.setTop (mkF m 160 #[.val (.int i0), .val (.int i1), .val (.int i2), .val (.int i3), .val (.int n1), .val (.int r_2), .val (.int r_3), .val (.int r_4), .val (.ref b27), .val (.int (1 : Int32)), .unset, .unset, .unset] []))
            refine hG _ _ (fun t_ k_ => XS.iconst X33.here hx rfl (hb hby at_160) k_) ?_
            show G (T33.setTop (mkF m 161 #[.val (.int i0), .val (.int i1), .val (.int i2), .val (.int i3), .val (.int n1), .val (.int r_2), .val (.int r_3), .val (.int r_4), .val (.ref b27), .val (.int (1 : Int32)), .unset, .unset, .unset] [(.int (1 : Int32))]))
            refine hG _ _ (fun t_ k_ => XS.goto X33.here hx rfl (pc0 := 161) (pc' := 165) rfl (hb hby at_161) (by decide) (by decide) k_) ?_
            show G (T33.setTop (mkF m 165 #[.val (.int i0), .val (.int i1), .val (.int i2), .val (.int i3), .val (.int n1), .val (.int r_2), .val (.int r_3), .val (.int r_4), .val (.ref b27), .val (.int (1 : Int32)), .unset, .unset, .unset] [(.int (1 : Int32))]))
            refine hG _ _ (fun t_ k_ => XS.istore X33.here hx rfl (hb hby at_165) rfl (l' := #[.val (.int i0), .val (.int i1), .val (.int i2), .val (.int i3), .val (.int n1), .val (.int r_2), .val (.int r_3), .val (.int r_4), .val (.ref b27), .val (.int (1 : Int32)), .val (.int (1 : Int32)), .unset, .unset]) rfl k_) ?_
            show G (T33.setTop (mkF m 167 #[.val (.int i0), .val (.int i1), .val (.int i2), .val (.int i3), .val (.int n1), .val (.int r_2), .val (.int r_3), .val (.int r_4), .val (.ref b27), .val (.int (1 : Int32)), .val (.int (1 : Int32)), .unset, .unset] []))
            refine hG _ _ (fun t_ k_ => XS.iload X33.here hx rfl (hb hby at_167) rfl k_) ?_
            show G (T33.setTop (mkF m 169 #[.val (.int i0), .val (.int i1), .val (.int i2), .val (.int i3), .val (.int n1), .val (.int r_2), .val (.int r_3), .val (.int r_4), .val (.ref b27), .val (.int (1 : Int32)), .val (.int (1 : Int32)), .unset, .unset] [(.int n1)]))
            refine hG _ _ (fun t_ k_ => XS.iconst X33.here hx rfl (hb hby at_169) k_) ?_
            show G (T33.setTop (mkF m 170 #[.val (.int i0), .val (.int i1), .val (.int i2), .val (.int i3), .val (.int n1), .val (.int r_2), .val (.int r_3), .val (.int r_4), .val (.ref b27), .val (.int (1 : Int32)), .val (.int (1 : Int32)), .unset, .unset] [(.int (3 : Int32)), (.int n1)]))
            refine hG _ _ (fun t_ k_ => XS.icmpYes X33.here hx rfl (pc0 := 170) (pc' := 184) rfl (hb hby at_170) rfl (tlt (by rw [hnL]; decide)).1 (by decide) (by decide) k_) ?_
            show G (T33.setTop (mkF m 184 #[.val (.int i0), .val (.int i1), .val (.int i2), .val (.int i3), .val (.int n1), .val (.int r_2), .val (.int r_3), .val (.int r_4), .val (.ref b27), .val (.int (1 : Int32)), .val (.int (1 : Int32)), .unset, .unset] []))
            refine hG _ _ (fun t_ k_ => XS.iconst X33.here hx rfl (hb hby at_184) k_) ?_
            show G (T33.setTop (mkF m 185 #[.val (.int i0), .val (.int i1), .val (.int i2), .val (.int i3), .val (.int n1), .val (.int r_2), .val (.int r_3), .val (.int r_4), .val (.ref b27), .val (.int (1 : Int32)), .val (.int (1 : Int32)), .unset, .unset] [(.int (0 : Int32))]))
            refine hG _ _ (fun t_ k_ => XS.istore X33.here hx rfl (hb hby at_185) rfl (l' := #[.val (.int i0), .val (.int i1), .val (.int i2), .val (.int i3), .val (.int n1), .val (.int r_2), .val (.int r_3), .val (.int r_4), .val (.ref b27), .val (.int (1 : Int32)), .val (.int (1 : Int32)), .val (.int (0 : Int32)), .unset]) rfl k_) ?_
            show G (T33.setTop (mkF m 187 #[.val (.int i0), .val (.int i1), .val (.int i2), .val (.int i3), .val (.int n1), .val (.int r_2), .val (.int r_3), .val (.int r_4), .val (.ref b27), .val (.int (1 : Int32)), .val (.int (1 : Int32)), .val (.int (0 : Int32)), .unset] []))
            refine hG _ _ (fun t_ k_ => XS.iload X33.here hx rfl (hb hby at_187) rfl k_) ?_
            show G (T33.setTop (mkF m 189 #[.val (.int i0), .val (.int i1), .val (.int i2), .val (.int i3), .val (.int n1), .val (.int r_2), .val (.int r_3), .val (.int r_4), .val (.ref b27), .val (.int (1 : Int32)), .val (.int (1 : Int32)), .val (.int (0 : Int32)), .unset] [(.int (1 : Int32))]))
            refine hG _ _ (fun t_ k_ => XS.ifYes X33.here hx rfl (pc0 := 189) (pc' := 206) rfl (hb hby at_189) rfl ((if0 _ _).trans (feq (by decide)).2) (by decide) (by decide) k_) ?_
            show G (T33.setTop (mkF m 206 #[.val (.int i0), .val (.int i1), .val (.int i2), .val (.int i3), .val (.int n1), .val (.int r_2), .val (.int r_3), .val (.int r_4), .val (.ref b27), .val (.int (1 : Int32)), .val (.int (1 : Int32)), .val (.int (0 : Int32)), .unset] []))
            refine hG _ _ (fun t_ k_ => XS.iconst X33.here hx rfl (hb hby at_206) k_) ?_
            show G (T33.setTop (mkF m 207 #[.val (.int i0), .val (.int i1), .val (.int i2), .val (.int i3), .val (.int n1), .val (.int r_2), .val (.int r_3), .val (.int r_4), .val (.ref b27), .val (.int (1 : Int32)), .val (.int (1 : Int32)), .val (.int (0 : Int32)), .unset] [(.int (0 : Int32))]))
            refine hG _ _ (fun t_ k_ => XS.istore X33.here hx rfl (hb hby at_207) rfl (l' := #[.val (.int i0), .val (.int i1), .val (.int i2), .val (.int i3), .val (.int n1), .val (.int r_2), .val (.int r_3), .val (.int r_4), .val (.ref b27), .val (.int (1 : Int32)), .val (.int (1 : Int32)), .val (.int (0 : Int32)), .val (.int (0 : Int32))]) rfl k_) ?_
            show G (T33.setTop (mkF m 209 #[.val (.int i0), .val (.int i1), .val (.int i2), .val (.int i3), .val (.int n1), .val (.int r_2), .val (.int r_3), .val (.int r_4), .val (.ref b27), .val (.int (1 : Int32)), .val (.int (1 : Int32)), .val (.int (0 : Int32)), .val (.int (0 : Int32))] []))
            refine hG _ _ (fun t_ k_ => XS.aload X33.here hx rfl (hb hby at_209) rfl rfl k_) ?_
            show G (T33.setTop (mkF m 211 #[.val (.int i0), .val (.int i1), .val (.int i2), .val (.int i3), .val (.int n1), .val (.int r_2), .val (.int r_3), .val (.int r_4), .val (.ref b27), .val (.int (1 : Int32)), .val (.int (1 : Int32)), .val (.int (0 : Int32)), .val (.int (0 : Int32))] [(.ref b27)]))
            refine own_callS X33 hx hZ hG hown (hw _ (List.mem_of_getElem? (i := 27) rfl)) (hw _ (List.mem_of_getElem? (i := 28) rfl)) (hw _ (List.mem_of_getElem? (i := 29) rfl)) (hw _ (List.mem_of_getElem? (i := 30) rfl)) (by decide) 0 (own_ccF l Z a0 hw b27 t_33 kt_33 [r_2, r_3] cd_33 nb_33 vs_33 cpt fmt h33 O33 r33_0 r33_1 r33_2 r33_3 r33_4 (Nat.le_of_ble_eq_true rfl) (own_allc r2_0 (own_allc r3_0 own_alln)) g0_S g1_hcpt g2_S g3_S g4_S g5_hfmt g6_S ⟨r_2, (List.mem_of_getElem? (i := 0) rfl), hc137_38⟩) (by decide) (by decide) e33 (by rw [hml]; rfl) (lenOf own_pd19 rfl) (argsL := [(.ref b27)]) (rest := []) rfl rfl (Nat.le_of_eq rfl) (hb hby at_211) (by decide) (by decide) ?_
            intro T40 h40 v40 L40 X40 e40 q40
            obtain ⟨rfl, M40, rfl⟩ := q40
            have N40 := Fr.app N33 M40
            show G (T40.setTop (mkF m 214 #[.val (.int i0), .val (.int i1), .val (.int i2), .val (.int i3), .val (.int n1), .val (.int r_2), .val (.int r_3), .val (.int r_4), .val (.ref b27), .val (.int (1 : Int32)), .val (.int (1 : Int32)), .val (.int (0 : Int32)), .val (.int (0 : Int32))] [(.int (0 : Int32))]))
            refine hG _ _ (fun t_ k_ => XS.iload X40.here hx rfl (hb hby at_214) rfl k_) ?_
            show G (T40.setTop (mkF m 216 #[.val (.int i0), .val (.int i1), .val (.int i2), .val (.int i3), .val (.int n1), .val (.int r_2), .val (.int r_3), .val (.int r_4), .val (.ref b27), .val (.int (1 : Int32)), .val (.int (1 : Int32)), .val (.int (0 : Int32)), .val (.int (0 : Int32))] [(.int (0 : Int32)), (.int (0 : Int32))]))
            refine hG _ _ (fun t_ k_ => XS.icmpNo X40.here hx rfl (hb hby at_216) rfl (teq (by decide)).2 k_) ?_
            show G (T40.setTop (mkF m 219 #[.val (.int i0), .val (.int i1), .val (.int i2), .val (.int i3), .val (.int n1), .val (.int r_2), .val (.int r_3), .val (.int r_4), .val (.ref b27), .val (.int (1 : Int32)), .val (.int (1 : Int32)), .val (.int (0 : Int32)), .val (.int (0 : Int32))] []))
            refine hG _ _ (fun t_ k_ => XS.iconst X40.here hx rfl (hb hby at_219) k_) ?_
            show G (T40.setTop (mkF m 220 #[.val (.int i0), .val (.int i1), .val (.int i2), .val (.int i3), .val (.int n1), .val (.int r_2), .val (.int r_3), .val (.int r_4), .val (.ref b27), .val (.int (1 : Int32)), .val (.int (1 : Int32)), .val (.int (0 : Int32)), .val (.int (0 : Int32))] [(.int (1 : Int32))]))
            refine hG _ _ (fun t_ k_ => XS.goto X40.here hx rfl (pc0 := 220) (pc' := 224) rfl (hb hby at_220) (by decide) (by decide) k_) ?_
            show G (T40.setTop (mkF m 224 #[.val (.int i0), .val (.int i1), .val (.int i2), .val (.int i3), .val (.int n1), .val (.int r_2), .val (.int r_3), .val (.int r_4), .val (.ref b27), .val (.int (1 : Int32)), .val (.int (1 : Int32)), .val (.int (0 : Int32)), .val (.int (0 : Int32))] [(.int (1 : Int32))]))
            exact own_retNW hR hret (by simp) X40 hx (hb hby at_224) e40 SI0 (Nat.le_trans (Nat.le_trans (Nat.le_trans (Nat.le_trans (Nat.le_trans (Nat.le_refl _) R27.2.1) R28.2.1) R29.2.1) R31.2.1) R33.2.1) hZ C33 (by decide) (by decide) ⟨rfl, N40, K33⟩
          · skip
            refine hG _ _ (fun t_ k_ => XS.icmpYes X33.here hx rfl (pc0 := 157) (pc' := 164) rfl (hb hby at_157) rfl (feq hc157_39).2 (by decide) (by decide) k_) ?_
            show G (T33.setTop (mkF m 164 #[.val (.int i0), .val (.int i1), .val (.int i2), .val (.int i3), .val (.int n1), .val (.int r_2), .val (.int r_3), .val (.int r_4), .val (.ref b27), .val (.int (1 : Int32)), .unset, .unset, .unset] []))
            refine hG _ _ (fun t_ k_ => XS.iconst X33.here hx rfl (hb hby at_164) k_) ?_
            show G (T33.setTop (mkF m 165 #[.val (.int i0), .val (.int i1), .val (.int i2), .val (.int i3), .val (.int n1), .val (.int r_2), .val (.int r_3), .val (.int r_4), .val (.ref b27), .val (.int (1 : Int32)), .unset, .unset, .unset] [(.int (0 : Int32))]))
            refine hG _ _ (fun t_ k_ => XS.istore X33.here hx rfl (hb hby at_165) rfl (l' := #[.val (.int i0), .val (.int i1), .val (.int i2), .val (.int i3), .val (.int n1), .val (.int r_2), .val (.int r_3), .val (.int r_4), .val (.ref b27), .val (.int (1 : Int32)), .val (.int (0 : Int32)), .unset, .unset]) rfl k_) ?_
            show G (T33.setTop (mkF m 167 #[.val (.int i0), .val (.int i1), .val (.int i2), .val (.int i3), .val (.int n1), .val (.int r_2), .val (.int r_3), .val (.int r_4), .val (.ref b27), .val (.int (1 : Int32)), .val (.int (0 : Int32)), .unset, .unset] []))
            refine hG _ _ (fun t_ k_ => XS.iload X33.here hx rfl (hb hby at_167) rfl k_) ?_
            show G (T33.setTop (mkF m 169 #[.val (.int i0), .val (.int i1), .val (.int i2), .val (.int i3), .val (.int n1), .val (.int r_2), .val (.int r_3), .val (.int r_4), .val (.ref b27), .val (.int (1 : Int32)), .val (.int (0 : Int32)), .unset, .unset] [(.int n1)]))
            refine hG _ _ (fun t_ k_ => XS.iconst X33.here hx rfl (hb hby at_169) k_) ?_
            show G (T33.setTop (mkF m 170 #[.val (.int i0), .val (.int i1), .val (.int i2), .val (.int i3), .val (.int n1), .val (.int r_2), .val (.int r_3), .val (.int r_4), .val (.ref b27), .val (.int (1 : Int32)), .val (.int (0 : Int32)), .unset, .unset] [(.int (3 : Int32)), (.int n1)]))
            refine hG _ _ (fun t_ k_ => XS.icmpYes X33.here hx rfl (pc0 := 170) (pc' := 184) rfl (hb hby at_170) rfl (tlt (by rw [hnL]; decide)).1 (by decide) (by decide) k_) ?_
            show G (T33.setTop (mkF m 184 #[.val (.int i0), .val (.int i1), .val (.int i2), .val (.int i3), .val (.int n1), .val (.int r_2), .val (.int r_3), .val (.int r_4), .val (.ref b27), .val (.int (1 : Int32)), .val (.int (0 : Int32)), .unset, .unset] []))
            refine hG _ _ (fun t_ k_ => XS.iconst X33.here hx rfl (hb hby at_184) k_) ?_
            show G (T33.setTop (mkF m 185 #[.val (.int i0), .val (.int i1), .val (.int i2), .val (.int i3), .val (.int n1), .val (.int r_2), .val (.int r_3), .val (.int r_4), .val (.ref b27), .val (.int (1 : Int32)), .val (.int (0 : Int32)), .unset, .unset] [(.int (0 : Int32))]))
            refine hG _ _ (fun t_ k_ => XS.istore X33.here hx rfl (hb hby at_185) rfl (l' := #[.val (.int i0), .val (.int i1), .val (.int i2), .val (.int i3), .val (.int n1), .val (.int r_2), .val (.int r_3), .val (.int r_4), .val (.ref b27), .val (.int (1 : Int32)), .val (.int (0 : Int32)), .val (.int (0 : Int32)), .unset]) rfl k_) ?_
            show G (T33.setTop (mkF m 187 #[.val (.int i0), .val (.int i1), .val (.int i2), .val (.int i3), .val (.int n1), .val (.int r_2), .val (.int r_3), .val (.int r_4), .val (.ref b27), .val (.int (1 : Int32)), .val (.int (0 : Int32)), .val (.int (0 : Int32)), .unset] []))
            refine hG _ _ (fun t_ k_ => XS.iload X33.here hx rfl (hb hby at_187) rfl k_) ?_
            show G (T33.setTop (mkF m 189 #[.val (.int i0), .val (.int i1), .val (.int i2), .val (.int i3), .val (.int n1), .val (.int r_2), .val (.int r_3), .val (.int r_4), .val (.ref b27), .val (.int (1 : Int32)), .val (.int (0 : Int32)), .val (.int (0 : Int32)), .unset] [(.int (1 : Int32))]))
            refine hG _ _ (fun t_ k_ => XS.ifYes X33.here hx rfl (pc0 := 189) (pc' := 206) rfl (hb hby at_189) rfl ((if0 _ _).trans (feq (by decide)).2) (by decide) (by decide) k_) ?_
            show G (T33.setTop (mkF m 206 #[.val (.int i0), .val (.int i1), .val (.int i2), .val (.int i3), .val (.int n1), .val (.int r_2), .val (.int r_3), .val (.int r_4), .val (.ref b27), .val (.int (1 : Int32)), .val (.int (0 : Int32)), .val (.int (0 : Int32)), .unset] []))
            refine hG _ _ (fun t_ k_ => XS.iconst X33.here hx rfl (hb hby at_206) k_) ?_
            show G (T33.setTop (mkF m 207 #[.val (.int i0), .val (.int i1), .val (.int i2), .val (.int i3), .val (.int n1), .val (.int r_2), .val (.int r_3), .val (.int r_4), .val (.ref b27), .val (.int (1 : Int32)), .val (.int (0 : Int32)), .val (.int (0 : Int32)), .unset] [(.int (0 : Int32))]))
            refine hG _ _ (fun t_ k_ => XS.istore X33.here hx rfl (hb hby at_207) rfl (l' := #[.val (.int i0), .val (.int i1), .val (.int i2), .val (.int i3), .val (.int n1), .val (.int r_2), .val (.int r_3), .val (.int r_4), .val (.ref b27), .val (.int (1 : Int32)), .val (.int (0 : Int32)), .val (.int (0 : Int32)), .val (.int (0 : Int32))]) rfl k_) ?_
            show G (T33.setTop (mkF m 209 #[.val (.int i0), .val (.int i1), .val (.int i2), .val (.int i3), .val (.int n1), .val (.int r_2), .val (.int r_3), .val (.int r_4), .val (.ref b27), .val (.int (1 : Int32)), .val (.int (0 : Int32)), .val (.int (0 : Int32)), .val (.int (0 : Int32))] []))
            refine hG _ _ (fun t_ k_ => XS.aload X33.here hx rfl (hb hby at_209) rfl rfl k_) ?_
            show G (T33.setTop (mkF m 211 #[.val (.int i0), .val (.int i1), .val (.int i2), .val (.int i3), .val (.int n1), .val (.int r_2), .val (.int r_3), .val (.int r_4), .val (.ref b27), .val (.int (1 : Int32)), .val (.int (0 : Int32)), .val (.int (0 : Int32)), .val (.int (0 : Int32))] [(.ref b27)]))
            refine own_callS X33 hx hZ hG hown (hw _ (List.mem_of_getElem? (i := 27) rfl)) (hw _ (List.mem_of_getElem? (i := 28) rfl)) (hw _ (List.mem_of_getElem? (i := 29) rfl)) (hw _ (List.mem_of_getElem? (i := 30) rfl)) (by decide) 0 (own_ccF l Z a0 hw b27 t_33 kt_33 [r_2, r_3] cd_33 nb_33 vs_33 cpt fmt h33 O33 r33_0 r33_1 r33_2 r33_3 r33_4 (Nat.le_of_ble_eq_true rfl) (own_allc r2_0 (own_allc r3_0 own_alln)) g0_S g1_hcpt g2_S g3_S g4_S g5_hfmt g6_S ⟨r_2, (List.mem_of_getElem? (i := 0) rfl), hc137_38⟩) (by decide) (by decide) e33 (by rw [hml]; rfl) (lenOf own_pd19 rfl) (argsL := [(.ref b27)]) (rest := []) rfl rfl (Nat.le_of_eq rfl) (hb hby at_211) (by decide) (by decide) ?_
            intro T41 h41 v41 L41 X41 e41 q41
            obtain ⟨rfl, M41, rfl⟩ := q41
            have N41 := Fr.app N33 M41
            show G (T41.setTop (mkF m 214 #[.val (.int i0), .val (.int i1), .val (.int i2), .val (.int i3), .val (.int n1), .val (.int r_2), .val (.int r_3), .val (.int r_4), .val (.ref b27), .val (.int (1 : Int32)), .val (.int (0 : Int32)), .val (.int (0 : Int32)), .val (.int (0 : Int32))] [(.int (0 : Int32))]))
            refine hG _ _ (fun t_ k_ => XS.iload X41.here hx rfl (hb hby at_214) rfl k_) ?_
            show G (T41.setTop (mkF m 216 #[.val (.int i0), .val (.int i1), .val (.int i2), .val (.int i3), .val (.int n1), .val (.int r_2), .val (.int r_3), .val (.int r_4), .val (.ref b27), .val (.int (1 : Int32)), .val (.int (0 : Int32)), .val (.int (0 : Int32)), .val (.int (0 : Int32))] [(.int (0 : Int32)), (.int (0 : Int32))]))
            refine hG _ _ (fun t_ k_ => XS.icmpNo X41.here hx rfl (hb hby at_216) rfl (teq (by decide)).2 k_) ?_
            show G (T41.setTop (mkF m 219 #[.val (.int i0), .val (.int i1), .val (.int i2), .val (.int i3), .val (.int n1), .val (.int r_2), .val (.int r_3), .val (.int r_4), .val (.ref b27), .val (.int (1 : Int32)), .val (.int (0 : Int32)), .val (.int (0 : Int32)), .val (.int (0 : Int32))] []))
            refine hG _ _ (fun t_ k_ => XS.iconst X41.here hx rfl (hb hby at_219) k_) ?_
            show G (T41.setTop (mkF m 220 #[.val (.int i0), .val (.int i1), .val (.int i2), .val (.int i3), .val (.int n1), .val (.int r_2), .val (.int r_3), .val (.int r_4), .val (.ref b27), .val (.int (1 : Int32)), .val (.int (0 : Int32)), .val (.int (0 : Int32)), .val (.int (0 : Int32))] [(.int (1 : Int32))]))
            refine hG _ _ (fun t_ k_ => XS.goto X41.here hx rfl (pc0 := 220) (pc' := 224) rfl (hb hby at_220) (by decide) (by decide) k_) ?_
            show G (T41.setTop (mkF m 224 #[.val (.int i0), .val (.int i1), .val (.int i2), .val (.int i3), .val (.int n1), .val (.int r_2), .val (.int r_3), .val (.int r_4), .val (.ref b27), .val (.int (1 : Int32)), .val (.int (0 : Int32)), .val (.int (0 : Int32)), .val (.int (0 : Int32))] [(.int (1 : Int32))]))
            exact own_retNW hR hret (by simp) X41 hx (hb hby at_224) e41 SI0 (Nat.le_trans (Nat.le_trans (Nat.le_trans (Nat.le_trans (Nat.le_trans (Nat.le_refl _) R27.2.1) R28.2.1) R29.2.1) R31.2.1) R33.2.1) hZ C33 (by decide) (by decide) ⟨rfl, N41, K33⟩
        · skip
          refine hG _ _ (fun t_ k_ => XS.icmpYes X33.here hx rfl (pc0 := 137) (pc' := 144) rfl (hb hby at_137) rfl (feq hc137_38).2 (by decide) (by decide) k_) ?_
          show G (T33.setTop (mkF m 144 #[.val (.int i0), .val (.int i1), .val (.int i2), .val (.int i3), .val (.int n1), .val (.int r_2), .val (.int r_3), .val (.int r_4), .val (.ref b27), .unset, .unset, .unset, .unset] []))
          refine hG _ _ (fun t_ k_ => XS.iconst X33.here hx rfl (hb hby at_144) k_) ?_
          show G (T33.setTop (mkF m 145 #[.val (.int i0), .val (.int i1), .val (.int i2), .val (.int i3), .val (.int n1), .val (.int r_2), .val (.int r_3), .val (.int r_4), .val (.ref b27), .unset, .unset, .unset, .unset] [(.int (0 : Int32))]))
          refine hG _ _ (fun t_ k_ => XS.istore X33.here hx rfl (hb hby at_145) rfl (l' := #[.val (.int i0), .val (.int i1), .val (.int i2), .val (.int i3), .val (.int n1), .val (.int r_2), .val (.int r_3), .val (.int r_4), .val (.ref b27), .val (.int (0 : Int32)), .unset, .unset, .unset]) rfl k_) ?_
          show G (T33.setTop (mkF m 147 #[.val (.int i0), .val (.int i1), .val (.int i2), .val (.int i3), .val (.int n1), .val (.int r_2), .val (.int r_3), .val (.int r_4), .val (.ref b27), .val (.int (0 : Int32)), .unset, .unset, .unset] []))
          refine hG _ _ (fun t_ k_ => XS.iload X33.here hx rfl (hb hby at_147) rfl k_) ?_
          show G (T33.setTop (mkF m 149 #[.val (.int i0), .val (.int i1), .val (.int i2), .val (.int i3), .val (.int n1), .val (.int r_2), .val (.int r_3), .val (.int r_4), .val (.ref b27), .val (.int (0 : Int32)), .unset, .unset, .unset] [(.int n1)]))
          refine hG _ _ (fun t_ k_ => XS.iconst X33.here hx rfl (hb hby at_149) k_) ?_
          show G (T33.setTop (mkF m 150 #[.val (.int i0), .val (.int i1), .val (.int i2), .val (.int i3), .val (.int n1), .val (.int r_2), .val (.int r_3), .val (.int r_4), .val (.ref b27), .val (.int (0 : Int32)), .unset, .unset, .unset] [(.int (2 : Int32)), (.int n1)]))
          refine hG _ _ (fun t_ k_ => XS.icmpNo X33.here hx rfl (hb hby at_150) rfl (flt (by rw [hnL]; decide)).1 k_) ?_
          show G (T33.setTop (mkF m 153 #[.val (.int i0), .val (.int i1), .val (.int i2), .val (.int i3), .val (.int n1), .val (.int r_2), .val (.int r_3), .val (.int r_4), .val (.ref b27), .val (.int (0 : Int32)), .unset, .unset, .unset] []))
          refine hG _ _ (fun t_ k_ => XS.iload X33.here hx rfl (hb hby at_153) rfl k_) ?_
          show G (T33.setTop (mkF m 155 #[.val (.int i0), .val (.int i1), .val (.int i2), .val (.int i3), .val (.int n1), .val (.int r_2), .val (.int r_3), .val (.int r_4), .val (.ref b27), .val (.int (0 : Int32)), .unset, .unset, .unset] [(.int r_3)]))
          refine hG _ _ (fun t_ k_ => XS.bipush X33.here hx rfl (hb hby at_155) k_) ?_
          show G (T33.setTop (mkF m 157 #[.val (.int i0), .val (.int i1), .val (.int i2), .val (.int i3), .val (.int n1), .val (.int r_2), .val (.int r_3), .val (.int r_4), .val (.ref b27), .val (.int (0 : Int32)), .unset, .unset, .unset] [(.int (58 : Int32)), (.int r_3)]))
          by_cases hc157_42 : r_3 = (58 : Int32)
          · skip
            refine hG _ _ (fun t_ k_ => XS.icmpNo X33.here hx rfl (hb hby at_157) rfl (teq hc157_42).2 k_) ?_
            show G (T33.setTop (mkF m 160 #[.val (.int i0), .val (.int i1), .val (.int i2), .val (.int i3), .val (.int n1), .val (.int r_2), .val (.int r_3), .val (.int r_4), .val (.ref b27), .val (.int (0 : Int32)), .unset, .unset, .unset] []))
            refine hG _ _ (fun t_ k_ => XS.iconst X33.here hx rfl (hb hby at_160) k_) ?_
            show G (T33.setTop (mkF m 161 #[.val (.int i0), .val (.int i1), .val (.int i2), .val (.int i3), .val (.int n1), .val (.int r_2), .val (.int r_3), .val (.int r_4), .val (.ref b27), .val (.int (0 : Int32)), .unset, .unset, .unset] [(.int (1 : Int32))]))
            refine hG _ _ (fun t_ k_ => XS.goto X33.here hx rfl (pc0 := 161) (pc' := 165) rfl (hb hby at_161) (by decide) (by decide) k_) ?_
            show G (T33.setTop (mkF m 165 #[.val (.int i0), .val (.int i1), .val (.int i2), .val (.int i3), .val (.int n1), .val (.int r_2), .val (.int r_3), .val (.int r_4), .val (.ref b27), .val (.int (0 : Int32)), .unset, .unset, .unset] [(.int (1 : Int32))]))
            refine hG _ _ (fun t_ k_ => XS.istore X33.here hx rfl (hb hby at_165) rfl (l' := #[.val (.int i0), .val (.int i1), .val (.int i2), .val (.int i3), .val (.int n1), .val (.int r_2), .val (.int r_3), .val (.int r_4), .val (.ref b27), .val (.int (0 : Int32)), .val (.int (1 : Int32)), .unset, .unset]) rfl k_) ?_
            show G (T33.setTop (mkF m 167 #[.val (.int i0), .val (.int i1), .val (.int i2), .val (.int i3), .val (.int n1), .val (.int r_2), .val (.int r_3), .val (.int r_4), .val (.ref b27), .val (.int (0 : Int32)), .val (.int (1 : Int32)), .unset, .unset] []))
            refine hG _ _ (fun t_ k_ => XS.iload X33.here hx rfl (hb hby at_167) rfl k_) ?_
            show G (T33.setTop (mkF m 169 #[.val (.int i0), .val (.int i1), .val (.int i2), .val (.int i3), .val (.int n1), .val (.int r_2), .val (.int r_3), .val (.int r_4), .val (.ref b27), .val (.int (0 : Int32)), .val (.int (1 : Int32)), .unset, .unset] [(.int n1)]))
            refine hG _ _ (fun t_ k_ => XS.iconst X33.here hx rfl (hb hby at_169) k_) ?_
            show G (T33.setTop (mkF m 170 #[.val (.int i0), .val (.int i1), .val (.int i2), .val (.int i3), .val (.int n1), .val (.int r_2), .val (.int r_3), .val (.int r_4), .val (.ref b27), .val (.int (0 : Int32)), .val (.int (1 : Int32)), .unset, .unset] [(.int (3 : Int32)), (.int n1)]))
            refine hG _ _ (fun t_ k_ => XS.icmpYes X33.here hx rfl (pc0 := 170) (pc' := 184) rfl (hb hby at_170) rfl (tlt (by rw [hnL]; decide)).1 (by decide) (by decide) k_) ?_
            show G (T33.setTop (mkF m 184 #[.val (.int i0), .val (.int i1), .val (.int i2), .val (.int i3), .val (.int n1), .val (.int r_2), .val (.int r_3), .val (.int r_4), .val (.ref b27), .val (.int (0 : Int32)), .val (.int (1 : Int32)), .unset, .unset] []))
            refine hG _ _ (fun t_ k_ => XS.iconst X33.here hx rfl (hb hby at_184) k_) ?_
            show G (T33.setTop (mkF m 185 #[.val (.int i0), .val (.int i1), .val (.int i2), .val (.int i3), .val (.int n1), .val (.int r_2), .val (.int r_3), .val (.int r_4), .val (.ref b27), .val (.int (0 : Int32)), .val (.int (1 : Int32)), .unset, .unset] [(.int (0 : Int32))]))
            refine hG _ _ (fun t_ k_ => XS.istore X33.here hx rfl (hb hby at_185) rfl (l' := #[.val (.int i0), .val (.int i1), .val (.int i2), .val (.int i3), .val (.int n1), .val (.int r_2), .val (.int r_3), .val (.int r_4), .val (.ref b27), .val (.int (0 : Int32)), .val (.int (1 : Int32)), .val (.int (0 : Int32)), .unset]) rfl k_) ?_
            show G (T33.setTop (mkF m 187 #[.val (.int i0), .val (.int i1), .val (.int i2), .val (.int i3), .val (.int n1), .val (.int r_2), .val (.int r_3), .val (.int r_4), .val (.ref b27), .val (.int (0 : Int32)), .val (.int (1 : Int32)), .val (.int (0 : Int32)), .unset] []))
            refine hG _ _ (fun t_ k_ => XS.iload X33.here hx rfl (hb hby at_187) rfl k_) ?_
            show G (T33.setTop (mkF m 189 #[.val (.int i0), .val (.int i1), .val (.int i2), .val (.int i3), .val (.int n1), .val (.int r_2), .val (.int r_3), .val (.int r_4), .val (.ref b27), .val (.int (0 : Int32)), .val (.int (1 : Int32)), .val (.int (0 : Int32)), .unset] [(.int (0 : Int32))]))
            refine hG _ _ (fun t_ k_ => XS.ifNo X33.here hx rfl (hb hby at_189) rfl ((if0 _ _).trans (teq (by decide)).2) k_) ?_
            show G (T33.setTop (mkF m 192 #[.val (.int i0), .val (.int i1), .val (.int i2), .val (.int i3), .val (.int n1), .val (.int r_2), .val (.int r_3), .val (.int r_4), .val (.ref b27), .val (.int (0 : Int32)), .val (.int (1 : Int32)), .val (.int (0 : Int32)), .unset] []))
            refine hG _ _ (fun t_ k_ => XS.iload X33.here hx rfl (hb hby at_192) rfl k_) ?_
            show G (T33.setTop (mkF m 194 #[.val (.int i0), .val (.int i1), .val (.int i2), .val (.int i3), .val (.int n1), .val (.int r_2), .val (.int r_3), .val (.int r_4), .val (.ref b27), .val (.int (0 : Int32)), .val (.int (1 : Int32)), .val (.int (0 : Int32)), .unset] [(.int (1 : Int32))]))
            refine hG _ _ (fun t_ k_ => XS.ifYes X33.here hx rfl (pc0 := 194) (pc' := 206) rfl (hb hby at_194) rfl ((if0 _ _).trans (feq (by decide)).2) (by decide) (by decide) k_) ?_
            show G (T33.setTop (mkF m 206 #[.val (.int i0), .val (.int i1), .val (.int i2), .val (.int i3), .val (.int n1), .val (.int r_2), .val (.int r_3), .val (.int r_4), .val (.ref b27), .val (.int (0 : Int32)), .val (.int (1 : Int32)), .val (.int (0 : Int32)), .unset] []))
            refine hG _ _ (fun t_ k_ => XS.iconst X33.here hx rfl (hb hby at_206) k_) ?_
            show G (T33.setTop (mkF m 207 #[.val (.int i0), .val (.int i1), .val (.int i2), .val (.int i3), .val (.int n1), .val (.int r_2), .val (.int r_3), .val (.int r_4), .val (.ref b27), .val (.int (0 : Int32)), .val (.int (1 : Int32)), .val (.int (0 : Int32)), .unset] [(.int (0 : Int32))]))
            refine hG _ _ (fun t_ k_ => XS.istore X33.here hx rfl (hb hby at_207) rfl (l' := #[.val (.int i0), .val (.int i1), .val (.int i2), .val (.int i3), .val (.int n1), .val (.int r_2), .val (.int r_3), .val (.int r_4), .val (.ref b27), .val (.int (0 : Int32)), .val (.int (1 : Int32)), .val (.int (0 : Int32)), .val (.int (0 : Int32))]) rfl k_) ?_
            show G (T33.setTop (mkF m 209 #[.val (.int i0), .val (.int i1), .val (.int i2), .val (.int i3), .val (.int n1), .val (.int r_2), .val (.int r_3), .val (.int r_4), .val (.ref b27), .val (.int (0 : Int32)), .val (.int (1 : Int32)), .val (.int (0 : Int32)), .val (.int (0 : Int32))] []))
            refine hG _ _ (fun t_ k_ => XS.aload X33.here hx rfl (hb hby at_209) rfl rfl k_) ?_
            show G (T33.setTop (mkF m 211 #[.val (.int i0), .val (.int i1), .val (.int i2), .val (.int i3), .val (.int n1), .val (.int r_2), .val (.int r_3), .val (.int r_4), .val (.ref b27), .val (.int (0 : Int32)), .val (.int (1 : Int32)), .val (.int (0 : Int32)), .val (.int (0 : Int32))] [(.ref b27)]))
            refine own_callS X33 hx hZ hG hown (hw _ (List.mem_of_getElem? (i := 27) rfl)) (hw _ (List.mem_of_getElem? (i := 28) rfl)) (hw _ (List.mem_of_getElem? (i := 29) rfl)) (hw _ (List.mem_of_getElem? (i := 30) rfl)) (by decide) 0 (own_ccF l Z a0 hw b27 t_33 kt_33 [r_2, r_3] cd_33 nb_33 vs_33 cpt fmt h33 O33 r33_0 r33_1 r33_2 r33_3 r33_4 (Nat.le_of_ble_eq_true rfl) (own_allc r2_0 (own_allc r3_0 own_alln)) g0_S g1_hcpt g2_S g3_S g4_S g5_hfmt g6_S ⟨r_3, (List.mem_of_getElem? (i := 1) rfl), hc157_42⟩) (by decide) (by decide) e33 (by rw [hml]; rfl) (lenOf own_pd19 rfl) (argsL := [(.ref b27)]) (rest := []) rfl rfl (Nat.le_of_eq rfl) (hb hby at_211) (by decide) (by decide) ?_
            intro T43 h43 v43 L43 X43 e43 q43
            obtain ⟨rfl, M43, rfl⟩ := q43
            have N43 := Fr.app N33 M43
            show G (T43.setTop (mkF m 214 #[.val (.int i0), .val (.int i1), .val (.int i2), .val (.int i3), .val (.int n1), .val (.int r_2), .val (.int r_3), .val (.int r_4), .val (.ref b27), .val (.int (0 : Int32)), .val (.int (1 : Int32)), .val (.int (0 : Int32)), .val (.int (0 : Int32))] [(.int (0 : Int32))]))
            refine hG _ _ (fun t_ k_ => XS.iload X43.here hx rfl (hb hby at_214) rfl k_) ?_
            show G (T43.setTop (mkF m 216 #[.val (.int i0), .val (.int i1), .val (.int i2), .val (.int i3), .val (.int n1), .val (.int r_2), .val (.int r_3), .val (.int r_4), .val (.ref b27), .val (.int (0 : Int32)), .val (.int (1 : Int32)), .val (.int (0 : Int32)), .val (.int (0 : Int32))] [(.int (0 : Int32)), (.int (0 : Int32))]))
            refine hG _ _ (fun t_ k_ => XS.icmpNo X43.here hx rfl (hb hby at_216) rfl (teq (by decide)).2 k_) ?_
            show G (T43.setTop (mkF m 219 #[.val (.int i0), .val (.int i1), .val (.int i2), .val (.int i3), .val (.int n1), .val (.int r_2), .val (.int r_3), .val (.int r_4), .val (.ref b27), .val (.int (0 : Int32)), .val (.int (1 : Int32)), .val (.int (0 : Int32)), .val (.int (0 : Int32))] []))
            refine hG _ _ (fun t_ k_ => XS.iconst X43.here hx rfl (hb hby at_219) k_) ?_
            show G (T43.setTop (mkF m 220 #[.val (.int i0), .val (.int i1), .val (.int i2), .val (.int i3), .val (.int n1), .val (.int r_2), .val (.int r_3), .val (.int r_4), .val (.ref b27), .val (.int (0 : Int32)), .val (.int (1 : Int32)), .val (.int (0 : Int32)), .val (.int (0 : Int32))] [(.int (1 : Int32))]))
            refine hG _ _ (fun t_ k_ => XS.goto X43.here hx rfl (pc0 := 220) (pc' := 224) rfl (hb hby at_220) (by decide) (by decide) k_) ?_
            show G (T43.setTop (mkF m 224 #[.val (.int i0), .val (.int i1), .val (.int i2), .val (.int i3), .val (.int n1), .val (.int r_2), .val (.int r_3), .val (.int r_4), .val (.ref b27), .val (.int (0 : Int32)), .val (.int (1 : Int32)), .val (.int (0 : Int32)), .val (.int (0 : Int32))] [(.int (1 : Int32))]))
            exact own_retNW hR hret (by simp) X43 hx (hb hby at_224) e43 SI0 (Nat.le_trans (Nat.le_trans (Nat.le_trans (Nat.le_trans (Nat.le_trans (Nat.le_refl _) R27.2.1) R28.2.1) R29.2.1) R31.2.1) R33.2.1) hZ C33 (by decide) (by decide) ⟨rfl, N43, K33⟩
          · skip
            refine hG _ _ (fun t_ k_ => XS.icmpYes X33.here hx rfl (pc0 := 157) (pc' := 164) rfl (hb hby at_157) rfl (feq hc157_42).2 (by decide) (by decide) k_) ?_
            show G (T33.setTop (mkF m 164 #[.val (.int i0), .val (.int i1), .val (.int i2), .val (.int i3), .val (.int n1), .val (.int r_2), .val (.int r_3), .val (.int r_4), .val (.ref b27), .val (.int (0 : Int32)), .unset, .unset, .unset] []))
            refine hG _ _ (fun t_ k_ => XS.iconst X33.here hx rfl (hb hby at_164) k_) ?_
            show G (T33.setTop (mkF m 165 #[.val (.int i0), .val (.int i1), .val (.int i2), .val (.int i3), .val (.int n1), .val (.int r_2), .val (.int r_3), .val (.int r_4), .val (.ref b27), .val (.int (0 : Int32)), .unset, .unset, .unset] [(.int (0 : Int32))]))
            refine hG _ _ (fun t_ k_ => XS.istore X33.here hx rfl (hb hby at_165) rfl (l' := #[.val (.int i0), .val (.int i1), .val (.int i2), .val (.int i3), .val (.int n1), .val (.int r_2), .val (.int r_3), .val (.int r_4), .val (.ref b27), .val (.int (0 : Int32)), .val (.int (0 : Int32)), .unset, .unset]) rfl k_) ?_
            show G (T33.setTop (mkF m 167 #[.val (.int i0), .val (.int i1), .val (.int i2), .val (.int i3), .val (.int n1), .val (.int r_2), .val (.int r_3), .val (.int r_4), .val (.ref b27), .val (.int (0 : Int32)), .val (.int (0 : Int32)), .unset, .unset] []))
            refine hG _ _ (fun t_ k_ => XS.iload X33.here hx rfl (hb hby at_167) rfl k_) ?_
            show G (T33.setTop (mkF m 169 #[.val (.int i0), .val (.int i1), .val (.int i2), .val (.int i3), .val (.int n1), .val (.int r_2), .val (.int r_3), .val (.int r_4), .val (.ref b27), .val (.int (0 : Int32)), .val (.int (0 : Int32)), .unset, .unset] [(.int n1)]))
            refine hG _ _ (fun t_ k_ => XS.iconst X33.here hx rfl (hb hby at_169) k_) ?_
            show G (T33.setTop (mkF m 170 #[.val (.int i0), .val (.int i1), .val (.int i2), .val (.int i3), .val (.int n1), .val (.int r_2), .val (.int r_3), .val (.int r_4), .val (.ref b27), .val (.int (0 : Int32)), .val (.int (0 : Int32)), .unset, .unset] [(.int (3 : Int32)), (.int n1)]))
            refine hG _ _ (fun t_ k_ => XS.icmpYes X33.here hx rfl (pc0 := 170) (pc' := 184) rfl (hb hby at_170) rfl (tlt (by rw [hnL]; decide)).1 (by decide) (by decide) k_) ?_
            show G (T33.setTop (mkF m 184 #[.val (.int i0), .val (.int i1), .val (.int i2), .val (.int i3), .val (.int n1), .val (.int r_2), .val (.int r_3), .val (.int r_4), .val (.ref b27), .val (.int (0 : Int32)), .val (.int (0 : Int32)), .unset, .unset] []))
            refine hG _ _ (fun t_ k_ => XS.iconst X33.here hx rfl (hb hby at_184) k_) ?_
            show G (T33.setTop (mkF m 185 #[.val (.int i0), .val (.int i1), .val (.int i2), .val (.int i3), .val (.int n1), .val (.int r_2), .val (.int r_3), .val (.int r_4), .val (.ref b27), .val (.int (0 : Int32)), .val (.int (0 : Int32)), .unset, .unset] [(.int (0 : Int32))]))
            refine hG _ _ (fun t_ k_ => XS.istore X33.here hx rfl (hb hby at_185) rfl (l' := #[.val (.int i0), .val (.int i1), .val (.int i2), .val (.int i3), .val (.int n1), .val (.int r_2), .val (.int r_3), .val (.int r_4), .val (.ref b27), .val (.int (0 : Int32)), .val (.int (0 : Int32)), .val (.int (0 : Int32)), .unset]) rfl k_) ?_
            show G (T33.setTop (mkF m 187 #[.val (.int i0), .val (.int i1), .val (.int i2), .val (.int i3), .val (.int n1), .val (.int r_2), .val (.int r_3), .val (.int r_4), .val (.ref b27), .val (.int (0 : Int32)), .val (.int (0 : Int32)), .val (.int (0 : Int32)), .unset] []))
            refine hG _ _ (fun t_ k_ => XS.iload X33.here hx rfl (hb hby at_187) rfl k_) ?_
            show G (T33.setTop (mkF m 189 #[.val (.int i0), .val (.int i1), .val (.int i2), .val (.int i3), .val (.int n1), .val (.int r_2), .val (.int r_3), .val (.int r_4), .val (.ref b27), .val (.int (0 : Int32)), .val (.int (0 : Int32)), .val (.int (0 : Int32)), .unset] [(.int (0 : Int32))]))
            refine hG _ _ (fun t_ k_ => XS.ifNo X33.here hx rfl (hb hby at_189) rfl ((if0 _ _).trans (teq (by decide)).2) k_) ?_
            show G (T33.setTop (mkF m 192 #[.val (.int i0), .val (.int i1), .val (.int i2), .val (.int i3), .val (.int n1), .val (.int r_2), .val (.int r_3), .val (.int r_4), .val (.ref b27), .val (.int (0 : Int32)), .val (.int (0 : Int32)), .val (.int (0 : Int32)), .unset] []))
            refine hG _ _ (fun t_ k_ => XS.iload X33.here hx rfl (hb hby at_192) rfl k_) ?_
            show G (T33.setTop (mkF m 194 #[.val (.int i0), .val (.int i1), .val (.int i2), .val (.int i3), .val (.int n1), .val (.int r_2), .val (.int r_3), .val (.int r_4), .val (.ref b27), .val (.int (0 : Int32)), .val (.int (0 : Int32)), .val (.int (0 : Int32)), .unset] [(.int (0 : Int32))]))
            refine hG _ _ (fun t_ k_ => XS.ifNo X33.here hx rfl (hb hby at_194) rfl ((if0 _ _).trans (teq (by decide)).2) k_) ?_
            show G (T33.setTop (mkF m 197 #[.val (.int i0), .val (.int i1), .val (.int i2), .val (.int i3), .val (.int n1), .val (.int r_2), .val (.int r_3), .val (.int r_4), .val (.ref b27), .val (.int (0 : Int32)), .val (.int (0 : Int32)), .val (.int (0 : Int32)), .unset] []))
            refine hG _ _ (fun t_ k_ => XS.iload X33.here hx rfl (hb hby at_197) rfl k_) ?_
            show G (T33.setTop (mkF m 199 #[.val (.int i0), .val (.int i1), .val (.int i2), .val (.int i3), .val (.int n1), .val (.int r_2), .val (.int r_3), .val (.int r_4), .val (.ref b27), .val (.int (0 : Int32)), .val (.int (0 : Int32)), .val (.int (0 : Int32)), .unset] [(.int (0 : Int32))]))
            refine hG _ _ (fun t_ k_ => XS.ifNo X33.here hx rfl (hb hby at_199) rfl ((if0 _ _).trans (teq (by decide)).2) k_) ?_
            show G (T33.setTop (mkF m 202 #[.val (.int i0), .val (.int i1), .val (.int i2), .val (.int i3), .val (.int n1), .val (.int r_2), .val (.int r_3), .val (.int r_4), .val (.ref b27), .val (.int (0 : Int32)), .val (.int (0 : Int32)), .val (.int (0 : Int32)), .unset] []))
            refine hG _ _ (fun t_ k_ => XS.iconst X33.here hx rfl (hb hby at_202) k_) ?_
            show G (T33.setTop (mkF m 203 #[.val (.int i0), .val (.int i1), .val (.int i2), .val (.int i3), .val (.int n1), .val (.int r_2), .val (.int r_3), .val (.int r_4), .val (.ref b27), .val (.int (0 : Int32)), .val (.int (0 : Int32)), .val (.int (0 : Int32)), .unset] [(.int (1 : Int32))]))
            refine hG _ _ (fun t_ k_ => XS.goto X33.here hx rfl (pc0 := 203) (pc' := 207) rfl (hb hby at_203) (by decide) (by decide) k_) ?_
            show G (T33.setTop (mkF m 207 #[.val (.int i0), .val (.int i1), .val (.int i2), .val (.int i3), .val (.int n1), .val (.int r_2), .val (.int r_3), .val (.int r_4), .val (.ref b27), .val (.int (0 : Int32)), .val (.int (0 : Int32)), .val (.int (0 : Int32)), .unset] [(.int (1 : Int32))]))
            refine hG _ _ (fun t_ k_ => XS.istore X33.here hx rfl (hb hby at_207) rfl (l' := #[.val (.int i0), .val (.int i1), .val (.int i2), .val (.int i3), .val (.int n1), .val (.int r_2), .val (.int r_3), .val (.int r_4), .val (.ref b27), .val (.int (0 : Int32)), .val (.int (0 : Int32)), .val (.int (0 : Int32)), .val (.int (1 : Int32))]) rfl k_) ?_
            show G (T33.setTop (mkF m 209 #[.val (.int i0), .val (.int i1), .val (.int i2), .val (.int i3), .val (.int n1), .val (.int r_2), .val (.int r_3), .val (.int r_4), .val (.ref b27), .val (.int (0 : Int32)), .val (.int (0 : Int32)), .val (.int (0 : Int32)), .val (.int (1 : Int32))] []))
            refine hG _ _ (fun t_ k_ => XS.aload X33.here hx rfl (hb hby at_209) rfl rfl k_) ?_
            show G (T33.setTop (mkF m 211 #[.val (.int i0), .val (.int i1), .val (.int i2), .val (.int i3), .val (.int n1), .val (.int r_2), .val (.int r_3), .val (.int r_4), .val (.ref b27), .val (.int (0 : Int32)), .val (.int (0 : Int32)), .val (.int (0 : Int32)), .val (.int (1 : Int32))] [(.ref b27)]))
            refine own_callS X33 hx hZ hG hown (hw _ (List.mem_of_getElem? (i := 27) rfl)) (hw _ (List.mem_of_getElem? (i := 28) rfl)) (hw _ (List.mem_of_getElem? (i := 29) rfl)) (hw _ (List.mem_of_getElem? (i := 30) rfl)) (by decide) 0 (own_ccT l Z a0 hw b27 t_33 kt_33 [r_2, r_3] cd_33 nb_33 vs_33 cpt fmt h33 O33 r33_0 r33_1 r33_2 r33_3 r33_4 (Nat.le_of_ble_eq_true rfl) (own_allc r2_0 (own_allc r3_0 own_alln)) g0_S g1_hcpt g2_S g3_S g4_S g5_hfmt g6_S (own_allc hc137_38 (own_allc hc157_42 own_alln))) (by decide) (by decide) e33 (by rw [hml]; rfl) (lenOf own_pd19 rfl) (argsL := [(.ref b27)]) (rest := []) rfl rfl (Nat.le_of_eq rfl) (hb hby at_211) (by decide) (by decide) ?_
            intro T44 h44 v44 L44 X44 e44 q44
            obtain ⟨rfl, M44, rfl⟩ := q44
            have N44 := Fr.app N33 M44
            show G (T44.setTop (mkF m 214 #[.val (.int i0), .val (.int i1), .val (.int i2), .val (.int i3), .val (.int n1), .val (.int r_2), .val (.int r_3), .val (.int r_4), .val (.ref b27), .val (.int (0 : Int32)), .val (.int (0 : Int32)), .val (.int (0 : Int32)), .val (.int (1 : Int32))] [(.int (1 : Int32))]))
            refine hG _ _ (fun t_ k_ => XS.iload X44.here hx rfl (hb hby at_214) rfl k_) ?_
            show G (T44.setTop (mkF m 216 #[.val (.int i0), .val (.int i1), .val (.int i2), .val (.int i3), .val (.int n1), .val (.int r_2), .val (.int r_3), .val (.int r_4), .val (.ref b27), .val (.int (0 : Int32)), .val (.int (0 : Int32)), .val (.int (0 : Int32)), .val (.int (1 : Int32))] [(.int (1 : Int32)), (.int (1 : Int32))]))
            refine hG _ _ (fun t_ k_ => XS.icmpNo X44.here hx rfl (hb hby at_216) rfl (teq (by decide)).2 k_) ?_
            show G (T44.setTop (mkF m 219 #[.val (.int i0), .val (.int i1), .val (.int i2), .val (.int i3), .val (.int n1), .val (.int r_2), .val (.int r_3), .val (.int r_4), .val (.ref b27), .val (.int (0 : Int32)), .val (.int (0 : Int32)), .val (.int (0 : Int32)), .val (.int (1 : Int32))] []))
            refine hG _ _ (fun t_ k_ => XS.iconst X44.here hx rfl (hb hby at_219) k_) ?_
            show G (T44.setTop (mkF m 220 #[.val (.int i0), .val (.int i1), .val (.int i2), .val (.int i3), .val (.int n1), .val (.int r_2), .val (.int r_3), .val (.int r_4), .val (.ref b27), .val (.int (0 : Int32)), .val (.int (0 : Int32)), .val (.int (0 : Int32)), .val (.int (1 : Int32))] [(.int (1 : Int32))]))
            refine hG _ _ (fun t_ k_ => XS.goto X44.here hx rfl (pc0 := 220) (pc' := 224) rfl (hb hby at_220) (by decide) (by decide) k_) ?_
            show G (T44.setTop (mkF m 224 #[.val (.int i0), .val (.int i1), .val (.int i2), .val (.int i3), .val (.int n1), .val (.int r_2), .val (.int r_3), .val (.int r_4), .val (.ref b27), .val (.int (0 : Int32)), .val (.int (0 : Int32)), .val (.int (0 : Int32)), .val (.int (1 : Int32))] [(.int (1 : Int32))]))
            exact own_retNW hR hret (by simp) X44 hx (hb hby at_224) e44 SI0 (Nat.le_trans (Nat.le_trans (Nat.le_trans (Nat.le_trans (Nat.le_trans (Nat.le_refl _) R27.2.1) R28.2.1) R29.2.1) R31.2.1) R33.2.1) hZ C33 (by decide) (by decide) ⟨rfl, N44, K33⟩
      · skip
        refine hG _ _ (fun t_ k_ => XS.icmpYes X4.here hx rfl (pc0 := 72) (pc' := 100) rfl (hb hby at_72) rfl (feq hc72_26).2 (by decide) (by decide) k_) ?_
        show G (T4.setTop (mkF m 100 #[.val (.int i0), .val (.int i1), .val (.int i2), .val (.int i3), .val (.int n1), .val (.int r_2), .val (.int r_3), .val (.int r_4), .unset, .unset, .unset, .unset, .unset] []))
        obtain ⟨T45, h45, X45, e45, E45, A45, D45, -, st45⟩ := newO X4 hx hZ hown (hw _ (List.mem_of_getElem? (i := 5) rfl)) (hw _ (List.mem_of_getElem? (i := 6) rfl)) (hw _ (List.mem_of_getElem? (i := 7) rfl)) e4 (g := (mkF m 100 #[.val (.int i0), .val (.int i1), .val (.int i2), .val (.int i3), .val (.int n1), .val (.int r_2), .val (.int r_3), .val (.int r_4), .unset, .unset, .unset, .unset, .unset] [])) rfl (hb hby at_100) (by decide) (by decide)
        obtain ⟨b45, z45⟩ : ∃ z, z = h0.size := ⟨_, rfl⟩
        rw [← z45] at A45 D45 st45
        refine hG _ _ st45 ?_
        have R45 := (CHr.ext E45 H0)
        have C45 := (CHr.refl H0).trans R45
        have K45 : Keep h0 h45 [] := (Keep.refl h0 []).ext E45
        have O45 : own_Old Z h45 := O0.ext E45
        show G (T45.setTop (mkF m 103 #[.val (.int i0), .val (.int i1), .val (.int i2), .val (.int i3), .val (.int n1), .val (.int r_2), .val (.int r_3), .val (.int r_4), .unset, .unset, .unset, .unset, .unset] [(.ref b45)]))
        refine hG _ _ (fun t_ k_ => XS.dup X45.here hx rfl (hb hby at_103) rfl rfl k_) ?_
        show G (T45.setTop (mkF m 104 #[.val (.int i0), .val (.int i1), .val (.int i2), .val (.int i3), .val (.int n1), .val (.int r_2), .val (.int r_3), .val (.int r_4), .unset, .unset, .unset, .unset, .unset] [(.ref b45), (.ref b45)]))
        refine hG _ _ (fun t_ k_ => XS.iconst X45.here hx rfl (hb hby at_104) k_) ?_
        show G (T45.setTop (mkF m 105 #[.val (.int i0), .val (.int i1), .val (.int i2), .val (.int i3), .val (.int n1), .val (.int r_2), .val (.int r_3), .val (.int r_4), .unset, .unset, .unset, .unset, .unset] [(.int (3 : Int32)), (.ref b45), (.ref b45)]))
        obtain ⟨T46, h46, k46, X46, e46, E46, A46, st46⟩ := newP X45 hx hZ (hw _ (List.mem_of_getElem? (i := 8) rfl)) e45 (g := (mkF m 105 #[.val (.int i0), .val (.int i1), .val (.int i2), .val (.int i3), .val (.int n1), .val (.int r_2), .val (.int r_3), .val (.int r_4), .unset, .unset, .unset, .unset, .unset] [(.int (3 : Int32)), (.ref b45), (.ref b45)])) rfl (hb hby at_105) rfl (by decide) (cap := 3) (by decide) (by decide) (by decide) (by decide)
        obtain ⟨b46, z46⟩ : ∃ z, z = h45.size := ⟨_, rfl⟩
        rw [← z46] at A46 st46
        refine hG _ _ st46 ?_
        have R46 := (CHr.ext E46 R45.1)
        have C46 := C45.trans R46
        have K46 : Keep h0 h46 [] := K45.ext E46
        have O46 : own_Old Z h46 := O45.ext E46
        have V46 : Arv Z h46 b46 k46 .char (3 : Int32) [(.int (0 : Int32)), (.int (0 : Int32)), (.int (0 : Int32))] (.int (0 : Int32)) := (Arv.new A46 (by decide)).pad (pad_rep [] (.int (0 : Int32)) 3)
        show G (T46.setTop (mkF m 107 #[.val (.int i0), .val (.int i1), .val (.int i2), .val (.int i3), .val (.int n1), .val (.int r_2), .val (.int r_3), .val (.int r_4), .unset, .unset, .unset, .unset, .unset] [(.ref b46), (.ref b45), (.ref b45)]))
        refine hG _ _ (fun t_ k_ => XS.dup X46.here hx rfl (hb hby at_107) rfl rfl k_) ?_
        show G (T46.setTop (mkF m 108 #[.val (.int i0), .val (.int i1), .val (.int i2), .val (.int i3), .val (.int n1), .val (.int r_2), .val (.int r_3), .val (.int r_4), .unset, .unset, .unset, .unset, .unset] [(.ref b46), (.ref b46), (.ref b45), (.ref b45)]))
        refine hG _ _ (fun t_ k_ => XS.iconst X46.here hx rfl (hb hby at_108) k_) ?_
        show G (T46.setTop (mkF m 109 #[.val (.int i0), .val (.int i1), .val (.int i2), .val (.int i3), .val (.int n1), .val (.int r_2), .val (.int r_3), .val (.int r_4), .unset, .unset, .unset, .unset, .unset] [(.int (0 : Int32)), (.ref b46), (.ref b46), (.ref b45), (.ref b45)]))
        refine hG _ _ (fun t_ k_ => XS.iload X46.here hx rfl (hb hby at_109) rfl k_) ?_
        show G (T46.setTop (mkF m 111 #[.val (.int i0), .val (.int i1), .val (.int i2), .val (.int i3), .val (.int n1), .val (.int r_2), .val (.int r_3), .val (.int r_4), .unset, .unset, .unset, .unset, .unset] [(.int r_2), (.int (0 : Int32)), (.ref b46), (.ref b46), (.ref b45), (.ref b45)]))
        obtain ⟨c47, Ar47, q47, S47, M47, H47, G47⟩ := id V46
        obtain ⟨T47, h47, X47, e47, W47, st47⟩ := stC X46 hx hZ e46 Ar47 (j := (0 : Int32)) (inb_of S47 ⟨by decide, by decide⟩) (g := (mkF m 111 #[.val (.int i0), .val (.int i1), .val (.int i2), .val (.int i3), .val (.int n1), .val (.int r_2), .val (.int r_3), .val (.int r_4), .unset, .unset, .unset, .unset, .unset] [(.int r_2), (.int (0 : Int32)), (.ref b46), (.ref b46), (.ref b45), (.ref b45)])) rfl rfl (hb hby at_111)
        refine hG _ _ st47 ?_
        have sf48 : Safe Z consts_1 _ h46 b46 := (own_safeArv hZ.alike V46 (by decide))
        have R47 := (CHr.wr W47 sf48 R46.1)
        have C47 := C46.trans R47
        have K47 : Keep h0 h47 [] := K46.wr W47 (Or.inr (Nat.le_trans K45.1 (Nat.le_of_eq z46.symm)))
        have O47 : own_Old Z h47 := O46.wr W47 (own_ge O45 (Nat.le_of_eq z46.symm))
        rw [own_narC r2_0] at W47
        have V47 : Arv Z h47 b46 k46 .char (3 : Int32) [(.int r_2), (.int (0 : Int32)), (.int (0 : Int32))] (.int (0 : Int32)) := Arv.set Ar47 q47 S47 M47 H47 G47 (own_fitC r2_0) W47 0 rfl (Nat.le_of_ble_eq_true rfl)
        have N47 := Fr.snoc X47 N4 (own_ge O45 (Nat.le_of_eq z46.symm))
        show G (T47.setTop (mkF m 112 #[.val (.int i0), .val (.int i1), .val (.int i2), .val (.int i3), .val (.int n1), .val (.int r_2), .val (.int r_3), .val (.int r_4), .unset, .unset, .unset, .unset, .unset] [(.ref b46), (.ref b45), (.ref b45)]))
        refine hG _ _ (fun t_ k_ => XS.dup X47.here hx rfl (hb hby at_112) rfl rfl k_) ?_
        show G (T47.setTop (mkF m 113 #[.val (.int i0), .val (.int i1), .val (.int i2), .val (.int i3), .val (.int n1), .val (.int r_2), .val (.int r_3), .val (.int r_4), .unset, .unset, .unset, .unset, .unset] [(.ref b46), (.ref b46), (.ref b45), (.ref b45)]))
        refine hG _ _ (fun t_ k_ => XS.iconst X47.here hx rfl (hb hby at_113) k_) ?_
        show G (T47.setTop (mkF m 114 #[.val (.int i0), .val (.int i1), .val (.int i2), .val (.int i3), .val (.int n1), .val (.int r_2), .val (.int r_3), .val (.int r_4), .unset, .unset, .unset, .unset, .unset] [(.int (1 : Int32)), (.ref b46), (.ref b46), (.ref b45), (.ref b45)]))
        refine hG _ _ (fun t_ k_ => XS.iload X47.here hx rfl (hb hby at_114) rfl k_) ?_
        show G (T47.setTop (mkF m 116 #[.val (.int i0), .val (.int i1), .val (.int i2), .val (.int i3), .val (.int n1), .val (.int r_2), .val (.int r_3), .val (.int r_4), .unset, .unset, .unset, .unset, .unset] [(.int r_3), (.int (1 : Int32)), (.ref b46), (.ref b46), (.ref b45), (.ref b45)]))
        obtain ⟨c49, Ar49, q49, S49, M49, H49, G49⟩ := id V47
        obtain ⟨T49, h49, X49, e49, W49, st49⟩ := stC X47 hx hZ e47 Ar49 (j := (1 : Int32)) (inb_of S49 ⟨by decide, by decide⟩) (g := (mkF m 116 #[.val (.int i0), .val (.int i1), .val (.int i2), .val (.int i3), .val (.int n1), .val (.int r_2), .val (.int r_3), .val (.int r_4), .unset, .unset, .unset, .unset, .unset] [(.int r_3), (.int (1 : Int32)), (.ref b46), (.ref b46), (.ref b45), (.ref b45)])) rfl rfl (hb hby at_116)
        refine hG _ _ st49 ?_
        have sf50 := (R47.safe V46.lt sf48)
        have R49 := (CHr.wr W49 sf50 R47.1)
        have C49 := C47.trans R49
        have K49 : Keep h0 h49 [] := K47.wr W49 (Or.inr (Nat.le_trans K45.1 (Nat.le_of_eq z46.symm)))
        have O49 : own_Old Z h49 := O47.wr W49 (own_ge O45 (Nat.le_of_eq z46.symm))
        rw [own_narC r3_0] at W49
        have V49 : Arv Z h49 b46 k46 .char (3 : Int32) [(.int r_2), (.int r_3), (.int (0 : Int32))] (.int (0 : Int32)) := Arv.set Ar49 q49 S49 M49 H49 G49 (own_fitC r3_0) W49 1 rfl (Nat.le_of_ble_eq_true rfl)
        have N49 := Fr.snoc X49 N47 (own_ge O45 (Nat.le_of_eq z46.symm))
        show G (T49.setTop (mkF m 117 #[.val (.int i0), .val (.int i1), .val (.int i2), .val (.int i3), .val (.int n1), .val (.int r_2), .val (.int r_3), .val (.int r_4), .unset, .unset, .unset, .unset, .unset] [(.ref b46), (.ref b45), (.ref b45)]))
        refine hG _ _ (fun t_ k_ => XS.dup X49.here hx rfl (hb hby at_117) rfl rfl k_) ?_
        show G (T49.setTop (mkF m 118 #[.val (.int i0), .val (.int i1), .val (.int i2), .val (.int i3), .val (.int n1), .val (.int r_2), .val (.int r_3), .val (.int r_4), .unset, .unset, .unset, .unset, .unset] [(.ref b46), (.ref b46), (.ref b45), (.ref b45)]))
        refine hG _ _ (fun t_ k_ => XS.iconst X49.here hx rfl (hb hby at_118) k_) ?_
        show G (T49.setTop (mkF m 119 #[.val (.int i0), .val (.int i1), .val (.int i2), .val (.int i3), .val (.int n1), .val (.int r_2), .val (.int r_3), .val (.int r_4), .unset, .unset, .unset, .unset, .unset] [(.int (2 : Int32)), (.ref b46), (.ref b46), (.ref b45), (.ref b45)]))
        refine hG _ _ (fun t_ k_ => XS.iload X49.here hx rfl (hb hby at_119) rfl k_) ?_
        show G (T49.setTop (mkF m 121 #[.val (.int i0), .val (.int i1), .val (.int i2), .val (.int i3), .val (.int n1), .val (.int r_2), .val (.int r_3), .val (.int r_4), .unset, .unset, .unset, .unset, .unset] [(.int r_4), (.int (2 : Int32)), (.ref b46), (.ref b46), (.ref b45), (.ref b45)]))
        obtain ⟨c51, Ar51, q51, S51, M51, H51, G51⟩ := id V49
        obtain ⟨T51, h51, X51, e51, W51, st51⟩ := stC X49 hx hZ e49 Ar51 (j := (2 : Int32)) (inb_of S51 ⟨by decide, by decide⟩) (g := (mkF m 121 #[.val (.int i0), .val (.int i1), .val (.int i2), .val (.int i3), .val (.int n1), .val (.int r_2), .val (.int r_3), .val (.int r_4), .unset, .unset, .unset, .unset, .unset] [(.int r_4), (.int (2 : Int32)), (.ref b46), (.ref b46), (.ref b45), (.ref b45)])) rfl rfl (hb hby at_121)
        refine hG _ _ st51 ?_
        have sf52 := (R49.safe V47.lt sf50)
        have R51 := (CHr.wr W51 sf52 R49.1)
        have C51 := C49.trans R51
        have K51 : Keep h0 h51 [] := K49.wr W51 (Or.inr (Nat.le_trans K45.1 (Nat.le_of_eq z46.symm)))
        have O51 : own_Old Z h51 := O49.wr W51 (own_ge O45 (Nat.le_of_eq z46.symm))
        rw [own_narC r4_0] at W51
        have V51 : Arv Z h51 b46 k46 .char (3 : Int32) [(.int r_2), (.int r_3), (.int r_4)] (.int (0 : Int32)) := Arv.set Ar51 q51 S51 M51 H51 G51 (own_fitC r4_0) W51 2 rfl (Nat.le_of_ble_eq_true rfl)
        have N51 := Fr.snoc X51 N49 (own_ge O45 (Nat.le_of_eq z46.symm))
        show G (T51.setTop (mkF m 122 #[.val (.int i0), .val (.int i1), .val (.int i2), .val (.int i3), .val (.int n1), .val (.int r_2), .val (.int r_3), .val (.int r_4), .unset, .unset, .unset, .unset, .unset] [(.ref b46), (.ref b45), (.ref b45)]))
        have f54 := ((((A45.ext E46).wr W47).wr W49).wr W51)
        have f55 := (((((D45 (Or.inr (hw _ (List.mem_of_getElem? (i := 22) rfl))) (ty := .byte) (by decide)).ext E46).other W47 (Or.inl (own_ne A45.lt (Nat.le_of_eq z46.symm)))).other W49 (Or.inl (own_ne A45.lt (Nat.le_of_eq z46.symm)))).other W51 (Or.inl (own_ne A45.lt (Nat.le_of_eq z46.symm))))
        have f56 := (((((D45 (Or.inr (hw _ (List.mem_of_getElem? (i := 21) rfl))) (ty := (.array .byte)) (by decide)).ext E46).other W47 (Or.inl (own_ne A45.lt (Nat.le_of_eq z46.symm)))).other W49 (Or.inl (own_ne A45.lt (Nat.le_of_eq z46.symm)))).other W51 (Or.inl (own_ne A45.lt (Nat.le_of_eq z46.symm))))
        refine own_callI X51 hx hZ hG hown rfl (hw _ (List.mem_of_getElem? (i := 9) rfl)) (hw _ (List.mem_of_getElem? (i := 10) rfl)) (hw _ (List.mem_of_getElem? (i := 7) rfl)) (hw _ (List.mem_of_getElem? (i := 11) rfl)) (by decide) 1 (own_gstr1 l Z a0 hw b45 b46 k46 [r_2, r_3, r_4] cpt (.int (0 : Int32)) .null h51 O51 f54 f55 f56 (own_ge O0 (Nat.le_of_eq z45.symm)) V51 (Nat.le_of_ble_eq_true rfl) (Nat.le_of_ble_eq_true rfl) (own_allc r2_0 (own_allc r3_0 (own_allc r4_0 own_alln))) g0_S g1_hcpt g2_S g3_S g4_S) (by decide) (by decide) e51 (by rw [hml]; rfl) (lenOf own_pd8 rfl) (argsL := [(.ref b46)]) (rest := [(.ref b45)]) rfl rfl (Nat.le_of_eq rfl) (hb hby at_122) (by decide) (by decide) ?_
        intro T53 h53 v53 L53 X53 e53 q53
        obtain ⟨t_53, kt_53, cd_53, nb_53, vs_53, rfl, M53, J53, y53_0, r53_0, r53_1, r53_2, r53_3, r53_4⟩ := q53
        have N53 := Fr.app N51 M53
        have sf57 : Safe Z consts_1 _ h51 b45 := (own_safeStr hZ.alike f54 f56)
        have R53 := (CHr.keep J53 (allS sf57 all0) R51.1)
        have C53 := C51.trans R53
        have K53 : Keep h0 h53 [] := K51.trans J53 (allS (Or.inr (Nat.le_trans (Keep.refl h0 []).1 (Nat.le_of_eq z45.symm))) all0)
        have O53 : own_Old Z h53 := O51.keep J53 (allS (own_ge O0 (Nat.le_of_eq z45.symm)) all0)
        show G (T53.setTop (mkF m 125 #[.val (.int i0), .val (.int i1), .val (.int i2), .val (.int i3), .val (.int n1), .val (.int r_2), .val (.int r_3), .val (.int r_4), .unset, .unset, .unset, .unset, .unset] [(.ref b45)]))
        refine hG _ _ (fun t_ k_ => XS.astore X53.here hx rfl (hb hby at_125) rfl rfl (l' := #[.val (.int i0), .val (.int i1), .val (.int i2), .val (.int i3), .val (.int n1), .val (.int r_2), .val (.int r_3), .val (.int r_4), .val (.ref b45), .unset, .unset, .unset, .unset]) rfl k_) ?_
        show G (T53.setTop (mkF m 127 #[.val (.int i0), .val (.int i1), .val (.int i2), .val (.int i3), .val (.int n1), .val (.int r_2), .val (.int r_3), .val (.int r_4), .val (.ref b45), .unset, .unset, .unset, .unset] []))
        have hnL : n1 = (3 : Int32) := own_n3 hn_n1 hc25_5 hc46_13 hc72_26
        show G (T53.setTop (mkF m 127 #[.val (.int i0), .val (.int i1), .val (.int i2), .val (.int i3), .val (.int n1), .val (.int r_2), .val (.int r_3), .val (.int r_4), .val (.ref b45), .unset, .unset, .unset, .unset] []))
        refine hG _ _ (fun t_ k_ => XS.iload X53.here hx rfl (hb hby at_127) rfl k_) ?_
        show G (T53.setTop (mkF m 129 #[.val (.int i0), .val (.int i1), .val (.int i2), .val (.int i3), .val (.int n1), .val (.int r_2), .val (.int r_3), .val (.int r_4), .val (.ref b45), .unset, .unset, .unset, .unset] [(.int n1)]))
        refine hG _ _ (fun t_ k_ => XS.iconst X53.here hx rfl (hb hby at_129) k_) ?_
        show G (T53.setTop (mkF m 130 #[.val (.int i0), .val (.int i1), .val (.int i2), .val (.int i3), .val (.int n1), .val (.int r_2), .val (.int r_3), .val (.int r_4), .val (.ref b45), .unset, .unset, .unset, .unset] [(.int (1 : Int32)), (.int n1)]))
        refine hG _ _ (fun t_ k_ => XS.icmpNo X53.here hx rfl (hb hby at_130) rfl (flt (by rw [hnL]; decide)).1 k_) ?_
        show G (T53.setTop (mkF m 133 #[.val (.int i0), .val (.int i1), .val (.int i2), .val (.int i3), .val (.int n1), .val (.int r_2), .val (.int r_3), .val (.int r_4), .val (.ref b45), .unset, .unset, .unset, .unset] []))
        refine hG _ _ (fun t_ k_ => XS.iload X53.here hx rfl (hb hby at_133) rfl k_) ?_
        show G (T53.setTop (mkF m 135 #[.val (.int i0), .val (.int i1), .val (.int i2), .val (.int i3), .val (.int n1), .val (.int r_2), .val (.int r_3), .val (.int r_4), .val (.ref b45), .unset, .unset, .unset, .unset] [(.int r_2)]))
        refine hG _ _ (fun t_ k_ => XS.bipush X53.here hx rfl (hb hby at_135) k_) ?_
        show G (T53.setTop (mkF m 137 #[.val (.int i0), .val (.int i1), .val (.int i2), .val (.int i3), .val (.int n1), .val (.int r_2), .val (.int r_3), .val (.int r_4), .val (.ref b45), .unset, .unset, .unset, .unset] [(.int (58 : Int32)), (.int r_2)]))
        by_cases hc137_58 : r_2 = (58 : Int32)
        · skip
          refine hG _ _ (fun t_ k_ => XS.icmpNo X53.here hx rfl (hb hby at_137) rfl (teq hc137_58).2 k_) ?_
          show G (T53.setTop (mkF m 140 #[.val (.int i0), .val (.int i1), .val (.int i2), .val (.int i3), .val (.int n1), .val (.int r_2), .val (.int r_3), .val (.int r_4), .val (.ref b45), .unset, .unset, .unset, .unset] []))
          refine hG _ _ (fun t_ k_ => XS.iconst X53.here hx rfl (hb hby at_140) k_) ?_
          show G (T53.setTop (mkF m 141 #[.val (.int i0), .val (.int i1), .val (.int i2), .val (.int i3), .val (.int n1), .val (.int r_2), .val (.int r_3), .val (.int r_4), .val (.ref b45), .unset, .unset, .unset, .unset] [(.int (1 : Int32))]))
          refine hG _ _ (fun t_ k_ => XS.goto X53.here hx rfl (pc0 := 141) (pc' := 145) rfl (hb hby at_141) (by decide) (by decide) k_) ?_
          show G (T53.setTop (mkF m 145 #[.val (.int i0), .val (.int i1), .val (.int i2), .val (.int i3), .val (.int n1), .val (.int r_2), .val (.int r_3), .val (.int r_4), .val (.ref b45), .unset, .unset, .unset, .unset] [(.int (1 : Int32))]))
          refine hG _ _ (fun t_ k_ => XS.istore X53.here hx rfl (hb hby at_145) rfl (l' := #[.val (.int i0), .val (.int i1), .val (.int i2), .val (.int i3), .val (.int n1), .val (.int r_2), .val (.int r_3), .val (.int r_4), .val (.ref b45), .val (.int (1 : Int32)), .unset, .unset, .unset]) rfl k_) ?_
          show G (T53.setTop (mkF m 147 #[.val (.int i0), .val (.int i1), .val (.int i2), .val (.int i3), .val (.int n1), .val (.int r_2), .val (.int r_3), .val (.int r_4), .val (.ref b45), .val (.int (1 : Int32)), .unset, .unset, .unset] []))
          refine hG _ _ (fun t_ k_ => XS.iload X53.here hx rfl (hb hby at_147) rfl k_) ?_
          show G (T53.setTop (mkF m 149 #[.val (.int i0), .val (.int i1), .val (.int i2), .val (.int i3), .val (.int n1), .val (.int r_2), .val (.int r_3), .val (.int r_4), .val (.ref b45), .val (.int (1 : Int32)), .unset, .unset, .unset] [(.int n1)]))
          refine hG _ _ (fun t_ k_ => XS.iconst X53.here hx rfl (hb hby at_149) k_) ?_
          show G (T53.setTop (mkF m 150 #[.val (.int i0), .val (.int i1), .val (.int i2), .val (.int i3), .val (.int n1), .val (.int r_2), .val (.int r_3), .val (.int r_4), .val (.ref b45), .val (.int (1 : Int32)), .unset, .unset, .unset] [(.int (2 : Int32)), (.int n1)]))
          refine hG _ _ (fun t_ k_ => XS.icmpNo X53.here hx rfl (hb hby at_150) rfl (flt (by rw [hnL]; decide)).1 k_) ?_
          show G (T53.setTop (mkF m 153 #[.val (.int i0), .val (.int i1), .val (.int i2), .val (.int i3), .val (.int n1), .val (.int r_2), .val (.int r_3), .val (.int r_4), .val (.ref b45), .val (.int (1 : Int32)), .unset, .unset, .unset] []))
          refine hG _ _ (fun t_ k_ => XS.iload X53.here hx rfl (hb hby at_153) rfl k_) ?_
          show G (T53.setTop (mkF m 155 #[.val (.int i0), .val (.int i1), .val (.int i2), .val (.int i3), .val (.int n1), .val (.int r_2), .val (.int r_3), .val (.int r_4), .val (.ref b45), .val (.int (1 : Int32)), .unset, .unset, .unset] [(.int r_3)]))
          refine hG _ _ (fun t_ k_ => XS.bipush X53.here hx rfl (hb hby at_155) k_) ?_
          show G (T53.setTop (mkF m 157 #[.val (.int i0), .val (.int i1), .val (.int i2), .val (.int i3), .val (.int n1), .val (.int r_2), .val (.int r_3), .val (.int r_4), .val (.ref b45), .val (.int (1 : Int32)), .unset, .unset, .unset] [(.int (58 : Int32)), (.int r_3)]))
          by_cases hc157_59 : r_3 = (58 : Int32)
          · skip
            refine hG _ _ (fun t_ k_ => XS.icmpNo X53.here hx rfl (hb hby at_157) rfl (teq hc157_59).2 k_) ?_
            show G (T53.setTop (mkF m 160 #[.val (.int i0), .val (.int i1), .val (.int i2), .val (.int i3), .val (.int n1), .val (.int r_2), .val (.int r_3), .val (.int r_4), .val (.ref b45), .val (.int (1 : Int32)), .unset, .unset, .unset] []))
            refine hG _ _ (fun t_ k_ => XS.iconst X53.here hx rfl (hb hby at_160) k_) ?_
            show G (T53.setTop (mkF m 161 #[.val (.int i0), .val (.int i1), .val (.int i2), .val (.int i3), .val (.int n1), .val (.int r_2), .val (.int r_3), .val (.int r_4), .val (.ref b45), .val (.int (1 : Int32)), .unset, .unset, .unset] [(.int (1 : Int32))]))
            refine hG _ _ (fun t_ k_ => XS.goto X53.here hx rfl (pc0 := 161) (pc' := 165) rfl (hb hby at_161) (by decide) (by decide) k_) ?_
            show G (T53.setTop (mkF m 165 #[.val (.int i0), .val (.int i1), .val (.int i2), .val (.int i3), .val (.int n1), .val (.int r_2), .val (.int r_3), .val (.int r_4), .val (.ref b45), .val (.int (1 : Int32)), .unset, .unset, .unset] [(.int (1 : Int32))]))
            refine hG _ _ (fun t_ k_ => XS.istore X53.here hx rfl (hb hby at_165) rfl (l' := #[.val (.int i0), .val (.int i1), .val (.int i2), .val (.int i3), .val (.int n1), .val (.int r_2), .val (.int r_3), .val (.int r_4), .val (.ref b45), .val (.int (1 : Int32)), .val (.int (1 : Int32)), .unset, .unset]) rfl k_) ?_
            show G (T53.setTop (mkF m 167 #[.val (.int i0), .val (.int i1), .val (.int i2), .val (.int i3), .val (.int n1), .val (.int r_2), .val (.int r_3), .val (.int r_4), .val (.ref b45), .val (.int (1 : Int32)), .val (.int (1 : Int32)), .unset, .unset] []))
            refine hG _ _ (fun t_ k_ => XS.iload X53.here hx rfl (hb hby at_167) rfl k_) ?_
            show G (T53.setTop (mkF m 169 #[.val (.int i0), .val (.int i1), .val (.int i2), .val (.int i3), .val (.int n1), .val (.int r_2), .val (.int r_3), .val (.int r_4), .val (.ref b45), .val (.int (1 : Int32)), .val (.int (1 : Int32)), .unset, .unset] [(.int n1)]))
            refine hG _ _ (fun t_ k_ => XS.iconst X53.here hx rfl (hb hby at_169) k_) ?_
            show G (T53.setTop (mkF m 170 #[.val (.int i0), .val (.int i1), .val (.int i2), .val (.int i3), .val (.int n1), .val (.int r_2), .val (.int r_3), .val (.int r_4), .val (.ref b45), .val (.int (1 : Int32)), .val (.int (1 : Int32)), .unset, .unset] [(.int (3 : Int32)), (.int n1)]))
            refine hG _ _ (fun t_ k_ => XS.icmpNo X53.here hx rfl (hb hby at_170) rfl (flt (by rw [hnL]; decide)).1 k_) ?_
            show G (T53.setTop (mkF m 173 #[.val (.int i0), .val (.int i1), .val (.int i2), .val (.int i3), .val (.int n1), .val (.int r_2), .val (.int r_3), .val (.int r_4), .val (.ref b45), .val (.int (1 : Int32)), .val (.int (1 : Int32)), .unset, .unset] []))
            refine hG _ _ (fun t_ k_ => XS.iload X53.here hx rfl (hb hby at_173) rfl k_) ?_
            show G (T53.setTop (mkF m 175 #[.val (.int i0), .val (.int i1), .val (.int i2), .val (.int i3), .val (.int n1), .val (.int r_2), .val (.int r_3), .val (.int r_4), .val (.ref b45), .val (.int (1 : Int32)), .val (.int (1 : Int32)), .unset, .unset] [(.int r_4)]))
            refine hG _ _ (fun t_ k_ => XS.bipush X53.here hx rfl (hb hby at_175) k_) ?_
            show G (T53.setTop (mkF m 177 #[.val (.int i0), .val (.int i1), .val (.int i2), .val (.int i3), .val (.int n1), .val (.int r_2), .val (.int r_3), .val (.int r_4), .val (.ref b45), .val (.int (1 : Int32)), .val (.int (1 : Int32)), .unset, .unset] [(.int (58 : Int32)), (.int r_4)]))
            by_cases hc177_60 : r_4 = (58 : Int32)
            · skip
              refine hG _ _ (fun t_ k_ => XS.icmpNo X53.here hx rfl (hb hby at_177) rfl (teq hc177_60).2 k_) ?_
              show G (T53.setTop (mkF m 180 #[.val (.int i0), .val (.int i1), .val (.int i2), .val (.int i3), .val (.int n1), .val (.int r_2), .val (.int r_3), .val (.int r_4), .val (.ref b45), .val (.int (1 : Int32)), .val (.int (1 : Int32)), .unset, .unset] []))
              refine hG _ _ (fun t_ k_ => XS.iconst X53.here hx rfl (hb hby at_180) k_) ?_
              show G (T53.setTop (mkF m 181 #[.val (.int i0), .val (.int i1), .val (.int i2), .val (.int i3), .val (.int n1), .val (.int r_2), .val (.int r_3), .val (.int r_4), .val (.ref b45), .val (.int (1 : Int32)), .val (.int (1 : Int32)), .unset, .unset] [(.int (1 : Int32))]))
              refine hG _ _ (fun t_ k_ => XS.goto X53.here hx rfl (pc0 := 181) (pc' := 185) rfl (hb hby at_181) (by decide) (by decide) k_) ?_
              show G (T53.setTop (mkF m 185 #[.val (.int i0), .val (.int i1), .val (.int i2), .val (.int i3), .val (.int n1), .val (.int r_2), .val (.int r_3), .val (.int r_4), .val (.ref b45), .val (.int (1 : Int32)), .val (.int (1 : Int32)), .unset, .unset] [(.int (1 : Int32))]))
              refine hG _ _ (fun t_ k_ => XS.istore X53.here hx rfl (hb hby at_185) rfl (l' := #[.val (.int i0), .val (.int i1), .val (.int i2), .val (.int i3), .val (.int n1), .val (.int r_2), .val (.int r_3), .val (.int r_4), .val (.ref b45), .val (.int (1 : Int32)), .val (.int (1 : Int32)), .val (.int (1 : Int32)), .unset]) rfl k_) ?_
              show G (T53.setTop (mkF m 187 #[.val (.int i0), .val (.int i1), .val (.int i2), .val (.int i3), .val (.int n1), .val (.int r_2), .val (.int r_3), .val (.int r_4), .val (.ref b45), .val (.int (1 : Int32)), .val (.int (1 : Int32)), .val (.int (1 : Int32)), .unset] []))
              refine hG _ _ (fun t_ k_ => XS.iload X53.here hx rfl (hb hby at_187) rfl k_) ?_
              show G (T53.setTop (mkF m 189 #[.val (.int i0), .val (.int i1), .val (.int i2), .val (.int i3), .val (.int n1), .val (.int r_2), .val (.int r_3), .val (.int r_4), .val (.ref b45), .val (.int (1 : Int32)), .val (.int (1 : Int32)), .val (.int (1 : Int32)), .unset] [(.int (1 : Int32))]))
              refine hG _ _ (fun t_ k_ => XS.ifYes X53.here hx rfl (pc0 := 189) (pc' := 206) rfl (hb hby at_189) rfl ((if0 _ _).trans (feq (by decide)).2) (by decide) (by decide) k_) ?_
              show G (T53.setTop (mkF m 206 #[.val (.int i0), .val (.int i1), .val (.int i2), .val (.int i3), .val (.int n1), .val (.int r_2), .val (.int r_3), .val (.int r_4), .val (.ref b45), .val (.int (1 : Int32)), .val (.int (1 : Int32)), .val (.int (1 : Int32)), .unset] []))
              refine hG _ _ (fun t_ k_ => XS.iconst X53.here hx rfl (hb hby at_206) k_) ?_
              show G (T53.setTop (mkF m 207 #[.val (.int i0), .val (.int i1), .val (.int i2), .val (.int i3), .val (.int n1), .val (.int r_2), .val (.int r_3), .val (.int r_4), .val (.ref b45), .val (.int (1 : Int32)), .val (.int (1 : Int32)), .val (.int (1 : Int32)), .unset] [(.int (0 : Int32))]))
              refine hG _ _ (fun t_ k_ => XS.istore X53.here hx rfl (hb hby at_207) rfl (l' := #[.val (.int i0), .val (.int i1), .val (.int i2), .val (.int i3), .val (.int n1), .val (.int r_2), .val (.int r_3), .val (.int r_4), .val (.ref b45), .val (.int (1 : Int32)), .val (.int (1 : Int32)), .val (.int (1 : Int32)), .val (.int (0 : Int32))]) rfl k_) ?_
              show G (T53.setTop (mkF m 209 #[.val (.int i0), .val (.int i1), .val (.int i2), .val (.int i3), .val (.int n1), .val (.int r_2), .val (.int r_3), .val (.int r_4), .val (.ref b45), .val (.int (1 : Int32)), .val (.int (1 : Int32)), .val (.int (1 : Int32)), .val (.int (0 : Int32))] []))
              refine hG _ _ (fun t_ k_ => XS.aload X53.here hx rfl (hb hby at_209) rfl rfl k_) ?_
              show G (T53.setTop (mkF m 211 #[.val (.int i0), .val (.int i1), .val (.int i2), .val (.int i3), .val (.int n1), .val (.int r_2), .val (.int r_3), .val (.int r_4), .val (.ref b45), .val (.int (1 : Int32)), .val (.int (1 : Int32)), .val (.int (1 : Int32)), .val (.int (0 : Int32))] [(.ref b45)]))
              refine own_callS X53 hx hZ hG hown (hw _ (List.mem_of_getElem? (i := 27) rfl)) (hw _ (List.mem_of_getElem? (i := 28) rfl)) (hw _ (List.mem_of_getElem? (i := 29) rfl)) (hw _ (List.mem_of_getElem? (i := 30) rfl)) (by decide) 0 (own_ccF l Z a0 hw b45 t_53 kt_53 [r_2, r_3, r_4] cd_53 nb_53 vs_53 cpt fmt h53 O53 r53_0 r53_1 r53_2 r53_3 r53_4 (Nat.le_of_ble_eq_true rfl) (own_allc r2_0 (own_allc r3_0 (own_allc r4_0 own_alln))) g0_S g1_hcpt g2_S g3_S g4_S g5_hfmt g6_S ⟨r_2, (List.mem_of_getElem? (i := 0) rfl), hc137_58⟩) (by decide) (by decide) e53 (by rw [hml]; rfl) (lenOf own_pd19 rfl) (argsL := [(.ref b45)]) (rest := []) rfl rfl (Nat.le_of_eq rfl) (hb hby at_211) (by decide) (by decide) ?_
              intro T61 h61 v61 L61 X61 e61 q61
              obtain ⟨rfl, M61, rfl⟩ := q61
              have N61 := Fr.app N53 M61
              show G (T61.setTop (mkF m 214 #[.val (.int i0), .val (.int i1), .val (.int i2), .val (.int i3), .val (.int n1), .val (.int r_2), .val (.int r_3), .val (.int r_4), .val (.ref b45), .val (.int (1 : Int32)), .val (.int (1 : Int32)), .val (.int (1 : Int32)), .val (.int (0 : Int32))] [(.int (0 : Int32))]))
              refine hG _ _ (fun t_ k_ => XS.iload X61.here hx rfl (hb hby at_214) rfl k_) ?_
              show G (T61.setTop (mkF m 216 #[.val (.int i0), .val (.int i1), .val (.int i2), .val (.int i3), .val (.int n1), .val (.int r_2), .val (.int r_3), .val (.int r_4), .val (.ref b45), .val (.int (1 : Int32)), .val (.int (1 : Int32)), .val (.int (1 : Int32)), .val (.int (0 : Int32))] [(.int (0 : Int32)), (.int (0 : Int32))]))
              refine hG _ _ (fun t_ k_ => XS.icmpNo X61.here hx rfl (hb hby at_216) rfl (teq (by decide)).2 k_) ?_
              show G (T61.setTop (mkF m 219 #[.val (.int i0), .val (.int i1), .val (.int i2), .val (.int i3), .val (.int n1), .val (.int r_2), .val (.int r_3), .val (.int r_4), .val (.ref b45), .val (.int (1 : Int32)), .val (.int (1 : Int32)), .val (.int (1 : Int32)), .val (.int (0 : Int32))] []))
              refine hG _ _ (fun t_ k_ => XS.iconst X61.here hx rfl (hb hby at_219) k_) ?_
              show G (T61.setTop (mkF m 220 #[.val (.int i0), .val (.int i1), .val (.int i2), .val (.int i3), .val (.int n1), .val (.int r_2), .val (.int r_3), .val (.int r_4), .val (.ref b45), .val (.int (1 : Int32)), .val (.int (1 : Int32)), .val (.int (1 : Int32)), .val (.int (0 : Int32))] [(.int (1 : Int32))]))
              refine hG _ _ (fun t_ k_ => XS.goto X61.here hx rfl (pc0 := 220) (pc' := 224) rfl (hb hby at_220) (by decide) (by decide) k_) ?_
              show G (T61.setTop (mkF m 224 #[.val (.int i0), .val (.int i1), .val (.int i2), .val (.int i3), .val (.int n1), .val (.int r_2), .val (.int r_3), .val (.int r_4), .val (.ref b45), .val (.int (1 : Int32)), .val (.int (1 : Int32)), .val (.int (1 : Int32)), .val (.int (0 : Int32))] [(.int (1 : Int32))]))
              exact own_retNW hR hret (by simp) X61 hx (hb hby at_224) e61 SI0 (Nat.le_trans (Nat.le_trans (Nat.le_trans (Nat.le_trans (Nat.le_trans (Nat.le_trans (Nat.le_refl _) R45.2.1) R46.2.1) R47.2.1) R49.2.1) R51.2.1) R53.2.1) hZ C53 (by decide) (by decide) ⟨rfl, N61, K53⟩
            · skip
              refine hG _ _ (fun t_ k_ => XS.icmpYes X53.here hx rfl (pc0 := 177) (pc' := 184) rfl (hb hby at_177) rfl (feq hc177_60).2 (by decide) (by decide) k_) ?_
              show G (T53.setTop (mkF m 184 #[.val (.int i0), .val (.int i1), .val (.int i2), .val (.int i3), .val (.int n1), .val (.int r_2), .val (.int r_3), .val (.int r_4), .val (.ref b45), .val (.int (1 : Int32)), .val (.int (1 : Int32)), .unset, .unset] []))
              refine hG _ _ (fun t_ k_ => XS.iconst X53.here hx rfl (hb hby at_184) k_) ?_
              show G (T53.setTop (mkF m 185 #[.val (.int i0), .val (.int i1), .val (.int i2), .val (.int i3), .val (.int n1), .val (.int r_2), .val (.int r_3), .val (.int r_4), .val (.ref b45), .val (.int (1 : Int32)), .val (.int (1 : Int32)), .unset, .unset] [(.int (0 : Int32))]))
              refine hG _ _ (fun t_ k_ => XS.istore X53.here hx rfl (hb hby at_185) rfl (l' := #[.val (.int i0), .val (.int i1), .val (.int i2), .val (.int i3), .val (.int n1), .val (.int r_2), .val (.int r_3), .val (.int r_4), .val (.ref b45), .val (.int (1 : Int32)), .val (.int (1 : Int32)), .val (.int (0 : Int32)), .unset]) rfl k_) ?_
              show G (T53.setTop (mkF m 187 #[.val (.int i0), .val (.int i1), .val (.int i2), .val (.int i3), .val (.int n1), .val (.int r_2), .val (.int r_3), .val (.int r_4), .val (.ref b45), .val (.int (1 : Int32)), .val (.int (1 : Int32)), .val (.int (0 : Int32)), .unset] []))
              refine hG _ _ (fun t_ k_ => XS.iload X53.here hx rfl (hb hby at_187) rfl k_) ?_
              show G (T53.setTop (mkF m 189 #[.val (.int i0), .val (.int i1), .val (.int i2), .val (.int i3), .val (.int n1), .val (.int r_2), .val (.int r_3), .val (.int r_4), .val (.ref b45), .val (.int (1 : Int32)), .val (.int (1 : Int32)), .val (.int (0 : Int32)), .unset] [(.int (1 : Int32))]))
              refine hG _ _ (fun t_ k_ => XS.ifYes X53.here hx rfl (pc0 := 189) (pc' := 206) rfl (hb hby at_189) rfl ((if0 _ _).trans (feq (by decide)).2) (by decide) (by decide) k_) ?_
              show G (T53.setTop (mkF m 206 #[.val (.int i0), .val (.int i1), .val (.int i2), .val (.int i3), .val (.int n1), .val (.int r_2), .val (.int r_3), .val (.int r_4), .val (.ref b45), .val (.int (1 : Int32)), .val (.int (1 : Int32)), .val (.int (0 : Int32)), .unset] []))
              refine hG _ _ (fun t_ k_ => XS.iconst X53.here hx rfl (hb hby at_206) k_) ?_
              show G (T53.setTop (mkF m 207 #[.val (.int i0), .val (.int i1), .val (.int i2), .val (.int i3), .val (.int n1), .val (.int r_2), .val (.int r_3), .val (.int r_4), .val (.ref b45), .val (.int (1 : Int32)), .val (.int (1 : Int32)), .val (.int (0 : Int32)), .unset] [(.int (0 : Int32))]))
              refine hG _ _ (fun t_ k_ => XS.istore X53.here hx rfl (hb hby at_207) rfl (l' := #[.val (.int i0), .val (.int i1), .val (.int i2), .val (.int i3), .val (.int n1), .val (.int r_2), .val (.int r_3), .val (.int r_4), .val (.ref b45), .val (.int (1 : Int32)), .val (.int (1 : Int32)), .val (.int (0 : Int32)), .val (.int (0 : Int32))]) rfl k_) ?_
              show G (T53.setTop (mkF m 209 #[.val (.int i0), .val (.int i1), .val (.int i2), .val (.int i3), .val (.int n1), .val (.int r_2), .val (.int r_3), .val (.int r_4), .val (.ref b45), .val (.int (1 : Int32)), .val (.int (1 : Int32)), .val (.int (0 : Int32)), .val (.int (0 : Int32))] []))
              refine hG _ _ (fun t_ k_ => XS.aload X53.here hx rfl (hb hby at_209) rfl rfl k_) ?_
              show G (T53.setTop (mkF m 211 #[.val (.int i0), .val (.int i1), .val (.int i2), .val (.int i3), .val (.int n1), .val (.int r_2), .val (.int r_3), .val (.int r_4), .val (.ref b45), .val (.int (1 : Int32)), .val (.int (1 : Int32)), .val (.int (0 : Int32)), .val (.int (0 : Int32))] [(.ref b45)]))
              refine own_callS X53 hx hZ hG hown (hw _ (List.mem_of_getElem? (i := 27) rfl)) (hw _ (List.mem_of_getElem? (i := 28) rfl)) (hw _ (List.mem_of_getElem? (i := 29) rfl)) (hw _ (List.mem_of_getElem? (i := 30) rfl)) (by decide) 0 (own_ccF l Z a0 hw b45 t_53 kt_53 [r_2, r_3, r_4] cd_53 nb_53 vs_53 cpt fmt h53 O53 r53_0 r53_1 r53_2 r53_3 r53_4 (Nat.le_of_ble_eq_true rfl) (own_allc r2_0 (own_allc r3_0 (own_allc r4_0 own_alln))) g0_S g1_hcpt g2_S g3_S g4_S g5_hfmt g6_S ⟨r_2, (List.mem_of_getElem? (i := 0) rfl), hc137_58⟩) (by decide) (by decide) e53 (by rw [hml]; rfl) (lenOf own_pd19 rfl) (argsL := [(.ref b45)]) (rest := []) rfl rfl (Nat.le_of_eq rfl) (hb hby at_211) (by decide) (by decide) ?_
              intro T62 h62 v62 L62 X62 e62 q62
              obtain ⟨rfl, M62, rfl⟩ := q62
              have N62 := Fr.app N53 M62
              show G (T62.setTop (mkF m 214 #[.val (.int i0), .val (.int i1), .val (.int i2), .val (.int i3), .val (.int n1), .val (.int r_2), .val (.int r_3), .val (.int r_4), .val (.ref b45), .val (.int (1 : Int32)), .val (.int (1 : Int32)), .val (.int (0 : Int32)), .val (.int (0 : Int32))] [(.int (0 : Int32))]))
              refine hG _ _ (fun t_ k_ => XS.iload X62.here hx rfl (hb hby at_214) rfl k_) ?_
              show G (T62.setTop (mkF m 216 #[.val (.int i0), .val (.int i1), .val (.int i2), .val (.int i3), .val (.int n1), .val (.int r_2), .val (.int r_3), .val (.int r_4), .val (.ref b45), .val (.int (1 : Int32)), .val (.int (1 : Int32)), .val (.int (0 : Int32)), .val (.int (0 : Int32))] [(.int (0 : Int32)), (.int (0 : Int32))]))
              refine hG _ _ (fun t_ k_ => XS.icmpNo X62.here hx rfl (hb hby at_216) rfl (teq (by decide)).2 k_) ?_
              show G (T62.setTop (mkF m 219 #[.val (.int i0), .val (.int i1), .val (.int i2), .val (.int i3), .val (.int n1), .val (.int r_2), .val (.int r_3), .val (.int r_4), .val (.ref b45), .val (.int (1 : Int32)), .val (.int (1 : Int32)), .val (.int (0 : Int32)), .val (.int (0 : Int32))] []))
              refine hG _ _ (fun t_ k_ => XS.iconst X62.here hx rfl (hb hby at_219) k_) ?_
              show G (T62.setTop (mkF m 220 #[.val (.int i0), .val (.int i1), .val (.int i2), .val (.int i3), .val (.int n1), .val (.int r_2), .val (.int r_3), .val (.int r_4), .val (.ref b45), .val (.int (1 : Int32)), .val (.int (1 : Int32)), .val (.int (0 : Int32)), .val (.int (0 : Int32))] [(.int (1 : Int32))]))
              refine hG _ _ (fun t_ k_ => XS.goto X62.here hx rfl (pc0 := 220) (pc' := 224) rfl (hb hby at_220) (by decide) (by decide) k_) ?_
              show G (T62.setTop (mkF m 224 #[.val (.int i0), .val (.int i1), .val (.int i2), .val (.int i3), .val (.int n1), .val (.int r_2), .val (.int r_3), .val (.int r_4), .val (.ref b45), .val (.int (1 : Int32)), .val (.int (1 : Int32)), .val (.int (0 : Int32)), .val (.int (0 : Int32))] [(.int (1 : Int32))]))
              exact own_retNW hR hret (by simp) X62 hx (hb hby at_224) e62 SI0 (Nat.le_trans (Nat.le_trans (Nat.le_trans (Nat.le_trans (Nat.le_trans (Nat.le_trans (Nat.le_refl _) R45.2.1) R46.2.1) R47.2.1) R49.2.1) R51.2.1) R53.2.1) hZ C53 (by decide) (by decide) ⟨rfl, N62, K53⟩
          · skip
            refine hG _ _ (fun t_ k_ => XS.icmpYes X53.here hx rfl (pc0 := 157) (pc' := 164) rfl (hb hby at_157) rfl (feq hc157_59).2 (by decide) (by decide) k_) ?_
            show G (T53.setTop (mkF m 164 #[.val (.int i0), .val (.int i1), .val (.int i2), .val (.int i3), .val (.int n1), .val (.int r_2), .val (.int r_3), .val (.int r_4), .val (.ref b45), .val (.int (1 : Int32)), .unset, .unset, .unset] []))
            refine hG _ _ (fun t_ k_ => XS.iconst X53.here hx rfl (hb hby at_164) k_) ?_
            show G (T53.setTop (mkF m 165 #[.val (.int i0), .val (.int i1), .val (.int i2), .val (.int i3), .val (.int n1), .val (.int r_2), .val (.int r_3), .val (.int r_4), .val (.ref b45), .val (.int (1 : Int32)), .unset, .unset, .unset] [(.int (0 : Int32))]))
            refine hG _ _ (fun t_ k_ => XS.istore X53.here hx rfl (hb hby at_165) rfl (l' := #[.val (.int i0), .val (.int i1), .val (.int i2), .val (.int i3), .val (.int n1), .val (.int r_2), .val (.int r_3), .val (.int r_4), .val (.ref b45), .val (.int (1 : Int32)), .val (.int (0 : Int32)), .unset, .unset]) rfl k_) ?_
            show G (T53.setTop (mkF m 167 #[.val (.int i0), .val (.int i1), .val (.int i2), .val (.int i3), .val (.int n1), .val (.int r_2), .val (.int r_3), .val (.int r_4), .val (.ref b45), .val (.int (1 : Int32)), .val (.int (0 : Int32)), .unset, .unset] []))
            refine hG _ _ (fun t_ k_ => XS.iload X53.here hx rfl (hb hby at_167) rfl k_) ?_
            show G (T53.setTop (mkF m 169 #[.val (.int i0), .val (.int i1), .val (.int i2), .val (.int i3), .val (.int n1), .val (.int r_2), .val (.int r_3), .val (.int r_4), .val (.ref b45), .val (.int (1 : Int32)), .val (.int (0 : Int32)), .unset, .unset] [(.int n1)]))
            refine hG _ _ (fun t_ k_ => XS.iconst X53.here hx rfl (hb hby at_169) k_) ?_
            show G (T53.setTop (mkF m 170 #[.val (.int i0), .val (.int i1), .val (.int i2), .val (.int i3), .val (.int n1), .val (.int r_2), .val (.int r_3), .val (.int r_4), .val (.ref b45), .val (.int (1 : Int32)), .val (.int (0 : Int32)), .unset, .unset] [(.int (3 : Int32)), (.int n1)]))
            refine hG _ _ (fun t_ k_ => XS.icmpNo X53.here hx rfl (hb hby at_170) rfl (flt (by rw [hnL]; decide)).1 k_) ?_
            show G (T53.setTop (mkF m 173 #[.val (.int i0), .val (.int i1), .val (.int i2), .val (.int i3), .val (.int n1), .val (.int r_2), .val (.int r_3), .val (.int r_4), .val (.ref b45), .val (.int (1 : Int32)), .val (.int (0 : Int32)), .unset, .unset] []))
            refine hG _ _ (fun t_ k_ => XS.iload X53.here hx rfl (hb hby at_173) rfl k_) ?_
            show G (T53.setTop (mkF m 175 #[.val (.int i0), .val (.int i1), .val (.int i2), .val (.int i3), .val (.int n1), .val (.int r_2), .val (.int r_3), .val (.int r_4), .val (.ref b45), .val (.int (1 : Int32)), .val (.int (0 : Int32)), .unset, .unset] [(.int r_4)]))
            refine hG _ _ (fun t_ k_ => XS.bipush X53.here hx rfl (hb hby at_175) k_) ?_
            show G (T53.setTop (mkF m 177 #[.val (.int i0), .val (.int i1), .val (.int i2), .val (.int i3), .val (.int n1), .val (.int r_2), .val (.int r_3), .val (.int r_4), .val (.ref b45), .val (.int (1 : Int32)), .val (.int (0 : Int32)), .unset, .unset] [(.int (58 : Int32)), (.int r_4)]))
            by_cases hc177_63 : r_4 = (58 : Int32)
            · skip
              refine hG _ _ (fun t_ k_ => XS.icmpNo X53.here hx rfl (hb hby at_177) rfl (teq hc177_63).2 k_) ?_
              show G (T53.setTop (mkF m 180 #[.val (.int i0), .val (.int i1), .val (.int i2), .val (.int i3), .val (.int n1), .val (.int r_2), .val (.int r_3), .val (.int r_4), .val (.ref b45), .val (.int (1 : Int32)), .val (.int (0 : Int32)), .unset, .unset] []))
              refine hG _ _ (fun t_ k_ => XS.iconst X53.here hx rfl (hb hby at_180) k_) ?_
              show G (T53.setTop (mkF m 181 #[.val (.int i0), .val (.int i1), .val (.int i2), .val (.int i3), .val (.int n1), .val (.int r_2), .val (.int r_3), .val (.int r_4), .val (.ref b45), .val (.int (1 : Int32)), .val (.int (0 : Int32)), .unset, .unset] [(.int (1 : Int32))]))
              refine hG _ _ (fun t_ k_ => XS.goto X53.here hx rfl (pc0 := 181) (pc' := 185) rfl (hb hby at_181) (by decide) (by decide) k_) ?_
              show G (T53.setTop (mkF m 185 #[.val (.int i0), .val (.int i1), .val (.int i2), .val (.int i3), .val (.int n1), .val (.int r_2), .val (.int r_3), .val (.int r_4), .val (.ref b45), .val (.int (1 : Int32)), .val (.int (0 : Int32)), .unset, .unset] [(.int (1 : Int32))]))
              refine hG _ _ (fun t_ k_ => XS.istore X53.here hx rfl (hb hby at_185) rfl (l' := #[.val (.int i0), .val (.int i1), .val (.int i2), .val (.int i3), .val (.int n1), .val (.int r_2), .val (.int r_3), .val (.int r_4), .val (.ref b45), .val (.int (1 : Int32)), .val (.int (0 : Int32)), .val (.int (1 : Int32)), .unset]) rfl k_) ?_
              show G (T53.setTop (mkF m 187 #[.val (.int i0), .val (.int i1), .val (.int i2), .val (.int i3), .val (.int n1), .val (.int r_2), .val (.int r_3), .val (.int r_4), .val (.ref b45), .val (.int (1 : Int32)), .val (.int (0 : Int32)), .val (.int (1 : Int32)), .unset] []))
              refine hG _ _ (fun t_ k_ => XS.iload X53.here hx rfl (hb hby at_187) rfl k_) ?_
              show G (T53.setTop (mkF m 189 #[.val (.int i0), .val (.int i1), .val (.int i2), .val (.int i3), .val (.int n1), .val (.int r_2), .val (.int r_3), .val (.int r_4), .val (.ref b45), .val (.int (1 : Int32)), .val (.int (0 : Int32)), .val (.int (1 : Int32)), .unset] [(.int (1 : Int32))]))
              refine hG _ _ (fun t_ k_ => XS.ifYes X53.here hx rfl (pc0 := 189) (pc' := 206) rfl (hb hby at_189) rfl ((if0 _ _).trans (feq (by decide)).2) (by decide) (by decide) k_) ?_
              show G (T53.setTop (mkF m 206 #[.val (.int i0), .val (.int i1), .val (.int i2), .val (.int i3), .val (.int n1), .val (.int r_2), .val (.int r_3), .val (.int r_4), .val (.ref b45), .val (.int (1 : Int32)), .val (.int (0 : Int32)), .val (.int (1 : Int32)), .unset] []))
              refine hG _ _ (fun t_ k_ => XS.iconst X53.here hx rfl (hb hby at_206) k_) ?_
              show G (T53.setTop (mkF m 207 #[.val (.int i0), .val (.int i1), .val (.int i2), .val (.int i3), .val (.int n1), .val (.int r_2), .val (.int r_3), .val (.int r_4), .val (.ref b45), .val (.int (1 : Int32)), .val (.int (0 : Int32)), .val (.int (1 : Int32)), .unset] [(.int (0 : Int32))]))
              refine hG _ _ (fun t_ k_ => XS.istore X53.here hx rfl (hb hby at_207) rfl (l' := #[.val (.int i0), .val (.int i1), .val (.int i2), .val (.int i3), .val (.int n1), .val (.int r_2), .val (.int r_3), .val (.int r_4), .val (.ref b45), .val (.int (1 : Int32)), .val (.int (0 : Int32)), .val (.int (1 : Int32)), .val (.int (0 : Int32))]) rfl k_) ?_
              show G (T53.setTop (mkF m 209 #[.val (.int i0), .val (.int i1), .val (.int i2), .val (.int i3), .val (.int n1), .val (.int r_2), .val (.int r_3), .val (.int r_4), .val (.ref b45), .val (.int (1 : Int32)), .val (.int (0 : Int32)), .val (.int (1 : Int32)), .val (.int (0 : Int32))] []))
              refine hG _ _ (fun t_ k_ => XS.aload X53.here hx rfl (hb hby at_209) rfl rfl k_) ?_
              show G (T53.setTop (mkF m 211 #[.val (.int i0), .val (.int i1), .val (.int i2), .val (.int i3), .val (.int n1), .val (.int r_2), .val (.int r_3), .val (.int r_4), .val (.ref b45), .val (.int (1 : Int32)), .val (.int (0 : Int32)), .val (.int (1 : Int32)), .val (.int (0 : Int32))] [(.ref b45)]))
              refine own_callS X53 hx hZ hG hown (hw _ (List.mem_of_getElem? (i := 27) rfl)) (hw _ (List.mem_of_getElem? (i := 28) rfl)) (hw _ (List.mem_of_getElem? (i := 29) rfl)) (hw _ (List.mem_of_getElem? (i := 30) rfl)) (by decide) 0 (own_ccF l Z a0 hw b45 t_53 kt_53 [r_2, r_3, r_4] cd_53 nb_53 vs_53 cpt fmt h53 O53 r53_0 r53_1 r53_2 r53_3 r53_4 (Nat.le_of_ble_eq_true rfl) (own_allc r2_0 (own_allc r3_0 (own_allc r4_0 own_alln))) g0_S g1_hcpt g2_S g3_S g4_S g5_hfmt g6_S ⟨r_2, (List.mem_of_getElem? (i := 0) rfl), hc137_58⟩) (by decide) (by decide) e53 (by rw [hml]; rfl) (lenOf own_pd19 rfl) (argsL := [(.ref b45)]) (rest := []) rfl rfl (Nat.le_of_eq rfl) (hb hby at_211) (by decide) (by decide) ?_
              intro T64 h64 v64 L64 X64 e64 q64
              obtain ⟨rfl, M64, rfl⟩ := q64
              have N64 := Fr.app N53 M64
              show G (T64.setTop (mkF m 214 #[.val (.int i0), .val (.int i1), .val (.int i2), .val (.int i3), .val (.int n1), .val (.int r_2), .val (.int r_3), .val (.int r_4), .val (.ref b45), .val (.int (1 : Int32)), .val (.int (0 : Int32)), .val (.int (1 : Int32)), .val (.int (0 : Int32))] [(.int (0 : Int32))]))
              refine hG _ _ (fun t_ k_ => XS.iload X64.here hx rfl (hb hby at_214) rfl k_) ?_
              show G (T64.setTop (mkF m 216 #[.val (.int i0), .val (.int i1), .val (.int i2), .val (.int i3), .val (.int n1), .val (.int r_2), .val (.int r_3), .val (.int r_4), .val (.ref b45), .val (.int (1 : Int32)), .val (.int (0 : Int32)), .val (.int (1 : Int32)), .val (.int (0 : Int32))] [(.int (0 : Int32)), (.int (0 : Int32))]))
              refine hG _ _ (fun t_ k_ => XS.icmpNo X64.here hx rfl (hb hby at_216) rfl (teq (by decide)).2 k_) ?_
              show G (T64.setTop (mkF m 219 #[.val (.int i0), .val (.int i1), .val (.int i2), .val (.int i3), .val (.int n1), .val (.int r_2), .val (.int r_3), .val (.int r_4), .val (.ref b45), .val (.int (1 : Int32)), .val (.int (0 : Int32)), .val (.int (1 : Int32)), .val (.int (0 : Int32))] []))
              refine hG _ _ (fun t_ k_ => XS.iconst X64.here hx rfl (hb hby at_219) k_) ?_
              show G (T64.setTop (mkF m 220 #[.val (.int i0), .val (.int i1), .val (.int i2), .val (.int i3), .val (.int n1), .val (.int r_2), .val (.int r_3), .val (.int r_4), .val (.ref b45), .val (.int (1 : Int32)), .val (.int (0 : Int32)), .val (.int (1 : Int32)), .val (.int (0 : Int32))] [(.int (1 : Int32))]))
              refine hG _ _ (fun t_ k_ => XS.goto X64.here hx rfl (pc0 := 220) (pc' := 224) rfl (hb hby at_220) (by decide) (by decide) k_) ?_
              show G (T64.setTop (mkF m 224 #[.val (.int i0), .val (.int i1), .val (.int i2), .val (.int i3), .val (.int n1), .val (.int r_2), .val (.int r_3), .val (.int r_4), .val (.ref b45), .val (.int (1 : Int32)), .val (.int (0 : Int32)), .val (.int (1 : Int32)), .val (.int (0 : Int32))] [(.int (1 : Int32))]))
              exact own_retNW hR hret (by simp) X64 hx (hb hby at_224) e64 SI0 (Nat.le_trans (Nat.le_trans (Nat.le_trans (Nat.le_trans (Nat.le_trans (Nat.le_trans (Nat.le_refl _) R45.2.1) R46.2.1) R47.2.1) R49.2.1) R51.2.1) R53.2.1) hZ C53 (by decide) (by decide) ⟨rfl, N64, K53⟩
            · skip
              refine hG _ _ (fun t_ k_ => XS.icmpYes X53.here hx rfl (pc0 := 177) (pc' := 184) rfl (hb hby at_177) rfl (feq hc177_63).2 (by decide) (by decide) k_) ?_
              show G (T53.setTop (mkF m 184 #[.val (.int i0), .val (.int i1), .val (.int i2), .val (.int i3), .val (.int n1), .val (.int r_2), .val (.int r_3), .val (.int r_4), .val (.ref b45), .val (.int (1 : Int32)), .val (.int (0 : Int32)), .unset, .unset] []))
              refine hG _ _ (fun t_ k_ => XS.iconst X53.here hx rfl (hb hby at_184) k_) ?_
              show G (T53.setTop (mkF m 185 #[.val (.int i0), .val (.int i1), .val (.int i2), .val (.int i3), .val (.int n1), .val (.int r_2), .val (.int r_3), .val (.int r_4), .val (.ref b45), .val (.int (1 : Int32)), .val (.int (0 : Int32)), .unset, .unset] [(.int (0 : Int32))]))
              refine hG _ _ (fun t_ k_ => XS.istore X53.here hx rfl (hb hby at_185) rfl (l' := #[.val (.int i0), .val (.int i1), .val (.int i2), .val (.int i3), .val (.int n1), .val (.int r_2), .val (.int r_3), .val (.int r_4), .val (.ref b45), .val (.int (1 : Int32)), .val (.int (0 : Int32)), .val (.int (0 : Int32)), .unset]) rfl k_) ?_
              show G (T53.setTop (mkF m 187 #[.val (.int i0), .val (.int i1), .val (.int i2), .val (.int i3), .val (.int n1), .val (.int r_2), .val (.int r_3), .val (.int r_4), .val (.ref b45), .val (.int (1 : Int32)), .val (.int (0 : Int32)), .val (.int (0 : Int32)), .unset] []))
              refine hG _ _ (fun t_ k_ => XS.iload X53.here hx rfl (hb hby at_187) rfl k_) ?_
              show G (T53.setTop (mkF m 189 #[.val (.int i0), .val (.int i1), .val (.int i2), .val (.int i3), .val (.int n1), .val (.int r_2), .val (.int r_3), .val (.int r_4), .val (.ref b45), .val (.int (1 : Int32)), .val (.int (0 : Int32)), .val (.int (0 : Int32)), .unset] [(.int (1 : Int32))]))
              refine hG _ _ (fun t_ k_ => XS.ifYes X53.here hx rfl (pc0 := 189) (pc' := 206) rfl (hb hby at_189) rfl ((if0 _ _).trans (feq (by decide)).2) (by decide) (by decide) k_) ?_
              show G (T53.setTop (mkF m 206 #[.val (.int i0), .val (.int i1), .val (.int i2), .val (.int i3), .val (.int n1), .val (.int r_2), .val (.int r_3), .val (.int r_4), .val (.ref b45), .val (.int (1 : Int32)), .val (.int (0 : Int32)), .val (.int (0 : Int32)), .unset] []))
              refine hG _ _ (fun t_ k_ => XS.iconst X53.here hx rfl (hb hby at_206) k_) ?_
              show G (T53.setTop (mkF m 207 #[.val (.int i0), .val (.int i1), .val (.int i2), .val (.int i3), .val (.int n1), .val (.int r_2), .val (.int r_3), .val (.int r_4), .val (.ref b45), .val (.int (1 : Int32)), .val (.int (0 : Int32)), .val (.int (0 : Int32)), .unset] [(.int (0 : Int32))]))
              refine hG _ _ (fun t_ k_ => XS.istore X53.here hx rfl (hb hby at_207) rfl (l' := #[.val (.int i0), .val (.int i1), .val (.int i2), .val (.int i3), .val (.int n1), .val (.int r_2), .val (.int r_3), .val (.int r_4), .val (.ref b45), .val (.int (1 : Int32)), .val (.int (0 : Int32)), .val (.int (0 : Int32)), .val (.int (0 : Int32))]) rfl k_) ?_
              show G (T53.setTop (mkF m 209 #[.val (.int i0), .val (.int i1), .val (.int i2), .val (.int i3), .val (.int n1), .val (.int r_2), .val (.int r_3), .val (.int r_4), .val (.ref b45), .val (.int (1 : Int32)), .val (.int (0 : Int32)), .val (.int (0 : Int32)), .val (.int (0 : Int32))] []))
              refine hG _ _ (fun t_ k_ => XS.aload X53.here hx rfl (hb hby at_209) rfl rfl k_) ?_
              show G (T53.setTop (mkF m 211 #[.val (.int i0), .val (.int i1), .val (.int i2), .val (.int i3), .val (.int n1), .val (.int r_2), .val (.int r_3), .val (.int r_4), .val (.ref b45), .val (.int (1 : Int32)), .val (.int (0 : Int32)), .val (.int (0 : Int32)), .val (.int (0 : Int32))] [(.ref b45)]))
              refine own_callS X53 hx hZ hG hown (hw _ (List.mem_of_getElem? (i := 27) rfl)) (hw _ (List.mem_of_getElem? (i := 28) rfl)) (hw _ (List.mem_of_getElem? (i := 29) rfl)) (hw _ (List.mem_of_getElem? (i := 30) rfl)) (by decide) 0 (own_ccF l Z a0 hw b45 t_53 kt_53 [r_2, r_3, r_4] cd_53 nb_53 vs_53 cpt fmt h53 O53 r53_0 r53_1 r53_2 r53_3 r53_4 (Nat.le_of_ble_eq_true rfl) (own_allc r2_0 (own_allc r3_0 (own_allc r4_0 own_alln))) g0_S g1_hcpt g2_S g3_S g4_S g5_hfmt g6_S ⟨r_2, (List.mem_of_getElem? (i := 0) rfl), hc137_58⟩) (by decide) (by decide) e53 (by rw [hml]; rfl) (lenOf own_pd19 rfl) (argsL := [(.ref b45)]) (rest := []) rfl rfl (Nat.le_of_eq rfl) (hb hby at_211) (by decide) (by decide) ?_
              intro T65 h65 v65 L65 X65 e65 q65
              obtain ⟨rfl, M65, rfl⟩ := q65
              have N65 := Fr.app N53 M65
              show G (T65.setTop (mkF m 214 #[.val (.int i0), .val (.int i1), .val (.int i2), .val (.int i3), .val (.int n1), .val (.int r_2), .val (.int r_3), .val (.int r_4), .val (.ref b45), .val (.int (1 : Int32)), .val (.int (0 : Int32)), .val (.int (0 : Int32)), .val (.int (0 : Int32))] [(.int (0 : Int32))]))
              refine hG _ _ (fun t_ k_ => XS.iload X65.here hx rfl (hb hby at_214) rfl k_) ?_
              show G (T65.setTop (mkF m 216 #[.val (.int i0), .val (.int i1), .val (.int i2), .val (.int i3), .val (.int n1), .val (.int r_2), .val (.int r_3), .val (.int r_4), .val (.ref b45), .val (.int (1 : Int32)), .val (.int (0 : Int32)), .val (.int (0 : Int32)), .val (.int (0 : Int32))] [(.int (0 : Int32)), (.int (0 : Int32))]))
              refine hG _ _ (fun t_ k_ => XS.icmpNo X65.here hx rfl (hb hby at_216) rfl (teq (by decide)).2 k_) ?_
              show G (T65.setTop (mkF m 219 #[.val (.int i0), .val (.int i1), .val (.int i2), .val (.int i3), .val (.int n1), .val (.int r_2), .val (.int r_3), .val (.int r_4), .val (.ref b45), .val (.int (1 : Int32)), .val (.int (0 : Int32)), .val (.int (0 : Int32)), .val (.int (0 : Int32))] []))
              refine hG _ _ (fun t_ k_ => XS.iconst X65.here hx rfl (hb hby at_219) k_) ?_
              show G (T65.setTop (mkF m 220 #[.val (.int i0), .val (.int i1), .val (.int i2), .val (.int i3), .val (.int n1), .val (.int r_2), .val (.int r_3), .val (.int r_4), .val (.ref b45), .val (.int (1 : Int32)), .val (.int (0 : Int32)), .val (.int (0 : Int32)), .val (.int (0 : Int32))] [(.int (1 : Int32))]))
              refine hG _ _ (fun t_ k_ => XS.goto X65.here hx rfl (pc0 := 220) (pc' := 224) rfl (hb hby at_220) (by decide) (by decide) k_) ?_
              show G (T65.setTop (mkF m 224 #[.val (.int i0), .val (.int i1), .val (.int i2), .val (.int i3), .val (.int n1), .val (.int r_2), .val (.int r_3), .val (.int r_4), .val (.ref b45), .val (.int (1 : Int32)), .val (.int (0 : Int32)), .val (.int (0 : Int32)), .val (.int (0 : Int32))] [(.int (1 : Int32))]))
              exact own_retNW hR hret (by simp) X65 hx (hb hby at_224) e65 SI0 (Nat.le_trans (Nat.le_trans (Nat.le_trans (Nat.le_trans (Nat.le_trans (Nat.le_trans (Nat.le_refl _) R45.2.1) R46.2.1) R47.2.1) R49.2.1) R51.2.1) R53.2.1) hZ C53 (by decide) (by decide) ⟨rfl, N65, K53⟩
        · skip
          refine hG _ _ (fun t_ k_ => XS.icmpYes X53.here hx rfl (pc0 := 137) (pc' := 144) rfl (hb hby at_137) rfl (feq hc137_58).2 (by decide) (by decide) k_) ?_
          show G (T53.setTop (mkF m 144 #[.val (.int i0), .val (.int i1), .val (.int i2), .val (.int i3), .val (.int n1), .val (.int r_2), .val (.int r_3), .val (.int r_4), .val (.ref b45), .unset, .unset, .unset, .unset] []))
          refine hG _ _ (fun t_ k_ => XS.iconst X53.here hx rfl (hb hby at_144) k_) ?_
          show G (T53.setTop (mkF m 145 #[.val (.int i0), .val (.int i1), .val (.int i2), .val (.int i3), .val (.int n1), .val (.int r_2), .val (.int r_3), .val (.int r_4), .val (.ref b45), .unset, .unset, .unset, .unset] [(.int (0 : Int32))]))
          refine hG _ _ (fun t_ k_ => XS.istore X53.here hx rfl (hb hby at_145) rfl (l' := #[.val (.int i0), .val (.int i1), .val (.int i2), .val (.int i3), .val (.int n1), .val (.int r_2), .val (.int r_3), .val (.int r_4), .val (.ref b45), .val (.int (0 : Int32)), .unset, .unset, .unset]) rfl k_) ?_
          show G (T53.setTop (mkF m 147 #[.val (.int i0), .val (.int i1), .val (.int i2), .val (.int i3), .val (.int n1), .val (.int r_2), .val (.int r_3), .val (.int r_4), .val (.ref b45), .val (.int (0 : Int32)), .unset, .unset, .unset] []))
          refine hG _ _ (fun t_ k_ => XS.iload X53.here hx rfl (hb hby at_147) rfl k_) ?_
          show G (T53.setTop (mkF m 149 #[.val (.int i0), .val (.int i1), .val (.int i2), .val (.int i3), .val (.int n1), .val (.int r_2), .val (.int r_3), .val (.int r_4), .val (.ref b45), .val (.int (0 : Int32)), .unset, .unset, .unset] [(.int n1)]))
          refine hG _ _ (fun t_ k_ => XS.iconst X53.here hx rfl (hb hby at_149) k_) ?_
          show G (T53.setTop (mkF m 150 #[.val (.int i0), .val (.int i1), .val (.int i2), .val (.int i3), .val (.int n1), .val (.int r_2), .val (.int r_3), .val (.int r_4), .val (.ref b45), .val (.int (0 : Int32)), .unset, .unset, .unset] [(.int (2 : Int32)), (.int n1)]))
          refine hG _ _ (fun t_ k_ => XS.icmpNo X53.here hx rfl (hb hby at_150) rfl (flt (by rw [hnL]; decide)).1 k_) ?_
          show G (T53.setTop (mkF m 153 #[.val (.int i0), .val (.int i1), .val (.int i2), .val (.int i3), .val (.int n1), .val (.int r_2), .val (.int r_3), .val (.int r_4), .val (.ref b45), .val (.int (0 : Int32)), .unset, .unset, .unset] []))
          refine hG _ _ (fun t_ k_ => XS.iload X53.here hx rfl (hb hby at_153) rfl k_) ?_
          show G (T53.setTop (mkF m 155 #[.val (.int i0), .val (.int i1), .val (.int i2), .val (.int i3), .val (.int n1), .val (.int r_2), .val (.int r_3), .val (.int r_4), .val (.ref b45), .val (.int (0 : Int32)), .unset, .unset, .unset] [(.int r_3)]))
          refine hG _ _ (fun t_ k_ => XS.bipush X53.here hx rfl (hb hby at_155) k_) ?_
          show G (T53.setTop (mkF m 157 #[.val (.int i0), .val (.int i1), .val (.int i2), .val (.int i3), .val (.int n1), .val (.int r_2), .val (.int r_3), .val (.int r_4), .val (.ref b45), .val (.int (0 : Int32)), .unset, .unset, .unset] [(.int (58 : Int32)), (.int r_3)]))
          by_cases hc157_66 : r_3 = (58 : Int32)
          · skip
            refine hG _ _ (fun t_ k_ => XS.icmpNo X53.here hx rfl (hb hby at_157) rfl (teq hc157_66).2 k_) ?_
            show G (T53.setTop (mkF m 160 #[.val (.int i0), .val (.int i1), .val (.int i2), .val (.int i3), .val (.int n1), .val (.int r_2), .val (.int r_3), .val (.int r_4), .val (.ref b45), .val (.int (0 : Int32)), .unset, .unset, .unset] []))
            refine hG _ _ (fun t_ k_ => XS.iconst X53.here hx rfl (hb hby at_160) k_) ?_
            show G (T53.setTop (mkF m 161 #[.val (.int i0), .val (.int i1), .val (.int i2), .val (.int i3), .val (.int n1), .val (.int r_2), .val (.int r_3), .val (.int r_4), .val (.ref b45), .val (.int (0 : Int32)), .unset, .unset, .unset] [(.int (1 : Int32))]))
            refine hG _ _ (fun t_ k_ => XS.goto X53.here hx rfl (pc0 := 161) (pc' := 165) rfl (hb hby at_161) (by decide) (by decide) k_) ?_
            show G (T53.setTop (mkF m 165 #[.val (.int i0), .val (.int i1), .val (.int i2), .val (.int i3), .val (.int n1), .val (.int r_2), .val (.int r_3), .val (.int r_4), .val (.ref b45), .val (.int (0 : Int32)), .unset, .unset, .unset] [(.int (1 : Int32))]))
            refine hG _ _ (fun t_ k_ => XS.istore X53.here hx rfl (hb hby at_165) rfl (l' := #[.val (.int i0), .val (.int i1), .val (.int i2), .val (.int i3), .val (.int n1), .val (.int r_2), .val (.int r_3), .val (.int r_4), .val (.ref b45), .val (.int (0 : Int32)), .val (.int (1 : Int32)), .unset, .unset]) rfl k_) ?_
            show G (T53.setTop (mkF m 167 #[.val (.int i0), .val (.int i1), .val (.int i2), .val (.int i3), .val (.int n1), .val (.int r_2), .val (.int r_3), .val (.int r_4), .val (.ref b45), .val (.int (0 : Int32)), .val (.int (1 : Int32)), .unset, .unset] []))
            refine hG _ _ (fun t_ k_ => XS.iload X53.here hx rfl (hb hby at_167) rfl k_) ?_
            show G (T53.setTop (mkF m 169 #[.val (.int i0), .val (.int i1), .val (.int i2), .val (.int i3), .val (.int n1), .val (.int r_2), .val (.int r_3), .val (.int r_4), .val (.ref b45), .val (.int (0 : Int32)), .val (.int (1 : Int32)), .unset, .unset] [(.int n1)]))
            refine hG _ _ (fun t_ k_ => XS.iconst X53.here hx rfl (hb hby at_169) k_) ?_
            show G (T53.setTop (mkF m 170 #[.val (.int i0), .val (.int i1), .val (.int i2), .val (.int i3), .val (.int n1), .val (.int r_2), .val (.int r_3), .val (.int r_4), .val (.ref b45), .val (.int (0 : Int32)), .val (.int (1 : Int32)), .unset, .unset] [(.int (3 : Int32)), (.int n1)]))
            refine hG _ _ (fun t_ k_ => XS.icmpNo X53.here hx rfl (hb hby at_170) rfl (flt (by rw [hnL]; decide)).1 k_) ?_
            show G (T53.setTop (mkF m 173 #[.val (.int i0), .val (.int i1), .val (.int i2), .val (.int i3), .val (.int n1), .val (.int r_2), .val (.int r_3), .val (.int r_4), .val (.ref b45), .val (.int (0 : Int32)), .val (.int (1 : Int32)), .unset, .unset] []))
            refine hG _ _ (fun t_ k_ => XS.iload X53.here hx rfl (hb hby at_173) rfl k_) ?_
            show G (T53.setTop (mkF m 175 #[.val (.int i0), .val (.int i1), .val (.int i2), .val (.int i3), .val (.int n1), .val (.int r_2), .val (.int r_3), .val (.int r_4), .val (.ref b45), .val (.int (0 : Int32)), .val (.int (1 : Int32)), .unset, .unset] [(.int r_4)]))
            refine hG _ _ (fun t_ k_ => XS.bipush X53.here hx rfl (hb hby at_175) k_) ?_
            show G (T53.setTop (mkF m 177 #[.val (.int i0), .val (.int i1), .val (.int i2), .val (.int i3), .val (.int n1), .val (.int r_2), .val (.int r_3), .val (.int r_4), .val (.ref b45), .val (.int (0 : Int32)), .val (.int (1 : Int32)), .unset, .unset] [(.int (58 : Int32)), (.int r_4)]))
            by_cases hc177_67 : r_4 = (58 : Int32)
            · skip
              refine hG _ _ (fun t_ k_ => XS.icmpNo X53.here hx rfl (hb hby at_177) rfl (teq hc177_67).2 k_) ?_
              show G (T53.setTop (mkF m 180 #[.val (.int i0), .val (.int i1), .val (.int i2), .val (.int i3), .val (.int n1), .val (.int r_2), .val (.int r_3), .val (.int r_4), .val (.ref b45), .val (.int (0 : Int32)), .val (.int (1 : Int32)), .unset, .unset] []))
              refine hG _ _ (fun t_ k_ => XS.iconst X53.here hx rfl (hb hby at_180) k_) ?_
              show G (T53.setTop (mkF m 181 #[.val (.int i0), .val (.int i1), .val (.int i2), .val (.int i3), .val (.int n1), .val (.int r_2), .val (.int r_3), .val (.int r_4), .val (.ref b45), .val (.int (0 : Int32)), .val (.int (1 : Int32)), .unset, .unset] [(.int (1 : Int32))]))
              refine hG _ _ (fun t_ k_ => XS.goto X53.here hx rfl (pc0 := 181) (pc' := 185) rfl (hb hby at_181) (by decide) (by decide) k_) ?_
              show G (T53.setTop (mkF m 185 #[.val (.int i0), .val (.int i1), .val (.int i2), .val (.int i3), .val (.int n1), .val (.int r_2), .val (.int r_3), .val (.int r_4), .val (.ref b45), .val (.int (0 : Int32)), .val (.int (1 : Int32)), .unset, .unset] [(.int (1 : Int32))]))
              refine hG _ _ (fun t_ k_ => XS.istore X53.here hx rfl (hb hby at_185) rfl (l' := #[.val (.int i0), .val (.int i1), .val (.int i2), .val (.int i3), .val (.int n1), .val (.int r_2), .val (.int r_3), .val (.int r_4), .val (.ref b45), .val (.int (0 : Int32)), .val (.int (1 : Int32)), .val (.int (1 : Int32)), .unset]) rfl k_) ?_
              show G (T53.setTop (mkF m 187 #[.val (.int i0), .val (.int i1), .val (.int i2), .val (.int i3), .val (.int n1), .val (.int r_2), .val (.int r_3), .val (.int r_4), .val (.ref b45), .val (.int (0 : Int32)), .val (.int (1 : Int32)), .val (.int (1 : Int32)), .unset] []))
              refine hG _ _ (fun t_ k_ => XS.iload X53.here hx rfl (hb hby at_187) rfl k_) ?_
              show G (T53.setTop (mkF m 189 #[.val (.int i0), .val (.int i1), .val (.int i2), .val (.int i3), .val (.int n1), .val (.int r_2), .val (.int r_3), .val (.int r_4), .val (.ref b45), .val (.int (0 : Int32)), .val (.int (1 : Int32)), .val (.int (1 : Int32)), .unset] [(.int (0 : Int32))]))
              refine hG _ _ (fun t_ k_ => XS.ifNo X53.here hx rfl (hb hby at_189) rfl ((if0 _ _).trans (teq (by decide)).2) k_) ?_
              show G (T53.setTop (mkF m 192 #[.val (.int i0), .val (.int i1), .val (.int i2), .val (.int i3), .val (.int n1), .val (.int r_2), .val (.int r_3), .val (.int r_4), .val (.ref b45), .val (.int (0 : Int32)), .val (.int (1 : Int32)), .val (.int (1 : Int32)), .unset] []))
              refine hG _ _ (fun t_ k_ => XS.iload X53.here hx rfl (hb hby at_192) rfl k_) ?_
              show G (T53.setTop (mkF m 194 #[.val (.int i0), .val (.int i1), .val (.int i2), .val (.int i3), .val (.int n1), .val (.int r_2), .val (.int r_3), .val (.int r_4), .val (.ref b45), .val (.int (0 : Int32)), .val (.int (1 : Int32)), .val (.int (1 : Int32)), .unset] [(.int (1 : Int32))]))
              refine hG _ _ (fun t_ k_ => XS.ifYes X53.here hx rfl (pc0 := 194) (pc' := 206) rfl (hb hby at_194) rfl ((if0 _ _).trans (feq (by decide)).2) (by decide) (by decide) k_) ?_
              show G (T53.setTop (mkF m 206 #[.val (.int i0), .val (.int i1), .val (.int i2), .val (.int i3), .val (.int n1), .val (.int r_2), .val (.int r_3), .val (.int r_4), .val (.ref b45), .val (.int (0 : Int32)), .val (.int (1 : Int32)), .val (.int (1 : Int32)), .unset] []))
              refine hG _ _ (fun t_ k_ => XS.iconst X53.here hx rfl (hb hby at_206) k_) ?_
              show G (T53.setTop (mkF m 207 #[.val (.int i0), .val (.int i1), .val (.int i2), .val (.int i3), .val (.int n1), .val (.int r_2), .val (.int r_3), .val (.int r_4), .val (.ref b45), .val (.int (0 : Int32)), .val (.int (1 : Int32)), .val (.int (1 : Int32)), .unset] [(.int (0 : Int32))]))
              refine hG _ _ (fun t_ k_ => XS.istore X53.here hx rfl (hb hby at_207) rfl (l' := #[.val (.int i0), .val (.int i1), .val (.int i2), .val (.int i3), .val (.int n1), .val (.int r_2), .val (.int r_3), .val (.int r_4), .val (.ref b45), .val (.int (0 : Int32)), .val (.int (1 : Int32)), .val (.int (1 : Int32)), .val (.int (0 : Int32))]) rfl k_) ?_
              show G (T53.setTop (mkF m 209 #[.val (.int i0), .val (.int i1), .val (.int i2), .val (.int i3), .val (.int n1), .val (.int r_2), .val (.int r_3), .val (.int r_4), .val (.ref b45), .val (.int (0 : Int32)), .val (.int (1 : Int32)), .val (.int (1 : Int32)), .val (.int (0 : Int32))] []))
              refine hG _ _ (fun t_ k_ => XS.aload X53.here hx rfl (hb hby at_209) rfl rfl k_) ?_
              show G (T53.setTop (mkF m 211 #[.val (.int i0), .val (.int i1), .val (.int i2), .val (.int i3), .val (.int n1), .val (.int r_2), .val (.int r_3), .val (.int r_4), .val (.ref b45), .val (.int (0 : Int32)), .val (.int (1 : Int32)), .val (.int (1 : Int32)), .val (.int (0 : Int32))] [(.ref b45)]))
              refine own_callS X53 hx hZ hG hown (hw _ (List.mem_of_getElem? (i := 27) rfl)) (hw _ (List.mem_of_getElem? (i := 28) rfl)) (hw _ (List.mem_of_getElem? (i := 29) rfl)) (hw _ (List.mem_of_getElem? (i := 30) rfl)) (by decide) 0 (own_ccF l Z a0 hw b45 t_53 kt_53 [r_2, r_3, r_4] cd_53 nb_53 vs_53 cpt fmt h53 O53 r53_0 r53_1 r53_2 r53_3 r53_4 (Nat.le_of_ble_eq_true rfl) (own_allc r2_0 (own_allc r3_0 (own_allc r4_0 own_alln))) g0_S g1_hcpt g2_S g3_S g4_S g5_hfmt g6_S ⟨r_3, (List.mem_of_getElem? (i := 1) rfl), hc157_66⟩) (by decide) (by decide) e53 (by rw [hml]; rfl) (lenOf own_pd19 rfl) (argsL := [(.ref b45)]) (rest := []) rfl rfl (Nat.le_of_eq rfl) (hb hby at_211) (by decide) (by decide) ?_
              intro T68 h68 v68 L68 X68 e68 q68
              obtain ⟨rfl, M68, rfl⟩ := q68
              have N68 := Fr.app N53 M68
              show G (T68.setTop (mkF m 214 #[.val (.int i0), .val (.int i1), .val (.int i2), .val (.int i3), .val (.int n1), .val (.int r_2), .val (.int r_3), .val (.int r_4), .val (.ref b45), .val (.int (0 : Int32)), .val (.int (1 : Int32)), .val (.int (1 : Int32)), .val (.int (0 : Int32))] [(.int (0 : Int32))]))
              refine hG _ _ (fun t_ k_ => XS.iload X68.here hx rfl (hb hby at_214) rfl k_) ?_
              show G (T68.setTop (mkF m 216 #[.val (.int i0), .val (.int i1), .val (.int i2), .val (.int i3), .val (.int n1), .val (.int r_2), .val (.int r_3), .val (.int r_4), .val (.ref b45), .val (.int (0 : Int32)), .val (.int (1 : Int32)), .val (.int (1 : Int32)), .val (.int (0 : Int32))] [(.int (0 : Int32)), (.int (0 : Int32))]))
              refine hG _ _ (fun t_ k_ => XS.icmpNo X68.here hx rfl (hb hby at_216) rfl (teq (by decide)).2 k_) ?_
              show G (T68.setTop (mkF m 219 #[.val (.int i0), .val (.int i1), .val (.int i2), .val (.int i3), .val (.int n1), .val (.int r_2), .val (.int r_3), .val (.int r_4), .val (.ref b45), .val (.int (0 : Int32)), .val (.int (1 : Int32)), .val (.int (1 : Int32)), .val (.int (0 : Int32))] []))
              refine hG _ _ (fun t_ k_ => XS.iconst X68.here hx rfl (hb hby at_219) k_) ?_
              show G (T68.setTop (mkF m 220 #[.val (.int i0), .val (.int i1), .val (.int i2), .val (.int i3), .val (.int n1), .val (.int r_2), .val (.int r_3), .val (.int r_4), .val (.ref b45), .val (.int (0 : Int32)), .val (.int (1 : Int32)), .val (.int (1 : Int32)), .val (.int (0 : Int32))] [(.int (1 : Int32))]))
              refine hG _ _ (fun t_ k_ => XS.goto X68.here hx rfl (pc0 := 220) (pc' := 224) rfl (hb hby at_220) (by decide) (by decide) k_) ?_
              show G (T68.setTop (mkF m 224 #[.val (.int i0), .val (.int i1), .val (.int i2), .val (.int i3), .val (.int n1), .val (.int r_2), .val (.int r_3), .val (.int r_4), .val (.ref b45), .val (.int (0 : Int32)), .val (.int (1 : Int32)), .val (.int (1 : Int32)), .val (.int (0 : Int32))] [(.int (1 : Int32))]))
              exact own_retNW hR hret (by simp) X68 hx (hb hby at_224) e68 SI0 (Nat.le_trans (Nat.le_trans (Nat.le_trans (Nat.le_trans (Nat.le_trans (Nat.le_trans (Nat.le_refl _) R45.2.1) R46.2.1) R47.2.1) R49.2.1) R51.2.1) R53.2.1) hZ C53 (by decide) (by decide) ⟨rfl, N68, K53⟩
            · skip
              refine hG _ _ (fun t_ k_ => XS.icmpYes X53.here hx rfl (pc0 := 177) (pc' := 184) rfl (hb hby at_177) rfl (feq hc177_67).2 (by decide) (by decide) k_) ?_
              show G (T53.setTop (mkF m 184 #[.val (.int i0), .val (.int i1), .val (.int i2), .val (.int i3), .val (.int n1), .val (.int r_2), .val (.int r_3), .val (.int r_4), .val (.ref b45), .val (.int (0 : Int32)), .val (.int (1 : Int32)), .unset, .unset] []))
              refine hG _ _ (fun t_ k_ => XS.iconst X53.here hx rfl (hb hby at_184) k_) ?_
              show G (T53.setTop (mkF m 185 #[.val (.int i0), .val (.int i1), .val (.int i2), .val (.int i3), .val (.int n1), .val (.int r_2), .val (.int r_3), .val (.int r_4), .val (.ref b45), .val (.int (0 : Int32)), .val (.int (1 : Int32)), .unset, .unset] [(.int (0 : Int32))]))
              refine hG _ _ (fun t_ k_ => XS.istore X53.here hx rfl (hb hby at_185) rfl (l' := #[.val (.int i0), .val (.int i1), .val (.int i2), .val (.int i3), .val (.int n1), .val (.int r_2), .val (.int r_3), .val (.int r_4), .val (.ref b45), .val (.int (0 : Int32)), .val (.int (1 : Int32)), .val (.int (0 : Int32)), .unset]) rfl k_) ?_
              show G (T53.setTop (mkF m 187 #[.val (.int i0), .val (.int i1), .val (.int i2), .val (.int i3), .val (.int n1), .val (.int r_2), .val (.int r_3), .val (.int r_4), .val (.ref b45), .val (.int (0 : Int32)), .val (.int (1 : Int32)), .val (.int (0 : Int32)), .unset] []))
              refine hG _ _ (fun t_ k_ => XS.iload X53.here hx rfl (hb hby at_187) rfl k_) ?_
              show G (T53.setTop (mkF m 189 #[.val (.int i0), .val (.int i1), .val (.int i2), .val (.int i3), .val (.int n1), .val (.int r_2), .val (.int r_3), .val (.int r_4), .val (.ref b45), .val (.int (0 : Int32)), .val (.int (1 : Int32)), .val (.int (0 : Int32)), .unset] [(.int (0 : Int32))]))
              refine hG _ _ (fun t_ k_ => XS.ifNo X53.here hx rfl (hb hby at_189) rfl ((if0 _ _).trans (teq (by decide)).2) k_) ?_
              show G (T53.setTop (mkF m 192 #[.val (.int i0), .val (.int i1), .val (.int i2), .val (.int i3), .val (.int n1), .val (.int r_2), .val (.int r_3), .val (.int r_4), .val (.ref b45), .val (.int (0 : Int32)), .val (.int (1 : Int32)), .val (.int (0 : Int32)), .unset] []))
              refine hG _ _ (fun t_ k_ => XS.iload X53.here hx rfl (hb hby at_192) rfl k_) ?_
              show G (T53.setTop (mkF m 194 #[.val (.int i0), .val (.int i1), .val (.int i2), .val (.int i3), .val (.int n1), .val (.int r_2), .val (.int r_3), .val (.int r_4), .val (.ref b45), .val (.int (0 : Int32)), .val (.int (1 : Int32)), .val (.int (0 : Int32)), .unset] [(.int (1 : Int32))]))
              refine hG _ _ (fun t_ k_ => XS.ifYes X53.here hx rfl (pc0 := 194) (pc' := 206) rfl (hb hby at_194) rfl ((if0 _ _).trans (feq (by decide)).2) (by decide) (by decide) k_) ?_
              show G (T53.setTop (mkF m 206 #[.val (.int i0), .val (.int i1), .val (.int i2), .val (.int i3), .val (.int n1), .val (.int r_2), .val (.int r_3), .val (.int r_4), .val (.ref b45), .val (.int (0 : Int32)), .val (.int (1 : Int32)), .val (.int (0 : Int32)), .unset] []))
              refine hG _ _ (fun t_ k_ => XS.iconst X53.here hx rfl (hb hby at_206) k_) ?_
              show G (T53.setTop (mkF m 207 #[.val (.int i0), .val (.int i1), .val (.int i2), .val (.int i3), .val (.int n1), .val (.int r_2), .val (.int r_3), .val (.int r_4), .val (.ref b45), .val (.int (0 : Int32)), .val (.int (1 : Int32)), .val (.int (0 : Int32)), .unset] [(.int (0 : Int32))]))
              refine hG _ _ (fun t_ k_ => XS.istore X53.here hx rfl (hb hby at_207) rfl (l' := #[.val (.int i0), .val (.int i1), .val (.int i2), .val (.int i3), .val (.int n1), .val (.int r_2), .val (.int r_3), .val (.int r_4), .val (.ref b45), .val (.int (0 : Int32)), .val (.int (1 : Int32)), .val (.int (0 : Int32)), .val (.int (0 : Int32))]) rfl k_) ?_
              show G (T53.setTop (mkF m 209 #[.val (.int i0), .val (.int i1), .val (.int i2), .val (.int i3), .val (.int n1), .val (.int r_2), .val (.int r_3), .val (.int r_4), .val (.ref b45), .val (.int (0 : Int32)), .val (.int (1 : Int32)), .val (.int (0 : Int32)), .val (.int (0 : Int32))] []))
              refine hG _ _ (fun t_ k_ => XS.aload X53.here hx rfl (hb hby at_209) rfl rfl k_) ?_
              show G (T53.setTop (mkF m 211 #[.val (.int i0), .val (.int i1), .val (.int i2), .val (.int i3), .val (.int n1), .val (.int r_2), .val (.int r_3), .val (.int r_4), .val (.ref b45), .val (.int (0 : Int32)), .val (.int (1 : Int32)), .val (.int (0 : Int32)), .val (.int (0 : Int32))] [(.ref b45)]))
              refine own_callS X53 hx hZ hG hown (hw _ (List.mem_of_getElem? (i := 27) rfl)) (hw _ (List.mem_of_getElem? (i := 28) rfl)) (hw _ (List.mem_of_getElem? (i := 29) rfl)) (hw _ (List.mem_of_getElem? (i := 30) rfl)) (by decide) 0 (own_ccF l Z a0 hw b45 t_53 kt_53 [r_2, r_3, r_4] cd_53 nb_53 vs_53 cpt fmt h53 O53 r53_0 r53_1 r53_2 r53_3 r53_4 (Nat.le_of_ble_eq_true rfl) (own_allc r2_0 (own_allc r3_0 (own_allc r4_0 own_alln))) g0_S g1_hcpt g2_S g3_S g4_S g5_hfmt g6_S ⟨r_3, (List.mem_of_getElem? (i := 1) rfl), hc157_66⟩) (by decide) (by decide) e53 (by rw [hml]; rfl) (lenOf own_pd19 rfl) (argsL := [(.ref b45)]) (rest := []) rfl rfl (Nat.le_of_eq rfl) (hb hby at_211) (by decide) (by decide) ?_
              intro T69 h69 v69 L69 X69 e69 q69
              obtain ⟨rfl, M69, rfl⟩ := q69
              have N69 := Fr.app N53 M69
              show G (T69.setTop (mkF m 214 #[.val (.int i0), .val (.int i1), .val (.int i2), .val (.int i3), .val (.int n1), .val (.int r_2), .val (.int r_3), .val (.int r_4), .val (.ref b45), .val (.int (0 : Int32)), .val (.int (1 : Int32)), .val (.int (0 : Int32)), .val (.int (0 : Int32))] [(.int (0 : Int32))]))
              refine hG _ _ (fun t_ k_ => XS.iload X69.here hx rfl (hb hby at_214) rfl k_) ?_
              show G (T69.setTop (mkF m 216 #[.val (.int i0), .val (.int i1), .val (.int i2), .val (.int i3), .val (.int n1), .val (.int r_2), .val (.int r_3), .val (.int r_4), .val (.ref b45), .val (.int (0 : Int32)), .val (.int (1 : Int32)), .val (.int (0 : Int32)), .val (.int (0 : Int32))] [(.int (0 : Int32)), (.int (0 : Int32))]))
              refine hG _ _ (fun t_ k_ => XS.icmpNo X69.here hx rfl (hb hby at_216) rfl (teq (by decide)).2 k_) ?_
              show G (T69.setTop (mkF m 219 #[.val (.int i0), .val (.int i1), .val (.int i2), .val (.int i3), .val (.int n1), .val (.int r_2), .val (.int r_3), .val (.int r_4), .val (.ref b45), .val (.int (0 : Int32)), .val (.int (1 : Int32)), .val (.int (0 : Int32)), .val (.int (0 : Int32))] []))
              refine hG _ _ (fun t_ k_ => XS.iconst X69.here hx rfl (hb hby at_219) k_) ?_
              show G (T69.setTop (mkF m 220 #[.val (.int i0), .val (.int i1), .val (.int i2), .val (.int i3), .val (.int n1), .val (.int r_2), .val (.int r_3), .val (.int r_4), .val (.ref b45), .val (.int (0 : Int32)), .val (.int (1 : Int32)), .val (.int (0 : Int32)), .val (.int (0 : Int32))] [(.int (1 : Int32))]))
              refine hG _ _ (fun t_ k_ => XS.goto X69.here hx rfl (pc0 := 220) (pc' := 224) rfl (hb hby at_220) (by decide) (by decide) k_) ?_
              show G (T69.setTop (mkF m 224 #[.val (.int i0), .val (.int i1), .val (.int i2), .val (.int i3), .val (.int n1), .val (.int r_2), .val (.int r_3), .val (.int r_4), .val (.ref b45), .val (.int (0 : Int32)), .val (.int (1 : Int32)), .val (.int (0 : Int32)), .val (.int (0 : Int32))] [(.int (1 : Int32))]))
              exact own_retNW hR hret (by simp) X69 hx (hb hby at_224) e69 SI0 (Nat.le_trans (Nat.le_trans (Nat.le_trans (Nat.le_trans (Nat.le_trans (Nat.le_trans (Nat.le_refl _) R45.2.1) R46.2.1) R47.2.1) R49.2.1) R51.2.1) R53.2.1) hZ C53 (by decide) (by decide) ⟨rfl, N69, K53⟩
          · skip
            refine hG _ _ (fun t_ k_ => XS.icmpYes X53.here hx rfl (pc0 := 157) (pc' := 164) rfl (hb hby at_157) rfl (feq hc157_66).2 (by decide) (by decide) k_) ?_
            show G (T53.setTop (mkF m 164 #[.val (.int i0), .val (.int i1), .val (.int i2), .val (.int i3), .val (.int n1), .val (.int r_2), .val (.int r_3), .val (.int r_4), .val (.ref b45), .val (.int (0 : Int32)), .unset, .unset, .unset] []))
            refine hG _ _ (fun t_ k_ => XS.iconst X53.here hx rfl (hb hby at_164) k_) ?_
            show G (T53.setTop (mkF m 165 #[.val (.int i0), .val (.int i1), .val (.int i2), .val (.int i3), .val (.int n1), .val (.int r_2), .val (.int r_3), .val (.int r_4), .val (.ref b45), .val (.int (0 : Int32)), .unset, .unset, .unset] [(.int (0 : Int32))]))
            refine hG _ _ (fun t_ k_ => XS.istore X53.here hx rfl (hb hby at_165) rfl (l' := #[.val (.int i0), .val (.int i1), .val (.int i2), .val (.int i3), .val (.int n1), .val (.int r_2), .val (.int r_3), .val (.int r_4), .val (.ref b45), .val (.int (0 : Int32)), .val (.int (0 : Int32)), .unset, .unset]) rfl k_) ?_
            show G (T53.setTop (mkF m 167 #[.val (.int i0), .val (.int i1), .val (.int i2), .val (.int i3), .val (.int n1), .val (.int r_2), .val (.int r_3), .val (.int r_4), .val (.ref b45), .val (.int (0 : Int32)), .val (.int (0 : Int32)), .unset, .unset] []))
            refine hG _ _ (fun t_ k_ => XS.iload X53.here hx rfl (hb hby at_167) rfl k_) ?_
            show G (T53.setTop (mkF m 169 #[.val (.int i0), .val (.int i1), .val (.int i2), .val (.int i3), .val (.int n1), .val (.int r_2), .val (.int r_3), .val (.int r_4), .val (.ref b45), .val (.int (0 : Int32)), .val (.int (0 : Int32)), .unset, .unset] [(.int n1)]))
            refine hG _ _ (fun t_ k_ => XS.iconst X53.here hx rfl (hb hby at_169) k_) ?_
            show G (T53.setTop (mkF m 170 #[.val (.int i0), .val (.int i1), .val (.int i2), .val (.int i3), .val (.int n1), .val (.int r_2), .val (.int r_3), .val (.int r_4), .val (.ref b45), .val (.int (0 : Int32)), .val (.int (0 : Int32)), .unset, .unset] [(.int (3 : Int32)), (.int n1)]))
            refine hG _ _ (fun t_ k_ => XS.icmpNo X53.here hx rfl (hb hby at_170) rfl (flt (by rw [hnL]; decide)).1 k_) ?_
            show G (T53.setTop (mkF m 173 #[.val (.int i0), .val (.int i1), .val (.int i2), .val (.int i3), .val (.int n1), .val (.int r_2), .val (.int r_3), .val (.int r_4), .val (.ref b45), .val (.int (0 : Int32)), .val (.int (0 : Int32)), .unset, .unset] []))
            refine hG _ _ (fun t_ k_ => XS.iload X53.here hx rfl (hb hby at_173) rfl k_) ?_
            show G (T53.setTop (mkF m 175 #[.val (.int i0), .val (.int i1), .val (.int i2), .val (.int i3), .val (.int n1), .val (.int r_2), .val (.int r_3), .val (.int r_4), .val (.ref b45), .val (.int (0 : Int32)), .val (.int (0 : Int32)), .unset, .unset] [(.int r_4)]))
            refine hG _ _ (fun t_ k_ => XS.bipush X53.here hx rfl (hb hby at_175) k_) ?_
            show G (T53.setTop (mkF m 177 #[.val (.int i0), .val (.int i1), .val (.int i2), .val (.int i3), .val (.int n1), .val (.int r_2), .val (.int r_3), .val (.int r_4), .val (.ref b45), .val (.int (0 : Int32)), .val (.int (0 : Int32)), .unset, .unset] [(.int (58 : Int32)), (.int r_4)]))
            by_cases hc177_70 : r_4 = (58 : Int32)
            · skip
              refine hG _ _ (fun t_ k_ => XS.icmpNo X53.here hx rfl (hb hby at_177) rfl (teq hc177_70).2 k_) ?_
              show G (T53.setTop (mkF m 180 #[.val (.int i0), .val (.int i1), .val (.int i2), .val (.int i3), .val (.int n1), .val (.int r_2), .val (.int r_3), .val (.int r_4), .val (.ref b45), .val (.int (0 : Int32)), .val (.int (0 : Int32)), .unset, .unset] []))
              refine hG _ _ (fun t_ k_ => XS.iconst X53.here hx rfl (hb hby at_180) k_) ?_
              show G (T53.setTop (mkF m 181 #[.val (.int i0), .val (.int i1), .val (.int i2), .val (.int i3), .val (.int n1), .val (.int r_2), .val (.int r_3), .val (.int r_4), .val (.ref b45), .val (.int (0 : Int32)), .val (.int (0 : Int32)), .unset, .unset] [(.int (1 : Int32))]))
              refine hG _ _ (fun t_ k_ => XS.goto X53.here hx rfl (pc0 := 181) (pc' := 185) rfl (hb hby at_181) (by decide) (by decide) k_) ?_
              show G (T53.setTop (mkF m 185 #[.val (.int i0), .val (.int i1), .val (.int i2), .val (.int i3), .val (.int n1), .val (.int r_2), .val (.int r_3), .val (.int r_4), .val (.ref b45), .val (.int (0 : Int32)), .val (.int (0 : Int32)), .unset, .unset] [(.int (1 : Int32))]))
              refine hG _ _ (fun t_ k_ => XS.istore X53.here hx rfl (hb hby at_185) rfl (l' := #[.val (.int i0), .val (.int i1), .val (.int i2), .val (.int i3), .val (.int n1), .val (.int r_2), .val (.int r_3), .val (.int r_4), .val (.ref b45), .val (.int (0 : Int32)), .val (.int (0 : Int32)), .val (.int (1 : Int32)), .unset]) rfl k_) ?_
              show G (T53.setTop (mkF m 187 #[.val (.int i0), .val (.int i1), .val (.int i2), .val (.int i3), .val (.int n1), .val (.int r_2), .val (.int r_3), .val (.int r_4), .val (.ref b45), .val (.int (0 : Int32)), .val (.int (0 : Int32)), .val (.int (1 : Int32)), .unset] []))
              refine hG _ _ (fun t_ k_ => XS.iload X53.here hx rfl (hb hby at_187) rfl k_) ?_
              show G (T53.setTop (mkF m 189 #[.val (.int i0), .val (.int i1), .val (.int i2), .val (.int i3), .val (.int n1), .val (.int r_2), .val (.int r_3), .val (.int r_4), .val (.ref b45), .val (.int (0 : Int32)), .val (.int (0 : Int32)), .val (.int (1 : Int32)), .unset] [(.int (0 : Int32))]))
              refine hG _ _ (fun t_ k_ => XS.ifNo X53.here hx rfl (hb hby at_189) rfl ((if0 _ _).trans (teq (by decide)).2) k_) ?_
              show G (T53.setTop (mkF m 192 #[.val (.int i0), .val (.int i1), .val (.int i2), .val (.int i3), .val (.int n1), .val (.int r_2), .val (.int r_3), .val (.int r_4), .val (.ref b45), .val (.int (0 : Int32)), .val (.int (0 : Int32)), .val (.int (1 : Int32)), .unset] []))
              refine hG _ _ (fun t_ k_ => XS.iload X53.here hx rfl (hb hby at_192) rfl k_) ?_
              show G (T53.setTop (mkF m 194 #[.val (.int i0), .val (.int i1), .val (.int i2), .val (.int i3), .val (.int n1), .val (.int r_2), .val (.int r_3), .val (.int r_4), .val (.ref b45), .val (.int (0 : Int32)), .val (.int (0 : Int32)), .val (.int (1 : Int32)), .unset] [(.int (0 : Int32))]))
              refine hG _ _ (fun t_ k_ => XS.ifNo X53.here hx rfl (hb hby at_194) rfl ((if0 _ _).trans (teq (by decide)).2) k_) ?_
              show G (T53.setTop (mkF m 197 #[.val (.int i0), .val (.int i1), .val (.int i2), .val (.int i3), .val (.int n1), .val (.int r_2), .val (.int r_3), .val (.int r_4), .val (.ref b45), .val (.int (0 : Int32)), .val (.int (0 : Int32)), .val (.int (1 : Int32)), .unset] []))
              refine hG _ _ (fun t_ k_ => XS.iload X53.here hx rfl (hb hby at_197) rfl k_) ?_
              show G (T53.setTop (mkF m 199 #[.val (.int i0), .val (.int i1), .val (.int i2), .val (.int i3), .val (.int n1), .val (.int r_2), .val (.int r_3), .val (.int r_4), .val (.ref b45), .val (.int (0 : Int32)), .val (.int (0 : Int32)), .val (.int (1 : Int32)), .unset] [(.int (1 : Int32))]))
              refine hG _ _ (fun t_ k_ => XS.ifYes X53.here hx rfl (pc0 := 199) (pc' := 206) rfl (hb hby at_199) rfl ((if0 _ _).trans (feq (by decide)).2) (by decide) (by decide) k_) ?_
              show G (T53.setTop (mkF m 206 #[.val (.int i0), .val (.int i1), .val (.int i2), .val (.int i3), .val (.int n1), .val (.int r_2), .val (.int r_3), .val (.int r_4), .val (.ref b45), .val (.int (0 : Int32)), .val (.int (0 : Int32)), .val (.int (1 : Int32)), .unset] []))
              refine hG _ _ (fun t_ k_ => XS.iconst X53.here hx rfl (hb hby at_206) k_) ?_
              show G (T53.setTop (mkF m 207 #[.val (.int i0), .val (.int i1), .val (.int i2), .val (.int i3), .val (.int n1), .val (.int r_2), .val (.int r_3), .val (.int r_4), .val (.ref b45), .val (.int (0 : Int32)), .val (.int (0 : Int32)), .val (.int (1 : Int32)), .unset] [(.int (0 : Int32))]))
              refine hG _ _ (fun t_ k_ => XS.istore X53.here hx rfl (hb hby at_207) rfl (l' := #[.val (.int i0), .val (.int i1), .val (.int i2), .val (.int i3), .val (.int n1), .val (.int r_2), .val (.int r_3), .val (.int r_4), .val (.ref b45), .val (.int (0 : Int32)), .val (.int (0 : Int32)), .val (.int (1 : Int32)), .val (.int (0 : Int32))]) rfl k_) ?_
              show G (T53.setTop (mkF m 209 #[.val (.int i0), .val (.int i1), .val (.int i2), .val (.int i3), .val (.int n1), .val (.int r_2), .val (.int r_3), .val (.int r_4), .val (.ref b45), .val (.int (0 : Int32)), .val (.int (0 : Int32)), .val (.int (1 : Int32)), .val (.int (0 : Int32))] []))
              refine hG _ _ (fun t_ k_ => XS.aload X53.here hx rfl (hb hby at_209) rfl rfl k_) ?_
              show G (T53.setTop (mkF m 211 #[.val (.int i0), .val (.int i1), .val (.int i2), .val (.int i3), .val (.int n1), .val (.int r_2), .val (.int r_3), .val (.int r_4), .val (.ref b45), .val (.int (0 : Int32)), .val (.int (0 : Int32)), .val (.int (1 : Int32)), .val (.int (0 : Int32))] [(.ref b45)]))
              refine own_callS X53 hx hZ hG hown (hw _ (List.mem_of_getElem? (i := 27) rfl)) (hw _ (List.mem_of_getElem? (i := 28) rfl)) (hw _ (List.mem_of_getElem? (i := 29) rfl)) (hw _ (List.mem_of_getElem? (i := 30) rfl)) (by decide) 0 (own_ccF l Z a0 hw b45 t_53 kt_53 [r_2, r_3, r_4] cd_53 nb_53 vs_53 cpt fmt h53 O53 r53_0 r53_1 r53_2 r53_3 r53_4 (Nat.le_of_ble_eq_true rfl) (own_allc r2_0 (own_allc r3_0 (own_allc r4_0 own_alln))) g0_S g1_hcpt g2_S g3_S g4_S g5_hfmt g6_S ⟨r_4, (List.mem_of_getElem? (i := 2) rfl), hc177_70⟩) (by decide) (by decide) e53 (by rw [hml]; rfl) (lenOf own_pd19 rfl) (argsL := [(.ref b45)]) (rest := []) rfl rfl (Nat.le_of_eq rfl) (hb hby at_211) (by decide) (by decide) ?_
              intro T71 h71 v71 L71 X71 e71 q71
              obtain ⟨rfl, M71, rfl⟩ := q71
              have N71 := Fr.app N53 M71
              show G (T71.setTop (mkF m 214 #[.val (.int i0), .val (.int i1), .val (.int i2), .val (.int i3), .val (.int n1), .val (.int r_2), .val (.int r_3), .val (.int r_4), .val (.ref b45), .val (.int (0 : Int32)), .val (.int (0 : Int32)), .val (.int (1 : Int32)), .val (.int (0 : Int32))] [(.int (0 : Int32))]))
              refine hG _ _ (fun t_ k_ => XS.iload X71.here hx rfl (hb hby at_214) rfl k_) ?_
              show G (T71.setTop (mkF m 216 #[.val (.int i0), .val (.int i1), .val (.int i2), .val (.int i3), .val (.int n1), .val (.int r_2), .val (.int r_3), .val (.int r_4), .val (.ref b45), .val (.int (0 : Int32)), .val (.int (0 : Int32)), .val (.int (1 : Int32)), .val (.int (0 : Int32))] [(.int (0 : Int32)), (.int (0 : Int32))]))
              refine hG _ _ (fun t_ k_ => XS.icmpNo X71.here hx rfl (hb hby at_216) rfl (teq (by decide)).2 k_) ?_
              show G (T71.setTop (mkF m 219 #[.val (.int i0), .val (.int i1), .val (.int i2), .val (.int i3), .val (.int n1), .val (.int r_2), .val (.int r_3), .val (.int r_4), .val (.ref b45), .val (.int (0 : Int32)), .val (.int (0 : Int32)), .val (.int (1 : Int32)), .val (.int (0 : Int32))] []))
              refine hG _ _ (fun t_ k_ => XS.iconst X71.here hx rfl (hb hby at_219) k_) ?_
              show G (T71.setTop (mkF m 220 #[.val (.int i0), .val (.int i1), .val (.int i2), .val (.int i3), .val (.int n1), .val (.int r_2), .val (.int r_3), .val (.int r_4), .val (.ref b45), .val (.int (0 : Int32)), .val (.int (0 : Int32)), .val (.int (1 : Int32)), .val (.int (0 : Int32))] [(.int (1 : Int32))]))
              refine hG _ _ (fun t_ k_ => XS.goto X71.here hx rfl (pc0 := 220) (pc' := 224) rfl (hb hby at_220) (by decide) (by decide) k_) ?_
              show G (T71.setTop (mkF m 224 #[.val (.int i0), .val (.int i1), .val (.int i2), .val (.int i3), .val (.int n1), .val (.int r_2), .val (.int r_3), .val (.int r_4), .val (.ref b45), .val (.int (0 : Int32)), .val (.int (0 : Int32)), .val (.int (1 : Int32)), .val (.int (0 : Int32))] [(.int (1 : Int32))]))
              exact own_retNW hR hret (by simp) X71 hx (hb hby at_224) e71 SI0 (Nat.le_trans (Nat.le_trans (Nat.le_trans (Nat.le_trans (Nat.le_trans (Nat.le_trans (Nat.le_refl _) R45.2.1) R46.2.1) R47.2.1) R49.2.1) R51.2.1) R53.2.1) hZ C53 (by decide) (by decide) ⟨rfl, N71, K53⟩
            · skip
              refine hG _ _ (fun t_ k_ => XS.icmpYes X53.here hx rfl (pc0 := 177) (pc' := 184) rfl (hb hby at_177) rfl (feq hc177_70).2 (by decide) (by decide) k_) ?_
              show G (T53.setTop (mkF m 184 #[.val (.int i0), .val (.int i1), .val (.int i2), .val (.int i3), .val (.int n1), .val (.int r_2), .val (.int r_3), .val (.int r_4), .val (.ref b45), .val (.int (0 : Int32)), .val (.int (0 : Int32)), .unset, .unset] []))
              refine hG _ _ (fun t_ k_ => XS.iconst X53.here hx rfl (hb hby at_184) k_) ?_
              show G (T53.setTop (mkF m 185 #[.val (.int i0), .val (.int i1), .val (.int i2), .val (.int i3), .val (.int n1), .val (.int r_2), .val (.int r_3), .val (.int r_4), .val (.ref b45), .val (.int (0 : Int32)), .val (.int (0 : Int32)), .unset, .unset] [(.int (0 : Int32))]))
              refine hG _ _ (fun t_ k_ => XS.istore X53.here hx rfl (hb hby at_185) rfl (l' := #[.val (.int i0), .val (.int i1), .val (.int i2), .val (.int i3), .val (.int n1), .val (.int r_2), .val (.int r_3), .val (.int r_4), .val (.ref b45), .val (.int (0 : Int32)), .val (.int (0 : Int32)), .val (.int (0 : Int32)), .unset]) rfl k_) ?_
              show G (T53.setTop (mkF m 187 #[.val (.int i0), .val (.int i1), .val (.int i2), .val (.int i3), .val (.int n1), .val (.int r_2), .val (.int r_3), .val (.int r_4), .val (.ref b45), .val (.int (0 : Int32)), .val (.int (0 : Int32)), .val (.int (0 : Int32)), .unset] []))
              refine hG _ _ (fun t_ k_ => XS.iload X53.here hx rfl (hb hby at_187) rfl k_) ?_
              show G (T53.setTop (mkF m 189 #[.val (.int i0), .val (.int i1), .val (.int i2), .val (.int i3), .val (.int n1), .val (.int r_2), .val (.int r_3), .val (.int r_4), .val (.ref b45), .val (.int (0 : Int32)), .val (.int (0 : Int32)), .val (.int (0 : Int32)), .unset] [(.int (0 : Int32))]))
              refine hG _ _ (fun t_ k_ => XS.ifNo X53.here hx rfl (hb hby at_189) rfl ((if0 _ _).trans (teq (by decide)).2) k_) ?_
              show G (T53.setTop (mkF m 192 #[.val (.int i0), .val (.int i1), .val (.int i2), .val (.int i3), .val (.int n1), .val (.int r_2), .val (.int r_3), .val (.int r_4), .val (.ref b45), .val (.int (0 : Int32)), .val (.int (0 : Int32)), .val (.int (0 : Int32)), .unset] []))
              refine hG _ _ (fun t_ k_ => XS.iload X53.here hx rfl (hb hby at_192) rfl k_) ?_
              show G (T53.setTop (mkF m 194 #[.val (.int i0), .val (.int i1), .val (.int i2), .val (.int i3), .val (.int n1), .val (.int r_2), .val (.int r_3), .val (.int r_4), .val (.ref b45), .val (.int (0 : Int32)), .val (.int (0 : Int32)), .val (.int (0 : Int32)), .unset] [(.int (0 : Int32))]))
              refine hG _ _ (fun t_ k_ => XS.ifNo X53.here hx rfl (hb hby at_194) rfl ((if0 _ _).trans (teq (by decide)).2) k_) ?_
              show G (T53.setTop (mkF m 197 #[.val (.int i0), .val (.int i1), .val (.int i2), .val (.int i3), .val (.int n1), .val (.int r_2), .val (.int r_3), .val (.int r_4), .val (.ref b45), .val (.int (0 : Int32)), .val (.int (0 : Int32)), .val (.int (0 : Int32)), .unset] []))
              refine hG _ _ (fun t_ k_ => XS.iload X53.here hx rfl (hb hby at_197) rfl k_) ?_
              show G (T53.setTop (mkF m 199 #[.val (.int i0), .val (.int i1), .val (.int i2), .val (.int i3), .val (.int n1), .val (.int r_2), .val (.int r_3), .val (.int r_4), .val (.ref b45), .val (.int (0 : Int32)), .val (.int (0 : Int32)), .val (.int (0 : Int32)), .unset] [(.int (0 : Int32))]))
              refine hG _ _ (fun t_ k_ => XS.ifNo X53.here hx rfl (hb hby at_199) rfl ((if0 _ _).trans (teq (by decide)).2) k_) ?_
              show G (T53.setTop (mkF m 202 #[.val (.int i0), .val (.int i1), .val (.int i2), .val (.int i3), .val (.int n1), .val (.int r_2), .val (.int r_3), .val (.int r_4), .val (.ref b45), .val (.int (0 : Int32)), .val (.int (0 : Int32)), .val (.int (0 : Int32)), .unset] []))
              refine hG _ _ (fun t_ k_ => XS.iconst X53.here hx rfl (hb hby at_202) k_) ?_
              show G (T53.setTop (mkF m 203 #[.val (.int i0), .val (.int i1), .val (.int i2), .val (.int i3), .val (.int n1), .val (.int r_2), .val (.int r_3), .val (.int r_4), .val (.ref b45), .val (.int (0 : Int32)), .val (.int (0 : Int32)), .val (.int (0 : Int32)), .unset] [(.int (1 : Int32))]))
              refine hG _ _ (fun t_ k_ => XS.goto X53.here hx rfl (pc0 := 203) (pc' := 207) rfl (hb hby at_203) (by decide) (by decide) k_) ?_
              show G (T53.setTop (mkF m 207 #[.val (.int i0), .val (.int i1), .val (.int i2), .val (.int i3), .val (.int n1), .val (.int r_2), .val (.int r_3), .val (.int r_4), .val (.ref b45), .val (.int (0 : Int32)), .val (.int (0 : Int32)), .val (.int (0 : Int32)), .unset] [(.int (1 : Int32))]))
              refine hG _ _ (fun t_ k_ => XS.istore X53.here hx rfl (hb hby at_207) rfl (l' := #[.val (.int i0), .val (.int i1), .val (.int i2), .val (.int i3), .val (.int n1), .val (.int r_2), .val (.int r_3), .val (.int r_4), .val (.ref b45), .val (.int (0 : Int32)), .val (.int (0 : Int32)), .val (.int (0 : Int32)), .val (.int (1 : Int32))]) rfl k_) ?_
              show G (T53.setTop (mkF m 209 #[.val (.int i0), .val (.int i1), .val (.int i2), .val (.int i3), .val (.int n1), .val (.int r_2), .val (.int r_3), .val (.int r_4), .val (.ref b45), .val (.int (0 : Int32)), .val (.int (0 : Int32)), .val (.int (0 : Int32)), .val (.int (1 : Int32))] []))
              refine hG _ _ (fun t_ k_ => XS.aload X53.here hx rfl (hb hby at_209) rfl rfl k_) ?_
              show G (T53.setTop (mkF m 211 #[.val (.int i0), .val (.int i1), .val (.int i2), .val (.int i3), .val (.int n1), .val (.int r_2), .val (.int r_3), .val (.int r_4), .val (.ref b45), .val (.int (0 : Int32)), .val (.int (0 : Int32)), .val (.int (0 : Int32)), .val (.int (1 : Int32))] [(.ref b45)]))
              refine own_callS X53 hx hZ hG hown (hw _ (List.mem_of_getElem? (i := 27) rfl)) (hw _ (List.mem_of_getElem? (i := 28) rfl)) (hw _ (List.mem_of_getElem? (i := 29) rfl)) (hw _ (List.mem_of_getElem? (i := 30) rfl)) (by decide) 0 (own_ccT l Z a0 hw b45 t_53 kt_53 [r_2, r_3, r_4] cd_53 nb_53 vs_53 cpt fmt h53 O53 r53_0 r53_1 r53_2 r53_3 r53_4 (Nat.le_of_ble_eq_true rfl) (own_allc r2_0 (own_allc r3_0 (own_allc r4_0 own_alln))) g0_S g1_hcpt g2_S g3_S g4_S g5_hfmt g6_S (own_allc hc137_58 (own_allc hc157_66 (own_allc hc177_70 own_alln)))) (by decide) (by decide) e53 (by rw [hml]; rfl) (lenOf own_pd19 rfl) (argsL := [(.ref b45)]) (rest := []) rfl rfl (Nat.le_of_eq rfl) (hb hby at_211) (by decide) (by decide) ?_
              intro T72 h72 v72 L72 X72 e72 q72
              obtain ⟨rfl, M72, rfl⟩ := q72
              have N72 := Fr.app N53 M72
              show G (T72.setTop (mkF m 214 #[.val (.int i0), .val (.int i1), .val (.int i2), .val (.int i3), .val (.int n1), .val (.int r_2), .val (.int r_3), .val (.int r_4), .val (.ref b45), .val (.int (0 : Int32)), .val (.int (0 : Int32)), .val (.int (0 : Int32)), .val (.int (1 : Int32))] [(.int (1 : Int32))]))
              refine hG _ _ (fun t_ k_ => XS.iload X72.here hx rfl (hb hby at_214) rfl k_) ?_
              show G (T72.setTop (mkF m 216 #[.val (.int i0), .val (.int i1), .val (.int i2), .val (.int i3), .val (.int n1), .val (.int r_2), .val (.int r_3), .val (.int r_4), .val (.ref b45), .val (.int (0 : Int32)), .val (.int (0 : Int32)), .val (.int (0 : Int32)), .val (.int (1 : Int32))] [(.int (1 : Int32)), (.int (1 : Int32))]))
              refine hG _ _ (fun t_ k_ => XS.icmpNo X72.here hx rfl (hb hby at_216) rfl (teq (by decide)).2 k_) ?_
              show G (T72.setTop (mkF m 219 #[.val (.int i0), .val (.int i1), .val (.int i2), .val (.int i3), .val (.int n1), .val (.int r_2), .val (.int r_3), .val (.int r_4), .val (.ref b45), .val (.int (0 : Int32)), .val (.int (0 : Int32)), .val (.int (0 : Int32)), .val (.int (1 : Int32))] []))
              refine hG _ _ (fun t_ k_ => XS.iconst X72.here hx rfl (hb hby at_219) k_) ?_
              show G (T72.setTop (mkF m 220 #[.val (.int i0), .val (.int i1), .val (.int i2), .val (.int i3), .val (.int n1), .val (.int r_2), .val (.int r_3), .val (.int r_4), .val (.ref b45), .val (.int (0 : Int32)), .val (.int (0 : Int32)), .val (.int (0 : Int32)), .val (.int (1 : Int32))] [(.int (1 : Int32))]))
              refine hG _ _ (fun t_ k_ => XS.goto X72.here hx rfl (pc0 := 220) (pc' := 224) rfl (hb hby at_220) (by decide) (by decide) k_) ?_
              show G (T72.setTop (mkF m 224 #[.val (.int i0), .val (.int i1), .val (.int i2), .val (.int i3), .val (.int n1), .val (.int r_2), .val (.int r_3), .val (.int r_4), .val (.ref b45), .val (.int (0 : Int32)), .val (.int (0 : Int32)), .val (.int (0 : Int32)), .val (.int (1 : Int32))] [(.int (1 : Int32))]))
              exact own_retNW hR hret (by simp) X72 hx (hb hby at_224) e72 SI0 (Nat.le_trans (Nat.le_trans (Nat.le_trans (Nat.le_trans (Nat.le_trans (Nat.le_trans (Nat.le_refl _) R45.2.1) R46.2.1) R47.2.1) R49.2.1) R51.2.1) R53.2.1) hZ C53 (by decide) (by decide) ⟨rfl, N72, K53⟩
set_option maxRecDepth 65536 in
set_option maxHeartbeats 40000000 in
theorem own_comes {Post : Tables → Env → Array Value → State → Outcome → State → Prop} (hpost : ∀ tb e args s v u, (limb_1_1.after args s (.returned v) u = true ∧ limb_1_2.after args s (.returned v) u = true ∧ True) → ReturnedEndW s (.returned v) u (Jvm.fieldLocs frame_1_writes args s ++ Jvm.arrayLocs frame_1_arrays args s ++ Jvm.staticLocs frame_1_statics s) 24 1152 → Post tb e args s (.returned v) u) :
    ArmFor flags0 classFile x code maxLocals ret World_1 tables_1 room_1 Calls_1 rest_1 Pre_1 Post := by
  intro l hfl _ _ p e ha hc hk s m args below hf hA hF happ hP
  obtain ⟨hcalls, hrest, hpre⟩ := hP
  obtain ⟨-, -, -, hnamed, -, -, -, hat⟩ := (Spec.applies_iff hf).mp happ
  obtain ⟨hg, hn⟩ := and_e (Cond.before_iff.mp (show (Jvm.Cond.and given_1 narrow_1).before args s = true from hpre))
  obtain ⟨hcnt, hg⟩ := and_e hg
  obtain ⟨g0, hg⟩ := and_e hg
  obtain ⟨g1, hg⟩ := and_e hg
  obtain ⟨g2, hg⟩ := and_e hg
  have g3 := hg
  obtain ⟨w0, w1, w2, w3, rfl⟩ : ∃ w0 w1 w2 w3 : Value, args = #[w0, w1, w2, w3] := by
    have hs : args.size = 4 := by simpa [Cond.value, given_1] using hcnt
    obtain ⟨L⟩ := args
    match L, hs with
    | [w0, w1, w2, w3], _ => exact ⟨w0, w1, w2, w3, rfl⟩
  have hw := fun d (hd : d ∈ tables_1) => atoms_spec (ws := Jvm.Cond.code x code maxLocals ret :: tables_1) hat d (List.mem_cons_of_mem _ hd)
  have hfit : Fit s := fun {y c} hc i hi => by
    obtain ⟨ha, rfl⟩ := Array.getElem?_eq_some_iff.mp hc
    have q := List.all_eq_true.mp ((Array.all_eq_true_iff_forall_mem.mp hF) _ (Array.getElem_mem ha)) i (List.mem_range.mpr hi)
    simpa [Array.getElem?_eq_getElem hi] using q
  obtain ⟨hsets, hown0⟩ := atoms_of _ (rest_1_c_eq ▸ (show rest_1_c.before _ s = true from hrest))
  have hr0 := Cond.before_iff.mp hown0
  obtain ⟨i0, ei0⟩ := is_v g0
  obtain rfl : w0 = (.int i0) := Option.some.inj ei0
  obtain ⟨i1, ei1⟩ := is_v g1
  obtain rfl : w1 = (.int i1) := Option.some.inj ei1
  obtain ⟨i2, ei2⟩ := is_v g2
  obtain rfl : w2 = (.int i2) := Option.some.inj ei2
  obtain ⟨i3, ei3⟩ := is_v g3
  obtain rfl : w3 = (.int i3) := Option.some.inj ei3
  obtain ⟨cpt, ecpt⟩ := is_v (Cond.before_iff.mp (hsets _ (List.mem_of_getElem? (i := 1) rfl)))
  have S_cpt : Sta s s.heap "java/lang/String" "COMPACT_STRINGS" "Z" (.int cpt) := Sta.start ecpt (Or.inl (hsets _ (List.mem_of_getElem? (i := 0) rfl)))
  have h_cpt : ¬ (cpt = (0 : Int32)) := gotF (Cond.eq_ints ecpt (Term.int_eval (0))) (not_v (Cond.before_iff.mp (hsets _ (List.mem_of_getElem? (i := 2) rfl))))
  have S_ad : Sta s s.heap "java/lang/StringUTF16" "$assertionsDisabled" "Z" (.int (1 : Int32)) := Sta.start (Cond.eq_int (hsets _ (List.mem_of_getElem? (i := 12) rfl)) rfl) (Or.inl (hsets _ (List.mem_of_getElem? (i := 11) rfl)))
  have S_hs : Sta s s.heap "java/lang/StringUTF16" "HI_BYTE_SHIFT" "I" (.int (0 : Int32)) := Sta.start (Cond.eq_int (hsets _ (List.mem_of_getElem? (i := 15) rfl)) rfl) (Or.inl (hsets _ (List.mem_of_getElem? (i := 14) rfl)))
  have S_ls : Sta s s.heap "java/lang/StringUTF16" "LO_BYTE_SHIFT" "I" (.int (8 : Int32)) := Sta.start (Cond.eq_int (hsets _ (List.mem_of_getElem? (i := 18) rfl)) rfl) (Or.inl (hsets _ (List.mem_of_getElem? (i := 17) rfl)))
  obtain ⟨fmt, efmt, h_fmt⟩ := isR_v (Cond.before_iff.mp (hsets _ (List.mem_of_getElem? (i := 8) rfl)))
  have S_fmt : Sta s s.heap "jdk/internal/util/Preconditions" "SIOOBE_FORMATTER" "Ljava/util/function/BiFunction;" fmt := Sta.start efmt (Or.inl (hsets _ (List.mem_of_getElem? (i := 7) rfl)))
  have hEL : EW s _ consts_1 := (EW.cons (hw _ (List.mem_of_getElem? (i := 19) rfl)) (by decide) EW.nil)
  have H0 : CHv s consts_1 s.vm s.heap := CHv.start hEL (show ∀ p ∈ consts_1, Jvm.Lit.constHeld s p.1 p.2 from hcalls.1) (hsets _ (List.mem_of_getElem? (i := 2) rfl)) (hw _ (List.mem_of_getElem? (i := 20) rfl)) (hw _ (List.mem_of_getElem? (i := 6) rfl))
  obtain ⟨n, o, h1, h2, h3, _, L, rfl, ⟨rfl, N, K⟩, hC, hq⟩ := own_law l s _ hw tables_1 hEL i0 i1 i2 i3 cpt fmt s.heap (Old.start s) S_cpt h_cpt S_ad S_hs S_ls h_fmt S_fmt p e ha hc hk s m _ below hf ((Spec.applies_iff_loose hf).mp happ).1 ⟨rfl, State.Warmed39.refl s, rfl, H0⟩ trivial
  refine ⟨n, _, h1, h2, h3, hpost _ _ _ _ _ _ ⟨Cond.after_iff.mpr rfl, Cond.after_iff.mpr (eq_i res_at (Term.int_eval (1)) rfl), trivial⟩ ⟨hq.1, hq.2.1, hq.2.2.1, (hq.2.2.2.sift fun y hy => Or.inr (N y hy)).mono (by decide) (by decide)⟩⟩
theorem main_1_1 : Claimed_1_1 := own_comes fun _ _ _ _ _ _ h hF => ⟨h.1, hF⟩
theorem main_1_2 : Claimed_1_2 := own_comes fun _ _ _ _ _ _ h hF => ⟨h.2.1, hF⟩
end Jvm.Pilot.@@N@@
namespace Jvm.Pilot.@@N@@
open Jvm Jvm.ClassFile Sem Op Lib Jvm.Free Jvm.Stand Jvm.Pilot.@@N@@.Jvm.D
/-! MADE BY PROGRAM (witnessworld.py) out of the Statement's table words and the real class files: 22 classes; the members and pool entries that the words name. The judged class is class 1, her method 2. -/
namespace start1
open Jvm.ClassFile
def u (s : String) : CpInfo := .utf8 (stringToUtf16 s)
/-- a pool by its gaps: so many unusable entries, then the entry; so many at the end -/
def gap : Nat → List CpInfo → List CpInfo
  | 0, r => r
  | n + 1, r => .unusable :: gap n r
def poolList (es : List (Nat × CpInfo)) (last : Nat) : List CpInfo := es.foldr (fun e r => gap e.1 (e.2 :: r)) (gap last [])
def pool (es : List (Nat × CpInfo)) (last : Nat) : Array CpInfo := ⟨poolList es last⟩
def fileOf (pool : Array CpInfo) (this : Nat) (attrs : Array Attribute := #[]) (ms : Array MethodInfo := #[]) (fl : Nat := 33) (sup : Nat := 0) (ifs : Array Nat := #[]) (fds : Array FieldInfo := #[]) : ClassFile where
  minorVersion := 0
  majorVersion := 65
  constantPool := pool
  accessFlags := fl
  thisClass := this
  superClass := sup
  interfaces := ifs
  fields := fds
  methods := ms
  attributes := attrs
def plain (name : String) (sup : Option ClassId) : Class where
  name := name
  kind := .ordinary
  loader := none
  accessFlags := 33
  super := sup
  interfaces := #[]
  cf := none
  fields := #[]
  methods := #[]
  instanceTypes := #[]
  staticTypes := #[]
  resolved := #[]
  callSites := []
  init := .initialized
  statics := none
  mirror := none

def pool0 : Array CpInfo := pool [(5, u "<init>"), (0, u "()V"), (1, .class_ 10), (1, u "java/lang/Object")] 113

def k0c0 : Code := { maxStack := 0, maxLocals := 1, code := object_method_1_code, exceptionTable := #[], attributes := #[] }
def k0m0 : Method := { name := "<init>", desc := "()V", sig := { parameters := [], returnType := none }, accessFlags := 1, code := some k0c0 }
/-- java/lang/Object -/
def k0 : Class := { plain "java/lang/Object" none with
  accessFlags := 33
  interfaces := #[]
  cf := some (fileOf pool0 8 #[] #[{ accessFlags := 1, nameIndex := 5, descriptorIndex := 6, attributes := #[] }] 33 0 #[] #[])
  fields := #[]
  methods := #[k0m0]
  instanceTypes := #[]
  staticTypes := #[]
  resolved := Array.replicate 124 none
  statics := none }

def pool1 : Array CpInfo := pool [(2, .class_ 4), (1, u "java/lang/Object"), (0, u "<init>"), (0, u "()V"), (0, .integer 65535), (0, .methodref 9 10), (0, .class_ 11), (0, .nameAndType 12 13), (0, u "com/example/vestibule/vestibule/BasicCredentialsCanCarryPinLaw"), (0, u "pick"), (0, u "(I)C"), (0, .class_ 15), (0, u "java/lang/String"), (0, .methodref 14 17), (0, .nameAndType 5 18), (0, u "([C)V"), (0, .methodref 20 21), (0, .class_ 22), (0, .nameAndType 23 24), (0, u "com/example/vestibule/vestibule/BasicCredentials"), (0, u "canCarry"), (0, u "(Ljava/lang/String;)Z"), (3, u "law"), (0, u "(IIII)Z")] 2

def k1m0 : Method := { name := "<init>", desc := "()V", sig := { parameters := [], returnType := none }, accessFlags := 1, code := none }
def k1c1 : Code := { maxStack := 2, maxLocals := 1, code := method_2_code, exceptionTable := #[], attributes := #[] }
def k1m1 : Method := { name := "pick", desc := "(I)C", sig := { parameters := [.int], returnType := some .char }, accessFlags := 10, code := some k1c1 }
def k1c2 : Code := { maxStack := 6, maxLocals := 13, code := code, exceptionTable := #[], attributes := #[] }
def k1m2 : Method := { name := "law", desc := "(IIII)Z", sig := { parameters := [.int, .int, .int, .int], returnType := some .boolean }, accessFlags := 9, code := some k1c2 }
/-- com/example/vestibule/vestibule/BasicCredentialsCanCarryPinLaw -/
def k1 : Class := { plain "com/example/vestibule/vestibule/BasicCredentialsCanCarryPinLaw" (some 0) with
  accessFlags := 49
  interfaces := #[]
  cf := some (fileOf pool1 9 #[] #[{ accessFlags := 1, nameIndex := 5, descriptorIndex := 6, attributes := #[] }, { accessFlags := 10, nameIndex := 12, descriptorIndex := 13, attributes := #[] }, { accessFlags := 9, nameIndex := 28, descriptorIndex := 29, attributes := #[] }] 49 2 #[] #[])
  fields := #[]
  methods := #[k1m0, k1m1, k1m2]
  instanceTypes := #[]
  staticTypes := #[]
  resolved := Array.replicate 32 none
  statics := none }

def pool2 : Array CpInfo := pool [(1, .class_ 2), (0, u "java/io/Serializable"), (0, .class_ 4), (0, u "java/lang/Object")] 2

/-- java/io/Serializable -/
def k2 : Class := { plain "java/io/Serializable" (some 0) with
  accessFlags := 1537
  interfaces := #[]
  cf := some (fileOf pool2 1 #[] #[] 1537 3 #[] #[])
  fields := #[]
  methods := #[]
  instanceTypes := #[]
  staticTypes := #[]
  resolved := Array.replicate 7 none
  statics := none }

def pool3 : Array CpInfo := pool [(1, .class_ 2), (0, u "java/lang/Comparable"), (0, .class_ 4), (0, u "java/lang/Object")] 7

/-- java/lang/Comparable -/
def k3 : Class := { plain "java/lang/Comparable" (some 0) with
  accessFlags := 1537
  interfaces := #[]
  cf := some (fileOf pool3 1 #[] #[] 1537 3 #[] #[])
  fields := #[]
  methods := #[]
  instanceTypes := #[]
  staticTypes := #[]
  resolved := Array.replicate 12 none
  statics := none }

def pool4 : Array CpInfo := pool [(2, .class_ 4), (1, u "java/lang/CharSequence"), (42, .class_ 48), (0, u "java/lang/CharSequence$1CodePointIterator"), (10, .class_ 60), (0, u "java/lang/CharSequence$1CharIterator"), (5, .class_ 67), (0, u "java/lang/Object")] 63

/-- java/lang/CharSequence -/
def k4 : Class := { plain "java/lang/CharSequence" (some 0) with
  accessFlags := 1537
  interfaces := #[]
  cf := some (fileOf pool4 2 #[.nestMembers #[47, 59]] #[] 1537 66 #[] #[])
  fields := #[]
  methods := #[]
  instanceTypes := #[]
  staticTypes := #[]
  resolved := Array.replicate 131 none
  statics := none }

def pool5 : Array CpInfo := pool [(1, .class_ 2), (0, u "java/lang/constant/Constable"), (0, .class_ 4), (0, u "java/lang/Object")] 6

/-- java/lang/constant/Constable -/
def k5 : Class := { plain "java/lang/constant/Constable" (some 0) with
  accessFlags := 1537
  interfaces := #[]
  cf := some (fileOf pool5 1 #[] #[] 1537 3 #[] #[])
  fields := #[]
  methods := #[]
  instanceTypes := #[]
  staticTypes := #[]
  resolved := Array.replicate 11 none
  statics := none }

def pool6 : Array CpInfo := pool [(1, .class_ 2), (0, u "java/lang/constant/ConstantDesc"), (0, .class_ 4), (0, u "java/lang/Object")] 32

/-- java/lang/constant/ConstantDesc -/
def k6 : Class := { plain "java/lang/constant/ConstantDesc" (some 0) with
  accessFlags := 1537
  interfaces := #[]
  cf := some (fileOf pool6 1 #[] #[] 1537 3 #[] #[])
  fields := #[]
  methods := #[]
  instanceTypes := #[]
  staticTypes := #[]
  resolved := Array.replicate 37 none
  statics := none }

def pool7 : Array CpInfo := pool [(1, .methodref 2 3), (0, .class_ 4), (0, .nameAndType 5 6), (0, u "java/lang/Object"), (0, u "<init>"), (0, u "()V"), (0, .string 8), (0, u ""), (0, .fieldref 10 11), (0, .class_ 12), (0, .nameAndType 13 14), (0, u "java/lang/String"), (0, u "value"), (0, u "[B"), (0, .fieldref 10 16), (0, .nameAndType 17 18), (0, u "coder"), (0, u "B"), (2, u "hash"), (0, u "I"), (2, u "hashIsZero"), (0, u "Z"), (0, .methodref 10 28), (0, .nameAndType 5 29), (0, u "([CIILjava/lang/Void;)V"), (8, .fieldref 10 39), (0, .nameAndType 40 26), (0, u "COMPACT_STRINGS"), (1, .class_ 44), (1, u "java/lang/StringUTF16"), (0, u "compress"), (1, .methodref 42 48), (0, .nameAndType 49 50), (0, u "coderFromArrayLen"), (0, u "([BI)B"), (56, .class_ 109), (1, u "java/lang/StringLatin1"), (32, u "()Z"), (34, .methodref 42 178), (0, .nameAndType 45 179), (0, u "([CII)[B"), (154, u "()I"), (0, .methodref 10 336), (0, .nameAndType 17 337), (0, u "()B"), (154, .methodref 10 493), (0, .nameAndType 494 142), (0, u "isLatin1"), (10, .methodref 10 506), (0, .nameAndType 507 334), (0, u "length"), (5, u "checkFromToIndex"), (9, u "checkBoundsBeginEnd"), (0, u "(III)V"), (50, .class_ 576), (0, u "java/lang/CharSequence"), (22, u "CASE_INSENSITIVE_ORDER"), (0, u "Ljava/util/Comparator;"), (32, .methodref 10 634), (0, .nameAndType 635 636), (0, u "indexOf"), (0, u "(II)I"), (0, .methodref 107 638), (0, .nameAndType 635 639), (0, u "([BIII)I"), (0, .methodref 42 638), (124, u "(I)I"), (244, u "([C)V"), (42, .fieldref 1054 1055), (0, .class_ 1056), (0, .nameAndType 1057 1058), (0, u "jdk/internal/util/Preconditions"), (0, u "SIOOBE_FORMATTER"), (0, u "Ljava/util/function/BiFunction;"), (3, .methodref 1054 1063), (0, .nameAndType 513 1064), (0, u "(IIILjava/util/function/BiFunction;)I"), (36, u "serialPersistentFields"), (0, u "[Ljava/io/ObjectStreamField;"), (0, .class_ 1104), (0, u "java/lang/String$CaseInsensitiveComparator"), (1, .class_ 1107), (0, u "java/io/Serializable"), (0, .class_ 1109), (0, u "java/lang/Comparable"), (0, .class_ 1111), (0, u "java/lang/constant/Constable"), (0, .class_ 1113), (0, u "java/lang/constant/ConstantDesc"), (2, u "serialVersionUID"), (0, u "J"), (3, u "REPL"), (0, u "C"), (2, u "LATIN1"), (1, u "UTF16")] 323

def k7m0 : Method := { name := "<init>", desc := "()V", sig := { parameters := [], returnType := none }, accessFlags := 1, code := none }
def k7c1 : Code := { maxStack := 5, maxLocals := 2, code := jdk_42_method_3_code, exceptionTable := #[], attributes := #[] }
def k7m1 : Method := { name := "<init>", desc := "([C)V", sig := { parameters := [(.array .char)], returnType := none }, accessFlags := 1, code := some k7c1 }
def k7c2 : Code := { maxStack := 2, maxLocals := 1, code := jdk_42_method_54_code, exceptionTable := #[], attributes := #[] }
def k7m2 : Method := { name := "length", desc := "()I", sig := { parameters := [], returnType := some .int }, accessFlags := 1, code := some k7c2 }
def k7c3 : Code := { maxStack := 3, maxLocals := 2, code := jdk_42_method_79_code, exceptionTable := #[], attributes := #[] }
def k7m3 : Method := { name := "indexOf", desc := "(I)I", sig := { parameters := [.int], returnType := some .int }, accessFlags := 1, code := some k7c3 }
def k7c4 : Code := { maxStack := 4, maxLocals := 3, code := jdk_42_method_80_code, exceptionTable := #[], attributes := #[] }
def k7m4 : Method := { name := "indexOf", desc := "(II)I", sig := { parameters := [.int, .int], returnType := some .int }, accessFlags := 1, code := some k7c4 }
def k7c5 : Code := { maxStack := 4, maxLocals := 6, code := jdk_42_method_149_code, exceptionTable := #[], attributes := #[] }
def k7m5 : Method := { name := "<init>", desc := "([CIILjava/lang/Void;)V", sig := { parameters := [(.array .char), .int, .int, (.object "java/lang/Void")], returnType := none }, accessFlags := 2, code := some k7c5 }
def k7c6 : Code := { maxStack := 1, maxLocals := 1, code := jdk_42_method_152_code, exceptionTable := #[], attributes := #[] }
def k7m6 : Method := { name := "coder", desc := "()B", sig := { parameters := [], returnType := some .byte }, accessFlags := 0, code := some k7c6 }
def k7c7 : Code := { maxStack := 1, maxLocals := 1, code := jdk_42_method_154_code, exceptionTable := #[], attributes := #[] }
def k7m7 : Method := { name := "isLatin1", desc := "()Z", sig := { parameters := [], returnType := some .boolean }, accessFlags := 0, code := some k7c7 }
def k7c8 : Code := { maxStack := 4, maxLocals := 3, code := jdk_42_method_158_code, exceptionTable := #[], attributes := #[] }
def k7m8 : Method := { name := "checkBoundsBeginEnd", desc := "(III)V", sig := { parameters := [.int, .int, .int], returnType := none }, accessFlags := 8, code := some k7c8 }
/-- java/lang/String -/
def k7 : Class := { plain "java/lang/String" (some 0) with
  accessFlags := 49
  interfaces := #[2, 3, 4, 5, 6]
  cf := some (fileOf pool7 10 #[.nestMembers #[1103]] #[{ accessFlags := 1, nameIndex := 5, descriptorIndex := 6, attributes := #[] }, { accessFlags := 1, nameIndex := 5, descriptorIndex := 1010, attributes := #[] }, { accessFlags := 1, nameIndex := 507, descriptorIndex := 334, attributes := #[] }, { accessFlags := 1, nameIndex := 635, descriptorIndex := 765, attributes := #[] }, { accessFlags := 1, nameIndex := 635, descriptorIndex := 636, attributes := #[] }, { accessFlags := 2, nameIndex := 5, descriptorIndex := 29, attributes := #[] }, { accessFlags := 0, nameIndex := 17, descriptorIndex := 337, attributes := #[] }, { accessFlags := 0, nameIndex := 494, descriptorIndex := 142, attributes := #[] }, { accessFlags := 8, nameIndex := 523, descriptorIndex := 524, attributes := #[] }] 49 2 #[1106, 1108, 575, 1110, 1112] #[{ accessFlags := 18, nameIndex := 13, descriptorIndex := 14, attributes := #[] }, { accessFlags := 18, nameIndex := 17, descriptorIndex := 18, attributes := #[] }, { accessFlags := 2, nameIndex := 21, descriptorIndex := 22, attributes := #[] }, { accessFlags := 2, nameIndex := 25, descriptorIndex := 26, attributes := #[] }, { accessFlags := 26, nameIndex := 1116, descriptorIndex := 1117, attributes := #[] }, { accessFlags := 24, nameIndex := 40, descriptorIndex := 26, attributes := #[] }, { accessFlags := 26, nameIndex := 1101, descriptorIndex := 1102, attributes := #[] }, { accessFlags := 26, nameIndex := 1121, descriptorIndex := 1122, attributes := #[] }, { accessFlags := 25, nameIndex := 599, descriptorIndex := 600, attributes := #[] }, { accessFlags := 24, nameIndex := 1125, descriptorIndex := 18, attributes := #[] }, { accessFlags := 24, nameIndex := 1127, descriptorIndex := 18, attributes := #[] }])
  fields := #[{ name := "value", type := (.array .byte), accessFlags := 18, slot := 0, constantValue := 0 }, { name := "coder", type := .byte, accessFlags := 18, slot := 1, constantValue := 0 }, { name := "hash", type := .int, accessFlags := 2, slot := 2, constantValue := 0 }, { name := "hashIsZero", type := .boolean, accessFlags := 2, slot := 3, constantValue := 0 }, { name := "serialVersionUID", type := .long, accessFlags := 26, slot := 0, constantValue := 0 }, { name := "COMPACT_STRINGS", type := .boolean, accessFlags := 24, slot := 1, constantValue := 0 }, { name := "serialPersistentFields", type := (.array (.object "java/io/ObjectStreamField")), accessFlags := 26, slot := 2, constantValue := 0 }, { name := "REPL", type := .char, accessFlags := 26, slot := 3, constantValue := 0 }, { name := "CASE_INSENSITIVE_ORDER", type := (.object "java/util/Comparator"), accessFlags := 25, slot := 4, constantValue := 0 }, { name := "LATIN1", type := .byte, accessFlags := 24, slot := 5, constantValue := 0 }, { name := "UTF16", type := .byte, accessFlags := 24, slot := 6, constantValue := 0 }]
  methods := #[k7m0, k7m1, k7m2, k7m3, k7m4, k7m5, k7m6, k7m7, k7m8]
  instanceTypes := #[(.array .byte), .byte, .int, .boolean]
  staticTypes := #[.long, .boolean, (.array (.object "java/io/ObjectStreamField")), .char, (.object "java/util/Comparator"), .byte, .byte]
  resolved := Array.replicate 1451 none
  statics := some 0 }

def pool8 : Array CpInfo := pool [(2, .class_ 4), (1, u "java/lang/Object"), (0, u "<init>"), (0, u "()V"), (0, .class_ 8), (0, u "java/lang/Record")] 13

def k8m0 : Method := { name := "<init>", desc := "()V", sig := { parameters := [], returnType := none }, accessFlags := 4, code := none }
/-- java/lang/Record -/
def k8 : Class := { plain "java/lang/Record" (some 0) with
  accessFlags := 1057
  interfaces := #[]
  cf := some (fileOf pool8 7 #[] #[{ accessFlags := 4, nameIndex := 5, descriptorIndex := 6, attributes := #[] }] 1057 2 #[] #[])
  fields := #[]
  methods := #[k8m0]
  instanceTypes := #[]
  staticTypes := #[]
  resolved := Array.replicate 22 none
  statics := none }

def pool9 : Array CpInfo := pool [(2, .class_ 4), (1, u "java/lang/Record"), (3, .class_ 10), (1, u "com/example/vestibule/vestibule/BasicCredentials"), (0, u "user"), (0, u "Ljava/lang/String;"), (2, u "password"), (2, u "SYNTAX"), (0, u "Ljava/util/regex/Pattern;"), (67, .methodref 88 89), (0, .class_ 90), (0, .nameAndType 91 92), (0, u "java/lang/String"), (0, u "indexOf"), (0, u "(I)I"), (49, u "CHALLENGE"), (13, u "canCarry"), (0, u "(Ljava/lang/String;)Z")] 39

def k9c0 : Code := { maxStack := 2, maxLocals := 1, code := prog_1_method_3_code, exceptionTable := #[], attributes := #[] }
def k9m0 : Method := { name := "canCarry", desc := "(Ljava/lang/String;)Z", sig := { parameters := [(.object "java/lang/String")], returnType := some .boolean }, accessFlags := 8, code := some k9c0 }
/-- com/example/vestibule/vestibule/BasicCredentials -/
def k9 : Class := { plain "com/example/vestibule/vestibule/BasicCredentials" (some 8) with
  accessFlags := 48
  interfaces := #[]
  cf := some (fileOf pool9 8 #[] #[{ accessFlags := 8, nameIndex := 156, descriptorIndex := 157, attributes := #[] }] 48 2 #[] #[{ accessFlags := 18, nameIndex := 11, descriptorIndex := 12, attributes := #[] }, { accessFlags := 18, nameIndex := 15, descriptorIndex := 12, attributes := #[] }, { accessFlags := 24, nameIndex := 142, descriptorIndex := 12, attributes := #[] }, { accessFlags := 26, nameIndex := 18, descriptorIndex := 19, attributes := #[] }])
  fields := #[{ name := "user", type := (.object "java/lang/String"), accessFlags := 18, slot := 0, constantValue := 0 }, { name := "password", type := (.object "java/lang/String"), accessFlags := 18, slot := 1, constantValue := 0 }, { name := "CHALLENGE", type := (.object "java/lang/String"), accessFlags := 24, slot := 0, constantValue := 0 }, { name := "SYNTAX", type := (.object "java/util/regex/Pattern"), accessFlags := 26, slot := 1, constantValue := 0 }]
  methods := #[k9m0]
  instanceTypes := #[(.object "java/lang/String"), (.object "java/lang/String")]
  staticTypes := #[(.object "java/lang/String"), (.object "java/util/regex/Pattern")]
  resolved := Array.replicate 197 none
  statics := none }

def pool10 : Array CpInfo := pool [(4, .class_ 6), (1, u "java/lang/Object"), (0, u "<init>"), (0, u "()V"), (5, .class_ 16), (1, u "java/lang/StringLatin1"), (21, .methodref 39 40), (0, .class_ 41), (0, .nameAndType 42 43), (0, u "java/lang/Math"), (0, u "min"), (0, u "(II)I"), (44, .methodref 14 89), (0, .nameAndType 90 91), (0, u "canEncode"), (0, u "(I)Z"), (0, .methodref 39 93), (0, .nameAndType 94 43), (0, u "max"), (0, .methodref 14 96), (0, .nameAndType 97 98), (0, u "indexOfChar"), (0, u "([BIII)I"), (2, u "indexOf"), (19, u "$assertionsDisabled"), (0, u "Z"), (98, .class_ 223), (1, u "java/lang/StringLatin1$LinesSpliterator"), (166, .class_ 391), (0, u "java/lang/StringLatin1$CharsSpliterator")] 3

def k10m0 : Method := { name := "<init>", desc := "()V", sig := { parameters := [], returnType := none }, accessFlags := 0, code := none }
def k10c1 : Code := { maxStack := 2, maxLocals := 1, code := jdk_43_method_4_code, exceptionTable := #[], attributes := #[] }
def k10m1 : Method := { name := "canEncode", desc := "(I)Z", sig := { parameters := [.int], returnType := some .boolean }, accessFlags := 9, code := some k10c1 }
def k10c2 : Code := { maxStack := 4, maxLocals := 4, code := jdk_43_method_22_code, exceptionTable := #[], attributes := #[] }
def k10m2 : Method := { name := "indexOf", desc := "([BIII)I", sig := { parameters := [(.array .byte), .int, .int, .int], returnType := some .int }, accessFlags := 9, code := some k10c2 }
def k10c3 : Code := { maxStack := 2, maxLocals := 6, code := jdk_43_method_23_code, exceptionTable := #[], attributes := #[] }
def k10m3 : Method := { name := "indexOfChar", desc := "([BIII)I", sig := { parameters := [(.array .byte), .int, .int, .int], returnType := some .int }, accessFlags := 10, code := some k10c3 }
/-- java/lang/StringLatin1 -/
def k10 : Class := { plain "java/lang/StringLatin1" (some 0) with
  accessFlags := 48
  interfaces := #[]
  cf := some (fileOf pool10 14 #[.nestMembers #[390, 221]] #[{ accessFlags := 0, nameIndex := 7, descriptorIndex := 8, attributes := #[] }, { accessFlags := 9, nameIndex := 90, descriptorIndex := 91, attributes := #[] }, { accessFlags := 9, nameIndex := 101, descriptorIndex := 98, attributes := #[] }, { accessFlags := 10, nameIndex := 97, descriptorIndex := 98, attributes := #[] }] 48 4 #[] #[{ accessFlags := 4120, nameIndex := 121, descriptorIndex := 122, attributes := #[] }])
  fields := #[{ name := "$assertionsDisabled", type := .boolean, accessFlags := 4120, slot := 0, constantValue := 0 }]
  methods := #[k10m0, k10m1, k10m2, k10m3]
  instanceTypes := #[]
  staticTypes := #[.boolean]
  resolved := Array.replicate 395 none
  statics := none }

def pool11 : Array CpInfo := pool [(1, .class_ 2), (0, u "java/lang/Math"), (1, .class_ 6), (1, u "java/lang/Object"), (0, u "<init>"), (0, u "()V"), (89, .class_ 100), (1, u "java/lang/Math$RandomNumberGeneratorHolder"), (71, u "negativeZeroFloatBits"), (0, u "J"), (2, u "negativeZeroDoubleBits"), (21, u "max"), (2, u "min"), (43, u "$assertionsDisabled"), (0, u "Z"), (88, u "(II)I"), (2, u "twoToTheDoubleScaleDown"), (0, u "D"), (4, u "twoToTheDoubleScaleUp"), (9, u "E"), (3, u "PI"), (2, u "TAU"), (2, u "DEGREES_TO_RADIANS"), (0, u "RADIANS_TO_DEGREES")] 94

def k11m0 : Method := { name := "<init>", desc := "()V", sig := { parameters := [], returnType := none }, accessFlags := 2, code := none }
def k11c1 : Code := { maxStack := 2, maxLocals := 2, code := jdk_29_method_65_code, exceptionTable := #[], attributes := #[] }
def k11m1 : Method := { name := "max", desc := "(II)I", sig := { parameters := [.int, .int], returnType := some .int }, accessFlags := 9, code := some k11c1 }
def k11c2 : Code := { maxStack := 2, maxLocals := 2, code := jdk_29_method_69_code, exceptionTable := #[], attributes := #[] }
def k11m2 : Method := { name := "min", desc := "(II)I", sig := { parameters := [.int, .int], returnType := some .int }, accessFlags := 9, code := some k11c2 }
/-- java/lang/Math -/
def k11 : Class := { plain "java/lang/Math" (some 0) with
  accessFlags := 49
  interfaces := #[]
  cf := some (fileOf pool11 1 #[.nestMembers #[98]] #[{ accessFlags := 2, nameIndex := 7, descriptorIndex := 8, attributes := #[] }, { accessFlags := 9, nameIndex := 198, descriptorIndex := 335, attributes := #[] }, { accessFlags := 9, nameIndex := 201, descriptorIndex := 335, attributes := #[] }] 49 4 #[] #[{ accessFlags := 25, nameIndex := 354, descriptorIndex := 339, attributes := #[] }, { accessFlags := 25, nameIndex := 358, descriptorIndex := 339, attributes := #[] }, { accessFlags := 25, nameIndex := 361, descriptorIndex := 339, attributes := #[] }, { accessFlags := 26, nameIndex := 364, descriptorIndex := 339, attributes := #[] }, { accessFlags := 26, nameIndex := 365, descriptorIndex := 339, attributes := #[] }, { accessFlags := 26, nameIndex := 172, descriptorIndex := 173, attributes := #[] }, { accessFlags := 26, nameIndex := 176, descriptorIndex := 173, attributes := #[] }, { accessFlags := 8, nameIndex := 344, descriptorIndex := 339, attributes := #[] }, { accessFlags := 8, nameIndex := 338, descriptorIndex := 339, attributes := #[] }, { accessFlags := 4120, nameIndex := 245, descriptorIndex := 246, attributes := #[] }])
  fields := #[{ name := "E", type := .double, accessFlags := 25, slot := 0, constantValue := 0 }, { name := "PI", type := .double, accessFlags := 25, slot := 1, constantValue := 0 }, { name := "TAU", type := .double, accessFlags := 25, slot := 2, constantValue := 0 }, { name := "DEGREES_TO_RADIANS", type := .double, accessFlags := 26, slot := 3, constantValue := 0 }, { name := "RADIANS_TO_DEGREES", type := .double, accessFlags := 26, slot := 4, constantValue := 0 }, { name := "negativeZeroFloatBits", type := .long, accessFlags := 26, slot := 5, constantValue := 0 }, { name := "negativeZeroDoubleBits", type := .long, accessFlags := 26, slot := 6, constantValue := 0 }, { name := "twoToTheDoubleScaleUp", type := .double, accessFlags := 8, slot := 7, constantValue := 0 }, { name := "twoToTheDoubleScaleDown", type := .double, accessFlags := 8, slot := 8, constantValue := 0 }, { name := "$assertionsDisabled", type := .boolean, accessFlags := 4120, slot := 9, constantValue := 0 }]
  methods := #[k11m0, k11m1, k11m2]
  instanceTypes := #[]
  staticTypes := #[.double, .double, .double, .double, .double, .long, .long, .double, .double, .boolean]
  resolved := Array.replicate 460 none
  statics := none }

def pool12 : Array CpInfo := pool [(3, .class_ 4), (0, u "java/lang/String"), (1, .class_ 8), (1, u "java/lang/Object"), (0, u "<init>"), (0, u "()V"), (0, .methodref 12 13), (0, .class_ 14), (0, .nameAndType 15 16), (0, u "java/lang/StringUTF16"), (0, u "newBytesLength"), (0, u "(I)I"), (3, .integer 1073741823), (23, .fieldref 12 45), (0, .nameAndType 46 47), (0, u "$assertionsDisabled"), (0, u "Z"), (0, .methodref 12 49), (0, .nameAndType 50 51), (0, u "length"), (0, u "([B)I"), (7, .fieldref 12 60), (0, .nameAndType 61 62), (0, u "HI_BYTE_SHIFT"), (0, u "I"), (0, .fieldref 12 64), (0, .nameAndType 65 62), (0, u "LO_BYTE_SHIFT"), (5, .methodref 12 72), (0, .nameAndType 73 74), (0, u "getChar"), (0, u "([BI)C"), (21, .methodref 12 97), (0, .nameAndType 98 99), (0, u "checkBoundsBeginEnd"), (0, u "(II[B)V"), (7, .methodref 12 108), (0, .nameAndType 109 110), (0, u "newBytesFor"), (0, u "(I)[B"), (0, .methodref 12 112), (0, .nameAndType 113 114), (0, u "putChar"), (0, u "([BII)V"), (0, .methodref 12 116), (0, .nameAndType 117 118), (0, u "compress"), (0, u "([CI[BII)I"), (0, .methodref 12 120), (0, .nameAndType 121 122), (0, u "toBytes"), (0, u "([CII)[B"), (60, .methodref 184 185), (0, .class_ 186), (0, .nameAndType 187 188), (0, u "java/lang/Math"), (0, u "min"), (0, u "(II)I"), (35, .methodref 184 225), (0, .nameAndType 226 188), (0, u "max"), (0, .integer 65536), (0, .methodref 12 229), (0, .nameAndType 230 231), (0, u "indexOfChar"), (0, u "([BIII)I"), (9, .methodref 3 242), (0, .nameAndType 98 243), (0, u "(III)V"), (0, .methodref 12 245), (0, .nameAndType 246 231), (0, u "indexOfCharUnsafe"), (14, u "coderFromArrayLen"), (0, u "([BI)B"), (5, u "indexOf"), (100, .class_ 371), (1, u "java/lang/StringUTF16$LinesSpliterator"), (58, u "MAX_LENGTH"), (196, .class_ 628), (0, u "java/lang/StringUTF16$CodePointsSpliterator"), (0, .class_ 630), (0, u "java/lang/StringUTF16$CharsSpliterator")] 4

def k12m0 : Method := { name := "<init>", desc := "()V", sig := { parameters := [], returnType := none }, accessFlags := 0, code := none }
def k12c1 : Code := { maxStack := 1, maxLocals := 1, code := jdk_52_method_2_code, exceptionTable := #[], attributes := #[] }
def k12m1 : Method := { name := "newBytesFor", desc := "(I)[B", sig := { parameters := [.int], returnType := some (.array .byte) }, accessFlags := 9, code := some k12c1 }
def k12c2 : Code := { maxStack := 4, maxLocals := 1, code := jdk_52_method_3_code, exceptionTable := #[], attributes := #[] }
def k12m2 : Method := { name := "newBytesLength", desc := "(I)I", sig := { parameters := [.int], returnType := some .int }, accessFlags := 9, code := some k12c2 }
def k12c3 : Code := { maxStack := 4, maxLocals := 3, code := jdk_52_method_4_code, exceptionTable := #[], attributes := #[] }
def k12m3 : Method := { name := "putChar", desc := "([BII)V", sig := { parameters := [(.array .byte), .int, .int], returnType := none }, accessFlags := 8, code := some k12c3 }
def k12c4 : Code := { maxStack := 3, maxLocals := 2, code := jdk_52_method_5_code, exceptionTable := #[], attributes := #[] }
def k12m4 : Method := { name := "getChar", desc := "([BI)C", sig := { parameters := [(.array .byte), .int], returnType := some .char }, accessFlags := 8, code := some k12c4 }
def k12c5 : Code := { maxStack := 2, maxLocals := 1, code := jdk_52_method_6_code, exceptionTable := #[], attributes := #[] }
def k12m5 : Method := { name := "length", desc := "([B)I", sig := { parameters := [(.array .byte)], returnType := some .int }, accessFlags := 9, code := some k12c5 }
def k12c6 : Code := { maxStack := 4, maxLocals := 5, code := jdk_52_method_14_code, exceptionTable := #[], attributes := #[] }
def k12m6 : Method := { name := "toBytes", desc := "([CII)[B", sig := { parameters := [(.array .char), .int, .int], returnType := some (.array .byte) }, accessFlags := 9, code := some k12c6 }
def k12c7 : Code := { maxStack := 2, maxLocals := 2, code := jdk_52_method_15_code, exceptionTable := #[], attributes := #[] }
def k12m7 : Method := { name := "coderFromArrayLen", desc := "([BI)B", sig := { parameters := [(.array .byte), .int], returnType := some .byte }, accessFlags := 8, code := some k12c7 }
def k12c8 : Code := { maxStack := 5, maxLocals := 6, code := jdk_52_method_16_code, exceptionTable := #[], attributes := #[] }
def k12m8 : Method := { name := "compress", desc := "([CII)[B", sig := { parameters := [(.array .char), .int, .int], returnType := some (.array .byte) }, accessFlags := 9, code := some k12c8 }
def k12c9 : Code := { maxStack := 3, maxLocals := 7, code := jdk_52_method_21_code, exceptionTable := #[], attributes := #[] }
def k12m9 : Method := { name := "compress", desc := "([CI[BII)I", sig := { parameters := [(.array .char), .int, (.array .byte), .int, .int], returnType := some .int }, accessFlags := 9, code := some k12c9 }
def k12c10 : Code := { maxStack := 4, maxLocals := 4, code := jdk_52_method_40_code, exceptionTable := #[], attributes := #[] }
def k12m10 : Method := { name := "indexOf", desc := "([BIII)I", sig := { parameters := [(.array .byte), .int, .int, .int], returnType := some .int }, accessFlags := 9, code := some k12c10 }
def k12c11 : Code := { maxStack := 4, maxLocals := 4, code := jdk_52_method_47_code, exceptionTable := #[], attributes := #[] }
def k12m11 : Method := { name := "indexOfChar", desc := "([BIII)I", sig := { parameters := [(.array .byte), .int, .int, .int], returnType := some .int }, accessFlags := 10, code := some k12c11 }
def k12c12 : Code := { maxStack := 2, maxLocals := 5, code := jdk_52_method_48_code, exceptionTable := #[], attributes := #[] }
def k12m12 : Method := { name := "indexOfCharUnsafe", desc := "([BIII)I", sig := { parameters := [(.array .byte), .int, .int, .int], returnType := some .int }, accessFlags := 10, code := some k12c12 }
def k12c13 : Code := { maxStack := 3, maxLocals := 3, code := jdk_52_method_93_code, exceptionTable := #[], attributes := #[] }
def k12m13 : Method := { name := "checkBoundsBeginEnd", desc := "(II[B)V", sig := { parameters := [.int, .int, (.array .byte)], returnType := none }, accessFlags := 9, code := some k12c13 }
/-- java/lang/StringUTF16 -/
def k12 : Class := { plain "java/lang/StringUTF16" (some 0) with
  accessFlags := 48
  interfaces := #[]
  cf := some (fileOf pool12 12 #[.nestMembers #[627, 629, 369]] #[{ accessFlags := 0, nameIndex := 9, descriptorIndex := 10, attributes := #[] }, { accessFlags := 9, nameIndex := 109, descriptorIndex := 110, attributes := #[] }, { accessFlags := 9, nameIndex := 15, descriptorIndex := 16, attributes := #[] }, { accessFlags := 8, nameIndex := 113, descriptorIndex := 114, attributes := #[] }, { accessFlags := 8, nameIndex := 73, descriptorIndex := 74, attributes := #[] }, { accessFlags := 9, nameIndex := 50, descriptorIndex := 51, attributes := #[] }, { accessFlags := 9, nameIndex := 121, descriptorIndex := 122, attributes := #[] }, { accessFlags := 8, nameIndex := 261, descriptorIndex := 262, attributes := #[] }, { accessFlags := 9, nameIndex := 117, descriptorIndex := 122, attributes := #[] }, { accessFlags := 9, nameIndex := 117, descriptorIndex := 118, attributes := #[] }, { accessFlags := 9, nameIndex := 268, descriptorIndex := 231, attributes := #[] }, { accessFlags := 10, nameIndex := 230, descriptorIndex := 231, attributes := #[] }, { accessFlags := 10, nameIndex := 246, descriptorIndex := 231, attributes := #[] }, { accessFlags := 9, nameIndex := 98, descriptorIndex := 99, attributes := #[] }] 48 6 #[] #[{ accessFlags := 26, nameIndex := 61, descriptorIndex := 62, attributes := #[] }, { accessFlags := 26, nameIndex := 65, descriptorIndex := 62, attributes := #[] }, { accessFlags := 24, nameIndex := 430, descriptorIndex := 62, attributes := #[] }, { accessFlags := 4120, nameIndex := 46, descriptorIndex := 47, attributes := #[] }])
  fields := #[{ name := "HI_BYTE_SHIFT", type := .int, accessFlags := 26, slot := 0, constantValue := 0 }, { name := "LO_BYTE_SHIFT", type := .int, accessFlags := 26, slot := 1, constantValue := 0 }, { name := "MAX_LENGTH", type := .int, accessFlags := 24, slot := 2, constantValue := 0 }, { name := "$assertionsDisabled", type := .boolean, accessFlags := 4120, slot := 3, constantValue := 0 }]
  methods := #[k12m0, k12m1, k12m2, k12m3, k12m4, k12m5, k12m6, k12m7, k12m8, k12m9, k12m10, k12m11, k12m12, k12m13]
  instanceTypes := #[]
  staticTypes := #[.int, .int, .int, .boolean]
  resolved := Array.replicate 635 none
  statics := some 1 }

def pool13 : Array CpInfo := pool [(2, .class_ 4), (1, u "java/lang/Object"), (0, u "<init>"), (0, u "()V"), (17, .class_ 26), (1, u "jdk/internal/util/Preconditions"), (20, u "checkFromToIndex"), (7, .class_ 56), (0, u "jdk/internal/util/Preconditions$4"), (57, .class_ 115), (0, u "jdk/internal/util/Preconditions$1"), (7, u "SIOOBE_FORMATTER"), (0, u "Ljava/util/function/BiFunction;"), (0, .class_ 126), (0, u "jdk/internal/util/Preconditions$2"), (3, u "AIOOBE_FORMATTER"), (0, .class_ 132), (0, u "jdk/internal/util/Preconditions$3"), (3, u "IOOBE_FORMATTER"), (46, u "(IIILjava/util/function/BiFunction;)I")] 10

def k13m0 : Method := { name := "<init>", desc := "()V", sig := { parameters := [], returnType := none }, accessFlags := 1, code := none }
def k13c1 : Code := { maxStack := 4, maxLocals := 4, code := jdk_41_method_12_code, exceptionTable := #[], attributes := #[] }
def k13m1 : Method := { name := "checkFromToIndex", desc := "(IIILjava/util/function/BiFunction;)I", sig := { parameters := [.int, .int, .int, (.object "java/util/function/BiFunction")], returnType := some .int }, accessFlags := 9, code := some k13c1 }
/-- jdk/internal/util/Preconditions -/
def k13 : Class := { plain "jdk/internal/util/Preconditions" (some 0) with
  accessFlags := 33
  interfaces := #[]
  cf := some (fileOf pool13 24 #[.nestMembers #[55, 131, 125, 114]] #[{ accessFlags := 1, nameIndex := 5, descriptorIndex := 6, attributes := #[] }, { accessFlags := 9, nameIndex := 47, descriptorIndex := 183, attributes := #[] }] 33 2 #[] #[{ accessFlags := 25, nameIndex := 123, descriptorIndex := 124, attributes := #[] }, { accessFlags := 25, nameIndex := 130, descriptorIndex := 124, attributes := #[] }, { accessFlags := 25, nameIndex := 136, descriptorIndex := 124, attributes := #[] }])
  fields := #[{ name := "SIOOBE_FORMATTER", type := (.object "java/util/function/BiFunction"), accessFlags := 25, slot := 0, constantValue := 0 }, { name := "AIOOBE_FORMATTER", type := (.object "java/util/function/BiFunction"), accessFlags := 25, slot := 1, constantValue := 0 }, { name := "IOOBE_FORMATTER", type := (.object "java/util/function/BiFunction"), accessFlags := 25, slot := 2, constantValue := 0 }]
  methods := #[k13m0, k13m1]
  instanceTypes := #[]
  staticTypes := #[(.object "java/util/function/BiFunction"), (.object "java/util/function/BiFunction"), (.object "java/util/function/BiFunction")]
  resolved := Array.replicate 194 none
  statics := some 2 }

def pool14 : Array CpInfo := pool [(9, u "<init>"), (6, .class_ 18), (1, u "java/lang/Object"), (0, u "()V"), (1, .class_ 23), (1, u "jdk/internal/util/ArraysSupport"), (0, u "LOG2_ARRAY_LONG_INDEX_SCALE"), (0, u "I"), (2, u "U"), (0, u "Ljdk/internal/misc/Unsafe;"), (8, u "BIG_ENDIAN"), (0, u "Z"), (8, u "LOG2_BYTE_BIT_SIZE"), (4, u "LOG2_ARRAY_INT_INDEX_SCALE"), (54, u "JLA"), (0, u "Ljdk/internal/access/JavaLangAccess;"), (11, u "LOG2_ARRAY_BOOLEAN_INDEX_SCALE"), (9, u "LOG2_ARRAY_BYTE_INDEX_SCALE"), (5, u "LOG2_ARRAY_CHAR_INDEX_SCALE"), (5, u "LOG2_ARRAY_SHORT_INDEX_SCALE"), (18, u "LOG2_ARRAY_FLOAT_INDEX_SCALE"), (24, u "LOG2_ARRAY_DOUBLE_INDEX_SCALE"), (89, u "T_BOOLEAN"), (2, u "T_CHAR"), (1, u "T_FLOAT"), (1, u "T_DOUBLE"), (1, u "T_BYTE"), (1, u "T_SHORT"), (1, u "T_INT"), (1, u "T_LONG"), (1, u "SOFT_MAX_ARRAY_LENGTH")] 83

def k14m0 : Method := { name := "<init>", desc := "()V", sig := { parameters := [], returnType := none }, accessFlags := 2, code := none }
/-- jdk/internal/util/ArraysSupport -/
def k14 : Class := { plain "jdk/internal/util/ArraysSupport" (some 0) with
  accessFlags := 33
  interfaces := #[]
  cf := some (fileOf pool14 21 #[] #[{ accessFlags := 2, nameIndex := 9, descriptorIndex := 19, attributes := #[] }] 33 16 #[] #[{ accessFlags := 24, nameIndex := 28, descriptorIndex := 29, attributes := #[] }, { accessFlags := 26, nameIndex := 38, descriptorIndex := 39, attributes := #[] }, { accessFlags := 25, nameIndex := 121, descriptorIndex := 25, attributes := #[] }, { accessFlags := 25, nameIndex := 131, descriptorIndex := 25, attributes := #[] }, { accessFlags := 25, nameIndex := 137, descriptorIndex := 25, attributes := #[] }, { accessFlags := 25, nameIndex := 143, descriptorIndex := 25, attributes := #[] }, { accessFlags := 25, nameIndex := 53, descriptorIndex := 25, attributes := #[] }, { accessFlags := 25, nameIndex := 24, descriptorIndex := 25, attributes := #[] }, { accessFlags := 25, nameIndex := 162, descriptorIndex := 25, attributes := #[] }, { accessFlags := 25, nameIndex := 187, descriptorIndex := 25, attributes := #[] }, { accessFlags := 26, nameIndex := 48, descriptorIndex := 25, attributes := #[] }, { accessFlags := 25, nameIndex := 277, descriptorIndex := 25, attributes := #[] }, { accessFlags := 25, nameIndex := 280, descriptorIndex := 25, attributes := #[] }, { accessFlags := 25, nameIndex := 282, descriptorIndex := 25, attributes := #[] }, { accessFlags := 25, nameIndex := 284, descriptorIndex := 25, attributes := #[] }, { accessFlags := 25, nameIndex := 286, descriptorIndex := 25, attributes := #[] }, { accessFlags := 25, nameIndex := 288, descriptorIndex := 25, attributes := #[] }, { accessFlags := 25, nameIndex := 290, descriptorIndex := 25, attributes := #[] }, { accessFlags := 25, nameIndex := 292, descriptorIndex := 25, attributes := #[] }, { accessFlags := 26, nameIndex := 108, descriptorIndex := 109, attributes := #[] }, { accessFlags := 25, nameIndex := 294, descriptorIndex := 25, attributes := #[] }])
  fields := #[{ name := "U", type := (.object "jdk/internal/misc/Unsafe"), accessFlags := 24, slot := 0, constantValue := 0 }, { name := "BIG_ENDIAN", type := .boolean, accessFlags := 26, slot := 1, constantValue := 0 }, { name := "LOG2_ARRAY_BOOLEAN_INDEX_SCALE", type := .int, accessFlags := 25, slot := 2, constantValue := 0 }, { name := "LOG2_ARRAY_BYTE_INDEX_SCALE", type := .int, accessFlags := 25, slot := 3, constantValue := 0 }, { name := "LOG2_ARRAY_CHAR_INDEX_SCALE", type := .int, accessFlags := 25, slot := 4, constantValue := 0 }, { name := "LOG2_ARRAY_SHORT_INDEX_SCALE", type := .int, accessFlags := 25, slot := 5, constantValue := 0 }, { name := "LOG2_ARRAY_INT_INDEX_SCALE", type := .int, accessFlags := 25, slot := 6, constantValue := 0 }, { name := "LOG2_ARRAY_LONG_INDEX_SCALE", type := .int, accessFlags := 25, slot := 7, constantValue := 0 }, { name := "LOG2_ARRAY_FLOAT_INDEX_SCALE", type := .int, accessFlags := 25, slot := 8, constantValue := 0 }, { name := "LOG2_ARRAY_DOUBLE_INDEX_SCALE", type := .int, accessFlags := 25, slot := 9, constantValue := 0 }, { name := "LOG2_BYTE_BIT_SIZE", type := .int, accessFlags := 26, slot := 10, constantValue := 0 }, { name := "T_BOOLEAN", type := .int, accessFlags := 25, slot := 11, constantValue := 0 }, { name := "T_CHAR", type := .int, accessFlags := 25, slot := 12, constantValue := 0 }, { name := "T_FLOAT", type := .int, accessFlags := 25, slot := 13, constantValue := 0 }, { name := "T_DOUBLE", type := .int, accessFlags := 25, slot := 14, constantValue := 0 }, { name := "T_BYTE", type := .int, accessFlags := 25, slot := 15, constantValue := 0 }, { name := "T_SHORT", type := .int, accessFlags := 25, slot := 16, constantValue := 0 }, { name := "T_INT", type := .int, accessFlags := 25, slot := 17, constantValue := 0 }, { name := "T_LONG", type := .int, accessFlags := 25, slot := 18, constantValue := 0 }, { name := "JLA", type := (.object "jdk/internal/access/JavaLangAccess"), accessFlags := 26, slot := 19, constantValue := 0 }, { name := "SOFT_MAX_ARRAY_LENGTH", type := .int, accessFlags := 25, slot := 20, constantValue := 0 }]
  methods := #[k14m0]
  instanceTypes := #[]
  staticTypes := #[(.object "jdk/internal/misc/Unsafe"), .boolean, .int, .int, .int, .int, .int, .int, .int, .int, .int, .int, .int, .int, .int, .int, .int, .int, .int, (.object "jdk/internal/access/JavaLangAccess"), .int]
  resolved := Array.replicate 378 none
  statics := none }

def pool15 : Array CpInfo := pool [(1, u "java/lang/Cloneable"), (0, .class_ 1), (0, u "java/lang/Object"), (0, .class_ 3)] 3

/-- java/lang/Cloneable -/
def k15 : Class := { plain "java/lang/Cloneable" (some 0) with
  accessFlags := 1537
  interfaces := #[]
  cf := some (fileOf pool15 2 #[] #[] 1537 4 #[] #[])
  fields := #[]
  methods := #[]
  instanceTypes := #[]
  staticTypes := #[]
  resolved := Array.replicate 8 none
  statics := none }

/-- the primitive byte -/
def k16 : Class := { plain "byte" none with kind := .primitive 'B', accessFlags := 0x411 }
/-- [B -/
def k17 : Class := { plain "[B" (some 0) with kind := .array 16 .byte, interfaces := #[15, 2], accessFlags := 1041 }

/-- the primitive char -/
def k18 : Class := { plain "char" none with kind := .primitive 'C', accessFlags := 0x411 }
/-- [C -/
def k19 : Class := { plain "[C" (some 0) with kind := .array 18 .char, interfaces := #[15, 2], accessFlags := 1041 }

/-- the primitive int -/
def k20 : Class := { plain "int" none with kind := .primitive 'I', accessFlags := 0x411 }
/-- [I -/
def k21 : Class := { plain "[I" (some 0) with kind := .array 20 .int, interfaces := #[15, 2], accessFlags := 1041 }

def heap : Heap := #[{ cls := 7, slots := #[.long 0, .int 1, .null, .int 0, .null, .int 0, .int 0], vm := .statics 7 },
  { cls := 12, slots := #[.int 0, .int 8, .int 0, .int 1], vm := .statics 12 },
  { cls := 13, slots := #[.null, .null, .null], vm := .statics 13 }]
def classes : Array Class := #[k0, k1, k2, k3, k4, k5, k6, k7, k8, k9, k10, k11, k12, k13, k14, k15, k16, k17, k18, k19, k20, k21]
def interned : List (Array UInt16 × Addr) := []
def slotsUsed : Nat := 14
def theMethod : MethodId := ⟨1, 2⟩
def args0 : Array Value := #[.int 5, .int 6, .int 7, .int 9]
def aboutOver (below : List Frame) : State where
  vm := { classes := classes, interned := interned.toArray }
  heap := heap
  slotsUsed := slotsUsed
  threads := #[{ frames := .invoking theMethod args0 :: below }]
def below0 : List Frame := [.native { method := ⟨0, 0⟩, args := #[] }]
def about1 : State := aboutOver below0
def p0 : Program := .bare "" "" ""
def e0 : Env := launch0.env 0 0 0
theorem w_frames : about1.frames = Frame.invoking theMethod args0 :: below0 := rfl
set_option maxRecDepth 65536 in
theorem w_args : argsFit about1.vm theMethod args0 = true := by decide +kernel
set_option maxRecDepth 65536 in
theorem w_heap : heapFits about1 = true := by decide +kernel
set_option maxRecDepth 65536 in
theorem w_runnable : about1.curStatus? = some .runnable := by decide +kernel
set_option maxRecDepth 65536 in
theorem w_alone : about1.alone = true := by decide +kernel
set_option maxRecDepth 65536 in
theorem w_named : about1.methodNamed? x = some theMethod := by decide +kernel
set_option maxRecDepth 65536 in
theorem w_hears : about1.hears theMethod below0 = true := by decide +kernel
set_option maxRecDepth 65536 in
theorem w_ripe : about1.ripe theMethod args0 below0 = true := by decide +kernel
theorem w_running : about1.status = .running := rfl
set_option maxRecDepth 65536 in
theorem w_room : about1.hasRoom e0.platform room_1 = true :=
  launch0.hasRoom_least _ room_1 (by decide +kernel) (by decide +kernel) (by decide +kernel) (by decide +kernel) (by decide +kernel) (by decide +kernel)
theorem allAtoms_all (ts : List Jvm.Cond) (a : Array Jvm.Value) (st : Jvm.State) : (allAtoms ts).before a st = ts.all (fun c => c.before a st) := by
  induction ts with
  | nil => rfl
  | cons c t ih =>
    show (Jvm.Cond.and c (allAtoms t)).before a st = _
    rw [Jvm.Cond.before_and, ih, List.all_cons]
def words1 : List Jvm.Cond := Jvm.Cond.code x code maxLocals ret :: tables_1
/-- a 'code' word, met by the world's own term for the bytes: nothing is compared byte by byte -/
theorem code_word {y : MethodName} {bytes : ByteArray} {mx : Nat} {rt : Option FieldType} {a : Array Value} {s : State} {m : MethodId} {meth : Method} {c : Code} (h1 : s.methodNamed? y = some m) (h2 : s.vm.method? m = some meth) (h3 : meth.code = some c) (h4 : c.code = bytes)
    (h5 : (c.maxLocals == mx && c.exceptionTable.isEmpty && decide (c.maxStack ≤ mostOperands) && decide (meth.sig.returnType = rt) && !meth.locks && decide (parseMethodDescriptor y.desc = some meth.sig)) = true) : (Jvm.Cond.code y bytes mx rt).before a s = true := by
  simp only [Bool.and_eq_true, beq_iff_eq, Bool.not_eq_true', decide_eq_true_eq] at h5
  obtain ⟨⟨⟨⟨⟨g1, g2⟩, g3⟩, g4⟩, g5⟩, g6⟩ := h5
  simp [Cond.before, Cond.holds, Cond.value, h1, h2, h3, h4, g1, g2, g3, g4, g5, g6]
def isCode : Jvm.Cond → Bool
  | .code _ _ _ _ => true
  | _ => false
theorem all_split {L : List Jvm.Cond} {P : Jvm.Cond → Bool} (h1 : L.all (fun c => isCode c || P c) = true) (h2 : ∀ c ∈ L.filter isCode, P c = true) : L.all P = true := by
  refine List.all_eq_true.mpr fun c hc => ?_
  have h := List.all_eq_true.mp h1 c hc
  rcases Bool.eq_false_or_eq_true (isCode c) with hi | hi
  · exact h2 c (List.mem_filter.mpr ⟨hc, hi⟩)
  · simpa [hi] using h
set_option maxRecDepth 65536 in
theorem w_c0 : (Jvm.Cond.code x code maxLocals ret).before args0 about1 = true := code_word (m := ⟨1, 2⟩) (meth := k1m2) (c := k1c2) (by decide +kernel) rfl rfl rfl (by decide +kernel)
set_option maxRecDepth 65536 in
theorem w_c1 : (Jvm.Cond.code ({ cls := "com/example/vestibule/vestibule/BasicCredentialsCanCarryPinLaw", name := "pick", desc := "(I)C" } : Jvm.MethodName) method_2_code (1 : Nat) (Option.some Jvm.ClassFile.FieldType.char)).before args0 about1 = true := code_word (m := ⟨1, 1⟩) (meth := k1m1) (c := k1c1) (by decide +kernel) rfl rfl rfl (by decide +kernel)
set_option maxRecDepth 65536 in
theorem w_c2 : (Jvm.Cond.code ({ cls := "java/lang/String", name := "<init>", desc := "([C)V" } : Jvm.MethodName) jdk_42_method_3_code (2 : Nat) (Option.none : Option Jvm.ClassFile.FieldType)).before args0 about1 = true := code_word (m := ⟨7, 1⟩) (meth := k7m1) (c := k7c1) (by decide +kernel) rfl rfl rfl (by decide +kernel)
set_option maxRecDepth 65536 in
theorem w_c3 : (Jvm.Cond.code ({ cls := "java/lang/String", name := "<init>", desc := "([CIILjava/lang/Void;)V" } : Jvm.MethodName) jdk_42_method_149_code (6 : Nat) (Option.none : Option Jvm.ClassFile.FieldType)).before args0 about1 = true := code_word (m := ⟨7, 5⟩) (meth := k7m5) (c := k7c5) (by decide +kernel) rfl rfl rfl (by decide +kernel)
set_option maxRecDepth 65536 in
theorem w_c4 : (Jvm.Cond.code ({ cls := "java/lang/Object", name := "<init>", desc := "()V" } : Jvm.MethodName) object_method_1_code (1 : Nat) (Option.none : Option Jvm.ClassFile.FieldType)).before args0 about1 = true := code_word (m := ⟨0, 0⟩) (meth := k0m0) (c := k0c0) (by decide +kernel) rfl rfl rfl (by decide +kernel)
set_option maxRecDepth 65536 in
theorem w_c5 : (Jvm.Cond.code ({ cls := "com/example/vestibule/vestibule/BasicCredentials", name := "canCarry", desc := "(Ljava/lang/String;)Z" } : Jvm.MethodName) prog_1_method_3_code (1 : Nat) (Option.some Jvm.ClassFile.FieldType.boolean)).before args0 about1 = true := code_word (m := ⟨9, 0⟩) (meth := k9m0) (c := k9c0) (by decide +kernel) rfl rfl rfl (by decide +kernel)
set_option maxRecDepth 65536 in
theorem w_c6 : (Jvm.Cond.code ({ cls := "java/lang/String", name := "indexOf", desc := "(I)I" } : Jvm.MethodName) jdk_42_method_79_code (2 : Nat) (Option.some Jvm.ClassFile.FieldType.int)).before args0 about1 = true := code_word (m := ⟨7, 3⟩) (meth := k7m3) (c := k7c3) (by decide +kernel) rfl rfl rfl (by decide +kernel)
set_option maxRecDepth 65536 in
theorem w_c7 : (Jvm.Cond.code ({ cls := "java/lang/String", name := "indexOf", desc := "(II)I" } : Jvm.MethodName) jdk_42_method_80_code (3 : Nat) (Option.some Jvm.ClassFile.FieldType.int)).before args0 about1 = true := code_word (m := ⟨7, 4⟩) (meth := k7m4) (c := k7c4) (by decide +kernel) rfl rfl rfl (by decide +kernel)
set_option maxRecDepth 65536 in
theorem w_c8 : (Jvm.Cond.code ({ cls := "java/lang/String", name := "isLatin1", desc := "()Z" } : Jvm.MethodName) jdk_42_method_154_code (1 : Nat) (Option.some Jvm.ClassFile.FieldType.boolean)).before args0 about1 = true := code_word (m := ⟨7, 7⟩) (meth := k7m7) (c := k7c7) (by decide +kernel) rfl rfl rfl (by decide +kernel)
set_option maxRecDepth 65536 in
theorem w_c9 : (Jvm.Cond.code ({ cls := "java/lang/String", name := "length", desc := "()I" } : Jvm.MethodName) jdk_42_method_54_code (1 : Nat) (Option.some Jvm.ClassFile.FieldType.int)).before args0 about1 = true := code_word (m := ⟨7, 2⟩) (meth := k7m2) (c := k7c2) (by decide +kernel) rfl rfl rfl (by decide +kernel)
set_option maxRecDepth 65536 in
theorem w_c10 : (Jvm.Cond.code ({ cls := "java/lang/String", name := "coder", desc := "()B" } : Jvm.MethodName) jdk_42_method_152_code (1 : Nat) (Option.some Jvm.ClassFile.FieldType.byte)).before args0 about1 = true := code_word (m := ⟨7, 6⟩) (meth := k7m6) (c := k7c6) (by decide +kernel) rfl rfl rfl (by decide +kernel)
set_option maxRecDepth 65536 in
theorem w_c11 : (Jvm.Cond.code ({ cls := "java/lang/StringLatin1", name := "indexOf", desc := "([BIII)I" } : Jvm.MethodName) jdk_43_method_22_code (4 : Nat) (Option.some Jvm.ClassFile.FieldType.int)).before args0 about1 = true := code_word (m := ⟨10, 2⟩) (meth := k10m2) (c := k10c2) (by decide +kernel) rfl rfl rfl (by decide +kernel)
set_option maxRecDepth 65536 in
theorem w_c12 : (Jvm.Cond.code ({ cls := "java/lang/StringLatin1", name := "canEncode", desc := "(I)Z" } : Jvm.MethodName) jdk_43_method_4_code (1 : Nat) (Option.some Jvm.ClassFile.FieldType.boolean)).before args0 about1 = true := code_word (m := ⟨10, 1⟩) (meth := k10m1) (c := k10c1) (by decide +kernel) rfl rfl rfl (by decide +kernel)
set_option maxRecDepth 65536 in
theorem w_c13 : (Jvm.Cond.code ({ cls := "java/lang/Math", name := "max", desc := "(II)I" } : Jvm.MethodName) jdk_29_method_65_code (2 : Nat) (Option.some Jvm.ClassFile.FieldType.int)).before args0 about1 = true := code_word (m := ⟨11, 1⟩) (meth := k11m1) (c := k11c1) (by decide +kernel) rfl rfl rfl (by decide +kernel)
set_option maxRecDepth 65536 in
theorem w_c14 : (Jvm.Cond.code ({ cls := "java/lang/Math", name := "min", desc := "(II)I" } : Jvm.MethodName) jdk_29_method_69_code (2 : Nat) (Option.some Jvm.ClassFile.FieldType.int)).before args0 about1 = true := code_word (m := ⟨11, 2⟩) (meth := k11m2) (c := k11c2) (by decide +kernel) rfl rfl rfl (by decide +kernel)
set_option maxRecDepth 65536 in
theorem w_c15 : (Jvm.Cond.code ({ cls := "java/lang/StringUTF16", name := "compress", desc := "([CII)[B" } : Jvm.MethodName) jdk_52_method_16_code (6 : Nat) (Option.some (Jvm.ClassFile.FieldType.array Jvm.ClassFile.FieldType.byte))).before args0 about1 = true := code_word (m := ⟨12, 8⟩) (meth := k12m8) (c := k12c8) (by decide +kernel) rfl rfl rfl (by decide +kernel)
set_option maxRecDepth 65536 in
theorem w_c16 : (Jvm.Cond.code ({ cls := "java/lang/StringUTF16", name := "compress", desc := "([CI[BII)I" } : Jvm.MethodName) jdk_52_method_21_code (7 : Nat) (Option.some Jvm.ClassFile.FieldType.int)).before args0 about1 = true := code_word (m := ⟨12, 9⟩) (meth := k12m9) (c := k12c9) (by decide +kernel) rfl rfl rfl (by decide +kernel)
set_option maxRecDepth 65536 in
theorem w_c17 : (Jvm.Cond.code ({ cls := "java/lang/StringUTF16", name := "coderFromArrayLen", desc := "([BI)B" } : Jvm.MethodName) jdk_52_method_15_code (2 : Nat) (Option.some Jvm.ClassFile.FieldType.byte)).before args0 about1 = true := code_word (m := ⟨12, 7⟩) (meth := k12m7) (c := k12c7) (by decide +kernel) rfl rfl rfl (by decide +kernel)
set_option maxRecDepth 65536 in
theorem w_c18 : (Jvm.Cond.code ({ cls := "java/lang/StringLatin1", name := "indexOfChar", desc := "([BIII)I" } : Jvm.MethodName) jdk_43_method_23_code (6 : Nat) (Option.some Jvm.ClassFile.FieldType.int)).before args0 about1 = true := code_word (m := ⟨10, 3⟩) (meth := k10m3) (c := k10c3) (by decide +kernel) rfl rfl rfl (by decide +kernel)
set_option maxRecDepth 65536 in
theorem w_c19 : (Jvm.Cond.code ({ cls := "java/lang/StringUTF16", name := "toBytes", desc := "([CII)[B" } : Jvm.MethodName) jdk_52_method_14_code (5 : Nat) (Option.some (Jvm.ClassFile.FieldType.array Jvm.ClassFile.FieldType.byte))).before args0 about1 = true := code_word (m := ⟨12, 6⟩) (meth := k12m6) (c := k12c6) (by decide +kernel) rfl rfl rfl (by decide +kernel)
set_option maxRecDepth 65536 in
theorem w_c20 : (Jvm.Cond.code ({ cls := "java/lang/StringUTF16", name := "newBytesFor", desc := "(I)[B" } : Jvm.MethodName) jdk_52_method_2_code (1 : Nat) (Option.some (Jvm.ClassFile.FieldType.array Jvm.ClassFile.FieldType.byte))).before args0 about1 = true := code_word (m := ⟨12, 1⟩) (meth := k12m1) (c := k12c1) (by decide +kernel) rfl rfl rfl (by decide +kernel)
set_option maxRecDepth 65536 in
theorem w_c21 : (Jvm.Cond.code ({ cls := "java/lang/StringUTF16", name := "newBytesLength", desc := "(I)I" } : Jvm.MethodName) jdk_52_method_3_code (1 : Nat) (Option.some Jvm.ClassFile.FieldType.int)).before args0 about1 = true := code_word (m := ⟨12, 2⟩) (meth := k12m2) (c := k12c2) (by decide +kernel) rfl rfl rfl (by decide +kernel)
set_option maxRecDepth 65536 in
theorem w_c22 : (Jvm.Cond.code ({ cls := "java/lang/StringUTF16", name := "putChar", desc := "([BII)V" } : Jvm.MethodName) jdk_52_method_4_code (3 : Nat) (Option.none : Option Jvm.ClassFile.FieldType)).before args0 about1 = true := code_word (m := ⟨12, 3⟩) (meth := k12m3) (c := k12c3) (by decide +kernel) rfl rfl rfl (by decide +kernel)
set_option maxRecDepth 65536 in
theorem w_c23 : (Jvm.Cond.code ({ cls := "java/lang/StringUTF16", name := "getChar", desc := "([BI)C" } : Jvm.MethodName) jdk_52_method_5_code (2 : Nat) (Option.some Jvm.ClassFile.FieldType.char)).before args0 about1 = true := code_word (m := ⟨12, 4⟩) (meth := k12m4) (c := k12c4) (by decide +kernel) rfl rfl rfl (by decide +kernel)
set_option maxRecDepth 65536 in
theorem w_c24 : (Jvm.Cond.code ({ cls := "java/lang/StringUTF16", name := "indexOf", desc := "([BIII)I" } : Jvm.MethodName) jdk_52_method_40_code (4 : Nat) (Option.some Jvm.ClassFile.FieldType.int)).before args0 about1 = true := code_word (m := ⟨12, 10⟩) (meth := k12m10) (c := k12c10) (by decide +kernel) rfl rfl rfl (by decide +kernel)
set_option maxRecDepth 65536 in
theorem w_c25 : (Jvm.Cond.code ({ cls := "java/lang/StringUTF16", name := "indexOfChar", desc := "([BIII)I" } : Jvm.MethodName) jdk_52_method_47_code (4 : Nat) (Option.some Jvm.ClassFile.FieldType.int)).before args0 about1 = true := code_word (m := ⟨12, 11⟩) (meth := k12m11) (c := k12c11) (by decide +kernel) rfl rfl rfl (by decide +kernel)
set_option maxRecDepth 65536 in
theorem w_c26 : (Jvm.Cond.code ({ cls := "java/lang/StringUTF16", name := "checkBoundsBeginEnd", desc := "(II[B)V" } : Jvm.MethodName) jdk_52_method_93_code (3 : Nat) (Option.none : Option Jvm.ClassFile.FieldType)).before args0 about1 = true := code_word (m := ⟨12, 13⟩) (meth := k12m13) (c := k12c13) (by decide +kernel) rfl rfl rfl (by decide +kernel)
set_option maxRecDepth 65536 in
theorem w_c27 : (Jvm.Cond.code ({ cls := "java/lang/StringUTF16", name := "length", desc := "([B)I" } : Jvm.MethodName) jdk_52_method_6_code (1 : Nat) (Option.some Jvm.ClassFile.FieldType.int)).before args0 about1 = true := code_word (m := ⟨12, 5⟩) (meth := k12m5) (c := k12c5) (by decide +kernel) rfl rfl rfl (by decide +kernel)
set_option maxRecDepth 65536 in
theorem w_c28 : (Jvm.Cond.code ({ cls := "java/lang/String", name := "checkBoundsBeginEnd", desc := "(III)V" } : Jvm.MethodName) jdk_42_method_158_code (3 : Nat) (Option.none : Option Jvm.ClassFile.FieldType)).before args0 about1 = true := code_word (m := ⟨7, 8⟩) (meth := k7m8) (c := k7c8) (by decide +kernel) rfl rfl rfl (by decide +kernel)
set_option maxRecDepth 65536 in
theorem w_c29 : (Jvm.Cond.code ({ cls := "jdk/internal/util/Preconditions", name := "checkFromToIndex", desc := "(IIILjava/util/function/BiFunction;)I" } : Jvm.MethodName) jdk_41_method_12_code (4 : Nat) (Option.some Jvm.ClassFile.FieldType.int)).before args0 about1 = true := code_word (m := ⟨13, 1⟩) (meth := k13m1) (c := k13c1) (by decide +kernel) rfl rfl rfl (by decide +kernel)
set_option maxRecDepth 65536 in
theorem w_c30 : (Jvm.Cond.code ({ cls := "java/lang/StringUTF16", name := "indexOfCharUnsafe", desc := "([BIII)I" } : Jvm.MethodName) jdk_52_method_48_code (5 : Nat) (Option.some Jvm.ClassFile.FieldType.int)).before args0 about1 = true := code_word (m := ⟨12, 12⟩) (meth := k12m12) (c := k12c12) (by decide +kernel) rfl rfl rfl (by decide +kernel)
def codes1 : List Jvm.Cond := [Jvm.Cond.code x code maxLocals ret, Jvm.Cond.code ({ cls := "com/example/vestibule/vestibule/BasicCredentialsCanCarryPinLaw", name := "pick", desc := "(I)C" } : Jvm.MethodName) method_2_code (1 : Nat) (Option.some Jvm.ClassFile.FieldType.char), Jvm.Cond.code ({ cls := "java/lang/String", name := "<init>", desc := "([C)V" } : Jvm.MethodName) jdk_42_method_3_code (2 : Nat) (Option.none : Option Jvm.ClassFile.FieldType), Jvm.Cond.code ({ cls := "java/lang/String", name := "<init>", desc := "([CIILjava/lang/Void;)V" } : Jvm.MethodName) jdk_42_method_149_code (6 : Nat) (Option.none : Option Jvm.ClassFile.FieldType), Jvm.Cond.code ({ cls := "java/lang/Object", name := "<init>", desc := "()V" } : Jvm.MethodName) object_method_1_code (1 : Nat) (Option.none : Option Jvm.ClassFile.FieldType), Jvm.Cond.code ({ cls := "com/example/vestibule/vestibule/BasicCredentials", name := "canCarry", desc := "(Ljava/lang/String;)Z" } : Jvm.MethodName) prog_1_method_3_code (1 : Nat) (Option.some Jvm.ClassFile.FieldType.boolean), Jvm.Cond.code ({ cls := "java/lang/String", name := "indexOf", desc := "(I)I" } : Jvm.MethodName) jdk_42_method_79_code (2 : Nat) (Option.some Jvm.ClassFile.FieldType.int), Jvm.Cond.code ({ cls := "java/lang/String", name := "indexOf", desc := "(II)I" } : Jvm.MethodName) jdk_42_method_80_code (3 : Nat) (Option.some Jvm.ClassFile.FieldType.int), Jvm.Cond.code ({ cls := "java/lang/String", name := "isLatin1", desc := "()Z" } : Jvm.MethodName) jdk_42_method_154_code (1 : Nat) (Option.some Jvm.ClassFile.FieldType.boolean), Jvm.Cond.code ({ cls := "java/lang/String", name := "length", desc := "()I" } : Jvm.MethodName) jdk_42_method_54_code (1 : Nat) (Option.some Jvm.ClassFile.FieldType.int), Jvm.Cond.code ({ cls := "java/lang/String", name := "coder", desc := "()B" } : Jvm.MethodName) jdk_42_method_152_code (1 : Nat) (Option.some Jvm.ClassFile.FieldType.byte), Jvm.Cond.code ({ cls := "java/lang/StringLatin1", name := "indexOf", desc := "([BIII)I" } : Jvm.MethodName) jdk_43_method_22_code (4 : Nat) (Option.some Jvm.ClassFile.FieldType.int), Jvm.Cond.code ({ cls := "java/lang/StringLatin1", name := "canEncode", desc := "(I)Z" } : Jvm.MethodName) jdk_43_method_4_code (1 : Nat) (Option.some Jvm.ClassFile.FieldType.boolean), Jvm.Cond.code ({ cls := "java/lang/Math", name := "max", desc := "(II)I" } : Jvm.MethodName) jdk_29_method_65_code (2 : Nat) (Option.some Jvm.ClassFile.FieldType.int), Jvm.Cond.code ({ cls := "java/lang/Math", name := "min", desc := "(II)I" } : Jvm.MethodName) jdk_29_method_69_code (2 : Nat) (Option.some Jvm.ClassFile.FieldType.int), Jvm.Cond.code ({ cls := "java/lang/StringUTF16", name := "compress", desc := "([CII)[B" } : Jvm.MethodName) jdk_52_method_16_code (6 : Nat) (Option.some (Jvm.ClassFile.FieldType.array Jvm.ClassFile.FieldType.byte)), Jvm.Cond.code ({ cls := "java/lang/StringUTF16", name := "compress", desc := "([CI[BII)I" } : Jvm.MethodName) jdk_52_method_21_code (7 : Nat) (Option.some Jvm.ClassFile.FieldType.int), Jvm.Cond.code ({ cls := "java/lang/StringUTF16", name := "coderFromArrayLen", desc := "([BI)B" } : Jvm.MethodName) jdk_52_method_15_code (2 : Nat) (Option.some Jvm.ClassFile.FieldType.byte), Jvm.Cond.code ({ cls := "java/lang/StringLatin1", name := "indexOfChar", desc := "([BIII)I" } : Jvm.MethodName) jdk_43_method_23_code (6 : Nat) (Option.some Jvm.ClassFile.FieldType.int), Jvm.Cond.code ({ cls := "java/lang/StringUTF16", name := "toBytes", desc := "([CII)[B" } : Jvm.MethodName) jdk_52_method_14_code (5 : Nat) (Option.some (Jvm.ClassFile.FieldType.array Jvm.ClassFile.FieldType.byte)), Jvm.Cond.code ({ cls := "java/lang/StringUTF16", name := "newBytesFor", desc := "(I)[B" } : Jvm.MethodName) jdk_52_method_2_code (1 : Nat) (Option.some (Jvm.ClassFile.FieldType.array Jvm.ClassFile.FieldType.byte)), Jvm.Cond.code ({ cls := "java/lang/StringUTF16", name := "newBytesLength", desc := "(I)I" } : Jvm.MethodName) jdk_52_method_3_code (1 : Nat) (Option.some Jvm.ClassFile.FieldType.int), Jvm.Cond.code ({ cls := "java/lang/StringUTF16", name := "putChar", desc := "([BII)V" } : Jvm.MethodName) jdk_52_method_4_code (3 : Nat) (Option.none : Option Jvm.ClassFile.FieldType), Jvm.Cond.code ({ cls := "java/lang/StringUTF16", name := "getChar", desc := "([BI)C" } : Jvm.MethodName) jdk_52_method_5_code (2 : Nat) (Option.some Jvm.ClassFile.FieldType.char), Jvm.Cond.code ({ cls := "java/lang/StringUTF16", name := "indexOf", desc := "([BIII)I" } : Jvm.MethodName) jdk_52_method_40_code (4 : Nat) (Option.some Jvm.ClassFile.FieldType.int), Jvm.Cond.code ({ cls := "java/lang/StringUTF16", name := "indexOfChar", desc := "([BIII)I" } : Jvm.MethodName) jdk_52_method_47_code (4 : Nat) (Option.some Jvm.ClassFile.FieldType.int), Jvm.Cond.code ({ cls := "java/lang/StringUTF16", name := "checkBoundsBeginEnd", desc := "(II[B)V" } : Jvm.MethodName) jdk_52_method_93_code (3 : Nat) (Option.none : Option Jvm.ClassFile.FieldType), Jvm.Cond.code ({ cls := "java/lang/StringUTF16", name := "length", desc := "([B)I" } : Jvm.MethodName) jdk_52_method_6_code (1 : Nat) (Option.some Jvm.ClassFile.FieldType.int), Jvm.Cond.code ({ cls := "java/lang/String", name := "checkBoundsBeginEnd", desc := "(III)V" } : Jvm.MethodName) jdk_42_method_158_code (3 : Nat) (Option.none : Option Jvm.ClassFile.FieldType), Jvm.Cond.code ({ cls := "jdk/internal/util/Preconditions", name := "checkFromToIndex", desc := "(IIILjava/util/function/BiFunction;)I" } : Jvm.MethodName) jdk_41_method_12_code (4 : Nat) (Option.some Jvm.ClassFile.FieldType.int), Jvm.Cond.code ({ cls := "java/lang/StringUTF16", name := "indexOfCharUnsafe", desc := "([BIII)I" } : Jvm.MethodName) jdk_52_method_48_code (5 : Nat) (Option.some Jvm.ClassFile.FieldType.int)]
set_option maxRecDepth 65536 in
theorem codes_eq : words1.filter isCode = codes1 := rfl
theorem w_codes : ∀ c ∈ words1.filter isCode, c.before args0 about1 = true := by
  rw [codes_eq]
  intro c hc
  simp only [codes1, List.mem_cons, List.not_mem_nil, or_false] at hc
  rcases hc with rfl | rfl | rfl | rfl | rfl | rfl | rfl | rfl | rfl | rfl | rfl | rfl | rfl | rfl | rfl | rfl | rfl | rfl | rfl | rfl | rfl | rfl | rfl | rfl | rfl | rfl | rfl | rfl | rfl | rfl | rfl
  · exact w_c0
  · exact w_c1
  · exact w_c2
  · exact w_c3
  · exact w_c4
  · exact w_c5
  · exact w_c6
  · exact w_c7
  · exact w_c8
  · exact w_c9
  · exact w_c10
  · exact w_c11
  · exact w_c12
  · exact w_c13
  · exact w_c14
  · exact w_c15
  · exact w_c16
  · exact w_c17
  · exact w_c18
  · exact w_c19
  · exact w_c20
  · exact w_c21
  · exact w_c22
  · exact w_c23
  · exact w_c24
  · exact w_c25
  · exact w_c26
  · exact w_c27
  · exact w_c28
  · exact w_c29
  · exact w_c30
set_option maxRecDepth 65536 in
theorem w_t1 : (words1.take 24).all (fun c => isCode c || c.before args0 about1) = true := by decide +kernel
set_option maxRecDepth 65536 in
theorem w_t2 : ((words1.drop 24).take 24).all (fun c => isCode c || c.before args0 about1) = true := by decide +kernel
set_option maxRecDepth 65536 in
theorem w_t3 : (((words1.drop 24).drop 24).take 24).all (fun c => isCode c || c.before args0 about1) = true := by decide +kernel
set_option maxRecDepth 65536 in
theorem w_t4 : ((((words1.drop 24).drop 24).drop 24).take 24).all (fun c => isCode c || c.before args0 about1) = true := by decide +kernel
set_option maxRecDepth 65536 in
theorem w_t5 : (((((words1.drop 24).drop 24).drop 24).drop 24).take 24).all (fun c => isCode c || c.before args0 about1) = true := by decide +kernel
set_option maxRecDepth 65536 in
theorem w_t6 : (((((words1.drop 24).drop 24).drop 24).drop 24).drop 24).all (fun c => isCode c || c.before args0 about1) = true := by decide +kernel
theorem w_tables : (allAtoms (Jvm.Cond.code x code maxLocals ret :: tables_1)).before args0 about1 = true := by
  rw [allAtoms_all]
  show words1.all (fun c => c.before args0 about1) = true
  refine all_split ?_ w_codes
  rw [← List.take_append_drop 24 words1, List.all_append, w_t1, ← List.take_append_drop 24 (words1.drop 24), List.all_append, w_t2, ← List.take_append_drop 24 ((words1.drop 24).drop 24), List.all_append, w_t3, ← List.take_append_drop 24 (((words1.drop 24).drop 24).drop 24), List.all_append, w_t4, ← List.take_append_drop 24 ((((words1.drop 24).drop 24).drop 24).drop 24), List.all_append, w_t5, w_t6]
  rfl
set_option maxRecDepth 65536 in
theorem w_rest : rest_1_c.before args0 about1 = true := by decide +kernel
set_option maxRecDepth 65536 in
theorem w_case : (Jvm.Cond.and given_1 narrow_1).before args0 about1 = true := by decide +kernel
set_option maxRecDepth 65536 in
theorem w_consts : constsHeld consts_1 about1 := Jvm.Lit.constsHeldB_iff.mp (by decide +kernel)
theorem w_applies : (headSpec (Jvm.Cond.code x code maxLocals ret :: tables_1) room_1).applies x e0.platform about1 = true :=
  (Spec.applies_iff w_frames).mpr ⟨w_running, w_runnable, w_alone, w_named, w_hears, w_ripe, w_room, w_tables⟩
theorem atStart : AtStart classFile x code maxLocals ret World_1 tables_1 room_1 Calls_1 rest_1 Pre_1 launch0 p0 e0 about1 theMethod args0 below0 :=
  ⟨lists_1, trivial, launch0.admits_env _ _ _, launch0.least_env, fairChoices_fair.cas, fairChoices_fair.clock, w_frames, w_args, w_heap, w_applies, ⟨w_consts, trivial⟩, w_rest, w_case⟩
end start1
theorem witness_1 : WitnessClaimed_1 := ⟨start1.p0, start1.e0, start1.about1, start1.theMethod, start1.args0, start1.below0, start1.atStart⟩
end Jvm.Pilot.@@N@@
